import JvmDerived
import JvmDerived.Pilot.@@N@@Statement
import JvmDerived.Pilot.@@N@@Code
set_option linter.unusedVariables false
set_option linter.unusedSimpArgs false
namespace Jvm.RoadKit
open Sem ClassFile Op Lib Jvm.Stand Jvm.Free Jvm.LawKit
/-- from T the run comes to a state of which Φ holds -/
def own_R (tb : Tables) (e : Env) (below : List Frame) (Φ : State → Prop) (T : State) : Prop := ∃ T', Φ T' ∧ ∀ t, Steps tb e below T' t → Steps tb e below T t
theorem own_leaf {tb : Tables} {e : Env} {below : List Frame} {Φ : State → Prop} {T : State} (h : Φ T) : own_R tb e below Φ T := ⟨T, h, fun _ k => k⟩
theorem own_go {tb : Tables} {e : Env} {below : List Frame} {Φ : State → Prop} {T T1 : State} (h : ∀ t, Steps tb e below T1 t → Steps tb e below T t) (g : own_R tb e below Φ T1) : own_R tb e below Φ T := by
  obtain ⟨T', h1, h2⟩ := g
  exact ⟨T', h1, fun t k => h t (h2 t k)⟩
theorem own_to {tb : Tables} {e : Env} {below : List Frame} {Φ Ψ : State → Prop} {T : State} (h : own_R tb e below Φ T) (g : ∀ U, Φ U → own_R tb e below Ψ U) : own_R tb e below Ψ T := by
  obtain ⟨T', h1, h2⟩ := h
  exact own_go h2 (g T' h1)
/-- the call has come to its end: what it returns and leaves -/
def own_F (below : List Frame) (s : State) (Q : Option Value → Heap → List Loc → Prop) (rc rs : Nat) (U : State) : Prop := U.status = .running ∧ ∃ v L, Ended U below (.returned v) ∧ Q v U.heap L ∧ FrameEnd s (.returned v) U L rc rs
theorem own_fin {tb : Tables} {e : Env} {below : List Frame} {s : State} {Q : Option Value → Heap → List Loc → Prop} {rc rs : Nat} {T : State} (h : own_R tb e below (own_F below s Q rc rs) T) :
    ∃ s₂ o, Steps tb e below T s₂ ∧ s₂.status = .running ∧ Ended s₂ below o ∧ ∃ v L, o = .returned v ∧ Q v s₂.heap L ∧ FrameEnd s o s₂ L rc rs := by
  obtain ⟨T', ⟨h1, v, L, h2, h3, h4⟩, h5⟩ := h
  exact ⟨T', .returned v, h5 _ (Steps.refl _), h1, h2, v, L, rfl, h3, h4⟩
section New
variable {p : Program} {l : Launch} {e : Env} {R : Room} {s : State} {m : MethodId} {args : Array Value} {below : List Frame} {meth : Method} {c : Code} {T : State} {locs : List Loc} {cells slots : Nat}
theorem retI (X : Stand p l e R s m args below meth c T locs cells slots) (hx : p.tables.exec = Jvm.exec) {pc : Nat} {Ls : Array Slot} {z : Int32} {rest : List Value} (hret : meth.sig.returnType = some .int) (hd : decode c.code pc = .ok (.ireturn, 1)) {fs : List Frame}
    (hl : ∀ (f : JFrame) (acts : List Action), f.method = m → f.locked = none → f.entered = [] → (doReturn e (T.setTop f) acts (some (.int z))).1 = T.setFrames fs) : Steps p.tables e below (T.setTop (mkF m pc Ls (.int z :: rest))) (T.setFrames fs) := by
  have hm' : T.vm.method? m = some meth := X.method'
  have hn : narrow .int (.int z) = .int z := rfl
  show Steps p.tables e below (T.setTop { method := m, pc := pc, locals := Ls, stack := _ :: rest, locked := none }) _
  jvm_step X.here [X.here.top, hx, hd, hm', hret, hn]
  first | (intro acts; rw [hl _ acts rfl rfl rfl]) | rw [hl _ _ rfl rfl rfl]
  exact Steps.refl _
variable {Q : Option Value → Heap → List Loc → Prop} {rc rs : Nat}
theorem own_end (X : Stand p l e R s m args below meth c T locs cells slots) (hlk : meth.locks = false) {v : Option Value} (hv : meth.sig.returnType = none → v = none) (hQ : Q v T.heap locs) (hc : cells ≤ rc) (hs : slots ≤ rs) {g : JFrame}
    (hst : ∀ fs, (∀ (f : JFrame) (acts : List Action), f.method = m → f.locked = none → f.entered = [] → (doReturn e (T.setTop f) acts v).1 = T.setFrames fs) → Steps p.tables e below (T.setTop g) (T.setFrames fs)) : own_R p.tables e below (own_F below s Q rc rs) (T.setTop g) := by
  obtain ⟨fs, hr, hrun, hended, hW, hsame⟩ := X.leave hv hlk
  exact ⟨T.setFrames fs, ⟨hrun, v, locs, hended, hQ, ⟨_, rfl⟩, hW, hsame.mono hc hs⟩, fun t k => (hst fs hr).trans k⟩
theorem own_ret0 (X : Stand p l e R s m args below meth c T locs cells slots) (hx : p.tables.exec = Jvm.exec) {pc : Nat} {Ls : Array Slot} (hret : meth.sig.returnType = none) (hd : decode c.code pc = .ok (.return_, 1)) (hlk : meth.locks = false) (hQ : Q none T.heap locs) (hc : cells ≤ rc) (hs : slots ≤ rs) :
    own_R p.tables e below (own_F below s Q rc rs) (T.setTop (mkF m pc Ls [])) := own_end X hlk (fun _ => rfl) hQ hc hs fun _ hr => X.returnOut hx hret hd hr
theorem own_retI (X : Stand p l e R s m args below meth c T locs cells slots) (hx : p.tables.exec = Jvm.exec) {pc : Nat} {Ls : Array Slot} {z : Int32} {rest : List Value} (hret : meth.sig.returnType = some .int) (hd : decode c.code pc = .ok (.ireturn, 1)) (hlk : meth.locks = false) (hQ : Q (some (.int z)) T.heap locs) (hc : cells ≤ rc) (hs : slots ≤ rs) :
    own_R p.tables e below (own_F below s Q rc rs) (T.setTop (mkF m pc Ls (.int z :: rest))) := own_end X hlk (fun h => by rw [hret] at h; cases h) hQ hc hs fun _ hr => retI X hx hret hd hr
theorem own_retN (X : Stand p l e R s m args below meth c T locs cells slots) (hx : p.tables.exec = Jvm.exec) {t : FieldType} (ht : t = .boolean ∨ t = .byte ∨ t = .char ∨ t = .short) {pc : Nat} {Ls : Array Slot} {z : Int32} {rest : List Value} (hret : meth.sig.returnType = some t) (hd : decode c.code pc = .ok (.ireturn, 1)) (hlk : meth.locks = false) (hQ : Q (some (.int (nar t z))) T.heap locs) (hc : cells ≤ rc) (hs : slots ≤ rs) :
    own_R p.tables e below (own_F below s Q rc rs) (T.setTop (mkF m pc Ls (.int z :: rest))) := own_end X hlk (fun h => by rw [hret] at h; cases h) hQ hc hs fun _ hr => retN X hx hret ht hd hr
theorem own_retL (X : Stand p l e R s m args below meth c T locs cells slots) (hx : p.tables.exec = Jvm.exec) {pc : Nat} {Ls : Array Slot} {z : Int64} {rest : List Value} (hret : meth.sig.returnType = some .long) (hd : decode c.code pc = .ok (.lreturn, 1)) (hlk : meth.locks = false) (hQ : Q (some (.long z)) T.heap locs) (hc : cells ≤ rc) (hs : slots ≤ rs) :
    own_R p.tables e below (own_F below s Q rc rs) (T.setTop (mkF m pc Ls (.long z :: rest))) := own_end X hlk (fun h => by rw [hret] at h; cases h) hQ hc hs fun _ hr => retOut X hx hret rfl (Or.inr (Or.inl ⟨rfl, rfl, z, rfl⟩)) hd hr
theorem own_retA (X : Stand p l e R s m args below meth c T locs cells slots) (hx : p.tables.exec = Jvm.exec) {t : FieldType} {pc : Nat} {Ls : Array Slot} {w : Value} {rest : List Value} (ht : t.isReference = true) (hw : w.isRef = true) (hret : meth.sig.returnType = some t) (hd : decode c.code pc = .ok (.areturn, 1)) (hlk : meth.locks = false) (hQ : Q (some w) T.heap locs) (hc : cells ≤ rc) (hs : slots ≤ rs) :
    own_R p.tables e below (own_F below s Q rc rs) (T.setTop (mkF m pc Ls (w :: rest))) := own_end X hlk (fun h => by rw [hret] at h; cases h) hQ hc hs fun _ hr => retOut X hx hret (by cases t <;> first | rfl | cases ht) (Or.inr (Or.inr (Or.inr (Or.inr ⟨rfl, ht, hw⟩)))) hd hr
variable {Z : State} {h : Heap} {a : Addr} {k : ClassId} {n : Int32} {vs : List Value} {dv : Value}
theorem own_len (X : Stand p l e R s m args below meth c T locs cells slots) (hx : p.tables.exec = Jvm.exec) (hZ : Z.Warmed39 s.vm) (eT : T.heap = h) {ty : FieldType} (V : Arv Z h a k ty n vs dv) {g : JFrame} (hg : g.method = m) {rest : List Value} (hs : g.stack = .ref a :: rest) (hd : decode c.code g.pc = .ok (.arraylength, 1)) :
    ∀ target, Steps p.tables e below (T.setTop { g with pc := g.pc + 1, stack := .int n :: rest }) target → Steps p.tables e below (T.setTop g) target := by
  obtain ⟨cl, A, -, S, N, -, -⟩ := V
  intro t kt
  refine X.arraylength hx (by rw [eT]; exact A.1) (State.isArrayOf_alike hZ.alike A.2.1) hg hs hd t ?_
  rw [len_of S N]; exact kt
theorem own_ldI (X : Stand p l e R s m args below meth c T locs cells slots) (hx : p.tables.exec = Jvm.exec) (hZ : Z.Warmed39 s.vm) (eT : T.heap = h) (V : Arv Z h a k .int n vs dv) {j : Int32} {i : Nat} (hj : ¬ j < 0 ∧ j < n) (hi : j.toNatClampNeg = i) {v : Value} (hv : vs.getD i dv = v) {g : JFrame} (hg : g.method = m) {rest : List Value} (hs : g.stack = .int j :: .ref a :: rest) (hd : decode c.code g.pc = .ok (.iaload, 1)) :
    ∀ target, Steps p.tables e below (T.setTop { g with pc := g.pc + 1, stack := v :: rest }) target → Steps p.tables e below (T.setTop g) target := by
  obtain ⟨cl, A, -, S, N, H, -⟩ := V
  subst hi
  intro t kt
  exact X.iaload hx (by rw [eT]; exact A.1) (State.isArrayOf_alike hZ.alike A.2.1) A.2.2 (inb_of S hj) (H.at (inb_of S hj) hv) hg hs hd t kt
theorem own_ldJ (X : Stand p l e R s m args below meth c T locs cells slots) (hx : p.tables.exec = Jvm.exec) (hZ : Z.Warmed39 s.vm) (eT : T.heap = h) (V : Arv Z h a k .long n vs dv) {j : Int32} {i : Nat} (hj : ¬ j < 0 ∧ j < n) (hi : j.toNatClampNeg = i) {v : Value} (hv : vs.getD i dv = v) {g : JFrame} (hg : g.method = m) {rest : List Value} (hs : g.stack = .int j :: .ref a :: rest) (hd : decode c.code g.pc = .ok (.laload, 1)) :
    ∀ target, Steps p.tables e below (T.setTop { g with pc := g.pc + 1, stack := v :: rest }) target → Steps p.tables e below (T.setTop g) target := by
  obtain ⟨cl, A, -, S, N, H, -⟩ := V
  subst hi
  intro t kt
  exact X.laload hx (by rw [eT]; exact A.1) (State.isArrayOf_alike hZ.alike A.2.1) A.2.2 (inb_of S hj) (H.at (inb_of S hj) hv) hg hs hd t kt
theorem own_ldB (X : Stand p l e R s m args below meth c T locs cells slots) (hx : p.tables.exec = Jvm.exec) (hZ : Z.Warmed39 s.vm) (eT : T.heap = h) (V : Arv Z h a k .byte n vs dv) {j : Int32} {i : Nat} (hj : ¬ j < 0 ∧ j < n) (hi : j.toNatClampNeg = i) {v : Value} (hv : vs.getD i dv = v) {g : JFrame} (hg : g.method = m) {rest : List Value} (hs : g.stack = .int j :: .ref a :: rest) (hd : decode c.code g.pc = .ok (.baload, 1)) :
    ∀ target, Steps p.tables e below (T.setTop { g with pc := g.pc + 1, stack := v :: rest }) target → Steps p.tables e below (T.setTop g) target := by
  obtain ⟨cl, A, -, S, N, H, -⟩ := V
  subst hi
  intro t kt
  exact X.baloadBytes hx (by rw [eT]; exact A.1) (State.isArrayOf_alike hZ.alike A.2.1) A.2.2 (inb_of S hj) (H.at (inb_of S hj) hv) hg hs hd t kt
theorem own_stI (X : Stand p l e R s m args below meth c T locs cells slots) (hx : p.tables.exec = Jvm.exec) (hZ : Z.Warmed39 s.vm) (eT : T.heap = h) (V : Arv Z h a k .int n vs dv) {j : Int32} {i : Nat} (hj : ¬ j < 0 ∧ j < n) (hi : j.toNatClampNeg = i) (hlen : i < vs.length) {x : Int32} {w : Value} (hw : w = .int x) {g : JFrame} (hg : g.method = m) {rest : List Value} (hs : g.stack = .int x :: .int j :: .ref a :: rest) (hd : decode c.code g.pc = .ok (.iastore, 1)) :
    ∃ T' h' sl, Stand p l e R s m args below meth c T' (locs ++ [⟨a, sl⟩]) cells slots ∧ T'.heap = h' ∧ Wr h h' a sl w ∧ Arv Z h' a k .int n (vs.set i w) dv ∧ ∀ target, Steps p.tables e below (T'.setTop { g with pc := g.pc + 1, stack := rest }) target → Steps p.tables e below (T.setTop g) target := by
  obtain ⟨cl, A, q1, S, N, H, G⟩ := V
  subst hw
  obtain ⟨T', h', X', e', W', st⟩ := stI X hx hZ eT A (j := j) (inb_of S hj) hg hs hd
  exact ⟨T', h', _, X', e', W', Arv.set A q1 S N H G rfl W' i hi hlen, st⟩
theorem own_stJ (X : Stand p l e R s m args below meth c T locs cells slots) (hx : p.tables.exec = Jvm.exec) (hZ : Z.Warmed39 s.vm) (eT : T.heap = h) (V : Arv Z h a k .long n vs dv) {j : Int32} {i : Nat} (hj : ¬ j < 0 ∧ j < n) (hi : j.toNatClampNeg = i) (hlen : i < vs.length) {x : Int64} {w : Value} (hw : w = .long x) {g : JFrame} (hg : g.method = m) {rest : List Value} (hs : g.stack = .long x :: .int j :: .ref a :: rest) (hd : decode c.code g.pc = .ok (.lastore, 1)) :
    ∃ T' h' sl, Stand p l e R s m args below meth c T' (locs ++ [⟨a, sl⟩]) cells slots ∧ T'.heap = h' ∧ Wr h h' a sl w ∧ Arv Z h' a k .long n (vs.set i w) dv ∧ ∀ target, Steps p.tables e below (T'.setTop { g with pc := g.pc + 1, stack := rest }) target → Steps p.tables e below (T.setTop g) target := by
  obtain ⟨cl, A, q1, S, N, H, G⟩ := V
  subst hw
  obtain ⟨T', h', X', e', W', st⟩ := stJ X hx hZ eT A (j := j) (inb_of S hj) hg hs hd
  exact ⟨T', h', _, X', e', W', Arv.set A q1 S N H G rfl W' i hi hlen, st⟩
end New
end Jvm.RoadKit
namespace Jvm.Pilot.@@N@@
open Jvm Jvm.ClassFile Sem Op Lib Jvm.Free Jvm.Stand Jvm.LawKit Jvm.RoadKit Bundle Jvm.Pilot.@@N@@.Jvm.D
theorem pd_0 : parseMethodDescriptor "()V" = some ⟨[], none⟩ := by decide +kernel
theorem pd_1 : parseMethodDescriptor "()J" = some ⟨[], some .long⟩ := by decide +kernel
theorem pd_2 : parseMethodDescriptor "()Z" = some ⟨[], some .boolean⟩ := by decide +kernel
theorem pd_3 : parseMethodDescriptor "(JJ)V" = some ⟨[.long, .long], none⟩ := by decide +kernel

theorem own_lc0 {x y : Int64} (h : x = y) : lcmpW x y = 0 := by subst h; simp [lcmpW]
theorem d1_0 : decode prog_18_method_1_code 0 = .ok (.aload_n 0, 1) := by decide +kernel
theorem d1_1 : decode prog_18_method_1_code 1 = .ok (.invokespecial 3, 3) := by decide +kernel
theorem d1_4 : decode prog_18_method_1_code 4 = .ok (.return_, 1) := by decide +kernel
theorem pn_1 : plainName "com/example/strict_pattern/strictpattern/regex/CodePointSet$Builder" = true := by first | (simp [plainName, overriddenIn]; done) | decide +kernel
theorem ef_1 (m : MethodId) (x0 : Addr) : entryFrame m #[(.ref x0)] 1 = mkF m 0 #[.val (.ref x0)] [] := by first | (simp [entryFrame, mkF, argsToLocals, Value.category]; done) | rfl
def Q1 (Z : State) (a1 : Addr) (h0 : Heap) (n0 : Nat) (v : Option Value) (h : Heap) (L : List Loc) : Prop := v = none ∧ Fr n0 L ∧ h = h0
set_option maxRecDepth 65536 in
set_option maxHeartbeats 40000000 in
theorem rm1 (l : Launch) (Z : State) (a0 : Array Value) (hw : ∀ d ∈ tables_1, d.before a0 Z = true) (ws : List Jvm.Cond) (a1 : Addr) (h0 : Heap) (n0 : Nat) (ZS : n0 ≤ h0.size) :
    MetFree l (⟨"com/example/strict_pattern/strictpattern/regex/CodePointSet$Builder", "<init>", "()V"⟩ : MethodName) (head1 (Jvm.Cond.code (⟨"com/example/strict_pattern/strictpattern/regex/CodePointSet$Builder", "<init>", "()V"⟩ : MethodName) prog_18_method_1_code 1 none :: ws) ({ frames := 1, cells := 0, slots := 0, locals := 12 } : Room)) (fun a U => a = #[(.ref a1)] ∧ Z.Warmed39 U.vm ∧ U.heap = h0) (fun _ _ _ _ _ => True) (fun _ U o U' => ∃ v L, o = .returned v ∧ Q1 Z a1 h0 n0 v U'.heap L ∧ FrameEnd U o U' L ({ frames := 1, cells := 0, slots := 0, locals := 12 } : Room).cells ({ frames := 1, cells := 0, slots := 0, locals := 12 } : Room).slots) := by
  refine MetFree.of_bodySF (plainFor_of_name pn_1) hisR ?_
  intro p e s m args below meth c s₁ Bd hml0 hP hK
  obtain ⟨rfl, hZ, hh⟩ := hP
  have hx := Bd.exec
  have hby := Bd.bytes
  have hml : c.maxLocals = 1 := hml0
  have hown : s.vm.findClass "com/example/strict_pattern/strictpattern/regex/CodePointSet$Builder" = some m.cls := findClass_of_methodNamed Bd.named
  have hnm := (name_of_methodNamed Bd.named Bd.method).1
  have hlk : meth.locks = false := Bd.notSynchronized
  have X0 : Stand p l e ({ frames := 1, cells := 0, slots := 0, locals := 12 } : Room) s m #[(.ref a1)] below meth c s₁ [] 0 0 := Stand.of_body Bd
  have e0 : s₁.heap = h0 := by rw [← hh, Bd.state]; rfl
  have NF := Fr.nil n0
  have KP : Keep h0 h0 [] := Keep.refl _ _
  refine own_fin (s := s) (Q := Q1 Z a1 h0 n0) (rc := ({ frames := 1, cells := 0, slots := 0, locals := 12 } : Room).cells) (rs := ({ frames := 1, cells := 0, slots := 0, locals := 12 } : Room).slots) ?_
  refine own_go (fun t k => castTop (ef_1 m a1) k) ?_
  show own_R _ _ _ _ (s₁.setTop (mkF m 0 #[.val (.ref a1)] []))
  refine own_go (fun _ k => XS.aloadN X0.here hx rfl (hb hby d1_0) rfl rfl k) ?_
  show own_R _ _ _ _ (s₁.setTop (mkF m 1 #[.val (.ref a1)] [(.ref a1)]))
  obtain ⟨T1, X1, e1, st1⟩ := initO X0 hx hZ hown (hw _ (List.mem_of_getElem? (i := 6) rfl)) (hw _ (List.mem_of_getElem? (i := 7) rfl)) (hw _ (List.mem_of_getElem? (i := 8) rfl)) e0 (g := (mkF m 1 #[.val (.ref a1)] [(.ref a1)])) rfl (by rw [hml]; rfl) rfl (hb hby d1_1) (by decide) (W := 0) (by show 2 * 0 + _ ≤ _; exact Nat.le_of_eq rfl) (by decide)
  refine own_go st1 ?_
  show own_R _ _ _ _ (T1.setTop (mkF m 4 #[.val (.ref a1)] []))
  exact own_ret0 X1 hx Bd.returns (hb hby d1_4) hlk ⟨rfl, NF, e1⟩ (by decide) (by decide)
theorem d3_0 : decode prog_18_method_9_code 0 = .ok (.aload_n 0, 1) := by decide +kernel
theorem d3_1 : decode prog_18_method_9_code 1 = .ok (.getfield 9, 3) := by decide +kernel
theorem d3_4 : decode prog_18_method_9_code 4 = .ok (.lreturn, 1) := by decide +kernel
theorem ef_3 (m : MethodId) (x0 : Addr) : entryFrame m #[(.ref x0)] 1 = mkF m 0 #[.val (.ref x0)] [] := by first | (simp [entryFrame, mkF, argsToLocals, Value.category]; done) | rfl
def Q3 (Z : State) (a1 : Addr) (w1 : Int64) (h0 : Heap) (n0 : Nat) (v : Option Value) (h : Heap) (L : List Loc) : Prop := v = some (.long w1) ∧ Fr n0 L ∧ h = h0
set_option maxRecDepth 65536 in
set_option maxHeartbeats 40000000 in
theorem rm3 (l : Launch) (Z : State) (a0 : Array Value) (hw : ∀ d ∈ tables_1, d.before a0 Z = true) (ws : List Jvm.Cond) (a1 : Addr) (w1 : Int64) (h0 : Heap) (n0 : Nat) (ZS : n0 ≤ h0.size) (F_asciiLow_a1 : Fld Z h0 a1 "com/example/strict_pattern/strictpattern/regex/CodePointSet$Builder" "asciiLow" "J" (.long w1)) :
    MetFree l (⟨"com/example/strict_pattern/strictpattern/regex/CodePointSet$Builder", "asciiLow", "()J"⟩ : MethodName) (head1 (Jvm.Cond.code (⟨"com/example/strict_pattern/strictpattern/regex/CodePointSet$Builder", "asciiLow", "()J"⟩ : MethodName) prog_18_method_9_code 1 (some .long) :: ws) ({ frames := 0, cells := 0, slots := 0, locals := 0 } : Room)) (fun a U => a = #[(.ref a1)] ∧ Z.Warmed39 U.vm ∧ U.heap = h0) (fun _ _ _ _ _ => True) (fun _ U o U' => ∃ v L, o = .returned v ∧ Q3 Z a1 w1 h0 n0 v U'.heap L ∧ FrameEnd U o U' L ({ frames := 0, cells := 0, slots := 0, locals := 0 } : Room).cells ({ frames := 0, cells := 0, slots := 0, locals := 0 } : Room).slots) := by
  refine MetFree.of_bodySF (plainFor_of_name pn_1) hisR ?_
  intro p e s m args below meth c s₁ Bd hml0 hP hK
  obtain ⟨rfl, hZ, hh⟩ := hP
  have hx := Bd.exec
  have hby := Bd.bytes
  have hml : c.maxLocals = 1 := hml0
  have hown : s.vm.findClass "com/example/strict_pattern/strictpattern/regex/CodePointSet$Builder" = some m.cls := findClass_of_methodNamed Bd.named
  have hnm := (name_of_methodNamed Bd.named Bd.method).1
  have hlk : meth.locks = false := Bd.notSynchronized
  have X0 : Stand p l e ({ frames := 0, cells := 0, slots := 0, locals := 0 } : Room) s m #[(.ref a1)] below meth c s₁ [] 0 0 := Stand.of_body Bd
  have e0 : s₁.heap = h0 := by rw [← hh, Bd.state]; rfl
  have NF := Fr.nil n0
  have KP : Keep h0 h0 [] := Keep.refl _ _
  refine own_fin (s := s) (Q := Q3 Z a1 w1 h0 n0) (rc := ({ frames := 0, cells := 0, slots := 0, locals := 0 } : Room).cells) (rs := ({ frames := 0, cells := 0, slots := 0, locals := 0 } : Room).slots) ?_
  refine own_go (fun t k => castTop (ef_3 m a1) k) ?_
  show own_R _ _ _ _ (s₁.setTop (mkF m 0 #[.val (.ref a1)] []))
  refine own_go (fun _ k => XS.aloadN X0.here hx rfl (hb hby d3_0) rfl rfl k) ?_
  show own_R _ _ _ _ (s₁.setTop (mkF m 1 #[.val (.ref a1)] [(.ref a1)]))
  obtain ⟨T2, X2, e2, st2⟩ := getF X0 hx hZ hown (host := "") (Or.inl (hw _ (List.mem_of_getElem? (i := 14) rfl))) Via.refl e0 F_asciiLow_a1 (g := (mkF m 1 #[.val (.ref a1)] [(.ref a1)])) rfl rfl (hb hby d3_1)
  refine own_go st2 ?_
  show own_R _ _ _ _ (T2.setTop (mkF m 4 #[.val (.ref a1)] [(.long w1)]))
  exact own_retL X2 hx Bd.returns (hb hby d3_4) hlk ⟨rfl, NF, e2⟩ (by decide) (by decide)
theorem d4_0 : decode prog_18_method_10_code 0 = .ok (.aload_n 0, 1) := by decide +kernel
theorem d4_1 : decode prog_18_method_10_code 1 = .ok (.getfield 15, 3) := by decide +kernel
theorem d4_4 : decode prog_18_method_10_code 4 = .ok (.lreturn, 1) := by decide +kernel
theorem ef_4 (m : MethodId) (x0 : Addr) : entryFrame m #[(.ref x0)] 1 = mkF m 0 #[.val (.ref x0)] [] := by first | (simp [entryFrame, mkF, argsToLocals, Value.category]; done) | rfl
def Q4 (Z : State) (a1 : Addr) (w1 : Int64) (h0 : Heap) (n0 : Nat) (v : Option Value) (h : Heap) (L : List Loc) : Prop := v = some (.long w1) ∧ Fr n0 L ∧ h = h0
set_option maxRecDepth 65536 in
set_option maxHeartbeats 40000000 in
theorem rm4 (l : Launch) (Z : State) (a0 : Array Value) (hw : ∀ d ∈ tables_1, d.before a0 Z = true) (ws : List Jvm.Cond) (a1 : Addr) (w1 : Int64) (h0 : Heap) (n0 : Nat) (ZS : n0 ≤ h0.size) (F_asciiHigh_a1 : Fld Z h0 a1 "com/example/strict_pattern/strictpattern/regex/CodePointSet$Builder" "asciiHigh" "J" (.long w1)) :
    MetFree l (⟨"com/example/strict_pattern/strictpattern/regex/CodePointSet$Builder", "asciiHigh", "()J"⟩ : MethodName) (head1 (Jvm.Cond.code (⟨"com/example/strict_pattern/strictpattern/regex/CodePointSet$Builder", "asciiHigh", "()J"⟩ : MethodName) prog_18_method_10_code 1 (some .long) :: ws) ({ frames := 0, cells := 0, slots := 0, locals := 0 } : Room)) (fun a U => a = #[(.ref a1)] ∧ Z.Warmed39 U.vm ∧ U.heap = h0) (fun _ _ _ _ _ => True) (fun _ U o U' => ∃ v L, o = .returned v ∧ Q4 Z a1 w1 h0 n0 v U'.heap L ∧ FrameEnd U o U' L ({ frames := 0, cells := 0, slots := 0, locals := 0 } : Room).cells ({ frames := 0, cells := 0, slots := 0, locals := 0 } : Room).slots) := by
  refine MetFree.of_bodySF (plainFor_of_name pn_1) hisR ?_
  intro p e s m args below meth c s₁ Bd hml0 hP hK
  obtain ⟨rfl, hZ, hh⟩ := hP
  have hx := Bd.exec
  have hby := Bd.bytes
  have hml : c.maxLocals = 1 := hml0
  have hown : s.vm.findClass "com/example/strict_pattern/strictpattern/regex/CodePointSet$Builder" = some m.cls := findClass_of_methodNamed Bd.named
  have hnm := (name_of_methodNamed Bd.named Bd.method).1
  have hlk : meth.locks = false := Bd.notSynchronized
  have X0 : Stand p l e ({ frames := 0, cells := 0, slots := 0, locals := 0 } : Room) s m #[(.ref a1)] below meth c s₁ [] 0 0 := Stand.of_body Bd
  have e0 : s₁.heap = h0 := by rw [← hh, Bd.state]; rfl
  have NF := Fr.nil n0
  have KP : Keep h0 h0 [] := Keep.refl _ _
  refine own_fin (s := s) (Q := Q4 Z a1 w1 h0 n0) (rc := ({ frames := 0, cells := 0, slots := 0, locals := 0 } : Room).cells) (rs := ({ frames := 0, cells := 0, slots := 0, locals := 0 } : Room).slots) ?_
  refine own_go (fun t k => castTop (ef_4 m a1) k) ?_
  show own_R _ _ _ _ (s₁.setTop (mkF m 0 #[.val (.ref a1)] []))
  refine own_go (fun _ k => XS.aloadN X0.here hx rfl (hb hby d4_0) rfl rfl k) ?_
  show own_R _ _ _ _ (s₁.setTop (mkF m 1 #[.val (.ref a1)] [(.ref a1)]))
  obtain ⟨T3, X3, e3, st3⟩ := getF X0 hx hZ hown (host := "") (Or.inl (hw _ (List.mem_of_getElem? (i := 21) rfl))) Via.refl e0 F_asciiHigh_a1 (g := (mkF m 1 #[.val (.ref a1)] [(.ref a1)])) rfl rfl (hb hby d4_1)
  refine own_go st3 ?_
  show own_R _ _ _ _ (T3.setTop (mkF m 4 #[.val (.ref a1)] [(.long w1)]))
  exact own_retL X3 hx Bd.returns (hb hby d4_4) hlk ⟨rfl, NF, e3⟩ (by decide) (by decide)
theorem d5_0 : decode prog_18_method_8_code 0 = .ok (.aload_n 0, 1) := by decide +kernel
theorem d5_1 : decode prog_18_method_8_code 1 = .ok (.getfield 42, 3) := by decide +kernel
theorem d5_4 : decode prog_18_method_8_code 4 = .ok (.ifCond .ne 7, 3) := by decide +kernel
theorem d5_7 : decode prog_18_method_8_code 7 = .ok (.iconst 1, 1) := by decide +kernel
theorem d5_8 : decode prog_18_method_8_code 8 = .ok (.goto 4, 3) := by decide +kernel
theorem d5_11 : decode prog_18_method_8_code 11 = .ok (.iconst 0, 1) := by decide +kernel
theorem d5_12 : decode prog_18_method_8_code 12 = .ok (.ireturn, 1) := by decide +kernel
theorem ef_5 (m : MethodId) (x0 : Addr) : entryFrame m #[(.ref x0)] 1 = mkF m 0 #[.val (.ref x0)] [] := by first | (simp [entryFrame, mkF, argsToLocals, Value.category]; done) | rfl
def Q5 (Z : State) (a1 : Addr) (w1 : Int32) (h0 : Heap) (n0 : Nat) (v : Option Value) (h : Heap) (L : List Loc) : Prop := v = some (.int 1) ∧ Fr n0 L ∧ h = h0
set_option maxRecDepth 65536 in
set_option maxHeartbeats 40000000 in
theorem rm5 (l : Launch) (Z : State) (a0 : Array Value) (hw : ∀ d ∈ tables_1, d.before a0 Z = true) (ws : List Jvm.Cond) (a1 : Addr) (w1 : Int32) (h0 : Heap) (n0 : Nat) (ZS : n0 ≤ h0.size) (F_count_a1 : Fld Z h0 a1 "com/example/strict_pattern/strictpattern/regex/CodePointSet$Builder" "count" "I" (.int w1)) (hz : w1 = 0) :
    MetFree l (⟨"com/example/strict_pattern/strictpattern/regex/CodePointSet$Builder", "holdsAsciiAlone", "()Z"⟩ : MethodName) (head1 (Jvm.Cond.code (⟨"com/example/strict_pattern/strictpattern/regex/CodePointSet$Builder", "holdsAsciiAlone", "()Z"⟩ : MethodName) prog_18_method_8_code 1 (some .boolean) :: ws) ({ frames := 0, cells := 0, slots := 0, locals := 0 } : Room)) (fun a U => a = #[(.ref a1)] ∧ Z.Warmed39 U.vm ∧ U.heap = h0) (fun _ _ _ _ _ => True) (fun _ U o U' => ∃ v L, o = .returned v ∧ Q5 Z a1 w1 h0 n0 v U'.heap L ∧ FrameEnd U o U' L ({ frames := 0, cells := 0, slots := 0, locals := 0 } : Room).cells ({ frames := 0, cells := 0, slots := 0, locals := 0 } : Room).slots) := by
  refine MetFree.of_bodySF (plainFor_of_name pn_1) hisR ?_
  intro p e s m args below meth c s₁ Bd hml0 hP hK
  obtain ⟨rfl, hZ, hh⟩ := hP
  have hx := Bd.exec
  have hby := Bd.bytes
  have hml : c.maxLocals = 1 := hml0
  have hown : s.vm.findClass "com/example/strict_pattern/strictpattern/regex/CodePointSet$Builder" = some m.cls := findClass_of_methodNamed Bd.named
  have hnm := (name_of_methodNamed Bd.named Bd.method).1
  have hlk : meth.locks = false := Bd.notSynchronized
  have X0 : Stand p l e ({ frames := 0, cells := 0, slots := 0, locals := 0 } : Room) s m #[(.ref a1)] below meth c s₁ [] 0 0 := Stand.of_body Bd
  have e0 : s₁.heap = h0 := by rw [← hh, Bd.state]; rfl
  have NF := Fr.nil n0
  have KP : Keep h0 h0 [] := Keep.refl _ _
  refine own_fin (s := s) (Q := Q5 Z a1 w1 h0 n0) (rc := ({ frames := 0, cells := 0, slots := 0, locals := 0 } : Room).cells) (rs := ({ frames := 0, cells := 0, slots := 0, locals := 0 } : Room).slots) ?_
  refine own_go (fun t k => castTop (ef_5 m a1) k) ?_
  show own_R _ _ _ _ (s₁.setTop (mkF m 0 #[.val (.ref a1)] []))
  refine own_go (fun _ k => XS.aloadN X0.here hx rfl (hb hby d5_0) rfl rfl k) ?_
  show own_R _ _ _ _ (s₁.setTop (mkF m 1 #[.val (.ref a1)] [(.ref a1)]))
  obtain ⟨T4, X4, e4, st4⟩ := getF X0 hx hZ hown (host := "") (Or.inl (hw _ (List.mem_of_getElem? (i := 28) rfl))) Via.refl e0 F_count_a1 (g := (mkF m 1 #[.val (.ref a1)] [(.ref a1)])) rfl rfl (hb hby d5_1)
  refine own_go st4 ?_
  show own_R _ _ _ _ (T4.setTop (mkF m 4 #[.val (.ref a1)] [(.int w1)]))
  refine own_go (fun _ k => XS.ifNo X4.here hx rfl (hb hby d5_4) rfl ((if0 _ _).trans (teq hz).2) k) ?_
  show own_R _ _ _ _ (T4.setTop (mkF m 7 #[.val (.ref a1)] []))
  refine own_go (fun _ k => XS.iconst X4.here hx rfl (hb hby d5_7) k) ?_
  show own_R _ _ _ _ (T4.setTop (mkF m 8 #[.val (.ref a1)] [(.int (1 : Int32))]))
  refine own_go (fun _ k => XS.goto X4.here hx rfl (pc0 := 8) (pc' := 12) rfl (hb hby d5_8) (by decide) (by decide) k) ?_
  show own_R _ _ _ _ (T4.setTop (mkF m 12 #[.val (.ref a1)] [(.int (1 : Int32))]))
  exact own_retN X4 hx (t := .boolean) (by simp) Bd.returns (hb hby d5_12) hlk ⟨rfl, NF, e4⟩ (by decide) (by decide)
theorem d6_0 : decode prog_18_method_5_code 0 = .ok (.aload_n 0, 1) := by decide +kernel
theorem d6_1 : decode prog_18_method_5_code 1 = .ok (.dup, 1) := by decide +kernel
theorem d6_2 : decode prog_18_method_5_code 2 = .ok (.getfield 9, 3) := by decide +kernel
theorem d6_5 : decode prog_18_method_5_code 5 = .ok (.lload_n 1, 1) := by decide +kernel
theorem d6_6 : decode prog_18_method_5_code 6 = .ok (.lor, 1) := by decide +kernel
theorem d6_7 : decode prog_18_method_5_code 7 = .ok (.putfield 9, 3) := by decide +kernel
theorem d6_10 : decode prog_18_method_5_code 10 = .ok (.aload_n 0, 1) := by decide +kernel
theorem d6_11 : decode prog_18_method_5_code 11 = .ok (.dup, 1) := by decide +kernel
theorem d6_12 : decode prog_18_method_5_code 12 = .ok (.getfield 15, 3) := by decide +kernel
theorem d6_15 : decode prog_18_method_5_code 15 = .ok (.lload_n 3, 1) := by decide +kernel
theorem d6_16 : decode prog_18_method_5_code 16 = .ok (.lor, 1) := by decide +kernel
theorem d6_17 : decode prog_18_method_5_code 17 = .ok (.putfield 15, 3) := by decide +kernel
theorem d6_20 : decode prog_18_method_5_code 20 = .ok (.return_, 1) := by decide +kernel
theorem ef_6 (m : MethodId) (x0 : Addr) (x1 : Int64) (x2 : Int64) : entryFrame m #[(.ref x0), (.long x1), (.long x2)] 5 = mkF m 0 #[.val (.ref x0), .val (.long x1), .second, .val (.long x2), .second] [] := by first | (simp [entryFrame, mkF, argsToLocals, Value.category]; done) | rfl
def Q6 (Z : State) (a1 : Addr) (q2 : Int64) (q3 : Int64) (w1 : Int64) (w2 : Int64) (w3 : Int32) (h0 : Heap) (n0 : Nat) (v : Option Value) (h : Heap) (L : List Loc) : Prop := v = none ∧ Fr n0 L ∧ Keep h0 h [a1] ∧ Fld Z h a1 "com/example/strict_pattern/strictpattern/regex/CodePointSet$Builder" "asciiLow" "J" (.long (w1 ||| q2)) ∧ Fld Z h a1 "com/example/strict_pattern/strictpattern/regex/CodePointSet$Builder" "asciiHigh" "J" (.long (w2 ||| q3)) ∧ Fld Z h a1 "com/example/strict_pattern/strictpattern/regex/CodePointSet$Builder" "count" "I" (.int w3)
set_option maxRecDepth 65536 in
set_option maxHeartbeats 40000000 in
theorem rm6 (l : Launch) (Z : State) (a0 : Array Value) (hw : ∀ d ∈ tables_1, d.before a0 Z = true) (ws : List Jvm.Cond) (a1 : Addr) (q2 : Int64) (q3 : Int64) (w1 : Int64) (w2 : Int64) (w3 : Int32) (h0 : Heap) (n0 : Nat) (ZS : n0 ≤ h0.size) (E_a1 : Exa Z h0 a1 "com/example/strict_pattern/strictpattern/regex/CodePointSet$Builder") (F_asciiLow_a1 : Fld Z h0 a1 "com/example/strict_pattern/strictpattern/regex/CodePointSet$Builder" "asciiLow" "J" (.long w1)) (F_asciiHigh_a1 : Fld Z h0 a1 "com/example/strict_pattern/strictpattern/regex/CodePointSet$Builder" "asciiHigh" "J" (.long w2)) (F_count_a1 : Fld Z h0 a1 "com/example/strict_pattern/strictpattern/regex/CodePointSet$Builder" "count" "I" (.int w3)) (g_a1 : n0 ≤ a1) :
    MetFree l (⟨"com/example/strict_pattern/strictpattern/regex/CodePointSet$Builder", "addAscii", "(JJ)V"⟩ : MethodName) (head1 (Jvm.Cond.code (⟨"com/example/strict_pattern/strictpattern/regex/CodePointSet$Builder", "addAscii", "(JJ)V"⟩ : MethodName) prog_18_method_5_code 5 none :: ws) ({ frames := 0, cells := 0, slots := 0, locals := 0 } : Room)) (fun a U => a = #[(.ref a1), (.long q2), (.long q3)] ∧ Z.Warmed39 U.vm ∧ U.heap = h0) (fun _ _ _ _ _ => True) (fun _ U o U' => ∃ v L, o = .returned v ∧ Q6 Z a1 q2 q3 w1 w2 w3 h0 n0 v U'.heap L ∧ FrameEnd U o U' L ({ frames := 0, cells := 0, slots := 0, locals := 0 } : Room).cells ({ frames := 0, cells := 0, slots := 0, locals := 0 } : Room).slots) := by
  refine MetFree.of_bodySF (plainFor_of_name pn_1) hisR ?_
  intro p e s m args below meth c s₁ Bd hml0 hP hK
  obtain ⟨rfl, hZ, hh⟩ := hP
  have hx := Bd.exec
  have hby := Bd.bytes
  have hml : c.maxLocals = 5 := hml0
  have hown : s.vm.findClass "com/example/strict_pattern/strictpattern/regex/CodePointSet$Builder" = some m.cls := findClass_of_methodNamed Bd.named
  have hnm := (name_of_methodNamed Bd.named Bd.method).1
  have hlk : meth.locks = false := Bd.notSynchronized
  have X0 : Stand p l e ({ frames := 0, cells := 0, slots := 0, locals := 0 } : Room) s m #[(.ref a1), (.long q2), (.long q3)] below meth c s₁ [] 0 0 := Stand.of_body Bd
  have e0 : s₁.heap = h0 := by rw [← hh, Bd.state]; rfl
  have NF := Fr.nil n0
  have KP : Keep h0 h0 [a1] := Keep.refl _ _
  refine own_fin (s := s) (Q := Q6 Z a1 q2 q3 w1 w2 w3 h0 n0) (rc := ({ frames := 0, cells := 0, slots := 0, locals := 0 } : Room).cells) (rs := ({ frames := 0, cells := 0, slots := 0, locals := 0 } : Room).slots) ?_
  refine own_go (fun t k => castTop (ef_6 m a1 q2 q3) k) ?_
  show own_R _ _ _ _ (s₁.setTop (mkF m 0 #[.val (.ref a1), .val (.long q2), .second, .val (.long q3), .second] []))
  refine own_go (fun _ k => XS.aloadN X0.here hx rfl (hb hby d6_0) rfl rfl k) ?_
  show own_R _ _ _ _ (s₁.setTop (mkF m 1 #[.val (.ref a1), .val (.long q2), .second, .val (.long q3), .second] [(.ref a1)]))
  refine own_go (fun _ k => XS.dup X0.here hx rfl (hb hby d6_1) rfl rfl k) ?_
  show own_R _ _ _ _ (s₁.setTop (mkF m 2 #[.val (.ref a1), .val (.long q2), .second, .val (.long q3), .second] [(.ref a1), (.ref a1)]))
  obtain ⟨T5, X5, e5, st5⟩ := getF X0 hx hZ hown (host := "") (Or.inl (hw _ (List.mem_of_getElem? (i := 14) rfl))) Via.refl e0 F_asciiLow_a1 (g := (mkF m 2 #[.val (.ref a1), .val (.long q2), .second, .val (.long q3), .second] [(.ref a1), (.ref a1)])) rfl rfl (hb hby d6_2)
  refine own_go st5 ?_
  show own_R _ _ _ _ (T5.setTop (mkF m 5 #[.val (.ref a1), .val (.long q2), .second, .val (.long q3), .second] [(.long w1), (.ref a1)]))
  refine own_go (fun _ k => XS.lloadN X5.here hx rfl (hb hby d6_5) rfl k) ?_
  show own_R _ _ _ _ (T5.setTop (mkF m 6 #[.val (.ref a1), .val (.long q2), .second, .val (.long q3), .second] [(.long q2), (.long w1), (.ref a1)]))
  refine own_go (fun _ k => XS.lor X5.here hx rfl (hb hby d6_6) rfl k) ?_
  show own_R _ _ _ _ (T5.setTop (mkF m 7 #[.val (.ref a1), .val (.long q2), .second, .val (.long q3), .second] [(.long (w1 ||| q2)), (.ref a1)]))
  obtain ⟨T6, h6, X6, e6, W6, st6⟩ := putF X5 hx hZ hown (host := "") (Or.inl (hw _ (List.mem_of_getElem? (i := 14) rfl))) Via.refl e5 F_asciiLow_a1 E_a1 (Or.inl (hw _ (List.mem_of_getElem? (i := 15) rfl))) (hw _ (List.mem_of_getElem? (i := 1) rfl)) (ty := .long) (by decide) rfl rfl (g := (mkF m 7 #[.val (.ref a1), .val (.long q2), .second, .val (.long q3), .second] [(.long (w1 ||| q2)), (.ref a1)])) rfl rfl (hb hby d6_7)
  refine own_go st6 ?_
  have E_a1 := E_a1.wr W6
  have F_asciiLow_a1 := F_asciiLow_a1.same W6
  have F_asciiHigh_a1 := F_asciiHigh_a1.other W6 (Or.inr (slot_ne (Or.inl (hw _ (List.mem_of_getElem? (i := 22) rfl))) (Or.inl (hw _ (List.mem_of_getElem? (i := 15) rfl))) (by decide) (t := .long) (t' := .long) (by decide) (by decide)))
  have F_count_a1 := F_count_a1.other W6 (Or.inr (slot_ne (Or.inl (hw _ (List.mem_of_getElem? (i := 29) rfl))) (Or.inl (hw _ (List.mem_of_getElem? (i := 15) rfl))) (by decide) (t := .int) (t' := .long) (by decide) (by decide)))
  have ZS := Nat.le_trans ZS (Keep.of_wr W6).1
  have KP := KP.wr W6 (Or.inl (List.mem_of_getElem? (i := 0) rfl))
  have NF := Fr.snoc X6 NF g_a1
  show own_R _ _ _ _ (T6.setTop (mkF m 10 #[.val (.ref a1), .val (.long q2), .second, .val (.long q3), .second] []))
  refine own_go (fun _ k => XS.aloadN X6.here hx rfl (hb hby d6_10) rfl rfl k) ?_
  show own_R _ _ _ _ (T6.setTop (mkF m 11 #[.val (.ref a1), .val (.long q2), .second, .val (.long q3), .second] [(.ref a1)]))
  refine own_go (fun _ k => XS.dup X6.here hx rfl (hb hby d6_11) rfl rfl k) ?_
  show own_R _ _ _ _ (T6.setTop (mkF m 12 #[.val (.ref a1), .val (.long q2), .second, .val (.long q3), .second] [(.ref a1), (.ref a1)]))
  obtain ⟨T7, X7, e7, st7⟩ := getF X6 hx hZ hown (host := "") (Or.inl (hw _ (List.mem_of_getElem? (i := 21) rfl))) Via.refl e6 F_asciiHigh_a1 (g := (mkF m 12 #[.val (.ref a1), .val (.long q2), .second, .val (.long q3), .second] [(.ref a1), (.ref a1)])) rfl rfl (hb hby d6_12)
  refine own_go st7 ?_
  show own_R _ _ _ _ (T7.setTop (mkF m 15 #[.val (.ref a1), .val (.long q2), .second, .val (.long q3), .second] [(.long w2), (.ref a1)]))
  refine own_go (fun _ k => XS.lloadN X7.here hx rfl (hb hby d6_15) rfl k) ?_
  show own_R _ _ _ _ (T7.setTop (mkF m 16 #[.val (.ref a1), .val (.long q2), .second, .val (.long q3), .second] [(.long q3), (.long w2), (.ref a1)]))
  refine own_go (fun _ k => XS.lor X7.here hx rfl (hb hby d6_16) rfl k) ?_
  show own_R _ _ _ _ (T7.setTop (mkF m 17 #[.val (.ref a1), .val (.long q2), .second, .val (.long q3), .second] [(.long (w2 ||| q3)), (.ref a1)]))
  obtain ⟨T8, h8, X8, e8, W8, st8⟩ := putF X7 hx hZ hown (host := "") (Or.inl (hw _ (List.mem_of_getElem? (i := 21) rfl))) Via.refl e7 F_asciiHigh_a1 E_a1 (Or.inl (hw _ (List.mem_of_getElem? (i := 22) rfl))) (hw _ (List.mem_of_getElem? (i := 1) rfl)) (ty := .long) (by decide) rfl rfl (g := (mkF m 17 #[.val (.ref a1), .val (.long q2), .second, .val (.long q3), .second] [(.long (w2 ||| q3)), (.ref a1)])) rfl rfl (hb hby d6_17)
  refine own_go st8 ?_
  have E_a1 := E_a1.wr W8
  have F_asciiLow_a1 := F_asciiLow_a1.other W8 (Or.inr (slot_ne (Or.inl (hw _ (List.mem_of_getElem? (i := 15) rfl))) (Or.inl (hw _ (List.mem_of_getElem? (i := 22) rfl))) (by decide) (t := .long) (t' := .long) (by decide) (by decide)))
  have F_asciiHigh_a1 := F_asciiHigh_a1.same W8
  have F_count_a1 := F_count_a1.other W8 (Or.inr (slot_ne (Or.inl (hw _ (List.mem_of_getElem? (i := 29) rfl))) (Or.inl (hw _ (List.mem_of_getElem? (i := 22) rfl))) (by decide) (t := .int) (t' := .long) (by decide) (by decide)))
  have ZS := Nat.le_trans ZS (Keep.of_wr W8).1
  have KP := KP.wr W8 (Or.inl (List.mem_of_getElem? (i := 0) rfl))
  have NF := Fr.snoc X8 NF g_a1
  show own_R _ _ _ _ (T8.setTop (mkF m 20 #[.val (.ref a1), .val (.long q2), .second, .val (.long q3), .second] []))
  exact own_ret0 X8 hx Bd.returns (hb hby d6_20) hlk (by rw [e8]; exact ⟨rfl, NF, KP, F_asciiLow_a1, F_asciiHigh_a1, F_count_a1⟩) (by decide) (by decide)
theorem pn_0 : plainName "com/example/strict_pattern/strictpattern/regex/BuilderAddAsciiPinLaw" = true := by first | (simp [plainName, overriddenIn]; done) | decide +kernel
theorem ef_0 (m : MethodId) (x0 : Int64) (x1 : Int64) (x2 : Int64) (x3 : Int64) : entryFrame m #[(.long x0), (.long x1), (.long x2), (.long x3)] maxLocals = mkF m 0 #[.val (.long x0), .second, .val (.long x1), .second, .val (.long x2), .second, .val (.long x3), .second, .unset, .unset, .unset, .unset] [] := by first | (simp [entryFrame, mkF, argsToLocals, Value.category, maxLocals]; done) | rfl
def Q0 (Z : State) (q1 : Int64) (q2 : Int64) (q3 : Int64) (q4 : Int64) (h0 : Heap) (n0 : Nat) (v : Option Value) (h : Heap) (L : List Loc) : Prop := v = some (.int 1) ∧ Fr n0 L
set_option maxRecDepth 65536 in
set_option maxHeartbeats 40000000 in
theorem rm0 (l : Launch) (Z : State) (a0 : Array Value) (hw : ∀ d ∈ tables_1, d.before a0 Z = true) (ws : List Jvm.Cond) (q1 : Int64) (q2 : Int64) (q3 : Int64) (q4 : Int64) (h0 : Heap) (n0 : Nat) (ZS : n0 ≤ h0.size) :
    MetFree l x (head1 (Jvm.Cond.code x code maxLocals ret :: ws) room_1) (fun a U => a = #[(.long q1), (.long q2), (.long q3), (.long q4)] ∧ Z.Warmed39 U.vm ∧ U.heap = h0) (fun _ _ _ _ _ => True) (fun _ U o U' => ∃ v L, o = .returned v ∧ Q0 Z q1 q2 q3 q4 h0 n0 v U'.heap L ∧ FrameEnd U o U' L 16 128) := by
  refine MetFree.of_bodySF (plainFor_of_name pn_0) hisR ?_
  intro p e s m args below meth c s₁ Bd hml0 hP hK
  obtain ⟨rfl, hZ, hh⟩ := hP
  have hx := Bd.exec
  have hby := Bd.bytes
  have hml : c.maxLocals = 12 := hml0
  have hown : s.vm.findClass "com/example/strict_pattern/strictpattern/regex/BuilderAddAsciiPinLaw" = some m.cls := findClass_of_methodNamed Bd.named
  have hnm := (name_of_methodNamed Bd.named Bd.method).1
  have hlk : meth.locks = false := Bd.notSynchronized
  have X0 : Stand p l e room_1 s m #[(.long q1), (.long q2), (.long q3), (.long q4)] below meth c s₁ [] 0 0 := Stand.of_body Bd
  have e0 : s₁.heap = h0 := by rw [← hh, Bd.state]; rfl
  have NF := Fr.nil n0
  have KP : Keep h0 h0 [] := Keep.refl _ _
  refine own_fin (s := s) (Q := Q0 Z q1 q2 q3 q4 h0 n0) (rc := 16) (rs := 128) ?_
  refine own_go (fun t k => castTop (ef_0 m q1 q2 q3 q4) k) ?_
  show own_R _ _ _ _ (s₁.setTop (mkF m 0 #[.val (.long q1), .second, .val (.long q2), .second, .val (.long q3), .second, .val (.long q4), .second, .unset, .unset, .unset, .unset] []))
  obtain ⟨T9, h9, X9, e9, E9, A9, D9, -, st9⟩ := newO X0 hx hZ hown (hw _ (List.mem_of_getElem? (i := 0) rfl)) (hw _ (List.mem_of_getElem? (i := 1) rfl)) (hw _ (List.mem_of_getElem? (i := 2) rfl)) e0 (g := (mkF m 0 #[.val (.long q1), .second, .val (.long q2), .second, .val (.long q3), .second, .val (.long q4), .second, .unset, .unset, .unset, .unset] [])) rfl (hb hby at_0) (by decide) (by decide)
  obtain ⟨b9, g9⟩ : ∃ z, z = h0.size := ⟨_, rfl⟩
  rw [← g9] at A9 D9 st9
  refine own_go st9 ?_
  have g_b9 : n0 ≤ b9 := Nat.le_trans ZS (Nat.le_of_eq g9.symm)
  have sz_b9 : h0.size ≤ b9 := Nat.le_trans KP.1 (Nat.le_of_eq g9.symm)
  have ZS := Nat.le_trans ZS E9.1
  have KP := KP.ext E9
  have E_b9 := A9
  have F_asciiLow_b9 : Fld Z h9 b9 "com/example/strict_pattern/strictpattern/regex/CodePointSet$Builder" "asciiLow" "J" (.long (0 : Int64)) := D9 (Or.inl (hw _ (List.mem_of_getElem? (i := 15) rfl))) (ty := .long) (by decide)
  have F_asciiHigh_b9 : Fld Z h9 b9 "com/example/strict_pattern/strictpattern/regex/CodePointSet$Builder" "asciiHigh" "J" (.long (0 : Int64)) := D9 (Or.inl (hw _ (List.mem_of_getElem? (i := 22) rfl))) (ty := .long) (by decide)
  have F_count_b9 : Fld Z h9 b9 "com/example/strict_pattern/strictpattern/regex/CodePointSet$Builder" "count" "I" (.int (0 : Int32)) := D9 (Or.inl (hw _ (List.mem_of_getElem? (i := 29) rfl))) (ty := .int) (by decide)
  show own_R _ _ _ _ (T9.setTop (mkF m 3 #[.val (.long q1), .second, .val (.long q2), .second, .val (.long q3), .second, .val (.long q4), .second, .unset, .unset, .unset, .unset] [(.ref b9)]))
  refine own_go (fun _ k => XS.dup X9.here hx rfl (hb hby at_3) rfl rfl k) ?_
  show own_R _ _ _ _ (T9.setTop (mkF m 4 #[.val (.long q1), .second, .val (.long q2), .second, .val (.long q3), .second, .val (.long q4), .second, .unset, .unset, .unset, .unset] [(.ref b9), (.ref b9)]))
  obtain ⟨_, _, ⟨T10, L10, k10, n10⟩, -, X10, ⟨Lc10, hQ10, l10, y10, z10⟩, st10⟩ := X9.specialBack hx (y := (⟨"com/example/strict_pattern/strictpattern/regex/CodePointSet$Builder", "<init>", "()V"⟩ : MethodName)) rfl hown (mvT hZ (hw _ (List.mem_of_getElem? (i := 3) rfl))) (mvT hZ (hw _ (List.mem_of_getElem? (i := 4) rfl))) (mvT hZ (hw _ (List.mem_of_getElem? (i := 5) rfl))) (by decide) (backOf (W := 1) (rm1 l Z a0 hw [] b9 h9 n0 ZS) hZ (hw _ (List.mem_of_getElem? (i := 5) rfl)) (hw _ (List.mem_of_getElem? (i := 2) rfl)) (by decide) (by decide)) (g := (mkF m 4 #[.val (.long q1), .second, .val (.long q2), .second, .val (.long q3), .second, .val (.long q4), .second, .unset, .unset, .unset, .unset] [(.ref b9), (.ref b9)])) rfl (by rw [hml]; rfl) (Steps.refl _) (a := b9) (argsL := []) (rest := [(.ref b9)]) (lenOf pd_0 rfl) rfl (by show 2 * 0 + _ ≤ _; exact Nat.le_of_eq rfl) (hb hby at_4) (fun _ _ => ⟨rfl, e9, (by decide : 1 + 0 ≤ _), (by decide : 4 + 0 ≤ _)⟩)
  dsimp only [Pt.U, Pt.locs, Pt.cells, Pt.slots] at X10 l10 y10 z10 st10 hQ10
  subst l10 y10 z10
  obtain ⟨rfl, N10q, e10⟩ := hQ10
  have NF := Fr.app NF N10q
  refine own_go (fun _ k => st10.trans k) ?_
  show own_R _ _ _ _ (T10.setTop (mkF m 7 #[.val (.long q1), .second, .val (.long q2), .second, .val (.long q3), .second, .val (.long q4), .second, .unset, .unset, .unset, .unset] [(.ref b9)]))
  refine own_go (fun _ k => XS.astore X10.here hx rfl (hb hby at_7) rfl rfl (l' := #[.val (.long q1), .second, .val (.long q2), .second, .val (.long q3), .second, .val (.long q4), .second, .val (.ref b9), .unset, .unset, .unset]) rfl k) ?_
  show own_R _ _ _ _ (T10.setTop (mkF m 9 #[.val (.long q1), .second, .val (.long q2), .second, .val (.long q3), .second, .val (.long q4), .second, .val (.ref b9), .unset, .unset, .unset] []))
  refine own_go (fun _ k => XS.aload X10.here hx rfl (hb hby at_9) rfl rfl k) ?_
  show own_R _ _ _ _ (T10.setTop (mkF m 11 #[.val (.long q1), .second, .val (.long q2), .second, .val (.long q3), .second, .val (.long q4), .second, .val (.ref b9), .unset, .unset, .unset] [(.ref b9)]))
  obtain ⟨cq11, kq11, q11a, q11b, q11c⟩ := isOf hZ e10 E_b9
  obtain ⟨_, _, ⟨T11, L11, k11, n11⟩, -, X11, ⟨Lc11, hQ11, l11, y11, z11⟩, st11⟩ := X10.virtualBack hx (y := (⟨"com/example/strict_pattern/strictpattern/regex/CodePointSet$Builder", "asciiLow", "()J"⟩ : MethodName)) (z := (⟨"com/example/strict_pattern/strictpattern/regex/CodePointSet$Builder", "asciiLow", "()J"⟩ : MethodName)) hown (mvT hZ (hw _ (List.mem_of_getElem? (i := 9) rfl))) (mvT hZ (hw _ (List.mem_of_getElem? (i := 10) rfl))) (notFace_of_selects (args := #[]) (mvT hZ (hw _ (List.mem_of_getElem? (i := 12) rfl)))) (mvT hZ (hw _ (List.mem_of_getElem? (i := 12) rfl))) (mvT hZ (hw _ (List.mem_of_getElem? (i := 11) rfl))) (by decide) (backOf (W := 0) (rm3 l Z a0 hw [] b9 (0 : Int64) h9 n0 ZS F_asciiLow_b9) hZ (hw _ (List.mem_of_getElem? (i := 13) rfl)) (hw _ (List.mem_of_getElem? (i := 2) rfl)) (by decide) (by decide)) q11a q11c (g := (mkF m 11 #[.val (.long q1), .second, .val (.long q2), .second, .val (.long q3), .second, .val (.long q4), .second, .val (.ref b9), .unset, .unset, .unset] [(.ref b9)])) rfl (by rw [hml]; rfl) (Steps.refl _) (argsL := []) (rest := []) (lenOf pd_1 rfl) rfl (by show 2 * 0 + _ ≤ _; exact Nat.le_of_eq rfl) (hb hby at_11) (fun _ _ => ⟨rfl, e10, (by decide : 1 + 0 ≤ _), (by decide : 4 + 0 ≤ _)⟩)
  dsimp only [Pt.U, Pt.locs, Pt.cells, Pt.slots] at X11 l11 y11 z11 st11 hQ11
  subst l11 y11 z11
  obtain ⟨rfl, N11q, e11⟩ := hQ11
  have NF := Fr.app NF N11q
  refine own_go (fun _ k => st11.trans k) ?_
  show own_R _ _ _ _ (T11.setTop (mkF m 14 #[.val (.long q1), .second, .val (.long q2), .second, .val (.long q3), .second, .val (.long q4), .second, .val (.ref b9), .unset, .unset, .unset] [(.long (0 : Int64))]))
  refine own_go (fun _ k => XS.lconst X11.here hx rfl (hb hby at_14) k) ?_
  show own_R _ _ _ _ (T11.setTop (mkF m 15 #[.val (.long q1), .second, .val (.long q2), .second, .val (.long q3), .second, .val (.long q4), .second, .val (.ref b9), .unset, .unset, .unset] [(.long (0 : Int64)), (.long (0 : Int64))]))
  refine own_go (fun _ k => XS.lcmp X11.here hx rfl (hb hby at_15) rfl k) ?_
  show own_R _ _ _ _ (T11.setTop (mkF m 16 #[.val (.long q1), .second, .val (.long q2), .second, .val (.long q3), .second, .val (.long q4), .second, .val (.ref b9), .unset, .unset, .unset] [(.int (lcmpW (0 : Int64) (0 : Int64)))]))
  refine own_go (fun _ k => XS.ifNo X11.here hx rfl (hb hby at_16) rfl ((if0 _ _).trans (teq (own_lc0 rfl)).2) k) ?_
  show own_R _ _ _ _ (T11.setTop (mkF m 19 #[.val (.long q1), .second, .val (.long q2), .second, .val (.long q3), .second, .val (.long q4), .second, .val (.ref b9), .unset, .unset, .unset] []))
  refine own_go (fun _ k => XS.aload X11.here hx rfl (hb hby at_19) rfl rfl k) ?_
  show own_R _ _ _ _ (T11.setTop (mkF m 21 #[.val (.long q1), .second, .val (.long q2), .second, .val (.long q3), .second, .val (.long q4), .second, .val (.ref b9), .unset, .unset, .unset] [(.ref b9)]))
  obtain ⟨cq12, kq12, q12a, q12b, q12c⟩ := isOf hZ e11 E_b9
  obtain ⟨_, _, ⟨T12, L12, k12, n12⟩, -, X12, ⟨Lc12, hQ12, l12, y12, z12⟩, st12⟩ := X11.virtualBack hx (y := (⟨"com/example/strict_pattern/strictpattern/regex/CodePointSet$Builder", "asciiHigh", "()J"⟩ : MethodName)) (z := (⟨"com/example/strict_pattern/strictpattern/regex/CodePointSet$Builder", "asciiHigh", "()J"⟩ : MethodName)) hown (mvT hZ (hw _ (List.mem_of_getElem? (i := 16) rfl))) (mvT hZ (hw _ (List.mem_of_getElem? (i := 17) rfl))) (notFace_of_selects (args := #[]) (mvT hZ (hw _ (List.mem_of_getElem? (i := 19) rfl)))) (mvT hZ (hw _ (List.mem_of_getElem? (i := 19) rfl))) (mvT hZ (hw _ (List.mem_of_getElem? (i := 18) rfl))) (by decide) (backOf (W := 0) (rm4 l Z a0 hw [] b9 (0 : Int64) h9 n0 ZS F_asciiHigh_b9) hZ (hw _ (List.mem_of_getElem? (i := 20) rfl)) (hw _ (List.mem_of_getElem? (i := 2) rfl)) (by decide) (by decide)) q12a q12c (g := (mkF m 21 #[.val (.long q1), .second, .val (.long q2), .second, .val (.long q3), .second, .val (.long q4), .second, .val (.ref b9), .unset, .unset, .unset] [(.ref b9)])) rfl (by rw [hml]; rfl) (Steps.refl _) (argsL := []) (rest := []) (lenOf pd_1 rfl) rfl (by show 2 * 0 + _ ≤ _; exact Nat.le_of_eq rfl) (hb hby at_21) (fun _ _ => ⟨rfl, e11, (by decide : 1 + 0 ≤ _), (by decide : 4 + 0 ≤ _)⟩)
  dsimp only [Pt.U, Pt.locs, Pt.cells, Pt.slots] at X12 l12 y12 z12 st12 hQ12
  subst l12 y12 z12
  obtain ⟨rfl, N12q, e12⟩ := hQ12
  have NF := Fr.app NF N12q
  refine own_go (fun _ k => st12.trans k) ?_
  show own_R _ _ _ _ (T12.setTop (mkF m 24 #[.val (.long q1), .second, .val (.long q2), .second, .val (.long q3), .second, .val (.long q4), .second, .val (.ref b9), .unset, .unset, .unset] [(.long (0 : Int64))]))
  refine own_go (fun _ k => XS.lconst X12.here hx rfl (hb hby at_24) k) ?_
  show own_R _ _ _ _ (T12.setTop (mkF m 25 #[.val (.long q1), .second, .val (.long q2), .second, .val (.long q3), .second, .val (.long q4), .second, .val (.ref b9), .unset, .unset, .unset] [(.long (0 : Int64)), (.long (0 : Int64))]))
  refine own_go (fun _ k => XS.lcmp X12.here hx rfl (hb hby at_25) rfl k) ?_
  show own_R _ _ _ _ (T12.setTop (mkF m 26 #[.val (.long q1), .second, .val (.long q2), .second, .val (.long q3), .second, .val (.long q4), .second, .val (.ref b9), .unset, .unset, .unset] [(.int (lcmpW (0 : Int64) (0 : Int64)))]))
  refine own_go (fun _ k => XS.ifNo X12.here hx rfl (hb hby at_26) rfl ((if0 _ _).trans (teq (own_lc0 rfl)).2) k) ?_
  show own_R _ _ _ _ (T12.setTop (mkF m 29 #[.val (.long q1), .second, .val (.long q2), .second, .val (.long q3), .second, .val (.long q4), .second, .val (.ref b9), .unset, .unset, .unset] []))
  refine own_go (fun _ k => XS.aload X12.here hx rfl (hb hby at_29) rfl rfl k) ?_
  show own_R _ _ _ _ (T12.setTop (mkF m 31 #[.val (.long q1), .second, .val (.long q2), .second, .val (.long q3), .second, .val (.long q4), .second, .val (.ref b9), .unset, .unset, .unset] [(.ref b9)]))
  obtain ⟨cq13, kq13, q13a, q13b, q13c⟩ := isOf hZ e12 E_b9
  obtain ⟨_, _, ⟨T13, L13, k13, n13⟩, -, X13, ⟨Lc13, hQ13, l13, y13, z13⟩, st13⟩ := X12.virtualBack hx (y := (⟨"com/example/strict_pattern/strictpattern/regex/CodePointSet$Builder", "holdsAsciiAlone", "()Z"⟩ : MethodName)) (z := (⟨"com/example/strict_pattern/strictpattern/regex/CodePointSet$Builder", "holdsAsciiAlone", "()Z"⟩ : MethodName)) hown (mvT hZ (hw _ (List.mem_of_getElem? (i := 23) rfl))) (mvT hZ (hw _ (List.mem_of_getElem? (i := 24) rfl))) (notFace_of_selects (args := #[]) (mvT hZ (hw _ (List.mem_of_getElem? (i := 26) rfl)))) (mvT hZ (hw _ (List.mem_of_getElem? (i := 26) rfl))) (mvT hZ (hw _ (List.mem_of_getElem? (i := 25) rfl))) (by decide) (backOf (W := 0) (rm5 l Z a0 hw [] b9 (0 : Int32) h9 n0 ZS F_count_b9 rfl) hZ (hw _ (List.mem_of_getElem? (i := 27) rfl)) (hw _ (List.mem_of_getElem? (i := 2) rfl)) (by decide) (by decide)) q13a q13c (g := (mkF m 31 #[.val (.long q1), .second, .val (.long q2), .second, .val (.long q3), .second, .val (.long q4), .second, .val (.ref b9), .unset, .unset, .unset] [(.ref b9)])) rfl (by rw [hml]; rfl) (Steps.refl _) (argsL := []) (rest := []) (lenOf pd_2 rfl) rfl (by show 2 * 0 + _ ≤ _; exact Nat.le_of_eq rfl) (hb hby at_31) (fun _ _ => ⟨rfl, e12, (by decide : 1 + 0 ≤ _), (by decide : 4 + 0 ≤ _)⟩)
  dsimp only [Pt.U, Pt.locs, Pt.cells, Pt.slots] at X13 l13 y13 z13 st13 hQ13
  subst l13 y13 z13
  obtain ⟨rfl, N13q, e13⟩ := hQ13
  have NF := Fr.app NF N13q
  refine own_go (fun _ k => st13.trans k) ?_
  show own_R _ _ _ _ (T13.setTop (mkF m 34 #[.val (.long q1), .second, .val (.long q2), .second, .val (.long q3), .second, .val (.long q4), .second, .val (.ref b9), .unset, .unset, .unset] [(.int (1 : Int32))]))
  refine own_go (fun _ k => XS.ifNo X13.here hx rfl (hb hby at_34) rfl ((if0 _ _).trans (feq (by decide : ¬ ((1 : Int32) = (0 : Int32)))).1) k) ?_
  show own_R _ _ _ _ (T13.setTop (mkF m 37 #[.val (.long q1), .second, .val (.long q2), .second, .val (.long q3), .second, .val (.long q4), .second, .val (.ref b9), .unset, .unset, .unset] []))
  refine own_go (fun _ k => XS.iconst X13.here hx rfl (hb hby at_37) k) ?_
  show own_R _ _ _ _ (T13.setTop (mkF m 38 #[.val (.long q1), .second, .val (.long q2), .second, .val (.long q3), .second, .val (.long q4), .second, .val (.ref b9), .unset, .unset, .unset] [(.int (1 : Int32))]))
  refine own_go (fun _ k => XS.goto X13.here hx rfl (pc0 := 38) (pc' := 42) rfl (hb hby at_38) (by decide) (by decide) k) ?_
  show own_R _ _ _ _ (T13.setTop (mkF m 42 #[.val (.long q1), .second, .val (.long q2), .second, .val (.long q3), .second, .val (.long q4), .second, .val (.ref b9), .unset, .unset, .unset] [(.int (1 : Int32))]))
  refine own_go (fun _ k => XS.istore X13.here hx rfl (hb hby at_42) rfl (l' := #[.val (.long q1), .second, .val (.long q2), .second, .val (.long q3), .second, .val (.long q4), .second, .val (.ref b9), .val (.int (1 : Int32)), .unset, .unset]) rfl k) ?_
  show own_R _ _ _ _ (T13.setTop (mkF m 44 #[.val (.long q1), .second, .val (.long q2), .second, .val (.long q3), .second, .val (.long q4), .second, .val (.ref b9), .val (.int (1 : Int32)), .unset, .unset] []))
  refine own_go (fun _ k => XS.aload X13.here hx rfl (hb hby at_44) rfl rfl k) ?_
  show own_R _ _ _ _ (T13.setTop (mkF m 46 #[.val (.long q1), .second, .val (.long q2), .second, .val (.long q3), .second, .val (.long q4), .second, .val (.ref b9), .val (.int (1 : Int32)), .unset, .unset] [(.ref b9)]))
  refine own_go (fun _ k => XS.lloadN X13.here hx rfl (hb hby at_46) rfl k) ?_
  show own_R _ _ _ _ (T13.setTop (mkF m 47 #[.val (.long q1), .second, .val (.long q2), .second, .val (.long q3), .second, .val (.long q4), .second, .val (.ref b9), .val (.int (1 : Int32)), .unset, .unset] [(.long q1), (.ref b9)]))
  refine own_go (fun _ k => XS.lloadN X13.here hx rfl (hb hby at_47) rfl k) ?_
  show own_R _ _ _ _ (T13.setTop (mkF m 48 #[.val (.long q1), .second, .val (.long q2), .second, .val (.long q3), .second, .val (.long q4), .second, .val (.ref b9), .val (.int (1 : Int32)), .unset, .unset] [(.long q2), (.long q1), (.ref b9)]))
  obtain ⟨cq14, kq14, q14a, q14b, q14c⟩ := isOf hZ e13 E_b9
  obtain ⟨_, _, ⟨T14, L14, k14, n14⟩, -, X14, ⟨Lc14, hQ14, l14, y14, z14⟩, st14⟩ := X13.virtualBack hx (y := (⟨"com/example/strict_pattern/strictpattern/regex/CodePointSet$Builder", "addAscii", "(JJ)V"⟩ : MethodName)) (z := (⟨"com/example/strict_pattern/strictpattern/regex/CodePointSet$Builder", "addAscii", "(JJ)V"⟩ : MethodName)) hown (mvT hZ (hw _ (List.mem_of_getElem? (i := 30) rfl))) (mvT hZ (hw _ (List.mem_of_getElem? (i := 31) rfl))) (notFace_of_selects (args := #[]) (mvT hZ (hw _ (List.mem_of_getElem? (i := 33) rfl)))) (mvT hZ (hw _ (List.mem_of_getElem? (i := 33) rfl))) (mvT hZ (hw _ (List.mem_of_getElem? (i := 32) rfl))) (by decide) (backOf (W := 0) (rm6 l Z a0 hw [] b9 q1 q2 (0 : Int64) (0 : Int64) (0 : Int32) h9 n0 ZS E_b9 F_asciiLow_b9 F_asciiHigh_b9 F_count_b9 g_b9) hZ (hw _ (List.mem_of_getElem? (i := 34) rfl)) (hw _ (List.mem_of_getElem? (i := 2) rfl)) (by decide) (by decide)) q14a q14c (g := (mkF m 48 #[.val (.long q1), .second, .val (.long q2), .second, .val (.long q3), .second, .val (.long q4), .second, .val (.ref b9), .val (.int (1 : Int32)), .unset, .unset] [(.long q2), (.long q1), (.ref b9)])) rfl (by rw [hml]; rfl) (Steps.refl _) (argsL := [(.long q1), (.long q2)]) (rest := []) (lenOf pd_3 rfl) rfl (by show 2 * 0 + _ ≤ _; exact Nat.le_of_eq rfl) (hb hby at_48) (fun _ _ => ⟨rfl, e13, (by decide : 1 + 0 ≤ _), (by decide : 4 + 0 ≤ _)⟩)
  dsimp only [Pt.U, Pt.locs, Pt.cells, Pt.slots] at X14 l14 y14 z14 st14 hQ14
  subst l14 y14 z14
  obtain ⟨h14, e14'⟩ : ∃ z, z = T14.heap := ⟨_, rfl⟩
  rw [← e14'] at hQ14
  have e14 : T14.heap = h14 := e14'.symm
  obtain ⟨rfl, N14q, K14, pp1, pp2, pp3⟩ := hQ14
  have NF := Fr.app NF N14q
  refine own_go (fun _ k => st14.trans k) ?_
  have E_b9 := E_b9.keep K14
  have ZS := Nat.le_trans ZS K14.1
  have KP := KP.trans K14 (allS (Or.inr sz_b9) all0)
  have F_asciiLow_b9 := pp1
  have F_asciiHigh_b9 := pp2
  have F_count_b9 := pp3
  show own_R _ _ _ _ (T14.setTop (mkF m 51 #[.val (.long q1), .second, .val (.long q2), .second, .val (.long q3), .second, .val (.long q4), .second, .val (.ref b9), .val (.int (1 : Int32)), .unset, .unset] []))
  refine own_go (fun _ k => XS.aload X14.here hx rfl (hb hby at_51) rfl rfl k) ?_
  show own_R _ _ _ _ (T14.setTop (mkF m 53 #[.val (.long q1), .second, .val (.long q2), .second, .val (.long q3), .second, .val (.long q4), .second, .val (.ref b9), .val (.int (1 : Int32)), .unset, .unset] [(.ref b9)]))
  obtain ⟨cq15, kq15, q15a, q15b, q15c⟩ := isOf hZ e14 E_b9
  obtain ⟨_, _, ⟨T15, L15, k15, n15⟩, -, X15, ⟨Lc15, hQ15, l15, y15, z15⟩, st15⟩ := X14.virtualBack hx (y := (⟨"com/example/strict_pattern/strictpattern/regex/CodePointSet$Builder", "asciiLow", "()J"⟩ : MethodName)) (z := (⟨"com/example/strict_pattern/strictpattern/regex/CodePointSet$Builder", "asciiLow", "()J"⟩ : MethodName)) hown (mvT hZ (hw _ (List.mem_of_getElem? (i := 9) rfl))) (mvT hZ (hw _ (List.mem_of_getElem? (i := 10) rfl))) (notFace_of_selects (args := #[]) (mvT hZ (hw _ (List.mem_of_getElem? (i := 12) rfl)))) (mvT hZ (hw _ (List.mem_of_getElem? (i := 12) rfl))) (mvT hZ (hw _ (List.mem_of_getElem? (i := 11) rfl))) (by decide) (backOf (W := 0) (rm3 l Z a0 hw [] b9 ((0 : Int64) ||| q1) h14 n0 ZS F_asciiLow_b9) hZ (hw _ (List.mem_of_getElem? (i := 13) rfl)) (hw _ (List.mem_of_getElem? (i := 2) rfl)) (by decide) (by decide)) q15a q15c (g := (mkF m 53 #[.val (.long q1), .second, .val (.long q2), .second, .val (.long q3), .second, .val (.long q4), .second, .val (.ref b9), .val (.int (1 : Int32)), .unset, .unset] [(.ref b9)])) rfl (by rw [hml]; rfl) (Steps.refl _) (argsL := []) (rest := []) (lenOf pd_1 rfl) rfl (by show 2 * 0 + _ ≤ _; exact Nat.le_of_eq rfl) (hb hby at_53) (fun _ _ => ⟨rfl, e14, (by decide : 1 + 0 ≤ _), (by decide : 4 + 0 ≤ _)⟩)
  dsimp only [Pt.U, Pt.locs, Pt.cells, Pt.slots] at X15 l15 y15 z15 st15 hQ15
  subst l15 y15 z15
  obtain ⟨rfl, N15q, e15⟩ := hQ15
  have NF := Fr.app NF N15q
  refine own_go (fun _ k => st15.trans k) ?_
  show own_R _ _ _ _ (T15.setTop (mkF m 56 #[.val (.long q1), .second, .val (.long q2), .second, .val (.long q3), .second, .val (.long q4), .second, .val (.ref b9), .val (.int (1 : Int32)), .unset, .unset] [(.long ((0 : Int64) ||| q1))]))
  refine own_go (fun _ k => XS.lloadN X15.here hx rfl (hb hby at_56) rfl k) ?_
  show own_R _ _ _ _ (T15.setTop (mkF m 57 #[.val (.long q1), .second, .val (.long q2), .second, .val (.long q3), .second, .val (.long q4), .second, .val (.ref b9), .val (.int (1 : Int32)), .unset, .unset] [(.long q1), (.long ((0 : Int64) ||| q1))]))
  refine own_go (fun _ k => XS.lcmp X15.here hx rfl (hb hby at_57) rfl k) ?_
  show own_R _ _ _ _ (T15.setTop (mkF m 58 #[.val (.long q1), .second, .val (.long q2), .second, .val (.long q3), .second, .val (.long q4), .second, .val (.ref b9), .val (.int (1 : Int32)), .unset, .unset] [(.int (lcmpW ((0 : Int64) ||| q1) q1))]))
  refine own_go (fun _ k => XS.ifNo X15.here hx rfl (hb hby at_58) rfl ((if0 _ _).trans (teq (own_lc0 (Int64.zero_or))).2) k) ?_
  show own_R _ _ _ _ (T15.setTop (mkF m 61 #[.val (.long q1), .second, .val (.long q2), .second, .val (.long q3), .second, .val (.long q4), .second, .val (.ref b9), .val (.int (1 : Int32)), .unset, .unset] []))
  refine own_go (fun _ k => XS.aload X15.here hx rfl (hb hby at_61) rfl rfl k) ?_
  show own_R _ _ _ _ (T15.setTop (mkF m 63 #[.val (.long q1), .second, .val (.long q2), .second, .val (.long q3), .second, .val (.long q4), .second, .val (.ref b9), .val (.int (1 : Int32)), .unset, .unset] [(.ref b9)]))
  obtain ⟨cq16, kq16, q16a, q16b, q16c⟩ := isOf hZ e15 E_b9
  obtain ⟨_, _, ⟨T16, L16, k16, n16⟩, -, X16, ⟨Lc16, hQ16, l16, y16, z16⟩, st16⟩ := X15.virtualBack hx (y := (⟨"com/example/strict_pattern/strictpattern/regex/CodePointSet$Builder", "asciiHigh", "()J"⟩ : MethodName)) (z := (⟨"com/example/strict_pattern/strictpattern/regex/CodePointSet$Builder", "asciiHigh", "()J"⟩ : MethodName)) hown (mvT hZ (hw _ (List.mem_of_getElem? (i := 16) rfl))) (mvT hZ (hw _ (List.mem_of_getElem? (i := 17) rfl))) (notFace_of_selects (args := #[]) (mvT hZ (hw _ (List.mem_of_getElem? (i := 19) rfl)))) (mvT hZ (hw _ (List.mem_of_getElem? (i := 19) rfl))) (mvT hZ (hw _ (List.mem_of_getElem? (i := 18) rfl))) (by decide) (backOf (W := 0) (rm4 l Z a0 hw [] b9 ((0 : Int64) ||| q2) h14 n0 ZS F_asciiHigh_b9) hZ (hw _ (List.mem_of_getElem? (i := 20) rfl)) (hw _ (List.mem_of_getElem? (i := 2) rfl)) (by decide) (by decide)) q16a q16c (g := (mkF m 63 #[.val (.long q1), .second, .val (.long q2), .second, .val (.long q3), .second, .val (.long q4), .second, .val (.ref b9), .val (.int (1 : Int32)), .unset, .unset] [(.ref b9)])) rfl (by rw [hml]; rfl) (Steps.refl _) (argsL := []) (rest := []) (lenOf pd_1 rfl) rfl (by show 2 * 0 + _ ≤ _; exact Nat.le_of_eq rfl) (hb hby at_63) (fun _ _ => ⟨rfl, e15, (by decide : 1 + 0 ≤ _), (by decide : 4 + 0 ≤ _)⟩)
  dsimp only [Pt.U, Pt.locs, Pt.cells, Pt.slots] at X16 l16 y16 z16 st16 hQ16
  subst l16 y16 z16
  obtain ⟨rfl, N16q, e16⟩ := hQ16
  have NF := Fr.app NF N16q
  refine own_go (fun _ k => st16.trans k) ?_
  show own_R _ _ _ _ (T16.setTop (mkF m 66 #[.val (.long q1), .second, .val (.long q2), .second, .val (.long q3), .second, .val (.long q4), .second, .val (.ref b9), .val (.int (1 : Int32)), .unset, .unset] [(.long ((0 : Int64) ||| q2))]))
  refine own_go (fun _ k => XS.lloadN X16.here hx rfl (hb hby at_66) rfl k) ?_
  show own_R _ _ _ _ (T16.setTop (mkF m 67 #[.val (.long q1), .second, .val (.long q2), .second, .val (.long q3), .second, .val (.long q4), .second, .val (.ref b9), .val (.int (1 : Int32)), .unset, .unset] [(.long q2), (.long ((0 : Int64) ||| q2))]))
  refine own_go (fun _ k => XS.lcmp X16.here hx rfl (hb hby at_67) rfl k) ?_
  show own_R _ _ _ _ (T16.setTop (mkF m 68 #[.val (.long q1), .second, .val (.long q2), .second, .val (.long q3), .second, .val (.long q4), .second, .val (.ref b9), .val (.int (1 : Int32)), .unset, .unset] [(.int (lcmpW ((0 : Int64) ||| q2) q2))]))
  refine own_go (fun _ k => XS.ifNo X16.here hx rfl (hb hby at_68) rfl ((if0 _ _).trans (teq (own_lc0 (Int64.zero_or))).2) k) ?_
  show own_R _ _ _ _ (T16.setTop (mkF m 71 #[.val (.long q1), .second, .val (.long q2), .second, .val (.long q3), .second, .val (.long q4), .second, .val (.ref b9), .val (.int (1 : Int32)), .unset, .unset] []))
  refine own_go (fun _ k => XS.aload X16.here hx rfl (hb hby at_71) rfl rfl k) ?_
  show own_R _ _ _ _ (T16.setTop (mkF m 73 #[.val (.long q1), .second, .val (.long q2), .second, .val (.long q3), .second, .val (.long q4), .second, .val (.ref b9), .val (.int (1 : Int32)), .unset, .unset] [(.ref b9)]))
  obtain ⟨cq17, kq17, q17a, q17b, q17c⟩ := isOf hZ e16 E_b9
  obtain ⟨_, _, ⟨T17, L17, k17, n17⟩, -, X17, ⟨Lc17, hQ17, l17, y17, z17⟩, st17⟩ := X16.virtualBack hx (y := (⟨"com/example/strict_pattern/strictpattern/regex/CodePointSet$Builder", "holdsAsciiAlone", "()Z"⟩ : MethodName)) (z := (⟨"com/example/strict_pattern/strictpattern/regex/CodePointSet$Builder", "holdsAsciiAlone", "()Z"⟩ : MethodName)) hown (mvT hZ (hw _ (List.mem_of_getElem? (i := 23) rfl))) (mvT hZ (hw _ (List.mem_of_getElem? (i := 24) rfl))) (notFace_of_selects (args := #[]) (mvT hZ (hw _ (List.mem_of_getElem? (i := 26) rfl)))) (mvT hZ (hw _ (List.mem_of_getElem? (i := 26) rfl))) (mvT hZ (hw _ (List.mem_of_getElem? (i := 25) rfl))) (by decide) (backOf (W := 0) (rm5 l Z a0 hw [] b9 (0 : Int32) h14 n0 ZS F_count_b9 rfl) hZ (hw _ (List.mem_of_getElem? (i := 27) rfl)) (hw _ (List.mem_of_getElem? (i := 2) rfl)) (by decide) (by decide)) q17a q17c (g := (mkF m 73 #[.val (.long q1), .second, .val (.long q2), .second, .val (.long q3), .second, .val (.long q4), .second, .val (.ref b9), .val (.int (1 : Int32)), .unset, .unset] [(.ref b9)])) rfl (by rw [hml]; rfl) (Steps.refl _) (argsL := []) (rest := []) (lenOf pd_2 rfl) rfl (by show 2 * 0 + _ ≤ _; exact Nat.le_of_eq rfl) (hb hby at_73) (fun _ _ => ⟨rfl, e16, (by decide : 1 + 0 ≤ _), (by decide : 4 + 0 ≤ _)⟩)
  dsimp only [Pt.U, Pt.locs, Pt.cells, Pt.slots] at X17 l17 y17 z17 st17 hQ17
  subst l17 y17 z17
  obtain ⟨rfl, N17q, e17⟩ := hQ17
  have NF := Fr.app NF N17q
  refine own_go (fun _ k => st17.trans k) ?_
  show own_R _ _ _ _ (T17.setTop (mkF m 76 #[.val (.long q1), .second, .val (.long q2), .second, .val (.long q3), .second, .val (.long q4), .second, .val (.ref b9), .val (.int (1 : Int32)), .unset, .unset] [(.int (1 : Int32))]))
  refine own_go (fun _ k => XS.ifNo X17.here hx rfl (hb hby at_76) rfl ((if0 _ _).trans (feq (by decide : ¬ ((1 : Int32) = (0 : Int32)))).1) k) ?_
  show own_R _ _ _ _ (T17.setTop (mkF m 79 #[.val (.long q1), .second, .val (.long q2), .second, .val (.long q3), .second, .val (.long q4), .second, .val (.ref b9), .val (.int (1 : Int32)), .unset, .unset] []))
  refine own_go (fun _ k => XS.iconst X17.here hx rfl (hb hby at_79) k) ?_
  show own_R _ _ _ _ (T17.setTop (mkF m 80 #[.val (.long q1), .second, .val (.long q2), .second, .val (.long q3), .second, .val (.long q4), .second, .val (.ref b9), .val (.int (1 : Int32)), .unset, .unset] [(.int (1 : Int32))]))
  refine own_go (fun _ k => XS.goto X17.here hx rfl (pc0 := 80) (pc' := 84) rfl (hb hby at_80) (by decide) (by decide) k) ?_
  show own_R _ _ _ _ (T17.setTop (mkF m 84 #[.val (.long q1), .second, .val (.long q2), .second, .val (.long q3), .second, .val (.long q4), .second, .val (.ref b9), .val (.int (1 : Int32)), .unset, .unset] [(.int (1 : Int32))]))
  refine own_go (fun _ k => XS.istore X17.here hx rfl (hb hby at_84) rfl (l' := #[.val (.long q1), .second, .val (.long q2), .second, .val (.long q3), .second, .val (.long q4), .second, .val (.ref b9), .val (.int (1 : Int32)), .val (.int (1 : Int32)), .unset]) rfl k) ?_
  show own_R _ _ _ _ (T17.setTop (mkF m 86 #[.val (.long q1), .second, .val (.long q2), .second, .val (.long q3), .second, .val (.long q4), .second, .val (.ref b9), .val (.int (1 : Int32)), .val (.int (1 : Int32)), .unset] []))
  refine own_go (fun _ k => XS.aload X17.here hx rfl (hb hby at_86) rfl rfl k) ?_
  show own_R _ _ _ _ (T17.setTop (mkF m 88 #[.val (.long q1), .second, .val (.long q2), .second, .val (.long q3), .second, .val (.long q4), .second, .val (.ref b9), .val (.int (1 : Int32)), .val (.int (1 : Int32)), .unset] [(.ref b9)]))
  refine own_go (fun _ k => XS.lload X17.here hx rfl (hb hby at_88) rfl k) ?_
  show own_R _ _ _ _ (T17.setTop (mkF m 90 #[.val (.long q1), .second, .val (.long q2), .second, .val (.long q3), .second, .val (.long q4), .second, .val (.ref b9), .val (.int (1 : Int32)), .val (.int (1 : Int32)), .unset] [(.long q3), (.ref b9)]))
  refine own_go (fun _ k => XS.lload X17.here hx rfl (hb hby at_90) rfl k) ?_
  show own_R _ _ _ _ (T17.setTop (mkF m 92 #[.val (.long q1), .second, .val (.long q2), .second, .val (.long q3), .second, .val (.long q4), .second, .val (.ref b9), .val (.int (1 : Int32)), .val (.int (1 : Int32)), .unset] [(.long q4), (.long q3), (.ref b9)]))
  obtain ⟨cq18, kq18, q18a, q18b, q18c⟩ := isOf hZ e17 E_b9
  obtain ⟨_, _, ⟨T18, L18, k18, n18⟩, -, X18, ⟨Lc18, hQ18, l18, y18, z18⟩, st18⟩ := X17.virtualBack hx (y := (⟨"com/example/strict_pattern/strictpattern/regex/CodePointSet$Builder", "addAscii", "(JJ)V"⟩ : MethodName)) (z := (⟨"com/example/strict_pattern/strictpattern/regex/CodePointSet$Builder", "addAscii", "(JJ)V"⟩ : MethodName)) hown (mvT hZ (hw _ (List.mem_of_getElem? (i := 30) rfl))) (mvT hZ (hw _ (List.mem_of_getElem? (i := 31) rfl))) (notFace_of_selects (args := #[]) (mvT hZ (hw _ (List.mem_of_getElem? (i := 33) rfl)))) (mvT hZ (hw _ (List.mem_of_getElem? (i := 33) rfl))) (mvT hZ (hw _ (List.mem_of_getElem? (i := 32) rfl))) (by decide) (backOf (W := 0) (rm6 l Z a0 hw [] b9 q3 q4 ((0 : Int64) ||| q1) ((0 : Int64) ||| q2) (0 : Int32) h14 n0 ZS E_b9 F_asciiLow_b9 F_asciiHigh_b9 F_count_b9 g_b9) hZ (hw _ (List.mem_of_getElem? (i := 34) rfl)) (hw _ (List.mem_of_getElem? (i := 2) rfl)) (by decide) (by decide)) q18a q18c (g := (mkF m 92 #[.val (.long q1), .second, .val (.long q2), .second, .val (.long q3), .second, .val (.long q4), .second, .val (.ref b9), .val (.int (1 : Int32)), .val (.int (1 : Int32)), .unset] [(.long q4), (.long q3), (.ref b9)])) rfl (by rw [hml]; rfl) (Steps.refl _) (argsL := [(.long q3), (.long q4)]) (rest := []) (lenOf pd_3 rfl) rfl (by show 2 * 0 + _ ≤ _; exact Nat.le_of_eq rfl) (hb hby at_92) (fun _ _ => ⟨rfl, e17, (by decide : 1 + 0 ≤ _), (by decide : 4 + 0 ≤ _)⟩)
  dsimp only [Pt.U, Pt.locs, Pt.cells, Pt.slots] at X18 l18 y18 z18 st18 hQ18
  subst l18 y18 z18
  obtain ⟨h18, e18'⟩ : ∃ z, z = T18.heap := ⟨_, rfl⟩
  rw [← e18'] at hQ18
  have e18 : T18.heap = h18 := e18'.symm
  obtain ⟨rfl, N18q, K18, pp1, pp2, pp3⟩ := hQ18
  have NF := Fr.app NF N18q
  refine own_go (fun _ k => st18.trans k) ?_
  have E_b9 := E_b9.keep K18
  have ZS := Nat.le_trans ZS K18.1
  have KP := KP.trans K18 (allS (Or.inr sz_b9) all0)
  have F_asciiLow_b9 := pp1
  have F_asciiHigh_b9 := pp2
  have F_count_b9 := pp3
  show own_R _ _ _ _ (T18.setTop (mkF m 95 #[.val (.long q1), .second, .val (.long q2), .second, .val (.long q3), .second, .val (.long q4), .second, .val (.ref b9), .val (.int (1 : Int32)), .val (.int (1 : Int32)), .unset] []))
  refine own_go (fun _ k => XS.aload X18.here hx rfl (hb hby at_95) rfl rfl k) ?_
  show own_R _ _ _ _ (T18.setTop (mkF m 97 #[.val (.long q1), .second, .val (.long q2), .second, .val (.long q3), .second, .val (.long q4), .second, .val (.ref b9), .val (.int (1 : Int32)), .val (.int (1 : Int32)), .unset] [(.ref b9)]))
  obtain ⟨cq19, kq19, q19a, q19b, q19c⟩ := isOf hZ e18 E_b9
  obtain ⟨_, _, ⟨T19, L19, k19, n19⟩, -, X19, ⟨Lc19, hQ19, l19, y19, z19⟩, st19⟩ := X18.virtualBack hx (y := (⟨"com/example/strict_pattern/strictpattern/regex/CodePointSet$Builder", "asciiLow", "()J"⟩ : MethodName)) (z := (⟨"com/example/strict_pattern/strictpattern/regex/CodePointSet$Builder", "asciiLow", "()J"⟩ : MethodName)) hown (mvT hZ (hw _ (List.mem_of_getElem? (i := 9) rfl))) (mvT hZ (hw _ (List.mem_of_getElem? (i := 10) rfl))) (notFace_of_selects (args := #[]) (mvT hZ (hw _ (List.mem_of_getElem? (i := 12) rfl)))) (mvT hZ (hw _ (List.mem_of_getElem? (i := 12) rfl))) (mvT hZ (hw _ (List.mem_of_getElem? (i := 11) rfl))) (by decide) (backOf (W := 0) (rm3 l Z a0 hw [] b9 (((0 : Int64) ||| q1) ||| q3) h18 n0 ZS F_asciiLow_b9) hZ (hw _ (List.mem_of_getElem? (i := 13) rfl)) (hw _ (List.mem_of_getElem? (i := 2) rfl)) (by decide) (by decide)) q19a q19c (g := (mkF m 97 #[.val (.long q1), .second, .val (.long q2), .second, .val (.long q3), .second, .val (.long q4), .second, .val (.ref b9), .val (.int (1 : Int32)), .val (.int (1 : Int32)), .unset] [(.ref b9)])) rfl (by rw [hml]; rfl) (Steps.refl _) (argsL := []) (rest := []) (lenOf pd_1 rfl) rfl (by show 2 * 0 + _ ≤ _; exact Nat.le_of_eq rfl) (hb hby at_97) (fun _ _ => ⟨rfl, e18, (by decide : 1 + 0 ≤ _), (by decide : 4 + 0 ≤ _)⟩)
  dsimp only [Pt.U, Pt.locs, Pt.cells, Pt.slots] at X19 l19 y19 z19 st19 hQ19
  subst l19 y19 z19
  obtain ⟨rfl, N19q, e19⟩ := hQ19
  have NF := Fr.app NF N19q
  refine own_go (fun _ k => st19.trans k) ?_
  show own_R _ _ _ _ (T19.setTop (mkF m 100 #[.val (.long q1), .second, .val (.long q2), .second, .val (.long q3), .second, .val (.long q4), .second, .val (.ref b9), .val (.int (1 : Int32)), .val (.int (1 : Int32)), .unset] [(.long (((0 : Int64) ||| q1) ||| q3))]))
  refine own_go (fun _ k => XS.lloadN X19.here hx rfl (hb hby at_100) rfl k) ?_
  show own_R _ _ _ _ (T19.setTop (mkF m 101 #[.val (.long q1), .second, .val (.long q2), .second, .val (.long q3), .second, .val (.long q4), .second, .val (.ref b9), .val (.int (1 : Int32)), .val (.int (1 : Int32)), .unset] [(.long q1), (.long (((0 : Int64) ||| q1) ||| q3))]))
  refine own_go (fun _ k => XS.lload X19.here hx rfl (hb hby at_101) rfl k) ?_
  show own_R _ _ _ _ (T19.setTop (mkF m 103 #[.val (.long q1), .second, .val (.long q2), .second, .val (.long q3), .second, .val (.long q4), .second, .val (.ref b9), .val (.int (1 : Int32)), .val (.int (1 : Int32)), .unset] [(.long q3), (.long q1), (.long (((0 : Int64) ||| q1) ||| q3))]))
  refine own_go (fun _ k => XS.lor X19.here hx rfl (hb hby at_103) rfl k) ?_
  show own_R _ _ _ _ (T19.setTop (mkF m 104 #[.val (.long q1), .second, .val (.long q2), .second, .val (.long q3), .second, .val (.long q4), .second, .val (.ref b9), .val (.int (1 : Int32)), .val (.int (1 : Int32)), .unset] [(.long (q1 ||| q3)), (.long (((0 : Int64) ||| q1) ||| q3))]))
  refine own_go (fun _ k => XS.lcmp X19.here hx rfl (hb hby at_104) rfl k) ?_
  show own_R _ _ _ _ (T19.setTop (mkF m 105 #[.val (.long q1), .second, .val (.long q2), .second, .val (.long q3), .second, .val (.long q4), .second, .val (.ref b9), .val (.int (1 : Int32)), .val (.int (1 : Int32)), .unset] [(.int (lcmpW (((0 : Int64) ||| q1) ||| q3) (q1 ||| q3)))]))
  refine own_go (fun _ k => XS.ifNo X19.here hx rfl (hb hby at_105) rfl ((if0 _ _).trans (teq (own_lc0 (congrArg (· ||| _) Int64.zero_or))).2) k) ?_
  show own_R _ _ _ _ (T19.setTop (mkF m 108 #[.val (.long q1), .second, .val (.long q2), .second, .val (.long q3), .second, .val (.long q4), .second, .val (.ref b9), .val (.int (1 : Int32)), .val (.int (1 : Int32)), .unset] []))
  refine own_go (fun _ k => XS.aload X19.here hx rfl (hb hby at_108) rfl rfl k) ?_
  show own_R _ _ _ _ (T19.setTop (mkF m 110 #[.val (.long q1), .second, .val (.long q2), .second, .val (.long q3), .second, .val (.long q4), .second, .val (.ref b9), .val (.int (1 : Int32)), .val (.int (1 : Int32)), .unset] [(.ref b9)]))
  obtain ⟨cq20, kq20, q20a, q20b, q20c⟩ := isOf hZ e19 E_b9
  obtain ⟨_, _, ⟨T20, L20, k20, n20⟩, -, X20, ⟨Lc20, hQ20, l20, y20, z20⟩, st20⟩ := X19.virtualBack hx (y := (⟨"com/example/strict_pattern/strictpattern/regex/CodePointSet$Builder", "asciiHigh", "()J"⟩ : MethodName)) (z := (⟨"com/example/strict_pattern/strictpattern/regex/CodePointSet$Builder", "asciiHigh", "()J"⟩ : MethodName)) hown (mvT hZ (hw _ (List.mem_of_getElem? (i := 16) rfl))) (mvT hZ (hw _ (List.mem_of_getElem? (i := 17) rfl))) (notFace_of_selects (args := #[]) (mvT hZ (hw _ (List.mem_of_getElem? (i := 19) rfl)))) (mvT hZ (hw _ (List.mem_of_getElem? (i := 19) rfl))) (mvT hZ (hw _ (List.mem_of_getElem? (i := 18) rfl))) (by decide) (backOf (W := 0) (rm4 l Z a0 hw [] b9 (((0 : Int64) ||| q2) ||| q4) h18 n0 ZS F_asciiHigh_b9) hZ (hw _ (List.mem_of_getElem? (i := 20) rfl)) (hw _ (List.mem_of_getElem? (i := 2) rfl)) (by decide) (by decide)) q20a q20c (g := (mkF m 110 #[.val (.long q1), .second, .val (.long q2), .second, .val (.long q3), .second, .val (.long q4), .second, .val (.ref b9), .val (.int (1 : Int32)), .val (.int (1 : Int32)), .unset] [(.ref b9)])) rfl (by rw [hml]; rfl) (Steps.refl _) (argsL := []) (rest := []) (lenOf pd_1 rfl) rfl (by show 2 * 0 + _ ≤ _; exact Nat.le_of_eq rfl) (hb hby at_110) (fun _ _ => ⟨rfl, e19, (by decide : 1 + 0 ≤ _), (by decide : 4 + 0 ≤ _)⟩)
  dsimp only [Pt.U, Pt.locs, Pt.cells, Pt.slots] at X20 l20 y20 z20 st20 hQ20
  subst l20 y20 z20
  obtain ⟨rfl, N20q, e20⟩ := hQ20
  have NF := Fr.app NF N20q
  refine own_go (fun _ k => st20.trans k) ?_
  show own_R _ _ _ _ (T20.setTop (mkF m 113 #[.val (.long q1), .second, .val (.long q2), .second, .val (.long q3), .second, .val (.long q4), .second, .val (.ref b9), .val (.int (1 : Int32)), .val (.int (1 : Int32)), .unset] [(.long (((0 : Int64) ||| q2) ||| q4))]))
  refine own_go (fun _ k => XS.lloadN X20.here hx rfl (hb hby at_113) rfl k) ?_
  show own_R _ _ _ _ (T20.setTop (mkF m 114 #[.val (.long q1), .second, .val (.long q2), .second, .val (.long q3), .second, .val (.long q4), .second, .val (.ref b9), .val (.int (1 : Int32)), .val (.int (1 : Int32)), .unset] [(.long q2), (.long (((0 : Int64) ||| q2) ||| q4))]))
  refine own_go (fun _ k => XS.lload X20.here hx rfl (hb hby at_114) rfl k) ?_
  show own_R _ _ _ _ (T20.setTop (mkF m 116 #[.val (.long q1), .second, .val (.long q2), .second, .val (.long q3), .second, .val (.long q4), .second, .val (.ref b9), .val (.int (1 : Int32)), .val (.int (1 : Int32)), .unset] [(.long q4), (.long q2), (.long (((0 : Int64) ||| q2) ||| q4))]))
  refine own_go (fun _ k => XS.lor X20.here hx rfl (hb hby at_116) rfl k) ?_
  show own_R _ _ _ _ (T20.setTop (mkF m 117 #[.val (.long q1), .second, .val (.long q2), .second, .val (.long q3), .second, .val (.long q4), .second, .val (.ref b9), .val (.int (1 : Int32)), .val (.int (1 : Int32)), .unset] [(.long (q2 ||| q4)), (.long (((0 : Int64) ||| q2) ||| q4))]))
  refine own_go (fun _ k => XS.lcmp X20.here hx rfl (hb hby at_117) rfl k) ?_
  show own_R _ _ _ _ (T20.setTop (mkF m 118 #[.val (.long q1), .second, .val (.long q2), .second, .val (.long q3), .second, .val (.long q4), .second, .val (.ref b9), .val (.int (1 : Int32)), .val (.int (1 : Int32)), .unset] [(.int (lcmpW (((0 : Int64) ||| q2) ||| q4) (q2 ||| q4)))]))
  refine own_go (fun _ k => XS.ifNo X20.here hx rfl (hb hby at_118) rfl ((if0 _ _).trans (teq (own_lc0 (congrArg (· ||| _) Int64.zero_or))).2) k) ?_
  show own_R _ _ _ _ (T20.setTop (mkF m 121 #[.val (.long q1), .second, .val (.long q2), .second, .val (.long q3), .second, .val (.long q4), .second, .val (.ref b9), .val (.int (1 : Int32)), .val (.int (1 : Int32)), .unset] []))
  refine own_go (fun _ k => XS.aload X20.here hx rfl (hb hby at_121) rfl rfl k) ?_
  show own_R _ _ _ _ (T20.setTop (mkF m 123 #[.val (.long q1), .second, .val (.long q2), .second, .val (.long q3), .second, .val (.long q4), .second, .val (.ref b9), .val (.int (1 : Int32)), .val (.int (1 : Int32)), .unset] [(.ref b9)]))
  obtain ⟨cq21, kq21, q21a, q21b, q21c⟩ := isOf hZ e20 E_b9
  obtain ⟨_, _, ⟨T21, L21, k21, n21⟩, -, X21, ⟨Lc21, hQ21, l21, y21, z21⟩, st21⟩ := X20.virtualBack hx (y := (⟨"com/example/strict_pattern/strictpattern/regex/CodePointSet$Builder", "holdsAsciiAlone", "()Z"⟩ : MethodName)) (z := (⟨"com/example/strict_pattern/strictpattern/regex/CodePointSet$Builder", "holdsAsciiAlone", "()Z"⟩ : MethodName)) hown (mvT hZ (hw _ (List.mem_of_getElem? (i := 23) rfl))) (mvT hZ (hw _ (List.mem_of_getElem? (i := 24) rfl))) (notFace_of_selects (args := #[]) (mvT hZ (hw _ (List.mem_of_getElem? (i := 26) rfl)))) (mvT hZ (hw _ (List.mem_of_getElem? (i := 26) rfl))) (mvT hZ (hw _ (List.mem_of_getElem? (i := 25) rfl))) (by decide) (backOf (W := 0) (rm5 l Z a0 hw [] b9 (0 : Int32) h18 n0 ZS F_count_b9 rfl) hZ (hw _ (List.mem_of_getElem? (i := 27) rfl)) (hw _ (List.mem_of_getElem? (i := 2) rfl)) (by decide) (by decide)) q21a q21c (g := (mkF m 123 #[.val (.long q1), .second, .val (.long q2), .second, .val (.long q3), .second, .val (.long q4), .second, .val (.ref b9), .val (.int (1 : Int32)), .val (.int (1 : Int32)), .unset] [(.ref b9)])) rfl (by rw [hml]; rfl) (Steps.refl _) (argsL := []) (rest := []) (lenOf pd_2 rfl) rfl (by show 2 * 0 + _ ≤ _; exact Nat.le_of_eq rfl) (hb hby at_123) (fun _ _ => ⟨rfl, e20, (by decide : 1 + 0 ≤ _), (by decide : 4 + 0 ≤ _)⟩)
  dsimp only [Pt.U, Pt.locs, Pt.cells, Pt.slots] at X21 l21 y21 z21 st21 hQ21
  subst l21 y21 z21
  obtain ⟨rfl, N21q, e21⟩ := hQ21
  have NF := Fr.app NF N21q
  refine own_go (fun _ k => st21.trans k) ?_
  show own_R _ _ _ _ (T21.setTop (mkF m 126 #[.val (.long q1), .second, .val (.long q2), .second, .val (.long q3), .second, .val (.long q4), .second, .val (.ref b9), .val (.int (1 : Int32)), .val (.int (1 : Int32)), .unset] [(.int (1 : Int32))]))
  refine own_go (fun _ k => XS.ifNo X21.here hx rfl (hb hby at_126) rfl ((if0 _ _).trans (feq (by decide : ¬ ((1 : Int32) = (0 : Int32)))).1) k) ?_
  show own_R _ _ _ _ (T21.setTop (mkF m 129 #[.val (.long q1), .second, .val (.long q2), .second, .val (.long q3), .second, .val (.long q4), .second, .val (.ref b9), .val (.int (1 : Int32)), .val (.int (1 : Int32)), .unset] []))
  refine own_go (fun _ k => XS.iconst X21.here hx rfl (hb hby at_129) k) ?_
  show own_R _ _ _ _ (T21.setTop (mkF m 130 #[.val (.long q1), .second, .val (.long q2), .second, .val (.long q3), .second, .val (.long q4), .second, .val (.ref b9), .val (.int (1 : Int32)), .val (.int (1 : Int32)), .unset] [(.int (1 : Int32))]))
  refine own_go (fun _ k => XS.goto X21.here hx rfl (pc0 := 130) (pc' := 134) rfl (hb hby at_130) (by decide) (by decide) k) ?_
  show own_R _ _ _ _ (T21.setTop (mkF m 134 #[.val (.long q1), .second, .val (.long q2), .second, .val (.long q3), .second, .val (.long q4), .second, .val (.ref b9), .val (.int (1 : Int32)), .val (.int (1 : Int32)), .unset] [(.int (1 : Int32))]))
  refine own_go (fun _ k => XS.istore X21.here hx rfl (hb hby at_134) rfl (l' := #[.val (.long q1), .second, .val (.long q2), .second, .val (.long q3), .second, .val (.long q4), .second, .val (.ref b9), .val (.int (1 : Int32)), .val (.int (1 : Int32)), .val (.int (1 : Int32))]) rfl k) ?_
  show own_R _ _ _ _ (T21.setTop (mkF m 136 #[.val (.long q1), .second, .val (.long q2), .second, .val (.long q3), .second, .val (.long q4), .second, .val (.ref b9), .val (.int (1 : Int32)), .val (.int (1 : Int32)), .val (.int (1 : Int32))] []))
  refine own_go (fun _ k => XS.iload X21.here hx rfl (hb hby at_136) rfl k) ?_
  show own_R _ _ _ _ (T21.setTop (mkF m 138 #[.val (.long q1), .second, .val (.long q2), .second, .val (.long q3), .second, .val (.long q4), .second, .val (.ref b9), .val (.int (1 : Int32)), .val (.int (1 : Int32)), .val (.int (1 : Int32))] [(.int (1 : Int32))]))
  refine own_go (fun _ k => XS.ifNo X21.here hx rfl (hb hby at_138) rfl ((if0 _ _).trans (feq (by decide : ¬ ((1 : Int32) = (0 : Int32)))).1) k) ?_
  show own_R _ _ _ _ (T21.setTop (mkF m 141 #[.val (.long q1), .second, .val (.long q2), .second, .val (.long q3), .second, .val (.long q4), .second, .val (.ref b9), .val (.int (1 : Int32)), .val (.int (1 : Int32)), .val (.int (1 : Int32))] []))
  refine own_go (fun _ k => XS.iload X21.here hx rfl (hb hby at_141) rfl k) ?_
  show own_R _ _ _ _ (T21.setTop (mkF m 143 #[.val (.long q1), .second, .val (.long q2), .second, .val (.long q3), .second, .val (.long q4), .second, .val (.ref b9), .val (.int (1 : Int32)), .val (.int (1 : Int32)), .val (.int (1 : Int32))] [(.int (1 : Int32))]))
  refine own_go (fun _ k => XS.ifNo X21.here hx rfl (hb hby at_143) rfl ((if0 _ _).trans (feq (by decide : ¬ ((1 : Int32) = (0 : Int32)))).1) k) ?_
  show own_R _ _ _ _ (T21.setTop (mkF m 146 #[.val (.long q1), .second, .val (.long q2), .second, .val (.long q3), .second, .val (.long q4), .second, .val (.ref b9), .val (.int (1 : Int32)), .val (.int (1 : Int32)), .val (.int (1 : Int32))] []))
  refine own_go (fun _ k => XS.iload X21.here hx rfl (hb hby at_146) rfl k) ?_
  show own_R _ _ _ _ (T21.setTop (mkF m 148 #[.val (.long q1), .second, .val (.long q2), .second, .val (.long q3), .second, .val (.long q4), .second, .val (.ref b9), .val (.int (1 : Int32)), .val (.int (1 : Int32)), .val (.int (1 : Int32))] [(.int (1 : Int32))]))
  refine own_go (fun _ k => XS.ifNo X21.here hx rfl (hb hby at_148) rfl ((if0 _ _).trans (feq (by decide : ¬ ((1 : Int32) = (0 : Int32)))).1) k) ?_
  show own_R _ _ _ _ (T21.setTop (mkF m 151 #[.val (.long q1), .second, .val (.long q2), .second, .val (.long q3), .second, .val (.long q4), .second, .val (.ref b9), .val (.int (1 : Int32)), .val (.int (1 : Int32)), .val (.int (1 : Int32))] []))
  refine own_go (fun _ k => XS.iconst X21.here hx rfl (hb hby at_151) k) ?_
  show own_R _ _ _ _ (T21.setTop (mkF m 152 #[.val (.long q1), .second, .val (.long q2), .second, .val (.long q3), .second, .val (.long q4), .second, .val (.ref b9), .val (.int (1 : Int32)), .val (.int (1 : Int32)), .val (.int (1 : Int32))] [(.int (1 : Int32))]))
  refine own_go (fun _ k => XS.goto X21.here hx rfl (pc0 := 152) (pc' := 156) rfl (hb hby at_152) (by decide) (by decide) k) ?_
  show own_R _ _ _ _ (T21.setTop (mkF m 156 #[.val (.long q1), .second, .val (.long q2), .second, .val (.long q3), .second, .val (.long q4), .second, .val (.ref b9), .val (.int (1 : Int32)), .val (.int (1 : Int32)), .val (.int (1 : Int32))] [(.int (1 : Int32))]))
  exact own_retN X21 hx (t := .boolean) (by simp) Bd.returns (hb hby at_156) hlk ⟨rfl, NF⟩ (by decide) (by decide)
set_option maxRecDepth 65536 in
set_option maxHeartbeats 40000000 in
theorem comes_1 {Post : Tables → Env → Array Value → State → Outcome → State → Prop} (hpost : ∀ tb e args s v u, (limb_1_1.after args s (.returned v) u = true ∧ limb_1_2.after args s (.returned v) u = true ∧ True) → FrameEnd s (.returned v) u (Jvm.fieldLocs frame_1_writes args s ++ Jvm.arrayLocs frame_1_arrays args s ++ Jvm.staticLocs frame_1_statics s) 16 128 → Post tb e args s (.returned v) u) :
    ArmFor flags0 classFile x code maxLocals ret World_1 tables_1 room_1 Calls_1 rest_1 Pre_1 Post := by
  intro l hfl _ _ p e ha hc hk s m args below hf hA hF happ hP
  obtain ⟨hcalls, hrest, hpre⟩ := hP
  obtain ⟨-, -, -, hnamed, -, -, -, hat⟩ := (Spec.applies_iff hf).mp happ
  obtain ⟨hg, hn⟩ := and_e (Cond.before_iff.mp (show (Jvm.Cond.and given_1 narrow_1).before args s = true from hpre))
  obtain ⟨g1, g2⟩ := and_e hg
  obtain ⟨g3, g4⟩ := and_e g2
  obtain ⟨g5, g6⟩ := and_e g4
  obtain ⟨g7, g8⟩ := and_e g6
  obtain ⟨w0, w1, w2, w3, rfl⟩ : ∃ w0 w1 w2 w3 : Value, args = #[w0, w1, w2, w3] := by
    have hs : args.size = 4 := by simpa [Cond.value, given_1] using g1
    obtain ⟨L⟩ := args
    match L, hs with
    | [w0, w1, w2, w3], _ => exact ⟨w0, w1, w2, w3, rfl⟩
  have hw := fun d (hd : d ∈ tables_1) => atoms_spec (ws := Jvm.Cond.code x code maxLocals ret :: tables_1) hat d (List.mem_cons_of_mem _ hd)
  have hfit : Fit s := fun {y c} hc i hi => by
    obtain ⟨ha, rfl⟩ := Array.getElem?_eq_some_iff.mp hc
    have q := List.all_eq_true.mp ((Array.all_eq_true_iff_forall_mem.mp hF) _ (Array.getElem_mem ha)) i (List.mem_range.mpr hi)
    simpa [Array.getElem?_eq_getElem hi] using q
  obtain ⟨i0, ei0⟩ := isL_v g3
  obtain rfl : w0 = (.long i0) := Option.some.inj ei0
  obtain ⟨i1, ei1⟩ := isL_v g5
  obtain rfl : w1 = (.long i1) := Option.some.inj ei1
  obtain ⟨i2, ei2⟩ := isL_v g7
  obtain rfl : w2 = (.long i2) := Option.some.inj ei2
  obtain ⟨i3, ei3⟩ := isL_v g8
  obtain rfl : w3 = (.long i3) := Option.some.inj ei3
  obtain ⟨n, o, h1, h2, h3, _, L, rfl, ⟨rfl, N⟩, hq⟩ := rm0 l s _ hw tables_1 i0 i1 i2 i3 s.heap s.heap.size (Nat.le_refl _) p e ha hc hk s m _ below hf ((Spec.applies_iff_loose hf).mp happ).1 ⟨rfl, State.Warmed39.refl s, rfl⟩ trivial
  refine ⟨n, _, h1, h2, h3, hpost _ _ _ _ _ _ ⟨Cond.after_iff.mpr rfl, Cond.after_iff.mpr (eq_i res_at (Term.int_eval (1)) rfl), trivial⟩ ⟨hq.1, hq.2.1, (hq.2.2.sift fun y hy => Or.inr (N y hy)).mono (by decide) (by decide)⟩⟩
theorem main_1_1 : Claimed_1_1 := comes_1 fun _ _ _ _ _ _ h hF => ⟨h.1, hF⟩
theorem main_1_2 : Claimed_1_2 := comes_1 fun _ _ _ _ _ _ h hF => ⟨h.2.1, hF⟩
end Jvm.Pilot.@@N@@
namespace Jvm.Pilot.@@N@@
open Jvm Jvm.ClassFile Sem Op Lib Jvm.Free Jvm.Stand Jvm.Pilot.@@N@@.Jvm.D
/-! MADE BY PROGRAM (witnessworld.py) out of the Statement's table words and the real class files: 9 classes; the members and pool entries that the words name. The judged class is class 1, her method 1. -/
namespace start1
open Jvm.ClassFile
def u (s : String) : CpInfo := .utf8 (stringToUtf16 s)
/-- a pool by its gaps: so many unusable entries, then the entry; so many at the end -/
def gap : Nat → List CpInfo → List CpInfo
  | 0, r => r
  | n + 1, r => .unusable :: gap n r
def poolList (es : List (Nat × CpInfo)) (last : Nat) : List CpInfo := es.foldr (fun e r => gap e.1 (e.2 :: r)) (gap last [])
def pool (es : List (Nat × CpInfo)) (last : Nat) : Array CpInfo := ⟨poolList es last⟩
def fileOf (pool : Array CpInfo) (this : Nat) (attrs : Array Attribute := #[]) (ms : Array MethodInfo := #[]) (fl : Nat := 33) (sup : Nat := 0) (ifs : Array Nat := #[]) (fds : Array FieldInfo := #[]) : ClassFile where
  minorVersion := 0
  majorVersion := 65
  constantPool := pool
  accessFlags := fl
  thisClass := this
  superClass := sup
  interfaces := ifs
  fields := fds
  methods := ms
  attributes := attrs
def plain (name : String) (sup : Option ClassId) : Class where
  name := name
  kind := .ordinary
  loader := none
  accessFlags := 33
  super := sup
  interfaces := #[]
  cf := none
  fields := #[]
  methods := #[]
  instanceTypes := #[]
  staticTypes := #[]
  resolved := #[]
  callSites := []
  init := .initialized
  statics := none
  mirror := none

def pool0 : Array CpInfo := pool [(5, u "<init>"), (0, u "()V"), (1, .class_ 10), (1, u "java/lang/Object")] 113

def k0c0 : Code := { maxStack := 0, maxLocals := 1, code := object_method_1_code, exceptionTable := #[], attributes := #[] }
def k0m0 : Method := { name := "<init>", desc := "()V", sig := { parameters := [], returnType := none }, accessFlags := 1, code := some k0c0 }
/-- java/lang/Object -/
def k0 : Class := { plain "java/lang/Object" none with
  accessFlags := 33
  interfaces := #[]
  cf := some (fileOf pool0 8 #[] #[{ accessFlags := 1, nameIndex := 5, descriptorIndex := 6, attributes := #[] }] 33 0 #[] #[])
  fields := #[]
  methods := #[k0m0]
  instanceTypes := #[]
  staticTypes := #[]
  resolved := Array.replicate 124 none
  statics := none }

def pool1 : Array CpInfo := pool [(2, .class_ 4), (0, .nameAndType 5 6), (0, u "java/lang/Object"), (0, u "<init>"), (0, u "()V"), (0, .class_ 8), (0, u "com/example/strict_pattern/strictpattern/regex/CodePointSet$Builder"), (0, .methodref 7 3), (0, .methodref 7 11), (0, .nameAndType 12 13), (0, u "asciiLow"), (0, u "()J"), (0, .methodref 7 15), (0, .nameAndType 16 13), (0, u "asciiHigh"), (0, .methodref 7 18), (0, .nameAndType 19 20), (0, u "holdsAsciiAlone"), (0, u "()Z"), (0, .methodref 7 22), (0, .nameAndType 23 24), (0, u "addAscii"), (0, u "(JJ)V"), (0, .class_ 26), (0, u "com/example/strict_pattern/strictpattern/regex/BuilderAddAsciiPinLaw"), (2, u "law"), (0, u "(JJJJ)Z")] 7

def k1m0 : Method := { name := "<init>", desc := "()V", sig := { parameters := [], returnType := none }, accessFlags := 1, code := none }
def k1c1 : Code := { maxStack := 6, maxLocals := 12, code := code, exceptionTable := #[], attributes := #[] }
def k1m1 : Method := { name := "law", desc := "(JJJJ)Z", sig := { parameters := [.long, .long, .long, .long], returnType := some .boolean }, accessFlags := 9, code := some k1c1 }
/-- com/example/strict_pattern/strictpattern/regex/BuilderAddAsciiPinLaw -/
def k1 : Class := { plain "com/example/strict_pattern/strictpattern/regex/BuilderAddAsciiPinLaw" (some 0) with
  accessFlags := 49
  interfaces := #[]
  cf := some (fileOf pool1 25 #[] #[{ accessFlags := 1, nameIndex := 5, descriptorIndex := 6, attributes := #[] }, { accessFlags := 9, nameIndex := 29, descriptorIndex := 30, attributes := #[] }] 49 2 #[] #[])
  fields := #[]
  methods := #[k1m0, k1m1]
  instanceTypes := #[]
  staticTypes := #[]
  resolved := Array.replicate 38 none
  statics := none }

def pool2 : Array CpInfo := pool [(1, .class_ 2), (0, u "com/example/strict_pattern/strictpattern/regex/CodePointSet"), (0, .methodref 4 5), (0, .class_ 6), (0, .nameAndType 7 8), (0, u "java/lang/Object"), (0, u "<init>"), (0, u "()V"), (0, .fieldref 10 11), (0, .class_ 12), (0, .nameAndType 13 14), (0, u "com/example/strict_pattern/strictpattern/regex/CodePointSet$Builder"), (0, u "asciiLow"), (0, u "J"), (0, .fieldref 10 16), (0, .nameAndType 17 14), (0, u "asciiHigh"), (18, u "ranges"), (5, .fieldref 10 43), (0, .nameAndType 44 45), (0, u "count"), (0, u "I"), (6, u "[J"), (38, u "EVERY_RANGE_PAST_ASCII"), (7, u "addAscii"), (0, u "(JJ)V"), (0, u "holdsAsciiAlone"), (0, u "()Z"), (0, u "()J")] 8

def k2c0 : Code := { maxStack := 1, maxLocals := 1, code := prog_18_method_1_code, exceptionTable := #[], attributes := #[] }
def k2m0 : Method := { name := "<init>", desc := "()V", sig := { parameters := [], returnType := none }, accessFlags := 0, code := some k2c0 }
def k2c1 : Code := { maxStack := 5, maxLocals := 5, code := prog_18_method_5_code, exceptionTable := #[], attributes := #[] }
def k2m1 : Method := { name := "addAscii", desc := "(JJ)V", sig := { parameters := [.long, .long], returnType := none }, accessFlags := 0, code := some k2c1 }
def k2c2 : Code := { maxStack := 1, maxLocals := 1, code := prog_18_method_8_code, exceptionTable := #[], attributes := #[] }
def k2m2 : Method := { name := "holdsAsciiAlone", desc := "()Z", sig := { parameters := [], returnType := some .boolean }, accessFlags := 0, code := some k2c2 }
def k2c3 : Code := { maxStack := 2, maxLocals := 1, code := prog_18_method_9_code, exceptionTable := #[], attributes := #[] }
def k2m3 : Method := { name := "asciiLow", desc := "()J", sig := { parameters := [], returnType := some .long }, accessFlags := 0, code := some k2c3 }
def k2c4 : Code := { maxStack := 2, maxLocals := 1, code := prog_18_method_10_code, exceptionTable := #[], attributes := #[] }
def k2m4 : Method := { name := "asciiHigh", desc := "()J", sig := { parameters := [], returnType := some .long }, accessFlags := 0, code := some k2c4 }
/-- com/example/strict_pattern/strictpattern/regex/CodePointSet$Builder -/
def k2 : Class := { plain "com/example/strict_pattern/strictpattern/regex/CodePointSet$Builder" (some 0) with
  accessFlags := 32
  interfaces := #[]
  cf := some (fileOf pool2 10 #[.nestHost 1] #[{ accessFlags := 0, nameIndex := 7, descriptorIndex := 8, attributes := #[] }, { accessFlags := 0, nameIndex := 99, descriptorIndex := 100, attributes := #[] }, { accessFlags := 0, nameIndex := 101, descriptorIndex := 102, attributes := #[] }, { accessFlags := 0, nameIndex := 13, descriptorIndex := 103, attributes := #[] }, { accessFlags := 0, nameIndex := 17, descriptorIndex := 103, attributes := #[] }] 32 4 #[] #[{ accessFlags := 26, nameIndex := 91, descriptorIndex := 52, attributes := #[] }, { accessFlags := 2, nameIndex := 13, descriptorIndex := 14, attributes := #[] }, { accessFlags := 2, nameIndex := 17, descriptorIndex := 14, attributes := #[] }, { accessFlags := 2, nameIndex := 36, descriptorIndex := 52, attributes := #[] }, { accessFlags := 2, nameIndex := 44, descriptorIndex := 45, attributes := #[] }])
  fields := #[{ name := "EVERY_RANGE_PAST_ASCII", type := (.array .long), accessFlags := 26, slot := 0, constantValue := 0 }, { name := "asciiLow", type := .long, accessFlags := 2, slot := 0, constantValue := 0 }, { name := "asciiHigh", type := .long, accessFlags := 2, slot := 1, constantValue := 0 }, { name := "ranges", type := (.array .long), accessFlags := 2, slot := 2, constantValue := 0 }, { name := "count", type := .int, accessFlags := 2, slot := 3, constantValue := 0 }]
  methods := #[k2m0, k2m1, k2m2, k2m3, k2m4]
  instanceTypes := #[.long, .long, (.array .long), .int]
  staticTypes := #[(.array .long)]
  resolved := Array.replicate 112 none
  statics := none }

def pool3 : Array CpInfo := pool [(1, u "java/lang/Cloneable"), (0, .class_ 1), (0, u "java/lang/Object"), (0, .class_ 3)] 3

/-- java/lang/Cloneable -/
def k3 : Class := { plain "java/lang/Cloneable" (some 0) with
  accessFlags := 1537
  interfaces := #[]
  cf := some (fileOf pool3 2 #[] #[] 1537 4 #[] #[])
  fields := #[]
  methods := #[]
  instanceTypes := #[]
  staticTypes := #[]
  resolved := Array.replicate 8 none
  statics := none }

def pool4 : Array CpInfo := pool [(1, u "java/io/Serializable"), (0, .class_ 1), (0, u "java/lang/Object"), (0, .class_ 3)] 3

/-- java/io/Serializable -/
def k4 : Class := { plain "java/io/Serializable" (some 0) with
  accessFlags := 1537
  interfaces := #[]
  cf := some (fileOf pool4 2 #[] #[] 1537 4 #[] #[])
  fields := #[]
  methods := #[]
  instanceTypes := #[]
  staticTypes := #[]
  resolved := Array.replicate 8 none
  statics := none }

/-- the primitive byte -/
def k5 : Class := { plain "byte" none with kind := .primitive 'B', accessFlags := 0x411 }
/-- [B -/
def k6 : Class := { plain "[B" (some 0) with kind := .array 5 .byte, interfaces := #[3, 4], accessFlags := 1041 }

/-- the primitive int -/
def k7 : Class := { plain "int" none with kind := .primitive 'I', accessFlags := 0x411 }
/-- [I -/
def k8 : Class := { plain "[I" (some 0) with kind := .array 7 .int, interfaces := #[3, 4], accessFlags := 1041 }

def heap : Heap := #[]
def classes : Array Class := #[k0, k1, k2, k3, k4, k5, k6, k7, k8]
def interned : List (Array UInt16 × Addr) := []
def slotsUsed : Nat := 0
def theMethod : MethodId := ⟨1, 1⟩
def args0 : Array Value := #[.long 5, .long 5, .long 5, .long 5]
def aboutOver (below : List Frame) : State where
  vm := { classes := classes, interned := interned.toArray }
  heap := heap
  slotsUsed := slotsUsed
  threads := #[{ frames := .invoking theMethod args0 :: below }]
def below0 : List Frame := [.native { method := ⟨0, 0⟩, args := #[] }]
def about1 : State := aboutOver below0
def p0 : Program := .bare "" "" ""
def e0 : Env := launch0.env 0 0 0
theorem w_frames : about1.frames = Frame.invoking theMethod args0 :: below0 := rfl
set_option maxRecDepth 65536 in
theorem w_args : argsFit about1.vm theMethod args0 = true := by decide +kernel
set_option maxRecDepth 65536 in
theorem w_heap : heapFits about1 = true := by decide +kernel
set_option maxRecDepth 65536 in
theorem w_runnable : about1.curStatus? = some .runnable := by decide +kernel
set_option maxRecDepth 65536 in
theorem w_alone : about1.alone = true := by decide +kernel
set_option maxRecDepth 65536 in
theorem w_named : about1.methodNamed? x = some theMethod := by decide +kernel
set_option maxRecDepth 65536 in
theorem w_hears : about1.hears theMethod below0 = true := by decide +kernel
set_option maxRecDepth 65536 in
theorem w_ripe : about1.ripe theMethod args0 below0 = true := by decide +kernel
theorem w_running : about1.status = .running := rfl
set_option maxRecDepth 65536 in
theorem w_room : about1.hasRoom e0.platform room_1 = true :=
  launch0.hasRoom_least _ room_1 (by decide +kernel) (by decide +kernel) (by decide +kernel) (by decide +kernel) (by decide +kernel) (by decide +kernel)
theorem allAtoms_all (ts : List Jvm.Cond) (a : Array Jvm.Value) (st : Jvm.State) : (allAtoms ts).before a st = ts.all (fun c => c.before a st) := by
  induction ts with
  | nil => rfl
  | cons c t ih =>
    show (Jvm.Cond.and c (allAtoms t)).before a st = _
    rw [Jvm.Cond.before_and, ih, List.all_cons]
def words1 : List Jvm.Cond := Jvm.Cond.code x code maxLocals ret :: tables_1
/-- a 'code' word, met by the world's own term for the bytes: nothing is compared byte by byte -/
theorem code_word {y : MethodName} {bytes : ByteArray} {mx : Nat} {rt : Option FieldType} {a : Array Value} {s : State} {m : MethodId} {meth : Method} {c : Code} (h1 : s.methodNamed? y = some m) (h2 : s.vm.method? m = some meth) (h3 : meth.code = some c) (h4 : c.code = bytes)
    (h5 : (c.maxLocals == mx && c.exceptionTable.isEmpty && decide (c.maxStack ≤ mostOperands) && decide (meth.sig.returnType = rt) && !meth.locks && decide (parseMethodDescriptor y.desc = some meth.sig)) = true) : (Jvm.Cond.code y bytes mx rt).before a s = true := by
  simp only [Bool.and_eq_true, beq_iff_eq, Bool.not_eq_true', decide_eq_true_eq] at h5
  obtain ⟨⟨⟨⟨⟨g1, g2⟩, g3⟩, g4⟩, g5⟩, g6⟩ := h5
  simp [Cond.before, Cond.holds, Cond.value, h1, h2, h3, h4, g1, g2, g3, g4, g5, g6]
def isCode : Jvm.Cond → Bool
  | .code _ _ _ _ => true
  | _ => false
theorem all_split {L : List Jvm.Cond} {P : Jvm.Cond → Bool} (h1 : L.all (fun c => isCode c || P c) = true) (h2 : ∀ c ∈ L.filter isCode, P c = true) : L.all P = true := by
  refine List.all_eq_true.mpr fun c hc => ?_
  have h := List.all_eq_true.mp h1 c hc
  rcases Bool.eq_false_or_eq_true (isCode c) with hi | hi
  · exact h2 c (List.mem_filter.mpr ⟨hc, hi⟩)
  · simpa [hi] using h
set_option maxRecDepth 65536 in
theorem w_c0 : (Jvm.Cond.code x code maxLocals ret).before args0 about1 = true := code_word (m := ⟨1, 1⟩) (meth := k1m1) (c := k1c1) (by decide +kernel) rfl rfl rfl (by decide +kernel)
set_option maxRecDepth 65536 in
theorem w_c1 : (Jvm.Cond.code ({ cls := "com/example/strict_pattern/strictpattern/regex/CodePointSet$Builder", name := "<init>", desc := "()V" } : Jvm.MethodName) prog_18_method_1_code (1 : Nat) (Option.none : Option Jvm.ClassFile.FieldType)).before args0 about1 = true := code_word (m := ⟨2, 0⟩) (meth := k2m0) (c := k2c0) (by decide +kernel) rfl rfl rfl (by decide +kernel)
set_option maxRecDepth 65536 in
theorem w_c2 : (Jvm.Cond.code ({ cls := "java/lang/Object", name := "<init>", desc := "()V" } : Jvm.MethodName) object_method_1_code (1 : Nat) (Option.none : Option Jvm.ClassFile.FieldType)).before args0 about1 = true := code_word (m := ⟨0, 0⟩) (meth := k0m0) (c := k0c0) (by decide +kernel) rfl rfl rfl (by decide +kernel)
set_option maxRecDepth 65536 in
theorem w_c3 : (Jvm.Cond.code ({ cls := "com/example/strict_pattern/strictpattern/regex/CodePointSet$Builder", name := "asciiLow", desc := "()J" } : Jvm.MethodName) prog_18_method_9_code (1 : Nat) (Option.some Jvm.ClassFile.FieldType.long)).before args0 about1 = true := code_word (m := ⟨2, 3⟩) (meth := k2m3) (c := k2c3) (by decide +kernel) rfl rfl rfl (by decide +kernel)
set_option maxRecDepth 65536 in
theorem w_c4 : (Jvm.Cond.code ({ cls := "com/example/strict_pattern/strictpattern/regex/CodePointSet$Builder", name := "asciiHigh", desc := "()J" } : Jvm.MethodName) prog_18_method_10_code (1 : Nat) (Option.some Jvm.ClassFile.FieldType.long)).before args0 about1 = true := code_word (m := ⟨2, 4⟩) (meth := k2m4) (c := k2c4) (by decide +kernel) rfl rfl rfl (by decide +kernel)
set_option maxRecDepth 65536 in
theorem w_c5 : (Jvm.Cond.code ({ cls := "com/example/strict_pattern/strictpattern/regex/CodePointSet$Builder", name := "holdsAsciiAlone", desc := "()Z" } : Jvm.MethodName) prog_18_method_8_code (1 : Nat) (Option.some Jvm.ClassFile.FieldType.boolean)).before args0 about1 = true := code_word (m := ⟨2, 2⟩) (meth := k2m2) (c := k2c2) (by decide +kernel) rfl rfl rfl (by decide +kernel)
set_option maxRecDepth 65536 in
theorem w_c6 : (Jvm.Cond.code ({ cls := "com/example/strict_pattern/strictpattern/regex/CodePointSet$Builder", name := "addAscii", desc := "(JJ)V" } : Jvm.MethodName) prog_18_method_5_code (5 : Nat) (Option.none : Option Jvm.ClassFile.FieldType)).before args0 about1 = true := code_word (m := ⟨2, 1⟩) (meth := k2m1) (c := k2c1) (by decide +kernel) rfl rfl rfl (by decide +kernel)
def codes1 : List Jvm.Cond := [Jvm.Cond.code x code maxLocals ret, Jvm.Cond.code ({ cls := "com/example/strict_pattern/strictpattern/regex/CodePointSet$Builder", name := "<init>", desc := "()V" } : Jvm.MethodName) prog_18_method_1_code (1 : Nat) (Option.none : Option Jvm.ClassFile.FieldType), Jvm.Cond.code ({ cls := "java/lang/Object", name := "<init>", desc := "()V" } : Jvm.MethodName) object_method_1_code (1 : Nat) (Option.none : Option Jvm.ClassFile.FieldType), Jvm.Cond.code ({ cls := "com/example/strict_pattern/strictpattern/regex/CodePointSet$Builder", name := "asciiLow", desc := "()J" } : Jvm.MethodName) prog_18_method_9_code (1 : Nat) (Option.some Jvm.ClassFile.FieldType.long), Jvm.Cond.code ({ cls := "com/example/strict_pattern/strictpattern/regex/CodePointSet$Builder", name := "asciiHigh", desc := "()J" } : Jvm.MethodName) prog_18_method_10_code (1 : Nat) (Option.some Jvm.ClassFile.FieldType.long), Jvm.Cond.code ({ cls := "com/example/strict_pattern/strictpattern/regex/CodePointSet$Builder", name := "holdsAsciiAlone", desc := "()Z" } : Jvm.MethodName) prog_18_method_8_code (1 : Nat) (Option.some Jvm.ClassFile.FieldType.boolean), Jvm.Cond.code ({ cls := "com/example/strict_pattern/strictpattern/regex/CodePointSet$Builder", name := "addAscii", desc := "(JJ)V" } : Jvm.MethodName) prog_18_method_5_code (5 : Nat) (Option.none : Option Jvm.ClassFile.FieldType)]
set_option maxRecDepth 65536 in
theorem codes_eq : words1.filter isCode = codes1 := rfl
theorem w_codes : ∀ c ∈ words1.filter isCode, c.before args0 about1 = true := by
  rw [codes_eq]
  intro c hc
  simp only [codes1, List.mem_cons, List.not_mem_nil, or_false] at hc
  rcases hc with rfl | rfl | rfl | rfl | rfl | rfl | rfl
  · exact w_c0
  · exact w_c1
  · exact w_c2
  · exact w_c3
  · exact w_c4
  · exact w_c5
  · exact w_c6
set_option maxRecDepth 65536 in
theorem w_t1 : (words1.take 24).all (fun c => isCode c || c.before args0 about1) = true := by decide +kernel
set_option maxRecDepth 65536 in
theorem w_t2 : (words1.drop 24).all (fun c => isCode c || c.before args0 about1) = true := by decide +kernel
theorem w_tables : (allAtoms (Jvm.Cond.code x code maxLocals ret :: tables_1)).before args0 about1 = true := by
  rw [allAtoms_all]
  show words1.all (fun c => c.before args0 about1) = true
  refine all_split ?_ w_codes
  rw [← List.take_append_drop 24 words1, List.all_append, w_t1, w_t2]
  rfl
set_option maxRecDepth 65536 in
theorem w_case : (Jvm.Cond.and given_1 narrow_1).before args0 about1 = true := by decide +kernel
theorem w_applies : (headSpec (Jvm.Cond.code x code maxLocals ret :: tables_1) room_1).applies x e0.platform about1 = true :=
  (Spec.applies_iff w_frames).mpr ⟨w_running, w_runnable, w_alone, w_named, w_hears, w_ripe, w_room, w_tables⟩
theorem atStart : AtStart classFile x code maxLocals ret World_1 tables_1 room_1 Calls_1 rest_1 Pre_1 launch0 p0 e0 about1 theMethod args0 below0 :=
  ⟨lists_1, trivial, launch0.admits_env _ _ _, launch0.least_env, fairChoices_fair.cas, fairChoices_fair.clock, w_frames, w_args, w_heap, w_applies, trivial, trivial, w_case⟩
end start1
theorem witness_1 : WitnessClaimed_1 := ⟨start1.p0, start1.e0, start1.about1, start1.theMethod, start1.args0, start1.below0, start1.atStart⟩
end Jvm.Pilot.@@N@@
