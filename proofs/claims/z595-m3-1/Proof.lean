import JvmDerived
import JvmDerived.Pilot.@@N@@Statement
import JvmDerived.Pilot.@@N@@Code
set_option linter.unusedVariables false
set_option linter.unusedSimpArgs false
namespace Jvm.RoadKit
open Sem ClassFile Op Lib Jvm.Stand Jvm.Free Jvm.LawKit
/-- from T the run comes to a state of which Φ holds -/
def own_R (tb : Tables) (e : Env) (below : List Frame) (Φ : State → Prop) (T : State) : Prop := ∃ T', Φ T' ∧ ∀ t, Steps tb e below T' t → Steps tb e below T t
theorem own_leaf {tb : Tables} {e : Env} {below : List Frame} {Φ : State → Prop} {T : State} (h : Φ T) : own_R tb e below Φ T := ⟨T, h, fun _ k => k⟩
theorem own_go {tb : Tables} {e : Env} {below : List Frame} {Φ : State → Prop} {T T1 : State} (h : ∀ t, Steps tb e below T1 t → Steps tb e below T t) (g : own_R tb e below Φ T1) : own_R tb e below Φ T := by
  obtain ⟨T', h1, h2⟩ := g
  exact ⟨T', h1, fun t k => h t (h2 t k)⟩
theorem own_to {tb : Tables} {e : Env} {below : List Frame} {Φ Ψ : State → Prop} {T : State} (h : own_R tb e below Φ T) (g : ∀ U, Φ U → own_R tb e below Ψ U) : own_R tb e below Ψ T := by
  obtain ⟨T', h1, h2⟩ := h
  exact own_go h2 (g T' h1)
/-- the call has come to its end: what it returns and leaves -/
def own_F (below : List Frame) (s : State) (Q : Option Value → Heap → List Loc → Prop) (rc rs : Nat) (U : State) : Prop := U.status = .running ∧ ∃ v L, Ended U below (.returned v) ∧ Q v U.heap L ∧ FrameEnd s (.returned v) U L rc rs
theorem own_fin {tb : Tables} {e : Env} {below : List Frame} {s : State} {Q : Option Value → Heap → List Loc → Prop} {rc rs : Nat} {T : State} (h : own_R tb e below (own_F below s Q rc rs) T) :
    ∃ s₂ o, Steps tb e below T s₂ ∧ s₂.status = .running ∧ Ended s₂ below o ∧ ∃ v L, o = .returned v ∧ Q v s₂.heap L ∧ FrameEnd s o s₂ L rc rs := by
  obtain ⟨T', ⟨h1, v, L, h2, h3, h4⟩, h5⟩ := h
  exact ⟨T', .returned v, h5 _ (Steps.refl _), h1, h2, v, L, rfl, h3, h4⟩
section New
variable {p : Program} {l : Launch} {e : Env} {R : Room} {s : State} {m : MethodId} {args : Array Value} {below : List Frame} {meth : Method} {c : Code} {T : State} {locs : List Loc} {cells slots : Nat}
theorem retI (X : Stand p l e R s m args below meth c T locs cells slots) (hx : p.tables.exec = Jvm.exec) {pc : Nat} {Ls : Array Slot} {z : Int32} {rest : List Value} (hret : meth.sig.returnType = some .int) (hd : decode c.code pc = .ok (.ireturn, 1)) {fs : List Frame}
    (hl : ∀ (f : JFrame) (acts : List Action), f.method = m → f.locked = none → f.entered = [] → (doReturn e (T.setTop f) acts (some (.int z))).1 = T.setFrames fs) : Steps p.tables e below (T.setTop (mkF m pc Ls (.int z :: rest))) (T.setFrames fs) := by
  have hm' : T.vm.method? m = some meth := X.method'
  have hn : narrow .int (.int z) = .int z := rfl
  show Steps p.tables e below (T.setTop { method := m, pc := pc, locals := Ls, stack := _ :: rest, locked := none }) _
  jvm_step X.here [X.here.top, hx, hd, hm', hret, hn]
  first | (intro acts; rw [hl _ acts rfl rfl rfl]) | rw [hl _ _ rfl rfl rfl]
  exact Steps.refl _
variable {Q : Option Value → Heap → List Loc → Prop} {rc rs : Nat}
theorem own_end (X : Stand p l e R s m args below meth c T locs cells slots) (hlk : meth.locks = false) {v : Option Value} (hv : meth.sig.returnType = none → v = none) (hQ : Q v T.heap locs) (hc : cells ≤ rc) (hs : slots ≤ rs) {g : JFrame}
    (hst : ∀ fs, (∀ (f : JFrame) (acts : List Action), f.method = m → f.locked = none → f.entered = [] → (doReturn e (T.setTop f) acts v).1 = T.setFrames fs) → Steps p.tables e below (T.setTop g) (T.setFrames fs)) : own_R p.tables e below (own_F below s Q rc rs) (T.setTop g) := by
  obtain ⟨fs, hr, hrun, hended, hW, hsame⟩ := X.leave hv hlk
  exact ⟨T.setFrames fs, ⟨hrun, v, locs, hended, hQ, ⟨_, rfl⟩, hW, hsame.mono hc hs⟩, fun t k => (hst fs hr).trans k⟩
theorem own_ret0 (X : Stand p l e R s m args below meth c T locs cells slots) (hx : p.tables.exec = Jvm.exec) {pc : Nat} {Ls : Array Slot} (hret : meth.sig.returnType = none) (hd : decode c.code pc = .ok (.return_, 1)) (hlk : meth.locks = false) (hQ : Q none T.heap locs) (hc : cells ≤ rc) (hs : slots ≤ rs) :
    own_R p.tables e below (own_F below s Q rc rs) (T.setTop (mkF m pc Ls [])) := own_end X hlk (fun _ => rfl) hQ hc hs fun _ hr => X.returnOut hx hret hd hr
theorem own_retI (X : Stand p l e R s m args below meth c T locs cells slots) (hx : p.tables.exec = Jvm.exec) {pc : Nat} {Ls : Array Slot} {z : Int32} {rest : List Value} (hret : meth.sig.returnType = some .int) (hd : decode c.code pc = .ok (.ireturn, 1)) (hlk : meth.locks = false) (hQ : Q (some (.int z)) T.heap locs) (hc : cells ≤ rc) (hs : slots ≤ rs) :
    own_R p.tables e below (own_F below s Q rc rs) (T.setTop (mkF m pc Ls (.int z :: rest))) := own_end X hlk (fun h => by rw [hret] at h; cases h) hQ hc hs fun _ hr => retI X hx hret hd hr
theorem own_retN (X : Stand p l e R s m args below meth c T locs cells slots) (hx : p.tables.exec = Jvm.exec) {t : FieldType} (ht : t = .boolean ∨ t = .byte ∨ t = .char ∨ t = .short) {pc : Nat} {Ls : Array Slot} {z : Int32} {rest : List Value} (hret : meth.sig.returnType = some t) (hd : decode c.code pc = .ok (.ireturn, 1)) (hlk : meth.locks = false) (hQ : Q (some (.int (nar t z))) T.heap locs) (hc : cells ≤ rc) (hs : slots ≤ rs) :
    own_R p.tables e below (own_F below s Q rc rs) (T.setTop (mkF m pc Ls (.int z :: rest))) := own_end X hlk (fun h => by rw [hret] at h; cases h) hQ hc hs fun _ hr => retN X hx hret ht hd hr
theorem own_retL (X : Stand p l e R s m args below meth c T locs cells slots) (hx : p.tables.exec = Jvm.exec) {pc : Nat} {Ls : Array Slot} {z : Int64} {rest : List Value} (hret : meth.sig.returnType = some .long) (hd : decode c.code pc = .ok (.lreturn, 1)) (hlk : meth.locks = false) (hQ : Q (some (.long z)) T.heap locs) (hc : cells ≤ rc) (hs : slots ≤ rs) :
    own_R p.tables e below (own_F below s Q rc rs) (T.setTop (mkF m pc Ls (.long z :: rest))) := own_end X hlk (fun h => by rw [hret] at h; cases h) hQ hc hs fun _ hr => retOut X hx hret rfl (Or.inr (Or.inl ⟨rfl, rfl, z, rfl⟩)) hd hr
theorem own_retA (X : Stand p l e R s m args below meth c T locs cells slots) (hx : p.tables.exec = Jvm.exec) {t : FieldType} {pc : Nat} {Ls : Array Slot} {w : Value} {rest : List Value} (ht : t.isReference = true) (hw : w.isRef = true) (hret : meth.sig.returnType = some t) (hd : decode c.code pc = .ok (.areturn, 1)) (hlk : meth.locks = false) (hQ : Q (some w) T.heap locs) (hc : cells ≤ rc) (hs : slots ≤ rs) :
    own_R p.tables e below (own_F below s Q rc rs) (T.setTop (mkF m pc Ls (w :: rest))) := own_end X hlk (fun h => by rw [hret] at h; cases h) hQ hc hs fun _ hr => retOut X hx hret (by cases t <;> first | rfl | cases ht) (Or.inr (Or.inr (Or.inr (Or.inr ⟨rfl, ht, hw⟩)))) hd hr
variable {Z : State} {h : Heap} {a : Addr} {k : ClassId} {n : Int32} {vs : List Value} {dv : Value}
theorem own_len (X : Stand p l e R s m args below meth c T locs cells slots) (hx : p.tables.exec = Jvm.exec) (hZ : Z.Warmed39 s.vm) (eT : T.heap = h) {ty : FieldType} (V : Arv Z h a k ty n vs dv) {g : JFrame} (hg : g.method = m) {rest : List Value} (hs : g.stack = .ref a :: rest) (hd : decode c.code g.pc = .ok (.arraylength, 1)) :
    ∀ target, Steps p.tables e below (T.setTop { g with pc := g.pc + 1, stack := .int n :: rest }) target → Steps p.tables e below (T.setTop g) target := by
  obtain ⟨cl, A, -, S, N, -, -⟩ := V
  intro t kt
  refine X.arraylength hx (by rw [eT]; exact A.1) (State.isArrayOf_alike hZ.alike A.2.1) hg hs hd t ?_
  rw [len_of S N]; exact kt
theorem own_ldI (X : Stand p l e R s m args below meth c T locs cells slots) (hx : p.tables.exec = Jvm.exec) (hZ : Z.Warmed39 s.vm) (eT : T.heap = h) (V : Arv Z h a k .int n vs dv) {j : Int32} {i : Nat} (hj : ¬ j < 0 ∧ j < n) (hi : j.toNatClampNeg = i) {v : Value} (hv : vs.getD i dv = v) {g : JFrame} (hg : g.method = m) {rest : List Value} (hs : g.stack = .int j :: .ref a :: rest) (hd : decode c.code g.pc = .ok (.iaload, 1)) :
    ∀ target, Steps p.tables e below (T.setTop { g with pc := g.pc + 1, stack := v :: rest }) target → Steps p.tables e below (T.setTop g) target := by
  obtain ⟨cl, A, -, S, N, H, -⟩ := V
  subst hi
  intro t kt
  exact X.iaload hx (by rw [eT]; exact A.1) (State.isArrayOf_alike hZ.alike A.2.1) A.2.2 (inb_of S hj) (H.at (inb_of S hj) hv) hg hs hd t kt
theorem own_ldJ (X : Stand p l e R s m args below meth c T locs cells slots) (hx : p.tables.exec = Jvm.exec) (hZ : Z.Warmed39 s.vm) (eT : T.heap = h) (V : Arv Z h a k .long n vs dv) {j : Int32} {i : Nat} (hj : ¬ j < 0 ∧ j < n) (hi : j.toNatClampNeg = i) {v : Value} (hv : vs.getD i dv = v) {g : JFrame} (hg : g.method = m) {rest : List Value} (hs : g.stack = .int j :: .ref a :: rest) (hd : decode c.code g.pc = .ok (.laload, 1)) :
    ∀ target, Steps p.tables e below (T.setTop { g with pc := g.pc + 1, stack := v :: rest }) target → Steps p.tables e below (T.setTop g) target := by
  obtain ⟨cl, A, -, S, N, H, -⟩ := V
  subst hi
  intro t kt
  exact X.laload hx (by rw [eT]; exact A.1) (State.isArrayOf_alike hZ.alike A.2.1) A.2.2 (inb_of S hj) (H.at (inb_of S hj) hv) hg hs hd t kt
theorem own_ldB (X : Stand p l e R s m args below meth c T locs cells slots) (hx : p.tables.exec = Jvm.exec) (hZ : Z.Warmed39 s.vm) (eT : T.heap = h) (V : Arv Z h a k .byte n vs dv) {j : Int32} {i : Nat} (hj : ¬ j < 0 ∧ j < n) (hi : j.toNatClampNeg = i) {v : Value} (hv : vs.getD i dv = v) {g : JFrame} (hg : g.method = m) {rest : List Value} (hs : g.stack = .int j :: .ref a :: rest) (hd : decode c.code g.pc = .ok (.baload, 1)) :
    ∀ target, Steps p.tables e below (T.setTop { g with pc := g.pc + 1, stack := v :: rest }) target → Steps p.tables e below (T.setTop g) target := by
  obtain ⟨cl, A, -, S, N, H, -⟩ := V
  subst hi
  intro t kt
  exact X.baloadBytes hx (by rw [eT]; exact A.1) (State.isArrayOf_alike hZ.alike A.2.1) A.2.2 (inb_of S hj) (H.at (inb_of S hj) hv) hg hs hd t kt
theorem own_stI (X : Stand p l e R s m args below meth c T locs cells slots) (hx : p.tables.exec = Jvm.exec) (hZ : Z.Warmed39 s.vm) (eT : T.heap = h) (V : Arv Z h a k .int n vs dv) {j : Int32} {i : Nat} (hj : ¬ j < 0 ∧ j < n) (hi : j.toNatClampNeg = i) (hlen : i < vs.length) {x : Int32} {w : Value} (hw : w = .int x) {g : JFrame} (hg : g.method = m) {rest : List Value} (hs : g.stack = .int x :: .int j :: .ref a :: rest) (hd : decode c.code g.pc = .ok (.iastore, 1)) :
    ∃ T' h' sl, Stand p l e R s m args below meth c T' (locs ++ [⟨a, sl⟩]) cells slots ∧ T'.heap = h' ∧ Wr h h' a sl w ∧ Arv Z h' a k .int n (vs.set i w) dv ∧ ∀ target, Steps p.tables e below (T'.setTop { g with pc := g.pc + 1, stack := rest }) target → Steps p.tables e below (T.setTop g) target := by
  obtain ⟨cl, A, q1, S, N, H, G⟩ := V
  subst hw
  obtain ⟨T', h', X', e', W', st⟩ := stI X hx hZ eT A (j := j) (inb_of S hj) hg hs hd
  exact ⟨T', h', _, X', e', W', Arv.set A q1 S N H G rfl W' i hi hlen, st⟩
theorem own_stJ (X : Stand p l e R s m args below meth c T locs cells slots) (hx : p.tables.exec = Jvm.exec) (hZ : Z.Warmed39 s.vm) (eT : T.heap = h) (V : Arv Z h a k .long n vs dv) {j : Int32} {i : Nat} (hj : ¬ j < 0 ∧ j < n) (hi : j.toNatClampNeg = i) (hlen : i < vs.length) {x : Int64} {w : Value} (hw : w = .long x) {g : JFrame} (hg : g.method = m) {rest : List Value} (hs : g.stack = .long x :: .int j :: .ref a :: rest) (hd : decode c.code g.pc = .ok (.lastore, 1)) :
    ∃ T' h' sl, Stand p l e R s m args below meth c T' (locs ++ [⟨a, sl⟩]) cells slots ∧ T'.heap = h' ∧ Wr h h' a sl w ∧ Arv Z h' a k .long n (vs.set i w) dv ∧ ∀ target, Steps p.tables e below (T'.setTop { g with pc := g.pc + 1, stack := rest }) target → Steps p.tables e below (T.setTop g) target := by
  obtain ⟨cl, A, q1, S, N, H, G⟩ := V
  subst hw
  obtain ⟨T', h', X', e', W', st⟩ := stJ X hx hZ eT A (j := j) (inb_of S hj) hg hs hd
  exact ⟨T', h', _, X', e', W', Arv.set A q1 S N H G rfl W' i hi hlen, st⟩
end New
end Jvm.RoadKit
namespace Jvm.Pilot.@@N@@
open Jvm Jvm.ClassFile Sem Op Lib Jvm.Free Jvm.Stand Jvm.LawKit Jvm.RoadKit Bundle Jvm.Pilot.@@N@@.Jvm.D
theorem pd_0 : parseMethodDescriptor "()V" = some ⟨[], none⟩ := by decide +kernel
theorem pd_1 : parseMethodDescriptor "(Z[IJJZ)V" = some ⟨[.boolean, (.array .int), .long, .long, .boolean], none⟩ := by decide +kernel
theorem pd_2 : parseMethodDescriptor "()Z" = some ⟨[], some .boolean⟩ := by decide +kernel

def own_opt (f : Int32) (a b : Int64) : Int32 := if f = 0 then 0 else if lcmpW a b = 0 then 1 else 0
theorem own_tri {x : Int32} (h1 : ¬ x < 0) (h2 : ¬ 0 < x) : x = 0 := by
  apply Int32.toInt_inj.mp
  rw [Int32.lt_iff_toInt_lt] at h1 h2
  have : (0 : Int32).toInt = 0 := rfl
  omega
theorem own_ltn {x : Int32} (h : x < 0) : ¬ x = 0 := fun q => by subst q; exact absurd h (by decide)
theorem own_gtn {x : Int32} (h : 0 < x) : ¬ x = 0 := fun q => by subst q; exact absurd h (by decide)
theorem own_nar01 {b : Int32} (h : b = 0 ∨ b = 1) : narrow .boolean (.int b) = .int b := by rcases h with rfl | rfl <;> rfl
theorem own_fit01 {b : Int32} (h : b = 0 ∨ b = 1) : fits .boolean (.int b) = true := by rcases h with rfl | rfl <;> rfl
theorem d2_0 : decode jdk_30_method_1_code 0 = .ok (.aload_n 0, 1) := by decide +kernel
theorem d2_1 : decode jdk_30_method_1_code 1 = .ok (.invokespecial 1, 3) := by decide +kernel
theorem d2_4 : decode jdk_30_method_1_code 4 = .ok (.return_, 1) := by decide +kernel
theorem pn_2 : plainName "java/lang/Record" = true := by first | (simp [plainName, overriddenIn]; done) | decide +kernel
theorem ef_2 (m : MethodId) (x0 : Addr) : entryFrame m #[(.ref x0)] 1 = mkF m 0 #[.val (.ref x0)] [] := by first | (simp [entryFrame, mkF, argsToLocals, Value.category]; done) | rfl
def Q2 (Z : State) (a1 : Addr) (h0 : Heap) (n0 : Nat) (v : Option Value) (h : Heap) (L : List Loc) : Prop := v = none ∧ Fr n0 L ∧ h = h0
set_option maxRecDepth 65536 in
set_option maxHeartbeats 40000000 in
theorem rm2 (l : Launch) (Z : State) (a0 : Array Value) (hw : ∀ d ∈ tables_1, d.before a0 Z = true) (ws : List Jvm.Cond) (a1 : Addr) (h0 : Heap) (n0 : Nat) (ZS : n0 ≤ h0.size) :
    MetFree l (⟨"java/lang/Record", "<init>", "()V"⟩ : MethodName) (head1 (Jvm.Cond.code (⟨"java/lang/Record", "<init>", "()V"⟩ : MethodName) jdk_30_method_1_code 1 none :: ws) ({ frames := 1, cells := 0, slots := 0, locals := 12 } : Room)) (fun a U => a = #[(.ref a1)] ∧ Z.Warmed39 U.vm ∧ U.heap = h0) (fun _ _ _ _ _ => True) (fun _ U o U' => ∃ v L, o = .returned v ∧ Q2 Z a1 h0 n0 v U'.heap L ∧ FrameEnd U o U' L ({ frames := 1, cells := 0, slots := 0, locals := 12 } : Room).cells ({ frames := 1, cells := 0, slots := 0, locals := 12 } : Room).slots) := by
  refine MetFree.of_bodySF (plainFor_of_name pn_2) hisR ?_
  intro p e s m args below meth c s₁ Bd hml0 hP hK
  obtain ⟨rfl, hZ, hh⟩ := hP
  have hx := Bd.exec
  have hby := Bd.bytes
  have hml : c.maxLocals = 1 := hml0
  have hown : s.vm.findClass "java/lang/Record" = some m.cls := findClass_of_methodNamed Bd.named
  have hnm := (name_of_methodNamed Bd.named Bd.method).1
  have hlk : meth.locks = false := Bd.notSynchronized
  have X0 : Stand p l e ({ frames := 1, cells := 0, slots := 0, locals := 12 } : Room) s m #[(.ref a1)] below meth c s₁ [] 0 0 := Stand.of_body Bd
  have e0 : s₁.heap = h0 := by rw [← hh, Bd.state]; rfl
  have NF := Fr.nil n0
  have KP : Keep h0 h0 [] := Keep.refl _ _
  refine own_fin (s := s) (Q := Q2 Z a1 h0 n0) (rc := ({ frames := 1, cells := 0, slots := 0, locals := 12 } : Room).cells) (rs := ({ frames := 1, cells := 0, slots := 0, locals := 12 } : Room).slots) ?_
  refine own_go (fun t k => castTop (ef_2 m a1) k) ?_
  show own_R _ _ _ _ (s₁.setTop (mkF m 0 #[.val (.ref a1)] []))
  refine own_go (fun _ k => XS.aloadN X0.here hx rfl (hb hby d2_0) rfl rfl k) ?_
  show own_R _ _ _ _ (s₁.setTop (mkF m 1 #[.val (.ref a1)] [(.ref a1)]))
  obtain ⟨T1, X1, e1, st1⟩ := initO X0 hx hZ hown (hw _ (List.mem_of_getElem? (i := 12) rfl)) (hw _ (List.mem_of_getElem? (i := 13) rfl)) (hw _ (List.mem_of_getElem? (i := 14) rfl)) e0 (g := (mkF m 1 #[.val (.ref a1)] [(.ref a1)])) rfl (by rw [hml]; rfl) rfl (hb hby d2_1) (by decide) (W := 0) (by show 2 * 0 + _ ≤ _; exact Nat.le_of_eq rfl) (by decide)
  refine own_go st1 ?_
  show own_R _ _ _ _ (T1.setTop (mkF m 4 #[.val (.ref a1)] []))
  exact own_ret0 X1 hx Bd.returns (hb hby d2_4) hlk ⟨rfl, NF, e1⟩ (by decide) (by decide)
theorem d1_0 : decode prog_69_method_1_code 0 = .ok (.aload_n 0, 1) := by decide +kernel
theorem d1_1 : decode prog_69_method_1_code 1 = .ok (.invokespecial 1, 3) := by decide +kernel
theorem d1_4 : decode prog_69_method_1_code 4 = .ok (.aload_n 0, 1) := by decide +kernel
theorem d1_5 : decode prog_69_method_1_code 5 = .ok (.iload_n 1, 1) := by decide +kernel
theorem d1_6 : decode prog_69_method_1_code 6 = .ok (.putfield 7, 3) := by decide +kernel
theorem d1_9 : decode prog_69_method_1_code 9 = .ok (.aload_n 0, 1) := by decide +kernel
theorem d1_10 : decode prog_69_method_1_code 10 = .ok (.aload_n 2, 1) := by decide +kernel
theorem d1_11 : decode prog_69_method_1_code 11 = .ok (.putfield 13, 3) := by decide +kernel
theorem d1_14 : decode prog_69_method_1_code 14 = .ok (.aload_n 0, 1) := by decide +kernel
theorem d1_15 : decode prog_69_method_1_code 15 = .ok (.lload_n 3, 1) := by decide +kernel
theorem d1_16 : decode prog_69_method_1_code 16 = .ok (.putfield 17, 3) := by decide +kernel
theorem d1_19 : decode prog_69_method_1_code 19 = .ok (.aload_n 0, 1) := by decide +kernel
theorem d1_20 : decode prog_69_method_1_code 20 = .ok (.lload 5, 2) := by decide +kernel
theorem d1_22 : decode prog_69_method_1_code 22 = .ok (.putfield 21, 3) := by decide +kernel
theorem d1_25 : decode prog_69_method_1_code 25 = .ok (.aload_n 0, 1) := by decide +kernel
theorem d1_26 : decode prog_69_method_1_code 26 = .ok (.iload 7, 2) := by decide +kernel
theorem d1_28 : decode prog_69_method_1_code 28 = .ok (.putfield 24, 3) := by decide +kernel
theorem d1_31 : decode prog_69_method_1_code 31 = .ok (.return_, 1) := by decide +kernel
theorem pn_1 : plainName "com/example/clearlot/clearlot/search/Solution" = true := by first | (simp [plainName, overriddenIn]; done) | decide +kernel
theorem ef_1 (m : MethodId) (x0 : Addr) (x1 : Int32) (x2 : Addr) (x3 : Int64) (x4 : Int64) (x5 : Int32) : entryFrame m #[(.ref x0), (.int x1), (.ref x2), (.long x3), (.long x4), (.int x5)] 8 = mkF m 0 #[.val (.ref x0), .val (.int x1), .val (.ref x2), .val (.long x3), .second, .val (.long x4), .second, .val (.int x5)] [] := by first | (simp [entryFrame, mkF, argsToLocals, Value.category]; done) | rfl
def Q1 (Z : State) (a1 : Addr) (p2 : Int32) (a3 : Addr) (q4 : Int64) (q5 : Int64) (p6 : Int32) (u_feasible : Value) (u_columns : Value) (u_value : Value) (u_bound : Value) (u_stopped : Value) (h0 : Heap) (n0 : Nat) (v : Option Value) (h : Heap) (L : List Loc) : Prop := v = none ∧ Fr n0 L ∧ Keep h0 h [a1] ∧ Fld Z h a1 "com/example/clearlot/clearlot/search/Solution" "feasible" "Z" (.int p2) ∧ Fld Z h a1 "com/example/clearlot/clearlot/search/Solution" "columns" "[I" (.ref a3) ∧ Fld Z h a1 "com/example/clearlot/clearlot/search/Solution" "value" "J" (.long q4) ∧ Fld Z h a1 "com/example/clearlot/clearlot/search/Solution" "bound" "J" (.long q5) ∧ Fld Z h a1 "com/example/clearlot/clearlot/search/Solution" "stopped" "Z" (.int p6)
set_option maxRecDepth 65536 in
set_option maxHeartbeats 40000000 in
theorem rm1 (l : Launch) (Z : State) (a0 : Array Value) (hw : ∀ d ∈ tables_1, d.before a0 Z = true) (ws : List Jvm.Cond) (a1 : Addr) (p2 : Int32) (a3 : Addr) (q4 : Int64) (q5 : Int64) (p6 : Int32) (u_feasible : Value) (u_columns : Value) (u_value : Value) (u_bound : Value) (u_stopped : Value) (h0 : Heap) (n0 : Nat) (ZS : n0 ≤ h0.size) (E_a1 : Exa Z h0 a1 "com/example/clearlot/clearlot/search/Solution") (F_feasible_a1 : Fld Z h0 a1 "com/example/clearlot/clearlot/search/Solution" "feasible" "Z" u_feasible) (F_columns_a1 : Fld Z h0 a1 "com/example/clearlot/clearlot/search/Solution" "columns" "[I" u_columns) (F_value_a1 : Fld Z h0 a1 "com/example/clearlot/clearlot/search/Solution" "value" "J" u_value) (F_bound_a1 : Fld Z h0 a1 "com/example/clearlot/clearlot/search/Solution" "bound" "J" u_bound) (F_stopped_a1 : Fld Z h0 a1 "com/example/clearlot/clearlot/search/Solution" "stopped" "Z" u_stopped) (g_a1 : n0 ≤ a1) (hp2 : p2 = 0 ∨ p2 = 1) (hp6 : p6 = 0 ∨ p6 = 1) :
    MetFree l (⟨"com/example/clearlot/clearlot/search/Solution", "<init>", "(Z[IJJZ)V"⟩ : MethodName) (head1 (Jvm.Cond.code (⟨"com/example/clearlot/clearlot/search/Solution", "<init>", "(Z[IJJZ)V"⟩ : MethodName) prog_69_method_1_code 8 none :: ws) ({ frames := 2, cells := 0, slots := 0, locals := 24 } : Room)) (fun a U => a = #[(.ref a1), (.int p2), (.ref a3), (.long q4), (.long q5), (.int p6)] ∧ Z.Warmed39 U.vm ∧ U.heap = h0) (fun _ _ _ _ _ => True) (fun _ U o U' => ∃ v L, o = .returned v ∧ Q1 Z a1 p2 a3 q4 q5 p6 u_feasible u_columns u_value u_bound u_stopped h0 n0 v U'.heap L ∧ FrameEnd U o U' L ({ frames := 2, cells := 0, slots := 0, locals := 24 } : Room).cells ({ frames := 2, cells := 0, slots := 0, locals := 24 } : Room).slots) := by
  refine MetFree.of_bodySF (plainFor_of_name pn_1) hisR ?_
  intro p e s m args below meth c s₁ Bd hml0 hP hK
  obtain ⟨rfl, hZ, hh⟩ := hP
  have hx := Bd.exec
  have hby := Bd.bytes
  have hml : c.maxLocals = 8 := hml0
  have hown : s.vm.findClass "com/example/clearlot/clearlot/search/Solution" = some m.cls := findClass_of_methodNamed Bd.named
  have hnm := (name_of_methodNamed Bd.named Bd.method).1
  have hlk : meth.locks = false := Bd.notSynchronized
  have X0 : Stand p l e ({ frames := 2, cells := 0, slots := 0, locals := 24 } : Room) s m #[(.ref a1), (.int p2), (.ref a3), (.long q4), (.long q5), (.int p6)] below meth c s₁ [] 0 0 := Stand.of_body Bd
  have e0 : s₁.heap = h0 := by rw [← hh, Bd.state]; rfl
  have NF := Fr.nil n0
  have KP : Keep h0 h0 [a1] := Keep.refl _ _
  refine own_fin (s := s) (Q := Q1 Z a1 p2 a3 q4 q5 p6 u_feasible u_columns u_value u_bound u_stopped h0 n0) (rc := ({ frames := 2, cells := 0, slots := 0, locals := 24 } : Room).cells) (rs := ({ frames := 2, cells := 0, slots := 0, locals := 24 } : Room).slots) ?_
  refine own_go (fun t k => castTop (ef_1 m a1 p2 a3 q4 q5 p6) k) ?_
  show own_R _ _ _ _ (s₁.setTop (mkF m 0 #[.val (.ref a1), .val (.int p2), .val (.ref a3), .val (.long q4), .second, .val (.long q5), .second, .val (.int p6)] []))
  refine own_go (fun _ k => XS.aloadN X0.here hx rfl (hb hby d1_0) rfl rfl k) ?_
  show own_R _ _ _ _ (s₁.setTop (mkF m 1 #[.val (.ref a1), .val (.int p2), .val (.ref a3), .val (.long q4), .second, .val (.long q5), .second, .val (.int p6)] [(.ref a1)]))
  obtain ⟨_, _, ⟨T2, L2, k2, n2⟩, -, X2, ⟨Lc2, hQ2, l2, y2, z2⟩, st2⟩ := X0.specialBack hx (y := (⟨"java/lang/Record", "<init>", "()V"⟩ : MethodName)) rfl hown (mvT hZ (hw _ (List.mem_of_getElem? (i := 7) rfl))) (mvT hZ (hw _ (List.mem_of_getElem? (i := 8) rfl))) (mvT hZ (hw _ (List.mem_of_getElem? (i := 11) rfl))) (by decide) (backOf (W := 0) (rm2 l Z a0 hw [] a1 h0 n0 ZS) hZ (hw _ (List.mem_of_getElem? (i := 11) rfl)) (hw _ (List.mem_of_getElem? (i := 10) rfl)) (by decide) (by decide)) (g := (mkF m 1 #[.val (.ref a1), .val (.int p2), .val (.ref a3), .val (.long q4), .second, .val (.long q5), .second, .val (.int p6)] [(.ref a1)])) rfl (by rw [hml]; rfl) (Steps.refl _) (a := a1) (argsL := []) (rest := []) (lenOf pd_0 rfl) rfl (by show 2 * 0 + _ ≤ _; exact Nat.le_of_eq rfl) (hb hby d1_1) (fun _ _ => ⟨rfl, e0, (by decide : 0 + 0 ≤ _), (by decide : 0 + 0 ≤ _)⟩)
  dsimp only [Pt.U, Pt.locs, Pt.cells, Pt.slots] at X2 l2 y2 z2 st2 hQ2
  subst l2 y2 z2
  obtain ⟨rfl, N2q, e2⟩ := hQ2
  have NF := Fr.app NF N2q
  refine own_go (fun _ k => st2.trans k) ?_
  show own_R _ _ _ _ (T2.setTop (mkF m 4 #[.val (.ref a1), .val (.int p2), .val (.ref a3), .val (.long q4), .second, .val (.long q5), .second, .val (.int p6)] []))
  refine own_go (fun _ k => XS.aloadN X2.here hx rfl (hb hby d1_4) rfl rfl k) ?_
  show own_R _ _ _ _ (T2.setTop (mkF m 5 #[.val (.ref a1), .val (.int p2), .val (.ref a3), .val (.long q4), .second, .val (.long q5), .second, .val (.int p6)] [(.ref a1)]))
  refine own_go (fun _ k => XS.iloadN X2.here hx rfl (hb hby d1_5) rfl k) ?_
  show own_R _ _ _ _ (T2.setTop (mkF m 6 #[.val (.ref a1), .val (.int p2), .val (.ref a3), .val (.long q4), .second, .val (.long q5), .second, .val (.int p6)] [(.int p2), (.ref a1)]))
  obtain ⟨T3, h3, X3, e3, W3, st3⟩ := putFN X2 hx hZ hown (hw _ (List.mem_of_getElem? (i := 15) rfl)) Via.refl e2 F_feasible_a1 E_a1 (Or.inr ⟨(hw _ (List.mem_of_getElem? (i := 16) rfl)), rfl, hnm⟩) (hw _ (List.mem_of_getElem? (i := 2) rfl)) (ty := .boolean) (v' := .int p2) (by decide) (own_nar01 hp2) (own_fit01 hp2) (g := (mkF m 6 #[.val (.ref a1), .val (.int p2), .val (.ref a3), .val (.long q4), .second, .val (.long q5), .second, .val (.int p6)] [(.int p2), (.ref a1)])) rfl rfl (hb hby d1_6)
  refine own_go st3 ?_
  have E_a1 := E_a1.wr W3
  have F_feasible_a1 := F_feasible_a1.same W3
  have F_columns_a1 := F_columns_a1.other W3 (Or.inr (slot_ne (Or.inr (hw _ (List.mem_of_getElem? (i := 18) rfl))) (Or.inr (hw _ (List.mem_of_getElem? (i := 16) rfl))) (by decide) (t := (.array .int)) (t' := .boolean) (by decide) (by decide)))
  have F_value_a1 := F_value_a1.other W3 (Or.inr (slot_ne (Or.inr (hw _ (List.mem_of_getElem? (i := 20) rfl))) (Or.inr (hw _ (List.mem_of_getElem? (i := 16) rfl))) (by decide) (t := .long) (t' := .boolean) (by decide) (by decide)))
  have F_bound_a1 := F_bound_a1.other W3 (Or.inr (slot_ne (Or.inr (hw _ (List.mem_of_getElem? (i := 22) rfl))) (Or.inr (hw _ (List.mem_of_getElem? (i := 16) rfl))) (by decide) (t := .long) (t' := .boolean) (by decide) (by decide)))
  have F_stopped_a1 := F_stopped_a1.other W3 (Or.inr (slot_ne (Or.inr (hw _ (List.mem_of_getElem? (i := 24) rfl))) (Or.inr (hw _ (List.mem_of_getElem? (i := 16) rfl))) (by decide) (t := .boolean) (t' := .boolean) (by decide) (by decide)))
  have ZS := Nat.le_trans ZS (Keep.of_wr W3).1
  have KP := KP.wr W3 (Or.inl (List.mem_of_getElem? (i := 0) rfl))
  have NF := Fr.snoc X3 NF g_a1
  show own_R _ _ _ _ (T3.setTop (mkF m 9 #[.val (.ref a1), .val (.int p2), .val (.ref a3), .val (.long q4), .second, .val (.long q5), .second, .val (.int p6)] []))
  refine own_go (fun _ k => XS.aloadN X3.here hx rfl (hb hby d1_9) rfl rfl k) ?_
  show own_R _ _ _ _ (T3.setTop (mkF m 10 #[.val (.ref a1), .val (.int p2), .val (.ref a3), .val (.long q4), .second, .val (.long q5), .second, .val (.int p6)] [(.ref a1)]))
  refine own_go (fun _ k => XS.aloadN X3.here hx rfl (hb hby d1_10) rfl rfl k) ?_
  show own_R _ _ _ _ (T3.setTop (mkF m 11 #[.val (.ref a1), .val (.int p2), .val (.ref a3), .val (.long q4), .second, .val (.long q5), .second, .val (.int p6)] [(.ref a3), (.ref a1)]))
  obtain ⟨T4, h4, X4, e4, W4, st4⟩ := putF X3 hx hZ hown (host := "") (Or.inl (hw _ (List.mem_of_getElem? (i := 17) rfl))) Via.refl e3 F_columns_a1 E_a1 (Or.inr ⟨(hw _ (List.mem_of_getElem? (i := 18) rfl)), rfl, hnm⟩) (hw _ (List.mem_of_getElem? (i := 2) rfl)) (ty := (.array .int)) (by decide) rfl rfl (g := (mkF m 11 #[.val (.ref a1), .val (.int p2), .val (.ref a3), .val (.long q4), .second, .val (.long q5), .second, .val (.int p6)] [(.ref a3), (.ref a1)])) rfl rfl (hb hby d1_11)
  refine own_go st4 ?_
  have E_a1 := E_a1.wr W4
  have F_feasible_a1 := F_feasible_a1.other W4 (Or.inr (slot_ne (Or.inr (hw _ (List.mem_of_getElem? (i := 16) rfl))) (Or.inr (hw _ (List.mem_of_getElem? (i := 18) rfl))) (by decide) (t := .boolean) (t' := (.array .int)) (by decide) (by decide)))
  have F_columns_a1 := F_columns_a1.same W4
  have F_value_a1 := F_value_a1.other W4 (Or.inr (slot_ne (Or.inr (hw _ (List.mem_of_getElem? (i := 20) rfl))) (Or.inr (hw _ (List.mem_of_getElem? (i := 18) rfl))) (by decide) (t := .long) (t' := (.array .int)) (by decide) (by decide)))
  have F_bound_a1 := F_bound_a1.other W4 (Or.inr (slot_ne (Or.inr (hw _ (List.mem_of_getElem? (i := 22) rfl))) (Or.inr (hw _ (List.mem_of_getElem? (i := 18) rfl))) (by decide) (t := .long) (t' := (.array .int)) (by decide) (by decide)))
  have F_stopped_a1 := F_stopped_a1.other W4 (Or.inr (slot_ne (Or.inr (hw _ (List.mem_of_getElem? (i := 24) rfl))) (Or.inr (hw _ (List.mem_of_getElem? (i := 18) rfl))) (by decide) (t := .boolean) (t' := (.array .int)) (by decide) (by decide)))
  have ZS := Nat.le_trans ZS (Keep.of_wr W4).1
  have KP := KP.wr W4 (Or.inl (List.mem_of_getElem? (i := 0) rfl))
  have NF := Fr.snoc X4 NF g_a1
  show own_R _ _ _ _ (T4.setTop (mkF m 14 #[.val (.ref a1), .val (.int p2), .val (.ref a3), .val (.long q4), .second, .val (.long q5), .second, .val (.int p6)] []))
  refine own_go (fun _ k => XS.aloadN X4.here hx rfl (hb hby d1_14) rfl rfl k) ?_
  show own_R _ _ _ _ (T4.setTop (mkF m 15 #[.val (.ref a1), .val (.int p2), .val (.ref a3), .val (.long q4), .second, .val (.long q5), .second, .val (.int p6)] [(.ref a1)]))
  refine own_go (fun _ k => XS.lloadN X4.here hx rfl (hb hby d1_15) rfl k) ?_
  show own_R _ _ _ _ (T4.setTop (mkF m 16 #[.val (.ref a1), .val (.int p2), .val (.ref a3), .val (.long q4), .second, .val (.long q5), .second, .val (.int p6)] [(.long q4), (.ref a1)]))
  obtain ⟨T5, h5, X5, e5, W5, st5⟩ := putF X4 hx hZ hown (host := "") (Or.inl (hw _ (List.mem_of_getElem? (i := 19) rfl))) Via.refl e4 F_value_a1 E_a1 (Or.inr ⟨(hw _ (List.mem_of_getElem? (i := 20) rfl)), rfl, hnm⟩) (hw _ (List.mem_of_getElem? (i := 2) rfl)) (ty := .long) (by decide) rfl rfl (g := (mkF m 16 #[.val (.ref a1), .val (.int p2), .val (.ref a3), .val (.long q4), .second, .val (.long q5), .second, .val (.int p6)] [(.long q4), (.ref a1)])) rfl rfl (hb hby d1_16)
  refine own_go st5 ?_
  have E_a1 := E_a1.wr W5
  have F_feasible_a1 := F_feasible_a1.other W5 (Or.inr (slot_ne (Or.inr (hw _ (List.mem_of_getElem? (i := 16) rfl))) (Or.inr (hw _ (List.mem_of_getElem? (i := 20) rfl))) (by decide) (t := .boolean) (t' := .long) (by decide) (by decide)))
  have F_columns_a1 := F_columns_a1.other W5 (Or.inr (slot_ne (Or.inr (hw _ (List.mem_of_getElem? (i := 18) rfl))) (Or.inr (hw _ (List.mem_of_getElem? (i := 20) rfl))) (by decide) (t := (.array .int)) (t' := .long) (by decide) (by decide)))
  have F_value_a1 := F_value_a1.same W5
  have F_bound_a1 := F_bound_a1.other W5 (Or.inr (slot_ne (Or.inr (hw _ (List.mem_of_getElem? (i := 22) rfl))) (Or.inr (hw _ (List.mem_of_getElem? (i := 20) rfl))) (by decide) (t := .long) (t' := .long) (by decide) (by decide)))
  have F_stopped_a1 := F_stopped_a1.other W5 (Or.inr (slot_ne (Or.inr (hw _ (List.mem_of_getElem? (i := 24) rfl))) (Or.inr (hw _ (List.mem_of_getElem? (i := 20) rfl))) (by decide) (t := .boolean) (t' := .long) (by decide) (by decide)))
  have ZS := Nat.le_trans ZS (Keep.of_wr W5).1
  have KP := KP.wr W5 (Or.inl (List.mem_of_getElem? (i := 0) rfl))
  have NF := Fr.snoc X5 NF g_a1
  show own_R _ _ _ _ (T5.setTop (mkF m 19 #[.val (.ref a1), .val (.int p2), .val (.ref a3), .val (.long q4), .second, .val (.long q5), .second, .val (.int p6)] []))
  refine own_go (fun _ k => XS.aloadN X5.here hx rfl (hb hby d1_19) rfl rfl k) ?_
  show own_R _ _ _ _ (T5.setTop (mkF m 20 #[.val (.ref a1), .val (.int p2), .val (.ref a3), .val (.long q4), .second, .val (.long q5), .second, .val (.int p6)] [(.ref a1)]))
  refine own_go (fun _ k => XS.lload X5.here hx rfl (hb hby d1_20) rfl k) ?_
  show own_R _ _ _ _ (T5.setTop (mkF m 22 #[.val (.ref a1), .val (.int p2), .val (.ref a3), .val (.long q4), .second, .val (.long q5), .second, .val (.int p6)] [(.long q5), (.ref a1)]))
  obtain ⟨T6, h6, X6, e6, W6, st6⟩ := putF X5 hx hZ hown (host := "") (Or.inl (hw _ (List.mem_of_getElem? (i := 21) rfl))) Via.refl e5 F_bound_a1 E_a1 (Or.inr ⟨(hw _ (List.mem_of_getElem? (i := 22) rfl)), rfl, hnm⟩) (hw _ (List.mem_of_getElem? (i := 2) rfl)) (ty := .long) (by decide) rfl rfl (g := (mkF m 22 #[.val (.ref a1), .val (.int p2), .val (.ref a3), .val (.long q4), .second, .val (.long q5), .second, .val (.int p6)] [(.long q5), (.ref a1)])) rfl rfl (hb hby d1_22)
  refine own_go st6 ?_
  have E_a1 := E_a1.wr W6
  have F_feasible_a1 := F_feasible_a1.other W6 (Or.inr (slot_ne (Or.inr (hw _ (List.mem_of_getElem? (i := 16) rfl))) (Or.inr (hw _ (List.mem_of_getElem? (i := 22) rfl))) (by decide) (t := .boolean) (t' := .long) (by decide) (by decide)))
  have F_columns_a1 := F_columns_a1.other W6 (Or.inr (slot_ne (Or.inr (hw _ (List.mem_of_getElem? (i := 18) rfl))) (Or.inr (hw _ (List.mem_of_getElem? (i := 22) rfl))) (by decide) (t := (.array .int)) (t' := .long) (by decide) (by decide)))
  have F_value_a1 := F_value_a1.other W6 (Or.inr (slot_ne (Or.inr (hw _ (List.mem_of_getElem? (i := 20) rfl))) (Or.inr (hw _ (List.mem_of_getElem? (i := 22) rfl))) (by decide) (t := .long) (t' := .long) (by decide) (by decide)))
  have F_bound_a1 := F_bound_a1.same W6
  have F_stopped_a1 := F_stopped_a1.other W6 (Or.inr (slot_ne (Or.inr (hw _ (List.mem_of_getElem? (i := 24) rfl))) (Or.inr (hw _ (List.mem_of_getElem? (i := 22) rfl))) (by decide) (t := .boolean) (t' := .long) (by decide) (by decide)))
  have ZS := Nat.le_trans ZS (Keep.of_wr W6).1
  have KP := KP.wr W6 (Or.inl (List.mem_of_getElem? (i := 0) rfl))
  have NF := Fr.snoc X6 NF g_a1
  show own_R _ _ _ _ (T6.setTop (mkF m 25 #[.val (.ref a1), .val (.int p2), .val (.ref a3), .val (.long q4), .second, .val (.long q5), .second, .val (.int p6)] []))
  refine own_go (fun _ k => XS.aloadN X6.here hx rfl (hb hby d1_25) rfl rfl k) ?_
  show own_R _ _ _ _ (T6.setTop (mkF m 26 #[.val (.ref a1), .val (.int p2), .val (.ref a3), .val (.long q4), .second, .val (.long q5), .second, .val (.int p6)] [(.ref a1)]))
  refine own_go (fun _ k => XS.iload X6.here hx rfl (hb hby d1_26) rfl k) ?_
  show own_R _ _ _ _ (T6.setTop (mkF m 28 #[.val (.ref a1), .val (.int p2), .val (.ref a3), .val (.long q4), .second, .val (.long q5), .second, .val (.int p6)] [(.int p6), (.ref a1)]))
  obtain ⟨T7, h7, X7, e7, W7, st7⟩ := putFN X6 hx hZ hown (hw _ (List.mem_of_getElem? (i := 23) rfl)) Via.refl e6 F_stopped_a1 E_a1 (Or.inr ⟨(hw _ (List.mem_of_getElem? (i := 24) rfl)), rfl, hnm⟩) (hw _ (List.mem_of_getElem? (i := 2) rfl)) (ty := .boolean) (v' := .int p6) (by decide) (own_nar01 hp6) (own_fit01 hp6) (g := (mkF m 28 #[.val (.ref a1), .val (.int p2), .val (.ref a3), .val (.long q4), .second, .val (.long q5), .second, .val (.int p6)] [(.int p6), (.ref a1)])) rfl rfl (hb hby d1_28)
  refine own_go st7 ?_
  have E_a1 := E_a1.wr W7
  have F_feasible_a1 := F_feasible_a1.other W7 (Or.inr (slot_ne (Or.inr (hw _ (List.mem_of_getElem? (i := 16) rfl))) (Or.inr (hw _ (List.mem_of_getElem? (i := 24) rfl))) (by decide) (t := .boolean) (t' := .boolean) (by decide) (by decide)))
  have F_columns_a1 := F_columns_a1.other W7 (Or.inr (slot_ne (Or.inr (hw _ (List.mem_of_getElem? (i := 18) rfl))) (Or.inr (hw _ (List.mem_of_getElem? (i := 24) rfl))) (by decide) (t := (.array .int)) (t' := .boolean) (by decide) (by decide)))
  have F_value_a1 := F_value_a1.other W7 (Or.inr (slot_ne (Or.inr (hw _ (List.mem_of_getElem? (i := 20) rfl))) (Or.inr (hw _ (List.mem_of_getElem? (i := 24) rfl))) (by decide) (t := .long) (t' := .boolean) (by decide) (by decide)))
  have F_bound_a1 := F_bound_a1.other W7 (Or.inr (slot_ne (Or.inr (hw _ (List.mem_of_getElem? (i := 22) rfl))) (Or.inr (hw _ (List.mem_of_getElem? (i := 24) rfl))) (by decide) (t := .long) (t' := .boolean) (by decide) (by decide)))
  have F_stopped_a1 := F_stopped_a1.same W7
  have ZS := Nat.le_trans ZS (Keep.of_wr W7).1
  have KP := KP.wr W7 (Or.inl (List.mem_of_getElem? (i := 0) rfl))
  have NF := Fr.snoc X7 NF g_a1
  show own_R _ _ _ _ (T7.setTop (mkF m 31 #[.val (.ref a1), .val (.int p2), .val (.ref a3), .val (.long q4), .second, .val (.long q5), .second, .val (.int p6)] []))
  exact own_ret0 X7 hx Bd.returns (hb hby d1_31) hlk (by rw [e7]; exact ⟨rfl, NF, KP, F_feasible_a1, F_columns_a1, F_value_a1, F_bound_a1, F_stopped_a1⟩) (by decide) (by decide)
theorem d4_0 : decode prog_69_method_4_code 0 = .ok (.aload_n 0, 1) := by decide +kernel
theorem d4_1 : decode prog_69_method_4_code 1 = .ok (.getfield 7, 3) := by decide +kernel
theorem d4_4 : decode prog_69_method_4_code 4 = .ok (.ifCond .eq 19, 3) := by decide +kernel
theorem d4_7 : decode prog_69_method_4_code 7 = .ok (.aload_n 0, 1) := by decide +kernel
theorem d4_8 : decode prog_69_method_4_code 8 = .ok (.getfield 17, 3) := by decide +kernel
theorem d4_11 : decode prog_69_method_4_code 11 = .ok (.aload_n 0, 1) := by decide +kernel
theorem d4_12 : decode prog_69_method_4_code 12 = .ok (.getfield 21, 3) := by decide +kernel
theorem d4_15 : decode prog_69_method_4_code 15 = .ok (.lcmp, 1) := by decide +kernel
theorem d4_16 : decode prog_69_method_4_code 16 = .ok (.ifCond .ne 7, 3) := by decide +kernel
theorem d4_19 : decode prog_69_method_4_code 19 = .ok (.iconst 1, 1) := by decide +kernel
theorem d4_20 : decode prog_69_method_4_code 20 = .ok (.goto 4, 3) := by decide +kernel
theorem d4_23 : decode prog_69_method_4_code 23 = .ok (.iconst 0, 1) := by decide +kernel
theorem d4_24 : decode prog_69_method_4_code 24 = .ok (.ireturn, 1) := by decide +kernel
theorem ef_4 (m : MethodId) (x0 : Addr) : entryFrame m #[(.ref x0)] 1 = mkF m 0 #[.val (.ref x0)] [] := by first | (simp [entryFrame, mkF, argsToLocals, Value.category]; done) | rfl
def Q4 (Z : State) (a1 : Addr) (w1 : Int32) (w2 : Int64) (w3 : Int64) (h0 : Heap) (n0 : Nat) (v : Option Value) (h : Heap) (L : List Loc) : Prop := v = some (.int (own_opt w1 w2 w3)) ∧ Fr n0 L ∧ h = h0
set_option maxRecDepth 65536 in
set_option maxHeartbeats 40000000 in
theorem rm4 (l : Launch) (Z : State) (a0 : Array Value) (hw : ∀ d ∈ tables_1, d.before a0 Z = true) (ws : List Jvm.Cond) (a1 : Addr) (w1 : Int32) (w2 : Int64) (w3 : Int64) (h0 : Heap) (n0 : Nat) (ZS : n0 ≤ h0.size) (F_feasible_a1 : Fld Z h0 a1 "com/example/clearlot/clearlot/search/Solution" "feasible" "Z" (.int w1)) (F_value_a1 : Fld Z h0 a1 "com/example/clearlot/clearlot/search/Solution" "value" "J" (.long w2)) (F_bound_a1 : Fld Z h0 a1 "com/example/clearlot/clearlot/search/Solution" "bound" "J" (.long w3)) :
    MetFree l (⟨"com/example/clearlot/clearlot/search/Solution", "optimal", "()Z"⟩ : MethodName) (head1 (Jvm.Cond.code (⟨"com/example/clearlot/clearlot/search/Solution", "optimal", "()Z"⟩ : MethodName) prog_69_method_4_code 1 (some .boolean) :: ws) ({ frames := 0, cells := 0, slots := 0, locals := 0 } : Room)) (fun a U => a = #[(.ref a1)] ∧ Z.Warmed39 U.vm ∧ U.heap = h0) (fun _ _ _ _ _ => True) (fun _ U o U' => ∃ v L, o = .returned v ∧ Q4 Z a1 w1 w2 w3 h0 n0 v U'.heap L ∧ FrameEnd U o U' L ({ frames := 0, cells := 0, slots := 0, locals := 0 } : Room).cells ({ frames := 0, cells := 0, slots := 0, locals := 0 } : Room).slots) := by
  refine MetFree.of_bodySF (plainFor_of_name pn_1) hisR ?_
  intro p e s m args below meth c s₁ Bd hml0 hP hK
  obtain ⟨rfl, hZ, hh⟩ := hP
  have hx := Bd.exec
  have hby := Bd.bytes
  have hml : c.maxLocals = 1 := hml0
  have hown : s.vm.findClass "com/example/clearlot/clearlot/search/Solution" = some m.cls := findClass_of_methodNamed Bd.named
  have hnm := (name_of_methodNamed Bd.named Bd.method).1
  have hlk : meth.locks = false := Bd.notSynchronized
  have X0 : Stand p l e ({ frames := 0, cells := 0, slots := 0, locals := 0 } : Room) s m #[(.ref a1)] below meth c s₁ [] 0 0 := Stand.of_body Bd
  have e0 : s₁.heap = h0 := by rw [← hh, Bd.state]; rfl
  have NF := Fr.nil n0
  have KP : Keep h0 h0 [] := Keep.refl _ _
  refine own_fin (s := s) (Q := Q4 Z a1 w1 w2 w3 h0 n0) (rc := ({ frames := 0, cells := 0, slots := 0, locals := 0 } : Room).cells) (rs := ({ frames := 0, cells := 0, slots := 0, locals := 0 } : Room).slots) ?_
  refine own_go (fun t k => castTop (ef_4 m a1) k) ?_
  show own_R _ _ _ _ (s₁.setTop (mkF m 0 #[.val (.ref a1)] []))
  refine own_go (fun _ k => XS.aloadN X0.here hx rfl (hb hby d4_0) rfl rfl k) ?_
  show own_R _ _ _ _ (s₁.setTop (mkF m 1 #[.val (.ref a1)] [(.ref a1)]))
  obtain ⟨T8, X8, e8, st8⟩ := getF X0 hx hZ hown (host := "") (Or.inl (hw _ (List.mem_of_getElem? (i := 15) rfl))) Via.refl e0 F_feasible_a1 (g := (mkF m 1 #[.val (.ref a1)] [(.ref a1)])) rfl rfl (hb hby d4_1)
  refine own_go st8 ?_
  show own_R _ _ _ _ (T8.setTop (mkF m 4 #[.val (.ref a1)] [(.int w1)]))
  by_cases hc9 : w1 = (0 : Int32)
  · refine own_go (fun _ k => XS.ifYes X8.here hx rfl (pc0 := 4) (pc' := 23) rfl (hb hby d4_4) rfl ((if0 _ _).trans (teq hc9).1) (by decide) (by decide) k) ?_
    show own_R _ _ _ _ (T8.setTop (mkF m 23 #[.val (.ref a1)] []))
    refine own_go (fun _ k => XS.iconst X8.here hx rfl (hb hby d4_23) k) ?_
    show own_R _ _ _ _ (T8.setTop (mkF m 24 #[.val (.ref a1)] [(.int (0 : Int32))]))
    exact own_retN X8 hx (t := .boolean) (by simp) Bd.returns (hb hby d4_24) hlk ⟨by rw [show own_opt w1 w2 w3 = (0 : Int32) from by simp only [own_opt, hc9, if_true, if_false]]; rfl, NF, e8⟩ (by decide) (by decide)
  · refine own_go (fun _ k => XS.ifNo X8.here hx rfl (hb hby d4_4) rfl ((if0 _ _).trans (feq hc9).1) k) ?_
    show own_R _ _ _ _ (T8.setTop (mkF m 7 #[.val (.ref a1)] []))
    refine own_go (fun _ k => XS.aloadN X8.here hx rfl (hb hby d4_7) rfl rfl k) ?_
    show own_R _ _ _ _ (T8.setTop (mkF m 8 #[.val (.ref a1)] [(.ref a1)]))
    obtain ⟨T10, X10, e10, st10⟩ := getF X8 hx hZ hown (host := "") (Or.inl (hw _ (List.mem_of_getElem? (i := 19) rfl))) Via.refl e8 F_value_a1 (g := (mkF m 8 #[.val (.ref a1)] [(.ref a1)])) rfl rfl (hb hby d4_8)
    refine own_go st10 ?_
    show own_R _ _ _ _ (T10.setTop (mkF m 11 #[.val (.ref a1)] [(.long w2)]))
    refine own_go (fun _ k => XS.aloadN X10.here hx rfl (hb hby d4_11) rfl rfl k) ?_
    show own_R _ _ _ _ (T10.setTop (mkF m 12 #[.val (.ref a1)] [(.ref a1), (.long w2)]))
    obtain ⟨T11, X11, e11, st11⟩ := getF X10 hx hZ hown (host := "") (Or.inl (hw _ (List.mem_of_getElem? (i := 21) rfl))) Via.refl e10 F_bound_a1 (g := (mkF m 12 #[.val (.ref a1)] [(.ref a1), (.long w2)])) rfl rfl (hb hby d4_12)
    refine own_go st11 ?_
    show own_R _ _ _ _ (T11.setTop (mkF m 15 #[.val (.ref a1)] [(.long w3), (.long w2)]))
    refine own_go (fun _ k => XS.lcmp X11.here hx rfl (hb hby d4_15) rfl k) ?_
    show own_R _ _ _ _ (T11.setTop (mkF m 16 #[.val (.ref a1)] [(.int (lcmpW w2 w3))]))
    by_cases hc12 : (lcmpW w2 w3) = (0 : Int32)
    · refine own_go (fun _ k => XS.ifNo X11.here hx rfl (hb hby d4_16) rfl ((if0 _ _).trans (teq hc12).2) k) ?_
      show own_R _ _ _ _ (T11.setTop (mkF m 19 #[.val (.ref a1)] []))
      refine own_go (fun _ k => XS.iconst X11.here hx rfl (hb hby d4_19) k) ?_
      show own_R _ _ _ _ (T11.setTop (mkF m 20 #[.val (.ref a1)] [(.int (1 : Int32))]))
      refine own_go (fun _ k => XS.goto X11.here hx rfl (pc0 := 20) (pc' := 24) rfl (hb hby d4_20) (by decide) (by decide) k) ?_
      show own_R _ _ _ _ (T11.setTop (mkF m 24 #[.val (.ref a1)] [(.int (1 : Int32))]))
      exact own_retN X11 hx (t := .boolean) (by simp) Bd.returns (hb hby d4_24) hlk ⟨by rw [show own_opt w1 w2 w3 = (1 : Int32) from by simp only [own_opt, hc9, hc12, if_true, if_false]]; rfl, NF, e11⟩ (by decide) (by decide)
    · refine own_go (fun _ k => XS.ifYes X11.here hx rfl (pc0 := 16) (pc' := 23) rfl (hb hby d4_16) rfl ((if0 _ _).trans (feq hc12).2) (by decide) (by decide) k) ?_
      show own_R _ _ _ _ (T11.setTop (mkF m 23 #[.val (.ref a1)] []))
      refine own_go (fun _ k => XS.iconst X11.here hx rfl (hb hby d4_23) k) ?_
      show own_R _ _ _ _ (T11.setTop (mkF m 24 #[.val (.ref a1)] [(.int (0 : Int32))]))
      exact own_retN X11 hx (t := .boolean) (by simp) Bd.returns (hb hby d4_24) hlk ⟨by rw [show own_opt w1 w2 w3 = (0 : Int32) from by simp only [own_opt, hc9, hc12, if_true, if_false]]; rfl, NF, e11⟩ (by decide) (by decide)
theorem pn_0 : plainName "com/example/clearlot/clearlot/search/SolutionOptimalPinLaw" = true := by first | (simp [plainName, overriddenIn]; done) | decide +kernel
theorem ef_0 (m : MethodId) (x0 : Int32) (x1 : Int64) (x2 : Int64) (x3 : Int32) : entryFrame m #[(.int x0), (.long x1), (.long x2), (.int x3)] maxLocals = mkF m 0 #[.val (.int x0), .val (.long x1), .second, .val (.long x2), .second, .val (.int x3), .unset, .unset, .unset, .unset, .unset, .unset, .unset] [] := by first | (simp [entryFrame, mkF, argsToLocals, Value.category, maxLocals]; done) | rfl
def Q0 (Z : State) (p1 : Int32) (q2 : Int64) (q3 : Int64) (p4 : Int32) (h0 : Heap) (n0 : Nat) (v : Option Value) (h : Heap) (L : List Loc) : Prop := v = some (.int 1) ∧ Fr n0 L
set_option maxRecDepth 65536 in
set_option maxHeartbeats 40000000 in
theorem rm0 (l : Launch) (Z : State) (a0 : Array Value) (hw : ∀ d ∈ tables_1, d.before a0 Z = true) (ws : List Jvm.Cond) (p1 : Int32) (q2 : Int64) (q3 : Int64) (p4 : Int32) (h0 : Heap) (n0 : Nat) (ZS : n0 ≤ h0.size) :
    MetFree l x (head1 (Jvm.Cond.code x code maxLocals ret :: ws) room_1) (fun a U => a = #[(.int p1), (.long q2), (.long q3), (.int p4)] ∧ Z.Warmed39 U.vm ∧ U.heap = h0) (fun _ _ _ _ _ => True) (fun _ U o U' => ∃ v L, o = .returned v ∧ Q0 Z p1 q2 q3 p4 h0 n0 v U'.heap L ∧ FrameEnd U o U' L 16 128) := by
  refine MetFree.of_bodySF (plainFor_of_name pn_0) hisR ?_
  intro p e s m args below meth c s₁ Bd hml0 hP hK
  obtain ⟨rfl, hZ, hh⟩ := hP
  have hx := Bd.exec
  have hby := Bd.bytes
  have hml : c.maxLocals = 13 := hml0
  have hown : s.vm.findClass "com/example/clearlot/clearlot/search/SolutionOptimalPinLaw" = some m.cls := findClass_of_methodNamed Bd.named
  have hnm := (name_of_methodNamed Bd.named Bd.method).1
  have hlk : meth.locks = false := Bd.notSynchronized
  have X0 : Stand p l e room_1 s m #[(.int p1), (.long q2), (.long q3), (.int p4)] below meth c s₁ [] 0 0 := Stand.of_body Bd
  have e0 : s₁.heap = h0 := by rw [← hh, Bd.state]; rfl
  have NF := Fr.nil n0
  have KP : Keep h0 h0 [] := Keep.refl _ _
  refine own_fin (s := s) (Q := Q0 Z p1 q2 q3 p4 h0 n0) (rc := 16) (rs := 128) ?_
  refine own_go (fun t k => castTop (ef_0 m p1 q2 q3 p4) k) ?_
  show own_R _ _ _ _ (s₁.setTop (mkF m 0 #[.val (.int p1), .val (.long q2), .second, .val (.long q3), .second, .val (.int p4), .unset, .unset, .unset, .unset, .unset, .unset, .unset] []))
  obtain ⟨_, ⟨b6, hs13, rfl⟩, sg13⟩ : own_R p.tables e below (fun U => ∃ (b6 : Int32), (b6 = 0 ∨ b6 = 1) ∧ U = s₁.setTop (mkF m 11 #[.val (.int p1), .val (.long q2), .second, .val (.long q3), .second, .val (.int p4), .unset, .unset, .unset, .unset, .unset, .unset, .unset] [(.int b6)])) (s₁.setTop (mkF m 0 #[.val (.int p1), .val (.long q2), .second, .val (.long q3), .second, .val (.int p4), .unset, .unset, .unset, .unset, .unset, .unset, .unset] [])) := by
    refine own_go (fun _ k => XS.iloadN X0.here hx rfl (hb hby at_0) rfl k) ?_
    show own_R _ _ _ _ (s₁.setTop (mkF m 1 #[.val (.int p1), .val (.long q2), .second, .val (.long q3), .second, .val (.int p4), .unset, .unset, .unset, .unset, .unset, .unset, .unset] [(.int p1)]))
    refine own_go (fun _ k => XS.iconst X0.here hx rfl (hb hby at_1) k) ?_
    show own_R _ _ _ _ (s₁.setTop (mkF m 2 #[.val (.int p1), .val (.long q2), .second, .val (.long q3), .second, .val (.int p4), .unset, .unset, .unset, .unset, .unset, .unset, .unset] [(.int (1 : Int32)), (.int p1)]))
    refine own_go (fun _ k => XS.iand X0.here hx rfl (hb hby at_2) rfl k) ?_
    show own_R _ _ _ _ (s₁.setTop (mkF m 3 #[.val (.int p1), .val (.long q2), .second, .val (.long q3), .second, .val (.int p4), .unset, .unset, .unset, .unset, .unset, .unset, .unset] [(.int (p1 &&& (1 : Int32)))]))
    by_cases hc14 : (p1 &&& (1 : Int32)) = (0 : Int32)
    · refine own_go (fun _ k => XS.ifYes X0.here hx rfl (pc0 := 3) (pc' := 10) rfl (hb hby at_3) rfl ((if0 _ _).trans (teq hc14).1) (by decide) (by decide) k) ?_
      show own_R _ _ _ _ (s₁.setTop (mkF m 10 #[.val (.int p1), .val (.long q2), .second, .val (.long q3), .second, .val (.int p4), .unset, .unset, .unset, .unset, .unset, .unset, .unset] []))
      refine own_go (fun _ k => XS.iconst X0.here hx rfl (hb hby at_10) k) ?_
      show own_R _ _ _ _ (s₁.setTop (mkF m 11 #[.val (.int p1), .val (.long q2), .second, .val (.long q3), .second, .val (.int p4), .unset, .unset, .unset, .unset, .unset, .unset, .unset] [(.int (0 : Int32))]))
      exact own_leaf ⟨(0 : Int32), by simp, rfl⟩
    · refine own_go (fun _ k => XS.ifNo X0.here hx rfl (hb hby at_3) rfl ((if0 _ _).trans (feq hc14).1) k) ?_
      show own_R _ _ _ _ (s₁.setTop (mkF m 6 #[.val (.int p1), .val (.long q2), .second, .val (.long q3), .second, .val (.int p4), .unset, .unset, .unset, .unset, .unset, .unset, .unset] []))
      refine own_go (fun _ k => XS.iconst X0.here hx rfl (hb hby at_6) k) ?_
      show own_R _ _ _ _ (s₁.setTop (mkF m 7 #[.val (.int p1), .val (.long q2), .second, .val (.long q3), .second, .val (.int p4), .unset, .unset, .unset, .unset, .unset, .unset, .unset] [(.int (1 : Int32))]))
      refine own_go (fun _ k => XS.goto X0.here hx rfl (pc0 := 7) (pc' := 11) rfl (hb hby at_7) (by decide) (by decide) k) ?_
      show own_R _ _ _ _ (s₁.setTop (mkF m 11 #[.val (.int p1), .val (.long q2), .second, .val (.long q3), .second, .val (.int p4), .unset, .unset, .unset, .unset, .unset, .unset, .unset] [(.int (1 : Int32))]))
      exact own_leaf ⟨(1 : Int32), by simp, rfl⟩
  refine own_go sg13 ?_
  show own_R _ _ _ _ (s₁.setTop (mkF m 11 #[.val (.int p1), .val (.long q2), .second, .val (.long q3), .second, .val (.int p4), .unset, .unset, .unset, .unset, .unset, .unset, .unset] [(.int b6)]))
  refine own_go (fun _ k => XS.istore X0.here hx rfl (hb hby at_11) rfl (l' := #[.val (.int p1), .val (.long q2), .second, .val (.long q3), .second, .val (.int p4), .val (.int b6), .unset, .unset, .unset, .unset, .unset, .unset]) rfl k) ?_
  show own_R _ _ _ _ (s₁.setTop (mkF m 13 #[.val (.int p1), .val (.long q2), .second, .val (.long q3), .second, .val (.int p4), .val (.int b6), .unset, .unset, .unset, .unset, .unset, .unset] []))
  obtain ⟨_, ⟨b7, hs15, rfl⟩, sg15⟩ : own_R p.tables e below (fun U => ∃ (b7 : Int32), (b7 = 0 ∨ b7 = 1) ∧ U = s₁.setTop (mkF m 24 #[.val (.int p1), .val (.long q2), .second, .val (.long q3), .second, .val (.int p4), .val (.int b6), .unset, .unset, .unset, .unset, .unset, .unset] [(.int b7)])) (s₁.setTop (mkF m 13 #[.val (.int p1), .val (.long q2), .second, .val (.long q3), .second, .val (.int p4), .val (.int b6), .unset, .unset, .unset, .unset, .unset, .unset] [])) := by
    refine own_go (fun _ k => XS.iloadN X0.here hx rfl (hb hby at_13) rfl k) ?_
    show own_R _ _ _ _ (s₁.setTop (mkF m 14 #[.val (.int p1), .val (.long q2), .second, .val (.long q3), .second, .val (.int p4), .val (.int b6), .unset, .unset, .unset, .unset, .unset, .unset] [(.int p1)]))
    refine own_go (fun _ k => XS.iconst X0.here hx rfl (hb hby at_14) k) ?_
    show own_R _ _ _ _ (s₁.setTop (mkF m 15 #[.val (.int p1), .val (.long q2), .second, .val (.long q3), .second, .val (.int p4), .val (.int b6), .unset, .unset, .unset, .unset, .unset, .unset] [(.int (2 : Int32)), (.int p1)]))
    refine own_go (fun _ k => XS.iand X0.here hx rfl (hb hby at_15) rfl k) ?_
    show own_R _ _ _ _ (s₁.setTop (mkF m 16 #[.val (.int p1), .val (.long q2), .second, .val (.long q3), .second, .val (.int p4), .val (.int b6), .unset, .unset, .unset, .unset, .unset, .unset] [(.int (p1 &&& (2 : Int32)))]))
    by_cases hc16 : (p1 &&& (2 : Int32)) = (0 : Int32)
    · refine own_go (fun _ k => XS.ifYes X0.here hx rfl (pc0 := 16) (pc' := 23) rfl (hb hby at_16) rfl ((if0 _ _).trans (teq hc16).1) (by decide) (by decide) k) ?_
      show own_R _ _ _ _ (s₁.setTop (mkF m 23 #[.val (.int p1), .val (.long q2), .second, .val (.long q3), .second, .val (.int p4), .val (.int b6), .unset, .unset, .unset, .unset, .unset, .unset] []))
      refine own_go (fun _ k => XS.iconst X0.here hx rfl (hb hby at_23) k) ?_
      show own_R _ _ _ _ (s₁.setTop (mkF m 24 #[.val (.int p1), .val (.long q2), .second, .val (.long q3), .second, .val (.int p4), .val (.int b6), .unset, .unset, .unset, .unset, .unset, .unset] [(.int (0 : Int32))]))
      exact own_leaf ⟨(0 : Int32), by simp, rfl⟩
    · refine own_go (fun _ k => XS.ifNo X0.here hx rfl (hb hby at_16) rfl ((if0 _ _).trans (feq hc16).1) k) ?_
      show own_R _ _ _ _ (s₁.setTop (mkF m 19 #[.val (.int p1), .val (.long q2), .second, .val (.long q3), .second, .val (.int p4), .val (.int b6), .unset, .unset, .unset, .unset, .unset, .unset] []))
      refine own_go (fun _ k => XS.iconst X0.here hx rfl (hb hby at_19) k) ?_
      show own_R _ _ _ _ (s₁.setTop (mkF m 20 #[.val (.int p1), .val (.long q2), .second, .val (.long q3), .second, .val (.int p4), .val (.int b6), .unset, .unset, .unset, .unset, .unset, .unset] [(.int (1 : Int32))]))
      refine own_go (fun _ k => XS.goto X0.here hx rfl (pc0 := 20) (pc' := 24) rfl (hb hby at_20) (by decide) (by decide) k) ?_
      show own_R _ _ _ _ (s₁.setTop (mkF m 24 #[.val (.int p1), .val (.long q2), .second, .val (.long q3), .second, .val (.int p4), .val (.int b6), .unset, .unset, .unset, .unset, .unset, .unset] [(.int (1 : Int32))]))
      exact own_leaf ⟨(1 : Int32), by simp, rfl⟩
  refine own_go sg15 ?_
  show own_R _ _ _ _ (s₁.setTop (mkF m 24 #[.val (.int p1), .val (.long q2), .second, .val (.long q3), .second, .val (.int p4), .val (.int b6), .unset, .unset, .unset, .unset, .unset, .unset] [(.int b7)]))
  refine own_go (fun _ k => XS.istore X0.here hx rfl (hb hby at_24) rfl (l' := #[.val (.int p1), .val (.long q2), .second, .val (.long q3), .second, .val (.int p4), .val (.int b6), .val (.int b7), .unset, .unset, .unset, .unset, .unset]) rfl k) ?_
  show own_R _ _ _ _ (s₁.setTop (mkF m 26 #[.val (.int p1), .val (.long q2), .second, .val (.long q3), .second, .val (.int p4), .val (.int b6), .val (.int b7), .unset, .unset, .unset, .unset, .unset] []))
  obtain ⟨_, ⟨qb, hs17, rfl⟩, sg17⟩ : own_R p.tables e below (fun U => ∃ (qb : Int64), (True) ∧ U = s₁.setTop (mkF m 37 #[.val (.int p1), .val (.long q2), .second, .val (.long q3), .second, .val (.int p4), .val (.int b6), .val (.int b7), .unset, .unset, .unset, .unset, .unset] [(.long qb)])) (s₁.setTop (mkF m 26 #[.val (.int p1), .val (.long q2), .second, .val (.long q3), .second, .val (.int p4), .val (.int b6), .val (.int b7), .unset, .unset, .unset, .unset, .unset] [])) := by
    refine own_go (fun _ k => XS.iloadN X0.here hx rfl (hb hby at_26) rfl k) ?_
    show own_R _ _ _ _ (s₁.setTop (mkF m 27 #[.val (.int p1), .val (.long q2), .second, .val (.long q3), .second, .val (.int p4), .val (.int b6), .val (.int b7), .unset, .unset, .unset, .unset, .unset] [(.int p1)]))
    refine own_go (fun _ k => XS.iconst X0.here hx rfl (hb hby at_27) k) ?_
    show own_R _ _ _ _ (s₁.setTop (mkF m 28 #[.val (.int p1), .val (.long q2), .second, .val (.long q3), .second, .val (.int p4), .val (.int b6), .val (.int b7), .unset, .unset, .unset, .unset, .unset] [(.int (4 : Int32)), (.int p1)]))
    refine own_go (fun _ k => XS.iand X0.here hx rfl (hb hby at_28) rfl k) ?_
    show own_R _ _ _ _ (s₁.setTop (mkF m 29 #[.val (.int p1), .val (.long q2), .second, .val (.long q3), .second, .val (.int p4), .val (.int b6), .val (.int b7), .unset, .unset, .unset, .unset, .unset] [(.int (p1 &&& (4 : Int32)))]))
    by_cases hc18 : (p1 &&& (4 : Int32)) = (0 : Int32)
    · refine own_go (fun _ k => XS.ifYes X0.here hx rfl (pc0 := 29) (pc' := 36) rfl (hb hby at_29) rfl ((if0 _ _).trans (teq hc18).1) (by decide) (by decide) k) ?_
      show own_R _ _ _ _ (s₁.setTop (mkF m 36 #[.val (.int p1), .val (.long q2), .second, .val (.long q3), .second, .val (.int p4), .val (.int b6), .val (.int b7), .unset, .unset, .unset, .unset, .unset] []))
      refine own_go (fun _ k => XS.lloadN X0.here hx rfl (hb hby at_36) rfl k) ?_
      show own_R _ _ _ _ (s₁.setTop (mkF m 37 #[.val (.int p1), .val (.long q2), .second, .val (.long q3), .second, .val (.int p4), .val (.int b6), .val (.int b7), .unset, .unset, .unset, .unset, .unset] [(.long q3)]))
      exact own_leaf ⟨q3, trivial, rfl⟩
    · refine own_go (fun _ k => XS.ifNo X0.here hx rfl (hb hby at_29) rfl ((if0 _ _).trans (feq hc18).1) k) ?_
      show own_R _ _ _ _ (s₁.setTop (mkF m 32 #[.val (.int p1), .val (.long q2), .second, .val (.long q3), .second, .val (.int p4), .val (.int b6), .val (.int b7), .unset, .unset, .unset, .unset, .unset] []))
      refine own_go (fun _ k => XS.lloadN X0.here hx rfl (hb hby at_32) rfl k) ?_
      show own_R _ _ _ _ (s₁.setTop (mkF m 33 #[.val (.int p1), .val (.long q2), .second, .val (.long q3), .second, .val (.int p4), .val (.int b6), .val (.int b7), .unset, .unset, .unset, .unset, .unset] [(.long q2)]))
      refine own_go (fun _ k => XS.goto X0.here hx rfl (pc0 := 33) (pc' := 37) rfl (hb hby at_33) (by decide) (by decide) k) ?_
      show own_R _ _ _ _ (s₁.setTop (mkF m 37 #[.val (.int p1), .val (.long q2), .second, .val (.long q3), .second, .val (.int p4), .val (.int b6), .val (.int b7), .unset, .unset, .unset, .unset, .unset] [(.long q2)]))
      exact own_leaf ⟨q2, trivial, rfl⟩
  refine own_go sg17 ?_
  show own_R _ _ _ _ (s₁.setTop (mkF m 37 #[.val (.int p1), .val (.long q2), .second, .val (.long q3), .second, .val (.int p4), .val (.int b6), .val (.int b7), .unset, .unset, .unset, .unset, .unset] [(.long qb)]))
  refine own_go (fun _ k => XS.lstore X0.here hx rfl (hb hby at_37) rfl (l' := #[.val (.int p1), .val (.long q2), .second, .val (.long q3), .second, .val (.int p4), .val (.int b6), .val (.int b7), .val (.long qb), .second, .unset, .unset, .unset]) rfl k) ?_
  show own_R _ _ _ _ (s₁.setTop (mkF m 39 #[.val (.int p1), .val (.long q2), .second, .val (.long q3), .second, .val (.int p4), .val (.int b6), .val (.int b7), .val (.long qb), .second, .unset, .unset, .unset] []))
  refine own_go (fun _ k => XS.iloadN X0.here hx rfl (hb hby at_39) rfl k) ?_
  show own_R _ _ _ _ (s₁.setTop (mkF m 40 #[.val (.int p1), .val (.long q2), .second, .val (.long q3), .second, .val (.int p4), .val (.int b6), .val (.int b7), .val (.long qb), .second, .unset, .unset, .unset] [(.int p1)]))
  refine own_go (fun _ k => XS.bipush X0.here hx rfl (hb hby at_40) k) ?_
  show own_R _ _ _ _ (s₁.setTop (mkF m 42 #[.val (.int p1), .val (.long q2), .second, .val (.long q3), .second, .val (.int p4), .val (.int b6), .val (.int b7), .val (.long qb), .second, .unset, .unset, .unset] [(.int (8 : Int32)), (.int p1)]))
  refine own_go (fun _ k => XS.iand X0.here hx rfl (hb hby at_42) rfl k) ?_
  show own_R _ _ _ _ (s₁.setTop (mkF m 43 #[.val (.int p1), .val (.long q2), .second, .val (.long q3), .second, .val (.int p4), .val (.int b6), .val (.int b7), .val (.long qb), .second, .unset, .unset, .unset] [(.int (p1 &&& (8 : Int32)))]))
  by_cases hc19 : (p1 &&& (8 : Int32)) = (0 : Int32)
  · refine own_go (fun _ k => XS.ifYes X0.here hx rfl (pc0 := 43) (pc' := 52) rfl (hb hby at_43) rfl ((if0 _ _).trans (teq hc19).1) (by decide) (by decide) k) ?_
    show own_R _ _ _ _ (s₁.setTop (mkF m 52 #[.val (.int p1), .val (.long q2), .second, .val (.long q3), .second, .val (.int p4), .val (.int b6), .val (.int b7), .val (.long qb), .second, .unset, .unset, .unset] []))
    refine own_go (fun _ k => XS.iconst X0.here hx rfl (hb hby at_52) k) ?_
    show own_R _ _ _ _ (s₁.setTop (mkF m 53 #[.val (.int p1), .val (.long q2), .second, .val (.long q3), .second, .val (.int p4), .val (.int b6), .val (.int b7), .val (.long qb), .second, .unset, .unset, .unset] [(.int (1 : Int32))]))
    obtain ⟨T20, h20, k20, X20, e20, E20, A20, st20⟩ := newP X0 hx hZ (hw _ (List.mem_of_getElem? (i := 0) rfl)) e0 (g := (mkF m 53 #[.val (.int p1), .val (.long q2), .second, .val (.long q3), .second, .val (.int p4), .val (.int b6), .val (.int b7), .val (.long qb), .second, .unset, .unset, .unset] [(.int (1 : Int32))])) rfl (hb hby at_53) rfl (by decide) (cap := 1) (by decide) (by decide) (by decide) (by decide)
    obtain ⟨b20, g20⟩ : ∃ z, z = h0.size := ⟨_, rfl⟩
    rw [← g20] at A20 st20
    refine own_go st20 ?_
    have g_b20 : n0 ≤ b20 := Nat.le_trans ZS (Nat.le_of_eq g20.symm)
    have sz_b20 : h0.size ≤ b20 := Nat.le_trans KP.1 (Nat.le_of_eq g20.symm)
    have ZS := Nat.le_trans ZS E20.1
    have KP := KP.ext E20
    have V_b20 : Arv Z h20 b20 k20 .int (1 : Int32) [(.int (0 : Int32))] (.int (0 : Int32)) := (Arv.new A20 (by decide)).pad (pad_rep [] (.int (0 : Int32)) 1)
    show own_R _ _ _ _ (T20.setTop (mkF m 55 #[.val (.int p1), .val (.long q2), .second, .val (.long q3), .second, .val (.int p4), .val (.int b6), .val (.int b7), .val (.long qb), .second, .unset, .unset, .unset] [(.ref b20)]))
    refine own_go (fun _ k => XS.dup X20.here hx rfl (hb hby at_55) rfl rfl k) ?_
    show own_R _ _ _ _ (T20.setTop (mkF m 56 #[.val (.int p1), .val (.long q2), .second, .val (.long q3), .second, .val (.int p4), .val (.int b6), .val (.int b7), .val (.long qb), .second, .unset, .unset, .unset] [(.ref b20), (.ref b20)]))
    refine own_go (fun _ k => XS.iconst X20.here hx rfl (hb hby at_56) k) ?_
    show own_R _ _ _ _ (T20.setTop (mkF m 57 #[.val (.int p1), .val (.long q2), .second, .val (.long q3), .second, .val (.int p4), .val (.int b6), .val (.int b7), .val (.long qb), .second, .unset, .unset, .unset] [(.int (0 : Int32)), (.ref b20), (.ref b20)]))
    refine own_go (fun _ k => XS.iload X20.here hx rfl (hb hby at_57) rfl k) ?_
    show own_R _ _ _ _ (T20.setTop (mkF m 59 #[.val (.int p1), .val (.long q2), .second, .val (.long q3), .second, .val (.int p4), .val (.int b6), .val (.int b7), .val (.long qb), .second, .unset, .unset, .unset] [(.int p4), (.int (0 : Int32)), (.ref b20), (.ref b20)]))
    obtain ⟨T21, h21, sl21, X21, e21, W21, V21, st21⟩ := own_stI X20 hx hZ e20 V_b20 (j := (0 : Int32)) (i := 0) ⟨by decide, by decide⟩ rfl (Nat.le_of_ble_eq_true rfl) rfl (g := (mkF m 59 #[.val (.int p1), .val (.long q2), .second, .val (.long q3), .second, .val (.int p4), .val (.int b6), .val (.int b7), .val (.long qb), .second, .unset, .unset, .unset] [(.int p4), (.int (0 : Int32)), (.ref b20), (.ref b20)])) rfl rfl (hb hby at_59)
    refine own_go st21 ?_
    have ZS := Nat.le_trans ZS (Keep.of_wr W21).1
    have KP := KP.wr W21 (Or.inr sz_b20)
    have NF := Fr.snoc X21 NF g_b20
    have V_b20 : Arv Z h21 b20 k20 .int (1 : Int32) [(.int p4)] (.int (0 : Int32)) := V21
    show own_R _ _ _ _ (T21.setTop (mkF m 60 #[.val (.int p1), .val (.long q2), .second, .val (.long q3), .second, .val (.int p4), .val (.int b6), .val (.int b7), .val (.long qb), .second, .unset, .unset, .unset] [(.ref b20)]))
    refine own_go (fun _ k => XS.astore X21.here hx rfl (hb hby at_60) rfl rfl (l' := #[.val (.int p1), .val (.long q2), .second, .val (.long q3), .second, .val (.int p4), .val (.int b6), .val (.int b7), .val (.long qb), .second, .val (.ref b20), .unset, .unset]) rfl k) ?_
    show own_R _ _ _ _ (T21.setTop (mkF m 62 #[.val (.int p1), .val (.long q2), .second, .val (.long q3), .second, .val (.int p4), .val (.int b6), .val (.int b7), .val (.long qb), .second, .val (.ref b20), .unset, .unset] []))
    obtain ⟨T22, h22, X22, e22, E22, A22, D22, -, st22⟩ := newO X21 hx hZ hown (hw _ (List.mem_of_getElem? (i := 1) rfl)) (hw _ (List.mem_of_getElem? (i := 2) rfl)) (hw _ (List.mem_of_getElem? (i := 3) rfl)) e21 (g := (mkF m 62 #[.val (.int p1), .val (.long q2), .second, .val (.long q3), .second, .val (.int p4), .val (.int b6), .val (.int b7), .val (.long qb), .second, .val (.ref b20), .unset, .unset] [])) rfl (hb hby at_62) (by decide) (by decide)
    obtain ⟨b22, g22⟩ : ∃ z, z = h21.size := ⟨_, rfl⟩
    rw [← g22] at A22 D22 st22
    refine own_go st22 ?_
    have ne_b20_b22 : b20 ≠ b22 := Nat.ne_of_lt (Nat.lt_of_lt_of_le V_b20.lt (Nat.le_of_eq g22.symm))
    have g_b22 : n0 ≤ b22 := Nat.le_trans ZS (Nat.le_of_eq g22.symm)
    have sz_b22 : h0.size ≤ b22 := Nat.le_trans KP.1 (Nat.le_of_eq g22.symm)
    have V_b20 := V_b20.ext E22
    have ZS := Nat.le_trans ZS E22.1
    have KP := KP.ext E22
    have E_b22 := A22
    have F_feasible_b22 : Fld Z h22 b22 "com/example/clearlot/clearlot/search/Solution" "feasible" "Z" (.int (0 : Int32)) := D22 (Or.inr (hw _ (List.mem_of_getElem? (i := 16) rfl))) (ty := .boolean) (by decide)
    have F_columns_b22 : Fld Z h22 b22 "com/example/clearlot/clearlot/search/Solution" "columns" "[I" .null := D22 (Or.inr (hw _ (List.mem_of_getElem? (i := 18) rfl))) (ty := (.array .int)) (by decide)
    have F_value_b22 : Fld Z h22 b22 "com/example/clearlot/clearlot/search/Solution" "value" "J" (.long (0 : Int64)) := D22 (Or.inr (hw _ (List.mem_of_getElem? (i := 20) rfl))) (ty := .long) (by decide)
    have F_bound_b22 : Fld Z h22 b22 "com/example/clearlot/clearlot/search/Solution" "bound" "J" (.long (0 : Int64)) := D22 (Or.inr (hw _ (List.mem_of_getElem? (i := 22) rfl))) (ty := .long) (by decide)
    have F_stopped_b22 : Fld Z h22 b22 "com/example/clearlot/clearlot/search/Solution" "stopped" "Z" (.int (0 : Int32)) := D22 (Or.inr (hw _ (List.mem_of_getElem? (i := 24) rfl))) (ty := .boolean) (by decide)
    show own_R _ _ _ _ (T22.setTop (mkF m 65 #[.val (.int p1), .val (.long q2), .second, .val (.long q3), .second, .val (.int p4), .val (.int b6), .val (.int b7), .val (.long qb), .second, .val (.ref b20), .unset, .unset] [(.ref b22)]))
    refine own_go (fun _ k => XS.dup X22.here hx rfl (hb hby at_65) rfl rfl k) ?_
    show own_R _ _ _ _ (T22.setTop (mkF m 66 #[.val (.int p1), .val (.long q2), .second, .val (.long q3), .second, .val (.int p4), .val (.int b6), .val (.int b7), .val (.long qb), .second, .val (.ref b20), .unset, .unset] [(.ref b22), (.ref b22)]))
    refine own_go (fun _ k => XS.iload X22.here hx rfl (hb hby at_66) rfl k) ?_
    show own_R _ _ _ _ (T22.setTop (mkF m 68 #[.val (.int p1), .val (.long q2), .second, .val (.long q3), .second, .val (.int p4), .val (.int b6), .val (.int b7), .val (.long qb), .second, .val (.ref b20), .unset, .unset] [(.int b6), (.ref b22), (.ref b22)]))
    refine own_go (fun _ k => XS.aload X22.here hx rfl (hb hby at_68) rfl rfl k) ?_
    show own_R _ _ _ _ (T22.setTop (mkF m 70 #[.val (.int p1), .val (.long q2), .second, .val (.long q3), .second, .val (.int p4), .val (.int b6), .val (.int b7), .val (.long qb), .second, .val (.ref b20), .unset, .unset] [(.ref b20), (.int b6), (.ref b22), (.ref b22)]))
    refine own_go (fun _ k => XS.lloadN X22.here hx rfl (hb hby at_70) rfl k) ?_
    show own_R _ _ _ _ (T22.setTop (mkF m 71 #[.val (.int p1), .val (.long q2), .second, .val (.long q3), .second, .val (.int p4), .val (.int b6), .val (.int b7), .val (.long qb), .second, .val (.ref b20), .unset, .unset] [(.long q2), (.ref b20), (.int b6), (.ref b22), (.ref b22)]))
    refine own_go (fun _ k => XS.lload X22.here hx rfl (hb hby at_71) rfl k) ?_
    show own_R _ _ _ _ (T22.setTop (mkF m 73 #[.val (.int p1), .val (.long q2), .second, .val (.long q3), .second, .val (.int p4), .val (.int b6), .val (.int b7), .val (.long qb), .second, .val (.ref b20), .unset, .unset] [(.long qb), (.long q2), (.ref b20), (.int b6), (.ref b22), (.ref b22)]))
    refine own_go (fun _ k => XS.iload X22.here hx rfl (hb hby at_73) rfl k) ?_
    show own_R _ _ _ _ (T22.setTop (mkF m 75 #[.val (.int p1), .val (.long q2), .second, .val (.long q3), .second, .val (.int p4), .val (.int b6), .val (.int b7), .val (.long qb), .second, .val (.ref b20), .unset, .unset] [(.int b7), (.long qb), (.long q2), (.ref b20), (.int b6), (.ref b22), (.ref b22)]))
    obtain ⟨_, _, ⟨T23, L23, k23, n23⟩, -, X23, ⟨Lc23, hQ23, l23, y23, z23⟩, st23⟩ := X22.specialBack hx (y := (⟨"com/example/clearlot/clearlot/search/Solution", "<init>", "(Z[IJJZ)V"⟩ : MethodName)) rfl hown (mvT hZ (hw _ (List.mem_of_getElem? (i := 4) rfl))) (mvT hZ (hw _ (List.mem_of_getElem? (i := 5) rfl))) (mvT hZ (hw _ (List.mem_of_getElem? (i := 6) rfl))) (by decide) (backOf (W := 1) (rm1 l Z a0 hw [] b22 b6 b20 q2 qb b7 (.int (0 : Int32)) .null (.long (0 : Int64)) (.long (0 : Int64)) (.int (0 : Int32)) h22 n0 ZS E_b22 F_feasible_b22 F_columns_b22 F_value_b22 F_bound_b22 F_stopped_b22 g_b22 hs13 hs15) hZ (hw _ (List.mem_of_getElem? (i := 6) rfl)) (hw _ (List.mem_of_getElem? (i := 3) rfl)) (by decide) (by decide)) (g := (mkF m 75 #[.val (.int p1), .val (.long q2), .second, .val (.long q3), .second, .val (.int p4), .val (.int b6), .val (.int b7), .val (.long qb), .second, .val (.ref b20), .unset, .unset] [(.int b7), (.long qb), (.long q2), (.ref b20), (.int b6), (.ref b22), (.ref b22)])) rfl (by rw [hml]; rfl) (Steps.refl _) (a := b22) (argsL := [(.int b6), (.ref b20), (.long q2), (.long qb), (.int b7)]) (rest := [(.ref b22)]) (lenOf pd_1 rfl) rfl (by show 2 * 0 + _ ≤ _; exact Nat.le_of_eq rfl) (hb hby at_75) (fun _ _ => ⟨rfl, e22, (by decide : 2 + 0 ≤ _), (by decide : 6 + 0 ≤ _)⟩)
    dsimp only [Pt.U, Pt.locs, Pt.cells, Pt.slots] at X23 l23 y23 z23 st23 hQ23
    subst l23 y23 z23
    obtain ⟨h23, e23'⟩ : ∃ z, z = T23.heap := ⟨_, rfl⟩
    rw [← e23'] at hQ23
    have e23 : T23.heap = h23 := e23'.symm
    obtain ⟨rfl, N23q, K23, pp_feasible, pp_columns, pp_value, pp_bound, pp_stopped⟩ := hQ23
    have NF := Fr.app NF N23q
    refine own_go (fun _ k => st23.trans k) ?_
    have V_b20 := V_b20.keep K23 (ninS ne_b20_b22 nin0)
    have E_b22 := E_b22.keep K23
    have ZS := Nat.le_trans ZS K23.1
    have KP := KP.trans K23 (allS (Or.inr sz_b22) all0)
    have F_feasible_b22 := pp_feasible
    have F_columns_b22 := pp_columns
    have F_value_b22 := pp_value
    have F_bound_b22 := pp_bound
    have F_stopped_b22 := pp_stopped
    show own_R _ _ _ _ (T23.setTop (mkF m 78 #[.val (.int p1), .val (.long q2), .second, .val (.long q3), .second, .val (.int p4), .val (.int b6), .val (.int b7), .val (.long qb), .second, .val (.ref b20), .unset, .unset] [(.ref b22)]))
    refine own_go (fun _ k => XS.astore X23.here hx rfl (hb hby at_78) rfl rfl (l' := #[.val (.int p1), .val (.long q2), .second, .val (.long q3), .second, .val (.int p4), .val (.int b6), .val (.int b7), .val (.long qb), .second, .val (.ref b20), .val (.ref b22), .unset]) rfl k) ?_
    show own_R _ _ _ _ (T23.setTop (mkF m 80 #[.val (.int p1), .val (.long q2), .second, .val (.long q3), .second, .val (.int p4), .val (.int b6), .val (.int b7), .val (.long qb), .second, .val (.ref b20), .val (.ref b22), .unset] []))
    obtain ⟨_, ⟨be, hs24, rfl⟩, sg24⟩ : own_R p.tables e below (fun U => ∃ (be : Int32), (be = own_opt b6 q2 qb) ∧ U = T23.setTop (mkF m 120 #[.val (.int p1), .val (.long q2), .second, .val (.long q3), .second, .val (.int p4), .val (.int b6), .val (.int b7), .val (.long qb), .second, .val (.ref b20), .val (.ref b22), .val (.int be)] [])) (T23.setTop (mkF m 80 #[.val (.int p1), .val (.long q2), .second, .val (.long q3), .second, .val (.int p4), .val (.int b6), .val (.int b7), .val (.long qb), .second, .val (.ref b20), .val (.ref b22), .unset] [])) := by
      refine own_go (fun _ k => XS.iload X23.here hx rfl (hb hby at_80) rfl k) ?_
      show own_R _ _ _ _ (T23.setTop (mkF m 82 #[.val (.int p1), .val (.long q2), .second, .val (.long q3), .second, .val (.int p4), .val (.int b6), .val (.int b7), .val (.long qb), .second, .val (.ref b20), .val (.ref b22), .unset] [(.int b6)]))
      by_cases hc25 : b6 = (0 : Int32)
      · refine own_go (fun _ k => XS.ifNo X23.here hx rfl (hb hby at_82) rfl ((if0 _ _).trans (teq hc25).2) k) ?_
        show own_R _ _ _ _ (T23.setTop (mkF m 85 #[.val (.int p1), .val (.long q2), .second, .val (.long q3), .second, .val (.int p4), .val (.int b6), .val (.int b7), .val (.long qb), .second, .val (.ref b20), .val (.ref b22), .unset] []))
        refine own_go (fun _ k => XS.iconst X23.here hx rfl (hb hby at_85) k) ?_
        show own_R _ _ _ _ (T23.setTop (mkF m 86 #[.val (.int p1), .val (.long q2), .second, .val (.long q3), .second, .val (.int p4), .val (.int b6), .val (.int b7), .val (.long qb), .second, .val (.ref b20), .val (.ref b22), .unset] [(.int (0 : Int32))]))
        refine own_go (fun _ k => XS.istore X23.here hx rfl (hb hby at_86) rfl (l' := #[.val (.int p1), .val (.long q2), .second, .val (.long q3), .second, .val (.int p4), .val (.int b6), .val (.int b7), .val (.long qb), .second, .val (.ref b20), .val (.ref b22), .val (.int (0 : Int32))]) rfl k) ?_
        show own_R _ _ _ _ (T23.setTop (mkF m 88 #[.val (.int p1), .val (.long q2), .second, .val (.long q3), .second, .val (.int p4), .val (.int b6), .val (.int b7), .val (.long qb), .second, .val (.ref b20), .val (.ref b22), .val (.int (0 : Int32))] []))
        refine own_go (fun _ k => XS.goto X23.here hx rfl (pc0 := 88) (pc' := 120) rfl (hb hby at_88) (by decide) (by decide) k) ?_
        show own_R _ _ _ _ (T23.setTop (mkF m 120 #[.val (.int p1), .val (.long q2), .second, .val (.long q3), .second, .val (.int p4), .val (.int b6), .val (.int b7), .val (.long qb), .second, .val (.ref b20), .val (.ref b22), .val (.int (0 : Int32))] []))
        exact own_leaf ⟨(0 : Int32), by rw [own_opt, if_pos hc25], rfl⟩
      · refine own_go (fun _ k => XS.ifYes X23.here hx rfl (pc0 := 82) (pc' := 91) rfl (hb hby at_82) rfl ((if0 _ _).trans (feq hc25).2) (by decide) (by decide) k) ?_
        show own_R _ _ _ _ (T23.setTop (mkF m 91 #[.val (.int p1), .val (.long q2), .second, .val (.long q3), .second, .val (.int p4), .val (.int b6), .val (.int b7), .val (.long qb), .second, .val (.ref b20), .val (.ref b22), .unset] []))
        refine own_go (fun _ k => XS.lloadN X23.here hx rfl (hb hby at_91) rfl k) ?_
        show own_R _ _ _ _ (T23.setTop (mkF m 92 #[.val (.int p1), .val (.long q2), .second, .val (.long q3), .second, .val (.int p4), .val (.int b6), .val (.int b7), .val (.long qb), .second, .val (.ref b20), .val (.ref b22), .unset] [(.long q2)]))
        refine own_go (fun _ k => XS.lload X23.here hx rfl (hb hby at_92) rfl k) ?_
        show own_R _ _ _ _ (T23.setTop (mkF m 94 #[.val (.int p1), .val (.long q2), .second, .val (.long q3), .second, .val (.int p4), .val (.int b6), .val (.int b7), .val (.long qb), .second, .val (.ref b20), .val (.ref b22), .unset] [(.long qb), (.long q2)]))
        refine own_go (fun _ k => XS.lcmp X23.here hx rfl (hb hby at_94) rfl k) ?_
        show own_R _ _ _ _ (T23.setTop (mkF m 95 #[.val (.int p1), .val (.long q2), .second, .val (.long q3), .second, .val (.int p4), .val (.int b6), .val (.int b7), .val (.long qb), .second, .val (.ref b20), .val (.ref b22), .unset] [(.int (lcmpW q2 qb))]))
        by_cases hc26 : (lcmpW q2 qb) < (0 : Int32)
        · refine own_go (fun _ k => XS.ifNo X23.here hx rfl (hb hby at_95) rfl ((if0 _ _).trans (tlt hc26).2.1) k) ?_
          show own_R _ _ _ _ (T23.setTop (mkF m 98 #[.val (.int p1), .val (.long q2), .second, .val (.long q3), .second, .val (.int p4), .val (.int b6), .val (.int b7), .val (.long qb), .second, .val (.ref b20), .val (.ref b22), .unset] []))
          refine own_go (fun _ k => XS.iconst X23.here hx rfl (hb hby at_98) k) ?_
          show own_R _ _ _ _ (T23.setTop (mkF m 99 #[.val (.int p1), .val (.long q2), .second, .val (.long q3), .second, .val (.int p4), .val (.int b6), .val (.int b7), .val (.long qb), .second, .val (.ref b20), .val (.ref b22), .unset] [(.int (0 : Int32))]))
          refine own_go (fun _ k => XS.istore X23.here hx rfl (hb hby at_99) rfl (l' := #[.val (.int p1), .val (.long q2), .second, .val (.long q3), .second, .val (.int p4), .val (.int b6), .val (.int b7), .val (.long qb), .second, .val (.ref b20), .val (.ref b22), .val (.int (0 : Int32))]) rfl k) ?_
          show own_R _ _ _ _ (T23.setTop (mkF m 101 #[.val (.int p1), .val (.long q2), .second, .val (.long q3), .second, .val (.int p4), .val (.int b6), .val (.int b7), .val (.long qb), .second, .val (.ref b20), .val (.ref b22), .val (.int (0 : Int32))] []))
          refine own_go (fun _ k => XS.goto X23.here hx rfl (pc0 := 101) (pc' := 120) rfl (hb hby at_101) (by decide) (by decide) k) ?_
          show own_R _ _ _ _ (T23.setTop (mkF m 120 #[.val (.int p1), .val (.long q2), .second, .val (.long q3), .second, .val (.int p4), .val (.int b6), .val (.int b7), .val (.long qb), .second, .val (.ref b20), .val (.ref b22), .val (.int (0 : Int32))] []))
          exact own_leaf ⟨(0 : Int32), by rw [own_opt, if_neg hc25, if_neg (own_ltn hc26)], rfl⟩
        · refine own_go (fun _ k => XS.ifYes X23.here hx rfl (pc0 := 95) (pc' := 104) rfl (hb hby at_95) rfl ((if0 _ _).trans (flt hc26).2.1) (by decide) (by decide) k) ?_
          show own_R _ _ _ _ (T23.setTop (mkF m 104 #[.val (.int p1), .val (.long q2), .second, .val (.long q3), .second, .val (.int p4), .val (.int b6), .val (.int b7), .val (.long qb), .second, .val (.ref b20), .val (.ref b22), .unset] []))
          refine own_go (fun _ k => XS.lloadN X23.here hx rfl (hb hby at_104) rfl k) ?_
          show own_R _ _ _ _ (T23.setTop (mkF m 105 #[.val (.int p1), .val (.long q2), .second, .val (.long q3), .second, .val (.int p4), .val (.int b6), .val (.int b7), .val (.long qb), .second, .val (.ref b20), .val (.ref b22), .unset] [(.long q2)]))
          refine own_go (fun _ k => XS.lload X23.here hx rfl (hb hby at_105) rfl k) ?_
          show own_R _ _ _ _ (T23.setTop (mkF m 107 #[.val (.int p1), .val (.long q2), .second, .val (.long q3), .second, .val (.int p4), .val (.int b6), .val (.int b7), .val (.long qb), .second, .val (.ref b20), .val (.ref b22), .unset] [(.long qb), (.long q2)]))
          refine own_go (fun _ k => XS.lcmp X23.here hx rfl (hb hby at_107) rfl k) ?_
          show own_R _ _ _ _ (T23.setTop (mkF m 108 #[.val (.int p1), .val (.long q2), .second, .val (.long q3), .second, .val (.int p4), .val (.int b6), .val (.int b7), .val (.long qb), .second, .val (.ref b20), .val (.ref b22), .unset] [(.int (lcmpW q2 qb))]))
          by_cases hc27 : (0 : Int32) < (lcmpW q2 qb)
          · refine own_go (fun _ k => XS.ifNo X23.here hx rfl (hb hby at_108) rfl ((if0 _ _).trans (tlt hc27).2.2.2) k) ?_
            show own_R _ _ _ _ (T23.setTop (mkF m 111 #[.val (.int p1), .val (.long q2), .second, .val (.long q3), .second, .val (.int p4), .val (.int b6), .val (.int b7), .val (.long qb), .second, .val (.ref b20), .val (.ref b22), .unset] []))
            refine own_go (fun _ k => XS.iconst X23.here hx rfl (hb hby at_111) k) ?_
            show own_R _ _ _ _ (T23.setTop (mkF m 112 #[.val (.int p1), .val (.long q2), .second, .val (.long q3), .second, .val (.int p4), .val (.int b6), .val (.int b7), .val (.long qb), .second, .val (.ref b20), .val (.ref b22), .unset] [(.int (0 : Int32))]))
            refine own_go (fun _ k => XS.istore X23.here hx rfl (hb hby at_112) rfl (l' := #[.val (.int p1), .val (.long q2), .second, .val (.long q3), .second, .val (.int p4), .val (.int b6), .val (.int b7), .val (.long qb), .second, .val (.ref b20), .val (.ref b22), .val (.int (0 : Int32))]) rfl k) ?_
            show own_R _ _ _ _ (T23.setTop (mkF m 114 #[.val (.int p1), .val (.long q2), .second, .val (.long q3), .second, .val (.int p4), .val (.int b6), .val (.int b7), .val (.long qb), .second, .val (.ref b20), .val (.ref b22), .val (.int (0 : Int32))] []))
            refine own_go (fun _ k => XS.goto X23.here hx rfl (pc0 := 114) (pc' := 120) rfl (hb hby at_114) (by decide) (by decide) k) ?_
            show own_R _ _ _ _ (T23.setTop (mkF m 120 #[.val (.int p1), .val (.long q2), .second, .val (.long q3), .second, .val (.int p4), .val (.int b6), .val (.int b7), .val (.long qb), .second, .val (.ref b20), .val (.ref b22), .val (.int (0 : Int32))] []))
            exact own_leaf ⟨(0 : Int32), by rw [own_opt, if_neg hc25, if_neg (own_gtn hc27)], rfl⟩
          · refine own_go (fun _ k => XS.ifYes X23.here hx rfl (pc0 := 108) (pc' := 117) rfl (hb hby at_108) rfl ((if0 _ _).trans (flt hc27).2.2.2) (by decide) (by decide) k) ?_
            show own_R _ _ _ _ (T23.setTop (mkF m 117 #[.val (.int p1), .val (.long q2), .second, .val (.long q3), .second, .val (.int p4), .val (.int b6), .val (.int b7), .val (.long qb), .second, .val (.ref b20), .val (.ref b22), .unset] []))
            refine own_go (fun _ k => XS.iconst X23.here hx rfl (hb hby at_117) k) ?_
            show own_R _ _ _ _ (T23.setTop (mkF m 118 #[.val (.int p1), .val (.long q2), .second, .val (.long q3), .second, .val (.int p4), .val (.int b6), .val (.int b7), .val (.long qb), .second, .val (.ref b20), .val (.ref b22), .unset] [(.int (1 : Int32))]))
            refine own_go (fun _ k => XS.istore X23.here hx rfl (hb hby at_118) rfl (l' := #[.val (.int p1), .val (.long q2), .second, .val (.long q3), .second, .val (.int p4), .val (.int b6), .val (.int b7), .val (.long qb), .second, .val (.ref b20), .val (.ref b22), .val (.int (1 : Int32))]) rfl k) ?_
            show own_R _ _ _ _ (T23.setTop (mkF m 120 #[.val (.int p1), .val (.long q2), .second, .val (.long q3), .second, .val (.int p4), .val (.int b6), .val (.int b7), .val (.long qb), .second, .val (.ref b20), .val (.ref b22), .val (.int (1 : Int32))] []))
            exact own_leaf ⟨(1 : Int32), by rw [own_opt, if_neg hc25, if_pos (own_tri hc26 hc27)], rfl⟩
    refine own_go sg24 ?_
    show own_R _ _ _ _ (T23.setTop (mkF m 120 #[.val (.int p1), .val (.long q2), .second, .val (.long q3), .second, .val (.int p4), .val (.int b6), .val (.int b7), .val (.long qb), .second, .val (.ref b20), .val (.ref b22), .val (.int be)] []))
    refine own_go (fun _ k => XS.aload X23.here hx rfl (hb hby at_120) rfl rfl k) ?_
    show own_R _ _ _ _ (T23.setTop (mkF m 122 #[.val (.int p1), .val (.long q2), .second, .val (.long q3), .second, .val (.int p4), .val (.int b6), .val (.int b7), .val (.long qb), .second, .val (.ref b20), .val (.ref b22), .val (.int be)] [(.ref b22)]))
    obtain ⟨cq28, kq28, q28a, q28b, q28c⟩ := isOf hZ e23 E_b22
    obtain ⟨_, _, ⟨T28, L28, k28, n28⟩, -, X28, ⟨Lc28, hQ28, l28, y28, z28⟩, st28⟩ := X23.virtualBack hx (y := (⟨"com/example/clearlot/clearlot/search/Solution", "optimal", "()Z"⟩ : MethodName)) (z := (⟨"com/example/clearlot/clearlot/search/Solution", "optimal", "()Z"⟩ : MethodName)) hown (mvT hZ (hw _ (List.mem_of_getElem? (i := 25) rfl))) (mvT hZ (hw _ (List.mem_of_getElem? (i := 26) rfl))) (notFace_of_selects (args := #[]) (mvT hZ (hw _ (List.mem_of_getElem? (i := 28) rfl)))) (mvT hZ (hw _ (List.mem_of_getElem? (i := 28) rfl))) (mvT hZ (hw _ (List.mem_of_getElem? (i := 27) rfl))) (by decide) (backOf (W := 0) (rm4 l Z a0 hw [] b22 b6 q2 qb h23 n0 ZS F_feasible_b22 F_value_b22 F_bound_b22) hZ (hw _ (List.mem_of_getElem? (i := 29) rfl)) (hw _ (List.mem_of_getElem? (i := 3) rfl)) (by decide) (by decide)) q28a q28c (g := (mkF m 122 #[.val (.int p1), .val (.long q2), .second, .val (.long q3), .second, .val (.int p4), .val (.int b6), .val (.int b7), .val (.long qb), .second, .val (.ref b20), .val (.ref b22), .val (.int be)] [(.ref b22)])) rfl (by rw [hml]; rfl) (Steps.refl _) (argsL := []) (rest := []) (lenOf pd_2 rfl) rfl (by show 2 * 0 + _ ≤ _; exact Nat.le_of_eq rfl) (hb hby at_122) (fun _ _ => ⟨rfl, e23, (by decide : 2 + 0 ≤ _), (by decide : 6 + 0 ≤ _)⟩)
    dsimp only [Pt.U, Pt.locs, Pt.cells, Pt.slots] at X28 l28 y28 z28 st28 hQ28
    subst l28 y28 z28
    obtain ⟨rfl, N28q, e28⟩ := hQ28
    have NF := Fr.app NF N28q
    refine own_go (fun _ k => st28.trans k) ?_
    show own_R _ _ _ _ (T28.setTop (mkF m 125 #[.val (.int p1), .val (.long q2), .second, .val (.long q3), .second, .val (.int p4), .val (.int b6), .val (.int b7), .val (.long qb), .second, .val (.ref b20), .val (.ref b22), .val (.int be)] [(.int (own_opt b6 q2 qb))]))
    refine own_go (fun _ k => XS.iload X28.here hx rfl (hb hby at_125) rfl k) ?_
    show own_R _ _ _ _ (T28.setTop (mkF m 127 #[.val (.int p1), .val (.long q2), .second, .val (.long q3), .second, .val (.int p4), .val (.int b6), .val (.int b7), .val (.long qb), .second, .val (.ref b20), .val (.ref b22), .val (.int be)] [(.int be), (.int (own_opt b6 q2 qb))]))
    refine own_go (fun _ k => XS.icmpNo X28.here hx rfl (hb hby at_127) rfl (teq hs24.symm).2 k) ?_
    show own_R _ _ _ _ (T28.setTop (mkF m 130 #[.val (.int p1), .val (.long q2), .second, .val (.long q3), .second, .val (.int p4), .val (.int b6), .val (.int b7), .val (.long qb), .second, .val (.ref b20), .val (.ref b22), .val (.int be)] []))
    refine own_go (fun _ k => XS.iconst X28.here hx rfl (hb hby at_130) k) ?_
    show own_R _ _ _ _ (T28.setTop (mkF m 131 #[.val (.int p1), .val (.long q2), .second, .val (.long q3), .second, .val (.int p4), .val (.int b6), .val (.int b7), .val (.long qb), .second, .val (.ref b20), .val (.ref b22), .val (.int be)] [(.int (1 : Int32))]))
    refine own_go (fun _ k => XS.goto X28.here hx rfl (pc0 := 131) (pc' := 135) rfl (hb hby at_131) (by decide) (by decide) k) ?_
    show own_R _ _ _ _ (T28.setTop (mkF m 135 #[.val (.int p1), .val (.long q2), .second, .val (.long q3), .second, .val (.int p4), .val (.int b6), .val (.int b7), .val (.long qb), .second, .val (.ref b20), .val (.ref b22), .val (.int be)] [(.int (1 : Int32))]))
    exact own_retN X28 hx (t := .boolean) (by simp) Bd.returns (hb hby at_135) hlk ⟨rfl, NF⟩ (by decide) (by decide)
  · refine own_go (fun _ k => XS.ifNo X0.here hx rfl (hb hby at_43) rfl ((if0 _ _).trans (feq hc19).1) k) ?_
    show own_R _ _ _ _ (s₁.setTop (mkF m 46 #[.val (.int p1), .val (.long q2), .second, .val (.long q3), .second, .val (.int p4), .val (.int b6), .val (.int b7), .val (.long qb), .second, .unset, .unset, .unset] []))
    refine own_go (fun _ k => XS.iconst X0.here hx rfl (hb hby at_46) k) ?_
    show own_R _ _ _ _ (s₁.setTop (mkF m 47 #[.val (.int p1), .val (.long q2), .second, .val (.long q3), .second, .val (.int p4), .val (.int b6), .val (.int b7), .val (.long qb), .second, .unset, .unset, .unset] [(.int (0 : Int32))]))
    obtain ⟨T29, h29, k29, X29, e29, E29, A29, st29⟩ := newP X0 hx hZ (hw _ (List.mem_of_getElem? (i := 0) rfl)) e0 (g := (mkF m 47 #[.val (.int p1), .val (.long q2), .second, .val (.long q3), .second, .val (.int p4), .val (.int b6), .val (.int b7), .val (.long qb), .second, .unset, .unset, .unset] [(.int (0 : Int32))])) rfl (hb hby at_47) rfl (by decide) (cap := 0) (by decide) (by decide) (by decide) (by decide)
    obtain ⟨b29, g29⟩ : ∃ z, z = h0.size := ⟨_, rfl⟩
    rw [← g29] at A29 st29
    refine own_go st29 ?_
    have g_b29 : n0 ≤ b29 := Nat.le_trans ZS (Nat.le_of_eq g29.symm)
    have sz_b29 : h0.size ≤ b29 := Nat.le_trans KP.1 (Nat.le_of_eq g29.symm)
    have ZS := Nat.le_trans ZS E29.1
    have KP := KP.ext E29
    have V_b29 : Arv Z h29 b29 k29 .int (0 : Int32) [] (.int (0 : Int32)) := (Arv.new A29 (by decide)).pad (pad_rep [] (.int (0 : Int32)) 0)
    show own_R _ _ _ _ (T29.setTop (mkF m 49 #[.val (.int p1), .val (.long q2), .second, .val (.long q3), .second, .val (.int p4), .val (.int b6), .val (.int b7), .val (.long qb), .second, .unset, .unset, .unset] [(.ref b29)]))
    refine own_go (fun _ k => XS.goto X29.here hx rfl (pc0 := 49) (pc' := 60) rfl (hb hby at_49) (by decide) (by decide) k) ?_
    show own_R _ _ _ _ (T29.setTop (mkF m 60 #[.val (.int p1), .val (.long q2), .second, .val (.long q3), .second, .val (.int p4), .val (.int b6), .val (.int b7), .val (.long qb), .second, .unset, .unset, .unset] [(.ref b29)]))
    refine own_go (fun _ k => XS.astore X29.here hx rfl (hb hby at_60) rfl rfl (l' := #[.val (.int p1), .val (.long q2), .second, .val (.long q3), .second, .val (.int p4), .val (.int b6), .val (.int b7), .val (.long qb), .second, .val (.ref b29), .unset, .unset]) rfl k) ?_
    show own_R _ _ _ _ (T29.setTop (mkF m 62 #[.val (.int p1), .val (.long q2), .second, .val (.long q3), .second, .val (.int p4), .val (.int b6), .val (.int b7), .val (.long qb), .second, .val (.ref b29), .unset, .unset] []))
    obtain ⟨T30, h30, X30, e30, E30, A30, D30, -, st30⟩ := newO X29 hx hZ hown (hw _ (List.mem_of_getElem? (i := 1) rfl)) (hw _ (List.mem_of_getElem? (i := 2) rfl)) (hw _ (List.mem_of_getElem? (i := 3) rfl)) e29 (g := (mkF m 62 #[.val (.int p1), .val (.long q2), .second, .val (.long q3), .second, .val (.int p4), .val (.int b6), .val (.int b7), .val (.long qb), .second, .val (.ref b29), .unset, .unset] [])) rfl (hb hby at_62) (by decide) (by decide)
    obtain ⟨b30, g30⟩ : ∃ z, z = h29.size := ⟨_, rfl⟩
    rw [← g30] at A30 D30 st30
    refine own_go st30 ?_
    have ne_b29_b30 : b29 ≠ b30 := Nat.ne_of_lt (Nat.lt_of_lt_of_le V_b29.lt (Nat.le_of_eq g30.symm))
    have g_b30 : n0 ≤ b30 := Nat.le_trans ZS (Nat.le_of_eq g30.symm)
    have sz_b30 : h0.size ≤ b30 := Nat.le_trans KP.1 (Nat.le_of_eq g30.symm)
    have V_b29 := V_b29.ext E30
    have ZS := Nat.le_trans ZS E30.1
    have KP := KP.ext E30
    have E_b30 := A30
    have F_feasible_b30 : Fld Z h30 b30 "com/example/clearlot/clearlot/search/Solution" "feasible" "Z" (.int (0 : Int32)) := D30 (Or.inr (hw _ (List.mem_of_getElem? (i := 16) rfl))) (ty := .boolean) (by decide)
    have F_columns_b30 : Fld Z h30 b30 "com/example/clearlot/clearlot/search/Solution" "columns" "[I" .null := D30 (Or.inr (hw _ (List.mem_of_getElem? (i := 18) rfl))) (ty := (.array .int)) (by decide)
    have F_value_b30 : Fld Z h30 b30 "com/example/clearlot/clearlot/search/Solution" "value" "J" (.long (0 : Int64)) := D30 (Or.inr (hw _ (List.mem_of_getElem? (i := 20) rfl))) (ty := .long) (by decide)
    have F_bound_b30 : Fld Z h30 b30 "com/example/clearlot/clearlot/search/Solution" "bound" "J" (.long (0 : Int64)) := D30 (Or.inr (hw _ (List.mem_of_getElem? (i := 22) rfl))) (ty := .long) (by decide)
    have F_stopped_b30 : Fld Z h30 b30 "com/example/clearlot/clearlot/search/Solution" "stopped" "Z" (.int (0 : Int32)) := D30 (Or.inr (hw _ (List.mem_of_getElem? (i := 24) rfl))) (ty := .boolean) (by decide)
    show own_R _ _ _ _ (T30.setTop (mkF m 65 #[.val (.int p1), .val (.long q2), .second, .val (.long q3), .second, .val (.int p4), .val (.int b6), .val (.int b7), .val (.long qb), .second, .val (.ref b29), .unset, .unset] [(.ref b30)]))
    refine own_go (fun _ k => XS.dup X30.here hx rfl (hb hby at_65) rfl rfl k) ?_
    show own_R _ _ _ _ (T30.setTop (mkF m 66 #[.val (.int p1), .val (.long q2), .second, .val (.long q3), .second, .val (.int p4), .val (.int b6), .val (.int b7), .val (.long qb), .second, .val (.ref b29), .unset, .unset] [(.ref b30), (.ref b30)]))
    refine own_go (fun _ k => XS.iload X30.here hx rfl (hb hby at_66) rfl k) ?_
    show own_R _ _ _ _ (T30.setTop (mkF m 68 #[.val (.int p1), .val (.long q2), .second, .val (.long q3), .second, .val (.int p4), .val (.int b6), .val (.int b7), .val (.long qb), .second, .val (.ref b29), .unset, .unset] [(.int b6), (.ref b30), (.ref b30)]))
    refine own_go (fun _ k => XS.aload X30.here hx rfl (hb hby at_68) rfl rfl k) ?_
    show own_R _ _ _ _ (T30.setTop (mkF m 70 #[.val (.int p1), .val (.long q2), .second, .val (.long q3), .second, .val (.int p4), .val (.int b6), .val (.int b7), .val (.long qb), .second, .val (.ref b29), .unset, .unset] [(.ref b29), (.int b6), (.ref b30), (.ref b30)]))
    refine own_go (fun _ k => XS.lloadN X30.here hx rfl (hb hby at_70) rfl k) ?_
    show own_R _ _ _ _ (T30.setTop (mkF m 71 #[.val (.int p1), .val (.long q2), .second, .val (.long q3), .second, .val (.int p4), .val (.int b6), .val (.int b7), .val (.long qb), .second, .val (.ref b29), .unset, .unset] [(.long q2), (.ref b29), (.int b6), (.ref b30), (.ref b30)]))
    refine own_go (fun _ k => XS.lload X30.here hx rfl (hb hby at_71) rfl k) ?_
    show own_R _ _ _ _ (T30.setTop (mkF m 73 #[.val (.int p1), .val (.long q2), .second, .val (.long q3), .second, .val (.int p4), .val (.int b6), .val (.int b7), .val (.long qb), .second, .val (.ref b29), .unset, .unset] [(.long qb), (.long q2), (.ref b29), (.int b6), (.ref b30), (.ref b30)]))
    refine own_go (fun _ k => XS.iload X30.here hx rfl (hb hby at_73) rfl k) ?_
    show own_R _ _ _ _ (T30.setTop (mkF m 75 #[.val (.int p1), .val (.long q2), .second, .val (.long q3), .second, .val (.int p4), .val (.int b6), .val (.int b7), .val (.long qb), .second, .val (.ref b29), .unset, .unset] [(.int b7), (.long qb), (.long q2), (.ref b29), (.int b6), (.ref b30), (.ref b30)]))
    obtain ⟨_, _, ⟨T31, L31, k31, n31⟩, -, X31, ⟨Lc31, hQ31, l31, y31, z31⟩, st31⟩ := X30.specialBack hx (y := (⟨"com/example/clearlot/clearlot/search/Solution", "<init>", "(Z[IJJZ)V"⟩ : MethodName)) rfl hown (mvT hZ (hw _ (List.mem_of_getElem? (i := 4) rfl))) (mvT hZ (hw _ (List.mem_of_getElem? (i := 5) rfl))) (mvT hZ (hw _ (List.mem_of_getElem? (i := 6) rfl))) (by decide) (backOf (W := 1) (rm1 l Z a0 hw [] b30 b6 b29 q2 qb b7 (.int (0 : Int32)) .null (.long (0 : Int64)) (.long (0 : Int64)) (.int (0 : Int32)) h30 n0 ZS E_b30 F_feasible_b30 F_columns_b30 F_value_b30 F_bound_b30 F_stopped_b30 g_b30 hs13 hs15) hZ (hw _ (List.mem_of_getElem? (i := 6) rfl)) (hw _ (List.mem_of_getElem? (i := 3) rfl)) (by decide) (by decide)) (g := (mkF m 75 #[.val (.int p1), .val (.long q2), .second, .val (.long q3), .second, .val (.int p4), .val (.int b6), .val (.int b7), .val (.long qb), .second, .val (.ref b29), .unset, .unset] [(.int b7), (.long qb), (.long q2), (.ref b29), (.int b6), (.ref b30), (.ref b30)])) rfl (by rw [hml]; rfl) (Steps.refl _) (a := b30) (argsL := [(.int b6), (.ref b29), (.long q2), (.long qb), (.int b7)]) (rest := [(.ref b30)]) (lenOf pd_1 rfl) rfl (by show 2 * 0 + _ ≤ _; exact Nat.le_of_eq rfl) (hb hby at_75) (fun _ _ => ⟨rfl, e30, (by decide : 2 + 0 ≤ _), (by decide : 5 + 0 ≤ _)⟩)
    dsimp only [Pt.U, Pt.locs, Pt.cells, Pt.slots] at X31 l31 y31 z31 st31 hQ31
    subst l31 y31 z31
    obtain ⟨h31, e31'⟩ : ∃ z, z = T31.heap := ⟨_, rfl⟩
    rw [← e31'] at hQ31
    have e31 : T31.heap = h31 := e31'.symm
    obtain ⟨rfl, N31q, K31, pp_feasible, pp_columns, pp_value, pp_bound, pp_stopped⟩ := hQ31
    have NF := Fr.app NF N31q
    refine own_go (fun _ k => st31.trans k) ?_
    have V_b29 := V_b29.keep K31 (ninS ne_b29_b30 nin0)
    have E_b30 := E_b30.keep K31
    have ZS := Nat.le_trans ZS K31.1
    have KP := KP.trans K31 (allS (Or.inr sz_b30) all0)
    have F_feasible_b30 := pp_feasible
    have F_columns_b30 := pp_columns
    have F_value_b30 := pp_value
    have F_bound_b30 := pp_bound
    have F_stopped_b30 := pp_stopped
    show own_R _ _ _ _ (T31.setTop (mkF m 78 #[.val (.int p1), .val (.long q2), .second, .val (.long q3), .second, .val (.int p4), .val (.int b6), .val (.int b7), .val (.long qb), .second, .val (.ref b29), .unset, .unset] [(.ref b30)]))
    refine own_go (fun _ k => XS.astore X31.here hx rfl (hb hby at_78) rfl rfl (l' := #[.val (.int p1), .val (.long q2), .second, .val (.long q3), .second, .val (.int p4), .val (.int b6), .val (.int b7), .val (.long qb), .second, .val (.ref b29), .val (.ref b30), .unset]) rfl k) ?_
    show own_R _ _ _ _ (T31.setTop (mkF m 80 #[.val (.int p1), .val (.long q2), .second, .val (.long q3), .second, .val (.int p4), .val (.int b6), .val (.int b7), .val (.long qb), .second, .val (.ref b29), .val (.ref b30), .unset] []))
    obtain ⟨_, ⟨be, hs32, rfl⟩, sg32⟩ : own_R p.tables e below (fun U => ∃ (be : Int32), (be = own_opt b6 q2 qb) ∧ U = T31.setTop (mkF m 120 #[.val (.int p1), .val (.long q2), .second, .val (.long q3), .second, .val (.int p4), .val (.int b6), .val (.int b7), .val (.long qb), .second, .val (.ref b29), .val (.ref b30), .val (.int be)] [])) (T31.setTop (mkF m 80 #[.val (.int p1), .val (.long q2), .second, .val (.long q3), .second, .val (.int p4), .val (.int b6), .val (.int b7), .val (.long qb), .second, .val (.ref b29), .val (.ref b30), .unset] [])) := by
      refine own_go (fun _ k => XS.iload X31.here hx rfl (hb hby at_80) rfl k) ?_
      show own_R _ _ _ _ (T31.setTop (mkF m 82 #[.val (.int p1), .val (.long q2), .second, .val (.long q3), .second, .val (.int p4), .val (.int b6), .val (.int b7), .val (.long qb), .second, .val (.ref b29), .val (.ref b30), .unset] [(.int b6)]))
      by_cases hc33 : b6 = (0 : Int32)
      · refine own_go (fun _ k => XS.ifNo X31.here hx rfl (hb hby at_82) rfl ((if0 _ _).trans (teq hc33).2) k) ?_
        show own_R _ _ _ _ (T31.setTop (mkF m 85 #[.val (.int p1), .val (.long q2), .second, .val (.long q3), .second, .val (.int p4), .val (.int b6), .val (.int b7), .val (.long qb), .second, .val (.ref b29), .val (.ref b30), .unset] []))
        refine own_go (fun _ k => XS.iconst X31.here hx rfl (hb hby at_85) k) ?_
        show own_R _ _ _ _ (T31.setTop (mkF m 86 #[.val (.int p1), .val (.long q2), .second, .val (.long q3), .second, .val (.int p4), .val (.int b6), .val (.int b7), .val (.long qb), .second, .val (.ref b29), .val (.ref b30), .unset] [(.int (0 : Int32))]))
        refine own_go (fun _ k => XS.istore X31.here hx rfl (hb hby at_86) rfl (l' := #[.val (.int p1), .val (.long q2), .second, .val (.long q3), .second, .val (.int p4), .val (.int b6), .val (.int b7), .val (.long qb), .second, .val (.ref b29), .val (.ref b30), .val (.int (0 : Int32))]) rfl k) ?_
        show own_R _ _ _ _ (T31.setTop (mkF m 88 #[.val (.int p1), .val (.long q2), .second, .val (.long q3), .second, .val (.int p4), .val (.int b6), .val (.int b7), .val (.long qb), .second, .val (.ref b29), .val (.ref b30), .val (.int (0 : Int32))] []))
        refine own_go (fun _ k => XS.goto X31.here hx rfl (pc0 := 88) (pc' := 120) rfl (hb hby at_88) (by decide) (by decide) k) ?_
        show own_R _ _ _ _ (T31.setTop (mkF m 120 #[.val (.int p1), .val (.long q2), .second, .val (.long q3), .second, .val (.int p4), .val (.int b6), .val (.int b7), .val (.long qb), .second, .val (.ref b29), .val (.ref b30), .val (.int (0 : Int32))] []))
        exact own_leaf ⟨(0 : Int32), by rw [own_opt, if_pos hc33], rfl⟩
      · refine own_go (fun _ k => XS.ifYes X31.here hx rfl (pc0 := 82) (pc' := 91) rfl (hb hby at_82) rfl ((if0 _ _).trans (feq hc33).2) (by decide) (by decide) k) ?_
        show own_R _ _ _ _ (T31.setTop (mkF m 91 #[.val (.int p1), .val (.long q2), .second, .val (.long q3), .second, .val (.int p4), .val (.int b6), .val (.int b7), .val (.long qb), .second, .val (.ref b29), .val (.ref b30), .unset] []))
        refine own_go (fun _ k => XS.lloadN X31.here hx rfl (hb hby at_91) rfl k) ?_
        show own_R _ _ _ _ (T31.setTop (mkF m 92 #[.val (.int p1), .val (.long q2), .second, .val (.long q3), .second, .val (.int p4), .val (.int b6), .val (.int b7), .val (.long qb), .second, .val (.ref b29), .val (.ref b30), .unset] [(.long q2)]))
        refine own_go (fun _ k => XS.lload X31.here hx rfl (hb hby at_92) rfl k) ?_
        show own_R _ _ _ _ (T31.setTop (mkF m 94 #[.val (.int p1), .val (.long q2), .second, .val (.long q3), .second, .val (.int p4), .val (.int b6), .val (.int b7), .val (.long qb), .second, .val (.ref b29), .val (.ref b30), .unset] [(.long qb), (.long q2)]))
        refine own_go (fun _ k => XS.lcmp X31.here hx rfl (hb hby at_94) rfl k) ?_
        show own_R _ _ _ _ (T31.setTop (mkF m 95 #[.val (.int p1), .val (.long q2), .second, .val (.long q3), .second, .val (.int p4), .val (.int b6), .val (.int b7), .val (.long qb), .second, .val (.ref b29), .val (.ref b30), .unset] [(.int (lcmpW q2 qb))]))
        by_cases hc34 : (lcmpW q2 qb) < (0 : Int32)
        · refine own_go (fun _ k => XS.ifNo X31.here hx rfl (hb hby at_95) rfl ((if0 _ _).trans (tlt hc34).2.1) k) ?_
          show own_R _ _ _ _ (T31.setTop (mkF m 98 #[.val (.int p1), .val (.long q2), .second, .val (.long q3), .second, .val (.int p4), .val (.int b6), .val (.int b7), .val (.long qb), .second, .val (.ref b29), .val (.ref b30), .unset] []))
          refine own_go (fun _ k => XS.iconst X31.here hx rfl (hb hby at_98) k) ?_
          show own_R _ _ _ _ (T31.setTop (mkF m 99 #[.val (.int p1), .val (.long q2), .second, .val (.long q3), .second, .val (.int p4), .val (.int b6), .val (.int b7), .val (.long qb), .second, .val (.ref b29), .val (.ref b30), .unset] [(.int (0 : Int32))]))
          refine own_go (fun _ k => XS.istore X31.here hx rfl (hb hby at_99) rfl (l' := #[.val (.int p1), .val (.long q2), .second, .val (.long q3), .second, .val (.int p4), .val (.int b6), .val (.int b7), .val (.long qb), .second, .val (.ref b29), .val (.ref b30), .val (.int (0 : Int32))]) rfl k) ?_
          show own_R _ _ _ _ (T31.setTop (mkF m 101 #[.val (.int p1), .val (.long q2), .second, .val (.long q3), .second, .val (.int p4), .val (.int b6), .val (.int b7), .val (.long qb), .second, .val (.ref b29), .val (.ref b30), .val (.int (0 : Int32))] []))
          refine own_go (fun _ k => XS.goto X31.here hx rfl (pc0 := 101) (pc' := 120) rfl (hb hby at_101) (by decide) (by decide) k) ?_
          show own_R _ _ _ _ (T31.setTop (mkF m 120 #[.val (.int p1), .val (.long q2), .second, .val (.long q3), .second, .val (.int p4), .val (.int b6), .val (.int b7), .val (.long qb), .second, .val (.ref b29), .val (.ref b30), .val (.int (0 : Int32))] []))
          exact own_leaf ⟨(0 : Int32), by rw [own_opt, if_neg hc33, if_neg (own_ltn hc34)], rfl⟩
        · refine own_go (fun _ k => XS.ifYes X31.here hx rfl (pc0 := 95) (pc' := 104) rfl (hb hby at_95) rfl ((if0 _ _).trans (flt hc34).2.1) (by decide) (by decide) k) ?_
          show own_R _ _ _ _ (T31.setTop (mkF m 104 #[.val (.int p1), .val (.long q2), .second, .val (.long q3), .second, .val (.int p4), .val (.int b6), .val (.int b7), .val (.long qb), .second, .val (.ref b29), .val (.ref b30), .unset] []))
          refine own_go (fun _ k => XS.lloadN X31.here hx rfl (hb hby at_104) rfl k) ?_
          show own_R _ _ _ _ (T31.setTop (mkF m 105 #[.val (.int p1), .val (.long q2), .second, .val (.long q3), .second, .val (.int p4), .val (.int b6), .val (.int b7), .val (.long qb), .second, .val (.ref b29), .val (.ref b30), .unset] [(.long q2)]))
          refine own_go (fun _ k => XS.lload X31.here hx rfl (hb hby at_105) rfl k) ?_
          show own_R _ _ _ _ (T31.setTop (mkF m 107 #[.val (.int p1), .val (.long q2), .second, .val (.long q3), .second, .val (.int p4), .val (.int b6), .val (.int b7), .val (.long qb), .second, .val (.ref b29), .val (.ref b30), .unset] [(.long qb), (.long q2)]))
          refine own_go (fun _ k => XS.lcmp X31.here hx rfl (hb hby at_107) rfl k) ?_
          show own_R _ _ _ _ (T31.setTop (mkF m 108 #[.val (.int p1), .val (.long q2), .second, .val (.long q3), .second, .val (.int p4), .val (.int b6), .val (.int b7), .val (.long qb), .second, .val (.ref b29), .val (.ref b30), .unset] [(.int (lcmpW q2 qb))]))
          by_cases hc35 : (0 : Int32) < (lcmpW q2 qb)
          · refine own_go (fun _ k => XS.ifNo X31.here hx rfl (hb hby at_108) rfl ((if0 _ _).trans (tlt hc35).2.2.2) k) ?_
            show own_R _ _ _ _ (T31.setTop (mkF m 111 #[.val (.int p1), .val (.long q2), .second, .val (.long q3), .second, .val (.int p4), .val (.int b6), .val (.int b7), .val (.long qb), .second, .val (.ref b29), .val (.ref b30), .unset] []))
            refine own_go (fun _ k => XS.iconst X31.here hx rfl (hb hby at_111) k) ?_
            show own_R _ _ _ _ (T31.setTop (mkF m 112 #[.val (.int p1), .val (.long q2), .second, .val (.long q3), .second, .val (.int p4), .val (.int b6), .val (.int b7), .val (.long qb), .second, .val (.ref b29), .val (.ref b30), .unset] [(.int (0 : Int32))]))
            refine own_go (fun _ k => XS.istore X31.here hx rfl (hb hby at_112) rfl (l' := #[.val (.int p1), .val (.long q2), .second, .val (.long q3), .second, .val (.int p4), .val (.int b6), .val (.int b7), .val (.long qb), .second, .val (.ref b29), .val (.ref b30), .val (.int (0 : Int32))]) rfl k) ?_
            show own_R _ _ _ _ (T31.setTop (mkF m 114 #[.val (.int p1), .val (.long q2), .second, .val (.long q3), .second, .val (.int p4), .val (.int b6), .val (.int b7), .val (.long qb), .second, .val (.ref b29), .val (.ref b30), .val (.int (0 : Int32))] []))
            refine own_go (fun _ k => XS.goto X31.here hx rfl (pc0 := 114) (pc' := 120) rfl (hb hby at_114) (by decide) (by decide) k) ?_
            show own_R _ _ _ _ (T31.setTop (mkF m 120 #[.val (.int p1), .val (.long q2), .second, .val (.long q3), .second, .val (.int p4), .val (.int b6), .val (.int b7), .val (.long qb), .second, .val (.ref b29), .val (.ref b30), .val (.int (0 : Int32))] []))
            exact own_leaf ⟨(0 : Int32), by rw [own_opt, if_neg hc33, if_neg (own_gtn hc35)], rfl⟩
          · refine own_go (fun _ k => XS.ifYes X31.here hx rfl (pc0 := 108) (pc' := 117) rfl (hb hby at_108) rfl ((if0 _ _).trans (flt hc35).2.2.2) (by decide) (by decide) k) ?_
            show own_R _ _ _ _ (T31.setTop (mkF m 117 #[.val (.int p1), .val (.long q2), .second, .val (.long q3), .second, .val (.int p4), .val (.int b6), .val (.int b7), .val (.long qb), .second, .val (.ref b29), .val (.ref b30), .unset] []))
            refine own_go (fun _ k => XS.iconst X31.here hx rfl (hb hby at_117) k) ?_
            show own_R _ _ _ _ (T31.setTop (mkF m 118 #[.val (.int p1), .val (.long q2), .second, .val (.long q3), .second, .val (.int p4), .val (.int b6), .val (.int b7), .val (.long qb), .second, .val (.ref b29), .val (.ref b30), .unset] [(.int (1 : Int32))]))
            refine own_go (fun _ k => XS.istore X31.here hx rfl (hb hby at_118) rfl (l' := #[.val (.int p1), .val (.long q2), .second, .val (.long q3), .second, .val (.int p4), .val (.int b6), .val (.int b7), .val (.long qb), .second, .val (.ref b29), .val (.ref b30), .val (.int (1 : Int32))]) rfl k) ?_
            show own_R _ _ _ _ (T31.setTop (mkF m 120 #[.val (.int p1), .val (.long q2), .second, .val (.long q3), .second, .val (.int p4), .val (.int b6), .val (.int b7), .val (.long qb), .second, .val (.ref b29), .val (.ref b30), .val (.int (1 : Int32))] []))
            exact own_leaf ⟨(1 : Int32), by rw [own_opt, if_neg hc33, if_pos (own_tri hc34 hc35)], rfl⟩
    refine own_go sg32 ?_
    show own_R _ _ _ _ (T31.setTop (mkF m 120 #[.val (.int p1), .val (.long q2), .second, .val (.long q3), .second, .val (.int p4), .val (.int b6), .val (.int b7), .val (.long qb), .second, .val (.ref b29), .val (.ref b30), .val (.int be)] []))
    refine own_go (fun _ k => XS.aload X31.here hx rfl (hb hby at_120) rfl rfl k) ?_
    show own_R _ _ _ _ (T31.setTop (mkF m 122 #[.val (.int p1), .val (.long q2), .second, .val (.long q3), .second, .val (.int p4), .val (.int b6), .val (.int b7), .val (.long qb), .second, .val (.ref b29), .val (.ref b30), .val (.int be)] [(.ref b30)]))
    obtain ⟨cq36, kq36, q36a, q36b, q36c⟩ := isOf hZ e31 E_b30
    obtain ⟨_, _, ⟨T36, L36, k36, n36⟩, -, X36, ⟨Lc36, hQ36, l36, y36, z36⟩, st36⟩ := X31.virtualBack hx (y := (⟨"com/example/clearlot/clearlot/search/Solution", "optimal", "()Z"⟩ : MethodName)) (z := (⟨"com/example/clearlot/clearlot/search/Solution", "optimal", "()Z"⟩ : MethodName)) hown (mvT hZ (hw _ (List.mem_of_getElem? (i := 25) rfl))) (mvT hZ (hw _ (List.mem_of_getElem? (i := 26) rfl))) (notFace_of_selects (args := #[]) (mvT hZ (hw _ (List.mem_of_getElem? (i := 28) rfl)))) (mvT hZ (hw _ (List.mem_of_getElem? (i := 28) rfl))) (mvT hZ (hw _ (List.mem_of_getElem? (i := 27) rfl))) (by decide) (backOf (W := 0) (rm4 l Z a0 hw [] b30 b6 q2 qb h31 n0 ZS F_feasible_b30 F_value_b30 F_bound_b30) hZ (hw _ (List.mem_of_getElem? (i := 29) rfl)) (hw _ (List.mem_of_getElem? (i := 3) rfl)) (by decide) (by decide)) q36a q36c (g := (mkF m 122 #[.val (.int p1), .val (.long q2), .second, .val (.long q3), .second, .val (.int p4), .val (.int b6), .val (.int b7), .val (.long qb), .second, .val (.ref b29), .val (.ref b30), .val (.int be)] [(.ref b30)])) rfl (by rw [hml]; rfl) (Steps.refl _) (argsL := []) (rest := []) (lenOf pd_2 rfl) rfl (by show 2 * 0 + _ ≤ _; exact Nat.le_of_eq rfl) (hb hby at_122) (fun _ _ => ⟨rfl, e31, (by decide : 2 + 0 ≤ _), (by decide : 5 + 0 ≤ _)⟩)
    dsimp only [Pt.U, Pt.locs, Pt.cells, Pt.slots] at X36 l36 y36 z36 st36 hQ36
    subst l36 y36 z36
    obtain ⟨rfl, N36q, e36⟩ := hQ36
    have NF := Fr.app NF N36q
    refine own_go (fun _ k => st36.trans k) ?_
    show own_R _ _ _ _ (T36.setTop (mkF m 125 #[.val (.int p1), .val (.long q2), .second, .val (.long q3), .second, .val (.int p4), .val (.int b6), .val (.int b7), .val (.long qb), .second, .val (.ref b29), .val (.ref b30), .val (.int be)] [(.int (own_opt b6 q2 qb))]))
    refine own_go (fun _ k => XS.iload X36.here hx rfl (hb hby at_125) rfl k) ?_
    show own_R _ _ _ _ (T36.setTop (mkF m 127 #[.val (.int p1), .val (.long q2), .second, .val (.long q3), .second, .val (.int p4), .val (.int b6), .val (.int b7), .val (.long qb), .second, .val (.ref b29), .val (.ref b30), .val (.int be)] [(.int be), (.int (own_opt b6 q2 qb))]))
    refine own_go (fun _ k => XS.icmpNo X36.here hx rfl (hb hby at_127) rfl (teq hs32.symm).2 k) ?_
    show own_R _ _ _ _ (T36.setTop (mkF m 130 #[.val (.int p1), .val (.long q2), .second, .val (.long q3), .second, .val (.int p4), .val (.int b6), .val (.int b7), .val (.long qb), .second, .val (.ref b29), .val (.ref b30), .val (.int be)] []))
    refine own_go (fun _ k => XS.iconst X36.here hx rfl (hb hby at_130) k) ?_
    show own_R _ _ _ _ (T36.setTop (mkF m 131 #[.val (.int p1), .val (.long q2), .second, .val (.long q3), .second, .val (.int p4), .val (.int b6), .val (.int b7), .val (.long qb), .second, .val (.ref b29), .val (.ref b30), .val (.int be)] [(.int (1 : Int32))]))
    refine own_go (fun _ k => XS.goto X36.here hx rfl (pc0 := 131) (pc' := 135) rfl (hb hby at_131) (by decide) (by decide) k) ?_
    show own_R _ _ _ _ (T36.setTop (mkF m 135 #[.val (.int p1), .val (.long q2), .second, .val (.long q3), .second, .val (.int p4), .val (.int b6), .val (.int b7), .val (.long qb), .second, .val (.ref b29), .val (.ref b30), .val (.int be)] [(.int (1 : Int32))]))
    exact own_retN X36 hx (t := .boolean) (by simp) Bd.returns (hb hby at_135) hlk ⟨rfl, NF⟩ (by decide) (by decide)
set_option maxRecDepth 65536 in
set_option maxHeartbeats 40000000 in
theorem comes_1 {Post : Tables → Env → Array Value → State → Outcome → State → Prop} (hpost : ∀ tb e args s v u, (limb_1_1.after args s (.returned v) u = true ∧ limb_1_2.after args s (.returned v) u = true ∧ True) → FrameEnd s (.returned v) u (Jvm.fieldLocs frame_1_writes args s ++ Jvm.arrayLocs frame_1_arrays args s ++ Jvm.staticLocs frame_1_statics s) 16 128 → Post tb e args s (.returned v) u) :
    ArmFor flags0 classFile x code maxLocals ret World_1 tables_1 room_1 Calls_1 rest_1 Pre_1 Post := by
  intro l hfl _ _ p e ha hc hk s m args below hf hA hF happ hP
  obtain ⟨hcalls, hrest, hpre⟩ := hP
  obtain ⟨-, -, -, hnamed, -, -, -, hat⟩ := (Spec.applies_iff hf).mp happ
  obtain ⟨hg, hn⟩ := and_e (Cond.before_iff.mp (show (Jvm.Cond.and given_1 narrow_1).before args s = true from hpre))
  obtain ⟨g1, g2⟩ := and_e hg
  obtain ⟨g3, g4⟩ := and_e g2
  obtain ⟨g5, g6⟩ := and_e g4
  obtain ⟨g7, g8⟩ := and_e g6
  obtain ⟨w0, w1, w2, w3, rfl⟩ : ∃ w0 w1 w2 w3 : Value, args = #[w0, w1, w2, w3] := by
    have hs : args.size = 4 := by simpa [Cond.value, given_1] using g1
    obtain ⟨L⟩ := args
    match L, hs with
    | [w0, w1, w2, w3], _ => exact ⟨w0, w1, w2, w3, rfl⟩
  have hw := fun d (hd : d ∈ tables_1) => atoms_spec (ws := Jvm.Cond.code x code maxLocals ret :: tables_1) hat d (List.mem_cons_of_mem _ hd)
  have hfit : Fit s := fun {y c} hc i hi => by
    obtain ⟨ha, rfl⟩ := Array.getElem?_eq_some_iff.mp hc
    have q := List.all_eq_true.mp ((Array.all_eq_true_iff_forall_mem.mp hF) _ (Array.getElem_mem ha)) i (List.mem_range.mpr hi)
    simpa [Array.getElem?_eq_getElem hi] using q
  obtain ⟨i0, ei0⟩ := is_v g3
  obtain rfl : w0 = (.int i0) := Option.some.inj ei0
  obtain ⟨i1, ei1⟩ := isL_v g5
  obtain rfl : w1 = (.long i1) := Option.some.inj ei1
  obtain ⟨i2, ei2⟩ := isL_v g7
  obtain rfl : w2 = (.long i2) := Option.some.inj ei2
  obtain ⟨i3, ei3⟩ := is_v g8
  obtain rfl : w3 = (.int i3) := Option.some.inj ei3
  obtain ⟨n, o, h1, h2, h3, _, L, rfl, ⟨rfl, N⟩, hq⟩ := rm0 l s _ hw tables_1 i0 i1 i2 i3 s.heap s.heap.size (Nat.le_refl _) p e ha hc hk s m _ below hf ((Spec.applies_iff_loose hf).mp happ).1 ⟨rfl, State.Warmed39.refl s, rfl⟩ trivial
  refine ⟨n, _, h1, h2, h3, hpost _ _ _ _ _ _ ⟨Cond.after_iff.mpr rfl, Cond.after_iff.mpr (eq_i res_at (Term.int_eval (1)) rfl), trivial⟩ ⟨hq.1, hq.2.1, (hq.2.2.sift fun y hy => Or.inr (N y hy)).mono (by decide) (by decide)⟩⟩
theorem main_1_1 : Claimed_1_1 := comes_1 fun _ _ _ _ _ _ h hF => ⟨h.1, hF⟩
theorem main_1_2 : Claimed_1_2 := comes_1 fun _ _ _ _ _ _ h hF => ⟨h.2.1, hF⟩
end Jvm.Pilot.@@N@@
namespace Jvm.Pilot.@@N@@
open Jvm Jvm.ClassFile Sem Op Lib Jvm.Free Jvm.Stand Jvm.Pilot.@@N@@.Jvm.D
/-! MADE BY PROGRAM (witnessworld.py) out of the Statement's table words and the real class files: 10 classes; the members and pool entries that the words name. The judged class is class 1, her method 1. -/
namespace start1
open Jvm.ClassFile
def u (s : String) : CpInfo := .utf8 (stringToUtf16 s)
/-- a pool by its gaps: so many unusable entries, then the entry; so many at the end -/
def gap : Nat → List CpInfo → List CpInfo
  | 0, r => r
  | n + 1, r => .unusable :: gap n r
def poolList (es : List (Nat × CpInfo)) (last : Nat) : List CpInfo := es.foldr (fun e r => gap e.1 (e.2 :: r)) (gap last [])
def pool (es : List (Nat × CpInfo)) (last : Nat) : Array CpInfo := ⟨poolList es last⟩
def fileOf (pool : Array CpInfo) (this : Nat) (attrs : Array Attribute := #[]) (ms : Array MethodInfo := #[]) (fl : Nat := 33) (sup : Nat := 0) (ifs : Array Nat := #[]) (fds : Array FieldInfo := #[]) : ClassFile where
  minorVersion := 0
  majorVersion := 65
  constantPool := pool
  accessFlags := fl
  thisClass := this
  superClass := sup
  interfaces := ifs
  fields := fds
  methods := ms
  attributes := attrs
def plain (name : String) (sup : Option ClassId) : Class where
  name := name
  kind := .ordinary
  loader := none
  accessFlags := 33
  super := sup
  interfaces := #[]
  cf := none
  fields := #[]
  methods := #[]
  instanceTypes := #[]
  staticTypes := #[]
  resolved := #[]
  callSites := []
  init := .initialized
  statics := none
  mirror := none

def pool0 : Array CpInfo := pool [(5, u "<init>"), (0, u "()V"), (1, .class_ 10), (1, u "java/lang/Object")] 113

def k0c0 : Code := { maxStack := 0, maxLocals := 1, code := object_method_1_code, exceptionTable := #[], attributes := #[] }
def k0m0 : Method := { name := "<init>", desc := "()V", sig := { parameters := [], returnType := none }, accessFlags := 1, code := some k0c0 }
/-- java/lang/Object -/
def k0 : Class := { plain "java/lang/Object" none with
  accessFlags := 33
  interfaces := #[]
  cf := some (fileOf pool0 8 #[] #[{ accessFlags := 1, nameIndex := 5, descriptorIndex := 6, attributes := #[] }] 33 0 #[] #[])
  fields := #[]
  methods := #[k0m0]
  instanceTypes := #[]
  staticTypes := #[]
  resolved := Array.replicate 124 none
  statics := none }

def pool1 : Array CpInfo := pool [(2, .class_ 4), (1, u "java/lang/Object"), (0, u "<init>"), (0, u "()V"), (0, .class_ 8), (0, u "com/example/clearlot/clearlot/search/Solution"), (0, .methodref 7 10), (0, .nameAndType 5 11), (0, u "(Z[IJJZ)V"), (0, .methodref 7 13), (0, .nameAndType 14 15), (0, u "optimal"), (0, u "()Z"), (0, .class_ 17), (0, u "com/example/clearlot/clearlot/search/SolutionOptimalPinLaw"), (2, u "law"), (0, u "(IJJI)Z")] 5

def k1m0 : Method := { name := "<init>", desc := "()V", sig := { parameters := [], returnType := none }, accessFlags := 1, code := none }
def k1c1 : Code := { maxStack := 9, maxLocals := 13, code := code, exceptionTable := #[], attributes := #[] }
def k1m1 : Method := { name := "law", desc := "(IJJI)Z", sig := { parameters := [.int, .long, .long, .int], returnType := some .boolean }, accessFlags := 9, code := some k1c1 }
/-- com/example/clearlot/clearlot/search/SolutionOptimalPinLaw -/
def k1 : Class := { plain "com/example/clearlot/clearlot/search/SolutionOptimalPinLaw" (some 0) with
  accessFlags := 49
  interfaces := #[]
  cf := some (fileOf pool1 16 #[] #[{ accessFlags := 1, nameIndex := 5, descriptorIndex := 6, attributes := #[] }, { accessFlags := 9, nameIndex := 20, descriptorIndex := 21, attributes := #[] }] 49 2 #[] #[])
  fields := #[]
  methods := #[k1m0, k1m1]
  instanceTypes := #[]
  staticTypes := #[]
  resolved := Array.replicate 27 none
  statics := none }

def pool2 : Array CpInfo := pool [(1, .methodref 2 3), (0, .class_ 4), (0, .nameAndType 5 6), (0, u "java/lang/Object"), (0, u "<init>"), (0, u "()V"), (0, .class_ 8), (0, u "java/lang/Record")] 13

def k2c0 : Code := { maxStack := 1, maxLocals := 1, code := jdk_30_method_1_code, exceptionTable := #[], attributes := #[] }
def k2m0 : Method := { name := "<init>", desc := "()V", sig := { parameters := [], returnType := none }, accessFlags := 4, code := some k2c0 }
/-- java/lang/Record -/
def k2 : Class := { plain "java/lang/Record" (some 0) with
  accessFlags := 1057
  interfaces := #[]
  cf := some (fileOf pool2 7 #[] #[{ accessFlags := 4, nameIndex := 5, descriptorIndex := 6, attributes := #[] }] 1057 2 #[] #[])
  fields := #[]
  methods := #[k2m0]
  instanceTypes := #[]
  staticTypes := #[]
  resolved := Array.replicate 22 none
  statics := none }

def pool3 : Array CpInfo := pool [(1, .methodref 2 3), (0, .class_ 4), (0, .nameAndType 5 6), (0, u "java/lang/Record"), (0, u "<init>"), (0, u "()V"), (0, .fieldref 8 9), (0, .class_ 10), (0, .nameAndType 11 12), (0, u "com/example/clearlot/clearlot/search/Solution"), (0, u "feasible"), (0, u "Z"), (0, .fieldref 8 14), (0, .nameAndType 15 16), (0, u "columns"), (0, u "[I"), (0, .fieldref 8 18), (0, .nameAndType 19 20), (0, u "value"), (0, u "J"), (0, .fieldref 8 22), (0, .nameAndType 23 20), (0, u "bound"), (0, .fieldref 8 25), (0, .nameAndType 26 12), (0, u "stopped"), (2, u "(Z[IJJZ)V"), (24, u "optimal"), (0, u "()Z")] 30

def k3c0 : Code := { maxStack := 3, maxLocals := 8, code := prog_69_method_1_code, exceptionTable := #[], attributes := #[] }
def k3m0 : Method := { name := "<init>", desc := "(Z[IJJZ)V", sig := { parameters := [.boolean, (.array .int), .long, .long, .boolean], returnType := none }, accessFlags := 1, code := some k3c0 }
def k3c1 : Code := { maxStack := 4, maxLocals := 1, code := prog_69_method_4_code, exceptionTable := #[], attributes := #[] }
def k3m1 : Method := { name := "optimal", desc := "()Z", sig := { parameters := [], returnType := some .boolean }, accessFlags := 1, code := some k3c1 }
/-- com/example/clearlot/clearlot/search/Solution -/
def k3 : Class := { plain "com/example/clearlot/clearlot/search/Solution" (some 2) with
  accessFlags := 49
  interfaces := #[]
  cf := some (fileOf pool3 8 #[] #[{ accessFlags := 1, nameIndex := 5, descriptorIndex := 29, attributes := #[] }, { accessFlags := 1, nameIndex := 54, descriptorIndex := 55, attributes := #[] }] 49 2 #[] #[{ accessFlags := 18, nameIndex := 11, descriptorIndex := 12, attributes := #[] }, { accessFlags := 18, nameIndex := 15, descriptorIndex := 16, attributes := #[] }, { accessFlags := 18, nameIndex := 19, descriptorIndex := 20, attributes := #[] }, { accessFlags := 18, nameIndex := 23, descriptorIndex := 20, attributes := #[] }, { accessFlags := 18, nameIndex := 26, descriptorIndex := 12, attributes := #[] }])
  fields := #[{ name := "feasible", type := .boolean, accessFlags := 18, slot := 0, constantValue := 0 }, { name := "columns", type := (.array .int), accessFlags := 18, slot := 1, constantValue := 0 }, { name := "value", type := .long, accessFlags := 18, slot := 2, constantValue := 0 }, { name := "bound", type := .long, accessFlags := 18, slot := 3, constantValue := 0 }, { name := "stopped", type := .boolean, accessFlags := 18, slot := 4, constantValue := 0 }]
  methods := #[k3m0, k3m1]
  instanceTypes := #[.boolean, (.array .int), .long, .long, .boolean]
  staticTypes := #[]
  resolved := Array.replicate 86 none
  statics := none }

def pool4 : Array CpInfo := pool [(1, u "java/lang/Cloneable"), (0, .class_ 1), (0, u "java/lang/Object"), (0, .class_ 3)] 3

/-- java/lang/Cloneable -/
def k4 : Class := { plain "java/lang/Cloneable" (some 0) with
  accessFlags := 1537
  interfaces := #[]
  cf := some (fileOf pool4 2 #[] #[] 1537 4 #[] #[])
  fields := #[]
  methods := #[]
  instanceTypes := #[]
  staticTypes := #[]
  resolved := Array.replicate 8 none
  statics := none }

def pool5 : Array CpInfo := pool [(1, u "java/io/Serializable"), (0, .class_ 1), (0, u "java/lang/Object"), (0, .class_ 3)] 3

/-- java/io/Serializable -/
def k5 : Class := { plain "java/io/Serializable" (some 0) with
  accessFlags := 1537
  interfaces := #[]
  cf := some (fileOf pool5 2 #[] #[] 1537 4 #[] #[])
  fields := #[]
  methods := #[]
  instanceTypes := #[]
  staticTypes := #[]
  resolved := Array.replicate 8 none
  statics := none }

/-- the primitive byte -/
def k6 : Class := { plain "byte" none with kind := .primitive 'B', accessFlags := 0x411 }
/-- [B -/
def k7 : Class := { plain "[B" (some 0) with kind := .array 6 .byte, interfaces := #[4, 5], accessFlags := 1041 }

/-- the primitive int -/
def k8 : Class := { plain "int" none with kind := .primitive 'I', accessFlags := 0x411 }
/-- [I -/
def k9 : Class := { plain "[I" (some 0) with kind := .array 8 .int, interfaces := #[4, 5], accessFlags := 1041 }

def heap : Heap := #[]
def classes : Array Class := #[k0, k1, k2, k3, k4, k5, k6, k7, k8, k9]
def interned : List (Array UInt16 × Addr) := []
def slotsUsed : Nat := 0
def theMethod : MethodId := ⟨1, 1⟩
def args0 : Array Value := #[.int 5, .long 5, .long 5, .int 5]
def aboutOver (below : List Frame) : State where
  vm := { classes := classes, interned := interned.toArray }
  heap := heap
  slotsUsed := slotsUsed
  threads := #[{ frames := .invoking theMethod args0 :: below }]
def below0 : List Frame := [.native { method := ⟨0, 0⟩, args := #[] }]
def about1 : State := aboutOver below0
def p0 : Program := .bare "" "" ""
def e0 : Env := launch0.env 0 0 0
theorem w_frames : about1.frames = Frame.invoking theMethod args0 :: below0 := rfl
set_option maxRecDepth 65536 in
theorem w_args : argsFit about1.vm theMethod args0 = true := by decide +kernel
set_option maxRecDepth 65536 in
theorem w_heap : heapFits about1 = true := by decide +kernel
set_option maxRecDepth 65536 in
theorem w_runnable : about1.curStatus? = some .runnable := by decide +kernel
set_option maxRecDepth 65536 in
theorem w_alone : about1.alone = true := by decide +kernel
set_option maxRecDepth 65536 in
theorem w_named : about1.methodNamed? x = some theMethod := by decide +kernel
set_option maxRecDepth 65536 in
theorem w_hears : about1.hears theMethod below0 = true := by decide +kernel
set_option maxRecDepth 65536 in
theorem w_ripe : about1.ripe theMethod args0 below0 = true := by decide +kernel
theorem w_running : about1.status = .running := rfl
set_option maxRecDepth 65536 in
theorem w_room : about1.hasRoom e0.platform room_1 = true :=
  launch0.hasRoom_least _ room_1 (by decide +kernel) (by decide +kernel) (by decide +kernel) (by decide +kernel) (by decide +kernel) (by decide +kernel)
theorem allAtoms_all (ts : List Jvm.Cond) (a : Array Jvm.Value) (st : Jvm.State) : (allAtoms ts).before a st = ts.all (fun c => c.before a st) := by
  induction ts with
  | nil => rfl
  | cons c t ih =>
    show (Jvm.Cond.and c (allAtoms t)).before a st = _
    rw [Jvm.Cond.before_and, ih, List.all_cons]
def words1 : List Jvm.Cond := Jvm.Cond.code x code maxLocals ret :: tables_1
/-- a 'code' word, met by the world's own term for the bytes: nothing is compared byte by byte -/
theorem code_word {y : MethodName} {bytes : ByteArray} {mx : Nat} {rt : Option FieldType} {a : Array Value} {s : State} {m : MethodId} {meth : Method} {c : Code} (h1 : s.methodNamed? y = some m) (h2 : s.vm.method? m = some meth) (h3 : meth.code = some c) (h4 : c.code = bytes)
    (h5 : (c.maxLocals == mx && c.exceptionTable.isEmpty && decide (c.maxStack ≤ mostOperands) && decide (meth.sig.returnType = rt) && !meth.locks && decide (parseMethodDescriptor y.desc = some meth.sig)) = true) : (Jvm.Cond.code y bytes mx rt).before a s = true := by
  simp only [Bool.and_eq_true, beq_iff_eq, Bool.not_eq_true', decide_eq_true_eq] at h5
  obtain ⟨⟨⟨⟨⟨g1, g2⟩, g3⟩, g4⟩, g5⟩, g6⟩ := h5
  simp [Cond.before, Cond.holds, Cond.value, h1, h2, h3, h4, g1, g2, g3, g4, g5, g6]
def isCode : Jvm.Cond → Bool
  | .code _ _ _ _ => true
  | _ => false
theorem all_split {L : List Jvm.Cond} {P : Jvm.Cond → Bool} (h1 : L.all (fun c => isCode c || P c) = true) (h2 : ∀ c ∈ L.filter isCode, P c = true) : L.all P = true := by
  refine List.all_eq_true.mpr fun c hc => ?_
  have h := List.all_eq_true.mp h1 c hc
  rcases Bool.eq_false_or_eq_true (isCode c) with hi | hi
  · exact h2 c (List.mem_filter.mpr ⟨hc, hi⟩)
  · simpa [hi] using h
set_option maxRecDepth 65536 in
theorem w_c0 : (Jvm.Cond.code x code maxLocals ret).before args0 about1 = true := code_word (m := ⟨1, 1⟩) (meth := k1m1) (c := k1c1) (by decide +kernel) rfl rfl rfl (by decide +kernel)
set_option maxRecDepth 65536 in
theorem w_c1 : (Jvm.Cond.code ({ cls := "com/example/clearlot/clearlot/search/Solution", name := "<init>", desc := "(Z[IJJZ)V" } : Jvm.MethodName) prog_69_method_1_code (8 : Nat) (Option.none : Option Jvm.ClassFile.FieldType)).before args0 about1 = true := code_word (m := ⟨3, 0⟩) (meth := k3m0) (c := k3c0) (by decide +kernel) rfl rfl rfl (by decide +kernel)
set_option maxRecDepth 65536 in
theorem w_c2 : (Jvm.Cond.code ({ cls := "java/lang/Record", name := "<init>", desc := "()V" } : Jvm.MethodName) jdk_30_method_1_code (1 : Nat) (Option.none : Option Jvm.ClassFile.FieldType)).before args0 about1 = true := code_word (m := ⟨2, 0⟩) (meth := k2m0) (c := k2c0) (by decide +kernel) rfl rfl rfl (by decide +kernel)
set_option maxRecDepth 65536 in
theorem w_c3 : (Jvm.Cond.code ({ cls := "java/lang/Object", name := "<init>", desc := "()V" } : Jvm.MethodName) object_method_1_code (1 : Nat) (Option.none : Option Jvm.ClassFile.FieldType)).before args0 about1 = true := code_word (m := ⟨0, 0⟩) (meth := k0m0) (c := k0c0) (by decide +kernel) rfl rfl rfl (by decide +kernel)
set_option maxRecDepth 65536 in
theorem w_c4 : (Jvm.Cond.code ({ cls := "com/example/clearlot/clearlot/search/Solution", name := "optimal", desc := "()Z" } : Jvm.MethodName) prog_69_method_4_code (1 : Nat) (Option.some Jvm.ClassFile.FieldType.boolean)).before args0 about1 = true := code_word (m := ⟨3, 1⟩) (meth := k3m1) (c := k3c1) (by decide +kernel) rfl rfl rfl (by decide +kernel)
def codes1 : List Jvm.Cond := [Jvm.Cond.code x code maxLocals ret, Jvm.Cond.code ({ cls := "com/example/clearlot/clearlot/search/Solution", name := "<init>", desc := "(Z[IJJZ)V" } : Jvm.MethodName) prog_69_method_1_code (8 : Nat) (Option.none : Option Jvm.ClassFile.FieldType), Jvm.Cond.code ({ cls := "java/lang/Record", name := "<init>", desc := "()V" } : Jvm.MethodName) jdk_30_method_1_code (1 : Nat) (Option.none : Option Jvm.ClassFile.FieldType), Jvm.Cond.code ({ cls := "java/lang/Object", name := "<init>", desc := "()V" } : Jvm.MethodName) object_method_1_code (1 : Nat) (Option.none : Option Jvm.ClassFile.FieldType), Jvm.Cond.code ({ cls := "com/example/clearlot/clearlot/search/Solution", name := "optimal", desc := "()Z" } : Jvm.MethodName) prog_69_method_4_code (1 : Nat) (Option.some Jvm.ClassFile.FieldType.boolean)]
set_option maxRecDepth 65536 in
theorem codes_eq : words1.filter isCode = codes1 := rfl
theorem w_codes : ∀ c ∈ words1.filter isCode, c.before args0 about1 = true := by
  rw [codes_eq]
  intro c hc
  simp only [codes1, List.mem_cons, List.not_mem_nil, or_false] at hc
  rcases hc with rfl | rfl | rfl | rfl | rfl
  · exact w_c0
  · exact w_c1
  · exact w_c2
  · exact w_c3
  · exact w_c4
set_option maxRecDepth 65536 in
theorem w_t1 : (words1.take 24).all (fun c => isCode c || c.before args0 about1) = true := by decide +kernel
set_option maxRecDepth 65536 in
theorem w_t2 : (words1.drop 24).all (fun c => isCode c || c.before args0 about1) = true := by decide +kernel
theorem w_tables : (allAtoms (Jvm.Cond.code x code maxLocals ret :: tables_1)).before args0 about1 = true := by
  rw [allAtoms_all]
  show words1.all (fun c => c.before args0 about1) = true
  refine all_split ?_ w_codes
  rw [← List.take_append_drop 24 words1, List.all_append, w_t1, w_t2]
  rfl
set_option maxRecDepth 65536 in
theorem w_case : (Jvm.Cond.and given_1 narrow_1).before args0 about1 = true := by decide +kernel
theorem w_applies : (headSpec (Jvm.Cond.code x code maxLocals ret :: tables_1) room_1).applies x e0.platform about1 = true :=
  (Spec.applies_iff w_frames).mpr ⟨w_running, w_runnable, w_alone, w_named, w_hears, w_ripe, w_room, w_tables⟩
theorem atStart : AtStart classFile x code maxLocals ret World_1 tables_1 room_1 Calls_1 rest_1 Pre_1 launch0 p0 e0 about1 theMethod args0 below0 :=
  ⟨lists_1, trivial, launch0.admits_env _ _ _, launch0.least_env, fairChoices_fair.cas, fairChoices_fair.clock, w_frames, w_args, w_heap, w_applies, trivial, trivial, w_case⟩
end start1
theorem witness_1 : WitnessClaimed_1 := ⟨start1.p0, start1.e0, start1.about1, start1.theMethod, start1.args0, start1.below0, start1.atStart⟩
end Jvm.Pilot.@@N@@
