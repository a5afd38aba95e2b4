import JvmDerived
import JvmDerived.Pilot.@@N@@Statement
import JvmDerived.Pilot.@@N@@Code
set_option linter.unusedVariables false
set_option linter.unusedSimpArgs false
namespace Jvm.RoadKit
open Sem ClassFile Op Lib Jvm.Stand Jvm.Free Jvm.LawKit
/-- from T the run comes to a state of which Φ holds -/
def own_R (tb : Tables) (e : Env) (below : List Frame) (Φ : State → Prop) (T : State) : Prop := ∃ T', Φ T' ∧ ∀ t, Steps tb e below T' t → Steps tb e below T t
theorem own_leaf {tb : Tables} {e : Env} {below : List Frame} {Φ : State → Prop} {T : State} (h : Φ T) : own_R tb e below Φ T := ⟨T, h, fun _ k => k⟩
theorem own_go {tb : Tables} {e : Env} {below : List Frame} {Φ : State → Prop} {T T1 : State} (h : ∀ t, Steps tb e below T1 t → Steps tb e below T t) (g : own_R tb e below Φ T1) : own_R tb e below Φ T := by
  obtain ⟨T', h1, h2⟩ := g
  exact ⟨T', h1, fun t k => h t (h2 t k)⟩
theorem own_to {tb : Tables} {e : Env} {below : List Frame} {Φ Ψ : State → Prop} {T : State} (h : own_R tb e below Φ T) (g : ∀ U, Φ U → own_R tb e below Ψ U) : own_R tb e below Ψ T := by
  obtain ⟨T', h1, h2⟩ := h
  exact own_go h2 (g T' h1)
/-- the call has come to its end: what it returns and leaves -/
def own_F (below : List Frame) (s : State) (Q : Option Value → Heap → List Loc → Prop) (rc rs : Nat) (U : State) : Prop := U.status = .running ∧ ∃ v L, Ended U below (.returned v) ∧ Q v U.heap L ∧ FrameEnd s (.returned v) U L rc rs
theorem own_fin {tb : Tables} {e : Env} {below : List Frame} {s : State} {Q : Option Value → Heap → List Loc → Prop} {rc rs : Nat} {T : State} (h : own_R tb e below (own_F below s Q rc rs) T) :
    ∃ s₂ o, Steps tb e below T s₂ ∧ s₂.status = .running ∧ Ended s₂ below o ∧ ∃ v L, o = .returned v ∧ Q v s₂.heap L ∧ FrameEnd s o s₂ L rc rs := by
  obtain ⟨T', ⟨h1, v, L, h2, h3, h4⟩, h5⟩ := h
  exact ⟨T', .returned v, h5 _ (Steps.refl _), h1, h2, v, L, rfl, h3, h4⟩
section New
variable {p : Program} {l : Launch} {e : Env} {R : Room} {s : State} {m : MethodId} {args : Array Value} {below : List Frame} {meth : Method} {c : Code} {T : State} {locs : List Loc} {cells slots : Nat}
theorem retI (X : Stand p l e R s m args below meth c T locs cells slots) (hx : p.tables.exec = Jvm.exec) {pc : Nat} {Ls : Array Slot} {z : Int32} {rest : List Value} (hret : meth.sig.returnType = some .int) (hd : decode c.code pc = .ok (.ireturn, 1)) {fs : List Frame}
    (hl : ∀ (f : JFrame) (acts : List Action), f.method = m → f.locked = none → f.entered = [] → (doReturn e (T.setTop f) acts (some (.int z))).1 = T.setFrames fs) : Steps p.tables e below (T.setTop (mkF m pc Ls (.int z :: rest))) (T.setFrames fs) := by
  have hm' : T.vm.method? m = some meth := X.method'
  have hn : narrow .int (.int z) = .int z := rfl
  show Steps p.tables e below (T.setTop { method := m, pc := pc, locals := Ls, stack := _ :: rest, locked := none }) _
  jvm_step X.here [X.here.top, hx, hd, hm', hret, hn]
  first | (intro acts; rw [hl _ acts rfl rfl rfl]) | rw [hl _ _ rfl rfl rfl]
  exact Steps.refl _
variable {Q : Option Value → Heap → List Loc → Prop} {rc rs : Nat}
theorem own_end (X : Stand p l e R s m args below meth c T locs cells slots) (hlk : meth.locks = false) {v : Option Value} (hv : meth.sig.returnType = none → v = none) (hQ : Q v T.heap locs) (hc : cells ≤ rc) (hs : slots ≤ rs) {g : JFrame}
    (hst : ∀ fs, (∀ (f : JFrame) (acts : List Action), f.method = m → f.locked = none → f.entered = [] → (doReturn e (T.setTop f) acts v).1 = T.setFrames fs) → Steps p.tables e below (T.setTop g) (T.setFrames fs)) : own_R p.tables e below (own_F below s Q rc rs) (T.setTop g) := by
  obtain ⟨fs, hr, hrun, hended, hW, hsame⟩ := X.leave hv hlk
  exact ⟨T.setFrames fs, ⟨hrun, v, locs, hended, hQ, ⟨_, rfl⟩, hW, hsame.mono hc hs⟩, fun t k => (hst fs hr).trans k⟩
theorem own_ret0 (X : Stand p l e R s m args below meth c T locs cells slots) (hx : p.tables.exec = Jvm.exec) {pc : Nat} {Ls : Array Slot} (hret : meth.sig.returnType = none) (hd : decode c.code pc = .ok (.return_, 1)) (hlk : meth.locks = false) (hQ : Q none T.heap locs) (hc : cells ≤ rc) (hs : slots ≤ rs) :
    own_R p.tables e below (own_F below s Q rc rs) (T.setTop (mkF m pc Ls [])) := own_end X hlk (fun _ => rfl) hQ hc hs fun _ hr => X.returnOut hx hret hd hr
theorem own_retI (X : Stand p l e R s m args below meth c T locs cells slots) (hx : p.tables.exec = Jvm.exec) {pc : Nat} {Ls : Array Slot} {z : Int32} {rest : List Value} (hret : meth.sig.returnType = some .int) (hd : decode c.code pc = .ok (.ireturn, 1)) (hlk : meth.locks = false) (hQ : Q (some (.int z)) T.heap locs) (hc : cells ≤ rc) (hs : slots ≤ rs) :
    own_R p.tables e below (own_F below s Q rc rs) (T.setTop (mkF m pc Ls (.int z :: rest))) := own_end X hlk (fun h => by rw [hret] at h; cases h) hQ hc hs fun _ hr => retI X hx hret hd hr
theorem own_retN (X : Stand p l e R s m args below meth c T locs cells slots) (hx : p.tables.exec = Jvm.exec) {t : FieldType} (ht : t = .boolean ∨ t = .byte ∨ t = .char ∨ t = .short) {pc : Nat} {Ls : Array Slot} {z : Int32} {rest : List Value} (hret : meth.sig.returnType = some t) (hd : decode c.code pc = .ok (.ireturn, 1)) (hlk : meth.locks = false) (hQ : Q (some (.int (nar t z))) T.heap locs) (hc : cells ≤ rc) (hs : slots ≤ rs) :
    own_R p.tables e below (own_F below s Q rc rs) (T.setTop (mkF m pc Ls (.int z :: rest))) := own_end X hlk (fun h => by rw [hret] at h; cases h) hQ hc hs fun _ hr => retN X hx hret ht hd hr
theorem own_retL (X : Stand p l e R s m args below meth c T locs cells slots) (hx : p.tables.exec = Jvm.exec) {pc : Nat} {Ls : Array Slot} {z : Int64} {rest : List Value} (hret : meth.sig.returnType = some .long) (hd : decode c.code pc = .ok (.lreturn, 1)) (hlk : meth.locks = false) (hQ : Q (some (.long z)) T.heap locs) (hc : cells ≤ rc) (hs : slots ≤ rs) :
    own_R p.tables e below (own_F below s Q rc rs) (T.setTop (mkF m pc Ls (.long z :: rest))) := own_end X hlk (fun h => by rw [hret] at h; cases h) hQ hc hs fun _ hr => retOut X hx hret rfl (Or.inr (Or.inl ⟨rfl, rfl, z, rfl⟩)) hd hr
theorem own_retA (X : Stand p l e R s m args below meth c T locs cells slots) (hx : p.tables.exec = Jvm.exec) {t : FieldType} {pc : Nat} {Ls : Array Slot} {w : Value} {rest : List Value} (ht : t.isReference = true) (hw : w.isRef = true) (hret : meth.sig.returnType = some t) (hd : decode c.code pc = .ok (.areturn, 1)) (hlk : meth.locks = false) (hQ : Q (some w) T.heap locs) (hc : cells ≤ rc) (hs : slots ≤ rs) :
    own_R p.tables e below (own_F below s Q rc rs) (T.setTop (mkF m pc Ls (w :: rest))) := own_end X hlk (fun h => by rw [hret] at h; cases h) hQ hc hs fun _ hr => retOut X hx hret (by cases t <;> first | rfl | cases ht) (Or.inr (Or.inr (Or.inr (Or.inr ⟨rfl, ht, hw⟩)))) hd hr
variable {Z : State} {h : Heap} {a : Addr} {k : ClassId} {n : Int32} {vs : List Value} {dv : Value}
theorem own_len (X : Stand p l e R s m args below meth c T locs cells slots) (hx : p.tables.exec = Jvm.exec) (hZ : Z.Warmed39 s.vm) (eT : T.heap = h) {ty : FieldType} (V : Arv Z h a k ty n vs dv) {g : JFrame} (hg : g.method = m) {rest : List Value} (hs : g.stack = .ref a :: rest) (hd : decode c.code g.pc = .ok (.arraylength, 1)) :
    ∀ target, Steps p.tables e below (T.setTop { g with pc := g.pc + 1, stack := .int n :: rest }) target → Steps p.tables e below (T.setTop g) target := by
  obtain ⟨cl, A, -, S, N, -, -⟩ := V
  intro t kt
  refine X.arraylength hx (by rw [eT]; exact A.1) (State.isArrayOf_alike hZ.alike A.2.1) hg hs hd t ?_
  rw [len_of S N]; exact kt
theorem own_ldI (X : Stand p l e R s m args below meth c T locs cells slots) (hx : p.tables.exec = Jvm.exec) (hZ : Z.Warmed39 s.vm) (eT : T.heap = h) (V : Arv Z h a k .int n vs dv) {j : Int32} {i : Nat} (hj : ¬ j < 0 ∧ j < n) (hi : j.toNatClampNeg = i) {v : Value} (hv : vs.getD i dv = v) {g : JFrame} (hg : g.method = m) {rest : List Value} (hs : g.stack = .int j :: .ref a :: rest) (hd : decode c.code g.pc = .ok (.iaload, 1)) :
    ∀ target, Steps p.tables e below (T.setTop { g with pc := g.pc + 1, stack := v :: rest }) target → Steps p.tables e below (T.setTop g) target := by
  obtain ⟨cl, A, -, S, N, H, -⟩ := V
  subst hi
  intro t kt
  exact X.iaload hx (by rw [eT]; exact A.1) (State.isArrayOf_alike hZ.alike A.2.1) A.2.2 (inb_of S hj) (H.at (inb_of S hj) hv) hg hs hd t kt
theorem own_ldJ (X : Stand p l e R s m args below meth c T locs cells slots) (hx : p.tables.exec = Jvm.exec) (hZ : Z.Warmed39 s.vm) (eT : T.heap = h) (V : Arv Z h a k .long n vs dv) {j : Int32} {i : Nat} (hj : ¬ j < 0 ∧ j < n) (hi : j.toNatClampNeg = i) {v : Value} (hv : vs.getD i dv = v) {g : JFrame} (hg : g.method = m) {rest : List Value} (hs : g.stack = .int j :: .ref a :: rest) (hd : decode c.code g.pc = .ok (.laload, 1)) :
    ∀ target, Steps p.tables e below (T.setTop { g with pc := g.pc + 1, stack := v :: rest }) target → Steps p.tables e below (T.setTop g) target := by
  obtain ⟨cl, A, -, S, N, H, -⟩ := V
  subst hi
  intro t kt
  exact X.laload hx (by rw [eT]; exact A.1) (State.isArrayOf_alike hZ.alike A.2.1) A.2.2 (inb_of S hj) (H.at (inb_of S hj) hv) hg hs hd t kt
theorem own_ldB (X : Stand p l e R s m args below meth c T locs cells slots) (hx : p.tables.exec = Jvm.exec) (hZ : Z.Warmed39 s.vm) (eT : T.heap = h) (V : Arv Z h a k .byte n vs dv) {j : Int32} {i : Nat} (hj : ¬ j < 0 ∧ j < n) (hi : j.toNatClampNeg = i) {v : Value} (hv : vs.getD i dv = v) {g : JFrame} (hg : g.method = m) {rest : List Value} (hs : g.stack = .int j :: .ref a :: rest) (hd : decode c.code g.pc = .ok (.baload, 1)) :
    ∀ target, Steps p.tables e below (T.setTop { g with pc := g.pc + 1, stack := v :: rest }) target → Steps p.tables e below (T.setTop g) target := by
  obtain ⟨cl, A, -, S, N, H, -⟩ := V
  subst hi
  intro t kt
  exact X.baloadBytes hx (by rw [eT]; exact A.1) (State.isArrayOf_alike hZ.alike A.2.1) A.2.2 (inb_of S hj) (H.at (inb_of S hj) hv) hg hs hd t kt
theorem own_stI (X : Stand p l e R s m args below meth c T locs cells slots) (hx : p.tables.exec = Jvm.exec) (hZ : Z.Warmed39 s.vm) (eT : T.heap = h) (V : Arv Z h a k .int n vs dv) {j : Int32} {i : Nat} (hj : ¬ j < 0 ∧ j < n) (hi : j.toNatClampNeg = i) (hlen : i < vs.length) {x : Int32} {w : Value} (hw : w = .int x) {g : JFrame} (hg : g.method = m) {rest : List Value} (hs : g.stack = .int x :: .int j :: .ref a :: rest) (hd : decode c.code g.pc = .ok (.iastore, 1)) :
    ∃ T' h' sl, Stand p l e R s m args below meth c T' (locs ++ [⟨a, sl⟩]) cells slots ∧ T'.heap = h' ∧ Wr h h' a sl w ∧ Arv Z h' a k .int n (vs.set i w) dv ∧ ∀ target, Steps p.tables e below (T'.setTop { g with pc := g.pc + 1, stack := rest }) target → Steps p.tables e below (T.setTop g) target := by
  obtain ⟨cl, A, q1, S, N, H, G⟩ := V
  subst hw
  obtain ⟨T', h', X', e', W', st⟩ := stI X hx hZ eT A (j := j) (inb_of S hj) hg hs hd
  exact ⟨T', h', _, X', e', W', Arv.set A q1 S N H G rfl W' i hi hlen, st⟩
theorem own_stJ (X : Stand p l e R s m args below meth c T locs cells slots) (hx : p.tables.exec = Jvm.exec) (hZ : Z.Warmed39 s.vm) (eT : T.heap = h) (V : Arv Z h a k .long n vs dv) {j : Int32} {i : Nat} (hj : ¬ j < 0 ∧ j < n) (hi : j.toNatClampNeg = i) (hlen : i < vs.length) {x : Int64} {w : Value} (hw : w = .long x) {g : JFrame} (hg : g.method = m) {rest : List Value} (hs : g.stack = .long x :: .int j :: .ref a :: rest) (hd : decode c.code g.pc = .ok (.lastore, 1)) :
    ∃ T' h' sl, Stand p l e R s m args below meth c T' (locs ++ [⟨a, sl⟩]) cells slots ∧ T'.heap = h' ∧ Wr h h' a sl w ∧ Arv Z h' a k .long n (vs.set i w) dv ∧ ∀ target, Steps p.tables e below (T'.setTop { g with pc := g.pc + 1, stack := rest }) target → Steps p.tables e below (T.setTop g) target := by
  obtain ⟨cl, A, q1, S, N, H, G⟩ := V
  subst hw
  obtain ⟨T', h', X', e', W', st⟩ := stJ X hx hZ eT A (j := j) (inb_of S hj) hg hs hd
  exact ⟨T', h', _, X', e', W', Arv.set A q1 S N H G rfl W' i hi hlen, st⟩
end New
end Jvm.RoadKit
namespace Jvm.Pilot.@@N@@
open Jvm Jvm.ClassFile Sem Op Lib Jvm.Free Jvm.Stand Jvm.LawKit Jvm.RoadKit Bundle Jvm.Pilot.@@N@@.Jvm.D
theorem pd_0 : parseMethodDescriptor "()V" = some ⟨[], none⟩ := by decide +kernel
theorem pd_1 : parseMethodDescriptor "(IIZ)I" = some ⟨[.int, .int, .boolean], some .int⟩ := by decide +kernel
theorem pd_2 : parseMethodDescriptor "(IZ)I" = some ⟨[.int, .boolean], some .int⟩ := by decide +kernel
theorem pd_3 : parseMethodDescriptor "(I)[I" = some ⟨[.int], some (.array .int)⟩ := by decide +kernel
theorem pd_4 : parseMethodDescriptor "([IIIII)Z" = some ⟨[(.array .int), .int, .int, .int, .int], some .boolean⟩ := by decide +kernel

def own_code (c f : Int32) : Int32 := if f = 0 then c ^^^ (-1 : Int32) else c
theorem own_five (x n : Int32) (h : (x &&& (2147483647 : Int32)) % (5 : Int32) = n) : n = (0 : Int32) ∨ n = (1 : Int32) ∨ n = (2 : Int32) ∨ n = (3 : Int32) ∨ n = (4 : Int32) := by
  have h1 := (c_and x 2147483647 (by decide)).1
  have h2 := (c_irem (x &&& 2147483647) 5 5 rfl).1 h1
  rw [h] at h2
  simp only [← Int32.toInt_inj, show (0 : Int32).toInt = 0 from rfl, show (1 : Int32).toInt = 1 from rfl, show (2 : Int32).toInt = 2 from rfl, show (3 : Int32).toInt = 3 from rfl, show (4 : Int32).toInt = 4 from rfl]
  omega
theorem d4_0 : decode method_2_code 0 = .ok (.iload_n 1, 1) := by decide +kernel
theorem d4_1 : decode method_2_code 1 = .ok (.ifCond .eq 7, 3) := by decide +kernel
theorem d4_4 : decode method_2_code 4 = .ok (.iload_n 0, 1) := by decide +kernel
theorem d4_5 : decode method_2_code 5 = .ok (.goto 6, 3) := by decide +kernel
theorem d4_8 : decode method_2_code 8 = .ok (.iload_n 0, 1) := by decide +kernel
theorem d4_9 : decode method_2_code 9 = .ok (.iconst (-1), 1) := by decide +kernel
theorem d4_10 : decode method_2_code 10 = .ok (.ixor, 1) := by decide +kernel
theorem d4_11 : decode method_2_code 11 = .ok (.ireturn, 1) := by decide +kernel
theorem pn_4 : plainName "com/example/clearlot/clearlot/search/PartTreeBranchesPinLaw" = true := by first | (simp [plainName, overriddenIn]; done) | decide +kernel
theorem ef_4 (m : MethodId) (x0 : Int32) (x1 : Int32) : entryFrame m #[(.int x0), (.int x1)] 2 = mkF m 0 #[.val (.int x0), .val (.int x1)] [] := by first | (simp [entryFrame, mkF, argsToLocals, Value.category]; done) | rfl
def Q4 (Z : State) (p1 : Int32) (p2 : Int32) (h0 : Heap) (n0 : Nat) (v : Option Value) (h : Heap) (L : List Loc) : Prop := v = some (.int (own_code p1 p2)) ∧ Fr n0 L ∧ h = h0
set_option maxRecDepth 65536 in
set_option maxHeartbeats 40000000 in
theorem rm4 (l : Launch) (Z : State) (a0 : Array Value) (hw : ∀ d ∈ tables_1, d.before a0 Z = true) (ws : List Jvm.Cond) (p1 : Int32) (p2 : Int32) (h0 : Heap) (n0 : Nat) (ZS : n0 ≤ h0.size) :
    MetFree l (⟨"com/example/clearlot/clearlot/search/PartTreeBranchesPinLaw", "code", "(IZ)I"⟩ : MethodName) (head1 (Jvm.Cond.code (⟨"com/example/clearlot/clearlot/search/PartTreeBranchesPinLaw", "code", "(IZ)I"⟩ : MethodName) method_2_code 2 (some .int) :: ws) ({ frames := 0, cells := 0, slots := 0, locals := 0 } : Room)) (fun a U => a = #[(.int p1), (.int p2)] ∧ Z.Warmed39 U.vm ∧ U.heap = h0) (fun _ _ _ _ _ => True) (fun _ U o U' => ∃ v L, o = .returned v ∧ Q4 Z p1 p2 h0 n0 v U'.heap L ∧ FrameEnd U o U' L ({ frames := 0, cells := 0, slots := 0, locals := 0 } : Room).cells ({ frames := 0, cells := 0, slots := 0, locals := 0 } : Room).slots) := by
  refine MetFree.of_bodySF (plainFor_of_name pn_4) hisR ?_
  intro p e s m args below meth c s₁ Bd hml0 hP hK
  obtain ⟨rfl, hZ, hh⟩ := hP
  have hx := Bd.exec
  have hby := Bd.bytes
  have hml : c.maxLocals = 2 := hml0
  have hown : s.vm.findClass "com/example/clearlot/clearlot/search/PartTreeBranchesPinLaw" = some m.cls := findClass_of_methodNamed Bd.named
  have hnm := (name_of_methodNamed Bd.named Bd.method).1
  have hlk : meth.locks = false := Bd.notSynchronized
  have X0 : Stand p l e ({ frames := 0, cells := 0, slots := 0, locals := 0 } : Room) s m #[(.int p1), (.int p2)] below meth c s₁ [] 0 0 := Stand.of_body Bd
  have e0 : s₁.heap = h0 := by rw [← hh, Bd.state]; rfl
  have NF := Fr.nil n0
  have KP : Keep h0 h0 [] := Keep.refl _ _
  refine own_fin (s := s) (Q := Q4 Z p1 p2 h0 n0) (rc := ({ frames := 0, cells := 0, slots := 0, locals := 0 } : Room).cells) (rs := ({ frames := 0, cells := 0, slots := 0, locals := 0 } : Room).slots) ?_
  refine own_go (fun t k => castTop (ef_4 m p1 p2) k) ?_
  show own_R _ _ _ _ (s₁.setTop (mkF m 0 #[.val (.int p1), .val (.int p2)] []))
  refine own_go (fun _ k => XS.iloadN X0.here hx rfl (hb hby d4_0) rfl k) ?_
  show own_R _ _ _ _ (s₁.setTop (mkF m 1 #[.val (.int p1), .val (.int p2)] [(.int p2)]))
  by_cases hc1 : p2 = (0 : Int32)
  · refine own_go (fun _ k => XS.ifYes X0.here hx rfl (pc0 := 1) (pc' := 8) rfl (hb hby d4_1) rfl ((if0 _ _).trans (teq hc1).1) (by decide) (by decide) k) ?_
    show own_R _ _ _ _ (s₁.setTop (mkF m 8 #[.val (.int p1), .val (.int p2)] []))
    refine own_go (fun _ k => XS.iloadN X0.here hx rfl (hb hby d4_8) rfl k) ?_
    show own_R _ _ _ _ (s₁.setTop (mkF m 9 #[.val (.int p1), .val (.int p2)] [(.int p1)]))
    refine own_go (fun _ k => XS.iconst X0.here hx rfl (hb hby d4_9) k) ?_
    show own_R _ _ _ _ (s₁.setTop (mkF m 10 #[.val (.int p1), .val (.int p2)] [(.int (-1 : Int32)), (.int p1)]))
    refine own_go (fun _ k => XS.ixor X0.here hx rfl (hb hby d4_10) rfl k) ?_
    show own_R _ _ _ _ (s₁.setTop (mkF m 11 #[.val (.int p1), .val (.int p2)] [(.int (p1 ^^^ (-1 : Int32)))]))
    exact own_retI X0 hx Bd.returns (hb hby d4_11) hlk ⟨by rw [own_code, if_pos hc1], NF, e0⟩ (by decide) (by decide)
  · refine own_go (fun _ k => XS.ifNo X0.here hx rfl (hb hby d4_1) rfl ((if0 _ _).trans (feq hc1).1) k) ?_
    show own_R _ _ _ _ (s₁.setTop (mkF m 4 #[.val (.int p1), .val (.int p2)] []))
    refine own_go (fun _ k => XS.iloadN X0.here hx rfl (hb hby d4_4) rfl k) ?_
    show own_R _ _ _ _ (s₁.setTop (mkF m 5 #[.val (.int p1), .val (.int p2)] [(.int p1)]))
    refine own_go (fun _ k => XS.goto X0.here hx rfl (pc0 := 5) (pc' := 11) rfl (hb hby d4_5) (by decide) (by decide) k) ?_
    show own_R _ _ _ _ (s₁.setTop (mkF m 11 #[.val (.int p1), .val (.int p2)] [(.int p1)]))
    exact own_retI X0 hx Bd.returns (hb hby d4_11) hlk ⟨by rw [own_code, if_neg hc1], NF, e0⟩ (by decide) (by decide)
theorem d1_0 : decode prog_65_method_1_code 0 = .ok (.aload_n 0, 1) := by decide +kernel
theorem d1_1 : decode prog_65_method_1_code 1 = .ok (.invokespecial 1, 3) := by decide +kernel
theorem d1_4 : decode prog_65_method_1_code 4 = .ok (.aload_n 0, 1) := by decide +kernel
theorem d1_5 : decode prog_65_method_1_code 5 = .ok (.bipush 16, 2) := by decide +kernel
theorem d1_7 : decode prog_65_method_1_code 7 = .ok (.newarray .int, 2) := by decide +kernel
theorem d1_9 : decode prog_65_method_1_code 9 = .ok (.putfield 7, 3) := by decide +kernel
theorem d1_12 : decode prog_65_method_1_code 12 = .ok (.aload_n 0, 1) := by decide +kernel
theorem d1_13 : decode prog_65_method_1_code 13 = .ok (.bipush 16, 2) := by decide +kernel
theorem d1_15 : decode prog_65_method_1_code 15 = .ok (.newarray .long, 2) := by decide +kernel
theorem d1_17 : decode prog_65_method_1_code 17 = .ok (.putfield 13, 3) := by decide +kernel
theorem d1_20 : decode prog_65_method_1_code 20 = .ok (.aload_n 0, 1) := by decide +kernel
theorem d1_21 : decode prog_65_method_1_code 21 = .ok (.bipush 16, 2) := by decide +kernel
theorem d1_23 : decode prog_65_method_1_code 23 = .ok (.anewarray 17, 3) := by decide +kernel
theorem d1_26 : decode prog_65_method_1_code 26 = .ok (.putfield 19, 3) := by decide +kernel
theorem d1_29 : decode prog_65_method_1_code 29 = .ok (.aload_n 0, 1) := by decide +kernel
theorem d1_30 : decode prog_65_method_1_code 30 = .ok (.bipush 16, 2) := by decide +kernel
theorem d1_32 : decode prog_65_method_1_code 32 = .ok (.newarray .int, 2) := by decide +kernel
theorem d1_34 : decode prog_65_method_1_code 34 = .ok (.putfield 23, 3) := by decide +kernel
theorem d1_37 : decode prog_65_method_1_code 37 = .ok (.aload_n 0, 1) := by decide +kernel
theorem d1_38 : decode prog_65_method_1_code 38 = .ok (.bipush 16, 2) := by decide +kernel
theorem d1_40 : decode prog_65_method_1_code 40 = .ok (.newarray .int, 2) := by decide +kernel
theorem d1_42 : decode prog_65_method_1_code 42 = .ok (.putfield 26, 3) := by decide +kernel
theorem d1_45 : decode prog_65_method_1_code 45 = .ok (.return_, 1) := by decide +kernel
theorem pn_1 : plainName "com/example/clearlot/clearlot/search/PartTree" = true := by first | (simp [plainName, overriddenIn]; done) | decide +kernel
theorem ef_1 (m : MethodId) (x0 : Addr) : entryFrame m #[(.ref x0)] 1 = mkF m 0 #[.val (.ref x0)] [] := by first | (simp [entryFrame, mkF, argsToLocals, Value.category]; done) | rfl
def Q1 (Z : State) (a1 : Addr) (w_nodes : Int32) (u_leafNodes : Value) (u_leafBounds : Value) (u_leafStarts : Value) (u_parents : Value) (u_branches : Value) (h0 : Heap) (n0 : Nat) (v : Option Value) (h : Heap) (L : List Loc) : Prop := v = none ∧ Fr n0 L ∧ Keep h0 h [a1] ∧ Fld Z h a1 "com/example/clearlot/clearlot/search/PartTree" "nodes" "I" (.int w_nodes) ∧ ∃ b1 b2 : Addr, Fld Z h a1 "com/example/clearlot/clearlot/search/PartTree" "parents" "[I" (.ref b1) ∧ Fld Z h a1 "com/example/clearlot/clearlot/search/PartTree" "branches" "[I" (.ref b2) ∧ h0.size ≤ b1 ∧ h0.size ≤ b2 ∧ b1 ≠ b2 ∧ ∃ k1 : ClassId, Arv Z h b1 k1 .int (16 : Int32) [(.int (0 : Int32)), (.int (0 : Int32)), (.int (0 : Int32)), (.int (0 : Int32)), (.int (0 : Int32)), (.int (0 : Int32)), (.int (0 : Int32)), (.int (0 : Int32)), (.int (0 : Int32)), (.int (0 : Int32)), (.int (0 : Int32)), (.int (0 : Int32)), (.int (0 : Int32)), (.int (0 : Int32)), (.int (0 : Int32)), (.int (0 : Int32))] (.int (0 : Int32)) ∧ ∃ k2 : ClassId, Arv Z h b2 k2 .int (16 : Int32) [(.int (0 : Int32)), (.int (0 : Int32)), (.int (0 : Int32)), (.int (0 : Int32)), (.int (0 : Int32)), (.int (0 : Int32)), (.int (0 : Int32)), (.int (0 : Int32)), (.int (0 : Int32)), (.int (0 : Int32)), (.int (0 : Int32)), (.int (0 : Int32)), (.int (0 : Int32)), (.int (0 : Int32)), (.int (0 : Int32)), (.int (0 : Int32))] (.int (0 : Int32))
set_option maxRecDepth 65536 in
set_option maxHeartbeats 40000000 in
theorem rm1 (l : Launch) (Z : State) (a0 : Array Value) (hw : ∀ d ∈ tables_1, d.before a0 Z = true) (ws : List Jvm.Cond) (a1 : Addr) (w_nodes : Int32) (u_leafNodes : Value) (u_leafBounds : Value) (u_leafStarts : Value) (u_parents : Value) (u_branches : Value) (h0 : Heap) (n0 : Nat) (ZS : n0 ≤ h0.size) (E_a1 : Exa Z h0 a1 "com/example/clearlot/clearlot/search/PartTree") (F_leafNodes_a1 : Fld Z h0 a1 "com/example/clearlot/clearlot/search/PartTree" "leafNodes" "[I" u_leafNodes) (F_leafBounds_a1 : Fld Z h0 a1 "com/example/clearlot/clearlot/search/PartTree" "leafBounds" "[J" u_leafBounds) (F_leafStarts_a1 : Fld Z h0 a1 "com/example/clearlot/clearlot/search/PartTree" "leafStarts" "[Lcom/example/clearlot/clearlot/relaxation/Basis;" u_leafStarts) (F_parents_a1 : Fld Z h0 a1 "com/example/clearlot/clearlot/search/PartTree" "parents" "[I" u_parents) (F_branches_a1 : Fld Z h0 a1 "com/example/clearlot/clearlot/search/PartTree" "branches" "[I" u_branches) (F_nodes_a1 : Fld Z h0 a1 "com/example/clearlot/clearlot/search/PartTree" "nodes" "I" (.int w_nodes)) (g_a1 : n0 ≤ a1) :
    MetFree l (⟨"com/example/clearlot/clearlot/search/PartTree", "<init>", "()V"⟩ : MethodName) (head1 (Jvm.Cond.code (⟨"com/example/clearlot/clearlot/search/PartTree", "<init>", "()V"⟩ : MethodName) prog_65_method_1_code 1 none :: ws) ({ frames := 1, cells := 5, slots := 80, locals := 12 } : Room)) (fun a U => a = #[(.ref a1)] ∧ Z.Warmed39 U.vm ∧ U.heap = h0) (fun _ _ _ _ _ => True) (fun _ U o U' => ∃ v L, o = .returned v ∧ Q1 Z a1 w_nodes u_leafNodes u_leafBounds u_leafStarts u_parents u_branches h0 n0 v U'.heap L ∧ FrameEnd U o U' L ({ frames := 1, cells := 5, slots := 80, locals := 12 } : Room).cells ({ frames := 1, cells := 5, slots := 80, locals := 12 } : Room).slots) := by
  refine MetFree.of_bodySF (plainFor_of_name pn_1) hisR ?_
  intro p e s m args below meth c s₁ Bd hml0 hP hK
  obtain ⟨rfl, hZ, hh⟩ := hP
  have hx := Bd.exec
  have hby := Bd.bytes
  have hml : c.maxLocals = 1 := hml0
  have hown : s.vm.findClass "com/example/clearlot/clearlot/search/PartTree" = some m.cls := findClass_of_methodNamed Bd.named
  have hnm := (name_of_methodNamed Bd.named Bd.method).1
  have hlk : meth.locks = false := Bd.notSynchronized
  have X0 : Stand p l e ({ frames := 1, cells := 5, slots := 80, locals := 12 } : Room) s m #[(.ref a1)] below meth c s₁ [] 0 0 := Stand.of_body Bd
  have e0 : s₁.heap = h0 := by rw [← hh, Bd.state]; rfl
  have NF := Fr.nil n0
  have KP : Keep h0 h0 [a1] := Keep.refl _ _
  refine own_fin (s := s) (Q := Q1 Z a1 w_nodes u_leafNodes u_leafBounds u_leafStarts u_parents u_branches h0 n0) (rc := ({ frames := 1, cells := 5, slots := 80, locals := 12 } : Room).cells) (rs := ({ frames := 1, cells := 5, slots := 80, locals := 12 } : Room).slots) ?_
  refine own_go (fun t k => castTop (ef_1 m a1) k) ?_
  show own_R _ _ _ _ (s₁.setTop (mkF m 0 #[.val (.ref a1)] []))
  refine own_go (fun _ k => XS.aloadN X0.here hx rfl (hb hby d1_0) rfl rfl k) ?_
  show own_R _ _ _ _ (s₁.setTop (mkF m 1 #[.val (.ref a1)] [(.ref a1)]))
  obtain ⟨T2, X2, e2, st2⟩ := initO X0 hx hZ hown (hw _ (List.mem_of_getElem? (i := 6) rfl)) (hw _ (List.mem_of_getElem? (i := 7) rfl)) (hw _ (List.mem_of_getElem? (i := 8) rfl)) e0 (g := (mkF m 1 #[.val (.ref a1)] [(.ref a1)])) rfl (by rw [hml]; rfl) rfl (hb hby d1_1) (by decide) (W := 0) (by show 2 * 0 + _ ≤ _; exact Nat.le_of_eq rfl) (by decide)
  refine own_go st2 ?_
  show own_R _ _ _ _ (T2.setTop (mkF m 4 #[.val (.ref a1)] []))
  refine own_go (fun _ k => XS.aloadN X2.here hx rfl (hb hby d1_4) rfl rfl k) ?_
  show own_R _ _ _ _ (T2.setTop (mkF m 5 #[.val (.ref a1)] [(.ref a1)]))
  refine own_go (fun _ k => XS.bipush X2.here hx rfl (hb hby d1_5) k) ?_
  show own_R _ _ _ _ (T2.setTop (mkF m 7 #[.val (.ref a1)] [(.int (16 : Int32)), (.ref a1)]))
  obtain ⟨T3, h3, k3, X3, e3, E3, A3, st3⟩ := newP X2 hx hZ (hw _ (List.mem_of_getElem? (i := 9) rfl)) e2 (g := (mkF m 7 #[.val (.ref a1)] [(.int (16 : Int32)), (.ref a1)])) rfl (hb hby d1_7) rfl (by decide) (cap := 16) (by decide) (by decide) (by decide) (by decide)
  obtain ⟨b3, g3⟩ : ∃ z, z = h0.size := ⟨_, rfl⟩
  rw [← g3] at A3 st3
  refine own_go st3 ?_
  have ne_a1_b3 : a1 ≠ b3 := Nat.ne_of_lt (Nat.lt_of_lt_of_le E_a1.lt (Nat.le_of_eq g3.symm))
  have g_b3 : n0 ≤ b3 := Nat.le_trans ZS (Nat.le_of_eq g3.symm)
  have sz_b3 : h0.size ≤ b3 := Nat.le_trans KP.1 (Nat.le_of_eq g3.symm)
  have E_a1 := E_a1.ext E3
  have F_leafNodes_a1 := F_leafNodes_a1.ext E3
  have F_leafBounds_a1 := F_leafBounds_a1.ext E3
  have F_leafStarts_a1 := F_leafStarts_a1.ext E3
  have F_parents_a1 := F_parents_a1.ext E3
  have F_branches_a1 := F_branches_a1.ext E3
  have F_nodes_a1 := F_nodes_a1.ext E3
  have ZS := Nat.le_trans ZS E3.1
  have KP := KP.ext E3
  have V_b3 : Arv Z h3 b3 k3 .int (16 : Int32) [(.int (0 : Int32)), (.int (0 : Int32)), (.int (0 : Int32)), (.int (0 : Int32)), (.int (0 : Int32)), (.int (0 : Int32)), (.int (0 : Int32)), (.int (0 : Int32)), (.int (0 : Int32)), (.int (0 : Int32)), (.int (0 : Int32)), (.int (0 : Int32)), (.int (0 : Int32)), (.int (0 : Int32)), (.int (0 : Int32)), (.int (0 : Int32))] (.int (0 : Int32)) := (Arv.new A3 (by decide)).pad (pad_rep [] (.int (0 : Int32)) 16)
  show own_R _ _ _ _ (T3.setTop (mkF m 9 #[.val (.ref a1)] [(.ref b3), (.ref a1)]))
  obtain ⟨T4, h4, X4, e4, W4, st4⟩ := putF X3 hx hZ hown (host := "") (Or.inl (hw _ (List.mem_of_getElem? (i := 10) rfl))) Via.refl e3 F_leafNodes_a1 E_a1 (Or.inl (hw _ (List.mem_of_getElem? (i := 11) rfl))) (hw _ (List.mem_of_getElem? (i := 1) rfl)) (ty := (.array .int)) (by decide) rfl rfl (g := (mkF m 9 #[.val (.ref a1)] [(.ref b3), (.ref a1)])) rfl rfl (hb hby d1_9)
  refine own_go st4 ?_
  have E_a1 := E_a1.wr W4
  have F_leafNodes_a1 := F_leafNodes_a1.same W4
  have F_leafBounds_a1 := F_leafBounds_a1.other W4 (Or.inr (slot_ne (Or.inl (hw _ (List.mem_of_getElem? (i := 14) rfl))) (Or.inl (hw _ (List.mem_of_getElem? (i := 11) rfl))) (by decide) (t := (.array .long)) (t' := (.array .int)) (by decide) (by decide)))
  have F_leafStarts_a1 := F_leafStarts_a1.other W4 (Or.inr (slot_ne (Or.inl (hw _ (List.mem_of_getElem? (i := 18) rfl))) (Or.inl (hw _ (List.mem_of_getElem? (i := 11) rfl))) (by decide) (t := (.array (.object "com/example/clearlot/clearlot/relaxation/Basis"))) (t' := (.array .int)) (by decide) (by decide)))
  have F_parents_a1 := F_parents_a1.other W4 (Or.inr (slot_ne (Or.inl (hw _ (List.mem_of_getElem? (i := 20) rfl))) (Or.inl (hw _ (List.mem_of_getElem? (i := 11) rfl))) (by decide) (t := (.array .int)) (t' := (.array .int)) (by decide) (by decide)))
  have F_branches_a1 := F_branches_a1.other W4 (Or.inr (slot_ne (Or.inl (hw _ (List.mem_of_getElem? (i := 22) rfl))) (Or.inl (hw _ (List.mem_of_getElem? (i := 11) rfl))) (by decide) (t := (.array .int)) (t' := (.array .int)) (by decide) (by decide)))
  have F_nodes_a1 := F_nodes_a1.other W4 (Or.inr (slot_ne (Or.inl (hw _ (List.mem_of_getElem? (i := 29) rfl))) (Or.inl (hw _ (List.mem_of_getElem? (i := 11) rfl))) (by decide) (t := .int) (t' := (.array .int)) (by decide) (by decide)))
  have V_b3 := V_b3.other W4 (Ne.symm ne_a1_b3)
  have ZS := Nat.le_trans ZS (Keep.of_wr W4).1
  have KP := KP.wr W4 (Or.inl (List.mem_of_getElem? (i := 0) rfl))
  have NF := Fr.snoc X4 NF g_a1
  show own_R _ _ _ _ (T4.setTop (mkF m 12 #[.val (.ref a1)] []))
  refine own_go (fun _ k => XS.aloadN X4.here hx rfl (hb hby d1_12) rfl rfl k) ?_
  show own_R _ _ _ _ (T4.setTop (mkF m 13 #[.val (.ref a1)] [(.ref a1)]))
  refine own_go (fun _ k => XS.bipush X4.here hx rfl (hb hby d1_13) k) ?_
  show own_R _ _ _ _ (T4.setTop (mkF m 15 #[.val (.ref a1)] [(.int (16 : Int32)), (.ref a1)]))
  obtain ⟨T5, h5, k5, X5, e5, E5, A5, st5⟩ := newP X4 hx hZ (hw _ (List.mem_of_getElem? (i := 12) rfl)) e4 (g := (mkF m 15 #[.val (.ref a1)] [(.int (16 : Int32)), (.ref a1)])) rfl (hb hby d1_15) rfl (by decide) (cap := 16) (by decide) (by decide) (by decide) (by decide)
  obtain ⟨b5, g5⟩ : ∃ z, z = h4.size := ⟨_, rfl⟩
  rw [← g5] at A5 st5
  refine own_go st5 ?_
  have ne_a1_b5 : a1 ≠ b5 := Nat.ne_of_lt (Nat.lt_of_lt_of_le E_a1.lt (Nat.le_of_eq g5.symm))
  have ne_b3_b5 : b3 ≠ b5 := Nat.ne_of_lt (Nat.lt_of_lt_of_le V_b3.lt (Nat.le_of_eq g5.symm))
  have g_b5 : n0 ≤ b5 := Nat.le_trans ZS (Nat.le_of_eq g5.symm)
  have sz_b5 : h0.size ≤ b5 := Nat.le_trans KP.1 (Nat.le_of_eq g5.symm)
  have E_a1 := E_a1.ext E5
  have F_leafNodes_a1 := F_leafNodes_a1.ext E5
  have F_leafBounds_a1 := F_leafBounds_a1.ext E5
  have F_leafStarts_a1 := F_leafStarts_a1.ext E5
  have F_parents_a1 := F_parents_a1.ext E5
  have F_branches_a1 := F_branches_a1.ext E5
  have F_nodes_a1 := F_nodes_a1.ext E5
  have V_b3 := V_b3.ext E5
  have ZS := Nat.le_trans ZS E5.1
  have KP := KP.ext E5
  have V_b5 : Arv Z h5 b5 k5 .long (16 : Int32) [(.long (0 : Int64)), (.long (0 : Int64)), (.long (0 : Int64)), (.long (0 : Int64)), (.long (0 : Int64)), (.long (0 : Int64)), (.long (0 : Int64)), (.long (0 : Int64)), (.long (0 : Int64)), (.long (0 : Int64)), (.long (0 : Int64)), (.long (0 : Int64)), (.long (0 : Int64)), (.long (0 : Int64)), (.long (0 : Int64)), (.long (0 : Int64))] (.long (0 : Int64)) := (Arv.new A5 (by decide)).pad (pad_rep [] (.long (0 : Int64)) 16)
  show own_R _ _ _ _ (T5.setTop (mkF m 17 #[.val (.ref a1)] [(.ref b5), (.ref a1)]))
  obtain ⟨T6, h6, X6, e6, W6, st6⟩ := putF X5 hx hZ hown (host := "") (Or.inl (hw _ (List.mem_of_getElem? (i := 13) rfl))) Via.refl e5 F_leafBounds_a1 E_a1 (Or.inl (hw _ (List.mem_of_getElem? (i := 14) rfl))) (hw _ (List.mem_of_getElem? (i := 1) rfl)) (ty := (.array .long)) (by decide) rfl rfl (g := (mkF m 17 #[.val (.ref a1)] [(.ref b5), (.ref a1)])) rfl rfl (hb hby d1_17)
  refine own_go st6 ?_
  have E_a1 := E_a1.wr W6
  have F_leafNodes_a1 := F_leafNodes_a1.other W6 (Or.inr (slot_ne (Or.inl (hw _ (List.mem_of_getElem? (i := 11) rfl))) (Or.inl (hw _ (List.mem_of_getElem? (i := 14) rfl))) (by decide) (t := (.array .int)) (t' := (.array .long)) (by decide) (by decide)))
  have F_leafBounds_a1 := F_leafBounds_a1.same W6
  have F_leafStarts_a1 := F_leafStarts_a1.other W6 (Or.inr (slot_ne (Or.inl (hw _ (List.mem_of_getElem? (i := 18) rfl))) (Or.inl (hw _ (List.mem_of_getElem? (i := 14) rfl))) (by decide) (t := (.array (.object "com/example/clearlot/clearlot/relaxation/Basis"))) (t' := (.array .long)) (by decide) (by decide)))
  have F_parents_a1 := F_parents_a1.other W6 (Or.inr (slot_ne (Or.inl (hw _ (List.mem_of_getElem? (i := 20) rfl))) (Or.inl (hw _ (List.mem_of_getElem? (i := 14) rfl))) (by decide) (t := (.array .int)) (t' := (.array .long)) (by decide) (by decide)))
  have F_branches_a1 := F_branches_a1.other W6 (Or.inr (slot_ne (Or.inl (hw _ (List.mem_of_getElem? (i := 22) rfl))) (Or.inl (hw _ (List.mem_of_getElem? (i := 14) rfl))) (by decide) (t := (.array .int)) (t' := (.array .long)) (by decide) (by decide)))
  have F_nodes_a1 := F_nodes_a1.other W6 (Or.inr (slot_ne (Or.inl (hw _ (List.mem_of_getElem? (i := 29) rfl))) (Or.inl (hw _ (List.mem_of_getElem? (i := 14) rfl))) (by decide) (t := .int) (t' := (.array .long)) (by decide) (by decide)))
  have V_b3 := V_b3.other W6 (Ne.symm ne_a1_b3)
  have V_b5 := V_b5.other W6 (Ne.symm ne_a1_b5)
  have ZS := Nat.le_trans ZS (Keep.of_wr W6).1
  have KP := KP.wr W6 (Or.inl (List.mem_of_getElem? (i := 0) rfl))
  have NF := Fr.snoc X6 NF g_a1
  show own_R _ _ _ _ (T6.setTop (mkF m 20 #[.val (.ref a1)] []))
  refine own_go (fun _ k => XS.aloadN X6.here hx rfl (hb hby d1_20) rfl rfl k) ?_
  show own_R _ _ _ _ (T6.setTop (mkF m 21 #[.val (.ref a1)] [(.ref a1)]))
  refine own_go (fun _ k => XS.bipush X6.here hx rfl (hb hby d1_21) k) ?_
  show own_R _ _ _ _ (T6.setTop (mkF m 23 #[.val (.ref a1)] [(.int (16 : Int32)), (.ref a1)]))
  obtain ⟨T7, h7, k7, X7, e7, E7, A7, O7, st7⟩ := newR X6 hx hZ hown (hw _ (List.mem_of_getElem? (i := 15) rfl)) (hw _ (List.mem_of_getElem? (i := 16) rfl)) e6 (g := (mkF m 23 #[.val (.ref a1)] [(.int (16 : Int32)), (.ref a1)])) rfl (hb hby d1_23) rfl (by decide) (cap := 16) (by decide) (by decide) (by decide) (by decide)
  obtain ⟨b7, g7⟩ : ∃ z, z = h6.size := ⟨_, rfl⟩
  rw [← g7] at A7 st7
  refine own_go st7 ?_
  have ne_a1_b7 : a1 ≠ b7 := Nat.ne_of_lt (Nat.lt_of_lt_of_le E_a1.lt (Nat.le_of_eq g7.symm))
  have ne_b3_b7 : b3 ≠ b7 := Nat.ne_of_lt (Nat.lt_of_lt_of_le V_b3.lt (Nat.le_of_eq g7.symm))
  have ne_b5_b7 : b5 ≠ b7 := Nat.ne_of_lt (Nat.lt_of_lt_of_le V_b5.lt (Nat.le_of_eq g7.symm))
  have g_b7 : n0 ≤ b7 := Nat.le_trans ZS (Nat.le_of_eq g7.symm)
  have sz_b7 : h0.size ≤ b7 := Nat.le_trans KP.1 (Nat.le_of_eq g7.symm)
  have E_a1 := E_a1.ext E7
  have F_leafNodes_a1 := F_leafNodes_a1.ext E7
  have F_leafBounds_a1 := F_leafBounds_a1.ext E7
  have F_leafStarts_a1 := F_leafStarts_a1.ext E7
  have F_parents_a1 := F_parents_a1.ext E7
  have F_branches_a1 := F_branches_a1.ext E7
  have F_nodes_a1 := F_nodes_a1.ext E7
  have V_b3 := V_b3.ext E7
  have V_b5 := V_b5.ext E7
  have ZS := Nat.le_trans ZS E7.1
  have KP := KP.ext E7
  have V_b7 := Arv.new A7 (by decide)
  show own_R _ _ _ _ (T7.setTop (mkF m 26 #[.val (.ref a1)] [(.ref b7), (.ref a1)]))
  obtain ⟨T8, h8, X8, e8, W8, st8⟩ := putF X7 hx hZ hown (host := "") (Or.inl (hw _ (List.mem_of_getElem? (i := 17) rfl))) Via.refl e7 F_leafStarts_a1 E_a1 (Or.inl (hw _ (List.mem_of_getElem? (i := 18) rfl))) (hw _ (List.mem_of_getElem? (i := 1) rfl)) (ty := (.array (.object "com/example/clearlot/clearlot/relaxation/Basis"))) (by decide) rfl rfl (g := (mkF m 26 #[.val (.ref a1)] [(.ref b7), (.ref a1)])) rfl rfl (hb hby d1_26)
  refine own_go st8 ?_
  have E_a1 := E_a1.wr W8
  have F_leafNodes_a1 := F_leafNodes_a1.other W8 (Or.inr (slot_ne (Or.inl (hw _ (List.mem_of_getElem? (i := 11) rfl))) (Or.inl (hw _ (List.mem_of_getElem? (i := 18) rfl))) (by decide) (t := (.array .int)) (t' := (.array (.object "com/example/clearlot/clearlot/relaxation/Basis"))) (by decide) (by decide)))
  have F_leafBounds_a1 := F_leafBounds_a1.other W8 (Or.inr (slot_ne (Or.inl (hw _ (List.mem_of_getElem? (i := 14) rfl))) (Or.inl (hw _ (List.mem_of_getElem? (i := 18) rfl))) (by decide) (t := (.array .long)) (t' := (.array (.object "com/example/clearlot/clearlot/relaxation/Basis"))) (by decide) (by decide)))
  have F_leafStarts_a1 := F_leafStarts_a1.same W8
  have F_parents_a1 := F_parents_a1.other W8 (Or.inr (slot_ne (Or.inl (hw _ (List.mem_of_getElem? (i := 20) rfl))) (Or.inl (hw _ (List.mem_of_getElem? (i := 18) rfl))) (by decide) (t := (.array .int)) (t' := (.array (.object "com/example/clearlot/clearlot/relaxation/Basis"))) (by decide) (by decide)))
  have F_branches_a1 := F_branches_a1.other W8 (Or.inr (slot_ne (Or.inl (hw _ (List.mem_of_getElem? (i := 22) rfl))) (Or.inl (hw _ (List.mem_of_getElem? (i := 18) rfl))) (by decide) (t := (.array .int)) (t' := (.array (.object "com/example/clearlot/clearlot/relaxation/Basis"))) (by decide) (by decide)))
  have F_nodes_a1 := F_nodes_a1.other W8 (Or.inr (slot_ne (Or.inl (hw _ (List.mem_of_getElem? (i := 29) rfl))) (Or.inl (hw _ (List.mem_of_getElem? (i := 18) rfl))) (by decide) (t := .int) (t' := (.array (.object "com/example/clearlot/clearlot/relaxation/Basis"))) (by decide) (by decide)))
  have V_b3 := V_b3.other W8 (Ne.symm ne_a1_b3)
  have V_b5 := V_b5.other W8 (Ne.symm ne_a1_b5)
  have V_b7 := V_b7.other W8 (Ne.symm ne_a1_b7)
  have ZS := Nat.le_trans ZS (Keep.of_wr W8).1
  have KP := KP.wr W8 (Or.inl (List.mem_of_getElem? (i := 0) rfl))
  have NF := Fr.snoc X8 NF g_a1
  show own_R _ _ _ _ (T8.setTop (mkF m 29 #[.val (.ref a1)] []))
  refine own_go (fun _ k => XS.aloadN X8.here hx rfl (hb hby d1_29) rfl rfl k) ?_
  show own_R _ _ _ _ (T8.setTop (mkF m 30 #[.val (.ref a1)] [(.ref a1)]))
  refine own_go (fun _ k => XS.bipush X8.here hx rfl (hb hby d1_30) k) ?_
  show own_R _ _ _ _ (T8.setTop (mkF m 32 #[.val (.ref a1)] [(.int (16 : Int32)), (.ref a1)]))
  obtain ⟨T9, h9, k9, X9, e9, E9, A9, st9⟩ := newP X8 hx hZ (hw _ (List.mem_of_getElem? (i := 9) rfl)) e8 (g := (mkF m 32 #[.val (.ref a1)] [(.int (16 : Int32)), (.ref a1)])) rfl (hb hby d1_32) rfl (by decide) (cap := 16) (by decide) (by decide) (by decide) (by decide)
  obtain ⟨b9, g9⟩ : ∃ z, z = h8.size := ⟨_, rfl⟩
  rw [← g9] at A9 st9
  refine own_go st9 ?_
  have ne_a1_b9 : a1 ≠ b9 := Nat.ne_of_lt (Nat.lt_of_lt_of_le E_a1.lt (Nat.le_of_eq g9.symm))
  have ne_b3_b9 : b3 ≠ b9 := Nat.ne_of_lt (Nat.lt_of_lt_of_le V_b3.lt (Nat.le_of_eq g9.symm))
  have ne_b5_b9 : b5 ≠ b9 := Nat.ne_of_lt (Nat.lt_of_lt_of_le V_b5.lt (Nat.le_of_eq g9.symm))
  have ne_b7_b9 : b7 ≠ b9 := Nat.ne_of_lt (Nat.lt_of_lt_of_le V_b7.lt (Nat.le_of_eq g9.symm))
  have g_b9 : n0 ≤ b9 := Nat.le_trans ZS (Nat.le_of_eq g9.symm)
  have sz_b9 : h0.size ≤ b9 := Nat.le_trans KP.1 (Nat.le_of_eq g9.symm)
  have E_a1 := E_a1.ext E9
  have F_leafNodes_a1 := F_leafNodes_a1.ext E9
  have F_leafBounds_a1 := F_leafBounds_a1.ext E9
  have F_leafStarts_a1 := F_leafStarts_a1.ext E9
  have F_parents_a1 := F_parents_a1.ext E9
  have F_branches_a1 := F_branches_a1.ext E9
  have F_nodes_a1 := F_nodes_a1.ext E9
  have V_b3 := V_b3.ext E9
  have V_b5 := V_b5.ext E9
  have V_b7 := V_b7.ext E9
  have ZS := Nat.le_trans ZS E9.1
  have KP := KP.ext E9
  have V_b9 : Arv Z h9 b9 k9 .int (16 : Int32) [(.int (0 : Int32)), (.int (0 : Int32)), (.int (0 : Int32)), (.int (0 : Int32)), (.int (0 : Int32)), (.int (0 : Int32)), (.int (0 : Int32)), (.int (0 : Int32)), (.int (0 : Int32)), (.int (0 : Int32)), (.int (0 : Int32)), (.int (0 : Int32)), (.int (0 : Int32)), (.int (0 : Int32)), (.int (0 : Int32)), (.int (0 : Int32))] (.int (0 : Int32)) := (Arv.new A9 (by decide)).pad (pad_rep [] (.int (0 : Int32)) 16)
  show own_R _ _ _ _ (T9.setTop (mkF m 34 #[.val (.ref a1)] [(.ref b9), (.ref a1)]))
  obtain ⟨T10, h10, X10, e10, W10, st10⟩ := putF X9 hx hZ hown (host := "") (Or.inl (hw _ (List.mem_of_getElem? (i := 19) rfl))) Via.refl e9 F_parents_a1 E_a1 (Or.inl (hw _ (List.mem_of_getElem? (i := 20) rfl))) (hw _ (List.mem_of_getElem? (i := 1) rfl)) (ty := (.array .int)) (by decide) rfl rfl (g := (mkF m 34 #[.val (.ref a1)] [(.ref b9), (.ref a1)])) rfl rfl (hb hby d1_34)
  refine own_go st10 ?_
  have E_a1 := E_a1.wr W10
  have F_leafNodes_a1 := F_leafNodes_a1.other W10 (Or.inr (slot_ne (Or.inl (hw _ (List.mem_of_getElem? (i := 11) rfl))) (Or.inl (hw _ (List.mem_of_getElem? (i := 20) rfl))) (by decide) (t := (.array .int)) (t' := (.array .int)) (by decide) (by decide)))
  have F_leafBounds_a1 := F_leafBounds_a1.other W10 (Or.inr (slot_ne (Or.inl (hw _ (List.mem_of_getElem? (i := 14) rfl))) (Or.inl (hw _ (List.mem_of_getElem? (i := 20) rfl))) (by decide) (t := (.array .long)) (t' := (.array .int)) (by decide) (by decide)))
  have F_leafStarts_a1 := F_leafStarts_a1.other W10 (Or.inr (slot_ne (Or.inl (hw _ (List.mem_of_getElem? (i := 18) rfl))) (Or.inl (hw _ (List.mem_of_getElem? (i := 20) rfl))) (by decide) (t := (.array (.object "com/example/clearlot/clearlot/relaxation/Basis"))) (t' := (.array .int)) (by decide) (by decide)))
  have F_parents_a1 := F_parents_a1.same W10
  have F_branches_a1 := F_branches_a1.other W10 (Or.inr (slot_ne (Or.inl (hw _ (List.mem_of_getElem? (i := 22) rfl))) (Or.inl (hw _ (List.mem_of_getElem? (i := 20) rfl))) (by decide) (t := (.array .int)) (t' := (.array .int)) (by decide) (by decide)))
  have F_nodes_a1 := F_nodes_a1.other W10 (Or.inr (slot_ne (Or.inl (hw _ (List.mem_of_getElem? (i := 29) rfl))) (Or.inl (hw _ (List.mem_of_getElem? (i := 20) rfl))) (by decide) (t := .int) (t' := (.array .int)) (by decide) (by decide)))
  have V_b3 := V_b3.other W10 (Ne.symm ne_a1_b3)
  have V_b5 := V_b5.other W10 (Ne.symm ne_a1_b5)
  have V_b7 := V_b7.other W10 (Ne.symm ne_a1_b7)
  have V_b9 := V_b9.other W10 (Ne.symm ne_a1_b9)
  have ZS := Nat.le_trans ZS (Keep.of_wr W10).1
  have KP := KP.wr W10 (Or.inl (List.mem_of_getElem? (i := 0) rfl))
  have NF := Fr.snoc X10 NF g_a1
  show own_R _ _ _ _ (T10.setTop (mkF m 37 #[.val (.ref a1)] []))
  refine own_go (fun _ k => XS.aloadN X10.here hx rfl (hb hby d1_37) rfl rfl k) ?_
  show own_R _ _ _ _ (T10.setTop (mkF m 38 #[.val (.ref a1)] [(.ref a1)]))
  refine own_go (fun _ k => XS.bipush X10.here hx rfl (hb hby d1_38) k) ?_
  show own_R _ _ _ _ (T10.setTop (mkF m 40 #[.val (.ref a1)] [(.int (16 : Int32)), (.ref a1)]))
  obtain ⟨T11, h11, k11, X11, e11, E11, A11, st11⟩ := newP X10 hx hZ (hw _ (List.mem_of_getElem? (i := 9) rfl)) e10 (g := (mkF m 40 #[.val (.ref a1)] [(.int (16 : Int32)), (.ref a1)])) rfl (hb hby d1_40) rfl (by decide) (cap := 16) (by decide) (by decide) (by decide) (by decide)
  obtain ⟨b11, g11⟩ : ∃ z, z = h10.size := ⟨_, rfl⟩
  rw [← g11] at A11 st11
  refine own_go st11 ?_
  have ne_a1_b11 : a1 ≠ b11 := Nat.ne_of_lt (Nat.lt_of_lt_of_le E_a1.lt (Nat.le_of_eq g11.symm))
  have ne_b3_b11 : b3 ≠ b11 := Nat.ne_of_lt (Nat.lt_of_lt_of_le V_b3.lt (Nat.le_of_eq g11.symm))
  have ne_b5_b11 : b5 ≠ b11 := Nat.ne_of_lt (Nat.lt_of_lt_of_le V_b5.lt (Nat.le_of_eq g11.symm))
  have ne_b7_b11 : b7 ≠ b11 := Nat.ne_of_lt (Nat.lt_of_lt_of_le V_b7.lt (Nat.le_of_eq g11.symm))
  have ne_b9_b11 : b9 ≠ b11 := Nat.ne_of_lt (Nat.lt_of_lt_of_le V_b9.lt (Nat.le_of_eq g11.symm))
  have g_b11 : n0 ≤ b11 := Nat.le_trans ZS (Nat.le_of_eq g11.symm)
  have sz_b11 : h0.size ≤ b11 := Nat.le_trans KP.1 (Nat.le_of_eq g11.symm)
  have E_a1 := E_a1.ext E11
  have F_leafNodes_a1 := F_leafNodes_a1.ext E11
  have F_leafBounds_a1 := F_leafBounds_a1.ext E11
  have F_leafStarts_a1 := F_leafStarts_a1.ext E11
  have F_parents_a1 := F_parents_a1.ext E11
  have F_branches_a1 := F_branches_a1.ext E11
  have F_nodes_a1 := F_nodes_a1.ext E11
  have V_b3 := V_b3.ext E11
  have V_b5 := V_b5.ext E11
  have V_b7 := V_b7.ext E11
  have V_b9 := V_b9.ext E11
  have ZS := Nat.le_trans ZS E11.1
  have KP := KP.ext E11
  have V_b11 : Arv Z h11 b11 k11 .int (16 : Int32) [(.int (0 : Int32)), (.int (0 : Int32)), (.int (0 : Int32)), (.int (0 : Int32)), (.int (0 : Int32)), (.int (0 : Int32)), (.int (0 : Int32)), (.int (0 : Int32)), (.int (0 : Int32)), (.int (0 : Int32)), (.int (0 : Int32)), (.int (0 : Int32)), (.int (0 : Int32)), (.int (0 : Int32)), (.int (0 : Int32)), (.int (0 : Int32))] (.int (0 : Int32)) := (Arv.new A11 (by decide)).pad (pad_rep [] (.int (0 : Int32)) 16)
  show own_R _ _ _ _ (T11.setTop (mkF m 42 #[.val (.ref a1)] [(.ref b11), (.ref a1)]))
  obtain ⟨T12, h12, X12, e12, W12, st12⟩ := putF X11 hx hZ hown (host := "") (Or.inl (hw _ (List.mem_of_getElem? (i := 21) rfl))) Via.refl e11 F_branches_a1 E_a1 (Or.inl (hw _ (List.mem_of_getElem? (i := 22) rfl))) (hw _ (List.mem_of_getElem? (i := 1) rfl)) (ty := (.array .int)) (by decide) rfl rfl (g := (mkF m 42 #[.val (.ref a1)] [(.ref b11), (.ref a1)])) rfl rfl (hb hby d1_42)
  refine own_go st12 ?_
  have E_a1 := E_a1.wr W12
  have F_leafNodes_a1 := F_leafNodes_a1.other W12 (Or.inr (slot_ne (Or.inl (hw _ (List.mem_of_getElem? (i := 11) rfl))) (Or.inl (hw _ (List.mem_of_getElem? (i := 22) rfl))) (by decide) (t := (.array .int)) (t' := (.array .int)) (by decide) (by decide)))
  have F_leafBounds_a1 := F_leafBounds_a1.other W12 (Or.inr (slot_ne (Or.inl (hw _ (List.mem_of_getElem? (i := 14) rfl))) (Or.inl (hw _ (List.mem_of_getElem? (i := 22) rfl))) (by decide) (t := (.array .long)) (t' := (.array .int)) (by decide) (by decide)))
  have F_leafStarts_a1 := F_leafStarts_a1.other W12 (Or.inr (slot_ne (Or.inl (hw _ (List.mem_of_getElem? (i := 18) rfl))) (Or.inl (hw _ (List.mem_of_getElem? (i := 22) rfl))) (by decide) (t := (.array (.object "com/example/clearlot/clearlot/relaxation/Basis"))) (t' := (.array .int)) (by decide) (by decide)))
  have F_parents_a1 := F_parents_a1.other W12 (Or.inr (slot_ne (Or.inl (hw _ (List.mem_of_getElem? (i := 20) rfl))) (Or.inl (hw _ (List.mem_of_getElem? (i := 22) rfl))) (by decide) (t := (.array .int)) (t' := (.array .int)) (by decide) (by decide)))
  have F_branches_a1 := F_branches_a1.same W12
  have F_nodes_a1 := F_nodes_a1.other W12 (Or.inr (slot_ne (Or.inl (hw _ (List.mem_of_getElem? (i := 29) rfl))) (Or.inl (hw _ (List.mem_of_getElem? (i := 22) rfl))) (by decide) (t := .int) (t' := (.array .int)) (by decide) (by decide)))
  have V_b3 := V_b3.other W12 (Ne.symm ne_a1_b3)
  have V_b5 := V_b5.other W12 (Ne.symm ne_a1_b5)
  have V_b7 := V_b7.other W12 (Ne.symm ne_a1_b7)
  have V_b9 := V_b9.other W12 (Ne.symm ne_a1_b9)
  have V_b11 := V_b11.other W12 (Ne.symm ne_a1_b11)
  have ZS := Nat.le_trans ZS (Keep.of_wr W12).1
  have KP := KP.wr W12 (Or.inl (List.mem_of_getElem? (i := 0) rfl))
  have NF := Fr.snoc X12 NF g_a1
  show own_R _ _ _ _ (T12.setTop (mkF m 45 #[.val (.ref a1)] []))
  exact own_ret0 X12 hx Bd.returns (hb hby d1_45) hlk (by rw [e12]; exact ⟨rfl, NF, KP, F_nodes_a1, _, _, F_parents_a1, F_branches_a1, sz_b9, sz_b11, ne_b9_b11, _, V_b9, _, V_b11⟩) (by decide) (by decide)
theorem d3_0 : decode prog_65_method_3_code 0 = .ok (.aload_n 0, 1) := by decide +kernel
theorem d3_1 : decode prog_65_method_3_code 1 = .ok (.getfield 29, 3) := by decide +kernel
theorem d3_4 : decode prog_65_method_3_code 4 = .ok (.aload_n 0, 1) := by decide +kernel
theorem d3_5 : decode prog_65_method_3_code 5 = .ok (.getfield 23, 3) := by decide +kernel
theorem d3_8 : decode prog_65_method_3_code 8 = .ok (.arraylength, 1) := by decide +kernel
theorem d3_9 : decode prog_65_method_3_code 9 = .ok (.if_icmp .ne 37, 3) := by decide +kernel
theorem d3_12 : decode prog_65_method_3_code 12 = .ok (.aload_n 0, 1) := by decide +kernel
theorem d3_13 : decode prog_65_method_3_code 13 = .ok (.aload_n 0, 1) := by decide +kernel
theorem d3_14 : decode prog_65_method_3_code 14 = .ok (.getfield 23, 3) := by decide +kernel
theorem d3_17 : decode prog_65_method_3_code 17 = .ok (.iconst 2, 1) := by decide +kernel
theorem d3_18 : decode prog_65_method_3_code 18 = .ok (.aload_n 0, 1) := by decide +kernel
theorem d3_19 : decode prog_65_method_3_code 19 = .ok (.getfield 29, 3) := by decide +kernel
theorem d3_22 : decode prog_65_method_3_code 22 = .ok (.imul, 1) := by decide +kernel
theorem d3_23 : decode prog_65_method_3_code 23 = .ok (.invokestatic 39, 3) := by decide +kernel
theorem d3_26 : decode prog_65_method_3_code 26 = .ok (.putfield 23, 3) := by decide +kernel
theorem d3_29 : decode prog_65_method_3_code 29 = .ok (.aload_n 0, 1) := by decide +kernel
theorem d3_30 : decode prog_65_method_3_code 30 = .ok (.aload_n 0, 1) := by decide +kernel
theorem d3_31 : decode prog_65_method_3_code 31 = .ok (.getfield 26, 3) := by decide +kernel
theorem d3_34 : decode prog_65_method_3_code 34 = .ok (.iconst 2, 1) := by decide +kernel
theorem d3_35 : decode prog_65_method_3_code 35 = .ok (.aload_n 0, 1) := by decide +kernel
theorem d3_36 : decode prog_65_method_3_code 36 = .ok (.getfield 29, 3) := by decide +kernel
theorem d3_39 : decode prog_65_method_3_code 39 = .ok (.imul, 1) := by decide +kernel
theorem d3_40 : decode prog_65_method_3_code 40 = .ok (.invokestatic 39, 3) := by decide +kernel
theorem d3_43 : decode prog_65_method_3_code 43 = .ok (.putfield 26, 3) := by decide +kernel
theorem d3_46 : decode prog_65_method_3_code 46 = .ok (.aload_n 0, 1) := by decide +kernel
theorem d3_47 : decode prog_65_method_3_code 47 = .ok (.getfield 23, 3) := by decide +kernel
theorem d3_50 : decode prog_65_method_3_code 50 = .ok (.aload_n 0, 1) := by decide +kernel
theorem d3_51 : decode prog_65_method_3_code 51 = .ok (.getfield 29, 3) := by decide +kernel
theorem d3_54 : decode prog_65_method_3_code 54 = .ok (.iload_n 1, 1) := by decide +kernel
theorem d3_55 : decode prog_65_method_3_code 55 = .ok (.iastore, 1) := by decide +kernel
theorem d3_56 : decode prog_65_method_3_code 56 = .ok (.aload_n 0, 1) := by decide +kernel
theorem d3_57 : decode prog_65_method_3_code 57 = .ok (.getfield 26, 3) := by decide +kernel
theorem d3_60 : decode prog_65_method_3_code 60 = .ok (.aload_n 0, 1) := by decide +kernel
theorem d3_61 : decode prog_65_method_3_code 61 = .ok (.getfield 29, 3) := by decide +kernel
theorem d3_64 : decode prog_65_method_3_code 64 = .ok (.iload_n 3, 1) := by decide +kernel
theorem d3_65 : decode prog_65_method_3_code 65 = .ok (.ifCond .eq 7, 3) := by decide +kernel
theorem d3_68 : decode prog_65_method_3_code 68 = .ok (.iload_n 2, 1) := by decide +kernel
theorem d3_69 : decode prog_65_method_3_code 69 = .ok (.goto 6, 3) := by decide +kernel
theorem d3_72 : decode prog_65_method_3_code 72 = .ok (.iload_n 2, 1) := by decide +kernel
theorem d3_73 : decode prog_65_method_3_code 73 = .ok (.iconst (-1), 1) := by decide +kernel
theorem d3_74 : decode prog_65_method_3_code 74 = .ok (.ixor, 1) := by decide +kernel
theorem d3_75 : decode prog_65_method_3_code 75 = .ok (.iastore, 1) := by decide +kernel
theorem d3_76 : decode prog_65_method_3_code 76 = .ok (.aload_n 0, 1) := by decide +kernel
theorem d3_77 : decode prog_65_method_3_code 77 = .ok (.dup, 1) := by decide +kernel
theorem d3_78 : decode prog_65_method_3_code 78 = .ok (.getfield 29, 3) := by decide +kernel
theorem d3_81 : decode prog_65_method_3_code 81 = .ok (.dup_x1, 1) := by decide +kernel
theorem d3_82 : decode prog_65_method_3_code 82 = .ok (.iconst 1, 1) := by decide +kernel
theorem d3_83 : decode prog_65_method_3_code 83 = .ok (.iadd, 1) := by decide +kernel
theorem d3_84 : decode prog_65_method_3_code 84 = .ok (.putfield 29, 3) := by decide +kernel
theorem d3_87 : decode prog_65_method_3_code 87 = .ok (.ireturn, 1) := by decide +kernel
theorem ef_3 (m : MethodId) (x0 : Addr) (x1 : Int32) (x2 : Int32) (x3 : Int32) : entryFrame m #[(.ref x0), (.int x1), (.int x2), (.int x3)] 4 = mkF m 0 #[.val (.ref x0), .val (.int x1), .val (.int x2), .val (.int x3)] [] := by first | (simp [entryFrame, mkF, argsToLocals, Value.category]; done) | rfl
def Q3 (Z : State) (a1 : Addr) (p2 : Int32) (p3 : Int32) (p4 : Int32) (b1 : Addr) (b2 : Addr) (k1 : ClassId) (k2 : ClassId) (w2 : Int32) (i : Nat) (vs1 : List Value) (vs2 : List Value) (h0 : Heap) (n0 : Nat) (v : Option Value) (h : Heap) (L : List Loc) : Prop := v = some (.int w2) ∧ Fr n0 L ∧ Keep h0 h [b1, b2, a1] ∧ Fld Z h a1 "com/example/clearlot/clearlot/search/PartTree" "nodes" "I" (.int (w2 + 1)) ∧ Fld Z h a1 "com/example/clearlot/clearlot/search/PartTree" "parents" "[I" (.ref b1) ∧ Fld Z h a1 "com/example/clearlot/clearlot/search/PartTree" "branches" "[I" (.ref b2) ∧ Arv Z h b1 k1 .int (16 : Int32) (vs1.set i (.int p2)) (.int (0 : Int32)) ∧ Arv Z h b2 k2 .int (16 : Int32) (vs2.set i (.int (own_code p3 p4))) (.int (0 : Int32))
set_option maxRecDepth 65536 in
set_option maxHeartbeats 40000000 in
theorem rm3 (l : Launch) (Z : State) (a0 : Array Value) (hw : ∀ d ∈ tables_1, d.before a0 Z = true) (ws : List Jvm.Cond) (a1 : Addr) (p2 : Int32) (p3 : Int32) (p4 : Int32) (b1 : Addr) (b2 : Addr) (k1 : ClassId) (k2 : ClassId) (w2 : Int32) (i : Nat) (vs1 : List Value) (vs2 : List Value) (h0 : Heap) (n0 : Nat) (ZS : n0 ≤ h0.size) (E_a1 : Exa Z h0 a1 "com/example/clearlot/clearlot/search/PartTree") (F_parents_a1 : Fld Z h0 a1 "com/example/clearlot/clearlot/search/PartTree" "parents" "[I" (.ref b1)) (F_branches_a1 : Fld Z h0 a1 "com/example/clearlot/clearlot/search/PartTree" "branches" "[I" (.ref b2)) (F_nodes_a1 : Fld Z h0 a1 "com/example/clearlot/clearlot/search/PartTree" "nodes" "I" (.int w2)) (g_a1 : n0 ≤ a1) (V_b1 : Arv Z h0 b1 k1 .int (16 : Int32) vs1 (.int (0 : Int32))) (V_b2 : Arv Z h0 b2 k2 .int (16 : Int32) vs2 (.int (0 : Int32))) (g_b1 : n0 ≤ b1) (g_b2 : n0 ≤ b2) (ne1 : a1 ≠ b1) (ne2 : a1 ≠ b2) (ne3 : b1 ≠ b2) (hw0 : ¬ w2 < 0 ∧ w2 < (16 : Int32)) (hwi : w2.toNatClampNeg = i) (hl1 : i < vs1.length) (hl2 : i < vs2.length) :
    MetFree l (⟨"com/example/clearlot/clearlot/search/PartTree", "add", "(IIZ)I"⟩ : MethodName) (head1 (Jvm.Cond.code (⟨"com/example/clearlot/clearlot/search/PartTree", "add", "(IIZ)I"⟩ : MethodName) prog_65_method_3_code 4 (some .int) :: ws) ({ frames := 0, cells := 0, slots := 0, locals := 0 } : Room)) (fun a U => a = #[(.ref a1), (.int p2), (.int p3), (.int p4)] ∧ Z.Warmed39 U.vm ∧ U.heap = h0) (fun _ _ _ _ _ => True) (fun _ U o U' => ∃ v L, o = .returned v ∧ Q3 Z a1 p2 p3 p4 b1 b2 k1 k2 w2 i vs1 vs2 h0 n0 v U'.heap L ∧ FrameEnd U o U' L ({ frames := 0, cells := 0, slots := 0, locals := 0 } : Room).cells ({ frames := 0, cells := 0, slots := 0, locals := 0 } : Room).slots) := by
  refine MetFree.of_bodySF (plainFor_of_name pn_1) hisR ?_
  intro p e s m args below meth c s₁ Bd hml0 hP hK
  obtain ⟨rfl, hZ, hh⟩ := hP
  have hx := Bd.exec
  have hby := Bd.bytes
  have hml : c.maxLocals = 4 := hml0
  have hown : s.vm.findClass "com/example/clearlot/clearlot/search/PartTree" = some m.cls := findClass_of_methodNamed Bd.named
  have hnm := (name_of_methodNamed Bd.named Bd.method).1
  have hlk : meth.locks = false := Bd.notSynchronized
  have X0 : Stand p l e ({ frames := 0, cells := 0, slots := 0, locals := 0 } : Room) s m #[(.ref a1), (.int p2), (.int p3), (.int p4)] below meth c s₁ [] 0 0 := Stand.of_body Bd
  have e0 : s₁.heap = h0 := by rw [← hh, Bd.state]; rfl
  have NF := Fr.nil n0
  have KP : Keep h0 h0 [b1, b2, a1] := Keep.refl _ _
  refine own_fin (s := s) (Q := Q3 Z a1 p2 p3 p4 b1 b2 k1 k2 w2 i vs1 vs2 h0 n0) (rc := ({ frames := 0, cells := 0, slots := 0, locals := 0 } : Room).cells) (rs := ({ frames := 0, cells := 0, slots := 0, locals := 0 } : Room).slots) ?_
  refine own_go (fun t k => castTop (ef_3 m a1 p2 p3 p4) k) ?_
  show own_R _ _ _ _ (s₁.setTop (mkF m 0 #[.val (.ref a1), .val (.int p2), .val (.int p3), .val (.int p4)] []))
  refine own_go (fun _ k => XS.aloadN X0.here hx rfl (hb hby d3_0) rfl rfl k) ?_
  show own_R _ _ _ _ (s₁.setTop (mkF m 1 #[.val (.ref a1), .val (.int p2), .val (.int p3), .val (.int p4)] [(.ref a1)]))
  obtain ⟨T13, X13, e13, st13⟩ := getF X0 hx hZ hown (host := "") (Or.inl (hw _ (List.mem_of_getElem? (i := 28) rfl))) Via.refl e0 F_nodes_a1 (g := (mkF m 1 #[.val (.ref a1), .val (.int p2), .val (.int p3), .val (.int p4)] [(.ref a1)])) rfl rfl (hb hby d3_1)
  refine own_go st13 ?_
  show own_R _ _ _ _ (T13.setTop (mkF m 4 #[.val (.ref a1), .val (.int p2), .val (.int p3), .val (.int p4)] [(.int w2)]))
  refine own_go (fun _ k => XS.aloadN X13.here hx rfl (hb hby d3_4) rfl rfl k) ?_
  show own_R _ _ _ _ (T13.setTop (mkF m 5 #[.val (.ref a1), .val (.int p2), .val (.int p3), .val (.int p4)] [(.ref a1), (.int w2)]))
  obtain ⟨T14, X14, e14, st14⟩ := getF X13 hx hZ hown (host := "") (Or.inl (hw _ (List.mem_of_getElem? (i := 19) rfl))) Via.refl e13 F_parents_a1 (g := (mkF m 5 #[.val (.ref a1), .val (.int p2), .val (.int p3), .val (.int p4)] [(.ref a1), (.int w2)])) rfl rfl (hb hby d3_5)
  refine own_go st14 ?_
  show own_R _ _ _ _ (T14.setTop (mkF m 8 #[.val (.ref a1), .val (.int p2), .val (.int p3), .val (.int p4)] [(.ref b1), (.int w2)]))
  refine own_go (own_len X14 hx hZ e14 V_b1 (g := (mkF m 8 #[.val (.ref a1), .val (.int p2), .val (.int p3), .val (.int p4)] [(.ref b1), (.int w2)])) rfl rfl (hb hby d3_8)) ?_
  show own_R _ _ _ _ (T14.setTop (mkF m 9 #[.val (.ref a1), .val (.int p2), .val (.int p3), .val (.int p4)] [(.int (16 : Int32)), (.int w2)]))
  refine own_go (fun _ k => XS.icmpYes X14.here hx rfl (pc0 := 9) (pc' := 46) rfl (hb hby d3_9) rfl (feq (fun q => by have z := hw0.2; rw [q] at z; exact absurd z (by decide))).2 (by decide) (by decide) k) ?_
  show own_R _ _ _ _ (T14.setTop (mkF m 46 #[.val (.ref a1), .val (.int p2), .val (.int p3), .val (.int p4)] []))
  refine own_go (fun _ k => XS.aloadN X14.here hx rfl (hb hby d3_46) rfl rfl k) ?_
  show own_R _ _ _ _ (T14.setTop (mkF m 47 #[.val (.ref a1), .val (.int p2), .val (.int p3), .val (.int p4)] [(.ref a1)]))
  obtain ⟨T15, X15, e15, st15⟩ := getF X14 hx hZ hown (host := "") (Or.inl (hw _ (List.mem_of_getElem? (i := 19) rfl))) Via.refl e14 F_parents_a1 (g := (mkF m 47 #[.val (.ref a1), .val (.int p2), .val (.int p3), .val (.int p4)] [(.ref a1)])) rfl rfl (hb hby d3_47)
  refine own_go st15 ?_
  show own_R _ _ _ _ (T15.setTop (mkF m 50 #[.val (.ref a1), .val (.int p2), .val (.int p3), .val (.int p4)] [(.ref b1)]))
  refine own_go (fun _ k => XS.aloadN X15.here hx rfl (hb hby d3_50) rfl rfl k) ?_
  show own_R _ _ _ _ (T15.setTop (mkF m 51 #[.val (.ref a1), .val (.int p2), .val (.int p3), .val (.int p4)] [(.ref a1), (.ref b1)]))
  obtain ⟨T16, X16, e16, st16⟩ := getF X15 hx hZ hown (host := "") (Or.inl (hw _ (List.mem_of_getElem? (i := 28) rfl))) Via.refl e15 F_nodes_a1 (g := (mkF m 51 #[.val (.ref a1), .val (.int p2), .val (.int p3), .val (.int p4)] [(.ref a1), (.ref b1)])) rfl rfl (hb hby d3_51)
  refine own_go st16 ?_
  show own_R _ _ _ _ (T16.setTop (mkF m 54 #[.val (.ref a1), .val (.int p2), .val (.int p3), .val (.int p4)] [(.int w2), (.ref b1)]))
  refine own_go (fun _ k => XS.iloadN X16.here hx rfl (hb hby d3_54) rfl k) ?_
  show own_R _ _ _ _ (T16.setTop (mkF m 55 #[.val (.ref a1), .val (.int p2), .val (.int p3), .val (.int p4)] [(.int p2), (.int w2), (.ref b1)]))
  obtain ⟨T17, h17, sl17, X17, e17, W17, V17, st17⟩ := own_stI X16 hx hZ e16 V_b1 (j := w2) (i := i) hw0 hwi hl1 rfl (g := (mkF m 55 #[.val (.ref a1), .val (.int p2), .val (.int p3), .val (.int p4)] [(.int p2), (.int w2), (.ref b1)])) rfl rfl (hb hby d3_55)
  refine own_go st17 ?_
  have E_a1 := E_a1.wr W17
  have F_parents_a1 := F_parents_a1.other W17 (Or.inl ne1)
  have F_branches_a1 := F_branches_a1.other W17 (Or.inl ne1)
  have F_nodes_a1 := F_nodes_a1.other W17 (Or.inl ne1)
  have V_b2 := V_b2.other W17 (Ne.symm ne3)
  have ZS := Nat.le_trans ZS (Keep.of_wr W17).1
  have KP := KP.wr W17 (Or.inl (List.mem_of_getElem? (i := 0) rfl))
  have NF := Fr.snoc X17 NF g_b1
  have V_b1 := V17
  show own_R _ _ _ _ (T17.setTop (mkF m 56 #[.val (.ref a1), .val (.int p2), .val (.int p3), .val (.int p4)] []))
  refine own_go (fun _ k => XS.aloadN X17.here hx rfl (hb hby d3_56) rfl rfl k) ?_
  show own_R _ _ _ _ (T17.setTop (mkF m 57 #[.val (.ref a1), .val (.int p2), .val (.int p3), .val (.int p4)] [(.ref a1)]))
  obtain ⟨T18, X18, e18, st18⟩ := getF X17 hx hZ hown (host := "") (Or.inl (hw _ (List.mem_of_getElem? (i := 21) rfl))) Via.refl e17 F_branches_a1 (g := (mkF m 57 #[.val (.ref a1), .val (.int p2), .val (.int p3), .val (.int p4)] [(.ref a1)])) rfl rfl (hb hby d3_57)
  refine own_go st18 ?_
  show own_R _ _ _ _ (T18.setTop (mkF m 60 #[.val (.ref a1), .val (.int p2), .val (.int p3), .val (.int p4)] [(.ref b2)]))
  refine own_go (fun _ k => XS.aloadN X18.here hx rfl (hb hby d3_60) rfl rfl k) ?_
  show own_R _ _ _ _ (T18.setTop (mkF m 61 #[.val (.ref a1), .val (.int p2), .val (.int p3), .val (.int p4)] [(.ref a1), (.ref b2)]))
  obtain ⟨T19, X19, e19, st19⟩ := getF X18 hx hZ hown (host := "") (Or.inl (hw _ (List.mem_of_getElem? (i := 28) rfl))) Via.refl e18 F_nodes_a1 (g := (mkF m 61 #[.val (.ref a1), .val (.int p2), .val (.int p3), .val (.int p4)] [(.ref a1), (.ref b2)])) rfl rfl (hb hby d3_61)
  refine own_go st19 ?_
  show own_R _ _ _ _ (T19.setTop (mkF m 64 #[.val (.ref a1), .val (.int p2), .val (.int p3), .val (.int p4)] [(.int w2), (.ref b2)]))
  obtain ⟨_, ⟨bc, hs20, rfl⟩, sg20⟩ : own_R p.tables e below (fun U => ∃ (bc : Int32), (bc = own_code p3 p4) ∧ U = T19.setTop (mkF m 75 #[.val (.ref a1), .val (.int p2), .val (.int p3), .val (.int p4)] [(.int bc), (.int w2), (.ref b2)])) (T19.setTop (mkF m 64 #[.val (.ref a1), .val (.int p2), .val (.int p3), .val (.int p4)] [(.int w2), (.ref b2)])) := by
    refine own_go (fun _ k => XS.iloadN X19.here hx rfl (hb hby d3_64) rfl k) ?_
    show own_R _ _ _ _ (T19.setTop (mkF m 65 #[.val (.ref a1), .val (.int p2), .val (.int p3), .val (.int p4)] [(.int p4), (.int w2), (.ref b2)]))
    by_cases hc21 : p4 = (0 : Int32)
    · refine own_go (fun _ k => XS.ifYes X19.here hx rfl (pc0 := 65) (pc' := 72) rfl (hb hby d3_65) rfl ((if0 _ _).trans (teq hc21).1) (by decide) (by decide) k) ?_
      show own_R _ _ _ _ (T19.setTop (mkF m 72 #[.val (.ref a1), .val (.int p2), .val (.int p3), .val (.int p4)] [(.int w2), (.ref b2)]))
      refine own_go (fun _ k => XS.iloadN X19.here hx rfl (hb hby d3_72) rfl k) ?_
      show own_R _ _ _ _ (T19.setTop (mkF m 73 #[.val (.ref a1), .val (.int p2), .val (.int p3), .val (.int p4)] [(.int p3), (.int w2), (.ref b2)]))
      refine own_go (fun _ k => XS.iconst X19.here hx rfl (hb hby d3_73) k) ?_
      show own_R _ _ _ _ (T19.setTop (mkF m 74 #[.val (.ref a1), .val (.int p2), .val (.int p3), .val (.int p4)] [(.int (-1 : Int32)), (.int p3), (.int w2), (.ref b2)]))
      refine own_go (fun _ k => XS.ixor X19.here hx rfl (hb hby d3_74) rfl k) ?_
      show own_R _ _ _ _ (T19.setTop (mkF m 75 #[.val (.ref a1), .val (.int p2), .val (.int p3), .val (.int p4)] [(.int (p3 ^^^ (-1 : Int32))), (.int w2), (.ref b2)]))
      exact own_leaf ⟨(p3 ^^^ (-1 : Int32)), by rw [own_code, if_pos hc21], rfl⟩
    · refine own_go (fun _ k => XS.ifNo X19.here hx rfl (hb hby d3_65) rfl ((if0 _ _).trans (feq hc21).1) k) ?_
      show own_R _ _ _ _ (T19.setTop (mkF m 68 #[.val (.ref a1), .val (.int p2), .val (.int p3), .val (.int p4)] [(.int w2), (.ref b2)]))
      refine own_go (fun _ k => XS.iloadN X19.here hx rfl (hb hby d3_68) rfl k) ?_
      show own_R _ _ _ _ (T19.setTop (mkF m 69 #[.val (.ref a1), .val (.int p2), .val (.int p3), .val (.int p4)] [(.int p3), (.int w2), (.ref b2)]))
      refine own_go (fun _ k => XS.goto X19.here hx rfl (pc0 := 69) (pc' := 75) rfl (hb hby d3_69) (by decide) (by decide) k) ?_
      show own_R _ _ _ _ (T19.setTop (mkF m 75 #[.val (.ref a1), .val (.int p2), .val (.int p3), .val (.int p4)] [(.int p3), (.int w2), (.ref b2)]))
      exact own_leaf ⟨p3, by rw [own_code, if_neg hc21], rfl⟩
  refine own_go sg20 ?_
  show own_R _ _ _ _ (T19.setTop (mkF m 75 #[.val (.ref a1), .val (.int p2), .val (.int p3), .val (.int p4)] [(.int bc), (.int w2), (.ref b2)]))
  subst hs20
  show own_R _ _ _ _ (T19.setTop (mkF m 75 #[.val (.ref a1), .val (.int p2), .val (.int p3), .val (.int p4)] [(.int (own_code p3 p4)), (.int w2), (.ref b2)]))
  obtain ⟨T22, h22, sl22, X22, e22, W22, V22, st22⟩ := own_stI X19 hx hZ e19 V_b2 (j := w2) (i := i) hw0 hwi hl2 rfl (g := (mkF m 75 #[.val (.ref a1), .val (.int p2), .val (.int p3), .val (.int p4)] [(.int (own_code p3 p4)), (.int w2), (.ref b2)])) rfl rfl (hb hby d3_75)
  refine own_go st22 ?_
  have E_a1 := E_a1.wr W22
  have F_parents_a1 := F_parents_a1.other W22 (Or.inl ne2)
  have F_branches_a1 := F_branches_a1.other W22 (Or.inl ne2)
  have F_nodes_a1 := F_nodes_a1.other W22 (Or.inl ne2)
  have V_b1 := V_b1.other W22 ne3
  have ZS := Nat.le_trans ZS (Keep.of_wr W22).1
  have KP := KP.wr W22 (Or.inl (List.mem_of_getElem? (i := 1) rfl))
  have NF := Fr.snoc X22 NF g_b2
  have V_b2 := V22
  show own_R _ _ _ _ (T22.setTop (mkF m 76 #[.val (.ref a1), .val (.int p2), .val (.int p3), .val (.int p4)] []))
  refine own_go (fun _ k => XS.aloadN X22.here hx rfl (hb hby d3_76) rfl rfl k) ?_
  show own_R _ _ _ _ (T22.setTop (mkF m 77 #[.val (.ref a1), .val (.int p2), .val (.int p3), .val (.int p4)] [(.ref a1)]))
  refine own_go (fun _ k => XS.dup X22.here hx rfl (hb hby d3_77) rfl rfl k) ?_
  show own_R _ _ _ _ (T22.setTop (mkF m 78 #[.val (.ref a1), .val (.int p2), .val (.int p3), .val (.int p4)] [(.ref a1), (.ref a1)]))
  obtain ⟨T23, X23, e23, st23⟩ := getF X22 hx hZ hown (host := "") (Or.inl (hw _ (List.mem_of_getElem? (i := 28) rfl))) Via.refl e22 F_nodes_a1 (g := (mkF m 78 #[.val (.ref a1), .val (.int p2), .val (.int p3), .val (.int p4)] [(.ref a1), (.ref a1)])) rfl rfl (hb hby d3_78)
  refine own_go st23 ?_
  show own_R _ _ _ _ (T23.setTop (mkF m 81 #[.val (.ref a1), .val (.int p2), .val (.int p3), .val (.int p4)] [(.int w2), (.ref a1)]))
  refine own_go (fun _ k => XS.dupX1 X23.here hx rfl (hb hby d3_81) rfl rfl rfl k) ?_
  show own_R _ _ _ _ (T23.setTop (mkF m 82 #[.val (.ref a1), .val (.int p2), .val (.int p3), .val (.int p4)] [(.int w2), (.ref a1), (.int w2)]))
  refine own_go (fun _ k => XS.iconst X23.here hx rfl (hb hby d3_82) k) ?_
  show own_R _ _ _ _ (T23.setTop (mkF m 83 #[.val (.ref a1), .val (.int p2), .val (.int p3), .val (.int p4)] [(.int (1 : Int32)), (.int w2), (.ref a1), (.int w2)]))
  refine own_go (fun _ k => XS.iadd X23.here hx rfl (hb hby d3_83) rfl k) ?_
  show own_R _ _ _ _ (T23.setTop (mkF m 84 #[.val (.ref a1), .val (.int p2), .val (.int p3), .val (.int p4)] [(.int (w2 + (1 : Int32))), (.ref a1), (.int w2)]))
  obtain ⟨T24, h24, X24, e24, W24, st24⟩ := putF X23 hx hZ hown (host := "") (Or.inl (hw _ (List.mem_of_getElem? (i := 28) rfl))) Via.refl e23 F_nodes_a1 E_a1 (Or.inl (hw _ (List.mem_of_getElem? (i := 29) rfl))) (hw _ (List.mem_of_getElem? (i := 1) rfl)) (ty := .int) (by decide) rfl rfl (g := (mkF m 84 #[.val (.ref a1), .val (.int p2), .val (.int p3), .val (.int p4)] [(.int (w2 + (1 : Int32))), (.ref a1), (.int w2)])) rfl rfl (hb hby d3_84)
  refine own_go st24 ?_
  have E_a1 := E_a1.wr W24
  have F_parents_a1 := F_parents_a1.other W24 (Or.inr (slot_ne (Or.inl (hw _ (List.mem_of_getElem? (i := 20) rfl))) (Or.inl (hw _ (List.mem_of_getElem? (i := 29) rfl))) (by decide) (t := (.array .int)) (t' := .int) (by decide) (by decide)))
  have F_branches_a1 := F_branches_a1.other W24 (Or.inr (slot_ne (Or.inl (hw _ (List.mem_of_getElem? (i := 22) rfl))) (Or.inl (hw _ (List.mem_of_getElem? (i := 29) rfl))) (by decide) (t := (.array .int)) (t' := .int) (by decide) (by decide)))
  have F_nodes_a1 := F_nodes_a1.same W24
  have V_b1 := V_b1.other W24 (Ne.symm ne1)
  have V_b2 := V_b2.other W24 (Ne.symm ne2)
  have ZS := Nat.le_trans ZS (Keep.of_wr W24).1
  have KP := KP.wr W24 (Or.inl (List.mem_of_getElem? (i := 2) rfl))
  have NF := Fr.snoc X24 NF g_a1
  show own_R _ _ _ _ (T24.setTop (mkF m 87 #[.val (.ref a1), .val (.int p2), .val (.int p3), .val (.int p4)] [(.int w2)]))
  exact own_retI X24 hx Bd.returns (hb hby d3_87) hlk (by rw [e24]; exact ⟨rfl, NF, KP, F_nodes_a1, F_parents_a1, F_branches_a1, V_b1, V_b2⟩) (by decide) (by decide)
theorem d5_0 : decode prog_65_method_9_code 0 = .ok (.iconst 0, 1) := by decide +kernel
theorem d5_1 : decode prog_65_method_9_code 1 = .ok (.istore_n 2, 1) := by decide +kernel
theorem d5_2 : decode prog_65_method_9_code 2 = .ok (.iload_n 1, 1) := by decide +kernel
theorem d5_3 : decode prog_65_method_9_code 3 = .ok (.istore_n 3, 1) := by decide +kernel
theorem d5_4 : decode prog_65_method_9_code 4 = .ok (.aload_n 0, 1) := by decide +kernel
theorem d5_5 : decode prog_65_method_9_code 5 = .ok (.getfield 23, 3) := by decide +kernel
theorem d5_8 : decode prog_65_method_9_code 8 = .ok (.iload_n 3, 1) := by decide +kernel
theorem d5_9 : decode prog_65_method_9_code 9 = .ok (.iaload, 1) := by decide +kernel
theorem d5_10 : decode prog_65_method_9_code 10 = .ok (.iconst (-1), 1) := by decide +kernel
theorem d5_11 : decode prog_65_method_9_code 11 = .ok (.if_icmp .eq 16, 3) := by decide +kernel
theorem d5_14 : decode prog_65_method_9_code 14 = .ok (.iinc 2 1, 3) := by decide +kernel
theorem d5_17 : decode prog_65_method_9_code 17 = .ok (.aload_n 0, 1) := by decide +kernel
theorem d5_18 : decode prog_65_method_9_code 18 = .ok (.getfield 23, 3) := by decide +kernel
theorem d5_21 : decode prog_65_method_9_code 21 = .ok (.iload_n 3, 1) := by decide +kernel
theorem d5_22 : decode prog_65_method_9_code 22 = .ok (.iaload, 1) := by decide +kernel
theorem d5_23 : decode prog_65_method_9_code 23 = .ok (.istore_n 3, 1) := by decide +kernel
theorem d5_24 : decode prog_65_method_9_code 24 = .ok (.goto (-20), 3) := by decide +kernel
theorem d5_27 : decode prog_65_method_9_code 27 = .ok (.iload_n 2, 1) := by decide +kernel
theorem d5_28 : decode prog_65_method_9_code 28 = .ok (.newarray .int, 2) := by decide +kernel
theorem d5_30 : decode prog_65_method_9_code 30 = .ok (.astore_n 3, 1) := by decide +kernel
theorem d5_31 : decode prog_65_method_9_code 31 = .ok (.iload_n 1, 1) := by decide +kernel
theorem d5_32 : decode prog_65_method_9_code 32 = .ok (.istore 4, 2) := by decide +kernel
theorem d5_34 : decode prog_65_method_9_code 34 = .ok (.aload_n 0, 1) := by decide +kernel
theorem d5_35 : decode prog_65_method_9_code 35 = .ok (.getfield 23, 3) := by decide +kernel
theorem d5_38 : decode prog_65_method_9_code 38 = .ok (.iload 4, 2) := by decide +kernel
theorem d5_40 : decode prog_65_method_9_code 40 = .ok (.iaload, 1) := by decide +kernel
theorem d5_41 : decode prog_65_method_9_code 41 = .ok (.iconst (-1), 1) := by decide +kernel
theorem d5_42 : decode prog_65_method_9_code 42 = .ok (.if_icmp .eq 28, 3) := by decide +kernel
theorem d5_45 : decode prog_65_method_9_code 45 = .ok (.aload_n 3, 1) := by decide +kernel
theorem d5_46 : decode prog_65_method_9_code 46 = .ok (.iinc 2 (-1), 3) := by decide +kernel
theorem d5_49 : decode prog_65_method_9_code 49 = .ok (.iload_n 2, 1) := by decide +kernel
theorem d5_50 : decode prog_65_method_9_code 50 = .ok (.aload_n 0, 1) := by decide +kernel
theorem d5_51 : decode prog_65_method_9_code 51 = .ok (.getfield 26, 3) := by decide +kernel
theorem d5_54 : decode prog_65_method_9_code 54 = .ok (.iload 4, 2) := by decide +kernel
theorem d5_56 : decode prog_65_method_9_code 56 = .ok (.iaload, 1) := by decide +kernel
theorem d5_57 : decode prog_65_method_9_code 57 = .ok (.iastore, 1) := by decide +kernel
theorem d5_58 : decode prog_65_method_9_code 58 = .ok (.aload_n 0, 1) := by decide +kernel
theorem d5_59 : decode prog_65_method_9_code 59 = .ok (.getfield 23, 3) := by decide +kernel
theorem d5_62 : decode prog_65_method_9_code 62 = .ok (.iload 4, 2) := by decide +kernel
theorem d5_64 : decode prog_65_method_9_code 64 = .ok (.iaload, 1) := by decide +kernel
theorem d5_65 : decode prog_65_method_9_code 65 = .ok (.istore 4, 2) := by decide +kernel
theorem d5_67 : decode prog_65_method_9_code 67 = .ok (.goto (-33), 3) := by decide +kernel
theorem d5_70 : decode prog_65_method_9_code 70 = .ok (.aload_n 3, 1) := by decide +kernel
theorem d5_71 : decode prog_65_method_9_code 71 = .ok (.areturn, 1) := by decide +kernel
theorem ef_5_0 (m : MethodId) (x0 : Addr) (x1 : Int32) : entryFrame m #[(.ref x0), (.int x1)] 5 = mkF m 0 #[.val (.ref x0), .val (.int x1), .unset, .unset, .unset] [] := by first | (simp [entryFrame, mkF, argsToLocals, Value.category]; done) | rfl
def Q5_0 (Z : State) (a1 : Addr) (b1 : Addr) (b2 : Addr) (k1 : ClassId) (k2 : ClassId) (x0 : Int32) (x1 : Int32) (x2 : Int32) (x3 : Int32) (x4 : Int32) (h0 : Heap) (n0 : Nat) (v : Option Value) (h : Heap) (L : List Loc) : Prop := ∃ b : Addr, v = some (.ref b) ∧ Fr n0 L ∧ Keep h0 h [] ∧ h0.size ≤ b ∧ ∃ k : ClassId, Arv Z h b k .int (0 : Int32) [] (.int (0 : Int32))
set_option maxRecDepth 65536 in
set_option maxHeartbeats 40000000 in
theorem rm5_0 (l : Launch) (Z : State) (a0 : Array Value) (hw : ∀ d ∈ tables_1, d.before a0 Z = true) (ws : List Jvm.Cond) (a1 : Addr) (b1 : Addr) (b2 : Addr) (k1 : ClassId) (k2 : ClassId) (x0 : Int32) (x1 : Int32) (x2 : Int32) (x3 : Int32) (x4 : Int32) (h0 : Heap) (n0 : Nat) (ZS : n0 ≤ h0.size) (F_parents_a1 : Fld Z h0 a1 "com/example/clearlot/clearlot/search/PartTree" "parents" "[I" (.ref b1)) (F_branches_a1 : Fld Z h0 a1 "com/example/clearlot/clearlot/search/PartTree" "branches" "[I" (.ref b2)) (V_b1 : Arv Z h0 b1 k1 .int (16 : Int32) [(.int (-1 : Int32)), (.int (0 : Int32)), (.int (1 : Int32)), (.int (0 : Int32)), (.int (2 : Int32)), (.int (0 : Int32)), (.int (0 : Int32)), (.int (0 : Int32)), (.int (0 : Int32)), (.int (0 : Int32)), (.int (0 : Int32)), (.int (0 : Int32)), (.int (0 : Int32)), (.int (0 : Int32)), (.int (0 : Int32)), (.int (0 : Int32))] (.int (0 : Int32))) (V_b2 : Arv Z h0 b2 k2 .int (16 : Int32) [(.int x0), (.int x1), (.int x2), (.int x3), (.int x4), (.int (0 : Int32)), (.int (0 : Int32)), (.int (0 : Int32)), (.int (0 : Int32)), (.int (0 : Int32)), (.int (0 : Int32)), (.int (0 : Int32)), (.int (0 : Int32)), (.int (0 : Int32)), (.int (0 : Int32)), (.int (0 : Int32))] (.int (0 : Int32))) :
    MetFree l (⟨"com/example/clearlot/clearlot/search/PartTree", "branches", "(I)[I"⟩ : MethodName) (head1 (Jvm.Cond.code (⟨"com/example/clearlot/clearlot/search/PartTree", "branches", "(I)[I"⟩ : MethodName) prog_65_method_9_code 5 (some (.array .int)) :: ws) ({ frames := 0, cells := 1, slots := 0, locals := 0 } : Room)) (fun a U => a = #[(.ref a1), (.int (0 : Int32))] ∧ Z.Warmed39 U.vm ∧ U.heap = h0) (fun _ _ _ _ _ => True) (fun _ U o U' => ∃ v L, o = .returned v ∧ Q5_0 Z a1 b1 b2 k1 k2 x0 x1 x2 x3 x4 h0 n0 v U'.heap L ∧ FrameEnd U o U' L ({ frames := 0, cells := 1, slots := 0, locals := 0 } : Room).cells ({ frames := 0, cells := 1, slots := 0, locals := 0 } : Room).slots) := by
  refine MetFree.of_bodySF (plainFor_of_name pn_1) hisR ?_
  intro p e s m args below meth c s₁ Bd hml0 hP hK
  obtain ⟨rfl, hZ, hh⟩ := hP
  have hx := Bd.exec
  have hby := Bd.bytes
  have hml : c.maxLocals = 5 := hml0
  have hown : s.vm.findClass "com/example/clearlot/clearlot/search/PartTree" = some m.cls := findClass_of_methodNamed Bd.named
  have hnm := (name_of_methodNamed Bd.named Bd.method).1
  have hlk : meth.locks = false := Bd.notSynchronized
  have X0 : Stand p l e ({ frames := 0, cells := 1, slots := 0, locals := 0 } : Room) s m #[(.ref a1), (.int (0 : Int32))] below meth c s₁ [] 0 0 := Stand.of_body Bd
  have e0 : s₁.heap = h0 := by rw [← hh, Bd.state]; rfl
  have NF := Fr.nil n0
  have KP : Keep h0 h0 [] := Keep.refl _ _
  refine own_fin (s := s) (Q := Q5_0 Z a1 b1 b2 k1 k2 x0 x1 x2 x3 x4 h0 n0) (rc := ({ frames := 0, cells := 1, slots := 0, locals := 0 } : Room).cells) (rs := ({ frames := 0, cells := 1, slots := 0, locals := 0 } : Room).slots) ?_
  refine own_go (fun t k => castTop (ef_5_0 m a1 (0 : Int32)) k) ?_
  show own_R _ _ _ _ (s₁.setTop (mkF m 0 #[.val (.ref a1), .val (.int (0 : Int32)), .unset, .unset, .unset] []))
  refine own_go (fun _ k => XS.iconst X0.here hx rfl (hb hby d5_0) k) ?_
  show own_R _ _ _ _ (s₁.setTop (mkF m 1 #[.val (.ref a1), .val (.int (0 : Int32)), .unset, .unset, .unset] [(.int (0 : Int32))]))
  refine own_go (fun _ k => XS.istoreN X0.here hx rfl (hb hby d5_1) rfl (l' := #[.val (.ref a1), .val (.int (0 : Int32)), .val (.int (0 : Int32)), .unset, .unset]) rfl k) ?_
  show own_R _ _ _ _ (s₁.setTop (mkF m 2 #[.val (.ref a1), .val (.int (0 : Int32)), .val (.int (0 : Int32)), .unset, .unset] []))
  refine own_go (fun _ k => XS.iloadN X0.here hx rfl (hb hby d5_2) rfl k) ?_
  show own_R _ _ _ _ (s₁.setTop (mkF m 3 #[.val (.ref a1), .val (.int (0 : Int32)), .val (.int (0 : Int32)), .unset, .unset] [(.int (0 : Int32))]))
  refine own_go (fun _ k => XS.istoreN X0.here hx rfl (hb hby d5_3) rfl (l' := #[.val (.ref a1), .val (.int (0 : Int32)), .val (.int (0 : Int32)), .val (.int (0 : Int32)), .unset]) rfl k) ?_
  show own_R _ _ _ _ (s₁.setTop (mkF m 4 #[.val (.ref a1), .val (.int (0 : Int32)), .val (.int (0 : Int32)), .val (.int (0 : Int32)), .unset] []))
  refine own_go (fun _ k => XS.aloadN X0.here hx rfl (hb hby d5_4) rfl rfl k) ?_
  show own_R _ _ _ _ (s₁.setTop (mkF m 5 #[.val (.ref a1), .val (.int (0 : Int32)), .val (.int (0 : Int32)), .val (.int (0 : Int32)), .unset] [(.ref a1)]))
  obtain ⟨T25, X25, e25, st25⟩ := getF X0 hx hZ hown (host := "") (Or.inl (hw _ (List.mem_of_getElem? (i := 19) rfl))) Via.refl e0 F_parents_a1 (g := (mkF m 5 #[.val (.ref a1), .val (.int (0 : Int32)), .val (.int (0 : Int32)), .val (.int (0 : Int32)), .unset] [(.ref a1)])) rfl rfl (hb hby d5_5)
  refine own_go st25 ?_
  show own_R _ _ _ _ (T25.setTop (mkF m 8 #[.val (.ref a1), .val (.int (0 : Int32)), .val (.int (0 : Int32)), .val (.int (0 : Int32)), .unset] [(.ref b1)]))
  refine own_go (fun _ k => XS.iloadN X25.here hx rfl (hb hby d5_8) rfl k) ?_
  show own_R _ _ _ _ (T25.setTop (mkF m 9 #[.val (.ref a1), .val (.int (0 : Int32)), .val (.int (0 : Int32)), .val (.int (0 : Int32)), .unset] [(.int (0 : Int32)), (.ref b1)]))
  refine own_go (own_ldI X25 hx hZ e25 V_b1 (j := (0 : Int32)) (i := 0) ⟨by decide, by decide⟩ rfl (v := (.int (-1 : Int32))) rfl (g := (mkF m 9 #[.val (.ref a1), .val (.int (0 : Int32)), .val (.int (0 : Int32)), .val (.int (0 : Int32)), .unset] [(.int (0 : Int32)), (.ref b1)])) rfl rfl (hb hby d5_9)) ?_
  show own_R _ _ _ _ (T25.setTop (mkF m 10 #[.val (.ref a1), .val (.int (0 : Int32)), .val (.int (0 : Int32)), .val (.int (0 : Int32)), .unset] [(.int (-1 : Int32))]))
  refine own_go (fun _ k => XS.iconst X25.here hx rfl (hb hby d5_10) k) ?_
  show own_R _ _ _ _ (T25.setTop (mkF m 11 #[.val (.ref a1), .val (.int (0 : Int32)), .val (.int (0 : Int32)), .val (.int (0 : Int32)), .unset] [(.int (-1 : Int32)), (.int (-1 : Int32))]))
  refine own_go (fun _ k => XS.icmpYes X25.here hx rfl (pc0 := 11) (pc' := 27) rfl (hb hby d5_11) rfl (teq (by decide : (-1 : Int32) = (-1 : Int32))).1 (by decide) (by decide) k) ?_
  show own_R _ _ _ _ (T25.setTop (mkF m 27 #[.val (.ref a1), .val (.int (0 : Int32)), .val (.int (0 : Int32)), .val (.int (0 : Int32)), .unset] []))
  refine own_go (fun _ k => XS.iloadN X25.here hx rfl (hb hby d5_27) rfl k) ?_
  show own_R _ _ _ _ (T25.setTop (mkF m 28 #[.val (.ref a1), .val (.int (0 : Int32)), .val (.int (0 : Int32)), .val (.int (0 : Int32)), .unset] [(.int (0 : Int32))]))
  obtain ⟨T26, h26, k26, X26, e26, E26, A26, st26⟩ := newP X25 hx hZ (hw _ (List.mem_of_getElem? (i := 9) rfl)) e25 (g := (mkF m 28 #[.val (.ref a1), .val (.int (0 : Int32)), .val (.int (0 : Int32)), .val (.int (0 : Int32)), .unset] [(.int (0 : Int32))])) rfl (hb hby d5_28) rfl (by decide) (cap := 0) (by decide) (by decide) (by decide) (by decide)
  obtain ⟨b26, g26⟩ : ∃ z, z = h0.size := ⟨_, rfl⟩
  rw [← g26] at A26 st26
  refine own_go st26 ?_
  have ne_a1_b26 : a1 ≠ b26 := Nat.ne_of_lt (Nat.lt_of_lt_of_le F_parents_a1.lt (Nat.le_of_eq g26.symm))
  have ne_b1_b26 : b1 ≠ b26 := Nat.ne_of_lt (Nat.lt_of_lt_of_le V_b1.lt (Nat.le_of_eq g26.symm))
  have ne_b2_b26 : b2 ≠ b26 := Nat.ne_of_lt (Nat.lt_of_lt_of_le V_b2.lt (Nat.le_of_eq g26.symm))
  have g_b26 : n0 ≤ b26 := Nat.le_trans ZS (Nat.le_of_eq g26.symm)
  have sz_b26 : h0.size ≤ b26 := Nat.le_trans KP.1 (Nat.le_of_eq g26.symm)
  have F_parents_a1 := F_parents_a1.ext E26
  have F_branches_a1 := F_branches_a1.ext E26
  have V_b1 := V_b1.ext E26
  have V_b2 := V_b2.ext E26
  have ZS := Nat.le_trans ZS E26.1
  have KP := KP.ext E26
  have V_b26 : Arv Z h26 b26 k26 .int (0 : Int32) [] (.int (0 : Int32)) := (Arv.new A26 (by decide)).pad (pad_rep [] (.int (0 : Int32)) 0)
  show own_R _ _ _ _ (T26.setTop (mkF m 30 #[.val (.ref a1), .val (.int (0 : Int32)), .val (.int (0 : Int32)), .val (.int (0 : Int32)), .unset] [(.ref b26)]))
  refine own_go (fun _ k => XS.astoreN X26.here hx rfl (hb hby d5_30) rfl rfl (l' := #[.val (.ref a1), .val (.int (0 : Int32)), .val (.int (0 : Int32)), .val (.ref b26), .unset]) rfl k) ?_
  show own_R _ _ _ _ (T26.setTop (mkF m 31 #[.val (.ref a1), .val (.int (0 : Int32)), .val (.int (0 : Int32)), .val (.ref b26), .unset] []))
  refine own_go (fun _ k => XS.iloadN X26.here hx rfl (hb hby d5_31) rfl k) ?_
  show own_R _ _ _ _ (T26.setTop (mkF m 32 #[.val (.ref a1), .val (.int (0 : Int32)), .val (.int (0 : Int32)), .val (.ref b26), .unset] [(.int (0 : Int32))]))
  refine own_go (fun _ k => XS.istore X26.here hx rfl (hb hby d5_32) rfl (l' := #[.val (.ref a1), .val (.int (0 : Int32)), .val (.int (0 : Int32)), .val (.ref b26), .val (.int (0 : Int32))]) rfl k) ?_
  show own_R _ _ _ _ (T26.setTop (mkF m 34 #[.val (.ref a1), .val (.int (0 : Int32)), .val (.int (0 : Int32)), .val (.ref b26), .val (.int (0 : Int32))] []))
  refine own_go (fun _ k => XS.aloadN X26.here hx rfl (hb hby d5_34) rfl rfl k) ?_
  show own_R _ _ _ _ (T26.setTop (mkF m 35 #[.val (.ref a1), .val (.int (0 : Int32)), .val (.int (0 : Int32)), .val (.ref b26), .val (.int (0 : Int32))] [(.ref a1)]))
  obtain ⟨T27, X27, e27, st27⟩ := getF X26 hx hZ hown (host := "") (Or.inl (hw _ (List.mem_of_getElem? (i := 19) rfl))) Via.refl e26 F_parents_a1 (g := (mkF m 35 #[.val (.ref a1), .val (.int (0 : Int32)), .val (.int (0 : Int32)), .val (.ref b26), .val (.int (0 : Int32))] [(.ref a1)])) rfl rfl (hb hby d5_35)
  refine own_go st27 ?_
  show own_R _ _ _ _ (T27.setTop (mkF m 38 #[.val (.ref a1), .val (.int (0 : Int32)), .val (.int (0 : Int32)), .val (.ref b26), .val (.int (0 : Int32))] [(.ref b1)]))
  refine own_go (fun _ k => XS.iload X27.here hx rfl (hb hby d5_38) rfl k) ?_
  show own_R _ _ _ _ (T27.setTop (mkF m 40 #[.val (.ref a1), .val (.int (0 : Int32)), .val (.int (0 : Int32)), .val (.ref b26), .val (.int (0 : Int32))] [(.int (0 : Int32)), (.ref b1)]))
  refine own_go (own_ldI X27 hx hZ e27 V_b1 (j := (0 : Int32)) (i := 0) ⟨by decide, by decide⟩ rfl (v := (.int (-1 : Int32))) rfl (g := (mkF m 40 #[.val (.ref a1), .val (.int (0 : Int32)), .val (.int (0 : Int32)), .val (.ref b26), .val (.int (0 : Int32))] [(.int (0 : Int32)), (.ref b1)])) rfl rfl (hb hby d5_40)) ?_
  show own_R _ _ _ _ (T27.setTop (mkF m 41 #[.val (.ref a1), .val (.int (0 : Int32)), .val (.int (0 : Int32)), .val (.ref b26), .val (.int (0 : Int32))] [(.int (-1 : Int32))]))
  refine own_go (fun _ k => XS.iconst X27.here hx rfl (hb hby d5_41) k) ?_
  show own_R _ _ _ _ (T27.setTop (mkF m 42 #[.val (.ref a1), .val (.int (0 : Int32)), .val (.int (0 : Int32)), .val (.ref b26), .val (.int (0 : Int32))] [(.int (-1 : Int32)), (.int (-1 : Int32))]))
  refine own_go (fun _ k => XS.icmpYes X27.here hx rfl (pc0 := 42) (pc' := 70) rfl (hb hby d5_42) rfl (teq (by decide : (-1 : Int32) = (-1 : Int32))).1 (by decide) (by decide) k) ?_
  show own_R _ _ _ _ (T27.setTop (mkF m 70 #[.val (.ref a1), .val (.int (0 : Int32)), .val (.int (0 : Int32)), .val (.ref b26), .val (.int (0 : Int32))] []))
  refine own_go (fun _ k => XS.aloadN X27.here hx rfl (hb hby d5_70) rfl rfl k) ?_
  show own_R _ _ _ _ (T27.setTop (mkF m 71 #[.val (.ref a1), .val (.int (0 : Int32)), .val (.int (0 : Int32)), .val (.ref b26), .val (.int (0 : Int32))] [(.ref b26)]))
  exact own_retA X27 hx rfl rfl Bd.returns (hb hby d5_71) hlk (by rw [e27]; exact ⟨_, rfl, NF, KP, sz_b26, _, V_b26⟩) (by decide) (by decide)
theorem ef_5_1 (m : MethodId) (x0 : Addr) (x1 : Int32) : entryFrame m #[(.ref x0), (.int x1)] 5 = mkF m 0 #[.val (.ref x0), .val (.int x1), .unset, .unset, .unset] [] := by first | (simp [entryFrame, mkF, argsToLocals, Value.category]; done) | rfl
def Q5_1 (Z : State) (a1 : Addr) (b1 : Addr) (b2 : Addr) (k1 : ClassId) (k2 : ClassId) (x0 : Int32) (x1 : Int32) (x2 : Int32) (x3 : Int32) (x4 : Int32) (h0 : Heap) (n0 : Nat) (v : Option Value) (h : Heap) (L : List Loc) : Prop := ∃ b : Addr, v = some (.ref b) ∧ Fr n0 L ∧ Keep h0 h [] ∧ h0.size ≤ b ∧ ∃ k : ClassId, Arv Z h b k .int (1 : Int32) [(.int x1)] (.int (0 : Int32))
set_option maxRecDepth 65536 in
set_option maxHeartbeats 40000000 in
theorem rm5_1 (l : Launch) (Z : State) (a0 : Array Value) (hw : ∀ d ∈ tables_1, d.before a0 Z = true) (ws : List Jvm.Cond) (a1 : Addr) (b1 : Addr) (b2 : Addr) (k1 : ClassId) (k2 : ClassId) (x0 : Int32) (x1 : Int32) (x2 : Int32) (x3 : Int32) (x4 : Int32) (h0 : Heap) (n0 : Nat) (ZS : n0 ≤ h0.size) (F_parents_a1 : Fld Z h0 a1 "com/example/clearlot/clearlot/search/PartTree" "parents" "[I" (.ref b1)) (F_branches_a1 : Fld Z h0 a1 "com/example/clearlot/clearlot/search/PartTree" "branches" "[I" (.ref b2)) (V_b1 : Arv Z h0 b1 k1 .int (16 : Int32) [(.int (-1 : Int32)), (.int (0 : Int32)), (.int (1 : Int32)), (.int (0 : Int32)), (.int (2 : Int32)), (.int (0 : Int32)), (.int (0 : Int32)), (.int (0 : Int32)), (.int (0 : Int32)), (.int (0 : Int32)), (.int (0 : Int32)), (.int (0 : Int32)), (.int (0 : Int32)), (.int (0 : Int32)), (.int (0 : Int32)), (.int (0 : Int32))] (.int (0 : Int32))) (V_b2 : Arv Z h0 b2 k2 .int (16 : Int32) [(.int x0), (.int x1), (.int x2), (.int x3), (.int x4), (.int (0 : Int32)), (.int (0 : Int32)), (.int (0 : Int32)), (.int (0 : Int32)), (.int (0 : Int32)), (.int (0 : Int32)), (.int (0 : Int32)), (.int (0 : Int32)), (.int (0 : Int32)), (.int (0 : Int32)), (.int (0 : Int32))] (.int (0 : Int32))) :
    MetFree l (⟨"com/example/clearlot/clearlot/search/PartTree", "branches", "(I)[I"⟩ : MethodName) (head1 (Jvm.Cond.code (⟨"com/example/clearlot/clearlot/search/PartTree", "branches", "(I)[I"⟩ : MethodName) prog_65_method_9_code 5 (some (.array .int)) :: ws) ({ frames := 0, cells := 1, slots := 1, locals := 0 } : Room)) (fun a U => a = #[(.ref a1), (.int (1 : Int32))] ∧ Z.Warmed39 U.vm ∧ U.heap = h0) (fun _ _ _ _ _ => True) (fun _ U o U' => ∃ v L, o = .returned v ∧ Q5_1 Z a1 b1 b2 k1 k2 x0 x1 x2 x3 x4 h0 n0 v U'.heap L ∧ FrameEnd U o U' L ({ frames := 0, cells := 1, slots := 1, locals := 0 } : Room).cells ({ frames := 0, cells := 1, slots := 1, locals := 0 } : Room).slots) := by
  refine MetFree.of_bodySF (plainFor_of_name pn_1) hisR ?_
  intro p e s m args below meth c s₁ Bd hml0 hP hK
  obtain ⟨rfl, hZ, hh⟩ := hP
  have hx := Bd.exec
  have hby := Bd.bytes
  have hml : c.maxLocals = 5 := hml0
  have hown : s.vm.findClass "com/example/clearlot/clearlot/search/PartTree" = some m.cls := findClass_of_methodNamed Bd.named
  have hnm := (name_of_methodNamed Bd.named Bd.method).1
  have hlk : meth.locks = false := Bd.notSynchronized
  have X0 : Stand p l e ({ frames := 0, cells := 1, slots := 1, locals := 0 } : Room) s m #[(.ref a1), (.int (1 : Int32))] below meth c s₁ [] 0 0 := Stand.of_body Bd
  have e0 : s₁.heap = h0 := by rw [← hh, Bd.state]; rfl
  have NF := Fr.nil n0
  have KP : Keep h0 h0 [] := Keep.refl _ _
  refine own_fin (s := s) (Q := Q5_1 Z a1 b1 b2 k1 k2 x0 x1 x2 x3 x4 h0 n0) (rc := ({ frames := 0, cells := 1, slots := 1, locals := 0 } : Room).cells) (rs := ({ frames := 0, cells := 1, slots := 1, locals := 0 } : Room).slots) ?_
  refine own_go (fun t k => castTop (ef_5_1 m a1 (1 : Int32)) k) ?_
  show own_R _ _ _ _ (s₁.setTop (mkF m 0 #[.val (.ref a1), .val (.int (1 : Int32)), .unset, .unset, .unset] []))
  refine own_go (fun _ k => XS.iconst X0.here hx rfl (hb hby d5_0) k) ?_
  show own_R _ _ _ _ (s₁.setTop (mkF m 1 #[.val (.ref a1), .val (.int (1 : Int32)), .unset, .unset, .unset] [(.int (0 : Int32))]))
  refine own_go (fun _ k => XS.istoreN X0.here hx rfl (hb hby d5_1) rfl (l' := #[.val (.ref a1), .val (.int (1 : Int32)), .val (.int (0 : Int32)), .unset, .unset]) rfl k) ?_
  show own_R _ _ _ _ (s₁.setTop (mkF m 2 #[.val (.ref a1), .val (.int (1 : Int32)), .val (.int (0 : Int32)), .unset, .unset] []))
  refine own_go (fun _ k => XS.iloadN X0.here hx rfl (hb hby d5_2) rfl k) ?_
  show own_R _ _ _ _ (s₁.setTop (mkF m 3 #[.val (.ref a1), .val (.int (1 : Int32)), .val (.int (0 : Int32)), .unset, .unset] [(.int (1 : Int32))]))
  refine own_go (fun _ k => XS.istoreN X0.here hx rfl (hb hby d5_3) rfl (l' := #[.val (.ref a1), .val (.int (1 : Int32)), .val (.int (0 : Int32)), .val (.int (1 : Int32)), .unset]) rfl k) ?_
  show own_R _ _ _ _ (s₁.setTop (mkF m 4 #[.val (.ref a1), .val (.int (1 : Int32)), .val (.int (0 : Int32)), .val (.int (1 : Int32)), .unset] []))
  refine own_go (fun _ k => XS.aloadN X0.here hx rfl (hb hby d5_4) rfl rfl k) ?_
  show own_R _ _ _ _ (s₁.setTop (mkF m 5 #[.val (.ref a1), .val (.int (1 : Int32)), .val (.int (0 : Int32)), .val (.int (1 : Int32)), .unset] [(.ref a1)]))
  obtain ⟨T28, X28, e28, st28⟩ := getF X0 hx hZ hown (host := "") (Or.inl (hw _ (List.mem_of_getElem? (i := 19) rfl))) Via.refl e0 F_parents_a1 (g := (mkF m 5 #[.val (.ref a1), .val (.int (1 : Int32)), .val (.int (0 : Int32)), .val (.int (1 : Int32)), .unset] [(.ref a1)])) rfl rfl (hb hby d5_5)
  refine own_go st28 ?_
  show own_R _ _ _ _ (T28.setTop (mkF m 8 #[.val (.ref a1), .val (.int (1 : Int32)), .val (.int (0 : Int32)), .val (.int (1 : Int32)), .unset] [(.ref b1)]))
  refine own_go (fun _ k => XS.iloadN X28.here hx rfl (hb hby d5_8) rfl k) ?_
  show own_R _ _ _ _ (T28.setTop (mkF m 9 #[.val (.ref a1), .val (.int (1 : Int32)), .val (.int (0 : Int32)), .val (.int (1 : Int32)), .unset] [(.int (1 : Int32)), (.ref b1)]))
  refine own_go (own_ldI X28 hx hZ e28 V_b1 (j := (1 : Int32)) (i := 1) ⟨by decide, by decide⟩ rfl (v := (.int (0 : Int32))) rfl (g := (mkF m 9 #[.val (.ref a1), .val (.int (1 : Int32)), .val (.int (0 : Int32)), .val (.int (1 : Int32)), .unset] [(.int (1 : Int32)), (.ref b1)])) rfl rfl (hb hby d5_9)) ?_
  show own_R _ _ _ _ (T28.setTop (mkF m 10 #[.val (.ref a1), .val (.int (1 : Int32)), .val (.int (0 : Int32)), .val (.int (1 : Int32)), .unset] [(.int (0 : Int32))]))
  refine own_go (fun _ k => XS.iconst X28.here hx rfl (hb hby d5_10) k) ?_
  show own_R _ _ _ _ (T28.setTop (mkF m 11 #[.val (.ref a1), .val (.int (1 : Int32)), .val (.int (0 : Int32)), .val (.int (1 : Int32)), .unset] [(.int (-1 : Int32)), (.int (0 : Int32))]))
  refine own_go (fun _ k => XS.icmpNo X28.here hx rfl (hb hby d5_11) rfl (feq (by decide : ¬ ((0 : Int32) = (-1 : Int32)))).1 k) ?_
  show own_R _ _ _ _ (T28.setTop (mkF m 14 #[.val (.ref a1), .val (.int (1 : Int32)), .val (.int (0 : Int32)), .val (.int (1 : Int32)), .unset] []))
  refine own_go (fun _ k => XS.iinc X28.here hx rfl (hb hby d5_14) rfl (l' := #[.val (.ref a1), .val (.int (1 : Int32)), .val (.int (1 : Int32)), .val (.int (1 : Int32)), .unset]) rfl k) ?_
  show own_R _ _ _ _ (T28.setTop (mkF m 17 #[.val (.ref a1), .val (.int (1 : Int32)), .val (.int (1 : Int32)), .val (.int (1 : Int32)), .unset] []))
  refine own_go (fun _ k => XS.aloadN X28.here hx rfl (hb hby d5_17) rfl rfl k) ?_
  show own_R _ _ _ _ (T28.setTop (mkF m 18 #[.val (.ref a1), .val (.int (1 : Int32)), .val (.int (1 : Int32)), .val (.int (1 : Int32)), .unset] [(.ref a1)]))
  obtain ⟨T29, X29, e29, st29⟩ := getF X28 hx hZ hown (host := "") (Or.inl (hw _ (List.mem_of_getElem? (i := 19) rfl))) Via.refl e28 F_parents_a1 (g := (mkF m 18 #[.val (.ref a1), .val (.int (1 : Int32)), .val (.int (1 : Int32)), .val (.int (1 : Int32)), .unset] [(.ref a1)])) rfl rfl (hb hby d5_18)
  refine own_go st29 ?_
  show own_R _ _ _ _ (T29.setTop (mkF m 21 #[.val (.ref a1), .val (.int (1 : Int32)), .val (.int (1 : Int32)), .val (.int (1 : Int32)), .unset] [(.ref b1)]))
  refine own_go (fun _ k => XS.iloadN X29.here hx rfl (hb hby d5_21) rfl k) ?_
  show own_R _ _ _ _ (T29.setTop (mkF m 22 #[.val (.ref a1), .val (.int (1 : Int32)), .val (.int (1 : Int32)), .val (.int (1 : Int32)), .unset] [(.int (1 : Int32)), (.ref b1)]))
  refine own_go (own_ldI X29 hx hZ e29 V_b1 (j := (1 : Int32)) (i := 1) ⟨by decide, by decide⟩ rfl (v := (.int (0 : Int32))) rfl (g := (mkF m 22 #[.val (.ref a1), .val (.int (1 : Int32)), .val (.int (1 : Int32)), .val (.int (1 : Int32)), .unset] [(.int (1 : Int32)), (.ref b1)])) rfl rfl (hb hby d5_22)) ?_
  show own_R _ _ _ _ (T29.setTop (mkF m 23 #[.val (.ref a1), .val (.int (1 : Int32)), .val (.int (1 : Int32)), .val (.int (1 : Int32)), .unset] [(.int (0 : Int32))]))
  refine own_go (fun _ k => XS.istoreN X29.here hx rfl (hb hby d5_23) rfl (l' := #[.val (.ref a1), .val (.int (1 : Int32)), .val (.int (1 : Int32)), .val (.int (0 : Int32)), .unset]) rfl k) ?_
  show own_R _ _ _ _ (T29.setTop (mkF m 24 #[.val (.ref a1), .val (.int (1 : Int32)), .val (.int (1 : Int32)), .val (.int (0 : Int32)), .unset] []))
  refine own_go (fun _ k => XS.goto X29.here hx rfl (pc0 := 24) (pc' := 4) rfl (hb hby d5_24) (by decide) (by decide) k) ?_
  show own_R _ _ _ _ (T29.setTop (mkF m 4 #[.val (.ref a1), .val (.int (1 : Int32)), .val (.int (1 : Int32)), .val (.int (0 : Int32)), .unset] []))
  refine own_go (fun _ k => XS.aloadN X29.here hx rfl (hb hby d5_4) rfl rfl k) ?_
  show own_R _ _ _ _ (T29.setTop (mkF m 5 #[.val (.ref a1), .val (.int (1 : Int32)), .val (.int (1 : Int32)), .val (.int (0 : Int32)), .unset] [(.ref a1)]))
  obtain ⟨T30, X30, e30, st30⟩ := getF X29 hx hZ hown (host := "") (Or.inl (hw _ (List.mem_of_getElem? (i := 19) rfl))) Via.refl e29 F_parents_a1 (g := (mkF m 5 #[.val (.ref a1), .val (.int (1 : Int32)), .val (.int (1 : Int32)), .val (.int (0 : Int32)), .unset] [(.ref a1)])) rfl rfl (hb hby d5_5)
  refine own_go st30 ?_
  show own_R _ _ _ _ (T30.setTop (mkF m 8 #[.val (.ref a1), .val (.int (1 : Int32)), .val (.int (1 : Int32)), .val (.int (0 : Int32)), .unset] [(.ref b1)]))
  refine own_go (fun _ k => XS.iloadN X30.here hx rfl (hb hby d5_8) rfl k) ?_
  show own_R _ _ _ _ (T30.setTop (mkF m 9 #[.val (.ref a1), .val (.int (1 : Int32)), .val (.int (1 : Int32)), .val (.int (0 : Int32)), .unset] [(.int (0 : Int32)), (.ref b1)]))
  refine own_go (own_ldI X30 hx hZ e30 V_b1 (j := (0 : Int32)) (i := 0) ⟨by decide, by decide⟩ rfl (v := (.int (-1 : Int32))) rfl (g := (mkF m 9 #[.val (.ref a1), .val (.int (1 : Int32)), .val (.int (1 : Int32)), .val (.int (0 : Int32)), .unset] [(.int (0 : Int32)), (.ref b1)])) rfl rfl (hb hby d5_9)) ?_
  show own_R _ _ _ _ (T30.setTop (mkF m 10 #[.val (.ref a1), .val (.int (1 : Int32)), .val (.int (1 : Int32)), .val (.int (0 : Int32)), .unset] [(.int (-1 : Int32))]))
  refine own_go (fun _ k => XS.iconst X30.here hx rfl (hb hby d5_10) k) ?_
  show own_R _ _ _ _ (T30.setTop (mkF m 11 #[.val (.ref a1), .val (.int (1 : Int32)), .val (.int (1 : Int32)), .val (.int (0 : Int32)), .unset] [(.int (-1 : Int32)), (.int (-1 : Int32))]))
  refine own_go (fun _ k => XS.icmpYes X30.here hx rfl (pc0 := 11) (pc' := 27) rfl (hb hby d5_11) rfl (teq (by decide : (-1 : Int32) = (-1 : Int32))).1 (by decide) (by decide) k) ?_
  show own_R _ _ _ _ (T30.setTop (mkF m 27 #[.val (.ref a1), .val (.int (1 : Int32)), .val (.int (1 : Int32)), .val (.int (0 : Int32)), .unset] []))
  refine own_go (fun _ k => XS.iloadN X30.here hx rfl (hb hby d5_27) rfl k) ?_
  show own_R _ _ _ _ (T30.setTop (mkF m 28 #[.val (.ref a1), .val (.int (1 : Int32)), .val (.int (1 : Int32)), .val (.int (0 : Int32)), .unset] [(.int (1 : Int32))]))
  obtain ⟨T31, h31, k31, X31, e31, E31, A31, st31⟩ := newP X30 hx hZ (hw _ (List.mem_of_getElem? (i := 9) rfl)) e30 (g := (mkF m 28 #[.val (.ref a1), .val (.int (1 : Int32)), .val (.int (1 : Int32)), .val (.int (0 : Int32)), .unset] [(.int (1 : Int32))])) rfl (hb hby d5_28) rfl (by decide) (cap := 1) (by decide) (by decide) (by decide) (by decide)
  obtain ⟨b31, g31⟩ : ∃ z, z = h0.size := ⟨_, rfl⟩
  rw [← g31] at A31 st31
  refine own_go st31 ?_
  have ne_a1_b31 : a1 ≠ b31 := Nat.ne_of_lt (Nat.lt_of_lt_of_le F_parents_a1.lt (Nat.le_of_eq g31.symm))
  have ne_b1_b31 : b1 ≠ b31 := Nat.ne_of_lt (Nat.lt_of_lt_of_le V_b1.lt (Nat.le_of_eq g31.symm))
  have ne_b2_b31 : b2 ≠ b31 := Nat.ne_of_lt (Nat.lt_of_lt_of_le V_b2.lt (Nat.le_of_eq g31.symm))
  have g_b31 : n0 ≤ b31 := Nat.le_trans ZS (Nat.le_of_eq g31.symm)
  have sz_b31 : h0.size ≤ b31 := Nat.le_trans KP.1 (Nat.le_of_eq g31.symm)
  have F_parents_a1 := F_parents_a1.ext E31
  have F_branches_a1 := F_branches_a1.ext E31
  have V_b1 := V_b1.ext E31
  have V_b2 := V_b2.ext E31
  have ZS := Nat.le_trans ZS E31.1
  have KP := KP.ext E31
  have V_b31 : Arv Z h31 b31 k31 .int (1 : Int32) [(.int (0 : Int32))] (.int (0 : Int32)) := (Arv.new A31 (by decide)).pad (pad_rep [] (.int (0 : Int32)) 1)
  show own_R _ _ _ _ (T31.setTop (mkF m 30 #[.val (.ref a1), .val (.int (1 : Int32)), .val (.int (1 : Int32)), .val (.int (0 : Int32)), .unset] [(.ref b31)]))
  refine own_go (fun _ k => XS.astoreN X31.here hx rfl (hb hby d5_30) rfl rfl (l' := #[.val (.ref a1), .val (.int (1 : Int32)), .val (.int (1 : Int32)), .val (.ref b31), .unset]) rfl k) ?_
  show own_R _ _ _ _ (T31.setTop (mkF m 31 #[.val (.ref a1), .val (.int (1 : Int32)), .val (.int (1 : Int32)), .val (.ref b31), .unset] []))
  refine own_go (fun _ k => XS.iloadN X31.here hx rfl (hb hby d5_31) rfl k) ?_
  show own_R _ _ _ _ (T31.setTop (mkF m 32 #[.val (.ref a1), .val (.int (1 : Int32)), .val (.int (1 : Int32)), .val (.ref b31), .unset] [(.int (1 : Int32))]))
  refine own_go (fun _ k => XS.istore X31.here hx rfl (hb hby d5_32) rfl (l' := #[.val (.ref a1), .val (.int (1 : Int32)), .val (.int (1 : Int32)), .val (.ref b31), .val (.int (1 : Int32))]) rfl k) ?_
  show own_R _ _ _ _ (T31.setTop (mkF m 34 #[.val (.ref a1), .val (.int (1 : Int32)), .val (.int (1 : Int32)), .val (.ref b31), .val (.int (1 : Int32))] []))
  refine own_go (fun _ k => XS.aloadN X31.here hx rfl (hb hby d5_34) rfl rfl k) ?_
  show own_R _ _ _ _ (T31.setTop (mkF m 35 #[.val (.ref a1), .val (.int (1 : Int32)), .val (.int (1 : Int32)), .val (.ref b31), .val (.int (1 : Int32))] [(.ref a1)]))
  obtain ⟨T32, X32, e32, st32⟩ := getF X31 hx hZ hown (host := "") (Or.inl (hw _ (List.mem_of_getElem? (i := 19) rfl))) Via.refl e31 F_parents_a1 (g := (mkF m 35 #[.val (.ref a1), .val (.int (1 : Int32)), .val (.int (1 : Int32)), .val (.ref b31), .val (.int (1 : Int32))] [(.ref a1)])) rfl rfl (hb hby d5_35)
  refine own_go st32 ?_
  show own_R _ _ _ _ (T32.setTop (mkF m 38 #[.val (.ref a1), .val (.int (1 : Int32)), .val (.int (1 : Int32)), .val (.ref b31), .val (.int (1 : Int32))] [(.ref b1)]))
  refine own_go (fun _ k => XS.iload X32.here hx rfl (hb hby d5_38) rfl k) ?_
  show own_R _ _ _ _ (T32.setTop (mkF m 40 #[.val (.ref a1), .val (.int (1 : Int32)), .val (.int (1 : Int32)), .val (.ref b31), .val (.int (1 : Int32))] [(.int (1 : Int32)), (.ref b1)]))
  refine own_go (own_ldI X32 hx hZ e32 V_b1 (j := (1 : Int32)) (i := 1) ⟨by decide, by decide⟩ rfl (v := (.int (0 : Int32))) rfl (g := (mkF m 40 #[.val (.ref a1), .val (.int (1 : Int32)), .val (.int (1 : Int32)), .val (.ref b31), .val (.int (1 : Int32))] [(.int (1 : Int32)), (.ref b1)])) rfl rfl (hb hby d5_40)) ?_
  show own_R _ _ _ _ (T32.setTop (mkF m 41 #[.val (.ref a1), .val (.int (1 : Int32)), .val (.int (1 : Int32)), .val (.ref b31), .val (.int (1 : Int32))] [(.int (0 : Int32))]))
  refine own_go (fun _ k => XS.iconst X32.here hx rfl (hb hby d5_41) k) ?_
  show own_R _ _ _ _ (T32.setTop (mkF m 42 #[.val (.ref a1), .val (.int (1 : Int32)), .val (.int (1 : Int32)), .val (.ref b31), .val (.int (1 : Int32))] [(.int (-1 : Int32)), (.int (0 : Int32))]))
  refine own_go (fun _ k => XS.icmpNo X32.here hx rfl (hb hby d5_42) rfl (feq (by decide : ¬ ((0 : Int32) = (-1 : Int32)))).1 k) ?_
  show own_R _ _ _ _ (T32.setTop (mkF m 45 #[.val (.ref a1), .val (.int (1 : Int32)), .val (.int (1 : Int32)), .val (.ref b31), .val (.int (1 : Int32))] []))
  refine own_go (fun _ k => XS.aloadN X32.here hx rfl (hb hby d5_45) rfl rfl k) ?_
  show own_R _ _ _ _ (T32.setTop (mkF m 46 #[.val (.ref a1), .val (.int (1 : Int32)), .val (.int (1 : Int32)), .val (.ref b31), .val (.int (1 : Int32))] [(.ref b31)]))
  refine own_go (fun _ k => XS.iinc X32.here hx rfl (hb hby d5_46) rfl (l' := #[.val (.ref a1), .val (.int (1 : Int32)), .val (.int (0 : Int32)), .val (.ref b31), .val (.int (1 : Int32))]) rfl k) ?_
  show own_R _ _ _ _ (T32.setTop (mkF m 49 #[.val (.ref a1), .val (.int (1 : Int32)), .val (.int (0 : Int32)), .val (.ref b31), .val (.int (1 : Int32))] [(.ref b31)]))
  refine own_go (fun _ k => XS.iloadN X32.here hx rfl (hb hby d5_49) rfl k) ?_
  show own_R _ _ _ _ (T32.setTop (mkF m 50 #[.val (.ref a1), .val (.int (1 : Int32)), .val (.int (0 : Int32)), .val (.ref b31), .val (.int (1 : Int32))] [(.int (0 : Int32)), (.ref b31)]))
  refine own_go (fun _ k => XS.aloadN X32.here hx rfl (hb hby d5_50) rfl rfl k) ?_
  show own_R _ _ _ _ (T32.setTop (mkF m 51 #[.val (.ref a1), .val (.int (1 : Int32)), .val (.int (0 : Int32)), .val (.ref b31), .val (.int (1 : Int32))] [(.ref a1), (.int (0 : Int32)), (.ref b31)]))
  obtain ⟨T33, X33, e33, st33⟩ := getF X32 hx hZ hown (host := "") (Or.inl (hw _ (List.mem_of_getElem? (i := 21) rfl))) Via.refl e32 F_branches_a1 (g := (mkF m 51 #[.val (.ref a1), .val (.int (1 : Int32)), .val (.int (0 : Int32)), .val (.ref b31), .val (.int (1 : Int32))] [(.ref a1), (.int (0 : Int32)), (.ref b31)])) rfl rfl (hb hby d5_51)
  refine own_go st33 ?_
  show own_R _ _ _ _ (T33.setTop (mkF m 54 #[.val (.ref a1), .val (.int (1 : Int32)), .val (.int (0 : Int32)), .val (.ref b31), .val (.int (1 : Int32))] [(.ref b2), (.int (0 : Int32)), (.ref b31)]))
  refine own_go (fun _ k => XS.iload X33.here hx rfl (hb hby d5_54) rfl k) ?_
  show own_R _ _ _ _ (T33.setTop (mkF m 56 #[.val (.ref a1), .val (.int (1 : Int32)), .val (.int (0 : Int32)), .val (.ref b31), .val (.int (1 : Int32))] [(.int (1 : Int32)), (.ref b2), (.int (0 : Int32)), (.ref b31)]))
  refine own_go (own_ldI X33 hx hZ e33 V_b2 (j := (1 : Int32)) (i := 1) ⟨by decide, by decide⟩ rfl (v := (.int x1)) rfl (g := (mkF m 56 #[.val (.ref a1), .val (.int (1 : Int32)), .val (.int (0 : Int32)), .val (.ref b31), .val (.int (1 : Int32))] [(.int (1 : Int32)), (.ref b2), (.int (0 : Int32)), (.ref b31)])) rfl rfl (hb hby d5_56)) ?_
  show own_R _ _ _ _ (T33.setTop (mkF m 57 #[.val (.ref a1), .val (.int (1 : Int32)), .val (.int (0 : Int32)), .val (.ref b31), .val (.int (1 : Int32))] [(.int x1), (.int (0 : Int32)), (.ref b31)]))
  obtain ⟨T34, h34, sl34, X34, e34, W34, V34, st34⟩ := own_stI X33 hx hZ e33 V_b31 (j := (0 : Int32)) (i := 0) ⟨by decide, by decide⟩ rfl (Nat.le_of_ble_eq_true rfl) rfl (g := (mkF m 57 #[.val (.ref a1), .val (.int (1 : Int32)), .val (.int (0 : Int32)), .val (.ref b31), .val (.int (1 : Int32))] [(.int x1), (.int (0 : Int32)), (.ref b31)])) rfl rfl (hb hby d5_57)
  refine own_go st34 ?_
  have F_parents_a1 := F_parents_a1.other W34 (Or.inl ne_a1_b31)
  have F_branches_a1 := F_branches_a1.other W34 (Or.inl ne_a1_b31)
  have V_b1 := V_b1.other W34 ne_b1_b31
  have V_b2 := V_b2.other W34 ne_b2_b31
  have ZS := Nat.le_trans ZS (Keep.of_wr W34).1
  have KP := KP.wr W34 (Or.inr sz_b31)
  have NF := Fr.snoc X34 NF g_b31
  have V_b31 : Arv Z h34 b31 k31 .int (1 : Int32) [(.int x1)] (.int (0 : Int32)) := V34
  show own_R _ _ _ _ (T34.setTop (mkF m 58 #[.val (.ref a1), .val (.int (1 : Int32)), .val (.int (0 : Int32)), .val (.ref b31), .val (.int (1 : Int32))] []))
  refine own_go (fun _ k => XS.aloadN X34.here hx rfl (hb hby d5_58) rfl rfl k) ?_
  show own_R _ _ _ _ (T34.setTop (mkF m 59 #[.val (.ref a1), .val (.int (1 : Int32)), .val (.int (0 : Int32)), .val (.ref b31), .val (.int (1 : Int32))] [(.ref a1)]))
  obtain ⟨T35, X35, e35, st35⟩ := getF X34 hx hZ hown (host := "") (Or.inl (hw _ (List.mem_of_getElem? (i := 19) rfl))) Via.refl e34 F_parents_a1 (g := (mkF m 59 #[.val (.ref a1), .val (.int (1 : Int32)), .val (.int (0 : Int32)), .val (.ref b31), .val (.int (1 : Int32))] [(.ref a1)])) rfl rfl (hb hby d5_59)
  refine own_go st35 ?_
  show own_R _ _ _ _ (T35.setTop (mkF m 62 #[.val (.ref a1), .val (.int (1 : Int32)), .val (.int (0 : Int32)), .val (.ref b31), .val (.int (1 : Int32))] [(.ref b1)]))
  refine own_go (fun _ k => XS.iload X35.here hx rfl (hb hby d5_62) rfl k) ?_
  show own_R _ _ _ _ (T35.setTop (mkF m 64 #[.val (.ref a1), .val (.int (1 : Int32)), .val (.int (0 : Int32)), .val (.ref b31), .val (.int (1 : Int32))] [(.int (1 : Int32)), (.ref b1)]))
  refine own_go (own_ldI X35 hx hZ e35 V_b1 (j := (1 : Int32)) (i := 1) ⟨by decide, by decide⟩ rfl (v := (.int (0 : Int32))) rfl (g := (mkF m 64 #[.val (.ref a1), .val (.int (1 : Int32)), .val (.int (0 : Int32)), .val (.ref b31), .val (.int (1 : Int32))] [(.int (1 : Int32)), (.ref b1)])) rfl rfl (hb hby d5_64)) ?_
  show own_R _ _ _ _ (T35.setTop (mkF m 65 #[.val (.ref a1), .val (.int (1 : Int32)), .val (.int (0 : Int32)), .val (.ref b31), .val (.int (1 : Int32))] [(.int (0 : Int32))]))
  refine own_go (fun _ k => XS.istore X35.here hx rfl (hb hby d5_65) rfl (l' := #[.val (.ref a1), .val (.int (1 : Int32)), .val (.int (0 : Int32)), .val (.ref b31), .val (.int (0 : Int32))]) rfl k) ?_
  show own_R _ _ _ _ (T35.setTop (mkF m 67 #[.val (.ref a1), .val (.int (1 : Int32)), .val (.int (0 : Int32)), .val (.ref b31), .val (.int (0 : Int32))] []))
  refine own_go (fun _ k => XS.goto X35.here hx rfl (pc0 := 67) (pc' := 34) rfl (hb hby d5_67) (by decide) (by decide) k) ?_
  show own_R _ _ _ _ (T35.setTop (mkF m 34 #[.val (.ref a1), .val (.int (1 : Int32)), .val (.int (0 : Int32)), .val (.ref b31), .val (.int (0 : Int32))] []))
  refine own_go (fun _ k => XS.aloadN X35.here hx rfl (hb hby d5_34) rfl rfl k) ?_
  show own_R _ _ _ _ (T35.setTop (mkF m 35 #[.val (.ref a1), .val (.int (1 : Int32)), .val (.int (0 : Int32)), .val (.ref b31), .val (.int (0 : Int32))] [(.ref a1)]))
  obtain ⟨T36, X36, e36, st36⟩ := getF X35 hx hZ hown (host := "") (Or.inl (hw _ (List.mem_of_getElem? (i := 19) rfl))) Via.refl e35 F_parents_a1 (g := (mkF m 35 #[.val (.ref a1), .val (.int (1 : Int32)), .val (.int (0 : Int32)), .val (.ref b31), .val (.int (0 : Int32))] [(.ref a1)])) rfl rfl (hb hby d5_35)
  refine own_go st36 ?_
  show own_R _ _ _ _ (T36.setTop (mkF m 38 #[.val (.ref a1), .val (.int (1 : Int32)), .val (.int (0 : Int32)), .val (.ref b31), .val (.int (0 : Int32))] [(.ref b1)]))
  refine own_go (fun _ k => XS.iload X36.here hx rfl (hb hby d5_38) rfl k) ?_
  show own_R _ _ _ _ (T36.setTop (mkF m 40 #[.val (.ref a1), .val (.int (1 : Int32)), .val (.int (0 : Int32)), .val (.ref b31), .val (.int (0 : Int32))] [(.int (0 : Int32)), (.ref b1)]))
  refine own_go (own_ldI X36 hx hZ e36 V_b1 (j := (0 : Int32)) (i := 0) ⟨by decide, by decide⟩ rfl (v := (.int (-1 : Int32))) rfl (g := (mkF m 40 #[.val (.ref a1), .val (.int (1 : Int32)), .val (.int (0 : Int32)), .val (.ref b31), .val (.int (0 : Int32))] [(.int (0 : Int32)), (.ref b1)])) rfl rfl (hb hby d5_40)) ?_
  show own_R _ _ _ _ (T36.setTop (mkF m 41 #[.val (.ref a1), .val (.int (1 : Int32)), .val (.int (0 : Int32)), .val (.ref b31), .val (.int (0 : Int32))] [(.int (-1 : Int32))]))
  refine own_go (fun _ k => XS.iconst X36.here hx rfl (hb hby d5_41) k) ?_
  show own_R _ _ _ _ (T36.setTop (mkF m 42 #[.val (.ref a1), .val (.int (1 : Int32)), .val (.int (0 : Int32)), .val (.ref b31), .val (.int (0 : Int32))] [(.int (-1 : Int32)), (.int (-1 : Int32))]))
  refine own_go (fun _ k => XS.icmpYes X36.here hx rfl (pc0 := 42) (pc' := 70) rfl (hb hby d5_42) rfl (teq (by decide : (-1 : Int32) = (-1 : Int32))).1 (by decide) (by decide) k) ?_
  show own_R _ _ _ _ (T36.setTop (mkF m 70 #[.val (.ref a1), .val (.int (1 : Int32)), .val (.int (0 : Int32)), .val (.ref b31), .val (.int (0 : Int32))] []))
  refine own_go (fun _ k => XS.aloadN X36.here hx rfl (hb hby d5_70) rfl rfl k) ?_
  show own_R _ _ _ _ (T36.setTop (mkF m 71 #[.val (.ref a1), .val (.int (1 : Int32)), .val (.int (0 : Int32)), .val (.ref b31), .val (.int (0 : Int32))] [(.ref b31)]))
  exact own_retA X36 hx rfl rfl Bd.returns (hb hby d5_71) hlk (by rw [e36]; exact ⟨_, rfl, NF, KP, sz_b31, _, V_b31⟩) (by decide) (by decide)
theorem ef_5_2 (m : MethodId) (x0 : Addr) (x1 : Int32) : entryFrame m #[(.ref x0), (.int x1)] 5 = mkF m 0 #[.val (.ref x0), .val (.int x1), .unset, .unset, .unset] [] := by first | (simp [entryFrame, mkF, argsToLocals, Value.category]; done) | rfl
def Q5_2 (Z : State) (a1 : Addr) (b1 : Addr) (b2 : Addr) (k1 : ClassId) (k2 : ClassId) (x0 : Int32) (x1 : Int32) (x2 : Int32) (x3 : Int32) (x4 : Int32) (h0 : Heap) (n0 : Nat) (v : Option Value) (h : Heap) (L : List Loc) : Prop := ∃ b : Addr, v = some (.ref b) ∧ Fr n0 L ∧ Keep h0 h [] ∧ h0.size ≤ b ∧ ∃ k : ClassId, Arv Z h b k .int (2 : Int32) [(.int x1), (.int x2)] (.int (0 : Int32))
set_option maxRecDepth 65536 in
set_option maxHeartbeats 40000000 in
theorem rm5_2 (l : Launch) (Z : State) (a0 : Array Value) (hw : ∀ d ∈ tables_1, d.before a0 Z = true) (ws : List Jvm.Cond) (a1 : Addr) (b1 : Addr) (b2 : Addr) (k1 : ClassId) (k2 : ClassId) (x0 : Int32) (x1 : Int32) (x2 : Int32) (x3 : Int32) (x4 : Int32) (h0 : Heap) (n0 : Nat) (ZS : n0 ≤ h0.size) (F_parents_a1 : Fld Z h0 a1 "com/example/clearlot/clearlot/search/PartTree" "parents" "[I" (.ref b1)) (F_branches_a1 : Fld Z h0 a1 "com/example/clearlot/clearlot/search/PartTree" "branches" "[I" (.ref b2)) (V_b1 : Arv Z h0 b1 k1 .int (16 : Int32) [(.int (-1 : Int32)), (.int (0 : Int32)), (.int (1 : Int32)), (.int (0 : Int32)), (.int (2 : Int32)), (.int (0 : Int32)), (.int (0 : Int32)), (.int (0 : Int32)), (.int (0 : Int32)), (.int (0 : Int32)), (.int (0 : Int32)), (.int (0 : Int32)), (.int (0 : Int32)), (.int (0 : Int32)), (.int (0 : Int32)), (.int (0 : Int32))] (.int (0 : Int32))) (V_b2 : Arv Z h0 b2 k2 .int (16 : Int32) [(.int x0), (.int x1), (.int x2), (.int x3), (.int x4), (.int (0 : Int32)), (.int (0 : Int32)), (.int (0 : Int32)), (.int (0 : Int32)), (.int (0 : Int32)), (.int (0 : Int32)), (.int (0 : Int32)), (.int (0 : Int32)), (.int (0 : Int32)), (.int (0 : Int32)), (.int (0 : Int32))] (.int (0 : Int32))) :
    MetFree l (⟨"com/example/clearlot/clearlot/search/PartTree", "branches", "(I)[I"⟩ : MethodName) (head1 (Jvm.Cond.code (⟨"com/example/clearlot/clearlot/search/PartTree", "branches", "(I)[I"⟩ : MethodName) prog_65_method_9_code 5 (some (.array .int)) :: ws) ({ frames := 0, cells := 1, slots := 2, locals := 0 } : Room)) (fun a U => a = #[(.ref a1), (.int (2 : Int32))] ∧ Z.Warmed39 U.vm ∧ U.heap = h0) (fun _ _ _ _ _ => True) (fun _ U o U' => ∃ v L, o = .returned v ∧ Q5_2 Z a1 b1 b2 k1 k2 x0 x1 x2 x3 x4 h0 n0 v U'.heap L ∧ FrameEnd U o U' L ({ frames := 0, cells := 1, slots := 2, locals := 0 } : Room).cells ({ frames := 0, cells := 1, slots := 2, locals := 0 } : Room).slots) := by
  refine MetFree.of_bodySF (plainFor_of_name pn_1) hisR ?_
  intro p e s m args below meth c s₁ Bd hml0 hP hK
  obtain ⟨rfl, hZ, hh⟩ := hP
  have hx := Bd.exec
  have hby := Bd.bytes
  have hml : c.maxLocals = 5 := hml0
  have hown : s.vm.findClass "com/example/clearlot/clearlot/search/PartTree" = some m.cls := findClass_of_methodNamed Bd.named
  have hnm := (name_of_methodNamed Bd.named Bd.method).1
  have hlk : meth.locks = false := Bd.notSynchronized
  have X0 : Stand p l e ({ frames := 0, cells := 1, slots := 2, locals := 0 } : Room) s m #[(.ref a1), (.int (2 : Int32))] below meth c s₁ [] 0 0 := Stand.of_body Bd
  have e0 : s₁.heap = h0 := by rw [← hh, Bd.state]; rfl
  have NF := Fr.nil n0
  have KP : Keep h0 h0 [] := Keep.refl _ _
  refine own_fin (s := s) (Q := Q5_2 Z a1 b1 b2 k1 k2 x0 x1 x2 x3 x4 h0 n0) (rc := ({ frames := 0, cells := 1, slots := 2, locals := 0 } : Room).cells) (rs := ({ frames := 0, cells := 1, slots := 2, locals := 0 } : Room).slots) ?_
  refine own_go (fun t k => castTop (ef_5_2 m a1 (2 : Int32)) k) ?_
  show own_R _ _ _ _ (s₁.setTop (mkF m 0 #[.val (.ref a1), .val (.int (2 : Int32)), .unset, .unset, .unset] []))
  refine own_go (fun _ k => XS.iconst X0.here hx rfl (hb hby d5_0) k) ?_
  show own_R _ _ _ _ (s₁.setTop (mkF m 1 #[.val (.ref a1), .val (.int (2 : Int32)), .unset, .unset, .unset] [(.int (0 : Int32))]))
  refine own_go (fun _ k => XS.istoreN X0.here hx rfl (hb hby d5_1) rfl (l' := #[.val (.ref a1), .val (.int (2 : Int32)), .val (.int (0 : Int32)), .unset, .unset]) rfl k) ?_
  show own_R _ _ _ _ (s₁.setTop (mkF m 2 #[.val (.ref a1), .val (.int (2 : Int32)), .val (.int (0 : Int32)), .unset, .unset] []))
  refine own_go (fun _ k => XS.iloadN X0.here hx rfl (hb hby d5_2) rfl k) ?_
  show own_R _ _ _ _ (s₁.setTop (mkF m 3 #[.val (.ref a1), .val (.int (2 : Int32)), .val (.int (0 : Int32)), .unset, .unset] [(.int (2 : Int32))]))
  refine own_go (fun _ k => XS.istoreN X0.here hx rfl (hb hby d5_3) rfl (l' := #[.val (.ref a1), .val (.int (2 : Int32)), .val (.int (0 : Int32)), .val (.int (2 : Int32)), .unset]) rfl k) ?_
  show own_R _ _ _ _ (s₁.setTop (mkF m 4 #[.val (.ref a1), .val (.int (2 : Int32)), .val (.int (0 : Int32)), .val (.int (2 : Int32)), .unset] []))
  refine own_go (fun _ k => XS.aloadN X0.here hx rfl (hb hby d5_4) rfl rfl k) ?_
  show own_R _ _ _ _ (s₁.setTop (mkF m 5 #[.val (.ref a1), .val (.int (2 : Int32)), .val (.int (0 : Int32)), .val (.int (2 : Int32)), .unset] [(.ref a1)]))
  obtain ⟨T37, X37, e37, st37⟩ := getF X0 hx hZ hown (host := "") (Or.inl (hw _ (List.mem_of_getElem? (i := 19) rfl))) Via.refl e0 F_parents_a1 (g := (mkF m 5 #[.val (.ref a1), .val (.int (2 : Int32)), .val (.int (0 : Int32)), .val (.int (2 : Int32)), .unset] [(.ref a1)])) rfl rfl (hb hby d5_5)
  refine own_go st37 ?_
  show own_R _ _ _ _ (T37.setTop (mkF m 8 #[.val (.ref a1), .val (.int (2 : Int32)), .val (.int (0 : Int32)), .val (.int (2 : Int32)), .unset] [(.ref b1)]))
  refine own_go (fun _ k => XS.iloadN X37.here hx rfl (hb hby d5_8) rfl k) ?_
  show own_R _ _ _ _ (T37.setTop (mkF m 9 #[.val (.ref a1), .val (.int (2 : Int32)), .val (.int (0 : Int32)), .val (.int (2 : Int32)), .unset] [(.int (2 : Int32)), (.ref b1)]))
  refine own_go (own_ldI X37 hx hZ e37 V_b1 (j := (2 : Int32)) (i := 2) ⟨by decide, by decide⟩ rfl (v := (.int (1 : Int32))) rfl (g := (mkF m 9 #[.val (.ref a1), .val (.int (2 : Int32)), .val (.int (0 : Int32)), .val (.int (2 : Int32)), .unset] [(.int (2 : Int32)), (.ref b1)])) rfl rfl (hb hby d5_9)) ?_
  show own_R _ _ _ _ (T37.setTop (mkF m 10 #[.val (.ref a1), .val (.int (2 : Int32)), .val (.int (0 : Int32)), .val (.int (2 : Int32)), .unset] [(.int (1 : Int32))]))
  refine own_go (fun _ k => XS.iconst X37.here hx rfl (hb hby d5_10) k) ?_
  show own_R _ _ _ _ (T37.setTop (mkF m 11 #[.val (.ref a1), .val (.int (2 : Int32)), .val (.int (0 : Int32)), .val (.int (2 : Int32)), .unset] [(.int (-1 : Int32)), (.int (1 : Int32))]))
  refine own_go (fun _ k => XS.icmpNo X37.here hx rfl (hb hby d5_11) rfl (feq (by decide : ¬ ((1 : Int32) = (-1 : Int32)))).1 k) ?_
  show own_R _ _ _ _ (T37.setTop (mkF m 14 #[.val (.ref a1), .val (.int (2 : Int32)), .val (.int (0 : Int32)), .val (.int (2 : Int32)), .unset] []))
  refine own_go (fun _ k => XS.iinc X37.here hx rfl (hb hby d5_14) rfl (l' := #[.val (.ref a1), .val (.int (2 : Int32)), .val (.int (1 : Int32)), .val (.int (2 : Int32)), .unset]) rfl k) ?_
  show own_R _ _ _ _ (T37.setTop (mkF m 17 #[.val (.ref a1), .val (.int (2 : Int32)), .val (.int (1 : Int32)), .val (.int (2 : Int32)), .unset] []))
  refine own_go (fun _ k => XS.aloadN X37.here hx rfl (hb hby d5_17) rfl rfl k) ?_
  show own_R _ _ _ _ (T37.setTop (mkF m 18 #[.val (.ref a1), .val (.int (2 : Int32)), .val (.int (1 : Int32)), .val (.int (2 : Int32)), .unset] [(.ref a1)]))
  obtain ⟨T38, X38, e38, st38⟩ := getF X37 hx hZ hown (host := "") (Or.inl (hw _ (List.mem_of_getElem? (i := 19) rfl))) Via.refl e37 F_parents_a1 (g := (mkF m 18 #[.val (.ref a1), .val (.int (2 : Int32)), .val (.int (1 : Int32)), .val (.int (2 : Int32)), .unset] [(.ref a1)])) rfl rfl (hb hby d5_18)
  refine own_go st38 ?_
  show own_R _ _ _ _ (T38.setTop (mkF m 21 #[.val (.ref a1), .val (.int (2 : Int32)), .val (.int (1 : Int32)), .val (.int (2 : Int32)), .unset] [(.ref b1)]))
  refine own_go (fun _ k => XS.iloadN X38.here hx rfl (hb hby d5_21) rfl k) ?_
  show own_R _ _ _ _ (T38.setTop (mkF m 22 #[.val (.ref a1), .val (.int (2 : Int32)), .val (.int (1 : Int32)), .val (.int (2 : Int32)), .unset] [(.int (2 : Int32)), (.ref b1)]))
  refine own_go (own_ldI X38 hx hZ e38 V_b1 (j := (2 : Int32)) (i := 2) ⟨by decide, by decide⟩ rfl (v := (.int (1 : Int32))) rfl (g := (mkF m 22 #[.val (.ref a1), .val (.int (2 : Int32)), .val (.int (1 : Int32)), .val (.int (2 : Int32)), .unset] [(.int (2 : Int32)), (.ref b1)])) rfl rfl (hb hby d5_22)) ?_
  show own_R _ _ _ _ (T38.setTop (mkF m 23 #[.val (.ref a1), .val (.int (2 : Int32)), .val (.int (1 : Int32)), .val (.int (2 : Int32)), .unset] [(.int (1 : Int32))]))
  refine own_go (fun _ k => XS.istoreN X38.here hx rfl (hb hby d5_23) rfl (l' := #[.val (.ref a1), .val (.int (2 : Int32)), .val (.int (1 : Int32)), .val (.int (1 : Int32)), .unset]) rfl k) ?_
  show own_R _ _ _ _ (T38.setTop (mkF m 24 #[.val (.ref a1), .val (.int (2 : Int32)), .val (.int (1 : Int32)), .val (.int (1 : Int32)), .unset] []))
  refine own_go (fun _ k => XS.goto X38.here hx rfl (pc0 := 24) (pc' := 4) rfl (hb hby d5_24) (by decide) (by decide) k) ?_
  show own_R _ _ _ _ (T38.setTop (mkF m 4 #[.val (.ref a1), .val (.int (2 : Int32)), .val (.int (1 : Int32)), .val (.int (1 : Int32)), .unset] []))
  refine own_go (fun _ k => XS.aloadN X38.here hx rfl (hb hby d5_4) rfl rfl k) ?_
  show own_R _ _ _ _ (T38.setTop (mkF m 5 #[.val (.ref a1), .val (.int (2 : Int32)), .val (.int (1 : Int32)), .val (.int (1 : Int32)), .unset] [(.ref a1)]))
  obtain ⟨T39, X39, e39, st39⟩ := getF X38 hx hZ hown (host := "") (Or.inl (hw _ (List.mem_of_getElem? (i := 19) rfl))) Via.refl e38 F_parents_a1 (g := (mkF m 5 #[.val (.ref a1), .val (.int (2 : Int32)), .val (.int (1 : Int32)), .val (.int (1 : Int32)), .unset] [(.ref a1)])) rfl rfl (hb hby d5_5)
  refine own_go st39 ?_
  show own_R _ _ _ _ (T39.setTop (mkF m 8 #[.val (.ref a1), .val (.int (2 : Int32)), .val (.int (1 : Int32)), .val (.int (1 : Int32)), .unset] [(.ref b1)]))
  refine own_go (fun _ k => XS.iloadN X39.here hx rfl (hb hby d5_8) rfl k) ?_
  show own_R _ _ _ _ (T39.setTop (mkF m 9 #[.val (.ref a1), .val (.int (2 : Int32)), .val (.int (1 : Int32)), .val (.int (1 : Int32)), .unset] [(.int (1 : Int32)), (.ref b1)]))
  refine own_go (own_ldI X39 hx hZ e39 V_b1 (j := (1 : Int32)) (i := 1) ⟨by decide, by decide⟩ rfl (v := (.int (0 : Int32))) rfl (g := (mkF m 9 #[.val (.ref a1), .val (.int (2 : Int32)), .val (.int (1 : Int32)), .val (.int (1 : Int32)), .unset] [(.int (1 : Int32)), (.ref b1)])) rfl rfl (hb hby d5_9)) ?_
  show own_R _ _ _ _ (T39.setTop (mkF m 10 #[.val (.ref a1), .val (.int (2 : Int32)), .val (.int (1 : Int32)), .val (.int (1 : Int32)), .unset] [(.int (0 : Int32))]))
  refine own_go (fun _ k => XS.iconst X39.here hx rfl (hb hby d5_10) k) ?_
  show own_R _ _ _ _ (T39.setTop (mkF m 11 #[.val (.ref a1), .val (.int (2 : Int32)), .val (.int (1 : Int32)), .val (.int (1 : Int32)), .unset] [(.int (-1 : Int32)), (.int (0 : Int32))]))
  refine own_go (fun _ k => XS.icmpNo X39.here hx rfl (hb hby d5_11) rfl (feq (by decide : ¬ ((0 : Int32) = (-1 : Int32)))).1 k) ?_
  show own_R _ _ _ _ (T39.setTop (mkF m 14 #[.val (.ref a1), .val (.int (2 : Int32)), .val (.int (1 : Int32)), .val (.int (1 : Int32)), .unset] []))
  refine own_go (fun _ k => XS.iinc X39.here hx rfl (hb hby d5_14) rfl (l' := #[.val (.ref a1), .val (.int (2 : Int32)), .val (.int (2 : Int32)), .val (.int (1 : Int32)), .unset]) rfl k) ?_
  show own_R _ _ _ _ (T39.setTop (mkF m 17 #[.val (.ref a1), .val (.int (2 : Int32)), .val (.int (2 : Int32)), .val (.int (1 : Int32)), .unset] []))
  refine own_go (fun _ k => XS.aloadN X39.here hx rfl (hb hby d5_17) rfl rfl k) ?_
  show own_R _ _ _ _ (T39.setTop (mkF m 18 #[.val (.ref a1), .val (.int (2 : Int32)), .val (.int (2 : Int32)), .val (.int (1 : Int32)), .unset] [(.ref a1)]))
  obtain ⟨T40, X40, e40, st40⟩ := getF X39 hx hZ hown (host := "") (Or.inl (hw _ (List.mem_of_getElem? (i := 19) rfl))) Via.refl e39 F_parents_a1 (g := (mkF m 18 #[.val (.ref a1), .val (.int (2 : Int32)), .val (.int (2 : Int32)), .val (.int (1 : Int32)), .unset] [(.ref a1)])) rfl rfl (hb hby d5_18)
  refine own_go st40 ?_
  show own_R _ _ _ _ (T40.setTop (mkF m 21 #[.val (.ref a1), .val (.int (2 : Int32)), .val (.int (2 : Int32)), .val (.int (1 : Int32)), .unset] [(.ref b1)]))
  refine own_go (fun _ k => XS.iloadN X40.here hx rfl (hb hby d5_21) rfl k) ?_
  show own_R _ _ _ _ (T40.setTop (mkF m 22 #[.val (.ref a1), .val (.int (2 : Int32)), .val (.int (2 : Int32)), .val (.int (1 : Int32)), .unset] [(.int (1 : Int32)), (.ref b1)]))
  refine own_go (own_ldI X40 hx hZ e40 V_b1 (j := (1 : Int32)) (i := 1) ⟨by decide, by decide⟩ rfl (v := (.int (0 : Int32))) rfl (g := (mkF m 22 #[.val (.ref a1), .val (.int (2 : Int32)), .val (.int (2 : Int32)), .val (.int (1 : Int32)), .unset] [(.int (1 : Int32)), (.ref b1)])) rfl rfl (hb hby d5_22)) ?_
  show own_R _ _ _ _ (T40.setTop (mkF m 23 #[.val (.ref a1), .val (.int (2 : Int32)), .val (.int (2 : Int32)), .val (.int (1 : Int32)), .unset] [(.int (0 : Int32))]))
  refine own_go (fun _ k => XS.istoreN X40.here hx rfl (hb hby d5_23) rfl (l' := #[.val (.ref a1), .val (.int (2 : Int32)), .val (.int (2 : Int32)), .val (.int (0 : Int32)), .unset]) rfl k) ?_
  show own_R _ _ _ _ (T40.setTop (mkF m 24 #[.val (.ref a1), .val (.int (2 : Int32)), .val (.int (2 : Int32)), .val (.int (0 : Int32)), .unset] []))
  refine own_go (fun _ k => XS.goto X40.here hx rfl (pc0 := 24) (pc' := 4) rfl (hb hby d5_24) (by decide) (by decide) k) ?_
  show own_R _ _ _ _ (T40.setTop (mkF m 4 #[.val (.ref a1), .val (.int (2 : Int32)), .val (.int (2 : Int32)), .val (.int (0 : Int32)), .unset] []))
  refine own_go (fun _ k => XS.aloadN X40.here hx rfl (hb hby d5_4) rfl rfl k) ?_
  show own_R _ _ _ _ (T40.setTop (mkF m 5 #[.val (.ref a1), .val (.int (2 : Int32)), .val (.int (2 : Int32)), .val (.int (0 : Int32)), .unset] [(.ref a1)]))
  obtain ⟨T41, X41, e41, st41⟩ := getF X40 hx hZ hown (host := "") (Or.inl (hw _ (List.mem_of_getElem? (i := 19) rfl))) Via.refl e40 F_parents_a1 (g := (mkF m 5 #[.val (.ref a1), .val (.int (2 : Int32)), .val (.int (2 : Int32)), .val (.int (0 : Int32)), .unset] [(.ref a1)])) rfl rfl (hb hby d5_5)
  refine own_go st41 ?_
  show own_R _ _ _ _ (T41.setTop (mkF m 8 #[.val (.ref a1), .val (.int (2 : Int32)), .val (.int (2 : Int32)), .val (.int (0 : Int32)), .unset] [(.ref b1)]))
  refine own_go (fun _ k => XS.iloadN X41.here hx rfl (hb hby d5_8) rfl k) ?_
  show own_R _ _ _ _ (T41.setTop (mkF m 9 #[.val (.ref a1), .val (.int (2 : Int32)), .val (.int (2 : Int32)), .val (.int (0 : Int32)), .unset] [(.int (0 : Int32)), (.ref b1)]))
  refine own_go (own_ldI X41 hx hZ e41 V_b1 (j := (0 : Int32)) (i := 0) ⟨by decide, by decide⟩ rfl (v := (.int (-1 : Int32))) rfl (g := (mkF m 9 #[.val (.ref a1), .val (.int (2 : Int32)), .val (.int (2 : Int32)), .val (.int (0 : Int32)), .unset] [(.int (0 : Int32)), (.ref b1)])) rfl rfl (hb hby d5_9)) ?_
  show own_R _ _ _ _ (T41.setTop (mkF m 10 #[.val (.ref a1), .val (.int (2 : Int32)), .val (.int (2 : Int32)), .val (.int (0 : Int32)), .unset] [(.int (-1 : Int32))]))
  refine own_go (fun _ k => XS.iconst X41.here hx rfl (hb hby d5_10) k) ?_
  show own_R _ _ _ _ (T41.setTop (mkF m 11 #[.val (.ref a1), .val (.int (2 : Int32)), .val (.int (2 : Int32)), .val (.int (0 : Int32)), .unset] [(.int (-1 : Int32)), (.int (-1 : Int32))]))
  refine own_go (fun _ k => XS.icmpYes X41.here hx rfl (pc0 := 11) (pc' := 27) rfl (hb hby d5_11) rfl (teq (by decide : (-1 : Int32) = (-1 : Int32))).1 (by decide) (by decide) k) ?_
  show own_R _ _ _ _ (T41.setTop (mkF m 27 #[.val (.ref a1), .val (.int (2 : Int32)), .val (.int (2 : Int32)), .val (.int (0 : Int32)), .unset] []))
  refine own_go (fun _ k => XS.iloadN X41.here hx rfl (hb hby d5_27) rfl k) ?_
  show own_R _ _ _ _ (T41.setTop (mkF m 28 #[.val (.ref a1), .val (.int (2 : Int32)), .val (.int (2 : Int32)), .val (.int (0 : Int32)), .unset] [(.int (2 : Int32))]))
  obtain ⟨T42, h42, k42, X42, e42, E42, A42, st42⟩ := newP X41 hx hZ (hw _ (List.mem_of_getElem? (i := 9) rfl)) e41 (g := (mkF m 28 #[.val (.ref a1), .val (.int (2 : Int32)), .val (.int (2 : Int32)), .val (.int (0 : Int32)), .unset] [(.int (2 : Int32))])) rfl (hb hby d5_28) rfl (by decide) (cap := 2) (by decide) (by decide) (by decide) (by decide)
  obtain ⟨b42, g42⟩ : ∃ z, z = h0.size := ⟨_, rfl⟩
  rw [← g42] at A42 st42
  refine own_go st42 ?_
  have ne_a1_b42 : a1 ≠ b42 := Nat.ne_of_lt (Nat.lt_of_lt_of_le F_parents_a1.lt (Nat.le_of_eq g42.symm))
  have ne_b1_b42 : b1 ≠ b42 := Nat.ne_of_lt (Nat.lt_of_lt_of_le V_b1.lt (Nat.le_of_eq g42.symm))
  have ne_b2_b42 : b2 ≠ b42 := Nat.ne_of_lt (Nat.lt_of_lt_of_le V_b2.lt (Nat.le_of_eq g42.symm))
  have g_b42 : n0 ≤ b42 := Nat.le_trans ZS (Nat.le_of_eq g42.symm)
  have sz_b42 : h0.size ≤ b42 := Nat.le_trans KP.1 (Nat.le_of_eq g42.symm)
  have F_parents_a1 := F_parents_a1.ext E42
  have F_branches_a1 := F_branches_a1.ext E42
  have V_b1 := V_b1.ext E42
  have V_b2 := V_b2.ext E42
  have ZS := Nat.le_trans ZS E42.1
  have KP := KP.ext E42
  have V_b42 : Arv Z h42 b42 k42 .int (2 : Int32) [(.int (0 : Int32)), (.int (0 : Int32))] (.int (0 : Int32)) := (Arv.new A42 (by decide)).pad (pad_rep [] (.int (0 : Int32)) 2)
  show own_R _ _ _ _ (T42.setTop (mkF m 30 #[.val (.ref a1), .val (.int (2 : Int32)), .val (.int (2 : Int32)), .val (.int (0 : Int32)), .unset] [(.ref b42)]))
  refine own_go (fun _ k => XS.astoreN X42.here hx rfl (hb hby d5_30) rfl rfl (l' := #[.val (.ref a1), .val (.int (2 : Int32)), .val (.int (2 : Int32)), .val (.ref b42), .unset]) rfl k) ?_
  show own_R _ _ _ _ (T42.setTop (mkF m 31 #[.val (.ref a1), .val (.int (2 : Int32)), .val (.int (2 : Int32)), .val (.ref b42), .unset] []))
  refine own_go (fun _ k => XS.iloadN X42.here hx rfl (hb hby d5_31) rfl k) ?_
  show own_R _ _ _ _ (T42.setTop (mkF m 32 #[.val (.ref a1), .val (.int (2 : Int32)), .val (.int (2 : Int32)), .val (.ref b42), .unset] [(.int (2 : Int32))]))
  refine own_go (fun _ k => XS.istore X42.here hx rfl (hb hby d5_32) rfl (l' := #[.val (.ref a1), .val (.int (2 : Int32)), .val (.int (2 : Int32)), .val (.ref b42), .val (.int (2 : Int32))]) rfl k) ?_
  show own_R _ _ _ _ (T42.setTop (mkF m 34 #[.val (.ref a1), .val (.int (2 : Int32)), .val (.int (2 : Int32)), .val (.ref b42), .val (.int (2 : Int32))] []))
  refine own_go (fun _ k => XS.aloadN X42.here hx rfl (hb hby d5_34) rfl rfl k) ?_
  show own_R _ _ _ _ (T42.setTop (mkF m 35 #[.val (.ref a1), .val (.int (2 : Int32)), .val (.int (2 : Int32)), .val (.ref b42), .val (.int (2 : Int32))] [(.ref a1)]))
  obtain ⟨T43, X43, e43, st43⟩ := getF X42 hx hZ hown (host := "") (Or.inl (hw _ (List.mem_of_getElem? (i := 19) rfl))) Via.refl e42 F_parents_a1 (g := (mkF m 35 #[.val (.ref a1), .val (.int (2 : Int32)), .val (.int (2 : Int32)), .val (.ref b42), .val (.int (2 : Int32))] [(.ref a1)])) rfl rfl (hb hby d5_35)
  refine own_go st43 ?_
  show own_R _ _ _ _ (T43.setTop (mkF m 38 #[.val (.ref a1), .val (.int (2 : Int32)), .val (.int (2 : Int32)), .val (.ref b42), .val (.int (2 : Int32))] [(.ref b1)]))
  refine own_go (fun _ k => XS.iload X43.here hx rfl (hb hby d5_38) rfl k) ?_
  show own_R _ _ _ _ (T43.setTop (mkF m 40 #[.val (.ref a1), .val (.int (2 : Int32)), .val (.int (2 : Int32)), .val (.ref b42), .val (.int (2 : Int32))] [(.int (2 : Int32)), (.ref b1)]))
  refine own_go (own_ldI X43 hx hZ e43 V_b1 (j := (2 : Int32)) (i := 2) ⟨by decide, by decide⟩ rfl (v := (.int (1 : Int32))) rfl (g := (mkF m 40 #[.val (.ref a1), .val (.int (2 : Int32)), .val (.int (2 : Int32)), .val (.ref b42), .val (.int (2 : Int32))] [(.int (2 : Int32)), (.ref b1)])) rfl rfl (hb hby d5_40)) ?_
  show own_R _ _ _ _ (T43.setTop (mkF m 41 #[.val (.ref a1), .val (.int (2 : Int32)), .val (.int (2 : Int32)), .val (.ref b42), .val (.int (2 : Int32))] [(.int (1 : Int32))]))
  refine own_go (fun _ k => XS.iconst X43.here hx rfl (hb hby d5_41) k) ?_
  show own_R _ _ _ _ (T43.setTop (mkF m 42 #[.val (.ref a1), .val (.int (2 : Int32)), .val (.int (2 : Int32)), .val (.ref b42), .val (.int (2 : Int32))] [(.int (-1 : Int32)), (.int (1 : Int32))]))
  refine own_go (fun _ k => XS.icmpNo X43.here hx rfl (hb hby d5_42) rfl (feq (by decide : ¬ ((1 : Int32) = (-1 : Int32)))).1 k) ?_
  show own_R _ _ _ _ (T43.setTop (mkF m 45 #[.val (.ref a1), .val (.int (2 : Int32)), .val (.int (2 : Int32)), .val (.ref b42), .val (.int (2 : Int32))] []))
  refine own_go (fun _ k => XS.aloadN X43.here hx rfl (hb hby d5_45) rfl rfl k) ?_
  show own_R _ _ _ _ (T43.setTop (mkF m 46 #[.val (.ref a1), .val (.int (2 : Int32)), .val (.int (2 : Int32)), .val (.ref b42), .val (.int (2 : Int32))] [(.ref b42)]))
  refine own_go (fun _ k => XS.iinc X43.here hx rfl (hb hby d5_46) rfl (l' := #[.val (.ref a1), .val (.int (2 : Int32)), .val (.int (1 : Int32)), .val (.ref b42), .val (.int (2 : Int32))]) rfl k) ?_
  show own_R _ _ _ _ (T43.setTop (mkF m 49 #[.val (.ref a1), .val (.int (2 : Int32)), .val (.int (1 : Int32)), .val (.ref b42), .val (.int (2 : Int32))] [(.ref b42)]))
  refine own_go (fun _ k => XS.iloadN X43.here hx rfl (hb hby d5_49) rfl k) ?_
  show own_R _ _ _ _ (T43.setTop (mkF m 50 #[.val (.ref a1), .val (.int (2 : Int32)), .val (.int (1 : Int32)), .val (.ref b42), .val (.int (2 : Int32))] [(.int (1 : Int32)), (.ref b42)]))
  refine own_go (fun _ k => XS.aloadN X43.here hx rfl (hb hby d5_50) rfl rfl k) ?_
  show own_R _ _ _ _ (T43.setTop (mkF m 51 #[.val (.ref a1), .val (.int (2 : Int32)), .val (.int (1 : Int32)), .val (.ref b42), .val (.int (2 : Int32))] [(.ref a1), (.int (1 : Int32)), (.ref b42)]))
  obtain ⟨T44, X44, e44, st44⟩ := getF X43 hx hZ hown (host := "") (Or.inl (hw _ (List.mem_of_getElem? (i := 21) rfl))) Via.refl e43 F_branches_a1 (g := (mkF m 51 #[.val (.ref a1), .val (.int (2 : Int32)), .val (.int (1 : Int32)), .val (.ref b42), .val (.int (2 : Int32))] [(.ref a1), (.int (1 : Int32)), (.ref b42)])) rfl rfl (hb hby d5_51)
  refine own_go st44 ?_
  show own_R _ _ _ _ (T44.setTop (mkF m 54 #[.val (.ref a1), .val (.int (2 : Int32)), .val (.int (1 : Int32)), .val (.ref b42), .val (.int (2 : Int32))] [(.ref b2), (.int (1 : Int32)), (.ref b42)]))
  refine own_go (fun _ k => XS.iload X44.here hx rfl (hb hby d5_54) rfl k) ?_
  show own_R _ _ _ _ (T44.setTop (mkF m 56 #[.val (.ref a1), .val (.int (2 : Int32)), .val (.int (1 : Int32)), .val (.ref b42), .val (.int (2 : Int32))] [(.int (2 : Int32)), (.ref b2), (.int (1 : Int32)), (.ref b42)]))
  refine own_go (own_ldI X44 hx hZ e44 V_b2 (j := (2 : Int32)) (i := 2) ⟨by decide, by decide⟩ rfl (v := (.int x2)) rfl (g := (mkF m 56 #[.val (.ref a1), .val (.int (2 : Int32)), .val (.int (1 : Int32)), .val (.ref b42), .val (.int (2 : Int32))] [(.int (2 : Int32)), (.ref b2), (.int (1 : Int32)), (.ref b42)])) rfl rfl (hb hby d5_56)) ?_
  show own_R _ _ _ _ (T44.setTop (mkF m 57 #[.val (.ref a1), .val (.int (2 : Int32)), .val (.int (1 : Int32)), .val (.ref b42), .val (.int (2 : Int32))] [(.int x2), (.int (1 : Int32)), (.ref b42)]))
  obtain ⟨T45, h45, sl45, X45, e45, W45, V45, st45⟩ := own_stI X44 hx hZ e44 V_b42 (j := (1 : Int32)) (i := 1) ⟨by decide, by decide⟩ rfl (Nat.le_of_ble_eq_true rfl) rfl (g := (mkF m 57 #[.val (.ref a1), .val (.int (2 : Int32)), .val (.int (1 : Int32)), .val (.ref b42), .val (.int (2 : Int32))] [(.int x2), (.int (1 : Int32)), (.ref b42)])) rfl rfl (hb hby d5_57)
  refine own_go st45 ?_
  have F_parents_a1 := F_parents_a1.other W45 (Or.inl ne_a1_b42)
  have F_branches_a1 := F_branches_a1.other W45 (Or.inl ne_a1_b42)
  have V_b1 := V_b1.other W45 ne_b1_b42
  have V_b2 := V_b2.other W45 ne_b2_b42
  have ZS := Nat.le_trans ZS (Keep.of_wr W45).1
  have KP := KP.wr W45 (Or.inr sz_b42)
  have NF := Fr.snoc X45 NF g_b42
  have V_b42 : Arv Z h45 b42 k42 .int (2 : Int32) [(.int (0 : Int32)), (.int x2)] (.int (0 : Int32)) := V45
  show own_R _ _ _ _ (T45.setTop (mkF m 58 #[.val (.ref a1), .val (.int (2 : Int32)), .val (.int (1 : Int32)), .val (.ref b42), .val (.int (2 : Int32))] []))
  refine own_go (fun _ k => XS.aloadN X45.here hx rfl (hb hby d5_58) rfl rfl k) ?_
  show own_R _ _ _ _ (T45.setTop (mkF m 59 #[.val (.ref a1), .val (.int (2 : Int32)), .val (.int (1 : Int32)), .val (.ref b42), .val (.int (2 : Int32))] [(.ref a1)]))
  obtain ⟨T46, X46, e46, st46⟩ := getF X45 hx hZ hown (host := "") (Or.inl (hw _ (List.mem_of_getElem? (i := 19) rfl))) Via.refl e45 F_parents_a1 (g := (mkF m 59 #[.val (.ref a1), .val (.int (2 : Int32)), .val (.int (1 : Int32)), .val (.ref b42), .val (.int (2 : Int32))] [(.ref a1)])) rfl rfl (hb hby d5_59)
  refine own_go st46 ?_
  show own_R _ _ _ _ (T46.setTop (mkF m 62 #[.val (.ref a1), .val (.int (2 : Int32)), .val (.int (1 : Int32)), .val (.ref b42), .val (.int (2 : Int32))] [(.ref b1)]))
  refine own_go (fun _ k => XS.iload X46.here hx rfl (hb hby d5_62) rfl k) ?_
  show own_R _ _ _ _ (T46.setTop (mkF m 64 #[.val (.ref a1), .val (.int (2 : Int32)), .val (.int (1 : Int32)), .val (.ref b42), .val (.int (2 : Int32))] [(.int (2 : Int32)), (.ref b1)]))
  refine own_go (own_ldI X46 hx hZ e46 V_b1 (j := (2 : Int32)) (i := 2) ⟨by decide, by decide⟩ rfl (v := (.int (1 : Int32))) rfl (g := (mkF m 64 #[.val (.ref a1), .val (.int (2 : Int32)), .val (.int (1 : Int32)), .val (.ref b42), .val (.int (2 : Int32))] [(.int (2 : Int32)), (.ref b1)])) rfl rfl (hb hby d5_64)) ?_
  show own_R _ _ _ _ (T46.setTop (mkF m 65 #[.val (.ref a1), .val (.int (2 : Int32)), .val (.int (1 : Int32)), .val (.ref b42), .val (.int (2 : Int32))] [(.int (1 : Int32))]))
  refine own_go (fun _ k => XS.istore X46.here hx rfl (hb hby d5_65) rfl (l' := #[.val (.ref a1), .val (.int (2 : Int32)), .val (.int (1 : Int32)), .val (.ref b42), .val (.int (1 : Int32))]) rfl k) ?_
  show own_R _ _ _ _ (T46.setTop (mkF m 67 #[.val (.ref a1), .val (.int (2 : Int32)), .val (.int (1 : Int32)), .val (.ref b42), .val (.int (1 : Int32))] []))
  refine own_go (fun _ k => XS.goto X46.here hx rfl (pc0 := 67) (pc' := 34) rfl (hb hby d5_67) (by decide) (by decide) k) ?_
  show own_R _ _ _ _ (T46.setTop (mkF m 34 #[.val (.ref a1), .val (.int (2 : Int32)), .val (.int (1 : Int32)), .val (.ref b42), .val (.int (1 : Int32))] []))
  refine own_go (fun _ k => XS.aloadN X46.here hx rfl (hb hby d5_34) rfl rfl k) ?_
  show own_R _ _ _ _ (T46.setTop (mkF m 35 #[.val (.ref a1), .val (.int (2 : Int32)), .val (.int (1 : Int32)), .val (.ref b42), .val (.int (1 : Int32))] [(.ref a1)]))
  obtain ⟨T47, X47, e47, st47⟩ := getF X46 hx hZ hown (host := "") (Or.inl (hw _ (List.mem_of_getElem? (i := 19) rfl))) Via.refl e46 F_parents_a1 (g := (mkF m 35 #[.val (.ref a1), .val (.int (2 : Int32)), .val (.int (1 : Int32)), .val (.ref b42), .val (.int (1 : Int32))] [(.ref a1)])) rfl rfl (hb hby d5_35)
  refine own_go st47 ?_
  show own_R _ _ _ _ (T47.setTop (mkF m 38 #[.val (.ref a1), .val (.int (2 : Int32)), .val (.int (1 : Int32)), .val (.ref b42), .val (.int (1 : Int32))] [(.ref b1)]))
  refine own_go (fun _ k => XS.iload X47.here hx rfl (hb hby d5_38) rfl k) ?_
  show own_R _ _ _ _ (T47.setTop (mkF m 40 #[.val (.ref a1), .val (.int (2 : Int32)), .val (.int (1 : Int32)), .val (.ref b42), .val (.int (1 : Int32))] [(.int (1 : Int32)), (.ref b1)]))
  refine own_go (own_ldI X47 hx hZ e47 V_b1 (j := (1 : Int32)) (i := 1) ⟨by decide, by decide⟩ rfl (v := (.int (0 : Int32))) rfl (g := (mkF m 40 #[.val (.ref a1), .val (.int (2 : Int32)), .val (.int (1 : Int32)), .val (.ref b42), .val (.int (1 : Int32))] [(.int (1 : Int32)), (.ref b1)])) rfl rfl (hb hby d5_40)) ?_
  show own_R _ _ _ _ (T47.setTop (mkF m 41 #[.val (.ref a1), .val (.int (2 : Int32)), .val (.int (1 : Int32)), .val (.ref b42), .val (.int (1 : Int32))] [(.int (0 : Int32))]))
  refine own_go (fun _ k => XS.iconst X47.here hx rfl (hb hby d5_41) k) ?_
  show own_R _ _ _ _ (T47.setTop (mkF m 42 #[.val (.ref a1), .val (.int (2 : Int32)), .val (.int (1 : Int32)), .val (.ref b42), .val (.int (1 : Int32))] [(.int (-1 : Int32)), (.int (0 : Int32))]))
  refine own_go (fun _ k => XS.icmpNo X47.here hx rfl (hb hby d5_42) rfl (feq (by decide : ¬ ((0 : Int32) = (-1 : Int32)))).1 k) ?_
  show own_R _ _ _ _ (T47.setTop (mkF m 45 #[.val (.ref a1), .val (.int (2 : Int32)), .val (.int (1 : Int32)), .val (.ref b42), .val (.int (1 : Int32))] []))
  refine own_go (fun _ k => XS.aloadN X47.here hx rfl (hb hby d5_45) rfl rfl k) ?_
  show own_R _ _ _ _ (T47.setTop (mkF m 46 #[.val (.ref a1), .val (.int (2 : Int32)), .val (.int (1 : Int32)), .val (.ref b42), .val (.int (1 : Int32))] [(.ref b42)]))
  refine own_go (fun _ k => XS.iinc X47.here hx rfl (hb hby d5_46) rfl (l' := #[.val (.ref a1), .val (.int (2 : Int32)), .val (.int (0 : Int32)), .val (.ref b42), .val (.int (1 : Int32))]) rfl k) ?_
  show own_R _ _ _ _ (T47.setTop (mkF m 49 #[.val (.ref a1), .val (.int (2 : Int32)), .val (.int (0 : Int32)), .val (.ref b42), .val (.int (1 : Int32))] [(.ref b42)]))
  refine own_go (fun _ k => XS.iloadN X47.here hx rfl (hb hby d5_49) rfl k) ?_
  show own_R _ _ _ _ (T47.setTop (mkF m 50 #[.val (.ref a1), .val (.int (2 : Int32)), .val (.int (0 : Int32)), .val (.ref b42), .val (.int (1 : Int32))] [(.int (0 : Int32)), (.ref b42)]))
  refine own_go (fun _ k => XS.aloadN X47.here hx rfl (hb hby d5_50) rfl rfl k) ?_
  show own_R _ _ _ _ (T47.setTop (mkF m 51 #[.val (.ref a1), .val (.int (2 : Int32)), .val (.int (0 : Int32)), .val (.ref b42), .val (.int (1 : Int32))] [(.ref a1), (.int (0 : Int32)), (.ref b42)]))
  obtain ⟨T48, X48, e48, st48⟩ := getF X47 hx hZ hown (host := "") (Or.inl (hw _ (List.mem_of_getElem? (i := 21) rfl))) Via.refl e47 F_branches_a1 (g := (mkF m 51 #[.val (.ref a1), .val (.int (2 : Int32)), .val (.int (0 : Int32)), .val (.ref b42), .val (.int (1 : Int32))] [(.ref a1), (.int (0 : Int32)), (.ref b42)])) rfl rfl (hb hby d5_51)
  refine own_go st48 ?_
  show own_R _ _ _ _ (T48.setTop (mkF m 54 #[.val (.ref a1), .val (.int (2 : Int32)), .val (.int (0 : Int32)), .val (.ref b42), .val (.int (1 : Int32))] [(.ref b2), (.int (0 : Int32)), (.ref b42)]))
  refine own_go (fun _ k => XS.iload X48.here hx rfl (hb hby d5_54) rfl k) ?_
  show own_R _ _ _ _ (T48.setTop (mkF m 56 #[.val (.ref a1), .val (.int (2 : Int32)), .val (.int (0 : Int32)), .val (.ref b42), .val (.int (1 : Int32))] [(.int (1 : Int32)), (.ref b2), (.int (0 : Int32)), (.ref b42)]))
  refine own_go (own_ldI X48 hx hZ e48 V_b2 (j := (1 : Int32)) (i := 1) ⟨by decide, by decide⟩ rfl (v := (.int x1)) rfl (g := (mkF m 56 #[.val (.ref a1), .val (.int (2 : Int32)), .val (.int (0 : Int32)), .val (.ref b42), .val (.int (1 : Int32))] [(.int (1 : Int32)), (.ref b2), (.int (0 : Int32)), (.ref b42)])) rfl rfl (hb hby d5_56)) ?_
  show own_R _ _ _ _ (T48.setTop (mkF m 57 #[.val (.ref a1), .val (.int (2 : Int32)), .val (.int (0 : Int32)), .val (.ref b42), .val (.int (1 : Int32))] [(.int x1), (.int (0 : Int32)), (.ref b42)]))
  obtain ⟨T49, h49, sl49, X49, e49, W49, V49, st49⟩ := own_stI X48 hx hZ e48 V_b42 (j := (0 : Int32)) (i := 0) ⟨by decide, by decide⟩ rfl (Nat.le_of_ble_eq_true rfl) rfl (g := (mkF m 57 #[.val (.ref a1), .val (.int (2 : Int32)), .val (.int (0 : Int32)), .val (.ref b42), .val (.int (1 : Int32))] [(.int x1), (.int (0 : Int32)), (.ref b42)])) rfl rfl (hb hby d5_57)
  refine own_go st49 ?_
  have F_parents_a1 := F_parents_a1.other W49 (Or.inl ne_a1_b42)
  have F_branches_a1 := F_branches_a1.other W49 (Or.inl ne_a1_b42)
  have V_b1 := V_b1.other W49 ne_b1_b42
  have V_b2 := V_b2.other W49 ne_b2_b42
  have ZS := Nat.le_trans ZS (Keep.of_wr W49).1
  have KP := KP.wr W49 (Or.inr sz_b42)
  have NF := Fr.snoc X49 NF g_b42
  have V_b42 : Arv Z h49 b42 k42 .int (2 : Int32) [(.int x1), (.int x2)] (.int (0 : Int32)) := V49
  show own_R _ _ _ _ (T49.setTop (mkF m 58 #[.val (.ref a1), .val (.int (2 : Int32)), .val (.int (0 : Int32)), .val (.ref b42), .val (.int (1 : Int32))] []))
  refine own_go (fun _ k => XS.aloadN X49.here hx rfl (hb hby d5_58) rfl rfl k) ?_
  show own_R _ _ _ _ (T49.setTop (mkF m 59 #[.val (.ref a1), .val (.int (2 : Int32)), .val (.int (0 : Int32)), .val (.ref b42), .val (.int (1 : Int32))] [(.ref a1)]))
  obtain ⟨T50, X50, e50, st50⟩ := getF X49 hx hZ hown (host := "") (Or.inl (hw _ (List.mem_of_getElem? (i := 19) rfl))) Via.refl e49 F_parents_a1 (g := (mkF m 59 #[.val (.ref a1), .val (.int (2 : Int32)), .val (.int (0 : Int32)), .val (.ref b42), .val (.int (1 : Int32))] [(.ref a1)])) rfl rfl (hb hby d5_59)
  refine own_go st50 ?_
  show own_R _ _ _ _ (T50.setTop (mkF m 62 #[.val (.ref a1), .val (.int (2 : Int32)), .val (.int (0 : Int32)), .val (.ref b42), .val (.int (1 : Int32))] [(.ref b1)]))
  refine own_go (fun _ k => XS.iload X50.here hx rfl (hb hby d5_62) rfl k) ?_
  show own_R _ _ _ _ (T50.setTop (mkF m 64 #[.val (.ref a1), .val (.int (2 : Int32)), .val (.int (0 : Int32)), .val (.ref b42), .val (.int (1 : Int32))] [(.int (1 : Int32)), (.ref b1)]))
  refine own_go (own_ldI X50 hx hZ e50 V_b1 (j := (1 : Int32)) (i := 1) ⟨by decide, by decide⟩ rfl (v := (.int (0 : Int32))) rfl (g := (mkF m 64 #[.val (.ref a1), .val (.int (2 : Int32)), .val (.int (0 : Int32)), .val (.ref b42), .val (.int (1 : Int32))] [(.int (1 : Int32)), (.ref b1)])) rfl rfl (hb hby d5_64)) ?_
  show own_R _ _ _ _ (T50.setTop (mkF m 65 #[.val (.ref a1), .val (.int (2 : Int32)), .val (.int (0 : Int32)), .val (.ref b42), .val (.int (1 : Int32))] [(.int (0 : Int32))]))
  refine own_go (fun _ k => XS.istore X50.here hx rfl (hb hby d5_65) rfl (l' := #[.val (.ref a1), .val (.int (2 : Int32)), .val (.int (0 : Int32)), .val (.ref b42), .val (.int (0 : Int32))]) rfl k) ?_
  show own_R _ _ _ _ (T50.setTop (mkF m 67 #[.val (.ref a1), .val (.int (2 : Int32)), .val (.int (0 : Int32)), .val (.ref b42), .val (.int (0 : Int32))] []))
  refine own_go (fun _ k => XS.goto X50.here hx rfl (pc0 := 67) (pc' := 34) rfl (hb hby d5_67) (by decide) (by decide) k) ?_
  show own_R _ _ _ _ (T50.setTop (mkF m 34 #[.val (.ref a1), .val (.int (2 : Int32)), .val (.int (0 : Int32)), .val (.ref b42), .val (.int (0 : Int32))] []))
  refine own_go (fun _ k => XS.aloadN X50.here hx rfl (hb hby d5_34) rfl rfl k) ?_
  show own_R _ _ _ _ (T50.setTop (mkF m 35 #[.val (.ref a1), .val (.int (2 : Int32)), .val (.int (0 : Int32)), .val (.ref b42), .val (.int (0 : Int32))] [(.ref a1)]))
  obtain ⟨T51, X51, e51, st51⟩ := getF X50 hx hZ hown (host := "") (Or.inl (hw _ (List.mem_of_getElem? (i := 19) rfl))) Via.refl e50 F_parents_a1 (g := (mkF m 35 #[.val (.ref a1), .val (.int (2 : Int32)), .val (.int (0 : Int32)), .val (.ref b42), .val (.int (0 : Int32))] [(.ref a1)])) rfl rfl (hb hby d5_35)
  refine own_go st51 ?_
  show own_R _ _ _ _ (T51.setTop (mkF m 38 #[.val (.ref a1), .val (.int (2 : Int32)), .val (.int (0 : Int32)), .val (.ref b42), .val (.int (0 : Int32))] [(.ref b1)]))
  refine own_go (fun _ k => XS.iload X51.here hx rfl (hb hby d5_38) rfl k) ?_
  show own_R _ _ _ _ (T51.setTop (mkF m 40 #[.val (.ref a1), .val (.int (2 : Int32)), .val (.int (0 : Int32)), .val (.ref b42), .val (.int (0 : Int32))] [(.int (0 : Int32)), (.ref b1)]))
  refine own_go (own_ldI X51 hx hZ e51 V_b1 (j := (0 : Int32)) (i := 0) ⟨by decide, by decide⟩ rfl (v := (.int (-1 : Int32))) rfl (g := (mkF m 40 #[.val (.ref a1), .val (.int (2 : Int32)), .val (.int (0 : Int32)), .val (.ref b42), .val (.int (0 : Int32))] [(.int (0 : Int32)), (.ref b1)])) rfl rfl (hb hby d5_40)) ?_
  show own_R _ _ _ _ (T51.setTop (mkF m 41 #[.val (.ref a1), .val (.int (2 : Int32)), .val (.int (0 : Int32)), .val (.ref b42), .val (.int (0 : Int32))] [(.int (-1 : Int32))]))
  refine own_go (fun _ k => XS.iconst X51.here hx rfl (hb hby d5_41) k) ?_
  show own_R _ _ _ _ (T51.setTop (mkF m 42 #[.val (.ref a1), .val (.int (2 : Int32)), .val (.int (0 : Int32)), .val (.ref b42), .val (.int (0 : Int32))] [(.int (-1 : Int32)), (.int (-1 : Int32))]))
  refine own_go (fun _ k => XS.icmpYes X51.here hx rfl (pc0 := 42) (pc' := 70) rfl (hb hby d5_42) rfl (teq (by decide : (-1 : Int32) = (-1 : Int32))).1 (by decide) (by decide) k) ?_
  show own_R _ _ _ _ (T51.setTop (mkF m 70 #[.val (.ref a1), .val (.int (2 : Int32)), .val (.int (0 : Int32)), .val (.ref b42), .val (.int (0 : Int32))] []))
  refine own_go (fun _ k => XS.aloadN X51.here hx rfl (hb hby d5_70) rfl rfl k) ?_
  show own_R _ _ _ _ (T51.setTop (mkF m 71 #[.val (.ref a1), .val (.int (2 : Int32)), .val (.int (0 : Int32)), .val (.ref b42), .val (.int (0 : Int32))] [(.ref b42)]))
  exact own_retA X51 hx rfl rfl Bd.returns (hb hby d5_71) hlk (by rw [e51]; exact ⟨_, rfl, NF, KP, sz_b42, _, V_b42⟩) (by decide) (by decide)
theorem ef_5_3 (m : MethodId) (x0 : Addr) (x1 : Int32) : entryFrame m #[(.ref x0), (.int x1)] 5 = mkF m 0 #[.val (.ref x0), .val (.int x1), .unset, .unset, .unset] [] := by first | (simp [entryFrame, mkF, argsToLocals, Value.category]; done) | rfl
def Q5_3 (Z : State) (a1 : Addr) (b1 : Addr) (b2 : Addr) (k1 : ClassId) (k2 : ClassId) (x0 : Int32) (x1 : Int32) (x2 : Int32) (x3 : Int32) (x4 : Int32) (h0 : Heap) (n0 : Nat) (v : Option Value) (h : Heap) (L : List Loc) : Prop := ∃ b : Addr, v = some (.ref b) ∧ Fr n0 L ∧ Keep h0 h [] ∧ h0.size ≤ b ∧ ∃ k : ClassId, Arv Z h b k .int (1 : Int32) [(.int x3)] (.int (0 : Int32))
set_option maxRecDepth 65536 in
set_option maxHeartbeats 40000000 in
theorem rm5_3 (l : Launch) (Z : State) (a0 : Array Value) (hw : ∀ d ∈ tables_1, d.before a0 Z = true) (ws : List Jvm.Cond) (a1 : Addr) (b1 : Addr) (b2 : Addr) (k1 : ClassId) (k2 : ClassId) (x0 : Int32) (x1 : Int32) (x2 : Int32) (x3 : Int32) (x4 : Int32) (h0 : Heap) (n0 : Nat) (ZS : n0 ≤ h0.size) (F_parents_a1 : Fld Z h0 a1 "com/example/clearlot/clearlot/search/PartTree" "parents" "[I" (.ref b1)) (F_branches_a1 : Fld Z h0 a1 "com/example/clearlot/clearlot/search/PartTree" "branches" "[I" (.ref b2)) (V_b1 : Arv Z h0 b1 k1 .int (16 : Int32) [(.int (-1 : Int32)), (.int (0 : Int32)), (.int (1 : Int32)), (.int (0 : Int32)), (.int (2 : Int32)), (.int (0 : Int32)), (.int (0 : Int32)), (.int (0 : Int32)), (.int (0 : Int32)), (.int (0 : Int32)), (.int (0 : Int32)), (.int (0 : Int32)), (.int (0 : Int32)), (.int (0 : Int32)), (.int (0 : Int32)), (.int (0 : Int32))] (.int (0 : Int32))) (V_b2 : Arv Z h0 b2 k2 .int (16 : Int32) [(.int x0), (.int x1), (.int x2), (.int x3), (.int x4), (.int (0 : Int32)), (.int (0 : Int32)), (.int (0 : Int32)), (.int (0 : Int32)), (.int (0 : Int32)), (.int (0 : Int32)), (.int (0 : Int32)), (.int (0 : Int32)), (.int (0 : Int32)), (.int (0 : Int32)), (.int (0 : Int32))] (.int (0 : Int32))) :
    MetFree l (⟨"com/example/clearlot/clearlot/search/PartTree", "branches", "(I)[I"⟩ : MethodName) (head1 (Jvm.Cond.code (⟨"com/example/clearlot/clearlot/search/PartTree", "branches", "(I)[I"⟩ : MethodName) prog_65_method_9_code 5 (some (.array .int)) :: ws) ({ frames := 0, cells := 1, slots := 1, locals := 0 } : Room)) (fun a U => a = #[(.ref a1), (.int (3 : Int32))] ∧ Z.Warmed39 U.vm ∧ U.heap = h0) (fun _ _ _ _ _ => True) (fun _ U o U' => ∃ v L, o = .returned v ∧ Q5_3 Z a1 b1 b2 k1 k2 x0 x1 x2 x3 x4 h0 n0 v U'.heap L ∧ FrameEnd U o U' L ({ frames := 0, cells := 1, slots := 1, locals := 0 } : Room).cells ({ frames := 0, cells := 1, slots := 1, locals := 0 } : Room).slots) := by
  refine MetFree.of_bodySF (plainFor_of_name pn_1) hisR ?_
  intro p e s m args below meth c s₁ Bd hml0 hP hK
  obtain ⟨rfl, hZ, hh⟩ := hP
  have hx := Bd.exec
  have hby := Bd.bytes
  have hml : c.maxLocals = 5 := hml0
  have hown : s.vm.findClass "com/example/clearlot/clearlot/search/PartTree" = some m.cls := findClass_of_methodNamed Bd.named
  have hnm := (name_of_methodNamed Bd.named Bd.method).1
  have hlk : meth.locks = false := Bd.notSynchronized
  have X0 : Stand p l e ({ frames := 0, cells := 1, slots := 1, locals := 0 } : Room) s m #[(.ref a1), (.int (3 : Int32))] below meth c s₁ [] 0 0 := Stand.of_body Bd
  have e0 : s₁.heap = h0 := by rw [← hh, Bd.state]; rfl
  have NF := Fr.nil n0
  have KP : Keep h0 h0 [] := Keep.refl _ _
  refine own_fin (s := s) (Q := Q5_3 Z a1 b1 b2 k1 k2 x0 x1 x2 x3 x4 h0 n0) (rc := ({ frames := 0, cells := 1, slots := 1, locals := 0 } : Room).cells) (rs := ({ frames := 0, cells := 1, slots := 1, locals := 0 } : Room).slots) ?_
  refine own_go (fun t k => castTop (ef_5_3 m a1 (3 : Int32)) k) ?_
  show own_R _ _ _ _ (s₁.setTop (mkF m 0 #[.val (.ref a1), .val (.int (3 : Int32)), .unset, .unset, .unset] []))
  refine own_go (fun _ k => XS.iconst X0.here hx rfl (hb hby d5_0) k) ?_
  show own_R _ _ _ _ (s₁.setTop (mkF m 1 #[.val (.ref a1), .val (.int (3 : Int32)), .unset, .unset, .unset] [(.int (0 : Int32))]))
  refine own_go (fun _ k => XS.istoreN X0.here hx rfl (hb hby d5_1) rfl (l' := #[.val (.ref a1), .val (.int (3 : Int32)), .val (.int (0 : Int32)), .unset, .unset]) rfl k) ?_
  show own_R _ _ _ _ (s₁.setTop (mkF m 2 #[.val (.ref a1), .val (.int (3 : Int32)), .val (.int (0 : Int32)), .unset, .unset] []))
  refine own_go (fun _ k => XS.iloadN X0.here hx rfl (hb hby d5_2) rfl k) ?_
  show own_R _ _ _ _ (s₁.setTop (mkF m 3 #[.val (.ref a1), .val (.int (3 : Int32)), .val (.int (0 : Int32)), .unset, .unset] [(.int (3 : Int32))]))
  refine own_go (fun _ k => XS.istoreN X0.here hx rfl (hb hby d5_3) rfl (l' := #[.val (.ref a1), .val (.int (3 : Int32)), .val (.int (0 : Int32)), .val (.int (3 : Int32)), .unset]) rfl k) ?_
  show own_R _ _ _ _ (s₁.setTop (mkF m 4 #[.val (.ref a1), .val (.int (3 : Int32)), .val (.int (0 : Int32)), .val (.int (3 : Int32)), .unset] []))
  refine own_go (fun _ k => XS.aloadN X0.here hx rfl (hb hby d5_4) rfl rfl k) ?_
  show own_R _ _ _ _ (s₁.setTop (mkF m 5 #[.val (.ref a1), .val (.int (3 : Int32)), .val (.int (0 : Int32)), .val (.int (3 : Int32)), .unset] [(.ref a1)]))
  obtain ⟨T52, X52, e52, st52⟩ := getF X0 hx hZ hown (host := "") (Or.inl (hw _ (List.mem_of_getElem? (i := 19) rfl))) Via.refl e0 F_parents_a1 (g := (mkF m 5 #[.val (.ref a1), .val (.int (3 : Int32)), .val (.int (0 : Int32)), .val (.int (3 : Int32)), .unset] [(.ref a1)])) rfl rfl (hb hby d5_5)
  refine own_go st52 ?_
  show own_R _ _ _ _ (T52.setTop (mkF m 8 #[.val (.ref a1), .val (.int (3 : Int32)), .val (.int (0 : Int32)), .val (.int (3 : Int32)), .unset] [(.ref b1)]))
  refine own_go (fun _ k => XS.iloadN X52.here hx rfl (hb hby d5_8) rfl k) ?_
  show own_R _ _ _ _ (T52.setTop (mkF m 9 #[.val (.ref a1), .val (.int (3 : Int32)), .val (.int (0 : Int32)), .val (.int (3 : Int32)), .unset] [(.int (3 : Int32)), (.ref b1)]))
  refine own_go (own_ldI X52 hx hZ e52 V_b1 (j := (3 : Int32)) (i := 3) ⟨by decide, by decide⟩ rfl (v := (.int (0 : Int32))) rfl (g := (mkF m 9 #[.val (.ref a1), .val (.int (3 : Int32)), .val (.int (0 : Int32)), .val (.int (3 : Int32)), .unset] [(.int (3 : Int32)), (.ref b1)])) rfl rfl (hb hby d5_9)) ?_
  show own_R _ _ _ _ (T52.setTop (mkF m 10 #[.val (.ref a1), .val (.int (3 : Int32)), .val (.int (0 : Int32)), .val (.int (3 : Int32)), .unset] [(.int (0 : Int32))]))
  refine own_go (fun _ k => XS.iconst X52.here hx rfl (hb hby d5_10) k) ?_
  show own_R _ _ _ _ (T52.setTop (mkF m 11 #[.val (.ref a1), .val (.int (3 : Int32)), .val (.int (0 : Int32)), .val (.int (3 : Int32)), .unset] [(.int (-1 : Int32)), (.int (0 : Int32))]))
  refine own_go (fun _ k => XS.icmpNo X52.here hx rfl (hb hby d5_11) rfl (feq (by decide : ¬ ((0 : Int32) = (-1 : Int32)))).1 k) ?_
  show own_R _ _ _ _ (T52.setTop (mkF m 14 #[.val (.ref a1), .val (.int (3 : Int32)), .val (.int (0 : Int32)), .val (.int (3 : Int32)), .unset] []))
  refine own_go (fun _ k => XS.iinc X52.here hx rfl (hb hby d5_14) rfl (l' := #[.val (.ref a1), .val (.int (3 : Int32)), .val (.int (1 : Int32)), .val (.int (3 : Int32)), .unset]) rfl k) ?_
  show own_R _ _ _ _ (T52.setTop (mkF m 17 #[.val (.ref a1), .val (.int (3 : Int32)), .val (.int (1 : Int32)), .val (.int (3 : Int32)), .unset] []))
  refine own_go (fun _ k => XS.aloadN X52.here hx rfl (hb hby d5_17) rfl rfl k) ?_
  show own_R _ _ _ _ (T52.setTop (mkF m 18 #[.val (.ref a1), .val (.int (3 : Int32)), .val (.int (1 : Int32)), .val (.int (3 : Int32)), .unset] [(.ref a1)]))
  obtain ⟨T53, X53, e53, st53⟩ := getF X52 hx hZ hown (host := "") (Or.inl (hw _ (List.mem_of_getElem? (i := 19) rfl))) Via.refl e52 F_parents_a1 (g := (mkF m 18 #[.val (.ref a1), .val (.int (3 : Int32)), .val (.int (1 : Int32)), .val (.int (3 : Int32)), .unset] [(.ref a1)])) rfl rfl (hb hby d5_18)
  refine own_go st53 ?_
  show own_R _ _ _ _ (T53.setTop (mkF m 21 #[.val (.ref a1), .val (.int (3 : Int32)), .val (.int (1 : Int32)), .val (.int (3 : Int32)), .unset] [(.ref b1)]))
  refine own_go (fun _ k => XS.iloadN X53.here hx rfl (hb hby d5_21) rfl k) ?_
  show own_R _ _ _ _ (T53.setTop (mkF m 22 #[.val (.ref a1), .val (.int (3 : Int32)), .val (.int (1 : Int32)), .val (.int (3 : Int32)), .unset] [(.int (3 : Int32)), (.ref b1)]))
  refine own_go (own_ldI X53 hx hZ e53 V_b1 (j := (3 : Int32)) (i := 3) ⟨by decide, by decide⟩ rfl (v := (.int (0 : Int32))) rfl (g := (mkF m 22 #[.val (.ref a1), .val (.int (3 : Int32)), .val (.int (1 : Int32)), .val (.int (3 : Int32)), .unset] [(.int (3 : Int32)), (.ref b1)])) rfl rfl (hb hby d5_22)) ?_
  show own_R _ _ _ _ (T53.setTop (mkF m 23 #[.val (.ref a1), .val (.int (3 : Int32)), .val (.int (1 : Int32)), .val (.int (3 : Int32)), .unset] [(.int (0 : Int32))]))
  refine own_go (fun _ k => XS.istoreN X53.here hx rfl (hb hby d5_23) rfl (l' := #[.val (.ref a1), .val (.int (3 : Int32)), .val (.int (1 : Int32)), .val (.int (0 : Int32)), .unset]) rfl k) ?_
  show own_R _ _ _ _ (T53.setTop (mkF m 24 #[.val (.ref a1), .val (.int (3 : Int32)), .val (.int (1 : Int32)), .val (.int (0 : Int32)), .unset] []))
  refine own_go (fun _ k => XS.goto X53.here hx rfl (pc0 := 24) (pc' := 4) rfl (hb hby d5_24) (by decide) (by decide) k) ?_
  show own_R _ _ _ _ (T53.setTop (mkF m 4 #[.val (.ref a1), .val (.int (3 : Int32)), .val (.int (1 : Int32)), .val (.int (0 : Int32)), .unset] []))
  refine own_go (fun _ k => XS.aloadN X53.here hx rfl (hb hby d5_4) rfl rfl k) ?_
  show own_R _ _ _ _ (T53.setTop (mkF m 5 #[.val (.ref a1), .val (.int (3 : Int32)), .val (.int (1 : Int32)), .val (.int (0 : Int32)), .unset] [(.ref a1)]))
  obtain ⟨T54, X54, e54, st54⟩ := getF X53 hx hZ hown (host := "") (Or.inl (hw _ (List.mem_of_getElem? (i := 19) rfl))) Via.refl e53 F_parents_a1 (g := (mkF m 5 #[.val (.ref a1), .val (.int (3 : Int32)), .val (.int (1 : Int32)), .val (.int (0 : Int32)), .unset] [(.ref a1)])) rfl rfl (hb hby d5_5)
  refine own_go st54 ?_
  show own_R _ _ _ _ (T54.setTop (mkF m 8 #[.val (.ref a1), .val (.int (3 : Int32)), .val (.int (1 : Int32)), .val (.int (0 : Int32)), .unset] [(.ref b1)]))
  refine own_go (fun _ k => XS.iloadN X54.here hx rfl (hb hby d5_8) rfl k) ?_
  show own_R _ _ _ _ (T54.setTop (mkF m 9 #[.val (.ref a1), .val (.int (3 : Int32)), .val (.int (1 : Int32)), .val (.int (0 : Int32)), .unset] [(.int (0 : Int32)), (.ref b1)]))
  refine own_go (own_ldI X54 hx hZ e54 V_b1 (j := (0 : Int32)) (i := 0) ⟨by decide, by decide⟩ rfl (v := (.int (-1 : Int32))) rfl (g := (mkF m 9 #[.val (.ref a1), .val (.int (3 : Int32)), .val (.int (1 : Int32)), .val (.int (0 : Int32)), .unset] [(.int (0 : Int32)), (.ref b1)])) rfl rfl (hb hby d5_9)) ?_
  show own_R _ _ _ _ (T54.setTop (mkF m 10 #[.val (.ref a1), .val (.int (3 : Int32)), .val (.int (1 : Int32)), .val (.int (0 : Int32)), .unset] [(.int (-1 : Int32))]))
  refine own_go (fun _ k => XS.iconst X54.here hx rfl (hb hby d5_10) k) ?_
  show own_R _ _ _ _ (T54.setTop (mkF m 11 #[.val (.ref a1), .val (.int (3 : Int32)), .val (.int (1 : Int32)), .val (.int (0 : Int32)), .unset] [(.int (-1 : Int32)), (.int (-1 : Int32))]))
  refine own_go (fun _ k => XS.icmpYes X54.here hx rfl (pc0 := 11) (pc' := 27) rfl (hb hby d5_11) rfl (teq (by decide : (-1 : Int32) = (-1 : Int32))).1 (by decide) (by decide) k) ?_
  show own_R _ _ _ _ (T54.setTop (mkF m 27 #[.val (.ref a1), .val (.int (3 : Int32)), .val (.int (1 : Int32)), .val (.int (0 : Int32)), .unset] []))
  refine own_go (fun _ k => XS.iloadN X54.here hx rfl (hb hby d5_27) rfl k) ?_
  show own_R _ _ _ _ (T54.setTop (mkF m 28 #[.val (.ref a1), .val (.int (3 : Int32)), .val (.int (1 : Int32)), .val (.int (0 : Int32)), .unset] [(.int (1 : Int32))]))
  obtain ⟨T55, h55, k55, X55, e55, E55, A55, st55⟩ := newP X54 hx hZ (hw _ (List.mem_of_getElem? (i := 9) rfl)) e54 (g := (mkF m 28 #[.val (.ref a1), .val (.int (3 : Int32)), .val (.int (1 : Int32)), .val (.int (0 : Int32)), .unset] [(.int (1 : Int32))])) rfl (hb hby d5_28) rfl (by decide) (cap := 1) (by decide) (by decide) (by decide) (by decide)
  obtain ⟨b55, g55⟩ : ∃ z, z = h0.size := ⟨_, rfl⟩
  rw [← g55] at A55 st55
  refine own_go st55 ?_
  have ne_a1_b55 : a1 ≠ b55 := Nat.ne_of_lt (Nat.lt_of_lt_of_le F_parents_a1.lt (Nat.le_of_eq g55.symm))
  have ne_b1_b55 : b1 ≠ b55 := Nat.ne_of_lt (Nat.lt_of_lt_of_le V_b1.lt (Nat.le_of_eq g55.symm))
  have ne_b2_b55 : b2 ≠ b55 := Nat.ne_of_lt (Nat.lt_of_lt_of_le V_b2.lt (Nat.le_of_eq g55.symm))
  have g_b55 : n0 ≤ b55 := Nat.le_trans ZS (Nat.le_of_eq g55.symm)
  have sz_b55 : h0.size ≤ b55 := Nat.le_trans KP.1 (Nat.le_of_eq g55.symm)
  have F_parents_a1 := F_parents_a1.ext E55
  have F_branches_a1 := F_branches_a1.ext E55
  have V_b1 := V_b1.ext E55
  have V_b2 := V_b2.ext E55
  have ZS := Nat.le_trans ZS E55.1
  have KP := KP.ext E55
  have V_b55 : Arv Z h55 b55 k55 .int (1 : Int32) [(.int (0 : Int32))] (.int (0 : Int32)) := (Arv.new A55 (by decide)).pad (pad_rep [] (.int (0 : Int32)) 1)
  show own_R _ _ _ _ (T55.setTop (mkF m 30 #[.val (.ref a1), .val (.int (3 : Int32)), .val (.int (1 : Int32)), .val (.int (0 : Int32)), .unset] [(.ref b55)]))
  refine own_go (fun _ k => XS.astoreN X55.here hx rfl (hb hby d5_30) rfl rfl (l' := #[.val (.ref a1), .val (.int (3 : Int32)), .val (.int (1 : Int32)), .val (.ref b55), .unset]) rfl k) ?_
  show own_R _ _ _ _ (T55.setTop (mkF m 31 #[.val (.ref a1), .val (.int (3 : Int32)), .val (.int (1 : Int32)), .val (.ref b55), .unset] []))
  refine own_go (fun _ k => XS.iloadN X55.here hx rfl (hb hby d5_31) rfl k) ?_
  show own_R _ _ _ _ (T55.setTop (mkF m 32 #[.val (.ref a1), .val (.int (3 : Int32)), .val (.int (1 : Int32)), .val (.ref b55), .unset] [(.int (3 : Int32))]))
  refine own_go (fun _ k => XS.istore X55.here hx rfl (hb hby d5_32) rfl (l' := #[.val (.ref a1), .val (.int (3 : Int32)), .val (.int (1 : Int32)), .val (.ref b55), .val (.int (3 : Int32))]) rfl k) ?_
  show own_R _ _ _ _ (T55.setTop (mkF m 34 #[.val (.ref a1), .val (.int (3 : Int32)), .val (.int (1 : Int32)), .val (.ref b55), .val (.int (3 : Int32))] []))
  refine own_go (fun _ k => XS.aloadN X55.here hx rfl (hb hby d5_34) rfl rfl k) ?_
  show own_R _ _ _ _ (T55.setTop (mkF m 35 #[.val (.ref a1), .val (.int (3 : Int32)), .val (.int (1 : Int32)), .val (.ref b55), .val (.int (3 : Int32))] [(.ref a1)]))
  obtain ⟨T56, X56, e56, st56⟩ := getF X55 hx hZ hown (host := "") (Or.inl (hw _ (List.mem_of_getElem? (i := 19) rfl))) Via.refl e55 F_parents_a1 (g := (mkF m 35 #[.val (.ref a1), .val (.int (3 : Int32)), .val (.int (1 : Int32)), .val (.ref b55), .val (.int (3 : Int32))] [(.ref a1)])) rfl rfl (hb hby d5_35)
  refine own_go st56 ?_
  show own_R _ _ _ _ (T56.setTop (mkF m 38 #[.val (.ref a1), .val (.int (3 : Int32)), .val (.int (1 : Int32)), .val (.ref b55), .val (.int (3 : Int32))] [(.ref b1)]))
  refine own_go (fun _ k => XS.iload X56.here hx rfl (hb hby d5_38) rfl k) ?_
  show own_R _ _ _ _ (T56.setTop (mkF m 40 #[.val (.ref a1), .val (.int (3 : Int32)), .val (.int (1 : Int32)), .val (.ref b55), .val (.int (3 : Int32))] [(.int (3 : Int32)), (.ref b1)]))
  refine own_go (own_ldI X56 hx hZ e56 V_b1 (j := (3 : Int32)) (i := 3) ⟨by decide, by decide⟩ rfl (v := (.int (0 : Int32))) rfl (g := (mkF m 40 #[.val (.ref a1), .val (.int (3 : Int32)), .val (.int (1 : Int32)), .val (.ref b55), .val (.int (3 : Int32))] [(.int (3 : Int32)), (.ref b1)])) rfl rfl (hb hby d5_40)) ?_
  show own_R _ _ _ _ (T56.setTop (mkF m 41 #[.val (.ref a1), .val (.int (3 : Int32)), .val (.int (1 : Int32)), .val (.ref b55), .val (.int (3 : Int32))] [(.int (0 : Int32))]))
  refine own_go (fun _ k => XS.iconst X56.here hx rfl (hb hby d5_41) k) ?_
  show own_R _ _ _ _ (T56.setTop (mkF m 42 #[.val (.ref a1), .val (.int (3 : Int32)), .val (.int (1 : Int32)), .val (.ref b55), .val (.int (3 : Int32))] [(.int (-1 : Int32)), (.int (0 : Int32))]))
  refine own_go (fun _ k => XS.icmpNo X56.here hx rfl (hb hby d5_42) rfl (feq (by decide : ¬ ((0 : Int32) = (-1 : Int32)))).1 k) ?_
  show own_R _ _ _ _ (T56.setTop (mkF m 45 #[.val (.ref a1), .val (.int (3 : Int32)), .val (.int (1 : Int32)), .val (.ref b55), .val (.int (3 : Int32))] []))
  refine own_go (fun _ k => XS.aloadN X56.here hx rfl (hb hby d5_45) rfl rfl k) ?_
  show own_R _ _ _ _ (T56.setTop (mkF m 46 #[.val (.ref a1), .val (.int (3 : Int32)), .val (.int (1 : Int32)), .val (.ref b55), .val (.int (3 : Int32))] [(.ref b55)]))
  refine own_go (fun _ k => XS.iinc X56.here hx rfl (hb hby d5_46) rfl (l' := #[.val (.ref a1), .val (.int (3 : Int32)), .val (.int (0 : Int32)), .val (.ref b55), .val (.int (3 : Int32))]) rfl k) ?_
  show own_R _ _ _ _ (T56.setTop (mkF m 49 #[.val (.ref a1), .val (.int (3 : Int32)), .val (.int (0 : Int32)), .val (.ref b55), .val (.int (3 : Int32))] [(.ref b55)]))
  refine own_go (fun _ k => XS.iloadN X56.here hx rfl (hb hby d5_49) rfl k) ?_
  show own_R _ _ _ _ (T56.setTop (mkF m 50 #[.val (.ref a1), .val (.int (3 : Int32)), .val (.int (0 : Int32)), .val (.ref b55), .val (.int (3 : Int32))] [(.int (0 : Int32)), (.ref b55)]))
  refine own_go (fun _ k => XS.aloadN X56.here hx rfl (hb hby d5_50) rfl rfl k) ?_
  show own_R _ _ _ _ (T56.setTop (mkF m 51 #[.val (.ref a1), .val (.int (3 : Int32)), .val (.int (0 : Int32)), .val (.ref b55), .val (.int (3 : Int32))] [(.ref a1), (.int (0 : Int32)), (.ref b55)]))
  obtain ⟨T57, X57, e57, st57⟩ := getF X56 hx hZ hown (host := "") (Or.inl (hw _ (List.mem_of_getElem? (i := 21) rfl))) Via.refl e56 F_branches_a1 (g := (mkF m 51 #[.val (.ref a1), .val (.int (3 : Int32)), .val (.int (0 : Int32)), .val (.ref b55), .val (.int (3 : Int32))] [(.ref a1), (.int (0 : Int32)), (.ref b55)])) rfl rfl (hb hby d5_51)
  refine own_go st57 ?_
  show own_R _ _ _ _ (T57.setTop (mkF m 54 #[.val (.ref a1), .val (.int (3 : Int32)), .val (.int (0 : Int32)), .val (.ref b55), .val (.int (3 : Int32))] [(.ref b2), (.int (0 : Int32)), (.ref b55)]))
  refine own_go (fun _ k => XS.iload X57.here hx rfl (hb hby d5_54) rfl k) ?_
  show own_R _ _ _ _ (T57.setTop (mkF m 56 #[.val (.ref a1), .val (.int (3 : Int32)), .val (.int (0 : Int32)), .val (.ref b55), .val (.int (3 : Int32))] [(.int (3 : Int32)), (.ref b2), (.int (0 : Int32)), (.ref b55)]))
  refine own_go (own_ldI X57 hx hZ e57 V_b2 (j := (3 : Int32)) (i := 3) ⟨by decide, by decide⟩ rfl (v := (.int x3)) rfl (g := (mkF m 56 #[.val (.ref a1), .val (.int (3 : Int32)), .val (.int (0 : Int32)), .val (.ref b55), .val (.int (3 : Int32))] [(.int (3 : Int32)), (.ref b2), (.int (0 : Int32)), (.ref b55)])) rfl rfl (hb hby d5_56)) ?_
  show own_R _ _ _ _ (T57.setTop (mkF m 57 #[.val (.ref a1), .val (.int (3 : Int32)), .val (.int (0 : Int32)), .val (.ref b55), .val (.int (3 : Int32))] [(.int x3), (.int (0 : Int32)), (.ref b55)]))
  obtain ⟨T58, h58, sl58, X58, e58, W58, V58, st58⟩ := own_stI X57 hx hZ e57 V_b55 (j := (0 : Int32)) (i := 0) ⟨by decide, by decide⟩ rfl (Nat.le_of_ble_eq_true rfl) rfl (g := (mkF m 57 #[.val (.ref a1), .val (.int (3 : Int32)), .val (.int (0 : Int32)), .val (.ref b55), .val (.int (3 : Int32))] [(.int x3), (.int (0 : Int32)), (.ref b55)])) rfl rfl (hb hby d5_57)
  refine own_go st58 ?_
  have F_parents_a1 := F_parents_a1.other W58 (Or.inl ne_a1_b55)
  have F_branches_a1 := F_branches_a1.other W58 (Or.inl ne_a1_b55)
  have V_b1 := V_b1.other W58 ne_b1_b55
  have V_b2 := V_b2.other W58 ne_b2_b55
  have ZS := Nat.le_trans ZS (Keep.of_wr W58).1
  have KP := KP.wr W58 (Or.inr sz_b55)
  have NF := Fr.snoc X58 NF g_b55
  have V_b55 : Arv Z h58 b55 k55 .int (1 : Int32) [(.int x3)] (.int (0 : Int32)) := V58
  show own_R _ _ _ _ (T58.setTop (mkF m 58 #[.val (.ref a1), .val (.int (3 : Int32)), .val (.int (0 : Int32)), .val (.ref b55), .val (.int (3 : Int32))] []))
  refine own_go (fun _ k => XS.aloadN X58.here hx rfl (hb hby d5_58) rfl rfl k) ?_
  show own_R _ _ _ _ (T58.setTop (mkF m 59 #[.val (.ref a1), .val (.int (3 : Int32)), .val (.int (0 : Int32)), .val (.ref b55), .val (.int (3 : Int32))] [(.ref a1)]))
  obtain ⟨T59, X59, e59, st59⟩ := getF X58 hx hZ hown (host := "") (Or.inl (hw _ (List.mem_of_getElem? (i := 19) rfl))) Via.refl e58 F_parents_a1 (g := (mkF m 59 #[.val (.ref a1), .val (.int (3 : Int32)), .val (.int (0 : Int32)), .val (.ref b55), .val (.int (3 : Int32))] [(.ref a1)])) rfl rfl (hb hby d5_59)
  refine own_go st59 ?_
  show own_R _ _ _ _ (T59.setTop (mkF m 62 #[.val (.ref a1), .val (.int (3 : Int32)), .val (.int (0 : Int32)), .val (.ref b55), .val (.int (3 : Int32))] [(.ref b1)]))
  refine own_go (fun _ k => XS.iload X59.here hx rfl (hb hby d5_62) rfl k) ?_
  show own_R _ _ _ _ (T59.setTop (mkF m 64 #[.val (.ref a1), .val (.int (3 : Int32)), .val (.int (0 : Int32)), .val (.ref b55), .val (.int (3 : Int32))] [(.int (3 : Int32)), (.ref b1)]))
  refine own_go (own_ldI X59 hx hZ e59 V_b1 (j := (3 : Int32)) (i := 3) ⟨by decide, by decide⟩ rfl (v := (.int (0 : Int32))) rfl (g := (mkF m 64 #[.val (.ref a1), .val (.int (3 : Int32)), .val (.int (0 : Int32)), .val (.ref b55), .val (.int (3 : Int32))] [(.int (3 : Int32)), (.ref b1)])) rfl rfl (hb hby d5_64)) ?_
  show own_R _ _ _ _ (T59.setTop (mkF m 65 #[.val (.ref a1), .val (.int (3 : Int32)), .val (.int (0 : Int32)), .val (.ref b55), .val (.int (3 : Int32))] [(.int (0 : Int32))]))
  refine own_go (fun _ k => XS.istore X59.here hx rfl (hb hby d5_65) rfl (l' := #[.val (.ref a1), .val (.int (3 : Int32)), .val (.int (0 : Int32)), .val (.ref b55), .val (.int (0 : Int32))]) rfl k) ?_
  show own_R _ _ _ _ (T59.setTop (mkF m 67 #[.val (.ref a1), .val (.int (3 : Int32)), .val (.int (0 : Int32)), .val (.ref b55), .val (.int (0 : Int32))] []))
  refine own_go (fun _ k => XS.goto X59.here hx rfl (pc0 := 67) (pc' := 34) rfl (hb hby d5_67) (by decide) (by decide) k) ?_
  show own_R _ _ _ _ (T59.setTop (mkF m 34 #[.val (.ref a1), .val (.int (3 : Int32)), .val (.int (0 : Int32)), .val (.ref b55), .val (.int (0 : Int32))] []))
  refine own_go (fun _ k => XS.aloadN X59.here hx rfl (hb hby d5_34) rfl rfl k) ?_
  show own_R _ _ _ _ (T59.setTop (mkF m 35 #[.val (.ref a1), .val (.int (3 : Int32)), .val (.int (0 : Int32)), .val (.ref b55), .val (.int (0 : Int32))] [(.ref a1)]))
  obtain ⟨T60, X60, e60, st60⟩ := getF X59 hx hZ hown (host := "") (Or.inl (hw _ (List.mem_of_getElem? (i := 19) rfl))) Via.refl e59 F_parents_a1 (g := (mkF m 35 #[.val (.ref a1), .val (.int (3 : Int32)), .val (.int (0 : Int32)), .val (.ref b55), .val (.int (0 : Int32))] [(.ref a1)])) rfl rfl (hb hby d5_35)
  refine own_go st60 ?_
  show own_R _ _ _ _ (T60.setTop (mkF m 38 #[.val (.ref a1), .val (.int (3 : Int32)), .val (.int (0 : Int32)), .val (.ref b55), .val (.int (0 : Int32))] [(.ref b1)]))
  refine own_go (fun _ k => XS.iload X60.here hx rfl (hb hby d5_38) rfl k) ?_
  show own_R _ _ _ _ (T60.setTop (mkF m 40 #[.val (.ref a1), .val (.int (3 : Int32)), .val (.int (0 : Int32)), .val (.ref b55), .val (.int (0 : Int32))] [(.int (0 : Int32)), (.ref b1)]))
  refine own_go (own_ldI X60 hx hZ e60 V_b1 (j := (0 : Int32)) (i := 0) ⟨by decide, by decide⟩ rfl (v := (.int (-1 : Int32))) rfl (g := (mkF m 40 #[.val (.ref a1), .val (.int (3 : Int32)), .val (.int (0 : Int32)), .val (.ref b55), .val (.int (0 : Int32))] [(.int (0 : Int32)), (.ref b1)])) rfl rfl (hb hby d5_40)) ?_
  show own_R _ _ _ _ (T60.setTop (mkF m 41 #[.val (.ref a1), .val (.int (3 : Int32)), .val (.int (0 : Int32)), .val (.ref b55), .val (.int (0 : Int32))] [(.int (-1 : Int32))]))
  refine own_go (fun _ k => XS.iconst X60.here hx rfl (hb hby d5_41) k) ?_
  show own_R _ _ _ _ (T60.setTop (mkF m 42 #[.val (.ref a1), .val (.int (3 : Int32)), .val (.int (0 : Int32)), .val (.ref b55), .val (.int (0 : Int32))] [(.int (-1 : Int32)), (.int (-1 : Int32))]))
  refine own_go (fun _ k => XS.icmpYes X60.here hx rfl (pc0 := 42) (pc' := 70) rfl (hb hby d5_42) rfl (teq (by decide : (-1 : Int32) = (-1 : Int32))).1 (by decide) (by decide) k) ?_
  show own_R _ _ _ _ (T60.setTop (mkF m 70 #[.val (.ref a1), .val (.int (3 : Int32)), .val (.int (0 : Int32)), .val (.ref b55), .val (.int (0 : Int32))] []))
  refine own_go (fun _ k => XS.aloadN X60.here hx rfl (hb hby d5_70) rfl rfl k) ?_
  show own_R _ _ _ _ (T60.setTop (mkF m 71 #[.val (.ref a1), .val (.int (3 : Int32)), .val (.int (0 : Int32)), .val (.ref b55), .val (.int (0 : Int32))] [(.ref b55)]))
  exact own_retA X60 hx rfl rfl Bd.returns (hb hby d5_71) hlk (by rw [e60]; exact ⟨_, rfl, NF, KP, sz_b55, _, V_b55⟩) (by decide) (by decide)
theorem ef_5_4 (m : MethodId) (x0 : Addr) (x1 : Int32) : entryFrame m #[(.ref x0), (.int x1)] 5 = mkF m 0 #[.val (.ref x0), .val (.int x1), .unset, .unset, .unset] [] := by first | (simp [entryFrame, mkF, argsToLocals, Value.category]; done) | rfl
def Q5_4 (Z : State) (a1 : Addr) (b1 : Addr) (b2 : Addr) (k1 : ClassId) (k2 : ClassId) (x0 : Int32) (x1 : Int32) (x2 : Int32) (x3 : Int32) (x4 : Int32) (h0 : Heap) (n0 : Nat) (v : Option Value) (h : Heap) (L : List Loc) : Prop := ∃ b : Addr, v = some (.ref b) ∧ Fr n0 L ∧ Keep h0 h [] ∧ h0.size ≤ b ∧ ∃ k : ClassId, Arv Z h b k .int (3 : Int32) [(.int x1), (.int x2), (.int x4)] (.int (0 : Int32))
set_option maxRecDepth 65536 in
set_option maxHeartbeats 40000000 in
theorem rm5_4 (l : Launch) (Z : State) (a0 : Array Value) (hw : ∀ d ∈ tables_1, d.before a0 Z = true) (ws : List Jvm.Cond) (a1 : Addr) (b1 : Addr) (b2 : Addr) (k1 : ClassId) (k2 : ClassId) (x0 : Int32) (x1 : Int32) (x2 : Int32) (x3 : Int32) (x4 : Int32) (h0 : Heap) (n0 : Nat) (ZS : n0 ≤ h0.size) (F_parents_a1 : Fld Z h0 a1 "com/example/clearlot/clearlot/search/PartTree" "parents" "[I" (.ref b1)) (F_branches_a1 : Fld Z h0 a1 "com/example/clearlot/clearlot/search/PartTree" "branches" "[I" (.ref b2)) (V_b1 : Arv Z h0 b1 k1 .int (16 : Int32) [(.int (-1 : Int32)), (.int (0 : Int32)), (.int (1 : Int32)), (.int (0 : Int32)), (.int (2 : Int32)), (.int (0 : Int32)), (.int (0 : Int32)), (.int (0 : Int32)), (.int (0 : Int32)), (.int (0 : Int32)), (.int (0 : Int32)), (.int (0 : Int32)), (.int (0 : Int32)), (.int (0 : Int32)), (.int (0 : Int32)), (.int (0 : Int32))] (.int (0 : Int32))) (V_b2 : Arv Z h0 b2 k2 .int (16 : Int32) [(.int x0), (.int x1), (.int x2), (.int x3), (.int x4), (.int (0 : Int32)), (.int (0 : Int32)), (.int (0 : Int32)), (.int (0 : Int32)), (.int (0 : Int32)), (.int (0 : Int32)), (.int (0 : Int32)), (.int (0 : Int32)), (.int (0 : Int32)), (.int (0 : Int32)), (.int (0 : Int32))] (.int (0 : Int32))) :
    MetFree l (⟨"com/example/clearlot/clearlot/search/PartTree", "branches", "(I)[I"⟩ : MethodName) (head1 (Jvm.Cond.code (⟨"com/example/clearlot/clearlot/search/PartTree", "branches", "(I)[I"⟩ : MethodName) prog_65_method_9_code 5 (some (.array .int)) :: ws) ({ frames := 0, cells := 1, slots := 3, locals := 0 } : Room)) (fun a U => a = #[(.ref a1), (.int (4 : Int32))] ∧ Z.Warmed39 U.vm ∧ U.heap = h0) (fun _ _ _ _ _ => True) (fun _ U o U' => ∃ v L, o = .returned v ∧ Q5_4 Z a1 b1 b2 k1 k2 x0 x1 x2 x3 x4 h0 n0 v U'.heap L ∧ FrameEnd U o U' L ({ frames := 0, cells := 1, slots := 3, locals := 0 } : Room).cells ({ frames := 0, cells := 1, slots := 3, locals := 0 } : Room).slots) := by
  refine MetFree.of_bodySF (plainFor_of_name pn_1) hisR ?_
  intro p e s m args below meth c s₁ Bd hml0 hP hK
  obtain ⟨rfl, hZ, hh⟩ := hP
  have hx := Bd.exec
  have hby := Bd.bytes
  have hml : c.maxLocals = 5 := hml0
  have hown : s.vm.findClass "com/example/clearlot/clearlot/search/PartTree" = some m.cls := findClass_of_methodNamed Bd.named
  have hnm := (name_of_methodNamed Bd.named Bd.method).1
  have hlk : meth.locks = false := Bd.notSynchronized
  have X0 : Stand p l e ({ frames := 0, cells := 1, slots := 3, locals := 0 } : Room) s m #[(.ref a1), (.int (4 : Int32))] below meth c s₁ [] 0 0 := Stand.of_body Bd
  have e0 : s₁.heap = h0 := by rw [← hh, Bd.state]; rfl
  have NF := Fr.nil n0
  have KP : Keep h0 h0 [] := Keep.refl _ _
  refine own_fin (s := s) (Q := Q5_4 Z a1 b1 b2 k1 k2 x0 x1 x2 x3 x4 h0 n0) (rc := ({ frames := 0, cells := 1, slots := 3, locals := 0 } : Room).cells) (rs := ({ frames := 0, cells := 1, slots := 3, locals := 0 } : Room).slots) ?_
  refine own_go (fun t k => castTop (ef_5_4 m a1 (4 : Int32)) k) ?_
  show own_R _ _ _ _ (s₁.setTop (mkF m 0 #[.val (.ref a1), .val (.int (4 : Int32)), .unset, .unset, .unset] []))
  refine own_go (fun _ k => XS.iconst X0.here hx rfl (hb hby d5_0) k) ?_
  show own_R _ _ _ _ (s₁.setTop (mkF m 1 #[.val (.ref a1), .val (.int (4 : Int32)), .unset, .unset, .unset] [(.int (0 : Int32))]))
  refine own_go (fun _ k => XS.istoreN X0.here hx rfl (hb hby d5_1) rfl (l' := #[.val (.ref a1), .val (.int (4 : Int32)), .val (.int (0 : Int32)), .unset, .unset]) rfl k) ?_
  show own_R _ _ _ _ (s₁.setTop (mkF m 2 #[.val (.ref a1), .val (.int (4 : Int32)), .val (.int (0 : Int32)), .unset, .unset] []))
  refine own_go (fun _ k => XS.iloadN X0.here hx rfl (hb hby d5_2) rfl k) ?_
  show own_R _ _ _ _ (s₁.setTop (mkF m 3 #[.val (.ref a1), .val (.int (4 : Int32)), .val (.int (0 : Int32)), .unset, .unset] [(.int (4 : Int32))]))
  refine own_go (fun _ k => XS.istoreN X0.here hx rfl (hb hby d5_3) rfl (l' := #[.val (.ref a1), .val (.int (4 : Int32)), .val (.int (0 : Int32)), .val (.int (4 : Int32)), .unset]) rfl k) ?_
  show own_R _ _ _ _ (s₁.setTop (mkF m 4 #[.val (.ref a1), .val (.int (4 : Int32)), .val (.int (0 : Int32)), .val (.int (4 : Int32)), .unset] []))
  refine own_go (fun _ k => XS.aloadN X0.here hx rfl (hb hby d5_4) rfl rfl k) ?_
  show own_R _ _ _ _ (s₁.setTop (mkF m 5 #[.val (.ref a1), .val (.int (4 : Int32)), .val (.int (0 : Int32)), .val (.int (4 : Int32)), .unset] [(.ref a1)]))
  obtain ⟨T61, X61, e61, st61⟩ := getF X0 hx hZ hown (host := "") (Or.inl (hw _ (List.mem_of_getElem? (i := 19) rfl))) Via.refl e0 F_parents_a1 (g := (mkF m 5 #[.val (.ref a1), .val (.int (4 : Int32)), .val (.int (0 : Int32)), .val (.int (4 : Int32)), .unset] [(.ref a1)])) rfl rfl (hb hby d5_5)
  refine own_go st61 ?_
  show own_R _ _ _ _ (T61.setTop (mkF m 8 #[.val (.ref a1), .val (.int (4 : Int32)), .val (.int (0 : Int32)), .val (.int (4 : Int32)), .unset] [(.ref b1)]))
  refine own_go (fun _ k => XS.iloadN X61.here hx rfl (hb hby d5_8) rfl k) ?_
  show own_R _ _ _ _ (T61.setTop (mkF m 9 #[.val (.ref a1), .val (.int (4 : Int32)), .val (.int (0 : Int32)), .val (.int (4 : Int32)), .unset] [(.int (4 : Int32)), (.ref b1)]))
  refine own_go (own_ldI X61 hx hZ e61 V_b1 (j := (4 : Int32)) (i := 4) ⟨by decide, by decide⟩ rfl (v := (.int (2 : Int32))) rfl (g := (mkF m 9 #[.val (.ref a1), .val (.int (4 : Int32)), .val (.int (0 : Int32)), .val (.int (4 : Int32)), .unset] [(.int (4 : Int32)), (.ref b1)])) rfl rfl (hb hby d5_9)) ?_
  show own_R _ _ _ _ (T61.setTop (mkF m 10 #[.val (.ref a1), .val (.int (4 : Int32)), .val (.int (0 : Int32)), .val (.int (4 : Int32)), .unset] [(.int (2 : Int32))]))
  refine own_go (fun _ k => XS.iconst X61.here hx rfl (hb hby d5_10) k) ?_
  show own_R _ _ _ _ (T61.setTop (mkF m 11 #[.val (.ref a1), .val (.int (4 : Int32)), .val (.int (0 : Int32)), .val (.int (4 : Int32)), .unset] [(.int (-1 : Int32)), (.int (2 : Int32))]))
  refine own_go (fun _ k => XS.icmpNo X61.here hx rfl (hb hby d5_11) rfl (feq (by decide : ¬ ((2 : Int32) = (-1 : Int32)))).1 k) ?_
  show own_R _ _ _ _ (T61.setTop (mkF m 14 #[.val (.ref a1), .val (.int (4 : Int32)), .val (.int (0 : Int32)), .val (.int (4 : Int32)), .unset] []))
  refine own_go (fun _ k => XS.iinc X61.here hx rfl (hb hby d5_14) rfl (l' := #[.val (.ref a1), .val (.int (4 : Int32)), .val (.int (1 : Int32)), .val (.int (4 : Int32)), .unset]) rfl k) ?_
  show own_R _ _ _ _ (T61.setTop (mkF m 17 #[.val (.ref a1), .val (.int (4 : Int32)), .val (.int (1 : Int32)), .val (.int (4 : Int32)), .unset] []))
  refine own_go (fun _ k => XS.aloadN X61.here hx rfl (hb hby d5_17) rfl rfl k) ?_
  show own_R _ _ _ _ (T61.setTop (mkF m 18 #[.val (.ref a1), .val (.int (4 : Int32)), .val (.int (1 : Int32)), .val (.int (4 : Int32)), .unset] [(.ref a1)]))
  obtain ⟨T62, X62, e62, st62⟩ := getF X61 hx hZ hown (host := "") (Or.inl (hw _ (List.mem_of_getElem? (i := 19) rfl))) Via.refl e61 F_parents_a1 (g := (mkF m 18 #[.val (.ref a1), .val (.int (4 : Int32)), .val (.int (1 : Int32)), .val (.int (4 : Int32)), .unset] [(.ref a1)])) rfl rfl (hb hby d5_18)
  refine own_go st62 ?_
  show own_R _ _ _ _ (T62.setTop (mkF m 21 #[.val (.ref a1), .val (.int (4 : Int32)), .val (.int (1 : Int32)), .val (.int (4 : Int32)), .unset] [(.ref b1)]))
  refine own_go (fun _ k => XS.iloadN X62.here hx rfl (hb hby d5_21) rfl k) ?_
  show own_R _ _ _ _ (T62.setTop (mkF m 22 #[.val (.ref a1), .val (.int (4 : Int32)), .val (.int (1 : Int32)), .val (.int (4 : Int32)), .unset] [(.int (4 : Int32)), (.ref b1)]))
  refine own_go (own_ldI X62 hx hZ e62 V_b1 (j := (4 : Int32)) (i := 4) ⟨by decide, by decide⟩ rfl (v := (.int (2 : Int32))) rfl (g := (mkF m 22 #[.val (.ref a1), .val (.int (4 : Int32)), .val (.int (1 : Int32)), .val (.int (4 : Int32)), .unset] [(.int (4 : Int32)), (.ref b1)])) rfl rfl (hb hby d5_22)) ?_
  show own_R _ _ _ _ (T62.setTop (mkF m 23 #[.val (.ref a1), .val (.int (4 : Int32)), .val (.int (1 : Int32)), .val (.int (4 : Int32)), .unset] [(.int (2 : Int32))]))
  refine own_go (fun _ k => XS.istoreN X62.here hx rfl (hb hby d5_23) rfl (l' := #[.val (.ref a1), .val (.int (4 : Int32)), .val (.int (1 : Int32)), .val (.int (2 : Int32)), .unset]) rfl k) ?_
  show own_R _ _ _ _ (T62.setTop (mkF m 24 #[.val (.ref a1), .val (.int (4 : Int32)), .val (.int (1 : Int32)), .val (.int (2 : Int32)), .unset] []))
  refine own_go (fun _ k => XS.goto X62.here hx rfl (pc0 := 24) (pc' := 4) rfl (hb hby d5_24) (by decide) (by decide) k) ?_
  show own_R _ _ _ _ (T62.setTop (mkF m 4 #[.val (.ref a1), .val (.int (4 : Int32)), .val (.int (1 : Int32)), .val (.int (2 : Int32)), .unset] []))
  refine own_go (fun _ k => XS.aloadN X62.here hx rfl (hb hby d5_4) rfl rfl k) ?_
  show own_R _ _ _ _ (T62.setTop (mkF m 5 #[.val (.ref a1), .val (.int (4 : Int32)), .val (.int (1 : Int32)), .val (.int (2 : Int32)), .unset] [(.ref a1)]))
  obtain ⟨T63, X63, e63, st63⟩ := getF X62 hx hZ hown (host := "") (Or.inl (hw _ (List.mem_of_getElem? (i := 19) rfl))) Via.refl e62 F_parents_a1 (g := (mkF m 5 #[.val (.ref a1), .val (.int (4 : Int32)), .val (.int (1 : Int32)), .val (.int (2 : Int32)), .unset] [(.ref a1)])) rfl rfl (hb hby d5_5)
  refine own_go st63 ?_
  show own_R _ _ _ _ (T63.setTop (mkF m 8 #[.val (.ref a1), .val (.int (4 : Int32)), .val (.int (1 : Int32)), .val (.int (2 : Int32)), .unset] [(.ref b1)]))
  refine own_go (fun _ k => XS.iloadN X63.here hx rfl (hb hby d5_8) rfl k) ?_
  show own_R _ _ _ _ (T63.setTop (mkF m 9 #[.val (.ref a1), .val (.int (4 : Int32)), .val (.int (1 : Int32)), .val (.int (2 : Int32)), .unset] [(.int (2 : Int32)), (.ref b1)]))
  refine own_go (own_ldI X63 hx hZ e63 V_b1 (j := (2 : Int32)) (i := 2) ⟨by decide, by decide⟩ rfl (v := (.int (1 : Int32))) rfl (g := (mkF m 9 #[.val (.ref a1), .val (.int (4 : Int32)), .val (.int (1 : Int32)), .val (.int (2 : Int32)), .unset] [(.int (2 : Int32)), (.ref b1)])) rfl rfl (hb hby d5_9)) ?_
  show own_R _ _ _ _ (T63.setTop (mkF m 10 #[.val (.ref a1), .val (.int (4 : Int32)), .val (.int (1 : Int32)), .val (.int (2 : Int32)), .unset] [(.int (1 : Int32))]))
  refine own_go (fun _ k => XS.iconst X63.here hx rfl (hb hby d5_10) k) ?_
  show own_R _ _ _ _ (T63.setTop (mkF m 11 #[.val (.ref a1), .val (.int (4 : Int32)), .val (.int (1 : Int32)), .val (.int (2 : Int32)), .unset] [(.int (-1 : Int32)), (.int (1 : Int32))]))
  refine own_go (fun _ k => XS.icmpNo X63.here hx rfl (hb hby d5_11) rfl (feq (by decide : ¬ ((1 : Int32) = (-1 : Int32)))).1 k) ?_
  show own_R _ _ _ _ (T63.setTop (mkF m 14 #[.val (.ref a1), .val (.int (4 : Int32)), .val (.int (1 : Int32)), .val (.int (2 : Int32)), .unset] []))
  refine own_go (fun _ k => XS.iinc X63.here hx rfl (hb hby d5_14) rfl (l' := #[.val (.ref a1), .val (.int (4 : Int32)), .val (.int (2 : Int32)), .val (.int (2 : Int32)), .unset]) rfl k) ?_
  show own_R _ _ _ _ (T63.setTop (mkF m 17 #[.val (.ref a1), .val (.int (4 : Int32)), .val (.int (2 : Int32)), .val (.int (2 : Int32)), .unset] []))
  refine own_go (fun _ k => XS.aloadN X63.here hx rfl (hb hby d5_17) rfl rfl k) ?_
  show own_R _ _ _ _ (T63.setTop (mkF m 18 #[.val (.ref a1), .val (.int (4 : Int32)), .val (.int (2 : Int32)), .val (.int (2 : Int32)), .unset] [(.ref a1)]))
  obtain ⟨T64, X64, e64, st64⟩ := getF X63 hx hZ hown (host := "") (Or.inl (hw _ (List.mem_of_getElem? (i := 19) rfl))) Via.refl e63 F_parents_a1 (g := (mkF m 18 #[.val (.ref a1), .val (.int (4 : Int32)), .val (.int (2 : Int32)), .val (.int (2 : Int32)), .unset] [(.ref a1)])) rfl rfl (hb hby d5_18)
  refine own_go st64 ?_
  show own_R _ _ _ _ (T64.setTop (mkF m 21 #[.val (.ref a1), .val (.int (4 : Int32)), .val (.int (2 : Int32)), .val (.int (2 : Int32)), .unset] [(.ref b1)]))
  refine own_go (fun _ k => XS.iloadN X64.here hx rfl (hb hby d5_21) rfl k) ?_
  show own_R _ _ _ _ (T64.setTop (mkF m 22 #[.val (.ref a1), .val (.int (4 : Int32)), .val (.int (2 : Int32)), .val (.int (2 : Int32)), .unset] [(.int (2 : Int32)), (.ref b1)]))
  refine own_go (own_ldI X64 hx hZ e64 V_b1 (j := (2 : Int32)) (i := 2) ⟨by decide, by decide⟩ rfl (v := (.int (1 : Int32))) rfl (g := (mkF m 22 #[.val (.ref a1), .val (.int (4 : Int32)), .val (.int (2 : Int32)), .val (.int (2 : Int32)), .unset] [(.int (2 : Int32)), (.ref b1)])) rfl rfl (hb hby d5_22)) ?_
  show own_R _ _ _ _ (T64.setTop (mkF m 23 #[.val (.ref a1), .val (.int (4 : Int32)), .val (.int (2 : Int32)), .val (.int (2 : Int32)), .unset] [(.int (1 : Int32))]))
  refine own_go (fun _ k => XS.istoreN X64.here hx rfl (hb hby d5_23) rfl (l' := #[.val (.ref a1), .val (.int (4 : Int32)), .val (.int (2 : Int32)), .val (.int (1 : Int32)), .unset]) rfl k) ?_
  show own_R _ _ _ _ (T64.setTop (mkF m 24 #[.val (.ref a1), .val (.int (4 : Int32)), .val (.int (2 : Int32)), .val (.int (1 : Int32)), .unset] []))
  refine own_go (fun _ k => XS.goto X64.here hx rfl (pc0 := 24) (pc' := 4) rfl (hb hby d5_24) (by decide) (by decide) k) ?_
  show own_R _ _ _ _ (T64.setTop (mkF m 4 #[.val (.ref a1), .val (.int (4 : Int32)), .val (.int (2 : Int32)), .val (.int (1 : Int32)), .unset] []))
  refine own_go (fun _ k => XS.aloadN X64.here hx rfl (hb hby d5_4) rfl rfl k) ?_
  show own_R _ _ _ _ (T64.setTop (mkF m 5 #[.val (.ref a1), .val (.int (4 : Int32)), .val (.int (2 : Int32)), .val (.int (1 : Int32)), .unset] [(.ref a1)]))
  obtain ⟨T65, X65, e65, st65⟩ := getF X64 hx hZ hown (host := "") (Or.inl (hw _ (List.mem_of_getElem? (i := 19) rfl))) Via.refl e64 F_parents_a1 (g := (mkF m 5 #[.val (.ref a1), .val (.int (4 : Int32)), .val (.int (2 : Int32)), .val (.int (1 : Int32)), .unset] [(.ref a1)])) rfl rfl (hb hby d5_5)
  refine own_go st65 ?_
  show own_R _ _ _ _ (T65.setTop (mkF m 8 #[.val (.ref a1), .val (.int (4 : Int32)), .val (.int (2 : Int32)), .val (.int (1 : Int32)), .unset] [(.ref b1)]))
  refine own_go (fun _ k => XS.iloadN X65.here hx rfl (hb hby d5_8) rfl k) ?_
  show own_R _ _ _ _ (T65.setTop (mkF m 9 #[.val (.ref a1), .val (.int (4 : Int32)), .val (.int (2 : Int32)), .val (.int (1 : Int32)), .unset] [(.int (1 : Int32)), (.ref b1)]))
  refine own_go (own_ldI X65 hx hZ e65 V_b1 (j := (1 : Int32)) (i := 1) ⟨by decide, by decide⟩ rfl (v := (.int (0 : Int32))) rfl (g := (mkF m 9 #[.val (.ref a1), .val (.int (4 : Int32)), .val (.int (2 : Int32)), .val (.int (1 : Int32)), .unset] [(.int (1 : Int32)), (.ref b1)])) rfl rfl (hb hby d5_9)) ?_
  show own_R _ _ _ _ (T65.setTop (mkF m 10 #[.val (.ref a1), .val (.int (4 : Int32)), .val (.int (2 : Int32)), .val (.int (1 : Int32)), .unset] [(.int (0 : Int32))]))
  refine own_go (fun _ k => XS.iconst X65.here hx rfl (hb hby d5_10) k) ?_
  show own_R _ _ _ _ (T65.setTop (mkF m 11 #[.val (.ref a1), .val (.int (4 : Int32)), .val (.int (2 : Int32)), .val (.int (1 : Int32)), .unset] [(.int (-1 : Int32)), (.int (0 : Int32))]))
  refine own_go (fun _ k => XS.icmpNo X65.here hx rfl (hb hby d5_11) rfl (feq (by decide : ¬ ((0 : Int32) = (-1 : Int32)))).1 k) ?_
  show own_R _ _ _ _ (T65.setTop (mkF m 14 #[.val (.ref a1), .val (.int (4 : Int32)), .val (.int (2 : Int32)), .val (.int (1 : Int32)), .unset] []))
  refine own_go (fun _ k => XS.iinc X65.here hx rfl (hb hby d5_14) rfl (l' := #[.val (.ref a1), .val (.int (4 : Int32)), .val (.int (3 : Int32)), .val (.int (1 : Int32)), .unset]) rfl k) ?_
  show own_R _ _ _ _ (T65.setTop (mkF m 17 #[.val (.ref a1), .val (.int (4 : Int32)), .val (.int (3 : Int32)), .val (.int (1 : Int32)), .unset] []))
  refine own_go (fun _ k => XS.aloadN X65.here hx rfl (hb hby d5_17) rfl rfl k) ?_
  show own_R _ _ _ _ (T65.setTop (mkF m 18 #[.val (.ref a1), .val (.int (4 : Int32)), .val (.int (3 : Int32)), .val (.int (1 : Int32)), .unset] [(.ref a1)]))
  obtain ⟨T66, X66, e66, st66⟩ := getF X65 hx hZ hown (host := "") (Or.inl (hw _ (List.mem_of_getElem? (i := 19) rfl))) Via.refl e65 F_parents_a1 (g := (mkF m 18 #[.val (.ref a1), .val (.int (4 : Int32)), .val (.int (3 : Int32)), .val (.int (1 : Int32)), .unset] [(.ref a1)])) rfl rfl (hb hby d5_18)
  refine own_go st66 ?_
  show own_R _ _ _ _ (T66.setTop (mkF m 21 #[.val (.ref a1), .val (.int (4 : Int32)), .val (.int (3 : Int32)), .val (.int (1 : Int32)), .unset] [(.ref b1)]))
  refine own_go (fun _ k => XS.iloadN X66.here hx rfl (hb hby d5_21) rfl k) ?_
  show own_R _ _ _ _ (T66.setTop (mkF m 22 #[.val (.ref a1), .val (.int (4 : Int32)), .val (.int (3 : Int32)), .val (.int (1 : Int32)), .unset] [(.int (1 : Int32)), (.ref b1)]))
  refine own_go (own_ldI X66 hx hZ e66 V_b1 (j := (1 : Int32)) (i := 1) ⟨by decide, by decide⟩ rfl (v := (.int (0 : Int32))) rfl (g := (mkF m 22 #[.val (.ref a1), .val (.int (4 : Int32)), .val (.int (3 : Int32)), .val (.int (1 : Int32)), .unset] [(.int (1 : Int32)), (.ref b1)])) rfl rfl (hb hby d5_22)) ?_
  show own_R _ _ _ _ (T66.setTop (mkF m 23 #[.val (.ref a1), .val (.int (4 : Int32)), .val (.int (3 : Int32)), .val (.int (1 : Int32)), .unset] [(.int (0 : Int32))]))
  refine own_go (fun _ k => XS.istoreN X66.here hx rfl (hb hby d5_23) rfl (l' := #[.val (.ref a1), .val (.int (4 : Int32)), .val (.int (3 : Int32)), .val (.int (0 : Int32)), .unset]) rfl k) ?_
  show own_R _ _ _ _ (T66.setTop (mkF m 24 #[.val (.ref a1), .val (.int (4 : Int32)), .val (.int (3 : Int32)), .val (.int (0 : Int32)), .unset] []))
  refine own_go (fun _ k => XS.goto X66.here hx rfl (pc0 := 24) (pc' := 4) rfl (hb hby d5_24) (by decide) (by decide) k) ?_
  show own_R _ _ _ _ (T66.setTop (mkF m 4 #[.val (.ref a1), .val (.int (4 : Int32)), .val (.int (3 : Int32)), .val (.int (0 : Int32)), .unset] []))
  refine own_go (fun _ k => XS.aloadN X66.here hx rfl (hb hby d5_4) rfl rfl k) ?_
  show own_R _ _ _ _ (T66.setTop (mkF m 5 #[.val (.ref a1), .val (.int (4 : Int32)), .val (.int (3 : Int32)), .val (.int (0 : Int32)), .unset] [(.ref a1)]))
  obtain ⟨T67, X67, e67, st67⟩ := getF X66 hx hZ hown (host := "") (Or.inl (hw _ (List.mem_of_getElem? (i := 19) rfl))) Via.refl e66 F_parents_a1 (g := (mkF m 5 #[.val (.ref a1), .val (.int (4 : Int32)), .val (.int (3 : Int32)), .val (.int (0 : Int32)), .unset] [(.ref a1)])) rfl rfl (hb hby d5_5)
  refine own_go st67 ?_
  show own_R _ _ _ _ (T67.setTop (mkF m 8 #[.val (.ref a1), .val (.int (4 : Int32)), .val (.int (3 : Int32)), .val (.int (0 : Int32)), .unset] [(.ref b1)]))
  refine own_go (fun _ k => XS.iloadN X67.here hx rfl (hb hby d5_8) rfl k) ?_
  show own_R _ _ _ _ (T67.setTop (mkF m 9 #[.val (.ref a1), .val (.int (4 : Int32)), .val (.int (3 : Int32)), .val (.int (0 : Int32)), .unset] [(.int (0 : Int32)), (.ref b1)]))
  refine own_go (own_ldI X67 hx hZ e67 V_b1 (j := (0 : Int32)) (i := 0) ⟨by decide, by decide⟩ rfl (v := (.int (-1 : Int32))) rfl (g := (mkF m 9 #[.val (.ref a1), .val (.int (4 : Int32)), .val (.int (3 : Int32)), .val (.int (0 : Int32)), .unset] [(.int (0 : Int32)), (.ref b1)])) rfl rfl (hb hby d5_9)) ?_
  show own_R _ _ _ _ (T67.setTop (mkF m 10 #[.val (.ref a1), .val (.int (4 : Int32)), .val (.int (3 : Int32)), .val (.int (0 : Int32)), .unset] [(.int (-1 : Int32))]))
  refine own_go (fun _ k => XS.iconst X67.here hx rfl (hb hby d5_10) k) ?_
  show own_R _ _ _ _ (T67.setTop (mkF m 11 #[.val (.ref a1), .val (.int (4 : Int32)), .val (.int (3 : Int32)), .val (.int (0 : Int32)), .unset] [(.int (-1 : Int32)), (.int (-1 : Int32))]))
  refine own_go (fun _ k => XS.icmpYes X67.here hx rfl (pc0 := 11) (pc' := 27) rfl (hb hby d5_11) rfl (teq (by decide : (-1 : Int32) = (-1 : Int32))).1 (by decide) (by decide) k) ?_
  show own_R _ _ _ _ (T67.setTop (mkF m 27 #[.val (.ref a1), .val (.int (4 : Int32)), .val (.int (3 : Int32)), .val (.int (0 : Int32)), .unset] []))
  refine own_go (fun _ k => XS.iloadN X67.here hx rfl (hb hby d5_27) rfl k) ?_
  show own_R _ _ _ _ (T67.setTop (mkF m 28 #[.val (.ref a1), .val (.int (4 : Int32)), .val (.int (3 : Int32)), .val (.int (0 : Int32)), .unset] [(.int (3 : Int32))]))
  obtain ⟨T68, h68, k68, X68, e68, E68, A68, st68⟩ := newP X67 hx hZ (hw _ (List.mem_of_getElem? (i := 9) rfl)) e67 (g := (mkF m 28 #[.val (.ref a1), .val (.int (4 : Int32)), .val (.int (3 : Int32)), .val (.int (0 : Int32)), .unset] [(.int (3 : Int32))])) rfl (hb hby d5_28) rfl (by decide) (cap := 3) (by decide) (by decide) (by decide) (by decide)
  obtain ⟨b68, g68⟩ : ∃ z, z = h0.size := ⟨_, rfl⟩
  rw [← g68] at A68 st68
  refine own_go st68 ?_
  have ne_a1_b68 : a1 ≠ b68 := Nat.ne_of_lt (Nat.lt_of_lt_of_le F_parents_a1.lt (Nat.le_of_eq g68.symm))
  have ne_b1_b68 : b1 ≠ b68 := Nat.ne_of_lt (Nat.lt_of_lt_of_le V_b1.lt (Nat.le_of_eq g68.symm))
  have ne_b2_b68 : b2 ≠ b68 := Nat.ne_of_lt (Nat.lt_of_lt_of_le V_b2.lt (Nat.le_of_eq g68.symm))
  have g_b68 : n0 ≤ b68 := Nat.le_trans ZS (Nat.le_of_eq g68.symm)
  have sz_b68 : h0.size ≤ b68 := Nat.le_trans KP.1 (Nat.le_of_eq g68.symm)
  have F_parents_a1 := F_parents_a1.ext E68
  have F_branches_a1 := F_branches_a1.ext E68
  have V_b1 := V_b1.ext E68
  have V_b2 := V_b2.ext E68
  have ZS := Nat.le_trans ZS E68.1
  have KP := KP.ext E68
  have V_b68 : Arv Z h68 b68 k68 .int (3 : Int32) [(.int (0 : Int32)), (.int (0 : Int32)), (.int (0 : Int32))] (.int (0 : Int32)) := (Arv.new A68 (by decide)).pad (pad_rep [] (.int (0 : Int32)) 3)
  show own_R _ _ _ _ (T68.setTop (mkF m 30 #[.val (.ref a1), .val (.int (4 : Int32)), .val (.int (3 : Int32)), .val (.int (0 : Int32)), .unset] [(.ref b68)]))
  refine own_go (fun _ k => XS.astoreN X68.here hx rfl (hb hby d5_30) rfl rfl (l' := #[.val (.ref a1), .val (.int (4 : Int32)), .val (.int (3 : Int32)), .val (.ref b68), .unset]) rfl k) ?_
  show own_R _ _ _ _ (T68.setTop (mkF m 31 #[.val (.ref a1), .val (.int (4 : Int32)), .val (.int (3 : Int32)), .val (.ref b68), .unset] []))
  refine own_go (fun _ k => XS.iloadN X68.here hx rfl (hb hby d5_31) rfl k) ?_
  show own_R _ _ _ _ (T68.setTop (mkF m 32 #[.val (.ref a1), .val (.int (4 : Int32)), .val (.int (3 : Int32)), .val (.ref b68), .unset] [(.int (4 : Int32))]))
  refine own_go (fun _ k => XS.istore X68.here hx rfl (hb hby d5_32) rfl (l' := #[.val (.ref a1), .val (.int (4 : Int32)), .val (.int (3 : Int32)), .val (.ref b68), .val (.int (4 : Int32))]) rfl k) ?_
  show own_R _ _ _ _ (T68.setTop (mkF m 34 #[.val (.ref a1), .val (.int (4 : Int32)), .val (.int (3 : Int32)), .val (.ref b68), .val (.int (4 : Int32))] []))
  refine own_go (fun _ k => XS.aloadN X68.here hx rfl (hb hby d5_34) rfl rfl k) ?_
  show own_R _ _ _ _ (T68.setTop (mkF m 35 #[.val (.ref a1), .val (.int (4 : Int32)), .val (.int (3 : Int32)), .val (.ref b68), .val (.int (4 : Int32))] [(.ref a1)]))
  obtain ⟨T69, X69, e69, st69⟩ := getF X68 hx hZ hown (host := "") (Or.inl (hw _ (List.mem_of_getElem? (i := 19) rfl))) Via.refl e68 F_parents_a1 (g := (mkF m 35 #[.val (.ref a1), .val (.int (4 : Int32)), .val (.int (3 : Int32)), .val (.ref b68), .val (.int (4 : Int32))] [(.ref a1)])) rfl rfl (hb hby d5_35)
  refine own_go st69 ?_
  show own_R _ _ _ _ (T69.setTop (mkF m 38 #[.val (.ref a1), .val (.int (4 : Int32)), .val (.int (3 : Int32)), .val (.ref b68), .val (.int (4 : Int32))] [(.ref b1)]))
  refine own_go (fun _ k => XS.iload X69.here hx rfl (hb hby d5_38) rfl k) ?_
  show own_R _ _ _ _ (T69.setTop (mkF m 40 #[.val (.ref a1), .val (.int (4 : Int32)), .val (.int (3 : Int32)), .val (.ref b68), .val (.int (4 : Int32))] [(.int (4 : Int32)), (.ref b1)]))
  refine own_go (own_ldI X69 hx hZ e69 V_b1 (j := (4 : Int32)) (i := 4) ⟨by decide, by decide⟩ rfl (v := (.int (2 : Int32))) rfl (g := (mkF m 40 #[.val (.ref a1), .val (.int (4 : Int32)), .val (.int (3 : Int32)), .val (.ref b68), .val (.int (4 : Int32))] [(.int (4 : Int32)), (.ref b1)])) rfl rfl (hb hby d5_40)) ?_
  show own_R _ _ _ _ (T69.setTop (mkF m 41 #[.val (.ref a1), .val (.int (4 : Int32)), .val (.int (3 : Int32)), .val (.ref b68), .val (.int (4 : Int32))] [(.int (2 : Int32))]))
  refine own_go (fun _ k => XS.iconst X69.here hx rfl (hb hby d5_41) k) ?_
  show own_R _ _ _ _ (T69.setTop (mkF m 42 #[.val (.ref a1), .val (.int (4 : Int32)), .val (.int (3 : Int32)), .val (.ref b68), .val (.int (4 : Int32))] [(.int (-1 : Int32)), (.int (2 : Int32))]))
  refine own_go (fun _ k => XS.icmpNo X69.here hx rfl (hb hby d5_42) rfl (feq (by decide : ¬ ((2 : Int32) = (-1 : Int32)))).1 k) ?_
  show own_R _ _ _ _ (T69.setTop (mkF m 45 #[.val (.ref a1), .val (.int (4 : Int32)), .val (.int (3 : Int32)), .val (.ref b68), .val (.int (4 : Int32))] []))
  refine own_go (fun _ k => XS.aloadN X69.here hx rfl (hb hby d5_45) rfl rfl k) ?_
  show own_R _ _ _ _ (T69.setTop (mkF m 46 #[.val (.ref a1), .val (.int (4 : Int32)), .val (.int (3 : Int32)), .val (.ref b68), .val (.int (4 : Int32))] [(.ref b68)]))
  refine own_go (fun _ k => XS.iinc X69.here hx rfl (hb hby d5_46) rfl (l' := #[.val (.ref a1), .val (.int (4 : Int32)), .val (.int (2 : Int32)), .val (.ref b68), .val (.int (4 : Int32))]) rfl k) ?_
  show own_R _ _ _ _ (T69.setTop (mkF m 49 #[.val (.ref a1), .val (.int (4 : Int32)), .val (.int (2 : Int32)), .val (.ref b68), .val (.int (4 : Int32))] [(.ref b68)]))
  refine own_go (fun _ k => XS.iloadN X69.here hx rfl (hb hby d5_49) rfl k) ?_
  show own_R _ _ _ _ (T69.setTop (mkF m 50 #[.val (.ref a1), .val (.int (4 : Int32)), .val (.int (2 : Int32)), .val (.ref b68), .val (.int (4 : Int32))] [(.int (2 : Int32)), (.ref b68)]))
  refine own_go (fun _ k => XS.aloadN X69.here hx rfl (hb hby d5_50) rfl rfl k) ?_
  show own_R _ _ _ _ (T69.setTop (mkF m 51 #[.val (.ref a1), .val (.int (4 : Int32)), .val (.int (2 : Int32)), .val (.ref b68), .val (.int (4 : Int32))] [(.ref a1), (.int (2 : Int32)), (.ref b68)]))
  obtain ⟨T70, X70, e70, st70⟩ := getF X69 hx hZ hown (host := "") (Or.inl (hw _ (List.mem_of_getElem? (i := 21) rfl))) Via.refl e69 F_branches_a1 (g := (mkF m 51 #[.val (.ref a1), .val (.int (4 : Int32)), .val (.int (2 : Int32)), .val (.ref b68), .val (.int (4 : Int32))] [(.ref a1), (.int (2 : Int32)), (.ref b68)])) rfl rfl (hb hby d5_51)
  refine own_go st70 ?_
  show own_R _ _ _ _ (T70.setTop (mkF m 54 #[.val (.ref a1), .val (.int (4 : Int32)), .val (.int (2 : Int32)), .val (.ref b68), .val (.int (4 : Int32))] [(.ref b2), (.int (2 : Int32)), (.ref b68)]))
  refine own_go (fun _ k => XS.iload X70.here hx rfl (hb hby d5_54) rfl k) ?_
  show own_R _ _ _ _ (T70.setTop (mkF m 56 #[.val (.ref a1), .val (.int (4 : Int32)), .val (.int (2 : Int32)), .val (.ref b68), .val (.int (4 : Int32))] [(.int (4 : Int32)), (.ref b2), (.int (2 : Int32)), (.ref b68)]))
  refine own_go (own_ldI X70 hx hZ e70 V_b2 (j := (4 : Int32)) (i := 4) ⟨by decide, by decide⟩ rfl (v := (.int x4)) rfl (g := (mkF m 56 #[.val (.ref a1), .val (.int (4 : Int32)), .val (.int (2 : Int32)), .val (.ref b68), .val (.int (4 : Int32))] [(.int (4 : Int32)), (.ref b2), (.int (2 : Int32)), (.ref b68)])) rfl rfl (hb hby d5_56)) ?_
  show own_R _ _ _ _ (T70.setTop (mkF m 57 #[.val (.ref a1), .val (.int (4 : Int32)), .val (.int (2 : Int32)), .val (.ref b68), .val (.int (4 : Int32))] [(.int x4), (.int (2 : Int32)), (.ref b68)]))
  obtain ⟨T71, h71, sl71, X71, e71, W71, V71, st71⟩ := own_stI X70 hx hZ e70 V_b68 (j := (2 : Int32)) (i := 2) ⟨by decide, by decide⟩ rfl (Nat.le_of_ble_eq_true rfl) rfl (g := (mkF m 57 #[.val (.ref a1), .val (.int (4 : Int32)), .val (.int (2 : Int32)), .val (.ref b68), .val (.int (4 : Int32))] [(.int x4), (.int (2 : Int32)), (.ref b68)])) rfl rfl (hb hby d5_57)
  refine own_go st71 ?_
  have F_parents_a1 := F_parents_a1.other W71 (Or.inl ne_a1_b68)
  have F_branches_a1 := F_branches_a1.other W71 (Or.inl ne_a1_b68)
  have V_b1 := V_b1.other W71 ne_b1_b68
  have V_b2 := V_b2.other W71 ne_b2_b68
  have ZS := Nat.le_trans ZS (Keep.of_wr W71).1
  have KP := KP.wr W71 (Or.inr sz_b68)
  have NF := Fr.snoc X71 NF g_b68
  have V_b68 : Arv Z h71 b68 k68 .int (3 : Int32) [(.int (0 : Int32)), (.int (0 : Int32)), (.int x4)] (.int (0 : Int32)) := V71
  show own_R _ _ _ _ (T71.setTop (mkF m 58 #[.val (.ref a1), .val (.int (4 : Int32)), .val (.int (2 : Int32)), .val (.ref b68), .val (.int (4 : Int32))] []))
  refine own_go (fun _ k => XS.aloadN X71.here hx rfl (hb hby d5_58) rfl rfl k) ?_
  show own_R _ _ _ _ (T71.setTop (mkF m 59 #[.val (.ref a1), .val (.int (4 : Int32)), .val (.int (2 : Int32)), .val (.ref b68), .val (.int (4 : Int32))] [(.ref a1)]))
  obtain ⟨T72, X72, e72, st72⟩ := getF X71 hx hZ hown (host := "") (Or.inl (hw _ (List.mem_of_getElem? (i := 19) rfl))) Via.refl e71 F_parents_a1 (g := (mkF m 59 #[.val (.ref a1), .val (.int (4 : Int32)), .val (.int (2 : Int32)), .val (.ref b68), .val (.int (4 : Int32))] [(.ref a1)])) rfl rfl (hb hby d5_59)
  refine own_go st72 ?_
  show own_R _ _ _ _ (T72.setTop (mkF m 62 #[.val (.ref a1), .val (.int (4 : Int32)), .val (.int (2 : Int32)), .val (.ref b68), .val (.int (4 : Int32))] [(.ref b1)]))
  refine own_go (fun _ k => XS.iload X72.here hx rfl (hb hby d5_62) rfl k) ?_
  show own_R _ _ _ _ (T72.setTop (mkF m 64 #[.val (.ref a1), .val (.int (4 : Int32)), .val (.int (2 : Int32)), .val (.ref b68), .val (.int (4 : Int32))] [(.int (4 : Int32)), (.ref b1)]))
  refine own_go (own_ldI X72 hx hZ e72 V_b1 (j := (4 : Int32)) (i := 4) ⟨by decide, by decide⟩ rfl (v := (.int (2 : Int32))) rfl (g := (mkF m 64 #[.val (.ref a1), .val (.int (4 : Int32)), .val (.int (2 : Int32)), .val (.ref b68), .val (.int (4 : Int32))] [(.int (4 : Int32)), (.ref b1)])) rfl rfl (hb hby d5_64)) ?_
  show own_R _ _ _ _ (T72.setTop (mkF m 65 #[.val (.ref a1), .val (.int (4 : Int32)), .val (.int (2 : Int32)), .val (.ref b68), .val (.int (4 : Int32))] [(.int (2 : Int32))]))
  refine own_go (fun _ k => XS.istore X72.here hx rfl (hb hby d5_65) rfl (l' := #[.val (.ref a1), .val (.int (4 : Int32)), .val (.int (2 : Int32)), .val (.ref b68), .val (.int (2 : Int32))]) rfl k) ?_
  show own_R _ _ _ _ (T72.setTop (mkF m 67 #[.val (.ref a1), .val (.int (4 : Int32)), .val (.int (2 : Int32)), .val (.ref b68), .val (.int (2 : Int32))] []))
  refine own_go (fun _ k => XS.goto X72.here hx rfl (pc0 := 67) (pc' := 34) rfl (hb hby d5_67) (by decide) (by decide) k) ?_
  show own_R _ _ _ _ (T72.setTop (mkF m 34 #[.val (.ref a1), .val (.int (4 : Int32)), .val (.int (2 : Int32)), .val (.ref b68), .val (.int (2 : Int32))] []))
  refine own_go (fun _ k => XS.aloadN X72.here hx rfl (hb hby d5_34) rfl rfl k) ?_
  show own_R _ _ _ _ (T72.setTop (mkF m 35 #[.val (.ref a1), .val (.int (4 : Int32)), .val (.int (2 : Int32)), .val (.ref b68), .val (.int (2 : Int32))] [(.ref a1)]))
  obtain ⟨T73, X73, e73, st73⟩ := getF X72 hx hZ hown (host := "") (Or.inl (hw _ (List.mem_of_getElem? (i := 19) rfl))) Via.refl e72 F_parents_a1 (g := (mkF m 35 #[.val (.ref a1), .val (.int (4 : Int32)), .val (.int (2 : Int32)), .val (.ref b68), .val (.int (2 : Int32))] [(.ref a1)])) rfl rfl (hb hby d5_35)
  refine own_go st73 ?_
  show own_R _ _ _ _ (T73.setTop (mkF m 38 #[.val (.ref a1), .val (.int (4 : Int32)), .val (.int (2 : Int32)), .val (.ref b68), .val (.int (2 : Int32))] [(.ref b1)]))
  refine own_go (fun _ k => XS.iload X73.here hx rfl (hb hby d5_38) rfl k) ?_
  show own_R _ _ _ _ (T73.setTop (mkF m 40 #[.val (.ref a1), .val (.int (4 : Int32)), .val (.int (2 : Int32)), .val (.ref b68), .val (.int (2 : Int32))] [(.int (2 : Int32)), (.ref b1)]))
  refine own_go (own_ldI X73 hx hZ e73 V_b1 (j := (2 : Int32)) (i := 2) ⟨by decide, by decide⟩ rfl (v := (.int (1 : Int32))) rfl (g := (mkF m 40 #[.val (.ref a1), .val (.int (4 : Int32)), .val (.int (2 : Int32)), .val (.ref b68), .val (.int (2 : Int32))] [(.int (2 : Int32)), (.ref b1)])) rfl rfl (hb hby d5_40)) ?_
  show own_R _ _ _ _ (T73.setTop (mkF m 41 #[.val (.ref a1), .val (.int (4 : Int32)), .val (.int (2 : Int32)), .val (.ref b68), .val (.int (2 : Int32))] [(.int (1 : Int32))]))
  refine own_go (fun _ k => XS.iconst X73.here hx rfl (hb hby d5_41) k) ?_
  show own_R _ _ _ _ (T73.setTop (mkF m 42 #[.val (.ref a1), .val (.int (4 : Int32)), .val (.int (2 : Int32)), .val (.ref b68), .val (.int (2 : Int32))] [(.int (-1 : Int32)), (.int (1 : Int32))]))
  refine own_go (fun _ k => XS.icmpNo X73.here hx rfl (hb hby d5_42) rfl (feq (by decide : ¬ ((1 : Int32) = (-1 : Int32)))).1 k) ?_
  show own_R _ _ _ _ (T73.setTop (mkF m 45 #[.val (.ref a1), .val (.int (4 : Int32)), .val (.int (2 : Int32)), .val (.ref b68), .val (.int (2 : Int32))] []))
  refine own_go (fun _ k => XS.aloadN X73.here hx rfl (hb hby d5_45) rfl rfl k) ?_
  show own_R _ _ _ _ (T73.setTop (mkF m 46 #[.val (.ref a1), .val (.int (4 : Int32)), .val (.int (2 : Int32)), .val (.ref b68), .val (.int (2 : Int32))] [(.ref b68)]))
  refine own_go (fun _ k => XS.iinc X73.here hx rfl (hb hby d5_46) rfl (l' := #[.val (.ref a1), .val (.int (4 : Int32)), .val (.int (1 : Int32)), .val (.ref b68), .val (.int (2 : Int32))]) rfl k) ?_
  show own_R _ _ _ _ (T73.setTop (mkF m 49 #[.val (.ref a1), .val (.int (4 : Int32)), .val (.int (1 : Int32)), .val (.ref b68), .val (.int (2 : Int32))] [(.ref b68)]))
  refine own_go (fun _ k => XS.iloadN X73.here hx rfl (hb hby d5_49) rfl k) ?_
  show own_R _ _ _ _ (T73.setTop (mkF m 50 #[.val (.ref a1), .val (.int (4 : Int32)), .val (.int (1 : Int32)), .val (.ref b68), .val (.int (2 : Int32))] [(.int (1 : Int32)), (.ref b68)]))
  refine own_go (fun _ k => XS.aloadN X73.here hx rfl (hb hby d5_50) rfl rfl k) ?_
  show own_R _ _ _ _ (T73.setTop (mkF m 51 #[.val (.ref a1), .val (.int (4 : Int32)), .val (.int (1 : Int32)), .val (.ref b68), .val (.int (2 : Int32))] [(.ref a1), (.int (1 : Int32)), (.ref b68)]))
  obtain ⟨T74, X74, e74, st74⟩ := getF X73 hx hZ hown (host := "") (Or.inl (hw _ (List.mem_of_getElem? (i := 21) rfl))) Via.refl e73 F_branches_a1 (g := (mkF m 51 #[.val (.ref a1), .val (.int (4 : Int32)), .val (.int (1 : Int32)), .val (.ref b68), .val (.int (2 : Int32))] [(.ref a1), (.int (1 : Int32)), (.ref b68)])) rfl rfl (hb hby d5_51)
  refine own_go st74 ?_
  show own_R _ _ _ _ (T74.setTop (mkF m 54 #[.val (.ref a1), .val (.int (4 : Int32)), .val (.int (1 : Int32)), .val (.ref b68), .val (.int (2 : Int32))] [(.ref b2), (.int (1 : Int32)), (.ref b68)]))
  refine own_go (fun _ k => XS.iload X74.here hx rfl (hb hby d5_54) rfl k) ?_
  show own_R _ _ _ _ (T74.setTop (mkF m 56 #[.val (.ref a1), .val (.int (4 : Int32)), .val (.int (1 : Int32)), .val (.ref b68), .val (.int (2 : Int32))] [(.int (2 : Int32)), (.ref b2), (.int (1 : Int32)), (.ref b68)]))
  refine own_go (own_ldI X74 hx hZ e74 V_b2 (j := (2 : Int32)) (i := 2) ⟨by decide, by decide⟩ rfl (v := (.int x2)) rfl (g := (mkF m 56 #[.val (.ref a1), .val (.int (4 : Int32)), .val (.int (1 : Int32)), .val (.ref b68), .val (.int (2 : Int32))] [(.int (2 : Int32)), (.ref b2), (.int (1 : Int32)), (.ref b68)])) rfl rfl (hb hby d5_56)) ?_
  show own_R _ _ _ _ (T74.setTop (mkF m 57 #[.val (.ref a1), .val (.int (4 : Int32)), .val (.int (1 : Int32)), .val (.ref b68), .val (.int (2 : Int32))] [(.int x2), (.int (1 : Int32)), (.ref b68)]))
  obtain ⟨T75, h75, sl75, X75, e75, W75, V75, st75⟩ := own_stI X74 hx hZ e74 V_b68 (j := (1 : Int32)) (i := 1) ⟨by decide, by decide⟩ rfl (Nat.le_of_ble_eq_true rfl) rfl (g := (mkF m 57 #[.val (.ref a1), .val (.int (4 : Int32)), .val (.int (1 : Int32)), .val (.ref b68), .val (.int (2 : Int32))] [(.int x2), (.int (1 : Int32)), (.ref b68)])) rfl rfl (hb hby d5_57)
  refine own_go st75 ?_
  have F_parents_a1 := F_parents_a1.other W75 (Or.inl ne_a1_b68)
  have F_branches_a1 := F_branches_a1.other W75 (Or.inl ne_a1_b68)
  have V_b1 := V_b1.other W75 ne_b1_b68
  have V_b2 := V_b2.other W75 ne_b2_b68
  have ZS := Nat.le_trans ZS (Keep.of_wr W75).1
  have KP := KP.wr W75 (Or.inr sz_b68)
  have NF := Fr.snoc X75 NF g_b68
  have V_b68 : Arv Z h75 b68 k68 .int (3 : Int32) [(.int (0 : Int32)), (.int x2), (.int x4)] (.int (0 : Int32)) := V75
  show own_R _ _ _ _ (T75.setTop (mkF m 58 #[.val (.ref a1), .val (.int (4 : Int32)), .val (.int (1 : Int32)), .val (.ref b68), .val (.int (2 : Int32))] []))
  refine own_go (fun _ k => XS.aloadN X75.here hx rfl (hb hby d5_58) rfl rfl k) ?_
  show own_R _ _ _ _ (T75.setTop (mkF m 59 #[.val (.ref a1), .val (.int (4 : Int32)), .val (.int (1 : Int32)), .val (.ref b68), .val (.int (2 : Int32))] [(.ref a1)]))
  obtain ⟨T76, X76, e76, st76⟩ := getF X75 hx hZ hown (host := "") (Or.inl (hw _ (List.mem_of_getElem? (i := 19) rfl))) Via.refl e75 F_parents_a1 (g := (mkF m 59 #[.val (.ref a1), .val (.int (4 : Int32)), .val (.int (1 : Int32)), .val (.ref b68), .val (.int (2 : Int32))] [(.ref a1)])) rfl rfl (hb hby d5_59)
  refine own_go st76 ?_
  show own_R _ _ _ _ (T76.setTop (mkF m 62 #[.val (.ref a1), .val (.int (4 : Int32)), .val (.int (1 : Int32)), .val (.ref b68), .val (.int (2 : Int32))] [(.ref b1)]))
  refine own_go (fun _ k => XS.iload X76.here hx rfl (hb hby d5_62) rfl k) ?_
  show own_R _ _ _ _ (T76.setTop (mkF m 64 #[.val (.ref a1), .val (.int (4 : Int32)), .val (.int (1 : Int32)), .val (.ref b68), .val (.int (2 : Int32))] [(.int (2 : Int32)), (.ref b1)]))
  refine own_go (own_ldI X76 hx hZ e76 V_b1 (j := (2 : Int32)) (i := 2) ⟨by decide, by decide⟩ rfl (v := (.int (1 : Int32))) rfl (g := (mkF m 64 #[.val (.ref a1), .val (.int (4 : Int32)), .val (.int (1 : Int32)), .val (.ref b68), .val (.int (2 : Int32))] [(.int (2 : Int32)), (.ref b1)])) rfl rfl (hb hby d5_64)) ?_
  show own_R _ _ _ _ (T76.setTop (mkF m 65 #[.val (.ref a1), .val (.int (4 : Int32)), .val (.int (1 : Int32)), .val (.ref b68), .val (.int (2 : Int32))] [(.int (1 : Int32))]))
  refine own_go (fun _ k => XS.istore X76.here hx rfl (hb hby d5_65) rfl (l' := #[.val (.ref a1), .val (.int (4 : Int32)), .val (.int (1 : Int32)), .val (.ref b68), .val (.int (1 : Int32))]) rfl k) ?_
  show own_R _ _ _ _ (T76.setTop (mkF m 67 #[.val (.ref a1), .val (.int (4 : Int32)), .val (.int (1 : Int32)), .val (.ref b68), .val (.int (1 : Int32))] []))
  refine own_go (fun _ k => XS.goto X76.here hx rfl (pc0 := 67) (pc' := 34) rfl (hb hby d5_67) (by decide) (by decide) k) ?_
  show own_R _ _ _ _ (T76.setTop (mkF m 34 #[.val (.ref a1), .val (.int (4 : Int32)), .val (.int (1 : Int32)), .val (.ref b68), .val (.int (1 : Int32))] []))
  refine own_go (fun _ k => XS.aloadN X76.here hx rfl (hb hby d5_34) rfl rfl k) ?_
  show own_R _ _ _ _ (T76.setTop (mkF m 35 #[.val (.ref a1), .val (.int (4 : Int32)), .val (.int (1 : Int32)), .val (.ref b68), .val (.int (1 : Int32))] [(.ref a1)]))
  obtain ⟨T77, X77, e77, st77⟩ := getF X76 hx hZ hown (host := "") (Or.inl (hw _ (List.mem_of_getElem? (i := 19) rfl))) Via.refl e76 F_parents_a1 (g := (mkF m 35 #[.val (.ref a1), .val (.int (4 : Int32)), .val (.int (1 : Int32)), .val (.ref b68), .val (.int (1 : Int32))] [(.ref a1)])) rfl rfl (hb hby d5_35)
  refine own_go st77 ?_
  show own_R _ _ _ _ (T77.setTop (mkF m 38 #[.val (.ref a1), .val (.int (4 : Int32)), .val (.int (1 : Int32)), .val (.ref b68), .val (.int (1 : Int32))] [(.ref b1)]))
  refine own_go (fun _ k => XS.iload X77.here hx rfl (hb hby d5_38) rfl k) ?_
  show own_R _ _ _ _ (T77.setTop (mkF m 40 #[.val (.ref a1), .val (.int (4 : Int32)), .val (.int (1 : Int32)), .val (.ref b68), .val (.int (1 : Int32))] [(.int (1 : Int32)), (.ref b1)]))
  refine own_go (own_ldI X77 hx hZ e77 V_b1 (j := (1 : Int32)) (i := 1) ⟨by decide, by decide⟩ rfl (v := (.int (0 : Int32))) rfl (g := (mkF m 40 #[.val (.ref a1), .val (.int (4 : Int32)), .val (.int (1 : Int32)), .val (.ref b68), .val (.int (1 : Int32))] [(.int (1 : Int32)), (.ref b1)])) rfl rfl (hb hby d5_40)) ?_
  show own_R _ _ _ _ (T77.setTop (mkF m 41 #[.val (.ref a1), .val (.int (4 : Int32)), .val (.int (1 : Int32)), .val (.ref b68), .val (.int (1 : Int32))] [(.int (0 : Int32))]))
  refine own_go (fun _ k => XS.iconst X77.here hx rfl (hb hby d5_41) k) ?_
  show own_R _ _ _ _ (T77.setTop (mkF m 42 #[.val (.ref a1), .val (.int (4 : Int32)), .val (.int (1 : Int32)), .val (.ref b68), .val (.int (1 : Int32))] [(.int (-1 : Int32)), (.int (0 : Int32))]))
  refine own_go (fun _ k => XS.icmpNo X77.here hx rfl (hb hby d5_42) rfl (feq (by decide : ¬ ((0 : Int32) = (-1 : Int32)))).1 k) ?_
  show own_R _ _ _ _ (T77.setTop (mkF m 45 #[.val (.ref a1), .val (.int (4 : Int32)), .val (.int (1 : Int32)), .val (.ref b68), .val (.int (1 : Int32))] []))
  refine own_go (fun _ k => XS.aloadN X77.here hx rfl (hb hby d5_45) rfl rfl k) ?_
  show own_R _ _ _ _ (T77.setTop (mkF m 46 #[.val (.ref a1), .val (.int (4 : Int32)), .val (.int (1 : Int32)), .val (.ref b68), .val (.int (1 : Int32))] [(.ref b68)]))
  refine own_go (fun _ k => XS.iinc X77.here hx rfl (hb hby d5_46) rfl (l' := #[.val (.ref a1), .val (.int (4 : Int32)), .val (.int (0 : Int32)), .val (.ref b68), .val (.int (1 : Int32))]) rfl k) ?_
  show own_R _ _ _ _ (T77.setTop (mkF m 49 #[.val (.ref a1), .val (.int (4 : Int32)), .val (.int (0 : Int32)), .val (.ref b68), .val (.int (1 : Int32))] [(.ref b68)]))
  refine own_go (fun _ k => XS.iloadN X77.here hx rfl (hb hby d5_49) rfl k) ?_
  show own_R _ _ _ _ (T77.setTop (mkF m 50 #[.val (.ref a1), .val (.int (4 : Int32)), .val (.int (0 : Int32)), .val (.ref b68), .val (.int (1 : Int32))] [(.int (0 : Int32)), (.ref b68)]))
  refine own_go (fun _ k => XS.aloadN X77.here hx rfl (hb hby d5_50) rfl rfl k) ?_
  show own_R _ _ _ _ (T77.setTop (mkF m 51 #[.val (.ref a1), .val (.int (4 : Int32)), .val (.int (0 : Int32)), .val (.ref b68), .val (.int (1 : Int32))] [(.ref a1), (.int (0 : Int32)), (.ref b68)]))
  obtain ⟨T78, X78, e78, st78⟩ := getF X77 hx hZ hown (host := "") (Or.inl (hw _ (List.mem_of_getElem? (i := 21) rfl))) Via.refl e77 F_branches_a1 (g := (mkF m 51 #[.val (.ref a1), .val (.int (4 : Int32)), .val (.int (0 : Int32)), .val (.ref b68), .val (.int (1 : Int32))] [(.ref a1), (.int (0 : Int32)), (.ref b68)])) rfl rfl (hb hby d5_51)
  refine own_go st78 ?_
  show own_R _ _ _ _ (T78.setTop (mkF m 54 #[.val (.ref a1), .val (.int (4 : Int32)), .val (.int (0 : Int32)), .val (.ref b68), .val (.int (1 : Int32))] [(.ref b2), (.int (0 : Int32)), (.ref b68)]))
  refine own_go (fun _ k => XS.iload X78.here hx rfl (hb hby d5_54) rfl k) ?_
  show own_R _ _ _ _ (T78.setTop (mkF m 56 #[.val (.ref a1), .val (.int (4 : Int32)), .val (.int (0 : Int32)), .val (.ref b68), .val (.int (1 : Int32))] [(.int (1 : Int32)), (.ref b2), (.int (0 : Int32)), (.ref b68)]))
  refine own_go (own_ldI X78 hx hZ e78 V_b2 (j := (1 : Int32)) (i := 1) ⟨by decide, by decide⟩ rfl (v := (.int x1)) rfl (g := (mkF m 56 #[.val (.ref a1), .val (.int (4 : Int32)), .val (.int (0 : Int32)), .val (.ref b68), .val (.int (1 : Int32))] [(.int (1 : Int32)), (.ref b2), (.int (0 : Int32)), (.ref b68)])) rfl rfl (hb hby d5_56)) ?_
  show own_R _ _ _ _ (T78.setTop (mkF m 57 #[.val (.ref a1), .val (.int (4 : Int32)), .val (.int (0 : Int32)), .val (.ref b68), .val (.int (1 : Int32))] [(.int x1), (.int (0 : Int32)), (.ref b68)]))
  obtain ⟨T79, h79, sl79, X79, e79, W79, V79, st79⟩ := own_stI X78 hx hZ e78 V_b68 (j := (0 : Int32)) (i := 0) ⟨by decide, by decide⟩ rfl (Nat.le_of_ble_eq_true rfl) rfl (g := (mkF m 57 #[.val (.ref a1), .val (.int (4 : Int32)), .val (.int (0 : Int32)), .val (.ref b68), .val (.int (1 : Int32))] [(.int x1), (.int (0 : Int32)), (.ref b68)])) rfl rfl (hb hby d5_57)
  refine own_go st79 ?_
  have F_parents_a1 := F_parents_a1.other W79 (Or.inl ne_a1_b68)
  have F_branches_a1 := F_branches_a1.other W79 (Or.inl ne_a1_b68)
  have V_b1 := V_b1.other W79 ne_b1_b68
  have V_b2 := V_b2.other W79 ne_b2_b68
  have ZS := Nat.le_trans ZS (Keep.of_wr W79).1
  have KP := KP.wr W79 (Or.inr sz_b68)
  have NF := Fr.snoc X79 NF g_b68
  have V_b68 : Arv Z h79 b68 k68 .int (3 : Int32) [(.int x1), (.int x2), (.int x4)] (.int (0 : Int32)) := V79
  show own_R _ _ _ _ (T79.setTop (mkF m 58 #[.val (.ref a1), .val (.int (4 : Int32)), .val (.int (0 : Int32)), .val (.ref b68), .val (.int (1 : Int32))] []))
  refine own_go (fun _ k => XS.aloadN X79.here hx rfl (hb hby d5_58) rfl rfl k) ?_
  show own_R _ _ _ _ (T79.setTop (mkF m 59 #[.val (.ref a1), .val (.int (4 : Int32)), .val (.int (0 : Int32)), .val (.ref b68), .val (.int (1 : Int32))] [(.ref a1)]))
  obtain ⟨T80, X80, e80, st80⟩ := getF X79 hx hZ hown (host := "") (Or.inl (hw _ (List.mem_of_getElem? (i := 19) rfl))) Via.refl e79 F_parents_a1 (g := (mkF m 59 #[.val (.ref a1), .val (.int (4 : Int32)), .val (.int (0 : Int32)), .val (.ref b68), .val (.int (1 : Int32))] [(.ref a1)])) rfl rfl (hb hby d5_59)
  refine own_go st80 ?_
  show own_R _ _ _ _ (T80.setTop (mkF m 62 #[.val (.ref a1), .val (.int (4 : Int32)), .val (.int (0 : Int32)), .val (.ref b68), .val (.int (1 : Int32))] [(.ref b1)]))
  refine own_go (fun _ k => XS.iload X80.here hx rfl (hb hby d5_62) rfl k) ?_
  show own_R _ _ _ _ (T80.setTop (mkF m 64 #[.val (.ref a1), .val (.int (4 : Int32)), .val (.int (0 : Int32)), .val (.ref b68), .val (.int (1 : Int32))] [(.int (1 : Int32)), (.ref b1)]))
  refine own_go (own_ldI X80 hx hZ e80 V_b1 (j := (1 : Int32)) (i := 1) ⟨by decide, by decide⟩ rfl (v := (.int (0 : Int32))) rfl (g := (mkF m 64 #[.val (.ref a1), .val (.int (4 : Int32)), .val (.int (0 : Int32)), .val (.ref b68), .val (.int (1 : Int32))] [(.int (1 : Int32)), (.ref b1)])) rfl rfl (hb hby d5_64)) ?_
  show own_R _ _ _ _ (T80.setTop (mkF m 65 #[.val (.ref a1), .val (.int (4 : Int32)), .val (.int (0 : Int32)), .val (.ref b68), .val (.int (1 : Int32))] [(.int (0 : Int32))]))
  refine own_go (fun _ k => XS.istore X80.here hx rfl (hb hby d5_65) rfl (l' := #[.val (.ref a1), .val (.int (4 : Int32)), .val (.int (0 : Int32)), .val (.ref b68), .val (.int (0 : Int32))]) rfl k) ?_
  show own_R _ _ _ _ (T80.setTop (mkF m 67 #[.val (.ref a1), .val (.int (4 : Int32)), .val (.int (0 : Int32)), .val (.ref b68), .val (.int (0 : Int32))] []))
  refine own_go (fun _ k => XS.goto X80.here hx rfl (pc0 := 67) (pc' := 34) rfl (hb hby d5_67) (by decide) (by decide) k) ?_
  show own_R _ _ _ _ (T80.setTop (mkF m 34 #[.val (.ref a1), .val (.int (4 : Int32)), .val (.int (0 : Int32)), .val (.ref b68), .val (.int (0 : Int32))] []))
  refine own_go (fun _ k => XS.aloadN X80.here hx rfl (hb hby d5_34) rfl rfl k) ?_
  show own_R _ _ _ _ (T80.setTop (mkF m 35 #[.val (.ref a1), .val (.int (4 : Int32)), .val (.int (0 : Int32)), .val (.ref b68), .val (.int (0 : Int32))] [(.ref a1)]))
  obtain ⟨T81, X81, e81, st81⟩ := getF X80 hx hZ hown (host := "") (Or.inl (hw _ (List.mem_of_getElem? (i := 19) rfl))) Via.refl e80 F_parents_a1 (g := (mkF m 35 #[.val (.ref a1), .val (.int (4 : Int32)), .val (.int (0 : Int32)), .val (.ref b68), .val (.int (0 : Int32))] [(.ref a1)])) rfl rfl (hb hby d5_35)
  refine own_go st81 ?_
  show own_R _ _ _ _ (T81.setTop (mkF m 38 #[.val (.ref a1), .val (.int (4 : Int32)), .val (.int (0 : Int32)), .val (.ref b68), .val (.int (0 : Int32))] [(.ref b1)]))
  refine own_go (fun _ k => XS.iload X81.here hx rfl (hb hby d5_38) rfl k) ?_
  show own_R _ _ _ _ (T81.setTop (mkF m 40 #[.val (.ref a1), .val (.int (4 : Int32)), .val (.int (0 : Int32)), .val (.ref b68), .val (.int (0 : Int32))] [(.int (0 : Int32)), (.ref b1)]))
  refine own_go (own_ldI X81 hx hZ e81 V_b1 (j := (0 : Int32)) (i := 0) ⟨by decide, by decide⟩ rfl (v := (.int (-1 : Int32))) rfl (g := (mkF m 40 #[.val (.ref a1), .val (.int (4 : Int32)), .val (.int (0 : Int32)), .val (.ref b68), .val (.int (0 : Int32))] [(.int (0 : Int32)), (.ref b1)])) rfl rfl (hb hby d5_40)) ?_
  show own_R _ _ _ _ (T81.setTop (mkF m 41 #[.val (.ref a1), .val (.int (4 : Int32)), .val (.int (0 : Int32)), .val (.ref b68), .val (.int (0 : Int32))] [(.int (-1 : Int32))]))
  refine own_go (fun _ k => XS.iconst X81.here hx rfl (hb hby d5_41) k) ?_
  show own_R _ _ _ _ (T81.setTop (mkF m 42 #[.val (.ref a1), .val (.int (4 : Int32)), .val (.int (0 : Int32)), .val (.ref b68), .val (.int (0 : Int32))] [(.int (-1 : Int32)), (.int (-1 : Int32))]))
  refine own_go (fun _ k => XS.icmpYes X81.here hx rfl (pc0 := 42) (pc' := 70) rfl (hb hby d5_42) rfl (teq (by decide : (-1 : Int32) = (-1 : Int32))).1 (by decide) (by decide) k) ?_
  show own_R _ _ _ _ (T81.setTop (mkF m 70 #[.val (.ref a1), .val (.int (4 : Int32)), .val (.int (0 : Int32)), .val (.ref b68), .val (.int (0 : Int32))] []))
  refine own_go (fun _ k => XS.aloadN X81.here hx rfl (hb hby d5_70) rfl rfl k) ?_
  show own_R _ _ _ _ (T81.setTop (mkF m 71 #[.val (.ref a1), .val (.int (4 : Int32)), .val (.int (0 : Int32)), .val (.ref b68), .val (.int (0 : Int32))] [(.ref b68)]))
  exact own_retA X81 hx rfl rfl Bd.returns (hb hby d5_71) hlk (by rw [e81]; exact ⟨_, rfl, NF, KP, sz_b68, _, V_b68⟩) (by decide) (by decide)
theorem d6_0 : decode method_3_code 0 = .ok (.aload_n 0, 1) := by decide +kernel
theorem d6_1 : decode method_3_code 1 = .ok (.ifnull 9, 3) := by decide +kernel
theorem d6_4 : decode method_3_code 4 = .ok (.aload_n 0, 1) := by decide +kernel
theorem d6_5 : decode method_3_code 5 = .ok (.arraylength, 1) := by decide +kernel
theorem d6_6 : decode method_3_code 6 = .ok (.iload_n 1, 1) := by decide +kernel
theorem d6_7 : decode method_3_code 7 = .ok (.if_icmp .eq 5, 3) := by decide +kernel
theorem d6_10 : decode method_3_code 10 = .ok (.iconst 0, 1) := by decide +kernel
theorem d6_11 : decode method_3_code 11 = .ok (.ireturn, 1) := by decide +kernel
theorem d6_12 : decode method_3_code 12 = .ok (.iload_n 1, 1) := by decide +kernel
theorem d6_13 : decode method_3_code 13 = .ok (.ifCond .le 12, 3) := by decide +kernel
theorem d6_16 : decode method_3_code 16 = .ok (.aload_n 0, 1) := by decide +kernel
theorem d6_17 : decode method_3_code 17 = .ok (.iconst 0, 1) := by decide +kernel
theorem d6_18 : decode method_3_code 18 = .ok (.iaload, 1) := by decide +kernel
theorem d6_19 : decode method_3_code 19 = .ok (.iload_n 2, 1) := by decide +kernel
theorem d6_20 : decode method_3_code 20 = .ok (.if_icmp .eq 5, 3) := by decide +kernel
theorem d6_23 : decode method_3_code 23 = .ok (.iconst 0, 1) := by decide +kernel
theorem d6_24 : decode method_3_code 24 = .ok (.ireturn, 1) := by decide +kernel
theorem d6_25 : decode method_3_code 25 = .ok (.iload_n 1, 1) := by decide +kernel
theorem d6_26 : decode method_3_code 26 = .ok (.iconst 1, 1) := by decide +kernel
theorem d6_27 : decode method_3_code 27 = .ok (.if_icmp .le 12, 3) := by decide +kernel
theorem d6_30 : decode method_3_code 30 = .ok (.aload_n 0, 1) := by decide +kernel
theorem d6_31 : decode method_3_code 31 = .ok (.iconst 1, 1) := by decide +kernel
theorem d6_32 : decode method_3_code 32 = .ok (.iaload, 1) := by decide +kernel
theorem d6_33 : decode method_3_code 33 = .ok (.iload_n 3, 1) := by decide +kernel
theorem d6_34 : decode method_3_code 34 = .ok (.if_icmp .eq 5, 3) := by decide +kernel
theorem d6_37 : decode method_3_code 37 = .ok (.iconst 0, 1) := by decide +kernel
theorem d6_38 : decode method_3_code 38 = .ok (.ireturn, 1) := by decide +kernel
theorem d6_39 : decode method_3_code 39 = .ok (.iload_n 1, 1) := by decide +kernel
theorem d6_40 : decode method_3_code 40 = .ok (.iconst 2, 1) := by decide +kernel
theorem d6_41 : decode method_3_code 41 = .ok (.if_icmp .le 13, 3) := by decide +kernel
theorem d6_44 : decode method_3_code 44 = .ok (.aload_n 0, 1) := by decide +kernel
theorem d6_45 : decode method_3_code 45 = .ok (.iconst 2, 1) := by decide +kernel
theorem d6_46 : decode method_3_code 46 = .ok (.iaload, 1) := by decide +kernel
theorem d6_47 : decode method_3_code 47 = .ok (.iload 4, 2) := by decide +kernel
theorem d6_49 : decode method_3_code 49 = .ok (.if_icmp .eq 5, 3) := by decide +kernel
theorem d6_52 : decode method_3_code 52 = .ok (.iconst 0, 1) := by decide +kernel
theorem d6_53 : decode method_3_code 53 = .ok (.ireturn, 1) := by decide +kernel
theorem d6_54 : decode method_3_code 54 = .ok (.iconst 1, 1) := by decide +kernel
theorem d6_55 : decode method_3_code 55 = .ok (.ireturn, 1) := by decide +kernel
theorem ef_6_0 (m : MethodId) (x0 : Addr) (x1 : Int32) (x2 : Int32) (x3 : Int32) (x4 : Int32) : entryFrame m #[(.ref x0), (.int x1), (.int x2), (.int x3), (.int x4)] 5 = mkF m 0 #[.val (.ref x0), .val (.int x1), .val (.int x2), .val (.int x3), .val (.int x4)] [] := by first | (simp [entryFrame, mkF, argsToLocals, Value.category]; done) | rfl
def Q6_0 (Z : State) (a1 : Addr) (p2 : Int32) (p3 : Int32) (p4 : Int32) (k1 : ClassId) (h0 : Heap) (n0 : Nat) (v : Option Value) (h : Heap) (L : List Loc) : Prop := v = some (.int 1) ∧ Fr n0 L ∧ h = h0
set_option maxRecDepth 65536 in
set_option maxHeartbeats 40000000 in
theorem rm6_0 (l : Launch) (Z : State) (a0 : Array Value) (hw : ∀ d ∈ tables_1, d.before a0 Z = true) (ws : List Jvm.Cond) (a1 : Addr) (p2 : Int32) (p3 : Int32) (p4 : Int32) (k1 : ClassId) (h0 : Heap) (n0 : Nat) (ZS : n0 ≤ h0.size) (V_a1 : Arv Z h0 a1 k1 .int (0 : Int32) [] (.int (0 : Int32))) :
    MetFree l (⟨"com/example/clearlot/clearlot/search/PartTreeBranchesPinLaw", "same", "([IIIII)Z"⟩ : MethodName) (head1 (Jvm.Cond.code (⟨"com/example/clearlot/clearlot/search/PartTreeBranchesPinLaw", "same", "([IIIII)Z"⟩ : MethodName) method_3_code 5 (some .boolean) :: ws) ({ frames := 0, cells := 0, slots := 0, locals := 0 } : Room)) (fun a U => a = #[(.ref a1), (.int (0 : Int32)), (.int p2), (.int p3), (.int p4)] ∧ Z.Warmed39 U.vm ∧ U.heap = h0) (fun _ _ _ _ _ => True) (fun _ U o U' => ∃ v L, o = .returned v ∧ Q6_0 Z a1 p2 p3 p4 k1 h0 n0 v U'.heap L ∧ FrameEnd U o U' L ({ frames := 0, cells := 0, slots := 0, locals := 0 } : Room).cells ({ frames := 0, cells := 0, slots := 0, locals := 0 } : Room).slots) := by
  refine MetFree.of_bodySF (plainFor_of_name pn_4) hisR ?_
  intro p e s m args below meth c s₁ Bd hml0 hP hK
  obtain ⟨rfl, hZ, hh⟩ := hP
  have hx := Bd.exec
  have hby := Bd.bytes
  have hml : c.maxLocals = 5 := hml0
  have hown : s.vm.findClass "com/example/clearlot/clearlot/search/PartTreeBranchesPinLaw" = some m.cls := findClass_of_methodNamed Bd.named
  have hnm := (name_of_methodNamed Bd.named Bd.method).1
  have hlk : meth.locks = false := Bd.notSynchronized
  have X0 : Stand p l e ({ frames := 0, cells := 0, slots := 0, locals := 0 } : Room) s m #[(.ref a1), (.int (0 : Int32)), (.int p2), (.int p3), (.int p4)] below meth c s₁ [] 0 0 := Stand.of_body Bd
  have e0 : s₁.heap = h0 := by rw [← hh, Bd.state]; rfl
  have NF := Fr.nil n0
  have KP : Keep h0 h0 [] := Keep.refl _ _
  refine own_fin (s := s) (Q := Q6_0 Z a1 p2 p3 p4 k1 h0 n0) (rc := ({ frames := 0, cells := 0, slots := 0, locals := 0 } : Room).cells) (rs := ({ frames := 0, cells := 0, slots := 0, locals := 0 } : Room).slots) ?_
  refine own_go (fun t k => castTop (ef_6_0 m a1 (0 : Int32) p2 p3 p4) k) ?_
  show own_R _ _ _ _ (s₁.setTop (mkF m 0 #[.val (.ref a1), .val (.int (0 : Int32)), .val (.int p2), .val (.int p3), .val (.int p4)] []))
  refine own_go (fun _ k => XS.aloadN X0.here hx rfl (hb hby d6_0) rfl rfl k) ?_
  show own_R _ _ _ _ (s₁.setTop (mkF m 1 #[.val (.ref a1), .val (.int (0 : Int32)), .val (.int p2), .val (.int p3), .val (.int p4)] [(.ref a1)]))
  refine own_go (fun _ k => XS.ifnullNo X0.here hx rfl (hb hby d6_1) rfl k) ?_
  show own_R _ _ _ _ (s₁.setTop (mkF m 4 #[.val (.ref a1), .val (.int (0 : Int32)), .val (.int p2), .val (.int p3), .val (.int p4)] []))
  refine own_go (fun _ k => XS.aloadN X0.here hx rfl (hb hby d6_4) rfl rfl k) ?_
  show own_R _ _ _ _ (s₁.setTop (mkF m 5 #[.val (.ref a1), .val (.int (0 : Int32)), .val (.int p2), .val (.int p3), .val (.int p4)] [(.ref a1)]))
  refine own_go (own_len X0 hx hZ e0 V_a1 (g := (mkF m 5 #[.val (.ref a1), .val (.int (0 : Int32)), .val (.int p2), .val (.int p3), .val (.int p4)] [(.ref a1)])) rfl rfl (hb hby d6_5)) ?_
  show own_R _ _ _ _ (s₁.setTop (mkF m 6 #[.val (.ref a1), .val (.int (0 : Int32)), .val (.int p2), .val (.int p3), .val (.int p4)] [(.int (0 : Int32))]))
  refine own_go (fun _ k => XS.iloadN X0.here hx rfl (hb hby d6_6) rfl k) ?_
  show own_R _ _ _ _ (s₁.setTop (mkF m 7 #[.val (.ref a1), .val (.int (0 : Int32)), .val (.int p2), .val (.int p3), .val (.int p4)] [(.int (0 : Int32)), (.int (0 : Int32))]))
  refine own_go (fun _ k => XS.icmpYes X0.here hx rfl (pc0 := 7) (pc' := 12) rfl (hb hby d6_7) rfl (teq (by decide : (0 : Int32) = (0 : Int32))).1 (by decide) (by decide) k) ?_
  show own_R _ _ _ _ (s₁.setTop (mkF m 12 #[.val (.ref a1), .val (.int (0 : Int32)), .val (.int p2), .val (.int p3), .val (.int p4)] []))
  refine own_go (fun _ k => XS.iloadN X0.here hx rfl (hb hby d6_12) rfl k) ?_
  show own_R _ _ _ _ (s₁.setTop (mkF m 13 #[.val (.ref a1), .val (.int (0 : Int32)), .val (.int p2), .val (.int p3), .val (.int p4)] [(.int (0 : Int32))]))
  refine own_go (fun _ k => XS.ifYes X0.here hx rfl (pc0 := 13) (pc' := 25) rfl (hb hby d6_13) rfl ((if0 _ _).trans (flt (by decide : ¬ ((0 : Int32) < (0 : Int32)))).2.2.2) (by decide) (by decide) k) ?_
  show own_R _ _ _ _ (s₁.setTop (mkF m 25 #[.val (.ref a1), .val (.int (0 : Int32)), .val (.int p2), .val (.int p3), .val (.int p4)] []))
  refine own_go (fun _ k => XS.iloadN X0.here hx rfl (hb hby d6_25) rfl k) ?_
  show own_R _ _ _ _ (s₁.setTop (mkF m 26 #[.val (.ref a1), .val (.int (0 : Int32)), .val (.int p2), .val (.int p3), .val (.int p4)] [(.int (0 : Int32))]))
  refine own_go (fun _ k => XS.iconst X0.here hx rfl (hb hby d6_26) k) ?_
  show own_R _ _ _ _ (s₁.setTop (mkF m 27 #[.val (.ref a1), .val (.int (0 : Int32)), .val (.int p2), .val (.int p3), .val (.int p4)] [(.int (1 : Int32)), (.int (0 : Int32))]))
  refine own_go (fun _ k => XS.icmpYes X0.here hx rfl (pc0 := 27) (pc' := 39) rfl (hb hby d6_27) rfl (flt (by decide : ¬ ((1 : Int32) < (0 : Int32)))).2.2.2 (by decide) (by decide) k) ?_
  show own_R _ _ _ _ (s₁.setTop (mkF m 39 #[.val (.ref a1), .val (.int (0 : Int32)), .val (.int p2), .val (.int p3), .val (.int p4)] []))
  refine own_go (fun _ k => XS.iloadN X0.here hx rfl (hb hby d6_39) rfl k) ?_
  show own_R _ _ _ _ (s₁.setTop (mkF m 40 #[.val (.ref a1), .val (.int (0 : Int32)), .val (.int p2), .val (.int p3), .val (.int p4)] [(.int (0 : Int32))]))
  refine own_go (fun _ k => XS.iconst X0.here hx rfl (hb hby d6_40) k) ?_
  show own_R _ _ _ _ (s₁.setTop (mkF m 41 #[.val (.ref a1), .val (.int (0 : Int32)), .val (.int p2), .val (.int p3), .val (.int p4)] [(.int (2 : Int32)), (.int (0 : Int32))]))
  refine own_go (fun _ k => XS.icmpYes X0.here hx rfl (pc0 := 41) (pc' := 54) rfl (hb hby d6_41) rfl (flt (by decide : ¬ ((2 : Int32) < (0 : Int32)))).2.2.2 (by decide) (by decide) k) ?_
  show own_R _ _ _ _ (s₁.setTop (mkF m 54 #[.val (.ref a1), .val (.int (0 : Int32)), .val (.int p2), .val (.int p3), .val (.int p4)] []))
  refine own_go (fun _ k => XS.iconst X0.here hx rfl (hb hby d6_54) k) ?_
  show own_R _ _ _ _ (s₁.setTop (mkF m 55 #[.val (.ref a1), .val (.int (0 : Int32)), .val (.int p2), .val (.int p3), .val (.int p4)] [(.int (1 : Int32))]))
  exact own_retN X0 hx (t := .boolean) (by simp) Bd.returns (hb hby d6_55) hlk ⟨rfl, NF, e0⟩ (by decide) (by decide)
theorem ef_6_1 (m : MethodId) (x0 : Addr) (x1 : Int32) (x2 : Int32) (x3 : Int32) (x4 : Int32) : entryFrame m #[(.ref x0), (.int x1), (.int x2), (.int x3), (.int x4)] 5 = mkF m 0 #[.val (.ref x0), .val (.int x1), .val (.int x2), .val (.int x3), .val (.int x4)] [] := by first | (simp [entryFrame, mkF, argsToLocals, Value.category]; done) | rfl
def Q6_1 (Z : State) (a1 : Addr) (p2 : Int32) (p3 : Int32) (p4 : Int32) (k1 : ClassId) (h0 : Heap) (n0 : Nat) (v : Option Value) (h : Heap) (L : List Loc) : Prop := v = some (.int 1) ∧ Fr n0 L ∧ h = h0
set_option maxRecDepth 65536 in
set_option maxHeartbeats 40000000 in
theorem rm6_1 (l : Launch) (Z : State) (a0 : Array Value) (hw : ∀ d ∈ tables_1, d.before a0 Z = true) (ws : List Jvm.Cond) (a1 : Addr) (p2 : Int32) (p3 : Int32) (p4 : Int32) (k1 : ClassId) (h0 : Heap) (n0 : Nat) (ZS : n0 ≤ h0.size) (V_a1 : Arv Z h0 a1 k1 .int (1 : Int32) [(.int p2)] (.int (0 : Int32))) :
    MetFree l (⟨"com/example/clearlot/clearlot/search/PartTreeBranchesPinLaw", "same", "([IIIII)Z"⟩ : MethodName) (head1 (Jvm.Cond.code (⟨"com/example/clearlot/clearlot/search/PartTreeBranchesPinLaw", "same", "([IIIII)Z"⟩ : MethodName) method_3_code 5 (some .boolean) :: ws) ({ frames := 0, cells := 0, slots := 0, locals := 0 } : Room)) (fun a U => a = #[(.ref a1), (.int (1 : Int32)), (.int p2), (.int p3), (.int p4)] ∧ Z.Warmed39 U.vm ∧ U.heap = h0) (fun _ _ _ _ _ => True) (fun _ U o U' => ∃ v L, o = .returned v ∧ Q6_1 Z a1 p2 p3 p4 k1 h0 n0 v U'.heap L ∧ FrameEnd U o U' L ({ frames := 0, cells := 0, slots := 0, locals := 0 } : Room).cells ({ frames := 0, cells := 0, slots := 0, locals := 0 } : Room).slots) := by
  refine MetFree.of_bodySF (plainFor_of_name pn_4) hisR ?_
  intro p e s m args below meth c s₁ Bd hml0 hP hK
  obtain ⟨rfl, hZ, hh⟩ := hP
  have hx := Bd.exec
  have hby := Bd.bytes
  have hml : c.maxLocals = 5 := hml0
  have hown : s.vm.findClass "com/example/clearlot/clearlot/search/PartTreeBranchesPinLaw" = some m.cls := findClass_of_methodNamed Bd.named
  have hnm := (name_of_methodNamed Bd.named Bd.method).1
  have hlk : meth.locks = false := Bd.notSynchronized
  have X0 : Stand p l e ({ frames := 0, cells := 0, slots := 0, locals := 0 } : Room) s m #[(.ref a1), (.int (1 : Int32)), (.int p2), (.int p3), (.int p4)] below meth c s₁ [] 0 0 := Stand.of_body Bd
  have e0 : s₁.heap = h0 := by rw [← hh, Bd.state]; rfl
  have NF := Fr.nil n0
  have KP : Keep h0 h0 [] := Keep.refl _ _
  refine own_fin (s := s) (Q := Q6_1 Z a1 p2 p3 p4 k1 h0 n0) (rc := ({ frames := 0, cells := 0, slots := 0, locals := 0 } : Room).cells) (rs := ({ frames := 0, cells := 0, slots := 0, locals := 0 } : Room).slots) ?_
  refine own_go (fun t k => castTop (ef_6_1 m a1 (1 : Int32) p2 p3 p4) k) ?_
  show own_R _ _ _ _ (s₁.setTop (mkF m 0 #[.val (.ref a1), .val (.int (1 : Int32)), .val (.int p2), .val (.int p3), .val (.int p4)] []))
  refine own_go (fun _ k => XS.aloadN X0.here hx rfl (hb hby d6_0) rfl rfl k) ?_
  show own_R _ _ _ _ (s₁.setTop (mkF m 1 #[.val (.ref a1), .val (.int (1 : Int32)), .val (.int p2), .val (.int p3), .val (.int p4)] [(.ref a1)]))
  refine own_go (fun _ k => XS.ifnullNo X0.here hx rfl (hb hby d6_1) rfl k) ?_
  show own_R _ _ _ _ (s₁.setTop (mkF m 4 #[.val (.ref a1), .val (.int (1 : Int32)), .val (.int p2), .val (.int p3), .val (.int p4)] []))
  refine own_go (fun _ k => XS.aloadN X0.here hx rfl (hb hby d6_4) rfl rfl k) ?_
  show own_R _ _ _ _ (s₁.setTop (mkF m 5 #[.val (.ref a1), .val (.int (1 : Int32)), .val (.int p2), .val (.int p3), .val (.int p4)] [(.ref a1)]))
  refine own_go (own_len X0 hx hZ e0 V_a1 (g := (mkF m 5 #[.val (.ref a1), .val (.int (1 : Int32)), .val (.int p2), .val (.int p3), .val (.int p4)] [(.ref a1)])) rfl rfl (hb hby d6_5)) ?_
  show own_R _ _ _ _ (s₁.setTop (mkF m 6 #[.val (.ref a1), .val (.int (1 : Int32)), .val (.int p2), .val (.int p3), .val (.int p4)] [(.int (1 : Int32))]))
  refine own_go (fun _ k => XS.iloadN X0.here hx rfl (hb hby d6_6) rfl k) ?_
  show own_R _ _ _ _ (s₁.setTop (mkF m 7 #[.val (.ref a1), .val (.int (1 : Int32)), .val (.int p2), .val (.int p3), .val (.int p4)] [(.int (1 : Int32)), (.int (1 : Int32))]))
  refine own_go (fun _ k => XS.icmpYes X0.here hx rfl (pc0 := 7) (pc' := 12) rfl (hb hby d6_7) rfl (teq (by decide : (1 : Int32) = (1 : Int32))).1 (by decide) (by decide) k) ?_
  show own_R _ _ _ _ (s₁.setTop (mkF m 12 #[.val (.ref a1), .val (.int (1 : Int32)), .val (.int p2), .val (.int p3), .val (.int p4)] []))
  refine own_go (fun _ k => XS.iloadN X0.here hx rfl (hb hby d6_12) rfl k) ?_
  show own_R _ _ _ _ (s₁.setTop (mkF m 13 #[.val (.ref a1), .val (.int (1 : Int32)), .val (.int p2), .val (.int p3), .val (.int p4)] [(.int (1 : Int32))]))
  refine own_go (fun _ k => XS.ifNo X0.here hx rfl (hb hby d6_13) rfl ((if0 _ _).trans (tlt (by decide : (0 : Int32) < (1 : Int32))).2.2.2) k) ?_
  show own_R _ _ _ _ (s₁.setTop (mkF m 16 #[.val (.ref a1), .val (.int (1 : Int32)), .val (.int p2), .val (.int p3), .val (.int p4)] []))
  refine own_go (fun _ k => XS.aloadN X0.here hx rfl (hb hby d6_16) rfl rfl k) ?_
  show own_R _ _ _ _ (s₁.setTop (mkF m 17 #[.val (.ref a1), .val (.int (1 : Int32)), .val (.int p2), .val (.int p3), .val (.int p4)] [(.ref a1)]))
  refine own_go (fun _ k => XS.iconst X0.here hx rfl (hb hby d6_17) k) ?_
  show own_R _ _ _ _ (s₁.setTop (mkF m 18 #[.val (.ref a1), .val (.int (1 : Int32)), .val (.int p2), .val (.int p3), .val (.int p4)] [(.int (0 : Int32)), (.ref a1)]))
  refine own_go (own_ldI X0 hx hZ e0 V_a1 (j := (0 : Int32)) (i := 0) ⟨by decide, by decide⟩ rfl (v := (.int p2)) rfl (g := (mkF m 18 #[.val (.ref a1), .val (.int (1 : Int32)), .val (.int p2), .val (.int p3), .val (.int p4)] [(.int (0 : Int32)), (.ref a1)])) rfl rfl (hb hby d6_18)) ?_
  show own_R _ _ _ _ (s₁.setTop (mkF m 19 #[.val (.ref a1), .val (.int (1 : Int32)), .val (.int p2), .val (.int p3), .val (.int p4)] [(.int p2)]))
  refine own_go (fun _ k => XS.iloadN X0.here hx rfl (hb hby d6_19) rfl k) ?_
  show own_R _ _ _ _ (s₁.setTop (mkF m 20 #[.val (.ref a1), .val (.int (1 : Int32)), .val (.int p2), .val (.int p3), .val (.int p4)] [(.int p2), (.int p2)]))
  refine own_go (fun _ k => XS.icmpYes X0.here hx rfl (pc0 := 20) (pc' := 25) rfl (hb hby d6_20) rfl (teq rfl).1 (by decide) (by decide) k) ?_
  show own_R _ _ _ _ (s₁.setTop (mkF m 25 #[.val (.ref a1), .val (.int (1 : Int32)), .val (.int p2), .val (.int p3), .val (.int p4)] []))
  refine own_go (fun _ k => XS.iloadN X0.here hx rfl (hb hby d6_25) rfl k) ?_
  show own_R _ _ _ _ (s₁.setTop (mkF m 26 #[.val (.ref a1), .val (.int (1 : Int32)), .val (.int p2), .val (.int p3), .val (.int p4)] [(.int (1 : Int32))]))
  refine own_go (fun _ k => XS.iconst X0.here hx rfl (hb hby d6_26) k) ?_
  show own_R _ _ _ _ (s₁.setTop (mkF m 27 #[.val (.ref a1), .val (.int (1 : Int32)), .val (.int p2), .val (.int p3), .val (.int p4)] [(.int (1 : Int32)), (.int (1 : Int32))]))
  refine own_go (fun _ k => XS.icmpYes X0.here hx rfl (pc0 := 27) (pc' := 39) rfl (hb hby d6_27) rfl (flt (by decide : ¬ ((1 : Int32) < (1 : Int32)))).2.2.2 (by decide) (by decide) k) ?_
  show own_R _ _ _ _ (s₁.setTop (mkF m 39 #[.val (.ref a1), .val (.int (1 : Int32)), .val (.int p2), .val (.int p3), .val (.int p4)] []))
  refine own_go (fun _ k => XS.iloadN X0.here hx rfl (hb hby d6_39) rfl k) ?_
  show own_R _ _ _ _ (s₁.setTop (mkF m 40 #[.val (.ref a1), .val (.int (1 : Int32)), .val (.int p2), .val (.int p3), .val (.int p4)] [(.int (1 : Int32))]))
  refine own_go (fun _ k => XS.iconst X0.here hx rfl (hb hby d6_40) k) ?_
  show own_R _ _ _ _ (s₁.setTop (mkF m 41 #[.val (.ref a1), .val (.int (1 : Int32)), .val (.int p2), .val (.int p3), .val (.int p4)] [(.int (2 : Int32)), (.int (1 : Int32))]))
  refine own_go (fun _ k => XS.icmpYes X0.here hx rfl (pc0 := 41) (pc' := 54) rfl (hb hby d6_41) rfl (flt (by decide : ¬ ((2 : Int32) < (1 : Int32)))).2.2.2 (by decide) (by decide) k) ?_
  show own_R _ _ _ _ (s₁.setTop (mkF m 54 #[.val (.ref a1), .val (.int (1 : Int32)), .val (.int p2), .val (.int p3), .val (.int p4)] []))
  refine own_go (fun _ k => XS.iconst X0.here hx rfl (hb hby d6_54) k) ?_
  show own_R _ _ _ _ (s₁.setTop (mkF m 55 #[.val (.ref a1), .val (.int (1 : Int32)), .val (.int p2), .val (.int p3), .val (.int p4)] [(.int (1 : Int32))]))
  exact own_retN X0 hx (t := .boolean) (by simp) Bd.returns (hb hby d6_55) hlk ⟨rfl, NF, e0⟩ (by decide) (by decide)
theorem ef_6_2 (m : MethodId) (x0 : Addr) (x1 : Int32) (x2 : Int32) (x3 : Int32) (x4 : Int32) : entryFrame m #[(.ref x0), (.int x1), (.int x2), (.int x3), (.int x4)] 5 = mkF m 0 #[.val (.ref x0), .val (.int x1), .val (.int x2), .val (.int x3), .val (.int x4)] [] := by first | (simp [entryFrame, mkF, argsToLocals, Value.category]; done) | rfl
def Q6_2 (Z : State) (a1 : Addr) (p2 : Int32) (p3 : Int32) (p4 : Int32) (k1 : ClassId) (h0 : Heap) (n0 : Nat) (v : Option Value) (h : Heap) (L : List Loc) : Prop := v = some (.int 1) ∧ Fr n0 L ∧ h = h0
set_option maxRecDepth 65536 in
set_option maxHeartbeats 40000000 in
theorem rm6_2 (l : Launch) (Z : State) (a0 : Array Value) (hw : ∀ d ∈ tables_1, d.before a0 Z = true) (ws : List Jvm.Cond) (a1 : Addr) (p2 : Int32) (p3 : Int32) (p4 : Int32) (k1 : ClassId) (h0 : Heap) (n0 : Nat) (ZS : n0 ≤ h0.size) (V_a1 : Arv Z h0 a1 k1 .int (2 : Int32) [(.int p2), (.int p3)] (.int (0 : Int32))) :
    MetFree l (⟨"com/example/clearlot/clearlot/search/PartTreeBranchesPinLaw", "same", "([IIIII)Z"⟩ : MethodName) (head1 (Jvm.Cond.code (⟨"com/example/clearlot/clearlot/search/PartTreeBranchesPinLaw", "same", "([IIIII)Z"⟩ : MethodName) method_3_code 5 (some .boolean) :: ws) ({ frames := 0, cells := 0, slots := 0, locals := 0 } : Room)) (fun a U => a = #[(.ref a1), (.int (2 : Int32)), (.int p2), (.int p3), (.int p4)] ∧ Z.Warmed39 U.vm ∧ U.heap = h0) (fun _ _ _ _ _ => True) (fun _ U o U' => ∃ v L, o = .returned v ∧ Q6_2 Z a1 p2 p3 p4 k1 h0 n0 v U'.heap L ∧ FrameEnd U o U' L ({ frames := 0, cells := 0, slots := 0, locals := 0 } : Room).cells ({ frames := 0, cells := 0, slots := 0, locals := 0 } : Room).slots) := by
  refine MetFree.of_bodySF (plainFor_of_name pn_4) hisR ?_
  intro p e s m args below meth c s₁ Bd hml0 hP hK
  obtain ⟨rfl, hZ, hh⟩ := hP
  have hx := Bd.exec
  have hby := Bd.bytes
  have hml : c.maxLocals = 5 := hml0
  have hown : s.vm.findClass "com/example/clearlot/clearlot/search/PartTreeBranchesPinLaw" = some m.cls := findClass_of_methodNamed Bd.named
  have hnm := (name_of_methodNamed Bd.named Bd.method).1
  have hlk : meth.locks = false := Bd.notSynchronized
  have X0 : Stand p l e ({ frames := 0, cells := 0, slots := 0, locals := 0 } : Room) s m #[(.ref a1), (.int (2 : Int32)), (.int p2), (.int p3), (.int p4)] below meth c s₁ [] 0 0 := Stand.of_body Bd
  have e0 : s₁.heap = h0 := by rw [← hh, Bd.state]; rfl
  have NF := Fr.nil n0
  have KP : Keep h0 h0 [] := Keep.refl _ _
  refine own_fin (s := s) (Q := Q6_2 Z a1 p2 p3 p4 k1 h0 n0) (rc := ({ frames := 0, cells := 0, slots := 0, locals := 0 } : Room).cells) (rs := ({ frames := 0, cells := 0, slots := 0, locals := 0 } : Room).slots) ?_
  refine own_go (fun t k => castTop (ef_6_2 m a1 (2 : Int32) p2 p3 p4) k) ?_
  show own_R _ _ _ _ (s₁.setTop (mkF m 0 #[.val (.ref a1), .val (.int (2 : Int32)), .val (.int p2), .val (.int p3), .val (.int p4)] []))
  refine own_go (fun _ k => XS.aloadN X0.here hx rfl (hb hby d6_0) rfl rfl k) ?_
  show own_R _ _ _ _ (s₁.setTop (mkF m 1 #[.val (.ref a1), .val (.int (2 : Int32)), .val (.int p2), .val (.int p3), .val (.int p4)] [(.ref a1)]))
  refine own_go (fun _ k => XS.ifnullNo X0.here hx rfl (hb hby d6_1) rfl k) ?_
  show own_R _ _ _ _ (s₁.setTop (mkF m 4 #[.val (.ref a1), .val (.int (2 : Int32)), .val (.int p2), .val (.int p3), .val (.int p4)] []))
  refine own_go (fun _ k => XS.aloadN X0.here hx rfl (hb hby d6_4) rfl rfl k) ?_
  show own_R _ _ _ _ (s₁.setTop (mkF m 5 #[.val (.ref a1), .val (.int (2 : Int32)), .val (.int p2), .val (.int p3), .val (.int p4)] [(.ref a1)]))
  refine own_go (own_len X0 hx hZ e0 V_a1 (g := (mkF m 5 #[.val (.ref a1), .val (.int (2 : Int32)), .val (.int p2), .val (.int p3), .val (.int p4)] [(.ref a1)])) rfl rfl (hb hby d6_5)) ?_
  show own_R _ _ _ _ (s₁.setTop (mkF m 6 #[.val (.ref a1), .val (.int (2 : Int32)), .val (.int p2), .val (.int p3), .val (.int p4)] [(.int (2 : Int32))]))
  refine own_go (fun _ k => XS.iloadN X0.here hx rfl (hb hby d6_6) rfl k) ?_
  show own_R _ _ _ _ (s₁.setTop (mkF m 7 #[.val (.ref a1), .val (.int (2 : Int32)), .val (.int p2), .val (.int p3), .val (.int p4)] [(.int (2 : Int32)), (.int (2 : Int32))]))
  refine own_go (fun _ k => XS.icmpYes X0.here hx rfl (pc0 := 7) (pc' := 12) rfl (hb hby d6_7) rfl (teq (by decide : (2 : Int32) = (2 : Int32))).1 (by decide) (by decide) k) ?_
  show own_R _ _ _ _ (s₁.setTop (mkF m 12 #[.val (.ref a1), .val (.int (2 : Int32)), .val (.int p2), .val (.int p3), .val (.int p4)] []))
  refine own_go (fun _ k => XS.iloadN X0.here hx rfl (hb hby d6_12) rfl k) ?_
  show own_R _ _ _ _ (s₁.setTop (mkF m 13 #[.val (.ref a1), .val (.int (2 : Int32)), .val (.int p2), .val (.int p3), .val (.int p4)] [(.int (2 : Int32))]))
  refine own_go (fun _ k => XS.ifNo X0.here hx rfl (hb hby d6_13) rfl ((if0 _ _).trans (tlt (by decide : (0 : Int32) < (2 : Int32))).2.2.2) k) ?_
  show own_R _ _ _ _ (s₁.setTop (mkF m 16 #[.val (.ref a1), .val (.int (2 : Int32)), .val (.int p2), .val (.int p3), .val (.int p4)] []))
  refine own_go (fun _ k => XS.aloadN X0.here hx rfl (hb hby d6_16) rfl rfl k) ?_
  show own_R _ _ _ _ (s₁.setTop (mkF m 17 #[.val (.ref a1), .val (.int (2 : Int32)), .val (.int p2), .val (.int p3), .val (.int p4)] [(.ref a1)]))
  refine own_go (fun _ k => XS.iconst X0.here hx rfl (hb hby d6_17) k) ?_
  show own_R _ _ _ _ (s₁.setTop (mkF m 18 #[.val (.ref a1), .val (.int (2 : Int32)), .val (.int p2), .val (.int p3), .val (.int p4)] [(.int (0 : Int32)), (.ref a1)]))
  refine own_go (own_ldI X0 hx hZ e0 V_a1 (j := (0 : Int32)) (i := 0) ⟨by decide, by decide⟩ rfl (v := (.int p2)) rfl (g := (mkF m 18 #[.val (.ref a1), .val (.int (2 : Int32)), .val (.int p2), .val (.int p3), .val (.int p4)] [(.int (0 : Int32)), (.ref a1)])) rfl rfl (hb hby d6_18)) ?_
  show own_R _ _ _ _ (s₁.setTop (mkF m 19 #[.val (.ref a1), .val (.int (2 : Int32)), .val (.int p2), .val (.int p3), .val (.int p4)] [(.int p2)]))
  refine own_go (fun _ k => XS.iloadN X0.here hx rfl (hb hby d6_19) rfl k) ?_
  show own_R _ _ _ _ (s₁.setTop (mkF m 20 #[.val (.ref a1), .val (.int (2 : Int32)), .val (.int p2), .val (.int p3), .val (.int p4)] [(.int p2), (.int p2)]))
  refine own_go (fun _ k => XS.icmpYes X0.here hx rfl (pc0 := 20) (pc' := 25) rfl (hb hby d6_20) rfl (teq rfl).1 (by decide) (by decide) k) ?_
  show own_R _ _ _ _ (s₁.setTop (mkF m 25 #[.val (.ref a1), .val (.int (2 : Int32)), .val (.int p2), .val (.int p3), .val (.int p4)] []))
  refine own_go (fun _ k => XS.iloadN X0.here hx rfl (hb hby d6_25) rfl k) ?_
  show own_R _ _ _ _ (s₁.setTop (mkF m 26 #[.val (.ref a1), .val (.int (2 : Int32)), .val (.int p2), .val (.int p3), .val (.int p4)] [(.int (2 : Int32))]))
  refine own_go (fun _ k => XS.iconst X0.here hx rfl (hb hby d6_26) k) ?_
  show own_R _ _ _ _ (s₁.setTop (mkF m 27 #[.val (.ref a1), .val (.int (2 : Int32)), .val (.int p2), .val (.int p3), .val (.int p4)] [(.int (1 : Int32)), (.int (2 : Int32))]))
  refine own_go (fun _ k => XS.icmpNo X0.here hx rfl (hb hby d6_27) rfl (tlt (by decide : (1 : Int32) < (2 : Int32))).2.2.2 k) ?_
  show own_R _ _ _ _ (s₁.setTop (mkF m 30 #[.val (.ref a1), .val (.int (2 : Int32)), .val (.int p2), .val (.int p3), .val (.int p4)] []))
  refine own_go (fun _ k => XS.aloadN X0.here hx rfl (hb hby d6_30) rfl rfl k) ?_
  show own_R _ _ _ _ (s₁.setTop (mkF m 31 #[.val (.ref a1), .val (.int (2 : Int32)), .val (.int p2), .val (.int p3), .val (.int p4)] [(.ref a1)]))
  refine own_go (fun _ k => XS.iconst X0.here hx rfl (hb hby d6_31) k) ?_
  show own_R _ _ _ _ (s₁.setTop (mkF m 32 #[.val (.ref a1), .val (.int (2 : Int32)), .val (.int p2), .val (.int p3), .val (.int p4)] [(.int (1 : Int32)), (.ref a1)]))
  refine own_go (own_ldI X0 hx hZ e0 V_a1 (j := (1 : Int32)) (i := 1) ⟨by decide, by decide⟩ rfl (v := (.int p3)) rfl (g := (mkF m 32 #[.val (.ref a1), .val (.int (2 : Int32)), .val (.int p2), .val (.int p3), .val (.int p4)] [(.int (1 : Int32)), (.ref a1)])) rfl rfl (hb hby d6_32)) ?_
  show own_R _ _ _ _ (s₁.setTop (mkF m 33 #[.val (.ref a1), .val (.int (2 : Int32)), .val (.int p2), .val (.int p3), .val (.int p4)] [(.int p3)]))
  refine own_go (fun _ k => XS.iloadN X0.here hx rfl (hb hby d6_33) rfl k) ?_
  show own_R _ _ _ _ (s₁.setTop (mkF m 34 #[.val (.ref a1), .val (.int (2 : Int32)), .val (.int p2), .val (.int p3), .val (.int p4)] [(.int p3), (.int p3)]))
  refine own_go (fun _ k => XS.icmpYes X0.here hx rfl (pc0 := 34) (pc' := 39) rfl (hb hby d6_34) rfl (teq rfl).1 (by decide) (by decide) k) ?_
  show own_R _ _ _ _ (s₁.setTop (mkF m 39 #[.val (.ref a1), .val (.int (2 : Int32)), .val (.int p2), .val (.int p3), .val (.int p4)] []))
  refine own_go (fun _ k => XS.iloadN X0.here hx rfl (hb hby d6_39) rfl k) ?_
  show own_R _ _ _ _ (s₁.setTop (mkF m 40 #[.val (.ref a1), .val (.int (2 : Int32)), .val (.int p2), .val (.int p3), .val (.int p4)] [(.int (2 : Int32))]))
  refine own_go (fun _ k => XS.iconst X0.here hx rfl (hb hby d6_40) k) ?_
  show own_R _ _ _ _ (s₁.setTop (mkF m 41 #[.val (.ref a1), .val (.int (2 : Int32)), .val (.int p2), .val (.int p3), .val (.int p4)] [(.int (2 : Int32)), (.int (2 : Int32))]))
  refine own_go (fun _ k => XS.icmpYes X0.here hx rfl (pc0 := 41) (pc' := 54) rfl (hb hby d6_41) rfl (flt (by decide : ¬ ((2 : Int32) < (2 : Int32)))).2.2.2 (by decide) (by decide) k) ?_
  show own_R _ _ _ _ (s₁.setTop (mkF m 54 #[.val (.ref a1), .val (.int (2 : Int32)), .val (.int p2), .val (.int p3), .val (.int p4)] []))
  refine own_go (fun _ k => XS.iconst X0.here hx rfl (hb hby d6_54) k) ?_
  show own_R _ _ _ _ (s₁.setTop (mkF m 55 #[.val (.ref a1), .val (.int (2 : Int32)), .val (.int p2), .val (.int p3), .val (.int p4)] [(.int (1 : Int32))]))
  exact own_retN X0 hx (t := .boolean) (by simp) Bd.returns (hb hby d6_55) hlk ⟨rfl, NF, e0⟩ (by decide) (by decide)
theorem ef_6_3 (m : MethodId) (x0 : Addr) (x1 : Int32) (x2 : Int32) (x3 : Int32) (x4 : Int32) : entryFrame m #[(.ref x0), (.int x1), (.int x2), (.int x3), (.int x4)] 5 = mkF m 0 #[.val (.ref x0), .val (.int x1), .val (.int x2), .val (.int x3), .val (.int x4)] [] := by first | (simp [entryFrame, mkF, argsToLocals, Value.category]; done) | rfl
def Q6_3 (Z : State) (a1 : Addr) (p2 : Int32) (p3 : Int32) (p4 : Int32) (k1 : ClassId) (h0 : Heap) (n0 : Nat) (v : Option Value) (h : Heap) (L : List Loc) : Prop := v = some (.int 1) ∧ Fr n0 L ∧ h = h0
set_option maxRecDepth 65536 in
set_option maxHeartbeats 40000000 in
theorem rm6_3 (l : Launch) (Z : State) (a0 : Array Value) (hw : ∀ d ∈ tables_1, d.before a0 Z = true) (ws : List Jvm.Cond) (a1 : Addr) (p2 : Int32) (p3 : Int32) (p4 : Int32) (k1 : ClassId) (h0 : Heap) (n0 : Nat) (ZS : n0 ≤ h0.size) (V_a1 : Arv Z h0 a1 k1 .int (3 : Int32) [(.int p2), (.int p3), (.int p4)] (.int (0 : Int32))) :
    MetFree l (⟨"com/example/clearlot/clearlot/search/PartTreeBranchesPinLaw", "same", "([IIIII)Z"⟩ : MethodName) (head1 (Jvm.Cond.code (⟨"com/example/clearlot/clearlot/search/PartTreeBranchesPinLaw", "same", "([IIIII)Z"⟩ : MethodName) method_3_code 5 (some .boolean) :: ws) ({ frames := 0, cells := 0, slots := 0, locals := 0 } : Room)) (fun a U => a = #[(.ref a1), (.int (3 : Int32)), (.int p2), (.int p3), (.int p4)] ∧ Z.Warmed39 U.vm ∧ U.heap = h0) (fun _ _ _ _ _ => True) (fun _ U o U' => ∃ v L, o = .returned v ∧ Q6_3 Z a1 p2 p3 p4 k1 h0 n0 v U'.heap L ∧ FrameEnd U o U' L ({ frames := 0, cells := 0, slots := 0, locals := 0 } : Room).cells ({ frames := 0, cells := 0, slots := 0, locals := 0 } : Room).slots) := by
  refine MetFree.of_bodySF (plainFor_of_name pn_4) hisR ?_
  intro p e s m args below meth c s₁ Bd hml0 hP hK
  obtain ⟨rfl, hZ, hh⟩ := hP
  have hx := Bd.exec
  have hby := Bd.bytes
  have hml : c.maxLocals = 5 := hml0
  have hown : s.vm.findClass "com/example/clearlot/clearlot/search/PartTreeBranchesPinLaw" = some m.cls := findClass_of_methodNamed Bd.named
  have hnm := (name_of_methodNamed Bd.named Bd.method).1
  have hlk : meth.locks = false := Bd.notSynchronized
  have X0 : Stand p l e ({ frames := 0, cells := 0, slots := 0, locals := 0 } : Room) s m #[(.ref a1), (.int (3 : Int32)), (.int p2), (.int p3), (.int p4)] below meth c s₁ [] 0 0 := Stand.of_body Bd
  have e0 : s₁.heap = h0 := by rw [← hh, Bd.state]; rfl
  have NF := Fr.nil n0
  have KP : Keep h0 h0 [] := Keep.refl _ _
  refine own_fin (s := s) (Q := Q6_3 Z a1 p2 p3 p4 k1 h0 n0) (rc := ({ frames := 0, cells := 0, slots := 0, locals := 0 } : Room).cells) (rs := ({ frames := 0, cells := 0, slots := 0, locals := 0 } : Room).slots) ?_
  refine own_go (fun t k => castTop (ef_6_3 m a1 (3 : Int32) p2 p3 p4) k) ?_
  show own_R _ _ _ _ (s₁.setTop (mkF m 0 #[.val (.ref a1), .val (.int (3 : Int32)), .val (.int p2), .val (.int p3), .val (.int p4)] []))
  refine own_go (fun _ k => XS.aloadN X0.here hx rfl (hb hby d6_0) rfl rfl k) ?_
  show own_R _ _ _ _ (s₁.setTop (mkF m 1 #[.val (.ref a1), .val (.int (3 : Int32)), .val (.int p2), .val (.int p3), .val (.int p4)] [(.ref a1)]))
  refine own_go (fun _ k => XS.ifnullNo X0.here hx rfl (hb hby d6_1) rfl k) ?_
  show own_R _ _ _ _ (s₁.setTop (mkF m 4 #[.val (.ref a1), .val (.int (3 : Int32)), .val (.int p2), .val (.int p3), .val (.int p4)] []))
  refine own_go (fun _ k => XS.aloadN X0.here hx rfl (hb hby d6_4) rfl rfl k) ?_
  show own_R _ _ _ _ (s₁.setTop (mkF m 5 #[.val (.ref a1), .val (.int (3 : Int32)), .val (.int p2), .val (.int p3), .val (.int p4)] [(.ref a1)]))
  refine own_go (own_len X0 hx hZ e0 V_a1 (g := (mkF m 5 #[.val (.ref a1), .val (.int (3 : Int32)), .val (.int p2), .val (.int p3), .val (.int p4)] [(.ref a1)])) rfl rfl (hb hby d6_5)) ?_
  show own_R _ _ _ _ (s₁.setTop (mkF m 6 #[.val (.ref a1), .val (.int (3 : Int32)), .val (.int p2), .val (.int p3), .val (.int p4)] [(.int (3 : Int32))]))
  refine own_go (fun _ k => XS.iloadN X0.here hx rfl (hb hby d6_6) rfl k) ?_
  show own_R _ _ _ _ (s₁.setTop (mkF m 7 #[.val (.ref a1), .val (.int (3 : Int32)), .val (.int p2), .val (.int p3), .val (.int p4)] [(.int (3 : Int32)), (.int (3 : Int32))]))
  refine own_go (fun _ k => XS.icmpYes X0.here hx rfl (pc0 := 7) (pc' := 12) rfl (hb hby d6_7) rfl (teq (by decide : (3 : Int32) = (3 : Int32))).1 (by decide) (by decide) k) ?_
  show own_R _ _ _ _ (s₁.setTop (mkF m 12 #[.val (.ref a1), .val (.int (3 : Int32)), .val (.int p2), .val (.int p3), .val (.int p4)] []))
  refine own_go (fun _ k => XS.iloadN X0.here hx rfl (hb hby d6_12) rfl k) ?_
  show own_R _ _ _ _ (s₁.setTop (mkF m 13 #[.val (.ref a1), .val (.int (3 : Int32)), .val (.int p2), .val (.int p3), .val (.int p4)] [(.int (3 : Int32))]))
  refine own_go (fun _ k => XS.ifNo X0.here hx rfl (hb hby d6_13) rfl ((if0 _ _).trans (tlt (by decide : (0 : Int32) < (3 : Int32))).2.2.2) k) ?_
  show own_R _ _ _ _ (s₁.setTop (mkF m 16 #[.val (.ref a1), .val (.int (3 : Int32)), .val (.int p2), .val (.int p3), .val (.int p4)] []))
  refine own_go (fun _ k => XS.aloadN X0.here hx rfl (hb hby d6_16) rfl rfl k) ?_
  show own_R _ _ _ _ (s₁.setTop (mkF m 17 #[.val (.ref a1), .val (.int (3 : Int32)), .val (.int p2), .val (.int p3), .val (.int p4)] [(.ref a1)]))
  refine own_go (fun _ k => XS.iconst X0.here hx rfl (hb hby d6_17) k) ?_
  show own_R _ _ _ _ (s₁.setTop (mkF m 18 #[.val (.ref a1), .val (.int (3 : Int32)), .val (.int p2), .val (.int p3), .val (.int p4)] [(.int (0 : Int32)), (.ref a1)]))
  refine own_go (own_ldI X0 hx hZ e0 V_a1 (j := (0 : Int32)) (i := 0) ⟨by decide, by decide⟩ rfl (v := (.int p2)) rfl (g := (mkF m 18 #[.val (.ref a1), .val (.int (3 : Int32)), .val (.int p2), .val (.int p3), .val (.int p4)] [(.int (0 : Int32)), (.ref a1)])) rfl rfl (hb hby d6_18)) ?_
  show own_R _ _ _ _ (s₁.setTop (mkF m 19 #[.val (.ref a1), .val (.int (3 : Int32)), .val (.int p2), .val (.int p3), .val (.int p4)] [(.int p2)]))
  refine own_go (fun _ k => XS.iloadN X0.here hx rfl (hb hby d6_19) rfl k) ?_
  show own_R _ _ _ _ (s₁.setTop (mkF m 20 #[.val (.ref a1), .val (.int (3 : Int32)), .val (.int p2), .val (.int p3), .val (.int p4)] [(.int p2), (.int p2)]))
  refine own_go (fun _ k => XS.icmpYes X0.here hx rfl (pc0 := 20) (pc' := 25) rfl (hb hby d6_20) rfl (teq rfl).1 (by decide) (by decide) k) ?_
  show own_R _ _ _ _ (s₁.setTop (mkF m 25 #[.val (.ref a1), .val (.int (3 : Int32)), .val (.int p2), .val (.int p3), .val (.int p4)] []))
  refine own_go (fun _ k => XS.iloadN X0.here hx rfl (hb hby d6_25) rfl k) ?_
  show own_R _ _ _ _ (s₁.setTop (mkF m 26 #[.val (.ref a1), .val (.int (3 : Int32)), .val (.int p2), .val (.int p3), .val (.int p4)] [(.int (3 : Int32))]))
  refine own_go (fun _ k => XS.iconst X0.here hx rfl (hb hby d6_26) k) ?_
  show own_R _ _ _ _ (s₁.setTop (mkF m 27 #[.val (.ref a1), .val (.int (3 : Int32)), .val (.int p2), .val (.int p3), .val (.int p4)] [(.int (1 : Int32)), (.int (3 : Int32))]))
  refine own_go (fun _ k => XS.icmpNo X0.here hx rfl (hb hby d6_27) rfl (tlt (by decide : (1 : Int32) < (3 : Int32))).2.2.2 k) ?_
  show own_R _ _ _ _ (s₁.setTop (mkF m 30 #[.val (.ref a1), .val (.int (3 : Int32)), .val (.int p2), .val (.int p3), .val (.int p4)] []))
  refine own_go (fun _ k => XS.aloadN X0.here hx rfl (hb hby d6_30) rfl rfl k) ?_
  show own_R _ _ _ _ (s₁.setTop (mkF m 31 #[.val (.ref a1), .val (.int (3 : Int32)), .val (.int p2), .val (.int p3), .val (.int p4)] [(.ref a1)]))
  refine own_go (fun _ k => XS.iconst X0.here hx rfl (hb hby d6_31) k) ?_
  show own_R _ _ _ _ (s₁.setTop (mkF m 32 #[.val (.ref a1), .val (.int (3 : Int32)), .val (.int p2), .val (.int p3), .val (.int p4)] [(.int (1 : Int32)), (.ref a1)]))
  refine own_go (own_ldI X0 hx hZ e0 V_a1 (j := (1 : Int32)) (i := 1) ⟨by decide, by decide⟩ rfl (v := (.int p3)) rfl (g := (mkF m 32 #[.val (.ref a1), .val (.int (3 : Int32)), .val (.int p2), .val (.int p3), .val (.int p4)] [(.int (1 : Int32)), (.ref a1)])) rfl rfl (hb hby d6_32)) ?_
  show own_R _ _ _ _ (s₁.setTop (mkF m 33 #[.val (.ref a1), .val (.int (3 : Int32)), .val (.int p2), .val (.int p3), .val (.int p4)] [(.int p3)]))
  refine own_go (fun _ k => XS.iloadN X0.here hx rfl (hb hby d6_33) rfl k) ?_
  show own_R _ _ _ _ (s₁.setTop (mkF m 34 #[.val (.ref a1), .val (.int (3 : Int32)), .val (.int p2), .val (.int p3), .val (.int p4)] [(.int p3), (.int p3)]))
  refine own_go (fun _ k => XS.icmpYes X0.here hx rfl (pc0 := 34) (pc' := 39) rfl (hb hby d6_34) rfl (teq rfl).1 (by decide) (by decide) k) ?_
  show own_R _ _ _ _ (s₁.setTop (mkF m 39 #[.val (.ref a1), .val (.int (3 : Int32)), .val (.int p2), .val (.int p3), .val (.int p4)] []))
  refine own_go (fun _ k => XS.iloadN X0.here hx rfl (hb hby d6_39) rfl k) ?_
  show own_R _ _ _ _ (s₁.setTop (mkF m 40 #[.val (.ref a1), .val (.int (3 : Int32)), .val (.int p2), .val (.int p3), .val (.int p4)] [(.int (3 : Int32))]))
  refine own_go (fun _ k => XS.iconst X0.here hx rfl (hb hby d6_40) k) ?_
  show own_R _ _ _ _ (s₁.setTop (mkF m 41 #[.val (.ref a1), .val (.int (3 : Int32)), .val (.int p2), .val (.int p3), .val (.int p4)] [(.int (2 : Int32)), (.int (3 : Int32))]))
  refine own_go (fun _ k => XS.icmpNo X0.here hx rfl (hb hby d6_41) rfl (tlt (by decide : (2 : Int32) < (3 : Int32))).2.2.2 k) ?_
  show own_R _ _ _ _ (s₁.setTop (mkF m 44 #[.val (.ref a1), .val (.int (3 : Int32)), .val (.int p2), .val (.int p3), .val (.int p4)] []))
  refine own_go (fun _ k => XS.aloadN X0.here hx rfl (hb hby d6_44) rfl rfl k) ?_
  show own_R _ _ _ _ (s₁.setTop (mkF m 45 #[.val (.ref a1), .val (.int (3 : Int32)), .val (.int p2), .val (.int p3), .val (.int p4)] [(.ref a1)]))
  refine own_go (fun _ k => XS.iconst X0.here hx rfl (hb hby d6_45) k) ?_
  show own_R _ _ _ _ (s₁.setTop (mkF m 46 #[.val (.ref a1), .val (.int (3 : Int32)), .val (.int p2), .val (.int p3), .val (.int p4)] [(.int (2 : Int32)), (.ref a1)]))
  refine own_go (own_ldI X0 hx hZ e0 V_a1 (j := (2 : Int32)) (i := 2) ⟨by decide, by decide⟩ rfl (v := (.int p4)) rfl (g := (mkF m 46 #[.val (.ref a1), .val (.int (3 : Int32)), .val (.int p2), .val (.int p3), .val (.int p4)] [(.int (2 : Int32)), (.ref a1)])) rfl rfl (hb hby d6_46)) ?_
  show own_R _ _ _ _ (s₁.setTop (mkF m 47 #[.val (.ref a1), .val (.int (3 : Int32)), .val (.int p2), .val (.int p3), .val (.int p4)] [(.int p4)]))
  refine own_go (fun _ k => XS.iload X0.here hx rfl (hb hby d6_47) rfl k) ?_
  show own_R _ _ _ _ (s₁.setTop (mkF m 49 #[.val (.ref a1), .val (.int (3 : Int32)), .val (.int p2), .val (.int p3), .val (.int p4)] [(.int p4), (.int p4)]))
  refine own_go (fun _ k => XS.icmpYes X0.here hx rfl (pc0 := 49) (pc' := 54) rfl (hb hby d6_49) rfl (teq rfl).1 (by decide) (by decide) k) ?_
  show own_R _ _ _ _ (s₁.setTop (mkF m 54 #[.val (.ref a1), .val (.int (3 : Int32)), .val (.int p2), .val (.int p3), .val (.int p4)] []))
  refine own_go (fun _ k => XS.iconst X0.here hx rfl (hb hby d6_54) k) ?_
  show own_R _ _ _ _ (s₁.setTop (mkF m 55 #[.val (.ref a1), .val (.int (3 : Int32)), .val (.int p2), .val (.int p3), .val (.int p4)] [(.int (1 : Int32))]))
  exact own_retN X0 hx (t := .boolean) (by simp) Bd.returns (hb hby d6_55) hlk ⟨rfl, NF, e0⟩ (by decide) (by decide)
theorem ef_0 (m : MethodId) (x0 : Int32) (x1 : Int32) (x2 : Int32) (x3 : Int32) (x4 : Int32) (x5 : Int32) : entryFrame m #[(.int x0), (.int x1), (.int x2), (.int x3), (.int x4), (.int x5)] maxLocals = mkF m 0 #[.val (.int x0), .val (.int x1), .val (.int x2), .val (.int x3), .val (.int x4), .val (.int x5), .unset, .unset, .unset, .unset, .unset, .unset, .unset, .unset, .unset, .unset, .unset, .unset, .unset, .unset, .unset, .unset] [] := by first | (simp [entryFrame, mkF, argsToLocals, Value.category, maxLocals]; done) | rfl
def Q0 (Z : State) (q1 : Int32) (q2 : Int32) (q3 : Int32) (q4 : Int32) (q5 : Int32) (q6 : Int32) (h0 : Heap) (n0 : Nat) (v : Option Value) (h : Heap) (L : List Loc) : Prop := v = some (.int 1) ∧ Fr n0 L
set_option maxRecDepth 65536 in
set_option maxHeartbeats 40000000 in
theorem rm0 (l : Launch) (Z : State) (a0 : Array Value) (hw : ∀ d ∈ tables_1, d.before a0 Z = true) (ws : List Jvm.Cond) (q1 : Int32) (q2 : Int32) (q3 : Int32) (q4 : Int32) (q5 : Int32) (q6 : Int32) (h0 : Heap) (n0 : Nat) (ZS : n0 ≤ h0.size) :
    MetFree l x (head1 (Jvm.Cond.code x code maxLocals ret :: ws) room_1) (fun a U => a = #[(.int q1), (.int q2), (.int q3), (.int q4), (.int q5), (.int q6)] ∧ Z.Warmed39 U.vm ∧ U.heap = h0) (fun _ _ _ _ _ => True) (fun _ U o U' => ∃ v L, o = .returned v ∧ Q0 Z q1 q2 q3 q4 q5 q6 h0 n0 v U'.heap L ∧ FrameEnd U o U' L 24 256) := by
  refine MetFree.of_bodySF (plainFor_of_name pn_4) hisR ?_
  intro p e s m args below meth c s₁ Bd hml0 hP hK
  obtain ⟨rfl, hZ, hh⟩ := hP
  have hx := Bd.exec
  have hby := Bd.bytes
  have hml : c.maxLocals = 22 := hml0
  have hown : s.vm.findClass "com/example/clearlot/clearlot/search/PartTreeBranchesPinLaw" = some m.cls := findClass_of_methodNamed Bd.named
  have hnm := (name_of_methodNamed Bd.named Bd.method).1
  have hlk : meth.locks = false := Bd.notSynchronized
  have X0 : Stand p l e room_1 s m #[(.int q1), (.int q2), (.int q3), (.int q4), (.int q5), (.int q6)] below meth c s₁ [] 0 0 := Stand.of_body Bd
  have e0 : s₁.heap = h0 := by rw [← hh, Bd.state]; rfl
  have NF := Fr.nil n0
  have KP : Keep h0 h0 [] := Keep.refl _ _
  refine own_fin (s := s) (Q := Q0 Z q1 q2 q3 q4 q5 q6 h0 n0) (rc := 24) (rs := 256) ?_
  refine own_go (fun t k => castTop (ef_0 m q1 q2 q3 q4 q5 q6) k) ?_
  show own_R _ _ _ _ (s₁.setTop (mkF m 0 #[.val (.int q1), .val (.int q2), .val (.int q3), .val (.int q4), .val (.int q5), .val (.int q6), .unset, .unset, .unset, .unset, .unset, .unset, .unset, .unset, .unset, .unset, .unset, .unset, .unset, .unset, .unset, .unset] []))
  obtain ⟨_, ⟨f0, hs82, rfl⟩, sg82⟩ : own_R p.tables e below (fun U => ∃ (f0 : Int32), (True) ∧ U = s₁.setTop (mkF m 12 #[.val (.int q1), .val (.int q2), .val (.int q3), .val (.int q4), .val (.int q5), .val (.int q6), .unset, .unset, .unset, .unset, .unset, .unset, .unset, .unset, .unset, .unset, .unset, .unset, .unset, .unset, .unset, .unset] [(.int f0)])) (s₁.setTop (mkF m 0 #[.val (.int q1), .val (.int q2), .val (.int q3), .val (.int q4), .val (.int q5), .val (.int q6), .unset, .unset, .unset, .unset, .unset, .unset, .unset, .unset, .unset, .unset, .unset, .unset, .unset, .unset, .unset, .unset] [])) := by
    refine own_go (fun _ k => XS.iload X0.here hx rfl (hb hby at_0) rfl k) ?_
    show own_R _ _ _ _ (s₁.setTop (mkF m 2 #[.val (.int q1), .val (.int q2), .val (.int q3), .val (.int q4), .val (.int q5), .val (.int q6), .unset, .unset, .unset, .unset, .unset, .unset, .unset, .unset, .unset, .unset, .unset, .unset, .unset, .unset, .unset, .unset] [(.int q5)]))
    refine own_go (fun _ k => XS.iconst X0.here hx rfl (hb hby at_2) k) ?_
    show own_R _ _ _ _ (s₁.setTop (mkF m 3 #[.val (.int q1), .val (.int q2), .val (.int q3), .val (.int q4), .val (.int q5), .val (.int q6), .unset, .unset, .unset, .unset, .unset, .unset, .unset, .unset, .unset, .unset, .unset, .unset, .unset, .unset, .unset, .unset] [(.int (1 : Int32)), (.int q5)]))
    refine own_go (fun _ k => XS.iand X0.here hx rfl (hb hby at_3) rfl k) ?_
    show own_R _ _ _ _ (s₁.setTop (mkF m 4 #[.val (.int q1), .val (.int q2), .val (.int q3), .val (.int q4), .val (.int q5), .val (.int q6), .unset, .unset, .unset, .unset, .unset, .unset, .unset, .unset, .unset, .unset, .unset, .unset, .unset, .unset, .unset, .unset] [(.int (q5 &&& (1 : Int32)))]))
    by_cases hc83 : (q5 &&& (1 : Int32)) = (0 : Int32)
    · refine own_go (fun _ k => XS.ifYes X0.here hx rfl (pc0 := 4) (pc' := 11) rfl (hb hby at_4) rfl ((if0 _ _).trans (teq hc83).1) (by decide) (by decide) k) ?_
      show own_R _ _ _ _ (s₁.setTop (mkF m 11 #[.val (.int q1), .val (.int q2), .val (.int q3), .val (.int q4), .val (.int q5), .val (.int q6), .unset, .unset, .unset, .unset, .unset, .unset, .unset, .unset, .unset, .unset, .unset, .unset, .unset, .unset, .unset, .unset] []))
      refine own_go (fun _ k => XS.iconst X0.here hx rfl (hb hby at_11) k) ?_
      show own_R _ _ _ _ (s₁.setTop (mkF m 12 #[.val (.int q1), .val (.int q2), .val (.int q3), .val (.int q4), .val (.int q5), .val (.int q6), .unset, .unset, .unset, .unset, .unset, .unset, .unset, .unset, .unset, .unset, .unset, .unset, .unset, .unset, .unset, .unset] [(.int (0 : Int32))]))
      exact own_leaf ⟨(0 : Int32), trivial, rfl⟩
    · refine own_go (fun _ k => XS.ifNo X0.here hx rfl (hb hby at_4) rfl ((if0 _ _).trans (feq hc83).1) k) ?_
      show own_R _ _ _ _ (s₁.setTop (mkF m 7 #[.val (.int q1), .val (.int q2), .val (.int q3), .val (.int q4), .val (.int q5), .val (.int q6), .unset, .unset, .unset, .unset, .unset, .unset, .unset, .unset, .unset, .unset, .unset, .unset, .unset, .unset, .unset, .unset] []))
      refine own_go (fun _ k => XS.iconst X0.here hx rfl (hb hby at_7) k) ?_
      show own_R _ _ _ _ (s₁.setTop (mkF m 8 #[.val (.int q1), .val (.int q2), .val (.int q3), .val (.int q4), .val (.int q5), .val (.int q6), .unset, .unset, .unset, .unset, .unset, .unset, .unset, .unset, .unset, .unset, .unset, .unset, .unset, .unset, .unset, .unset] [(.int (1 : Int32))]))
      refine own_go (fun _ k => XS.goto X0.here hx rfl (pc0 := 8) (pc' := 12) rfl (hb hby at_8) (by decide) (by decide) k) ?_
      show own_R _ _ _ _ (s₁.setTop (mkF m 12 #[.val (.int q1), .val (.int q2), .val (.int q3), .val (.int q4), .val (.int q5), .val (.int q6), .unset, .unset, .unset, .unset, .unset, .unset, .unset, .unset, .unset, .unset, .unset, .unset, .unset, .unset, .unset, .unset] [(.int (1 : Int32))]))
      exact own_leaf ⟨(1 : Int32), trivial, rfl⟩
  refine own_go sg82 ?_
  show own_R _ _ _ _ (s₁.setTop (mkF m 12 #[.val (.int q1), .val (.int q2), .val (.int q3), .val (.int q4), .val (.int q5), .val (.int q6), .unset, .unset, .unset, .unset, .unset, .unset, .unset, .unset, .unset, .unset, .unset, .unset, .unset, .unset, .unset, .unset] [(.int f0)]))
  refine own_go (fun _ k => XS.istore X0.here hx rfl (hb hby at_12) rfl (l' := #[.val (.int q1), .val (.int q2), .val (.int q3), .val (.int q4), .val (.int q5), .val (.int q6), .val (.int f0), .unset, .unset, .unset, .unset, .unset, .unset, .unset, .unset, .unset, .unset, .unset, .unset, .unset, .unset, .unset]) rfl k) ?_
  show own_R _ _ _ _ (s₁.setTop (mkF m 14 #[.val (.int q1), .val (.int q2), .val (.int q3), .val (.int q4), .val (.int q5), .val (.int q6), .val (.int f0), .unset, .unset, .unset, .unset, .unset, .unset, .unset, .unset, .unset, .unset, .unset, .unset, .unset, .unset, .unset] []))
  obtain ⟨_, ⟨f1, hs84, rfl⟩, sg84⟩ : own_R p.tables e below (fun U => ∃ (f1 : Int32), (True) ∧ U = s₁.setTop (mkF m 26 #[.val (.int q1), .val (.int q2), .val (.int q3), .val (.int q4), .val (.int q5), .val (.int q6), .val (.int f0), .unset, .unset, .unset, .unset, .unset, .unset, .unset, .unset, .unset, .unset, .unset, .unset, .unset, .unset, .unset] [(.int f1)])) (s₁.setTop (mkF m 14 #[.val (.int q1), .val (.int q2), .val (.int q3), .val (.int q4), .val (.int q5), .val (.int q6), .val (.int f0), .unset, .unset, .unset, .unset, .unset, .unset, .unset, .unset, .unset, .unset, .unset, .unset, .unset, .unset, .unset] [])) := by
    refine own_go (fun _ k => XS.iload X0.here hx rfl (hb hby at_14) rfl k) ?_
    show own_R _ _ _ _ (s₁.setTop (mkF m 16 #[.val (.int q1), .val (.int q2), .val (.int q3), .val (.int q4), .val (.int q5), .val (.int q6), .val (.int f0), .unset, .unset, .unset, .unset, .unset, .unset, .unset, .unset, .unset, .unset, .unset, .unset, .unset, .unset, .unset] [(.int q5)]))
    refine own_go (fun _ k => XS.iconst X0.here hx rfl (hb hby at_16) k) ?_
    show own_R _ _ _ _ (s₁.setTop (mkF m 17 #[.val (.int q1), .val (.int q2), .val (.int q3), .val (.int q4), .val (.int q5), .val (.int q6), .val (.int f0), .unset, .unset, .unset, .unset, .unset, .unset, .unset, .unset, .unset, .unset, .unset, .unset, .unset, .unset, .unset] [(.int (2 : Int32)), (.int q5)]))
    refine own_go (fun _ k => XS.iand X0.here hx rfl (hb hby at_17) rfl k) ?_
    show own_R _ _ _ _ (s₁.setTop (mkF m 18 #[.val (.int q1), .val (.int q2), .val (.int q3), .val (.int q4), .val (.int q5), .val (.int q6), .val (.int f0), .unset, .unset, .unset, .unset, .unset, .unset, .unset, .unset, .unset, .unset, .unset, .unset, .unset, .unset, .unset] [(.int (q5 &&& (2 : Int32)))]))
    by_cases hc85 : (q5 &&& (2 : Int32)) = (0 : Int32)
    · refine own_go (fun _ k => XS.ifYes X0.here hx rfl (pc0 := 18) (pc' := 25) rfl (hb hby at_18) rfl ((if0 _ _).trans (teq hc85).1) (by decide) (by decide) k) ?_
      show own_R _ _ _ _ (s₁.setTop (mkF m 25 #[.val (.int q1), .val (.int q2), .val (.int q3), .val (.int q4), .val (.int q5), .val (.int q6), .val (.int f0), .unset, .unset, .unset, .unset, .unset, .unset, .unset, .unset, .unset, .unset, .unset, .unset, .unset, .unset, .unset] []))
      refine own_go (fun _ k => XS.iconst X0.here hx rfl (hb hby at_25) k) ?_
      show own_R _ _ _ _ (s₁.setTop (mkF m 26 #[.val (.int q1), .val (.int q2), .val (.int q3), .val (.int q4), .val (.int q5), .val (.int q6), .val (.int f0), .unset, .unset, .unset, .unset, .unset, .unset, .unset, .unset, .unset, .unset, .unset, .unset, .unset, .unset, .unset] [(.int (0 : Int32))]))
      exact own_leaf ⟨(0 : Int32), trivial, rfl⟩
    · refine own_go (fun _ k => XS.ifNo X0.here hx rfl (hb hby at_18) rfl ((if0 _ _).trans (feq hc85).1) k) ?_
      show own_R _ _ _ _ (s₁.setTop (mkF m 21 #[.val (.int q1), .val (.int q2), .val (.int q3), .val (.int q4), .val (.int q5), .val (.int q6), .val (.int f0), .unset, .unset, .unset, .unset, .unset, .unset, .unset, .unset, .unset, .unset, .unset, .unset, .unset, .unset, .unset] []))
      refine own_go (fun _ k => XS.iconst X0.here hx rfl (hb hby at_21) k) ?_
      show own_R _ _ _ _ (s₁.setTop (mkF m 22 #[.val (.int q1), .val (.int q2), .val (.int q3), .val (.int q4), .val (.int q5), .val (.int q6), .val (.int f0), .unset, .unset, .unset, .unset, .unset, .unset, .unset, .unset, .unset, .unset, .unset, .unset, .unset, .unset, .unset] [(.int (1 : Int32))]))
      refine own_go (fun _ k => XS.goto X0.here hx rfl (pc0 := 22) (pc' := 26) rfl (hb hby at_22) (by decide) (by decide) k) ?_
      show own_R _ _ _ _ (s₁.setTop (mkF m 26 #[.val (.int q1), .val (.int q2), .val (.int q3), .val (.int q4), .val (.int q5), .val (.int q6), .val (.int f0), .unset, .unset, .unset, .unset, .unset, .unset, .unset, .unset, .unset, .unset, .unset, .unset, .unset, .unset, .unset] [(.int (1 : Int32))]))
      exact own_leaf ⟨(1 : Int32), trivial, rfl⟩
  refine own_go sg84 ?_
  show own_R _ _ _ _ (s₁.setTop (mkF m 26 #[.val (.int q1), .val (.int q2), .val (.int q3), .val (.int q4), .val (.int q5), .val (.int q6), .val (.int f0), .unset, .unset, .unset, .unset, .unset, .unset, .unset, .unset, .unset, .unset, .unset, .unset, .unset, .unset, .unset] [(.int f1)]))
  refine own_go (fun _ k => XS.istore X0.here hx rfl (hb hby at_26) rfl (l' := #[.val (.int q1), .val (.int q2), .val (.int q3), .val (.int q4), .val (.int q5), .val (.int q6), .val (.int f0), .val (.int f1), .unset, .unset, .unset, .unset, .unset, .unset, .unset, .unset, .unset, .unset, .unset, .unset, .unset, .unset]) rfl k) ?_
  show own_R _ _ _ _ (s₁.setTop (mkF m 28 #[.val (.int q1), .val (.int q2), .val (.int q3), .val (.int q4), .val (.int q5), .val (.int q6), .val (.int f0), .val (.int f1), .unset, .unset, .unset, .unset, .unset, .unset, .unset, .unset, .unset, .unset, .unset, .unset, .unset, .unset] []))
  obtain ⟨_, ⟨f2, hs86, rfl⟩, sg86⟩ : own_R p.tables e below (fun U => ∃ (f2 : Int32), (True) ∧ U = s₁.setTop (mkF m 40 #[.val (.int q1), .val (.int q2), .val (.int q3), .val (.int q4), .val (.int q5), .val (.int q6), .val (.int f0), .val (.int f1), .unset, .unset, .unset, .unset, .unset, .unset, .unset, .unset, .unset, .unset, .unset, .unset, .unset, .unset] [(.int f2)])) (s₁.setTop (mkF m 28 #[.val (.int q1), .val (.int q2), .val (.int q3), .val (.int q4), .val (.int q5), .val (.int q6), .val (.int f0), .val (.int f1), .unset, .unset, .unset, .unset, .unset, .unset, .unset, .unset, .unset, .unset, .unset, .unset, .unset, .unset] [])) := by
    refine own_go (fun _ k => XS.iload X0.here hx rfl (hb hby at_28) rfl k) ?_
    show own_R _ _ _ _ (s₁.setTop (mkF m 30 #[.val (.int q1), .val (.int q2), .val (.int q3), .val (.int q4), .val (.int q5), .val (.int q6), .val (.int f0), .val (.int f1), .unset, .unset, .unset, .unset, .unset, .unset, .unset, .unset, .unset, .unset, .unset, .unset, .unset, .unset] [(.int q5)]))
    refine own_go (fun _ k => XS.iconst X0.here hx rfl (hb hby at_30) k) ?_
    show own_R _ _ _ _ (s₁.setTop (mkF m 31 #[.val (.int q1), .val (.int q2), .val (.int q3), .val (.int q4), .val (.int q5), .val (.int q6), .val (.int f0), .val (.int f1), .unset, .unset, .unset, .unset, .unset, .unset, .unset, .unset, .unset, .unset, .unset, .unset, .unset, .unset] [(.int (4 : Int32)), (.int q5)]))
    refine own_go (fun _ k => XS.iand X0.here hx rfl (hb hby at_31) rfl k) ?_
    show own_R _ _ _ _ (s₁.setTop (mkF m 32 #[.val (.int q1), .val (.int q2), .val (.int q3), .val (.int q4), .val (.int q5), .val (.int q6), .val (.int f0), .val (.int f1), .unset, .unset, .unset, .unset, .unset, .unset, .unset, .unset, .unset, .unset, .unset, .unset, .unset, .unset] [(.int (q5 &&& (4 : Int32)))]))
    by_cases hc87 : (q5 &&& (4 : Int32)) = (0 : Int32)
    · refine own_go (fun _ k => XS.ifYes X0.here hx rfl (pc0 := 32) (pc' := 39) rfl (hb hby at_32) rfl ((if0 _ _).trans (teq hc87).1) (by decide) (by decide) k) ?_
      show own_R _ _ _ _ (s₁.setTop (mkF m 39 #[.val (.int q1), .val (.int q2), .val (.int q3), .val (.int q4), .val (.int q5), .val (.int q6), .val (.int f0), .val (.int f1), .unset, .unset, .unset, .unset, .unset, .unset, .unset, .unset, .unset, .unset, .unset, .unset, .unset, .unset] []))
      refine own_go (fun _ k => XS.iconst X0.here hx rfl (hb hby at_39) k) ?_
      show own_R _ _ _ _ (s₁.setTop (mkF m 40 #[.val (.int q1), .val (.int q2), .val (.int q3), .val (.int q4), .val (.int q5), .val (.int q6), .val (.int f0), .val (.int f1), .unset, .unset, .unset, .unset, .unset, .unset, .unset, .unset, .unset, .unset, .unset, .unset, .unset, .unset] [(.int (0 : Int32))]))
      exact own_leaf ⟨(0 : Int32), trivial, rfl⟩
    · refine own_go (fun _ k => XS.ifNo X0.here hx rfl (hb hby at_32) rfl ((if0 _ _).trans (feq hc87).1) k) ?_
      show own_R _ _ _ _ (s₁.setTop (mkF m 35 #[.val (.int q1), .val (.int q2), .val (.int q3), .val (.int q4), .val (.int q5), .val (.int q6), .val (.int f0), .val (.int f1), .unset, .unset, .unset, .unset, .unset, .unset, .unset, .unset, .unset, .unset, .unset, .unset, .unset, .unset] []))
      refine own_go (fun _ k => XS.iconst X0.here hx rfl (hb hby at_35) k) ?_
      show own_R _ _ _ _ (s₁.setTop (mkF m 36 #[.val (.int q1), .val (.int q2), .val (.int q3), .val (.int q4), .val (.int q5), .val (.int q6), .val (.int f0), .val (.int f1), .unset, .unset, .unset, .unset, .unset, .unset, .unset, .unset, .unset, .unset, .unset, .unset, .unset, .unset] [(.int (1 : Int32))]))
      refine own_go (fun _ k => XS.goto X0.here hx rfl (pc0 := 36) (pc' := 40) rfl (hb hby at_36) (by decide) (by decide) k) ?_
      show own_R _ _ _ _ (s₁.setTop (mkF m 40 #[.val (.int q1), .val (.int q2), .val (.int q3), .val (.int q4), .val (.int q5), .val (.int q6), .val (.int f0), .val (.int f1), .unset, .unset, .unset, .unset, .unset, .unset, .unset, .unset, .unset, .unset, .unset, .unset, .unset, .unset] [(.int (1 : Int32))]))
      exact own_leaf ⟨(1 : Int32), trivial, rfl⟩
  refine own_go sg86 ?_
  show own_R _ _ _ _ (s₁.setTop (mkF m 40 #[.val (.int q1), .val (.int q2), .val (.int q3), .val (.int q4), .val (.int q5), .val (.int q6), .val (.int f0), .val (.int f1), .unset, .unset, .unset, .unset, .unset, .unset, .unset, .unset, .unset, .unset, .unset, .unset, .unset, .unset] [(.int f2)]))
  refine own_go (fun _ k => XS.istore X0.here hx rfl (hb hby at_40) rfl (l' := #[.val (.int q1), .val (.int q2), .val (.int q3), .val (.int q4), .val (.int q5), .val (.int q6), .val (.int f0), .val (.int f1), .val (.int f2), .unset, .unset, .unset, .unset, .unset, .unset, .unset, .unset, .unset, .unset, .unset, .unset, .unset]) rfl k) ?_
  show own_R _ _ _ _ (s₁.setTop (mkF m 42 #[.val (.int q1), .val (.int q2), .val (.int q3), .val (.int q4), .val (.int q5), .val (.int q6), .val (.int f0), .val (.int f1), .val (.int f2), .unset, .unset, .unset, .unset, .unset, .unset, .unset, .unset, .unset, .unset, .unset, .unset, .unset] []))
  obtain ⟨_, ⟨f3, hs88, rfl⟩, sg88⟩ : own_R p.tables e below (fun U => ∃ (f3 : Int32), (True) ∧ U = s₁.setTop (mkF m 55 #[.val (.int q1), .val (.int q2), .val (.int q3), .val (.int q4), .val (.int q5), .val (.int q6), .val (.int f0), .val (.int f1), .val (.int f2), .unset, .unset, .unset, .unset, .unset, .unset, .unset, .unset, .unset, .unset, .unset, .unset, .unset] [(.int f3)])) (s₁.setTop (mkF m 42 #[.val (.int q1), .val (.int q2), .val (.int q3), .val (.int q4), .val (.int q5), .val (.int q6), .val (.int f0), .val (.int f1), .val (.int f2), .unset, .unset, .unset, .unset, .unset, .unset, .unset, .unset, .unset, .unset, .unset, .unset, .unset] [])) := by
    refine own_go (fun _ k => XS.iload X0.here hx rfl (hb hby at_42) rfl k) ?_
    show own_R _ _ _ _ (s₁.setTop (mkF m 44 #[.val (.int q1), .val (.int q2), .val (.int q3), .val (.int q4), .val (.int q5), .val (.int q6), .val (.int f0), .val (.int f1), .val (.int f2), .unset, .unset, .unset, .unset, .unset, .unset, .unset, .unset, .unset, .unset, .unset, .unset, .unset] [(.int q5)]))
    refine own_go (fun _ k => XS.bipush X0.here hx rfl (hb hby at_44) k) ?_
    show own_R _ _ _ _ (s₁.setTop (mkF m 46 #[.val (.int q1), .val (.int q2), .val (.int q3), .val (.int q4), .val (.int q5), .val (.int q6), .val (.int f0), .val (.int f1), .val (.int f2), .unset, .unset, .unset, .unset, .unset, .unset, .unset, .unset, .unset, .unset, .unset, .unset, .unset] [(.int (8 : Int32)), (.int q5)]))
    refine own_go (fun _ k => XS.iand X0.here hx rfl (hb hby at_46) rfl k) ?_
    show own_R _ _ _ _ (s₁.setTop (mkF m 47 #[.val (.int q1), .val (.int q2), .val (.int q3), .val (.int q4), .val (.int q5), .val (.int q6), .val (.int f0), .val (.int f1), .val (.int f2), .unset, .unset, .unset, .unset, .unset, .unset, .unset, .unset, .unset, .unset, .unset, .unset, .unset] [(.int (q5 &&& (8 : Int32)))]))
    by_cases hc89 : (q5 &&& (8 : Int32)) = (0 : Int32)
    · refine own_go (fun _ k => XS.ifYes X0.here hx rfl (pc0 := 47) (pc' := 54) rfl (hb hby at_47) rfl ((if0 _ _).trans (teq hc89).1) (by decide) (by decide) k) ?_
      show own_R _ _ _ _ (s₁.setTop (mkF m 54 #[.val (.int q1), .val (.int q2), .val (.int q3), .val (.int q4), .val (.int q5), .val (.int q6), .val (.int f0), .val (.int f1), .val (.int f2), .unset, .unset, .unset, .unset, .unset, .unset, .unset, .unset, .unset, .unset, .unset, .unset, .unset] []))
      refine own_go (fun _ k => XS.iconst X0.here hx rfl (hb hby at_54) k) ?_
      show own_R _ _ _ _ (s₁.setTop (mkF m 55 #[.val (.int q1), .val (.int q2), .val (.int q3), .val (.int q4), .val (.int q5), .val (.int q6), .val (.int f0), .val (.int f1), .val (.int f2), .unset, .unset, .unset, .unset, .unset, .unset, .unset, .unset, .unset, .unset, .unset, .unset, .unset] [(.int (0 : Int32))]))
      exact own_leaf ⟨(0 : Int32), trivial, rfl⟩
    · refine own_go (fun _ k => XS.ifNo X0.here hx rfl (hb hby at_47) rfl ((if0 _ _).trans (feq hc89).1) k) ?_
      show own_R _ _ _ _ (s₁.setTop (mkF m 50 #[.val (.int q1), .val (.int q2), .val (.int q3), .val (.int q4), .val (.int q5), .val (.int q6), .val (.int f0), .val (.int f1), .val (.int f2), .unset, .unset, .unset, .unset, .unset, .unset, .unset, .unset, .unset, .unset, .unset, .unset, .unset] []))
      refine own_go (fun _ k => XS.iconst X0.here hx rfl (hb hby at_50) k) ?_
      show own_R _ _ _ _ (s₁.setTop (mkF m 51 #[.val (.int q1), .val (.int q2), .val (.int q3), .val (.int q4), .val (.int q5), .val (.int q6), .val (.int f0), .val (.int f1), .val (.int f2), .unset, .unset, .unset, .unset, .unset, .unset, .unset, .unset, .unset, .unset, .unset, .unset, .unset] [(.int (1 : Int32))]))
      refine own_go (fun _ k => XS.goto X0.here hx rfl (pc0 := 51) (pc' := 55) rfl (hb hby at_51) (by decide) (by decide) k) ?_
      show own_R _ _ _ _ (s₁.setTop (mkF m 55 #[.val (.int q1), .val (.int q2), .val (.int q3), .val (.int q4), .val (.int q5), .val (.int q6), .val (.int f0), .val (.int f1), .val (.int f2), .unset, .unset, .unset, .unset, .unset, .unset, .unset, .unset, .unset, .unset, .unset, .unset, .unset] [(.int (1 : Int32))]))
      exact own_leaf ⟨(1 : Int32), trivial, rfl⟩
  refine own_go sg88 ?_
  show own_R _ _ _ _ (s₁.setTop (mkF m 55 #[.val (.int q1), .val (.int q2), .val (.int q3), .val (.int q4), .val (.int q5), .val (.int q6), .val (.int f0), .val (.int f1), .val (.int f2), .unset, .unset, .unset, .unset, .unset, .unset, .unset, .unset, .unset, .unset, .unset, .unset, .unset] [(.int f3)]))
  refine own_go (fun _ k => XS.istore X0.here hx rfl (hb hby at_55) rfl (l' := #[.val (.int q1), .val (.int q2), .val (.int q3), .val (.int q4), .val (.int q5), .val (.int q6), .val (.int f0), .val (.int f1), .val (.int f2), .val (.int f3), .unset, .unset, .unset, .unset, .unset, .unset, .unset, .unset, .unset, .unset, .unset, .unset]) rfl k) ?_
  show own_R _ _ _ _ (s₁.setTop (mkF m 57 #[.val (.int q1), .val (.int q2), .val (.int q3), .val (.int q4), .val (.int q5), .val (.int q6), .val (.int f0), .val (.int f1), .val (.int f2), .val (.int f3), .unset, .unset, .unset, .unset, .unset, .unset, .unset, .unset, .unset, .unset, .unset, .unset] []))
  obtain ⟨_, ⟨f4, hs90, rfl⟩, sg90⟩ : own_R p.tables e below (fun U => ∃ (f4 : Int32), (True) ∧ U = s₁.setTop (mkF m 70 #[.val (.int q1), .val (.int q2), .val (.int q3), .val (.int q4), .val (.int q5), .val (.int q6), .val (.int f0), .val (.int f1), .val (.int f2), .val (.int f3), .unset, .unset, .unset, .unset, .unset, .unset, .unset, .unset, .unset, .unset, .unset, .unset] [(.int f4)])) (s₁.setTop (mkF m 57 #[.val (.int q1), .val (.int q2), .val (.int q3), .val (.int q4), .val (.int q5), .val (.int q6), .val (.int f0), .val (.int f1), .val (.int f2), .val (.int f3), .unset, .unset, .unset, .unset, .unset, .unset, .unset, .unset, .unset, .unset, .unset, .unset] [])) := by
    refine own_go (fun _ k => XS.iload X0.here hx rfl (hb hby at_57) rfl k) ?_
    show own_R _ _ _ _ (s₁.setTop (mkF m 59 #[.val (.int q1), .val (.int q2), .val (.int q3), .val (.int q4), .val (.int q5), .val (.int q6), .val (.int f0), .val (.int f1), .val (.int f2), .val (.int f3), .unset, .unset, .unset, .unset, .unset, .unset, .unset, .unset, .unset, .unset, .unset, .unset] [(.int q5)]))
    refine own_go (fun _ k => XS.bipush X0.here hx rfl (hb hby at_59) k) ?_
    show own_R _ _ _ _ (s₁.setTop (mkF m 61 #[.val (.int q1), .val (.int q2), .val (.int q3), .val (.int q4), .val (.int q5), .val (.int q6), .val (.int f0), .val (.int f1), .val (.int f2), .val (.int f3), .unset, .unset, .unset, .unset, .unset, .unset, .unset, .unset, .unset, .unset, .unset, .unset] [(.int (16 : Int32)), (.int q5)]))
    refine own_go (fun _ k => XS.iand X0.here hx rfl (hb hby at_61) rfl k) ?_
    show own_R _ _ _ _ (s₁.setTop (mkF m 62 #[.val (.int q1), .val (.int q2), .val (.int q3), .val (.int q4), .val (.int q5), .val (.int q6), .val (.int f0), .val (.int f1), .val (.int f2), .val (.int f3), .unset, .unset, .unset, .unset, .unset, .unset, .unset, .unset, .unset, .unset, .unset, .unset] [(.int (q5 &&& (16 : Int32)))]))
    by_cases hc91 : (q5 &&& (16 : Int32)) = (0 : Int32)
    · refine own_go (fun _ k => XS.ifYes X0.here hx rfl (pc0 := 62) (pc' := 69) rfl (hb hby at_62) rfl ((if0 _ _).trans (teq hc91).1) (by decide) (by decide) k) ?_
      show own_R _ _ _ _ (s₁.setTop (mkF m 69 #[.val (.int q1), .val (.int q2), .val (.int q3), .val (.int q4), .val (.int q5), .val (.int q6), .val (.int f0), .val (.int f1), .val (.int f2), .val (.int f3), .unset, .unset, .unset, .unset, .unset, .unset, .unset, .unset, .unset, .unset, .unset, .unset] []))
      refine own_go (fun _ k => XS.iconst X0.here hx rfl (hb hby at_69) k) ?_
      show own_R _ _ _ _ (s₁.setTop (mkF m 70 #[.val (.int q1), .val (.int q2), .val (.int q3), .val (.int q4), .val (.int q5), .val (.int q6), .val (.int f0), .val (.int f1), .val (.int f2), .val (.int f3), .unset, .unset, .unset, .unset, .unset, .unset, .unset, .unset, .unset, .unset, .unset, .unset] [(.int (0 : Int32))]))
      exact own_leaf ⟨(0 : Int32), trivial, rfl⟩
    · refine own_go (fun _ k => XS.ifNo X0.here hx rfl (hb hby at_62) rfl ((if0 _ _).trans (feq hc91).1) k) ?_
      show own_R _ _ _ _ (s₁.setTop (mkF m 65 #[.val (.int q1), .val (.int q2), .val (.int q3), .val (.int q4), .val (.int q5), .val (.int q6), .val (.int f0), .val (.int f1), .val (.int f2), .val (.int f3), .unset, .unset, .unset, .unset, .unset, .unset, .unset, .unset, .unset, .unset, .unset, .unset] []))
      refine own_go (fun _ k => XS.iconst X0.here hx rfl (hb hby at_65) k) ?_
      show own_R _ _ _ _ (s₁.setTop (mkF m 66 #[.val (.int q1), .val (.int q2), .val (.int q3), .val (.int q4), .val (.int q5), .val (.int q6), .val (.int f0), .val (.int f1), .val (.int f2), .val (.int f3), .unset, .unset, .unset, .unset, .unset, .unset, .unset, .unset, .unset, .unset, .unset, .unset] [(.int (1 : Int32))]))
      refine own_go (fun _ k => XS.goto X0.here hx rfl (pc0 := 66) (pc' := 70) rfl (hb hby at_66) (by decide) (by decide) k) ?_
      show own_R _ _ _ _ (s₁.setTop (mkF m 70 #[.val (.int q1), .val (.int q2), .val (.int q3), .val (.int q4), .val (.int q5), .val (.int q6), .val (.int f0), .val (.int f1), .val (.int f2), .val (.int f3), .unset, .unset, .unset, .unset, .unset, .unset, .unset, .unset, .unset, .unset, .unset, .unset] [(.int (1 : Int32))]))
      exact own_leaf ⟨(1 : Int32), trivial, rfl⟩
  refine own_go sg90 ?_
  show own_R _ _ _ _ (s₁.setTop (mkF m 70 #[.val (.int q1), .val (.int q2), .val (.int q3), .val (.int q4), .val (.int q5), .val (.int q6), .val (.int f0), .val (.int f1), .val (.int f2), .val (.int f3), .unset, .unset, .unset, .unset, .unset, .unset, .unset, .unset, .unset, .unset, .unset, .unset] [(.int f4)]))
  refine own_go (fun _ k => XS.istore X0.here hx rfl (hb hby at_70) rfl (l' := #[.val (.int q1), .val (.int q2), .val (.int q3), .val (.int q4), .val (.int q5), .val (.int q6), .val (.int f0), .val (.int f1), .val (.int f2), .val (.int f3), .val (.int f4), .unset, .unset, .unset, .unset, .unset, .unset, .unset, .unset, .unset, .unset, .unset]) rfl k) ?_
  show own_R _ _ _ _ (s₁.setTop (mkF m 72 #[.val (.int q1), .val (.int q2), .val (.int q3), .val (.int q4), .val (.int q5), .val (.int q6), .val (.int f0), .val (.int f1), .val (.int f2), .val (.int f3), .val (.int f4), .unset, .unset, .unset, .unset, .unset, .unset, .unset, .unset, .unset, .unset, .unset] []))
  obtain ⟨T92, h92, X92, e92, E92, A92, D92, -, st92⟩ := newO X0 hx hZ hown (hw _ (List.mem_of_getElem? (i := 0) rfl)) (hw _ (List.mem_of_getElem? (i := 1) rfl)) (hw _ (List.mem_of_getElem? (i := 2) rfl)) e0 (g := (mkF m 72 #[.val (.int q1), .val (.int q2), .val (.int q3), .val (.int q4), .val (.int q5), .val (.int q6), .val (.int f0), .val (.int f1), .val (.int f2), .val (.int f3), .val (.int f4), .unset, .unset, .unset, .unset, .unset, .unset, .unset, .unset, .unset, .unset, .unset] [])) rfl (hb hby at_72) (by decide) (by decide)
  obtain ⟨b92, g92⟩ : ∃ z, z = h0.size := ⟨_, rfl⟩
  rw [← g92] at A92 D92 st92
  refine own_go st92 ?_
  have g_b92 : n0 ≤ b92 := Nat.le_trans ZS (Nat.le_of_eq g92.symm)
  have sz_b92 : h0.size ≤ b92 := Nat.le_trans KP.1 (Nat.le_of_eq g92.symm)
  have ZS := Nat.le_trans ZS E92.1
  have KP := KP.ext E92
  have E_b92 := A92
  have F_leafNodes_b92 : Fld Z h92 b92 "com/example/clearlot/clearlot/search/PartTree" "leafNodes" "[I" .null := D92 (Or.inl (hw _ (List.mem_of_getElem? (i := 11) rfl))) (ty := (.array .int)) (by decide)
  have F_leafBounds_b92 : Fld Z h92 b92 "com/example/clearlot/clearlot/search/PartTree" "leafBounds" "[J" .null := D92 (Or.inl (hw _ (List.mem_of_getElem? (i := 14) rfl))) (ty := (.array .long)) (by decide)
  have F_leafStarts_b92 : Fld Z h92 b92 "com/example/clearlot/clearlot/search/PartTree" "leafStarts" "[Lcom/example/clearlot/clearlot/relaxation/Basis;" .null := D92 (Or.inl (hw _ (List.mem_of_getElem? (i := 18) rfl))) (ty := (.array (.object "com/example/clearlot/clearlot/relaxation/Basis"))) (by decide)
  have F_parents_b92 : Fld Z h92 b92 "com/example/clearlot/clearlot/search/PartTree" "parents" "[I" .null := D92 (Or.inl (hw _ (List.mem_of_getElem? (i := 20) rfl))) (ty := (.array .int)) (by decide)
  have F_branches_b92 : Fld Z h92 b92 "com/example/clearlot/clearlot/search/PartTree" "branches" "[I" .null := D92 (Or.inl (hw _ (List.mem_of_getElem? (i := 22) rfl))) (ty := (.array .int)) (by decide)
  have F_nodes_b92 : Fld Z h92 b92 "com/example/clearlot/clearlot/search/PartTree" "nodes" "I" (.int (0 : Int32)) := D92 (Or.inl (hw _ (List.mem_of_getElem? (i := 29) rfl))) (ty := .int) (by decide)
  show own_R _ _ _ _ (T92.setTop (mkF m 75 #[.val (.int q1), .val (.int q2), .val (.int q3), .val (.int q4), .val (.int q5), .val (.int q6), .val (.int f0), .val (.int f1), .val (.int f2), .val (.int f3), .val (.int f4), .unset, .unset, .unset, .unset, .unset, .unset, .unset, .unset, .unset, .unset, .unset] [(.ref b92)]))
  refine own_go (fun _ k => XS.dup X92.here hx rfl (hb hby at_75) rfl rfl k) ?_
  show own_R _ _ _ _ (T92.setTop (mkF m 76 #[.val (.int q1), .val (.int q2), .val (.int q3), .val (.int q4), .val (.int q5), .val (.int q6), .val (.int f0), .val (.int f1), .val (.int f2), .val (.int f3), .val (.int f4), .unset, .unset, .unset, .unset, .unset, .unset, .unset, .unset, .unset, .unset, .unset] [(.ref b92), (.ref b92)]))
  obtain ⟨_, _, ⟨T93, L93, k93, n93⟩, -, X93, ⟨Lc93, hQ93, l93, y93, z93⟩, st93⟩ := X92.specialBack hx (y := (⟨"com/example/clearlot/clearlot/search/PartTree", "<init>", "()V"⟩ : MethodName)) rfl hown (mvT hZ (hw _ (List.mem_of_getElem? (i := 3) rfl))) (mvT hZ (hw _ (List.mem_of_getElem? (i := 4) rfl))) (mvT hZ (hw _ (List.mem_of_getElem? (i := 5) rfl))) (by decide) (backOf (W := 1) (rm1 l Z a0 hw [] b92 (0 : Int32) .null .null .null .null .null h92 n0 ZS E_b92 F_leafNodes_b92 F_leafBounds_b92 F_leafStarts_b92 F_parents_b92 F_branches_b92 F_nodes_b92 g_b92) hZ (hw _ (List.mem_of_getElem? (i := 5) rfl)) (hw _ (List.mem_of_getElem? (i := 2) rfl)) (by decide) (by decide)) (g := (mkF m 76 #[.val (.int q1), .val (.int q2), .val (.int q3), .val (.int q4), .val (.int q5), .val (.int q6), .val (.int f0), .val (.int f1), .val (.int f2), .val (.int f3), .val (.int f4), .unset, .unset, .unset, .unset, .unset, .unset, .unset, .unset, .unset, .unset, .unset] [(.ref b92), (.ref b92)])) rfl (by rw [hml]; rfl) (Steps.refl _) (a := b92) (argsL := []) (rest := [(.ref b92)]) (lenOf pd_0 rfl) rfl (by show 2 * 0 + _ ≤ _; exact Nat.le_of_eq rfl) (hb hby at_76) (fun _ _ => ⟨rfl, e92, (by decide : 1 + 5 ≤ _), (by decide : 8 + 80 ≤ _)⟩)
  dsimp only [Pt.U, Pt.locs, Pt.cells, Pt.slots] at X93 l93 y93 z93 st93 hQ93
  subst l93 y93 z93
  obtain ⟨h93, e93'⟩ : ∃ z, z = T93.heap := ⟨_, rfl⟩
  rw [← e93'] at hQ93
  have e93 : T93.heap = h93 := e93'.symm
  obtain ⟨rfl, N93q, K93, pp1, c94, d94, pp2, pp3, hbc94, hbd94, ne_c94, kc94, Vc94', kd94, Vd94'⟩ := hQ93
  have NF := Fr.app NF N93q
  refine own_go (fun _ k => st93.trans k) ?_
  have ne_b92_c94 : b92 ≠ c94 := Nat.ne_of_lt (Nat.lt_of_lt_of_le E_b92.lt hbc94)
  have g_c94 : n0 ≤ c94 := Nat.le_trans ZS hbc94
  have sz_c94 : h0.size ≤ c94 := Nat.le_trans KP.1 hbc94
  have ne_b92_d94 : b92 ≠ d94 := Nat.ne_of_lt (Nat.lt_of_lt_of_le E_b92.lt hbd94)
  have g_d94 : n0 ≤ d94 := Nat.le_trans ZS hbd94
  have sz_d94 : h0.size ≤ d94 := Nat.le_trans KP.1 hbd94
  have E_b92 := E_b92.keep K93
  have ZS := Nat.le_trans ZS K93.1
  have KP := KP.trans K93 (allS (Or.inr sz_b92) all0)
  have F_nodes_b92 := pp1
  have F_parents_b92 := pp2
  have F_branches_b92 := pp3
  have V_c94 := Vc94'
  have V_d94 := Vd94'
  show own_R _ _ _ _ (T93.setTop (mkF m 79 #[.val (.int q1), .val (.int q2), .val (.int q3), .val (.int q4), .val (.int q5), .val (.int q6), .val (.int f0), .val (.int f1), .val (.int f2), .val (.int f3), .val (.int f4), .unset, .unset, .unset, .unset, .unset, .unset, .unset, .unset, .unset, .unset, .unset] [(.ref b92)]))
  refine own_go (fun _ k => XS.astore X93.here hx rfl (hb hby at_79) rfl rfl (l' := #[.val (.int q1), .val (.int q2), .val (.int q3), .val (.int q4), .val (.int q5), .val (.int q6), .val (.int f0), .val (.int f1), .val (.int f2), .val (.int f3), .val (.int f4), .val (.ref b92), .unset, .unset, .unset, .unset, .unset, .unset, .unset, .unset, .unset, .unset]) rfl k) ?_
  show own_R _ _ _ _ (T93.setTop (mkF m 81 #[.val (.int q1), .val (.int q2), .val (.int q3), .val (.int q4), .val (.int q5), .val (.int q6), .val (.int f0), .val (.int f1), .val (.int f2), .val (.int f3), .val (.int f4), .val (.ref b92), .unset, .unset, .unset, .unset, .unset, .unset, .unset, .unset, .unset, .unset] []))
  refine own_go (fun _ k => XS.aload X93.here hx rfl (hb hby at_81) rfl rfl k) ?_
  show own_R _ _ _ _ (T93.setTop (mkF m 83 #[.val (.int q1), .val (.int q2), .val (.int q3), .val (.int q4), .val (.int q5), .val (.int q6), .val (.int f0), .val (.int f1), .val (.int f2), .val (.int f3), .val (.int f4), .val (.ref b92), .unset, .unset, .unset, .unset, .unset, .unset, .unset, .unset, .unset, .unset] [(.ref b92)]))
  refine own_go (fun _ k => XS.iconst X93.here hx rfl (hb hby at_83) k) ?_
  show own_R _ _ _ _ (T93.setTop (mkF m 84 #[.val (.int q1), .val (.int q2), .val (.int q3), .val (.int q4), .val (.int q5), .val (.int q6), .val (.int f0), .val (.int f1), .val (.int f2), .val (.int f3), .val (.int f4), .val (.ref b92), .unset, .unset, .unset, .unset, .unset, .unset, .unset, .unset, .unset, .unset] [(.int (-1 : Int32)), (.ref b92)]))
  refine own_go (fun _ k => XS.iloadN X93.here hx rfl (hb hby at_84) rfl k) ?_
  show own_R _ _ _ _ (T93.setTop (mkF m 85 #[.val (.int q1), .val (.int q2), .val (.int q3), .val (.int q4), .val (.int q5), .val (.int q6), .val (.int f0), .val (.int f1), .val (.int f2), .val (.int f3), .val (.int f4), .val (.ref b92), .unset, .unset, .unset, .unset, .unset, .unset, .unset, .unset, .unset, .unset] [(.int q4), (.int (-1 : Int32)), (.ref b92)]))
  refine own_go (fun _ k => XS.iload X93.here hx rfl (hb hby at_85) rfl k) ?_
  show own_R _ _ _ _ (T93.setTop (mkF m 87 #[.val (.int q1), .val (.int q2), .val (.int q3), .val (.int q4), .val (.int q5), .val (.int q6), .val (.int f0), .val (.int f1), .val (.int f2), .val (.int f3), .val (.int f4), .val (.ref b92), .unset, .unset, .unset, .unset, .unset, .unset, .unset, .unset, .unset, .unset] [(.int f0), (.int q4), (.int (-1 : Int32)), (.ref b92)]))
  obtain ⟨cq94, kq94, q94a, q94b, q94c⟩ := isOf hZ e93 E_b92
  obtain ⟨_, _, ⟨T94, L94, k94, n94⟩, -, X94, ⟨Lc94, hQ94, l94, y94, z94⟩, st94⟩ := X93.virtualBack hx (y := (⟨"com/example/clearlot/clearlot/search/PartTree", "add", "(IIZ)I"⟩ : MethodName)) (z := (⟨"com/example/clearlot/clearlot/search/PartTree", "add", "(IIZ)I"⟩ : MethodName)) hown (mvT hZ (hw _ (List.mem_of_getElem? (i := 23) rfl))) (mvT hZ (hw _ (List.mem_of_getElem? (i := 24) rfl))) (notFace_of_selects (args := #[]) (mvT hZ (hw _ (List.mem_of_getElem? (i := 26) rfl)))) (mvT hZ (hw _ (List.mem_of_getElem? (i := 26) rfl))) (mvT hZ (hw _ (List.mem_of_getElem? (i := 25) rfl))) (by decide) (backOf (W := 0) (rm3 l Z a0 hw [] b92 (-1 : Int32) q4 f0 c94 d94 kc94 kd94 (0 : Int32) 0 [(.int (0 : Int32)), (.int (0 : Int32)), (.int (0 : Int32)), (.int (0 : Int32)), (.int (0 : Int32)), (.int (0 : Int32)), (.int (0 : Int32)), (.int (0 : Int32)), (.int (0 : Int32)), (.int (0 : Int32)), (.int (0 : Int32)), (.int (0 : Int32)), (.int (0 : Int32)), (.int (0 : Int32)), (.int (0 : Int32)), (.int (0 : Int32))] [(.int (0 : Int32)), (.int (0 : Int32)), (.int (0 : Int32)), (.int (0 : Int32)), (.int (0 : Int32)), (.int (0 : Int32)), (.int (0 : Int32)), (.int (0 : Int32)), (.int (0 : Int32)), (.int (0 : Int32)), (.int (0 : Int32)), (.int (0 : Int32)), (.int (0 : Int32)), (.int (0 : Int32)), (.int (0 : Int32)), (.int (0 : Int32))] h93 n0 ZS E_b92 F_parents_b92 F_branches_b92 F_nodes_b92 g_b92 V_c94 V_d94 g_c94 g_d94 ne_b92_c94 ne_b92_d94 ne_c94 ⟨by decide, by decide⟩ rfl (Nat.le_of_ble_eq_true rfl) (Nat.le_of_ble_eq_true rfl)) hZ (hw _ (List.mem_of_getElem? (i := 27) rfl)) (hw _ (List.mem_of_getElem? (i := 2) rfl)) (by decide) (by decide)) q94a q94c (g := (mkF m 87 #[.val (.int q1), .val (.int q2), .val (.int q3), .val (.int q4), .val (.int q5), .val (.int q6), .val (.int f0), .val (.int f1), .val (.int f2), .val (.int f3), .val (.int f4), .val (.ref b92), .unset, .unset, .unset, .unset, .unset, .unset, .unset, .unset, .unset, .unset] [(.int f0), (.int q4), (.int (-1 : Int32)), (.ref b92)])) rfl (by rw [hml]; rfl) (Steps.refl _) (argsL := [(.int (-1 : Int32)), (.int q4), (.int f0)]) (rest := []) (lenOf pd_1 rfl) rfl (by show 2 * 0 + _ ≤ _; exact Nat.le_of_eq rfl) (hb hby at_87) (fun _ _ => ⟨rfl, e93, (by decide : 6 + 0 ≤ _), (by decide : 88 + 0 ≤ _)⟩)
  dsimp only [Pt.U, Pt.locs, Pt.cells, Pt.slots] at X94 l94 y94 z94 st94 hQ94
  subst l94 y94 z94
  obtain ⟨h94, e94'⟩ : ∃ z, z = T94.heap := ⟨_, rfl⟩
  rw [← e94'] at hQ94
  have e94 : T94.heap = h94 := e94'.symm
  obtain ⟨rfl, N94q, K94, pp1, pp2, pp3, pp4, pp5⟩ := hQ94
  have NF := Fr.app NF N94q
  refine own_go (fun _ k => st94.trans k) ?_
  have E_b92 := E_b92.keep K94
  have ZS := Nat.le_trans ZS K94.1
  have KP := KP.trans K94 (allS (Or.inr sz_c94) (allS (Or.inr sz_d94) (allS (Or.inr sz_b92) all0)))
  have F_nodes_b92 := pp1
  have F_parents_b92 := pp2
  have F_branches_b92 := pp3
  have V_c94 : Arv Z h94 c94 kc94 .int (16 : Int32) [(.int (-1 : Int32)), (.int (0 : Int32)), (.int (0 : Int32)), (.int (0 : Int32)), (.int (0 : Int32)), (.int (0 : Int32)), (.int (0 : Int32)), (.int (0 : Int32)), (.int (0 : Int32)), (.int (0 : Int32)), (.int (0 : Int32)), (.int (0 : Int32)), (.int (0 : Int32)), (.int (0 : Int32)), (.int (0 : Int32)), (.int (0 : Int32))] (.int (0 : Int32)) := pp4
  have V_d94 : Arv Z h94 d94 kd94 .int (16 : Int32) [(.int (own_code q4 f0)), (.int (0 : Int32)), (.int (0 : Int32)), (.int (0 : Int32)), (.int (0 : Int32)), (.int (0 : Int32)), (.int (0 : Int32)), (.int (0 : Int32)), (.int (0 : Int32)), (.int (0 : Int32)), (.int (0 : Int32)), (.int (0 : Int32)), (.int (0 : Int32)), (.int (0 : Int32)), (.int (0 : Int32)), (.int (0 : Int32))] (.int (0 : Int32)) := pp5
  show own_R _ _ _ _ (T94.setTop (mkF m 90 #[.val (.int q1), .val (.int q2), .val (.int q3), .val (.int q4), .val (.int q5), .val (.int q6), .val (.int f0), .val (.int f1), .val (.int f2), .val (.int f3), .val (.int f4), .val (.ref b92), .unset, .unset, .unset, .unset, .unset, .unset, .unset, .unset, .unset, .unset] [(.int (0 : Int32))]))
  refine own_go (fun _ k => XS.istore X94.here hx rfl (hb hby at_90) rfl (l' := #[.val (.int q1), .val (.int q2), .val (.int q3), .val (.int q4), .val (.int q5), .val (.int q6), .val (.int f0), .val (.int f1), .val (.int f2), .val (.int f3), .val (.int f4), .val (.ref b92), .val (.int (0 : Int32)), .unset, .unset, .unset, .unset, .unset, .unset, .unset, .unset, .unset]) rfl k) ?_
  show own_R _ _ _ _ (T94.setTop (mkF m 92 #[.val (.int q1), .val (.int q2), .val (.int q3), .val (.int q4), .val (.int q5), .val (.int q6), .val (.int f0), .val (.int f1), .val (.int f2), .val (.int f3), .val (.int f4), .val (.ref b92), .val (.int (0 : Int32)), .unset, .unset, .unset, .unset, .unset, .unset, .unset, .unset, .unset] []))
  refine own_go (fun _ k => XS.aload X94.here hx rfl (hb hby at_92) rfl rfl k) ?_
  show own_R _ _ _ _ (T94.setTop (mkF m 94 #[.val (.int q1), .val (.int q2), .val (.int q3), .val (.int q4), .val (.int q5), .val (.int q6), .val (.int f0), .val (.int f1), .val (.int f2), .val (.int f3), .val (.int f4), .val (.ref b92), .val (.int (0 : Int32)), .unset, .unset, .unset, .unset, .unset, .unset, .unset, .unset, .unset] [(.ref b92)]))
  refine own_go (fun _ k => XS.iload X94.here hx rfl (hb hby at_94) rfl k) ?_
  show own_R _ _ _ _ (T94.setTop (mkF m 96 #[.val (.int q1), .val (.int q2), .val (.int q3), .val (.int q4), .val (.int q5), .val (.int q6), .val (.int f0), .val (.int f1), .val (.int f2), .val (.int f3), .val (.int f4), .val (.ref b92), .val (.int (0 : Int32)), .unset, .unset, .unset, .unset, .unset, .unset, .unset, .unset, .unset] [(.int (0 : Int32)), (.ref b92)]))
  refine own_go (fun _ k => XS.iloadN X94.here hx rfl (hb hby at_96) rfl k) ?_
  show own_R _ _ _ _ (T94.setTop (mkF m 97 #[.val (.int q1), .val (.int q2), .val (.int q3), .val (.int q4), .val (.int q5), .val (.int q6), .val (.int f0), .val (.int f1), .val (.int f2), .val (.int f3), .val (.int f4), .val (.ref b92), .val (.int (0 : Int32)), .unset, .unset, .unset, .unset, .unset, .unset, .unset, .unset, .unset] [(.int q1), (.int (0 : Int32)), (.ref b92)]))
  refine own_go (fun _ k => XS.iload X94.here hx rfl (hb hby at_97) rfl k) ?_
  show own_R _ _ _ _ (T94.setTop (mkF m 99 #[.val (.int q1), .val (.int q2), .val (.int q3), .val (.int q4), .val (.int q5), .val (.int q6), .val (.int f0), .val (.int f1), .val (.int f2), .val (.int f3), .val (.int f4), .val (.ref b92), .val (.int (0 : Int32)), .unset, .unset, .unset, .unset, .unset, .unset, .unset, .unset, .unset] [(.int f1), (.int q1), (.int (0 : Int32)), (.ref b92)]))
  obtain ⟨cq95, kq95, q95a, q95b, q95c⟩ := isOf hZ e94 E_b92
  obtain ⟨_, _, ⟨T95, L95, k95, n95⟩, -, X95, ⟨Lc95, hQ95, l95, y95, z95⟩, st95⟩ := X94.virtualBack hx (y := (⟨"com/example/clearlot/clearlot/search/PartTree", "add", "(IIZ)I"⟩ : MethodName)) (z := (⟨"com/example/clearlot/clearlot/search/PartTree", "add", "(IIZ)I"⟩ : MethodName)) hown (mvT hZ (hw _ (List.mem_of_getElem? (i := 23) rfl))) (mvT hZ (hw _ (List.mem_of_getElem? (i := 24) rfl))) (notFace_of_selects (args := #[]) (mvT hZ (hw _ (List.mem_of_getElem? (i := 26) rfl)))) (mvT hZ (hw _ (List.mem_of_getElem? (i := 26) rfl))) (mvT hZ (hw _ (List.mem_of_getElem? (i := 25) rfl))) (by decide) (backOf (W := 0) (rm3 l Z a0 hw [] b92 (0 : Int32) q1 f1 c94 d94 kc94 kd94 (1 : Int32) 1 [(.int (-1 : Int32)), (.int (0 : Int32)), (.int (0 : Int32)), (.int (0 : Int32)), (.int (0 : Int32)), (.int (0 : Int32)), (.int (0 : Int32)), (.int (0 : Int32)), (.int (0 : Int32)), (.int (0 : Int32)), (.int (0 : Int32)), (.int (0 : Int32)), (.int (0 : Int32)), (.int (0 : Int32)), (.int (0 : Int32)), (.int (0 : Int32))] [(.int (own_code q4 f0)), (.int (0 : Int32)), (.int (0 : Int32)), (.int (0 : Int32)), (.int (0 : Int32)), (.int (0 : Int32)), (.int (0 : Int32)), (.int (0 : Int32)), (.int (0 : Int32)), (.int (0 : Int32)), (.int (0 : Int32)), (.int (0 : Int32)), (.int (0 : Int32)), (.int (0 : Int32)), (.int (0 : Int32)), (.int (0 : Int32))] h94 n0 ZS E_b92 F_parents_b92 F_branches_b92 F_nodes_b92 g_b92 V_c94 V_d94 g_c94 g_d94 ne_b92_c94 ne_b92_d94 ne_c94 ⟨by decide, by decide⟩ rfl (Nat.le_of_ble_eq_true rfl) (Nat.le_of_ble_eq_true rfl)) hZ (hw _ (List.mem_of_getElem? (i := 27) rfl)) (hw _ (List.mem_of_getElem? (i := 2) rfl)) (by decide) (by decide)) q95a q95c (g := (mkF m 99 #[.val (.int q1), .val (.int q2), .val (.int q3), .val (.int q4), .val (.int q5), .val (.int q6), .val (.int f0), .val (.int f1), .val (.int f2), .val (.int f3), .val (.int f4), .val (.ref b92), .val (.int (0 : Int32)), .unset, .unset, .unset, .unset, .unset, .unset, .unset, .unset, .unset] [(.int f1), (.int q1), (.int (0 : Int32)), (.ref b92)])) rfl (by rw [hml]; rfl) (Steps.refl _) (argsL := [(.int (0 : Int32)), (.int q1), (.int f1)]) (rest := []) (lenOf pd_1 rfl) rfl (by show 2 * 0 + _ ≤ _; exact Nat.le_of_eq rfl) (hb hby at_99) (fun _ _ => ⟨rfl, e94, (by decide : 6 + 0 ≤ _), (by decide : 88 + 0 ≤ _)⟩)
  dsimp only [Pt.U, Pt.locs, Pt.cells, Pt.slots] at X95 l95 y95 z95 st95 hQ95
  subst l95 y95 z95
  obtain ⟨h95, e95'⟩ : ∃ z, z = T95.heap := ⟨_, rfl⟩
  rw [← e95'] at hQ95
  have e95 : T95.heap = h95 := e95'.symm
  obtain ⟨rfl, N95q, K95, pp1, pp2, pp3, pp4, pp5⟩ := hQ95
  have NF := Fr.app NF N95q
  refine own_go (fun _ k => st95.trans k) ?_
  have E_b92 := E_b92.keep K95
  have ZS := Nat.le_trans ZS K95.1
  have KP := KP.trans K95 (allS (Or.inr sz_c94) (allS (Or.inr sz_d94) (allS (Or.inr sz_b92) all0)))
  have F_nodes_b92 := pp1
  have F_parents_b92 := pp2
  have F_branches_b92 := pp3
  have V_c94 : Arv Z h95 c94 kc94 .int (16 : Int32) [(.int (-1 : Int32)), (.int (0 : Int32)), (.int (0 : Int32)), (.int (0 : Int32)), (.int (0 : Int32)), (.int (0 : Int32)), (.int (0 : Int32)), (.int (0 : Int32)), (.int (0 : Int32)), (.int (0 : Int32)), (.int (0 : Int32)), (.int (0 : Int32)), (.int (0 : Int32)), (.int (0 : Int32)), (.int (0 : Int32)), (.int (0 : Int32))] (.int (0 : Int32)) := pp4
  have V_d94 : Arv Z h95 d94 kd94 .int (16 : Int32) [(.int (own_code q4 f0)), (.int (own_code q1 f1)), (.int (0 : Int32)), (.int (0 : Int32)), (.int (0 : Int32)), (.int (0 : Int32)), (.int (0 : Int32)), (.int (0 : Int32)), (.int (0 : Int32)), (.int (0 : Int32)), (.int (0 : Int32)), (.int (0 : Int32)), (.int (0 : Int32)), (.int (0 : Int32)), (.int (0 : Int32)), (.int (0 : Int32))] (.int (0 : Int32)) := pp5
  show own_R _ _ _ _ (T95.setTop (mkF m 102 #[.val (.int q1), .val (.int q2), .val (.int q3), .val (.int q4), .val (.int q5), .val (.int q6), .val (.int f0), .val (.int f1), .val (.int f2), .val (.int f3), .val (.int f4), .val (.ref b92), .val (.int (0 : Int32)), .unset, .unset, .unset, .unset, .unset, .unset, .unset, .unset, .unset] [(.int (1 : Int32))]))
  refine own_go (fun _ k => XS.istore X95.here hx rfl (hb hby at_102) rfl (l' := #[.val (.int q1), .val (.int q2), .val (.int q3), .val (.int q4), .val (.int q5), .val (.int q6), .val (.int f0), .val (.int f1), .val (.int f2), .val (.int f3), .val (.int f4), .val (.ref b92), .val (.int (0 : Int32)), .val (.int (1 : Int32)), .unset, .unset, .unset, .unset, .unset, .unset, .unset, .unset]) rfl k) ?_
  show own_R _ _ _ _ (T95.setTop (mkF m 104 #[.val (.int q1), .val (.int q2), .val (.int q3), .val (.int q4), .val (.int q5), .val (.int q6), .val (.int f0), .val (.int f1), .val (.int f2), .val (.int f3), .val (.int f4), .val (.ref b92), .val (.int (0 : Int32)), .val (.int (1 : Int32)), .unset, .unset, .unset, .unset, .unset, .unset, .unset, .unset] []))
  refine own_go (fun _ k => XS.aload X95.here hx rfl (hb hby at_104) rfl rfl k) ?_
  show own_R _ _ _ _ (T95.setTop (mkF m 106 #[.val (.int q1), .val (.int q2), .val (.int q3), .val (.int q4), .val (.int q5), .val (.int q6), .val (.int f0), .val (.int f1), .val (.int f2), .val (.int f3), .val (.int f4), .val (.ref b92), .val (.int (0 : Int32)), .val (.int (1 : Int32)), .unset, .unset, .unset, .unset, .unset, .unset, .unset, .unset] [(.ref b92)]))
  refine own_go (fun _ k => XS.iload X95.here hx rfl (hb hby at_106) rfl k) ?_
  show own_R _ _ _ _ (T95.setTop (mkF m 108 #[.val (.int q1), .val (.int q2), .val (.int q3), .val (.int q4), .val (.int q5), .val (.int q6), .val (.int f0), .val (.int f1), .val (.int f2), .val (.int f3), .val (.int f4), .val (.ref b92), .val (.int (0 : Int32)), .val (.int (1 : Int32)), .unset, .unset, .unset, .unset, .unset, .unset, .unset, .unset] [(.int (1 : Int32)), (.ref b92)]))
  refine own_go (fun _ k => XS.iloadN X95.here hx rfl (hb hby at_108) rfl k) ?_
  show own_R _ _ _ _ (T95.setTop (mkF m 109 #[.val (.int q1), .val (.int q2), .val (.int q3), .val (.int q4), .val (.int q5), .val (.int q6), .val (.int f0), .val (.int f1), .val (.int f2), .val (.int f3), .val (.int f4), .val (.ref b92), .val (.int (0 : Int32)), .val (.int (1 : Int32)), .unset, .unset, .unset, .unset, .unset, .unset, .unset, .unset] [(.int q2), (.int (1 : Int32)), (.ref b92)]))
  refine own_go (fun _ k => XS.iload X95.here hx rfl (hb hby at_109) rfl k) ?_
  show own_R _ _ _ _ (T95.setTop (mkF m 111 #[.val (.int q1), .val (.int q2), .val (.int q3), .val (.int q4), .val (.int q5), .val (.int q6), .val (.int f0), .val (.int f1), .val (.int f2), .val (.int f3), .val (.int f4), .val (.ref b92), .val (.int (0 : Int32)), .val (.int (1 : Int32)), .unset, .unset, .unset, .unset, .unset, .unset, .unset, .unset] [(.int f2), (.int q2), (.int (1 : Int32)), (.ref b92)]))
  obtain ⟨cq96, kq96, q96a, q96b, q96c⟩ := isOf hZ e95 E_b92
  obtain ⟨_, _, ⟨T96, L96, k96, n96⟩, -, X96, ⟨Lc96, hQ96, l96, y96, z96⟩, st96⟩ := X95.virtualBack hx (y := (⟨"com/example/clearlot/clearlot/search/PartTree", "add", "(IIZ)I"⟩ : MethodName)) (z := (⟨"com/example/clearlot/clearlot/search/PartTree", "add", "(IIZ)I"⟩ : MethodName)) hown (mvT hZ (hw _ (List.mem_of_getElem? (i := 23) rfl))) (mvT hZ (hw _ (List.mem_of_getElem? (i := 24) rfl))) (notFace_of_selects (args := #[]) (mvT hZ (hw _ (List.mem_of_getElem? (i := 26) rfl)))) (mvT hZ (hw _ (List.mem_of_getElem? (i := 26) rfl))) (mvT hZ (hw _ (List.mem_of_getElem? (i := 25) rfl))) (by decide) (backOf (W := 0) (rm3 l Z a0 hw [] b92 (1 : Int32) q2 f2 c94 d94 kc94 kd94 (2 : Int32) 2 [(.int (-1 : Int32)), (.int (0 : Int32)), (.int (0 : Int32)), (.int (0 : Int32)), (.int (0 : Int32)), (.int (0 : Int32)), (.int (0 : Int32)), (.int (0 : Int32)), (.int (0 : Int32)), (.int (0 : Int32)), (.int (0 : Int32)), (.int (0 : Int32)), (.int (0 : Int32)), (.int (0 : Int32)), (.int (0 : Int32)), (.int (0 : Int32))] [(.int (own_code q4 f0)), (.int (own_code q1 f1)), (.int (0 : Int32)), (.int (0 : Int32)), (.int (0 : Int32)), (.int (0 : Int32)), (.int (0 : Int32)), (.int (0 : Int32)), (.int (0 : Int32)), (.int (0 : Int32)), (.int (0 : Int32)), (.int (0 : Int32)), (.int (0 : Int32)), (.int (0 : Int32)), (.int (0 : Int32)), (.int (0 : Int32))] h95 n0 ZS E_b92 F_parents_b92 F_branches_b92 F_nodes_b92 g_b92 V_c94 V_d94 g_c94 g_d94 ne_b92_c94 ne_b92_d94 ne_c94 ⟨by decide, by decide⟩ rfl (Nat.le_of_ble_eq_true rfl) (Nat.le_of_ble_eq_true rfl)) hZ (hw _ (List.mem_of_getElem? (i := 27) rfl)) (hw _ (List.mem_of_getElem? (i := 2) rfl)) (by decide) (by decide)) q96a q96c (g := (mkF m 111 #[.val (.int q1), .val (.int q2), .val (.int q3), .val (.int q4), .val (.int q5), .val (.int q6), .val (.int f0), .val (.int f1), .val (.int f2), .val (.int f3), .val (.int f4), .val (.ref b92), .val (.int (0 : Int32)), .val (.int (1 : Int32)), .unset, .unset, .unset, .unset, .unset, .unset, .unset, .unset] [(.int f2), (.int q2), (.int (1 : Int32)), (.ref b92)])) rfl (by rw [hml]; rfl) (Steps.refl _) (argsL := [(.int (1 : Int32)), (.int q2), (.int f2)]) (rest := []) (lenOf pd_1 rfl) rfl (by show 2 * 0 + _ ≤ _; exact Nat.le_of_eq rfl) (hb hby at_111) (fun _ _ => ⟨rfl, e95, (by decide : 6 + 0 ≤ _), (by decide : 88 + 0 ≤ _)⟩)
  dsimp only [Pt.U, Pt.locs, Pt.cells, Pt.slots] at X96 l96 y96 z96 st96 hQ96
  subst l96 y96 z96
  obtain ⟨h96, e96'⟩ : ∃ z, z = T96.heap := ⟨_, rfl⟩
  rw [← e96'] at hQ96
  have e96 : T96.heap = h96 := e96'.symm
  obtain ⟨rfl, N96q, K96, pp1, pp2, pp3, pp4, pp5⟩ := hQ96
  have NF := Fr.app NF N96q
  refine own_go (fun _ k => st96.trans k) ?_
  have E_b92 := E_b92.keep K96
  have ZS := Nat.le_trans ZS K96.1
  have KP := KP.trans K96 (allS (Or.inr sz_c94) (allS (Or.inr sz_d94) (allS (Or.inr sz_b92) all0)))
  have F_nodes_b92 := pp1
  have F_parents_b92 := pp2
  have F_branches_b92 := pp3
  have V_c94 : Arv Z h96 c94 kc94 .int (16 : Int32) [(.int (-1 : Int32)), (.int (0 : Int32)), (.int (1 : Int32)), (.int (0 : Int32)), (.int (0 : Int32)), (.int (0 : Int32)), (.int (0 : Int32)), (.int (0 : Int32)), (.int (0 : Int32)), (.int (0 : Int32)), (.int (0 : Int32)), (.int (0 : Int32)), (.int (0 : Int32)), (.int (0 : Int32)), (.int (0 : Int32)), (.int (0 : Int32))] (.int (0 : Int32)) := pp4
  have V_d94 : Arv Z h96 d94 kd94 .int (16 : Int32) [(.int (own_code q4 f0)), (.int (own_code q1 f1)), (.int (own_code q2 f2)), (.int (0 : Int32)), (.int (0 : Int32)), (.int (0 : Int32)), (.int (0 : Int32)), (.int (0 : Int32)), (.int (0 : Int32)), (.int (0 : Int32)), (.int (0 : Int32)), (.int (0 : Int32)), (.int (0 : Int32)), (.int (0 : Int32)), (.int (0 : Int32)), (.int (0 : Int32))] (.int (0 : Int32)) := pp5
  show own_R _ _ _ _ (T96.setTop (mkF m 114 #[.val (.int q1), .val (.int q2), .val (.int q3), .val (.int q4), .val (.int q5), .val (.int q6), .val (.int f0), .val (.int f1), .val (.int f2), .val (.int f3), .val (.int f4), .val (.ref b92), .val (.int (0 : Int32)), .val (.int (1 : Int32)), .unset, .unset, .unset, .unset, .unset, .unset, .unset, .unset] [(.int (2 : Int32))]))
  refine own_go (fun _ k => XS.istore X96.here hx rfl (hb hby at_114) rfl (l' := #[.val (.int q1), .val (.int q2), .val (.int q3), .val (.int q4), .val (.int q5), .val (.int q6), .val (.int f0), .val (.int f1), .val (.int f2), .val (.int f3), .val (.int f4), .val (.ref b92), .val (.int (0 : Int32)), .val (.int (1 : Int32)), .val (.int (2 : Int32)), .unset, .unset, .unset, .unset, .unset, .unset, .unset]) rfl k) ?_
  show own_R _ _ _ _ (T96.setTop (mkF m 116 #[.val (.int q1), .val (.int q2), .val (.int q3), .val (.int q4), .val (.int q5), .val (.int q6), .val (.int f0), .val (.int f1), .val (.int f2), .val (.int f3), .val (.int f4), .val (.ref b92), .val (.int (0 : Int32)), .val (.int (1 : Int32)), .val (.int (2 : Int32)), .unset, .unset, .unset, .unset, .unset, .unset, .unset] []))
  refine own_go (fun _ k => XS.aload X96.here hx rfl (hb hby at_116) rfl rfl k) ?_
  show own_R _ _ _ _ (T96.setTop (mkF m 118 #[.val (.int q1), .val (.int q2), .val (.int q3), .val (.int q4), .val (.int q5), .val (.int q6), .val (.int f0), .val (.int f1), .val (.int f2), .val (.int f3), .val (.int f4), .val (.ref b92), .val (.int (0 : Int32)), .val (.int (1 : Int32)), .val (.int (2 : Int32)), .unset, .unset, .unset, .unset, .unset, .unset, .unset] [(.ref b92)]))
  refine own_go (fun _ k => XS.iload X96.here hx rfl (hb hby at_118) rfl k) ?_
  show own_R _ _ _ _ (T96.setTop (mkF m 120 #[.val (.int q1), .val (.int q2), .val (.int q3), .val (.int q4), .val (.int q5), .val (.int q6), .val (.int f0), .val (.int f1), .val (.int f2), .val (.int f3), .val (.int f4), .val (.ref b92), .val (.int (0 : Int32)), .val (.int (1 : Int32)), .val (.int (2 : Int32)), .unset, .unset, .unset, .unset, .unset, .unset, .unset] [(.int (0 : Int32)), (.ref b92)]))
  refine own_go (fun _ k => XS.iloadN X96.here hx rfl (hb hby at_120) rfl k) ?_
  show own_R _ _ _ _ (T96.setTop (mkF m 121 #[.val (.int q1), .val (.int q2), .val (.int q3), .val (.int q4), .val (.int q5), .val (.int q6), .val (.int f0), .val (.int f1), .val (.int f2), .val (.int f3), .val (.int f4), .val (.ref b92), .val (.int (0 : Int32)), .val (.int (1 : Int32)), .val (.int (2 : Int32)), .unset, .unset, .unset, .unset, .unset, .unset, .unset] [(.int q3), (.int (0 : Int32)), (.ref b92)]))
  refine own_go (fun _ k => XS.iload X96.here hx rfl (hb hby at_121) rfl k) ?_
  show own_R _ _ _ _ (T96.setTop (mkF m 123 #[.val (.int q1), .val (.int q2), .val (.int q3), .val (.int q4), .val (.int q5), .val (.int q6), .val (.int f0), .val (.int f1), .val (.int f2), .val (.int f3), .val (.int f4), .val (.ref b92), .val (.int (0 : Int32)), .val (.int (1 : Int32)), .val (.int (2 : Int32)), .unset, .unset, .unset, .unset, .unset, .unset, .unset] [(.int f3), (.int q3), (.int (0 : Int32)), (.ref b92)]))
  obtain ⟨cq97, kq97, q97a, q97b, q97c⟩ := isOf hZ e96 E_b92
  obtain ⟨_, _, ⟨T97, L97, k97, n97⟩, -, X97, ⟨Lc97, hQ97, l97, y97, z97⟩, st97⟩ := X96.virtualBack hx (y := (⟨"com/example/clearlot/clearlot/search/PartTree", "add", "(IIZ)I"⟩ : MethodName)) (z := (⟨"com/example/clearlot/clearlot/search/PartTree", "add", "(IIZ)I"⟩ : MethodName)) hown (mvT hZ (hw _ (List.mem_of_getElem? (i := 23) rfl))) (mvT hZ (hw _ (List.mem_of_getElem? (i := 24) rfl))) (notFace_of_selects (args := #[]) (mvT hZ (hw _ (List.mem_of_getElem? (i := 26) rfl)))) (mvT hZ (hw _ (List.mem_of_getElem? (i := 26) rfl))) (mvT hZ (hw _ (List.mem_of_getElem? (i := 25) rfl))) (by decide) (backOf (W := 0) (rm3 l Z a0 hw [] b92 (0 : Int32) q3 f3 c94 d94 kc94 kd94 (3 : Int32) 3 [(.int (-1 : Int32)), (.int (0 : Int32)), (.int (1 : Int32)), (.int (0 : Int32)), (.int (0 : Int32)), (.int (0 : Int32)), (.int (0 : Int32)), (.int (0 : Int32)), (.int (0 : Int32)), (.int (0 : Int32)), (.int (0 : Int32)), (.int (0 : Int32)), (.int (0 : Int32)), (.int (0 : Int32)), (.int (0 : Int32)), (.int (0 : Int32))] [(.int (own_code q4 f0)), (.int (own_code q1 f1)), (.int (own_code q2 f2)), (.int (0 : Int32)), (.int (0 : Int32)), (.int (0 : Int32)), (.int (0 : Int32)), (.int (0 : Int32)), (.int (0 : Int32)), (.int (0 : Int32)), (.int (0 : Int32)), (.int (0 : Int32)), (.int (0 : Int32)), (.int (0 : Int32)), (.int (0 : Int32)), (.int (0 : Int32))] h96 n0 ZS E_b92 F_parents_b92 F_branches_b92 F_nodes_b92 g_b92 V_c94 V_d94 g_c94 g_d94 ne_b92_c94 ne_b92_d94 ne_c94 ⟨by decide, by decide⟩ rfl (Nat.le_of_ble_eq_true rfl) (Nat.le_of_ble_eq_true rfl)) hZ (hw _ (List.mem_of_getElem? (i := 27) rfl)) (hw _ (List.mem_of_getElem? (i := 2) rfl)) (by decide) (by decide)) q97a q97c (g := (mkF m 123 #[.val (.int q1), .val (.int q2), .val (.int q3), .val (.int q4), .val (.int q5), .val (.int q6), .val (.int f0), .val (.int f1), .val (.int f2), .val (.int f3), .val (.int f4), .val (.ref b92), .val (.int (0 : Int32)), .val (.int (1 : Int32)), .val (.int (2 : Int32)), .unset, .unset, .unset, .unset, .unset, .unset, .unset] [(.int f3), (.int q3), (.int (0 : Int32)), (.ref b92)])) rfl (by rw [hml]; rfl) (Steps.refl _) (argsL := [(.int (0 : Int32)), (.int q3), (.int f3)]) (rest := []) (lenOf pd_1 rfl) rfl (by show 2 * 0 + _ ≤ _; exact Nat.le_of_eq rfl) (hb hby at_123) (fun _ _ => ⟨rfl, e96, (by decide : 6 + 0 ≤ _), (by decide : 88 + 0 ≤ _)⟩)
  dsimp only [Pt.U, Pt.locs, Pt.cells, Pt.slots] at X97 l97 y97 z97 st97 hQ97
  subst l97 y97 z97
  obtain ⟨h97, e97'⟩ : ∃ z, z = T97.heap := ⟨_, rfl⟩
  rw [← e97'] at hQ97
  have e97 : T97.heap = h97 := e97'.symm
  obtain ⟨rfl, N97q, K97, pp1, pp2, pp3, pp4, pp5⟩ := hQ97
  have NF := Fr.app NF N97q
  refine own_go (fun _ k => st97.trans k) ?_
  have E_b92 := E_b92.keep K97
  have ZS := Nat.le_trans ZS K97.1
  have KP := KP.trans K97 (allS (Or.inr sz_c94) (allS (Or.inr sz_d94) (allS (Or.inr sz_b92) all0)))
  have F_nodes_b92 := pp1
  have F_parents_b92 := pp2
  have F_branches_b92 := pp3
  have V_c94 : Arv Z h97 c94 kc94 .int (16 : Int32) [(.int (-1 : Int32)), (.int (0 : Int32)), (.int (1 : Int32)), (.int (0 : Int32)), (.int (0 : Int32)), (.int (0 : Int32)), (.int (0 : Int32)), (.int (0 : Int32)), (.int (0 : Int32)), (.int (0 : Int32)), (.int (0 : Int32)), (.int (0 : Int32)), (.int (0 : Int32)), (.int (0 : Int32)), (.int (0 : Int32)), (.int (0 : Int32))] (.int (0 : Int32)) := pp4
  have V_d94 : Arv Z h97 d94 kd94 .int (16 : Int32) [(.int (own_code q4 f0)), (.int (own_code q1 f1)), (.int (own_code q2 f2)), (.int (own_code q3 f3)), (.int (0 : Int32)), (.int (0 : Int32)), (.int (0 : Int32)), (.int (0 : Int32)), (.int (0 : Int32)), (.int (0 : Int32)), (.int (0 : Int32)), (.int (0 : Int32)), (.int (0 : Int32)), (.int (0 : Int32)), (.int (0 : Int32)), (.int (0 : Int32))] (.int (0 : Int32)) := pp5
  show own_R _ _ _ _ (T97.setTop (mkF m 126 #[.val (.int q1), .val (.int q2), .val (.int q3), .val (.int q4), .val (.int q5), .val (.int q6), .val (.int f0), .val (.int f1), .val (.int f2), .val (.int f3), .val (.int f4), .val (.ref b92), .val (.int (0 : Int32)), .val (.int (1 : Int32)), .val (.int (2 : Int32)), .unset, .unset, .unset, .unset, .unset, .unset, .unset] [(.int (3 : Int32))]))
  refine own_go (fun _ k => XS.istore X97.here hx rfl (hb hby at_126) rfl (l' := #[.val (.int q1), .val (.int q2), .val (.int q3), .val (.int q4), .val (.int q5), .val (.int q6), .val (.int f0), .val (.int f1), .val (.int f2), .val (.int f3), .val (.int f4), .val (.ref b92), .val (.int (0 : Int32)), .val (.int (1 : Int32)), .val (.int (2 : Int32)), .val (.int (3 : Int32)), .unset, .unset, .unset, .unset, .unset, .unset]) rfl k) ?_
  show own_R _ _ _ _ (T97.setTop (mkF m 128 #[.val (.int q1), .val (.int q2), .val (.int q3), .val (.int q4), .val (.int q5), .val (.int q6), .val (.int f0), .val (.int f1), .val (.int f2), .val (.int f3), .val (.int f4), .val (.ref b92), .val (.int (0 : Int32)), .val (.int (1 : Int32)), .val (.int (2 : Int32)), .val (.int (3 : Int32)), .unset, .unset, .unset, .unset, .unset, .unset] []))
  refine own_go (fun _ k => XS.aload X97.here hx rfl (hb hby at_128) rfl rfl k) ?_
  show own_R _ _ _ _ (T97.setTop (mkF m 130 #[.val (.int q1), .val (.int q2), .val (.int q3), .val (.int q4), .val (.int q5), .val (.int q6), .val (.int f0), .val (.int f1), .val (.int f2), .val (.int f3), .val (.int f4), .val (.ref b92), .val (.int (0 : Int32)), .val (.int (1 : Int32)), .val (.int (2 : Int32)), .val (.int (3 : Int32)), .unset, .unset, .unset, .unset, .unset, .unset] [(.ref b92)]))
  refine own_go (fun _ k => XS.iload X97.here hx rfl (hb hby at_130) rfl k) ?_
  show own_R _ _ _ _ (T97.setTop (mkF m 132 #[.val (.int q1), .val (.int q2), .val (.int q3), .val (.int q4), .val (.int q5), .val (.int q6), .val (.int f0), .val (.int f1), .val (.int f2), .val (.int f3), .val (.int f4), .val (.ref b92), .val (.int (0 : Int32)), .val (.int (1 : Int32)), .val (.int (2 : Int32)), .val (.int (3 : Int32)), .unset, .unset, .unset, .unset, .unset, .unset] [(.int (2 : Int32)), (.ref b92)]))
  refine own_go (fun _ k => XS.iloadN X97.here hx rfl (hb hby at_132) rfl k) ?_
  show own_R _ _ _ _ (T97.setTop (mkF m 133 #[.val (.int q1), .val (.int q2), .val (.int q3), .val (.int q4), .val (.int q5), .val (.int q6), .val (.int f0), .val (.int f1), .val (.int f2), .val (.int f3), .val (.int f4), .val (.ref b92), .val (.int (0 : Int32)), .val (.int (1 : Int32)), .val (.int (2 : Int32)), .val (.int (3 : Int32)), .unset, .unset, .unset, .unset, .unset, .unset] [(.int q4), (.int (2 : Int32)), (.ref b92)]))
  refine own_go (fun _ k => XS.iload X97.here hx rfl (hb hby at_133) rfl k) ?_
  show own_R _ _ _ _ (T97.setTop (mkF m 135 #[.val (.int q1), .val (.int q2), .val (.int q3), .val (.int q4), .val (.int q5), .val (.int q6), .val (.int f0), .val (.int f1), .val (.int f2), .val (.int f3), .val (.int f4), .val (.ref b92), .val (.int (0 : Int32)), .val (.int (1 : Int32)), .val (.int (2 : Int32)), .val (.int (3 : Int32)), .unset, .unset, .unset, .unset, .unset, .unset] [(.int f4), (.int q4), (.int (2 : Int32)), (.ref b92)]))
  obtain ⟨cq98, kq98, q98a, q98b, q98c⟩ := isOf hZ e97 E_b92
  obtain ⟨_, _, ⟨T98, L98, k98, n98⟩, -, X98, ⟨Lc98, hQ98, l98, y98, z98⟩, st98⟩ := X97.virtualBack hx (y := (⟨"com/example/clearlot/clearlot/search/PartTree", "add", "(IIZ)I"⟩ : MethodName)) (z := (⟨"com/example/clearlot/clearlot/search/PartTree", "add", "(IIZ)I"⟩ : MethodName)) hown (mvT hZ (hw _ (List.mem_of_getElem? (i := 23) rfl))) (mvT hZ (hw _ (List.mem_of_getElem? (i := 24) rfl))) (notFace_of_selects (args := #[]) (mvT hZ (hw _ (List.mem_of_getElem? (i := 26) rfl)))) (mvT hZ (hw _ (List.mem_of_getElem? (i := 26) rfl))) (mvT hZ (hw _ (List.mem_of_getElem? (i := 25) rfl))) (by decide) (backOf (W := 0) (rm3 l Z a0 hw [] b92 (2 : Int32) q4 f4 c94 d94 kc94 kd94 (4 : Int32) 4 [(.int (-1 : Int32)), (.int (0 : Int32)), (.int (1 : Int32)), (.int (0 : Int32)), (.int (0 : Int32)), (.int (0 : Int32)), (.int (0 : Int32)), (.int (0 : Int32)), (.int (0 : Int32)), (.int (0 : Int32)), (.int (0 : Int32)), (.int (0 : Int32)), (.int (0 : Int32)), (.int (0 : Int32)), (.int (0 : Int32)), (.int (0 : Int32))] [(.int (own_code q4 f0)), (.int (own_code q1 f1)), (.int (own_code q2 f2)), (.int (own_code q3 f3)), (.int (0 : Int32)), (.int (0 : Int32)), (.int (0 : Int32)), (.int (0 : Int32)), (.int (0 : Int32)), (.int (0 : Int32)), (.int (0 : Int32)), (.int (0 : Int32)), (.int (0 : Int32)), (.int (0 : Int32)), (.int (0 : Int32)), (.int (0 : Int32))] h97 n0 ZS E_b92 F_parents_b92 F_branches_b92 F_nodes_b92 g_b92 V_c94 V_d94 g_c94 g_d94 ne_b92_c94 ne_b92_d94 ne_c94 ⟨by decide, by decide⟩ rfl (Nat.le_of_ble_eq_true rfl) (Nat.le_of_ble_eq_true rfl)) hZ (hw _ (List.mem_of_getElem? (i := 27) rfl)) (hw _ (List.mem_of_getElem? (i := 2) rfl)) (by decide) (by decide)) q98a q98c (g := (mkF m 135 #[.val (.int q1), .val (.int q2), .val (.int q3), .val (.int q4), .val (.int q5), .val (.int q6), .val (.int f0), .val (.int f1), .val (.int f2), .val (.int f3), .val (.int f4), .val (.ref b92), .val (.int (0 : Int32)), .val (.int (1 : Int32)), .val (.int (2 : Int32)), .val (.int (3 : Int32)), .unset, .unset, .unset, .unset, .unset, .unset] [(.int f4), (.int q4), (.int (2 : Int32)), (.ref b92)])) rfl (by rw [hml]; rfl) (Steps.refl _) (argsL := [(.int (2 : Int32)), (.int q4), (.int f4)]) (rest := []) (lenOf pd_1 rfl) rfl (by show 2 * 0 + _ ≤ _; exact Nat.le_of_eq rfl) (hb hby at_135) (fun _ _ => ⟨rfl, e97, (by decide : 6 + 0 ≤ _), (by decide : 88 + 0 ≤ _)⟩)
  dsimp only [Pt.U, Pt.locs, Pt.cells, Pt.slots] at X98 l98 y98 z98 st98 hQ98
  subst l98 y98 z98
  obtain ⟨h98, e98'⟩ : ∃ z, z = T98.heap := ⟨_, rfl⟩
  rw [← e98'] at hQ98
  have e98 : T98.heap = h98 := e98'.symm
  obtain ⟨rfl, N98q, K98, pp1, pp2, pp3, pp4, pp5⟩ := hQ98
  have NF := Fr.app NF N98q
  refine own_go (fun _ k => st98.trans k) ?_
  have E_b92 := E_b92.keep K98
  have ZS := Nat.le_trans ZS K98.1
  have KP := KP.trans K98 (allS (Or.inr sz_c94) (allS (Or.inr sz_d94) (allS (Or.inr sz_b92) all0)))
  have F_nodes_b92 := pp1
  have F_parents_b92 := pp2
  have F_branches_b92 := pp3
  have V_c94 : Arv Z h98 c94 kc94 .int (16 : Int32) [(.int (-1 : Int32)), (.int (0 : Int32)), (.int (1 : Int32)), (.int (0 : Int32)), (.int (2 : Int32)), (.int (0 : Int32)), (.int (0 : Int32)), (.int (0 : Int32)), (.int (0 : Int32)), (.int (0 : Int32)), (.int (0 : Int32)), (.int (0 : Int32)), (.int (0 : Int32)), (.int (0 : Int32)), (.int (0 : Int32)), (.int (0 : Int32))] (.int (0 : Int32)) := pp4
  have V_d94 : Arv Z h98 d94 kd94 .int (16 : Int32) [(.int (own_code q4 f0)), (.int (own_code q1 f1)), (.int (own_code q2 f2)), (.int (own_code q3 f3)), (.int (own_code q4 f4)), (.int (0 : Int32)), (.int (0 : Int32)), (.int (0 : Int32)), (.int (0 : Int32)), (.int (0 : Int32)), (.int (0 : Int32)), (.int (0 : Int32)), (.int (0 : Int32)), (.int (0 : Int32)), (.int (0 : Int32)), (.int (0 : Int32))] (.int (0 : Int32)) := pp5
  show own_R _ _ _ _ (T98.setTop (mkF m 138 #[.val (.int q1), .val (.int q2), .val (.int q3), .val (.int q4), .val (.int q5), .val (.int q6), .val (.int f0), .val (.int f1), .val (.int f2), .val (.int f3), .val (.int f4), .val (.ref b92), .val (.int (0 : Int32)), .val (.int (1 : Int32)), .val (.int (2 : Int32)), .val (.int (3 : Int32)), .unset, .unset, .unset, .unset, .unset, .unset] [(.int (4 : Int32))]))
  refine own_go (fun _ k => XS.istore X98.here hx rfl (hb hby at_138) rfl (l' := #[.val (.int q1), .val (.int q2), .val (.int q3), .val (.int q4), .val (.int q5), .val (.int q6), .val (.int f0), .val (.int f1), .val (.int f2), .val (.int f3), .val (.int f4), .val (.ref b92), .val (.int (0 : Int32)), .val (.int (1 : Int32)), .val (.int (2 : Int32)), .val (.int (3 : Int32)), .val (.int (4 : Int32)), .unset, .unset, .unset, .unset, .unset]) rfl k) ?_
  show own_R _ _ _ _ (T98.setTop (mkF m 140 #[.val (.int q1), .val (.int q2), .val (.int q3), .val (.int q4), .val (.int q5), .val (.int q6), .val (.int f0), .val (.int f1), .val (.int f2), .val (.int f3), .val (.int f4), .val (.ref b92), .val (.int (0 : Int32)), .val (.int (1 : Int32)), .val (.int (2 : Int32)), .val (.int (3 : Int32)), .val (.int (4 : Int32)), .unset, .unset, .unset, .unset, .unset] []))
  refine own_go (fun _ k => XS.iloadN X98.here hx rfl (hb hby at_140) rfl k) ?_
  show own_R _ _ _ _ (T98.setTop (mkF m 141 #[.val (.int q1), .val (.int q2), .val (.int q3), .val (.int q4), .val (.int q5), .val (.int q6), .val (.int f0), .val (.int f1), .val (.int f2), .val (.int f3), .val (.int f4), .val (.ref b92), .val (.int (0 : Int32)), .val (.int (1 : Int32)), .val (.int (2 : Int32)), .val (.int (3 : Int32)), .val (.int (4 : Int32)), .unset, .unset, .unset, .unset, .unset] [(.int q1)]))
  refine own_go (fun _ k => XS.iload X98.here hx rfl (hb hby at_141) rfl k) ?_
  show own_R _ _ _ _ (T98.setTop (mkF m 143 #[.val (.int q1), .val (.int q2), .val (.int q3), .val (.int q4), .val (.int q5), .val (.int q6), .val (.int f0), .val (.int f1), .val (.int f2), .val (.int f3), .val (.int f4), .val (.ref b92), .val (.int (0 : Int32)), .val (.int (1 : Int32)), .val (.int (2 : Int32)), .val (.int (3 : Int32)), .val (.int (4 : Int32)), .unset, .unset, .unset, .unset, .unset] [(.int f1), (.int q1)]))
  obtain ⟨_, _, ⟨T99, L99, k99, n99⟩, -, X99, ⟨Lc99, hQ99, l99, y99, z99⟩, st99⟩ := Jvm.LawKit.callS X98 hx (y := (⟨"com/example/clearlot/clearlot/search/PartTreeBranchesPinLaw", "code", "(IZ)I"⟩ : MethodName)) hown (mvT hZ (hw _ (List.mem_of_getElem? (i := 30) rfl))) (mvT hZ (hw _ (List.mem_of_getElem? (i := 31) rfl))) (mvT hZ (hw _ (List.mem_of_getElem? (i := 32) rfl))) (mvT hZ (hw _ (List.mem_of_getElem? (i := 33) rfl))) (by decide) (backOf (W := 0) (rm4 l Z a0 hw [] q1 f1 h98 n0 ZS) hZ (hw _ (List.mem_of_getElem? (i := 33) rfl)) (hw _ (List.mem_of_getElem? (i := 32) rfl)) (by decide) (by decide)) (g := (mkF m 143 #[.val (.int q1), .val (.int q2), .val (.int q3), .val (.int q4), .val (.int q5), .val (.int q6), .val (.int f0), .val (.int f1), .val (.int f2), .val (.int f3), .val (.int f4), .val (.ref b92), .val (.int (0 : Int32)), .val (.int (1 : Int32)), .val (.int (2 : Int32)), .val (.int (3 : Int32)), .val (.int (4 : Int32)), .unset, .unset, .unset, .unset, .unset] [(.int f1), (.int q1)])) rfl (by rw [hml]; rfl) (argsL := [(.int q1), (.int f1)]) (rest := []) (lenOf pd_2 rfl) rfl (by show 2 * 0 + _ ≤ _; exact Nat.le_of_eq rfl) (hb hby at_143) (fun _ _ => ⟨rfl, e98, (by decide : 6 + 0 ≤ _), (by decide : 88 + 0 ≤ _)⟩)
  dsimp only [Pt.U, Pt.locs, Pt.cells, Pt.slots] at X99 l99 y99 z99 st99 hQ99
  subst l99 y99 z99
  obtain ⟨rfl, N99q, e99⟩ := hQ99
  have NF := Fr.app NF N99q
  refine own_go st99 ?_
  show own_R _ _ _ _ (T99.setTop (mkF m 146 #[.val (.int q1), .val (.int q2), .val (.int q3), .val (.int q4), .val (.int q5), .val (.int q6), .val (.int f0), .val (.int f1), .val (.int f2), .val (.int f3), .val (.int f4), .val (.ref b92), .val (.int (0 : Int32)), .val (.int (1 : Int32)), .val (.int (2 : Int32)), .val (.int (3 : Int32)), .val (.int (4 : Int32)), .unset, .unset, .unset, .unset, .unset] [(.int (own_code q1 f1))]))
  refine own_go (fun _ k => XS.istore X99.here hx rfl (hb hby at_146) rfl (l' := #[.val (.int q1), .val (.int q2), .val (.int q3), .val (.int q4), .val (.int q5), .val (.int q6), .val (.int f0), .val (.int f1), .val (.int f2), .val (.int f3), .val (.int f4), .val (.ref b92), .val (.int (0 : Int32)), .val (.int (1 : Int32)), .val (.int (2 : Int32)), .val (.int (3 : Int32)), .val (.int (4 : Int32)), .val (.int (own_code q1 f1)), .unset, .unset, .unset, .unset]) rfl k) ?_
  show own_R _ _ _ _ (T99.setTop (mkF m 148 #[.val (.int q1), .val (.int q2), .val (.int q3), .val (.int q4), .val (.int q5), .val (.int q6), .val (.int f0), .val (.int f1), .val (.int f2), .val (.int f3), .val (.int f4), .val (.ref b92), .val (.int (0 : Int32)), .val (.int (1 : Int32)), .val (.int (2 : Int32)), .val (.int (3 : Int32)), .val (.int (4 : Int32)), .val (.int (own_code q1 f1)), .unset, .unset, .unset, .unset] []))
  refine own_go (fun _ k => XS.iloadN X99.here hx rfl (hb hby at_148) rfl k) ?_
  show own_R _ _ _ _ (T99.setTop (mkF m 149 #[.val (.int q1), .val (.int q2), .val (.int q3), .val (.int q4), .val (.int q5), .val (.int q6), .val (.int f0), .val (.int f1), .val (.int f2), .val (.int f3), .val (.int f4), .val (.ref b92), .val (.int (0 : Int32)), .val (.int (1 : Int32)), .val (.int (2 : Int32)), .val (.int (3 : Int32)), .val (.int (4 : Int32)), .val (.int (own_code q1 f1)), .unset, .unset, .unset, .unset] [(.int q2)]))
  refine own_go (fun _ k => XS.iload X99.here hx rfl (hb hby at_149) rfl k) ?_
  show own_R _ _ _ _ (T99.setTop (mkF m 151 #[.val (.int q1), .val (.int q2), .val (.int q3), .val (.int q4), .val (.int q5), .val (.int q6), .val (.int f0), .val (.int f1), .val (.int f2), .val (.int f3), .val (.int f4), .val (.ref b92), .val (.int (0 : Int32)), .val (.int (1 : Int32)), .val (.int (2 : Int32)), .val (.int (3 : Int32)), .val (.int (4 : Int32)), .val (.int (own_code q1 f1)), .unset, .unset, .unset, .unset] [(.int f2), (.int q2)]))
  obtain ⟨_, _, ⟨T100, L100, k100, n100⟩, -, X100, ⟨Lc100, hQ100, l100, y100, z100⟩, st100⟩ := Jvm.LawKit.callS X99 hx (y := (⟨"com/example/clearlot/clearlot/search/PartTreeBranchesPinLaw", "code", "(IZ)I"⟩ : MethodName)) hown (mvT hZ (hw _ (List.mem_of_getElem? (i := 30) rfl))) (mvT hZ (hw _ (List.mem_of_getElem? (i := 31) rfl))) (mvT hZ (hw _ (List.mem_of_getElem? (i := 32) rfl))) (mvT hZ (hw _ (List.mem_of_getElem? (i := 33) rfl))) (by decide) (backOf (W := 0) (rm4 l Z a0 hw [] q2 f2 h98 n0 ZS) hZ (hw _ (List.mem_of_getElem? (i := 33) rfl)) (hw _ (List.mem_of_getElem? (i := 32) rfl)) (by decide) (by decide)) (g := (mkF m 151 #[.val (.int q1), .val (.int q2), .val (.int q3), .val (.int q4), .val (.int q5), .val (.int q6), .val (.int f0), .val (.int f1), .val (.int f2), .val (.int f3), .val (.int f4), .val (.ref b92), .val (.int (0 : Int32)), .val (.int (1 : Int32)), .val (.int (2 : Int32)), .val (.int (3 : Int32)), .val (.int (4 : Int32)), .val (.int (own_code q1 f1)), .unset, .unset, .unset, .unset] [(.int f2), (.int q2)])) rfl (by rw [hml]; rfl) (argsL := [(.int q2), (.int f2)]) (rest := []) (lenOf pd_2 rfl) rfl (by show 2 * 0 + _ ≤ _; exact Nat.le_of_eq rfl) (hb hby at_151) (fun _ _ => ⟨rfl, e99, (by decide : 6 + 0 ≤ _), (by decide : 88 + 0 ≤ _)⟩)
  dsimp only [Pt.U, Pt.locs, Pt.cells, Pt.slots] at X100 l100 y100 z100 st100 hQ100
  subst l100 y100 z100
  obtain ⟨rfl, N100q, e100⟩ := hQ100
  have NF := Fr.app NF N100q
  refine own_go st100 ?_
  show own_R _ _ _ _ (T100.setTop (mkF m 154 #[.val (.int q1), .val (.int q2), .val (.int q3), .val (.int q4), .val (.int q5), .val (.int q6), .val (.int f0), .val (.int f1), .val (.int f2), .val (.int f3), .val (.int f4), .val (.ref b92), .val (.int (0 : Int32)), .val (.int (1 : Int32)), .val (.int (2 : Int32)), .val (.int (3 : Int32)), .val (.int (4 : Int32)), .val (.int (own_code q1 f1)), .unset, .unset, .unset, .unset] [(.int (own_code q2 f2))]))
  refine own_go (fun _ k => XS.istore X100.here hx rfl (hb hby at_154) rfl (l' := #[.val (.int q1), .val (.int q2), .val (.int q3), .val (.int q4), .val (.int q5), .val (.int q6), .val (.int f0), .val (.int f1), .val (.int f2), .val (.int f3), .val (.int f4), .val (.ref b92), .val (.int (0 : Int32)), .val (.int (1 : Int32)), .val (.int (2 : Int32)), .val (.int (3 : Int32)), .val (.int (4 : Int32)), .val (.int (own_code q1 f1)), .val (.int (own_code q2 f2)), .unset, .unset, .unset]) rfl k) ?_
  show own_R _ _ _ _ (T100.setTop (mkF m 156 #[.val (.int q1), .val (.int q2), .val (.int q3), .val (.int q4), .val (.int q5), .val (.int q6), .val (.int f0), .val (.int f1), .val (.int f2), .val (.int f3), .val (.int f4), .val (.ref b92), .val (.int (0 : Int32)), .val (.int (1 : Int32)), .val (.int (2 : Int32)), .val (.int (3 : Int32)), .val (.int (4 : Int32)), .val (.int (own_code q1 f1)), .val (.int (own_code q2 f2)), .unset, .unset, .unset] []))
  refine own_go (fun _ k => XS.iloadN X100.here hx rfl (hb hby at_156) rfl k) ?_
  show own_R _ _ _ _ (T100.setTop (mkF m 157 #[.val (.int q1), .val (.int q2), .val (.int q3), .val (.int q4), .val (.int q5), .val (.int q6), .val (.int f0), .val (.int f1), .val (.int f2), .val (.int f3), .val (.int f4), .val (.ref b92), .val (.int (0 : Int32)), .val (.int (1 : Int32)), .val (.int (2 : Int32)), .val (.int (3 : Int32)), .val (.int (4 : Int32)), .val (.int (own_code q1 f1)), .val (.int (own_code q2 f2)), .unset, .unset, .unset] [(.int q3)]))
  refine own_go (fun _ k => XS.iload X100.here hx rfl (hb hby at_157) rfl k) ?_
  show own_R _ _ _ _ (T100.setTop (mkF m 159 #[.val (.int q1), .val (.int q2), .val (.int q3), .val (.int q4), .val (.int q5), .val (.int q6), .val (.int f0), .val (.int f1), .val (.int f2), .val (.int f3), .val (.int f4), .val (.ref b92), .val (.int (0 : Int32)), .val (.int (1 : Int32)), .val (.int (2 : Int32)), .val (.int (3 : Int32)), .val (.int (4 : Int32)), .val (.int (own_code q1 f1)), .val (.int (own_code q2 f2)), .unset, .unset, .unset] [(.int f3), (.int q3)]))
  obtain ⟨_, _, ⟨T101, L101, k101, n101⟩, -, X101, ⟨Lc101, hQ101, l101, y101, z101⟩, st101⟩ := Jvm.LawKit.callS X100 hx (y := (⟨"com/example/clearlot/clearlot/search/PartTreeBranchesPinLaw", "code", "(IZ)I"⟩ : MethodName)) hown (mvT hZ (hw _ (List.mem_of_getElem? (i := 30) rfl))) (mvT hZ (hw _ (List.mem_of_getElem? (i := 31) rfl))) (mvT hZ (hw _ (List.mem_of_getElem? (i := 32) rfl))) (mvT hZ (hw _ (List.mem_of_getElem? (i := 33) rfl))) (by decide) (backOf (W := 0) (rm4 l Z a0 hw [] q3 f3 h98 n0 ZS) hZ (hw _ (List.mem_of_getElem? (i := 33) rfl)) (hw _ (List.mem_of_getElem? (i := 32) rfl)) (by decide) (by decide)) (g := (mkF m 159 #[.val (.int q1), .val (.int q2), .val (.int q3), .val (.int q4), .val (.int q5), .val (.int q6), .val (.int f0), .val (.int f1), .val (.int f2), .val (.int f3), .val (.int f4), .val (.ref b92), .val (.int (0 : Int32)), .val (.int (1 : Int32)), .val (.int (2 : Int32)), .val (.int (3 : Int32)), .val (.int (4 : Int32)), .val (.int (own_code q1 f1)), .val (.int (own_code q2 f2)), .unset, .unset, .unset] [(.int f3), (.int q3)])) rfl (by rw [hml]; rfl) (argsL := [(.int q3), (.int f3)]) (rest := []) (lenOf pd_2 rfl) rfl (by show 2 * 0 + _ ≤ _; exact Nat.le_of_eq rfl) (hb hby at_159) (fun _ _ => ⟨rfl, e100, (by decide : 6 + 0 ≤ _), (by decide : 88 + 0 ≤ _)⟩)
  dsimp only [Pt.U, Pt.locs, Pt.cells, Pt.slots] at X101 l101 y101 z101 st101 hQ101
  subst l101 y101 z101
  obtain ⟨rfl, N101q, e101⟩ := hQ101
  have NF := Fr.app NF N101q
  refine own_go st101 ?_
  show own_R _ _ _ _ (T101.setTop (mkF m 162 #[.val (.int q1), .val (.int q2), .val (.int q3), .val (.int q4), .val (.int q5), .val (.int q6), .val (.int f0), .val (.int f1), .val (.int f2), .val (.int f3), .val (.int f4), .val (.ref b92), .val (.int (0 : Int32)), .val (.int (1 : Int32)), .val (.int (2 : Int32)), .val (.int (3 : Int32)), .val (.int (4 : Int32)), .val (.int (own_code q1 f1)), .val (.int (own_code q2 f2)), .unset, .unset, .unset] [(.int (own_code q3 f3))]))
  refine own_go (fun _ k => XS.istore X101.here hx rfl (hb hby at_162) rfl (l' := #[.val (.int q1), .val (.int q2), .val (.int q3), .val (.int q4), .val (.int q5), .val (.int q6), .val (.int f0), .val (.int f1), .val (.int f2), .val (.int f3), .val (.int f4), .val (.ref b92), .val (.int (0 : Int32)), .val (.int (1 : Int32)), .val (.int (2 : Int32)), .val (.int (3 : Int32)), .val (.int (4 : Int32)), .val (.int (own_code q1 f1)), .val (.int (own_code q2 f2)), .val (.int (own_code q3 f3)), .unset, .unset]) rfl k) ?_
  show own_R _ _ _ _ (T101.setTop (mkF m 164 #[.val (.int q1), .val (.int q2), .val (.int q3), .val (.int q4), .val (.int q5), .val (.int q6), .val (.int f0), .val (.int f1), .val (.int f2), .val (.int f3), .val (.int f4), .val (.ref b92), .val (.int (0 : Int32)), .val (.int (1 : Int32)), .val (.int (2 : Int32)), .val (.int (3 : Int32)), .val (.int (4 : Int32)), .val (.int (own_code q1 f1)), .val (.int (own_code q2 f2)), .val (.int (own_code q3 f3)), .unset, .unset] []))
  refine own_go (fun _ k => XS.iloadN X101.here hx rfl (hb hby at_164) rfl k) ?_
  show own_R _ _ _ _ (T101.setTop (mkF m 165 #[.val (.int q1), .val (.int q2), .val (.int q3), .val (.int q4), .val (.int q5), .val (.int q6), .val (.int f0), .val (.int f1), .val (.int f2), .val (.int f3), .val (.int f4), .val (.ref b92), .val (.int (0 : Int32)), .val (.int (1 : Int32)), .val (.int (2 : Int32)), .val (.int (3 : Int32)), .val (.int (4 : Int32)), .val (.int (own_code q1 f1)), .val (.int (own_code q2 f2)), .val (.int (own_code q3 f3)), .unset, .unset] [(.int q4)]))
  refine own_go (fun _ k => XS.iload X101.here hx rfl (hb hby at_165) rfl k) ?_
  show own_R _ _ _ _ (T101.setTop (mkF m 167 #[.val (.int q1), .val (.int q2), .val (.int q3), .val (.int q4), .val (.int q5), .val (.int q6), .val (.int f0), .val (.int f1), .val (.int f2), .val (.int f3), .val (.int f4), .val (.ref b92), .val (.int (0 : Int32)), .val (.int (1 : Int32)), .val (.int (2 : Int32)), .val (.int (3 : Int32)), .val (.int (4 : Int32)), .val (.int (own_code q1 f1)), .val (.int (own_code q2 f2)), .val (.int (own_code q3 f3)), .unset, .unset] [(.int f4), (.int q4)]))
  obtain ⟨_, _, ⟨T102, L102, k102, n102⟩, -, X102, ⟨Lc102, hQ102, l102, y102, z102⟩, st102⟩ := Jvm.LawKit.callS X101 hx (y := (⟨"com/example/clearlot/clearlot/search/PartTreeBranchesPinLaw", "code", "(IZ)I"⟩ : MethodName)) hown (mvT hZ (hw _ (List.mem_of_getElem? (i := 30) rfl))) (mvT hZ (hw _ (List.mem_of_getElem? (i := 31) rfl))) (mvT hZ (hw _ (List.mem_of_getElem? (i := 32) rfl))) (mvT hZ (hw _ (List.mem_of_getElem? (i := 33) rfl))) (by decide) (backOf (W := 0) (rm4 l Z a0 hw [] q4 f4 h98 n0 ZS) hZ (hw _ (List.mem_of_getElem? (i := 33) rfl)) (hw _ (List.mem_of_getElem? (i := 32) rfl)) (by decide) (by decide)) (g := (mkF m 167 #[.val (.int q1), .val (.int q2), .val (.int q3), .val (.int q4), .val (.int q5), .val (.int q6), .val (.int f0), .val (.int f1), .val (.int f2), .val (.int f3), .val (.int f4), .val (.ref b92), .val (.int (0 : Int32)), .val (.int (1 : Int32)), .val (.int (2 : Int32)), .val (.int (3 : Int32)), .val (.int (4 : Int32)), .val (.int (own_code q1 f1)), .val (.int (own_code q2 f2)), .val (.int (own_code q3 f3)), .unset, .unset] [(.int f4), (.int q4)])) rfl (by rw [hml]; rfl) (argsL := [(.int q4), (.int f4)]) (rest := []) (lenOf pd_2 rfl) rfl (by show 2 * 0 + _ ≤ _; exact Nat.le_of_eq rfl) (hb hby at_167) (fun _ _ => ⟨rfl, e101, (by decide : 6 + 0 ≤ _), (by decide : 88 + 0 ≤ _)⟩)
  dsimp only [Pt.U, Pt.locs, Pt.cells, Pt.slots] at X102 l102 y102 z102 st102 hQ102
  subst l102 y102 z102
  obtain ⟨rfl, N102q, e102⟩ := hQ102
  have NF := Fr.app NF N102q
  refine own_go st102 ?_
  show own_R _ _ _ _ (T102.setTop (mkF m 170 #[.val (.int q1), .val (.int q2), .val (.int q3), .val (.int q4), .val (.int q5), .val (.int q6), .val (.int f0), .val (.int f1), .val (.int f2), .val (.int f3), .val (.int f4), .val (.ref b92), .val (.int (0 : Int32)), .val (.int (1 : Int32)), .val (.int (2 : Int32)), .val (.int (3 : Int32)), .val (.int (4 : Int32)), .val (.int (own_code q1 f1)), .val (.int (own_code q2 f2)), .val (.int (own_code q3 f3)), .unset, .unset] [(.int (own_code q4 f4))]))
  refine own_go (fun _ k => XS.istore X102.here hx rfl (hb hby at_170) rfl (l' := #[.val (.int q1), .val (.int q2), .val (.int q3), .val (.int q4), .val (.int q5), .val (.int q6), .val (.int f0), .val (.int f1), .val (.int f2), .val (.int f3), .val (.int f4), .val (.ref b92), .val (.int (0 : Int32)), .val (.int (1 : Int32)), .val (.int (2 : Int32)), .val (.int (3 : Int32)), .val (.int (4 : Int32)), .val (.int (own_code q1 f1)), .val (.int (own_code q2 f2)), .val (.int (own_code q3 f3)), .val (.int (own_code q4 f4)), .unset]) rfl k) ?_
  show own_R _ _ _ _ (T102.setTop (mkF m 172 #[.val (.int q1), .val (.int q2), .val (.int q3), .val (.int q4), .val (.int q5), .val (.int q6), .val (.int f0), .val (.int f1), .val (.int f2), .val (.int f3), .val (.int f4), .val (.ref b92), .val (.int (0 : Int32)), .val (.int (1 : Int32)), .val (.int (2 : Int32)), .val (.int (3 : Int32)), .val (.int (4 : Int32)), .val (.int (own_code q1 f1)), .val (.int (own_code q2 f2)), .val (.int (own_code q3 f3)), .val (.int (own_code q4 f4)), .unset] []))
  refine own_go (fun _ k => XS.iload X102.here hx rfl (hb hby at_172) rfl k) ?_
  show own_R _ _ _ _ (T102.setTop (mkF m 174 #[.val (.int q1), .val (.int q2), .val (.int q3), .val (.int q4), .val (.int q5), .val (.int q6), .val (.int f0), .val (.int f1), .val (.int f2), .val (.int f3), .val (.int f4), .val (.ref b92), .val (.int (0 : Int32)), .val (.int (1 : Int32)), .val (.int (2 : Int32)), .val (.int (3 : Int32)), .val (.int (4 : Int32)), .val (.int (own_code q1 f1)), .val (.int (own_code q2 f2)), .val (.int (own_code q3 f3)), .val (.int (own_code q4 f4)), .unset] [(.int q6)]))
  refine own_go (X102.ldcInt hx hown (mvT hZ (hw _ (List.mem_of_getElem? (i := 34) rfl))) (g := (mkF m 174 #[.val (.int q1), .val (.int q2), .val (.int q3), .val (.int q4), .val (.int q5), .val (.int q6), .val (.int f0), .val (.int f1), .val (.int f2), .val (.int f3), .val (.int f4), .val (.ref b92), .val (.int (0 : Int32)), .val (.int (1 : Int32)), .val (.int (2 : Int32)), .val (.int (3 : Int32)), .val (.int (4 : Int32)), .val (.int (own_code q1 f1)), .val (.int (own_code q2 f2)), .val (.int (own_code q3 f3)), .val (.int (own_code q4 f4)), .unset] [(.int q6)])) rfl (hb hby at_174)) ?_
  show own_R _ _ _ _ (T102.setTop (mkF m 176 #[.val (.int q1), .val (.int q2), .val (.int q3), .val (.int q4), .val (.int q5), .val (.int q6), .val (.int f0), .val (.int f1), .val (.int f2), .val (.int f3), .val (.int f4), .val (.ref b92), .val (.int (0 : Int32)), .val (.int (1 : Int32)), .val (.int (2 : Int32)), .val (.int (3 : Int32)), .val (.int (4 : Int32)), .val (.int (own_code q1 f1)), .val (.int (own_code q2 f2)), .val (.int (own_code q3 f3)), .val (.int (own_code q4 f4)), .unset] [(.int (2147483647 : Int32)), (.int q6)]))
  refine own_go (fun _ k => XS.iand X102.here hx rfl (hb hby at_176) rfl k) ?_
  show own_R _ _ _ _ (T102.setTop (mkF m 177 #[.val (.int q1), .val (.int q2), .val (.int q3), .val (.int q4), .val (.int q5), .val (.int q6), .val (.int f0), .val (.int f1), .val (.int f2), .val (.int f3), .val (.int f4), .val (.ref b92), .val (.int (0 : Int32)), .val (.int (1 : Int32)), .val (.int (2 : Int32)), .val (.int (3 : Int32)), .val (.int (4 : Int32)), .val (.int (own_code q1 f1)), .val (.int (own_code q2 f2)), .val (.int (own_code q3 f3)), .val (.int (own_code q4 f4)), .unset] [(.int (q6 &&& (2147483647 : Int32)))]))
  refine own_go (fun _ k => XS.iconst X102.here hx rfl (hb hby at_177) k) ?_
  show own_R _ _ _ _ (T102.setTop (mkF m 178 #[.val (.int q1), .val (.int q2), .val (.int q3), .val (.int q4), .val (.int q5), .val (.int q6), .val (.int f0), .val (.int f1), .val (.int f2), .val (.int f3), .val (.int f4), .val (.ref b92), .val (.int (0 : Int32)), .val (.int (1 : Int32)), .val (.int (2 : Int32)), .val (.int (3 : Int32)), .val (.int (4 : Int32)), .val (.int (own_code q1 f1)), .val (.int (own_code q2 f2)), .val (.int (own_code q3 f3)), .val (.int (own_code q4 f4)), .unset] [(.int (5 : Int32)), (.int (q6 &&& (2147483647 : Int32)))]))
  refine own_go (fun _ k => iremM X102 hx rfl (hb hby at_178) rfl (by decide) k) ?_
  show own_R _ _ _ _ (T102.setTop (mkF m 179 #[.val (.int q1), .val (.int q2), .val (.int q3), .val (.int q4), .val (.int q5), .val (.int q6), .val (.int f0), .val (.int f1), .val (.int f2), .val (.int f3), .val (.int f4), .val (.ref b92), .val (.int (0 : Int32)), .val (.int (1 : Int32)), .val (.int (2 : Int32)), .val (.int (3 : Int32)), .val (.int (4 : Int32)), .val (.int (own_code q1 f1)), .val (.int (own_code q2 f2)), .val (.int (own_code q3 f3)), .val (.int (own_code q4 f4)), .unset] [(.int ((q6 &&& (2147483647 : Int32)) % (5 : Int32)))]))
  refine own_go (fun _ k => XS.istore X102.here hx rfl (hb hby at_179) rfl (l' := #[.val (.int q1), .val (.int q2), .val (.int q3), .val (.int q4), .val (.int q5), .val (.int q6), .val (.int f0), .val (.int f1), .val (.int f2), .val (.int f3), .val (.int f4), .val (.ref b92), .val (.int (0 : Int32)), .val (.int (1 : Int32)), .val (.int (2 : Int32)), .val (.int (3 : Int32)), .val (.int (4 : Int32)), .val (.int (own_code q1 f1)), .val (.int (own_code q2 f2)), .val (.int (own_code q3 f3)), .val (.int (own_code q4 f4)), .val (.int ((q6 &&& (2147483647 : Int32)) % (5 : Int32)))]) rfl k) ?_
  show own_R _ _ _ _ (T102.setTop (mkF m 181 #[.val (.int q1), .val (.int q2), .val (.int q3), .val (.int q4), .val (.int q5), .val (.int q6), .val (.int f0), .val (.int f1), .val (.int f2), .val (.int f3), .val (.int f4), .val (.ref b92), .val (.int (0 : Int32)), .val (.int (1 : Int32)), .val (.int (2 : Int32)), .val (.int (3 : Int32)), .val (.int (4 : Int32)), .val (.int (own_code q1 f1)), .val (.int (own_code q2 f2)), .val (.int (own_code q3 f3)), .val (.int (own_code q4 f4)), .val (.int ((q6 &&& (2147483647 : Int32)) % (5 : Int32)))] []))
  generalize hnn : ((q6 &&& (2147483647 : Int32)) % (5 : Int32)) = nn
  show own_R _ _ _ _ (T102.setTop (mkF m 181 #[.val (.int q1), .val (.int q2), .val (.int q3), .val (.int q4), .val (.int q5), .val (.int q6), .val (.int f0), .val (.int f1), .val (.int f2), .val (.int f3), .val (.int f4), .val (.ref b92), .val (.int (0 : Int32)), .val (.int (1 : Int32)), .val (.int (2 : Int32)), .val (.int (3 : Int32)), .val (.int (4 : Int32)), .val (.int (own_code q1 f1)), .val (.int (own_code q2 f2)), .val (.int (own_code q3 f3)), .val (.int (own_code q4 f4)), .val (.int nn)] []))
  rcases own_five _ _ hnn with rfl | rfl | rfl | rfl | rfl
  · show own_R _ _ _ _ (T102.setTop (mkF m 181 #[.val (.int q1), .val (.int q2), .val (.int q3), .val (.int q4), .val (.int q5), .val (.int q6), .val (.int f0), .val (.int f1), .val (.int f2), .val (.int f3), .val (.int f4), .val (.ref b92), .val (.int (0 : Int32)), .val (.int (1 : Int32)), .val (.int (2 : Int32)), .val (.int (3 : Int32)), .val (.int (4 : Int32)), .val (.int (own_code q1 f1)), .val (.int (own_code q2 f2)), .val (.int (own_code q3 f3)), .val (.int (own_code q4 f4)), .val (.int (0 : Int32))] []))
    refine own_go (fun _ k => XS.iload X102.here hx rfl (hb hby at_181) rfl k) ?_
    show own_R _ _ _ _ (T102.setTop (mkF m 183 #[.val (.int q1), .val (.int q2), .val (.int q3), .val (.int q4), .val (.int q5), .val (.int q6), .val (.int f0), .val (.int f1), .val (.int f2), .val (.int f3), .val (.int f4), .val (.ref b92), .val (.int (0 : Int32)), .val (.int (1 : Int32)), .val (.int (2 : Int32)), .val (.int (3 : Int32)), .val (.int (4 : Int32)), .val (.int (own_code q1 f1)), .val (.int (own_code q2 f2)), .val (.int (own_code q3 f3)), .val (.int (own_code q4 f4)), .val (.int (0 : Int32))] [(.int (0 : Int32))]))
    refine own_go (fun _ k => XS.ifNo X102.here hx rfl (hb hby at_183) rfl ((if0 _ _).trans (teq (by decide : (0 : Int32) = (0 : Int32))).2) k) ?_
    show own_R _ _ _ _ (T102.setTop (mkF m 186 #[.val (.int q1), .val (.int q2), .val (.int q3), .val (.int q4), .val (.int q5), .val (.int q6), .val (.int f0), .val (.int f1), .val (.int f2), .val (.int f3), .val (.int f4), .val (.ref b92), .val (.int (0 : Int32)), .val (.int (1 : Int32)), .val (.int (2 : Int32)), .val (.int (3 : Int32)), .val (.int (4 : Int32)), .val (.int (own_code q1 f1)), .val (.int (own_code q2 f2)), .val (.int (own_code q3 f3)), .val (.int (own_code q4 f4)), .val (.int (0 : Int32))] []))
    refine own_go (fun _ k => XS.aload X102.here hx rfl (hb hby at_186) rfl rfl k) ?_
    show own_R _ _ _ _ (T102.setTop (mkF m 188 #[.val (.int q1), .val (.int q2), .val (.int q3), .val (.int q4), .val (.int q5), .val (.int q6), .val (.int f0), .val (.int f1), .val (.int f2), .val (.int f3), .val (.int f4), .val (.ref b92), .val (.int (0 : Int32)), .val (.int (1 : Int32)), .val (.int (2 : Int32)), .val (.int (3 : Int32)), .val (.int (4 : Int32)), .val (.int (own_code q1 f1)), .val (.int (own_code q2 f2)), .val (.int (own_code q3 f3)), .val (.int (own_code q4 f4)), .val (.int (0 : Int32))] [(.ref b92)]))
    refine own_go (fun _ k => XS.iload X102.here hx rfl (hb hby at_188) rfl k) ?_
    show own_R _ _ _ _ (T102.setTop (mkF m 190 #[.val (.int q1), .val (.int q2), .val (.int q3), .val (.int q4), .val (.int q5), .val (.int q6), .val (.int f0), .val (.int f1), .val (.int f2), .val (.int f3), .val (.int f4), .val (.ref b92), .val (.int (0 : Int32)), .val (.int (1 : Int32)), .val (.int (2 : Int32)), .val (.int (3 : Int32)), .val (.int (4 : Int32)), .val (.int (own_code q1 f1)), .val (.int (own_code q2 f2)), .val (.int (own_code q3 f3)), .val (.int (own_code q4 f4)), .val (.int (0 : Int32))] [(.int (0 : Int32)), (.ref b92)]))
    obtain ⟨cq103, kq103, q103a, q103b, q103c⟩ := isOf hZ e102 E_b92
    obtain ⟨_, _, ⟨T103, L103, k103, n103⟩, -, X103, ⟨Lc103, hQ103, l103, y103, z103⟩, st103⟩ := X102.virtualBack hx (y := (⟨"com/example/clearlot/clearlot/search/PartTree", "branches", "(I)[I"⟩ : MethodName)) (z := (⟨"com/example/clearlot/clearlot/search/PartTree", "branches", "(I)[I"⟩ : MethodName)) hown (mvT hZ (hw _ (List.mem_of_getElem? (i := 35) rfl))) (mvT hZ (hw _ (List.mem_of_getElem? (i := 36) rfl))) (notFace_of_selects (args := #[]) (mvT hZ (hw _ (List.mem_of_getElem? (i := 38) rfl)))) (mvT hZ (hw _ (List.mem_of_getElem? (i := 38) rfl))) (mvT hZ (hw _ (List.mem_of_getElem? (i := 37) rfl))) (by decide) (backOf (W := 0) (rm5_0 l Z a0 hw [] b92 c94 d94 kc94 kd94 (own_code q4 f0) (own_code q1 f1) (own_code q2 f2) (own_code q3 f3) (own_code q4 f4) h98 n0 ZS F_parents_b92 F_branches_b92 V_c94 V_d94) hZ (hw _ (List.mem_of_getElem? (i := 39) rfl)) (hw _ (List.mem_of_getElem? (i := 2) rfl)) (by decide) (by decide)) q103a q103c (g := (mkF m 190 #[.val (.int q1), .val (.int q2), .val (.int q3), .val (.int q4), .val (.int q5), .val (.int q6), .val (.int f0), .val (.int f1), .val (.int f2), .val (.int f3), .val (.int f4), .val (.ref b92), .val (.int (0 : Int32)), .val (.int (1 : Int32)), .val (.int (2 : Int32)), .val (.int (3 : Int32)), .val (.int (4 : Int32)), .val (.int (own_code q1 f1)), .val (.int (own_code q2 f2)), .val (.int (own_code q3 f3)), .val (.int (own_code q4 f4)), .val (.int (0 : Int32))] [(.int (0 : Int32)), (.ref b92)])) rfl (by rw [hml]; rfl) (Steps.refl _) (argsL := [(.int (0 : Int32))]) (rest := []) (lenOf pd_3 rfl) rfl (by show 2 * 0 + _ ≤ _; exact Nat.le_of_eq rfl) (hb hby at_190) (fun _ _ => ⟨rfl, e102, (by decide : 6 + 1 ≤ _), (by decide : 88 + 0 ≤ _)⟩)
    dsimp only [Pt.U, Pt.locs, Pt.cells, Pt.slots] at X103 l103 y103 z103 st103 hQ103
    subst l103 y103 z103
    obtain ⟨h103, e103'⟩ : ∃ z, z = T103.heap := ⟨_, rfl⟩
    rw [← e103'] at hQ103
    have e103 : T103.heap = h103 := e103'.symm
    obtain ⟨c104, rfl, N103q, K103, hbc104, kc104, Vc104'⟩ := hQ103
    have NF := Fr.app NF N103q
    refine own_go (fun _ k => st103.trans k) ?_
    have ne_b92_c104 : b92 ≠ c104 := Nat.ne_of_lt (Nat.lt_of_lt_of_le E_b92.lt hbc104)
    have ne_c94_c104 : c94 ≠ c104 := Nat.ne_of_lt (Nat.lt_of_lt_of_le V_c94.lt hbc104)
    have ne_d94_c104 : d94 ≠ c104 := Nat.ne_of_lt (Nat.lt_of_lt_of_le V_d94.lt hbc104)
    have g_c104 : n0 ≤ c104 := Nat.le_trans ZS hbc104
    have sz_c104 : h0.size ≤ c104 := Nat.le_trans KP.1 hbc104
    have E_b92 := E_b92.keep K103
    have F_nodes_b92 := F_nodes_b92.keep K103 nin0
    have F_parents_b92 := F_parents_b92.keep K103 nin0
    have F_branches_b92 := F_branches_b92.keep K103 nin0
    have V_c94 := V_c94.keep K103 nin0
    have V_d94 := V_d94.keep K103 nin0
    have ZS := Nat.le_trans ZS K103.1
    have KP := KP.trans K103 all0
    have V_c104 := Vc104'
    show own_R _ _ _ _ (T103.setTop (mkF m 193 #[.val (.int q1), .val (.int q2), .val (.int q3), .val (.int q4), .val (.int q5), .val (.int q6), .val (.int f0), .val (.int f1), .val (.int f2), .val (.int f3), .val (.int f4), .val (.ref b92), .val (.int (0 : Int32)), .val (.int (1 : Int32)), .val (.int (2 : Int32)), .val (.int (3 : Int32)), .val (.int (4 : Int32)), .val (.int (own_code q1 f1)), .val (.int (own_code q2 f2)), .val (.int (own_code q3 f3)), .val (.int (own_code q4 f4)), .val (.int (0 : Int32))] [(.ref c104)]))
    refine own_go (fun _ k => XS.iconst X103.here hx rfl (hb hby at_193) k) ?_
    show own_R _ _ _ _ (T103.setTop (mkF m 194 #[.val (.int q1), .val (.int q2), .val (.int q3), .val (.int q4), .val (.int q5), .val (.int q6), .val (.int f0), .val (.int f1), .val (.int f2), .val (.int f3), .val (.int f4), .val (.ref b92), .val (.int (0 : Int32)), .val (.int (1 : Int32)), .val (.int (2 : Int32)), .val (.int (3 : Int32)), .val (.int (4 : Int32)), .val (.int (own_code q1 f1)), .val (.int (own_code q2 f2)), .val (.int (own_code q3 f3)), .val (.int (own_code q4 f4)), .val (.int (0 : Int32))] [(.int (0 : Int32)), (.ref c104)]))
    refine own_go (fun _ k => XS.iconst X103.here hx rfl (hb hby at_194) k) ?_
    show own_R _ _ _ _ (T103.setTop (mkF m 195 #[.val (.int q1), .val (.int q2), .val (.int q3), .val (.int q4), .val (.int q5), .val (.int q6), .val (.int f0), .val (.int f1), .val (.int f2), .val (.int f3), .val (.int f4), .val (.ref b92), .val (.int (0 : Int32)), .val (.int (1 : Int32)), .val (.int (2 : Int32)), .val (.int (3 : Int32)), .val (.int (4 : Int32)), .val (.int (own_code q1 f1)), .val (.int (own_code q2 f2)), .val (.int (own_code q3 f3)), .val (.int (own_code q4 f4)), .val (.int (0 : Int32))] [(.int (0 : Int32)), (.int (0 : Int32)), (.ref c104)]))
    refine own_go (fun _ k => XS.iconst X103.here hx rfl (hb hby at_195) k) ?_
    show own_R _ _ _ _ (T103.setTop (mkF m 196 #[.val (.int q1), .val (.int q2), .val (.int q3), .val (.int q4), .val (.int q5), .val (.int q6), .val (.int f0), .val (.int f1), .val (.int f2), .val (.int f3), .val (.int f4), .val (.ref b92), .val (.int (0 : Int32)), .val (.int (1 : Int32)), .val (.int (2 : Int32)), .val (.int (3 : Int32)), .val (.int (4 : Int32)), .val (.int (own_code q1 f1)), .val (.int (own_code q2 f2)), .val (.int (own_code q3 f3)), .val (.int (own_code q4 f4)), .val (.int (0 : Int32))] [(.int (0 : Int32)), (.int (0 : Int32)), (.int (0 : Int32)), (.ref c104)]))
    refine own_go (fun _ k => XS.iconst X103.here hx rfl (hb hby at_196) k) ?_
    show own_R _ _ _ _ (T103.setTop (mkF m 197 #[.val (.int q1), .val (.int q2), .val (.int q3), .val (.int q4), .val (.int q5), .val (.int q6), .val (.int f0), .val (.int f1), .val (.int f2), .val (.int f3), .val (.int f4), .val (.ref b92), .val (.int (0 : Int32)), .val (.int (1 : Int32)), .val (.int (2 : Int32)), .val (.int (3 : Int32)), .val (.int (4 : Int32)), .val (.int (own_code q1 f1)), .val (.int (own_code q2 f2)), .val (.int (own_code q3 f3)), .val (.int (own_code q4 f4)), .val (.int (0 : Int32))] [(.int (0 : Int32)), (.int (0 : Int32)), (.int (0 : Int32)), (.int (0 : Int32)), (.ref c104)]))
    obtain ⟨_, _, ⟨T104, L104, k104, n104⟩, -, X104, ⟨Lc104, hQ104, l104, y104, z104⟩, st104⟩ := Jvm.LawKit.callS X103 hx (y := (⟨"com/example/clearlot/clearlot/search/PartTreeBranchesPinLaw", "same", "([IIIII)Z"⟩ : MethodName)) hown (mvT hZ (hw _ (List.mem_of_getElem? (i := 40) rfl))) (mvT hZ (hw _ (List.mem_of_getElem? (i := 41) rfl))) (mvT hZ (hw _ (List.mem_of_getElem? (i := 32) rfl))) (mvT hZ (hw _ (List.mem_of_getElem? (i := 42) rfl))) (by decide) (backOf (W := 0) (rm6_0 l Z a0 hw [] c104 (0 : Int32) (0 : Int32) (0 : Int32) kc104 h103 n0 ZS V_c104) hZ (hw _ (List.mem_of_getElem? (i := 42) rfl)) (hw _ (List.mem_of_getElem? (i := 32) rfl)) (by decide) (by decide)) (g := (mkF m 197 #[.val (.int q1), .val (.int q2), .val (.int q3), .val (.int q4), .val (.int q5), .val (.int q6), .val (.int f0), .val (.int f1), .val (.int f2), .val (.int f3), .val (.int f4), .val (.ref b92), .val (.int (0 : Int32)), .val (.int (1 : Int32)), .val (.int (2 : Int32)), .val (.int (3 : Int32)), .val (.int (4 : Int32)), .val (.int (own_code q1 f1)), .val (.int (own_code q2 f2)), .val (.int (own_code q3 f3)), .val (.int (own_code q4 f4)), .val (.int (0 : Int32))] [(.int (0 : Int32)), (.int (0 : Int32)), (.int (0 : Int32)), (.int (0 : Int32)), (.ref c104)])) rfl (by rw [hml]; rfl) (argsL := [(.ref c104), (.int (0 : Int32)), (.int (0 : Int32)), (.int (0 : Int32)), (.int (0 : Int32))]) (rest := []) (lenOf pd_4 rfl) rfl (by show 2 * 0 + _ ≤ _; exact Nat.le_of_eq rfl) (hb hby at_197) (fun _ _ => ⟨rfl, e103, (by decide : 7 + 0 ≤ _), (by decide : 88 + 0 ≤ _)⟩)
    dsimp only [Pt.U, Pt.locs, Pt.cells, Pt.slots] at X104 l104 y104 z104 st104 hQ104
    subst l104 y104 z104
    obtain ⟨rfl, N104q, e104⟩ := hQ104
    have NF := Fr.app NF N104q
    refine own_go st104 ?_
    show own_R _ _ _ _ (T104.setTop (mkF m 200 #[.val (.int q1), .val (.int q2), .val (.int q3), .val (.int q4), .val (.int q5), .val (.int q6), .val (.int f0), .val (.int f1), .val (.int f2), .val (.int f3), .val (.int f4), .val (.ref b92), .val (.int (0 : Int32)), .val (.int (1 : Int32)), .val (.int (2 : Int32)), .val (.int (3 : Int32)), .val (.int (4 : Int32)), .val (.int (own_code q1 f1)), .val (.int (own_code q2 f2)), .val (.int (own_code q3 f3)), .val (.int (own_code q4 f4)), .val (.int (0 : Int32))] [(.int (1 : Int32))]))
    exact own_retN X104 hx (t := .boolean) (by simp) Bd.returns (hb hby at_200) hlk ⟨rfl, NF⟩ (by decide) (by decide)
  · show own_R _ _ _ _ (T102.setTop (mkF m 181 #[.val (.int q1), .val (.int q2), .val (.int q3), .val (.int q4), .val (.int q5), .val (.int q6), .val (.int f0), .val (.int f1), .val (.int f2), .val (.int f3), .val (.int f4), .val (.ref b92), .val (.int (0 : Int32)), .val (.int (1 : Int32)), .val (.int (2 : Int32)), .val (.int (3 : Int32)), .val (.int (4 : Int32)), .val (.int (own_code q1 f1)), .val (.int (own_code q2 f2)), .val (.int (own_code q3 f3)), .val (.int (own_code q4 f4)), .val (.int (1 : Int32))] []))
    refine own_go (fun _ k => XS.iload X102.here hx rfl (hb hby at_181) rfl k) ?_
    show own_R _ _ _ _ (T102.setTop (mkF m 183 #[.val (.int q1), .val (.int q2), .val (.int q3), .val (.int q4), .val (.int q5), .val (.int q6), .val (.int f0), .val (.int f1), .val (.int f2), .val (.int f3), .val (.int f4), .val (.ref b92), .val (.int (0 : Int32)), .val (.int (1 : Int32)), .val (.int (2 : Int32)), .val (.int (3 : Int32)), .val (.int (4 : Int32)), .val (.int (own_code q1 f1)), .val (.int (own_code q2 f2)), .val (.int (own_code q3 f3)), .val (.int (own_code q4 f4)), .val (.int (1 : Int32))] [(.int (1 : Int32))]))
    refine own_go (fun _ k => XS.ifYes X102.here hx rfl (pc0 := 183) (pc' := 201) rfl (hb hby at_183) rfl ((if0 _ _).trans (feq (by decide : ¬ ((1 : Int32) = (0 : Int32)))).2) (by decide) (by decide) k) ?_
    show own_R _ _ _ _ (T102.setTop (mkF m 201 #[.val (.int q1), .val (.int q2), .val (.int q3), .val (.int q4), .val (.int q5), .val (.int q6), .val (.int f0), .val (.int f1), .val (.int f2), .val (.int f3), .val (.int f4), .val (.ref b92), .val (.int (0 : Int32)), .val (.int (1 : Int32)), .val (.int (2 : Int32)), .val (.int (3 : Int32)), .val (.int (4 : Int32)), .val (.int (own_code q1 f1)), .val (.int (own_code q2 f2)), .val (.int (own_code q3 f3)), .val (.int (own_code q4 f4)), .val (.int (1 : Int32))] []))
    refine own_go (fun _ k => XS.iload X102.here hx rfl (hb hby at_201) rfl k) ?_
    show own_R _ _ _ _ (T102.setTop (mkF m 203 #[.val (.int q1), .val (.int q2), .val (.int q3), .val (.int q4), .val (.int q5), .val (.int q6), .val (.int f0), .val (.int f1), .val (.int f2), .val (.int f3), .val (.int f4), .val (.ref b92), .val (.int (0 : Int32)), .val (.int (1 : Int32)), .val (.int (2 : Int32)), .val (.int (3 : Int32)), .val (.int (4 : Int32)), .val (.int (own_code q1 f1)), .val (.int (own_code q2 f2)), .val (.int (own_code q3 f3)), .val (.int (own_code q4 f4)), .val (.int (1 : Int32))] [(.int (1 : Int32))]))
    refine own_go (fun _ k => XS.iconst X102.here hx rfl (hb hby at_203) k) ?_
    show own_R _ _ _ _ (T102.setTop (mkF m 204 #[.val (.int q1), .val (.int q2), .val (.int q3), .val (.int q4), .val (.int q5), .val (.int q6), .val (.int f0), .val (.int f1), .val (.int f2), .val (.int f3), .val (.int f4), .val (.ref b92), .val (.int (0 : Int32)), .val (.int (1 : Int32)), .val (.int (2 : Int32)), .val (.int (3 : Int32)), .val (.int (4 : Int32)), .val (.int (own_code q1 f1)), .val (.int (own_code q2 f2)), .val (.int (own_code q3 f3)), .val (.int (own_code q4 f4)), .val (.int (1 : Int32))] [(.int (1 : Int32)), (.int (1 : Int32))]))
    refine own_go (fun _ k => XS.icmpNo X102.here hx rfl (hb hby at_204) rfl (teq (by decide : (1 : Int32) = (1 : Int32))).2 k) ?_
    show own_R _ _ _ _ (T102.setTop (mkF m 207 #[.val (.int q1), .val (.int q2), .val (.int q3), .val (.int q4), .val (.int q5), .val (.int q6), .val (.int f0), .val (.int f1), .val (.int f2), .val (.int f3), .val (.int f4), .val (.ref b92), .val (.int (0 : Int32)), .val (.int (1 : Int32)), .val (.int (2 : Int32)), .val (.int (3 : Int32)), .val (.int (4 : Int32)), .val (.int (own_code q1 f1)), .val (.int (own_code q2 f2)), .val (.int (own_code q3 f3)), .val (.int (own_code q4 f4)), .val (.int (1 : Int32))] []))
    refine own_go (fun _ k => XS.aload X102.here hx rfl (hb hby at_207) rfl rfl k) ?_
    show own_R _ _ _ _ (T102.setTop (mkF m 209 #[.val (.int q1), .val (.int q2), .val (.int q3), .val (.int q4), .val (.int q5), .val (.int q6), .val (.int f0), .val (.int f1), .val (.int f2), .val (.int f3), .val (.int f4), .val (.ref b92), .val (.int (0 : Int32)), .val (.int (1 : Int32)), .val (.int (2 : Int32)), .val (.int (3 : Int32)), .val (.int (4 : Int32)), .val (.int (own_code q1 f1)), .val (.int (own_code q2 f2)), .val (.int (own_code q3 f3)), .val (.int (own_code q4 f4)), .val (.int (1 : Int32))] [(.ref b92)]))
    refine own_go (fun _ k => XS.iload X102.here hx rfl (hb hby at_209) rfl k) ?_
    show own_R _ _ _ _ (T102.setTop (mkF m 211 #[.val (.int q1), .val (.int q2), .val (.int q3), .val (.int q4), .val (.int q5), .val (.int q6), .val (.int f0), .val (.int f1), .val (.int f2), .val (.int f3), .val (.int f4), .val (.ref b92), .val (.int (0 : Int32)), .val (.int (1 : Int32)), .val (.int (2 : Int32)), .val (.int (3 : Int32)), .val (.int (4 : Int32)), .val (.int (own_code q1 f1)), .val (.int (own_code q2 f2)), .val (.int (own_code q3 f3)), .val (.int (own_code q4 f4)), .val (.int (1 : Int32))] [(.int (1 : Int32)), (.ref b92)]))
    obtain ⟨cq105, kq105, q105a, q105b, q105c⟩ := isOf hZ e102 E_b92
    obtain ⟨_, _, ⟨T105, L105, k105, n105⟩, -, X105, ⟨Lc105, hQ105, l105, y105, z105⟩, st105⟩ := X102.virtualBack hx (y := (⟨"com/example/clearlot/clearlot/search/PartTree", "branches", "(I)[I"⟩ : MethodName)) (z := (⟨"com/example/clearlot/clearlot/search/PartTree", "branches", "(I)[I"⟩ : MethodName)) hown (mvT hZ (hw _ (List.mem_of_getElem? (i := 35) rfl))) (mvT hZ (hw _ (List.mem_of_getElem? (i := 36) rfl))) (notFace_of_selects (args := #[]) (mvT hZ (hw _ (List.mem_of_getElem? (i := 38) rfl)))) (mvT hZ (hw _ (List.mem_of_getElem? (i := 38) rfl))) (mvT hZ (hw _ (List.mem_of_getElem? (i := 37) rfl))) (by decide) (backOf (W := 0) (rm5_1 l Z a0 hw [] b92 c94 d94 kc94 kd94 (own_code q4 f0) (own_code q1 f1) (own_code q2 f2) (own_code q3 f3) (own_code q4 f4) h98 n0 ZS F_parents_b92 F_branches_b92 V_c94 V_d94) hZ (hw _ (List.mem_of_getElem? (i := 39) rfl)) (hw _ (List.mem_of_getElem? (i := 2) rfl)) (by decide) (by decide)) q105a q105c (g := (mkF m 211 #[.val (.int q1), .val (.int q2), .val (.int q3), .val (.int q4), .val (.int q5), .val (.int q6), .val (.int f0), .val (.int f1), .val (.int f2), .val (.int f3), .val (.int f4), .val (.ref b92), .val (.int (0 : Int32)), .val (.int (1 : Int32)), .val (.int (2 : Int32)), .val (.int (3 : Int32)), .val (.int (4 : Int32)), .val (.int (own_code q1 f1)), .val (.int (own_code q2 f2)), .val (.int (own_code q3 f3)), .val (.int (own_code q4 f4)), .val (.int (1 : Int32))] [(.int (1 : Int32)), (.ref b92)])) rfl (by rw [hml]; rfl) (Steps.refl _) (argsL := [(.int (1 : Int32))]) (rest := []) (lenOf pd_3 rfl) rfl (by show 2 * 0 + _ ≤ _; exact Nat.le_of_eq rfl) (hb hby at_211) (fun _ _ => ⟨rfl, e102, (by decide : 6 + 1 ≤ _), (by decide : 88 + 1 ≤ _)⟩)
    dsimp only [Pt.U, Pt.locs, Pt.cells, Pt.slots] at X105 l105 y105 z105 st105 hQ105
    subst l105 y105 z105
    obtain ⟨h105, e105'⟩ : ∃ z, z = T105.heap := ⟨_, rfl⟩
    rw [← e105'] at hQ105
    have e105 : T105.heap = h105 := e105'.symm
    obtain ⟨c106, rfl, N105q, K105, hbc106, kc106, Vc106'⟩ := hQ105
    have NF := Fr.app NF N105q
    refine own_go (fun _ k => st105.trans k) ?_
    have ne_b92_c106 : b92 ≠ c106 := Nat.ne_of_lt (Nat.lt_of_lt_of_le E_b92.lt hbc106)
    have ne_c94_c106 : c94 ≠ c106 := Nat.ne_of_lt (Nat.lt_of_lt_of_le V_c94.lt hbc106)
    have ne_d94_c106 : d94 ≠ c106 := Nat.ne_of_lt (Nat.lt_of_lt_of_le V_d94.lt hbc106)
    have g_c106 : n0 ≤ c106 := Nat.le_trans ZS hbc106
    have sz_c106 : h0.size ≤ c106 := Nat.le_trans KP.1 hbc106
    have E_b92 := E_b92.keep K105
    have F_nodes_b92 := F_nodes_b92.keep K105 nin0
    have F_parents_b92 := F_parents_b92.keep K105 nin0
    have F_branches_b92 := F_branches_b92.keep K105 nin0
    have V_c94 := V_c94.keep K105 nin0
    have V_d94 := V_d94.keep K105 nin0
    have ZS := Nat.le_trans ZS K105.1
    have KP := KP.trans K105 all0
    have V_c106 := Vc106'
    show own_R _ _ _ _ (T105.setTop (mkF m 214 #[.val (.int q1), .val (.int q2), .val (.int q3), .val (.int q4), .val (.int q5), .val (.int q6), .val (.int f0), .val (.int f1), .val (.int f2), .val (.int f3), .val (.int f4), .val (.ref b92), .val (.int (0 : Int32)), .val (.int (1 : Int32)), .val (.int (2 : Int32)), .val (.int (3 : Int32)), .val (.int (4 : Int32)), .val (.int (own_code q1 f1)), .val (.int (own_code q2 f2)), .val (.int (own_code q3 f3)), .val (.int (own_code q4 f4)), .val (.int (1 : Int32))] [(.ref c106)]))
    refine own_go (fun _ k => XS.iconst X105.here hx rfl (hb hby at_214) k) ?_
    show own_R _ _ _ _ (T105.setTop (mkF m 215 #[.val (.int q1), .val (.int q2), .val (.int q3), .val (.int q4), .val (.int q5), .val (.int q6), .val (.int f0), .val (.int f1), .val (.int f2), .val (.int f3), .val (.int f4), .val (.ref b92), .val (.int (0 : Int32)), .val (.int (1 : Int32)), .val (.int (2 : Int32)), .val (.int (3 : Int32)), .val (.int (4 : Int32)), .val (.int (own_code q1 f1)), .val (.int (own_code q2 f2)), .val (.int (own_code q3 f3)), .val (.int (own_code q4 f4)), .val (.int (1 : Int32))] [(.int (1 : Int32)), (.ref c106)]))
    refine own_go (fun _ k => XS.iload X105.here hx rfl (hb hby at_215) rfl k) ?_
    show own_R _ _ _ _ (T105.setTop (mkF m 217 #[.val (.int q1), .val (.int q2), .val (.int q3), .val (.int q4), .val (.int q5), .val (.int q6), .val (.int f0), .val (.int f1), .val (.int f2), .val (.int f3), .val (.int f4), .val (.ref b92), .val (.int (0 : Int32)), .val (.int (1 : Int32)), .val (.int (2 : Int32)), .val (.int (3 : Int32)), .val (.int (4 : Int32)), .val (.int (own_code q1 f1)), .val (.int (own_code q2 f2)), .val (.int (own_code q3 f3)), .val (.int (own_code q4 f4)), .val (.int (1 : Int32))] [(.int (own_code q1 f1)), (.int (1 : Int32)), (.ref c106)]))
    refine own_go (fun _ k => XS.iconst X105.here hx rfl (hb hby at_217) k) ?_
    show own_R _ _ _ _ (T105.setTop (mkF m 218 #[.val (.int q1), .val (.int q2), .val (.int q3), .val (.int q4), .val (.int q5), .val (.int q6), .val (.int f0), .val (.int f1), .val (.int f2), .val (.int f3), .val (.int f4), .val (.ref b92), .val (.int (0 : Int32)), .val (.int (1 : Int32)), .val (.int (2 : Int32)), .val (.int (3 : Int32)), .val (.int (4 : Int32)), .val (.int (own_code q1 f1)), .val (.int (own_code q2 f2)), .val (.int (own_code q3 f3)), .val (.int (own_code q4 f4)), .val (.int (1 : Int32))] [(.int (0 : Int32)), (.int (own_code q1 f1)), (.int (1 : Int32)), (.ref c106)]))
    refine own_go (fun _ k => XS.iconst X105.here hx rfl (hb hby at_218) k) ?_
    show own_R _ _ _ _ (T105.setTop (mkF m 219 #[.val (.int q1), .val (.int q2), .val (.int q3), .val (.int q4), .val (.int q5), .val (.int q6), .val (.int f0), .val (.int f1), .val (.int f2), .val (.int f3), .val (.int f4), .val (.ref b92), .val (.int (0 : Int32)), .val (.int (1 : Int32)), .val (.int (2 : Int32)), .val (.int (3 : Int32)), .val (.int (4 : Int32)), .val (.int (own_code q1 f1)), .val (.int (own_code q2 f2)), .val (.int (own_code q3 f3)), .val (.int (own_code q4 f4)), .val (.int (1 : Int32))] [(.int (0 : Int32)), (.int (0 : Int32)), (.int (own_code q1 f1)), (.int (1 : Int32)), (.ref c106)]))
    obtain ⟨_, _, ⟨T106, L106, k106, n106⟩, -, X106, ⟨Lc106, hQ106, l106, y106, z106⟩, st106⟩ := Jvm.LawKit.callS X105 hx (y := (⟨"com/example/clearlot/clearlot/search/PartTreeBranchesPinLaw", "same", "([IIIII)Z"⟩ : MethodName)) hown (mvT hZ (hw _ (List.mem_of_getElem? (i := 40) rfl))) (mvT hZ (hw _ (List.mem_of_getElem? (i := 41) rfl))) (mvT hZ (hw _ (List.mem_of_getElem? (i := 32) rfl))) (mvT hZ (hw _ (List.mem_of_getElem? (i := 42) rfl))) (by decide) (backOf (W := 0) (rm6_1 l Z a0 hw [] c106 (own_code q1 f1) (0 : Int32) (0 : Int32) kc106 h105 n0 ZS V_c106) hZ (hw _ (List.mem_of_getElem? (i := 42) rfl)) (hw _ (List.mem_of_getElem? (i := 32) rfl)) (by decide) (by decide)) (g := (mkF m 219 #[.val (.int q1), .val (.int q2), .val (.int q3), .val (.int q4), .val (.int q5), .val (.int q6), .val (.int f0), .val (.int f1), .val (.int f2), .val (.int f3), .val (.int f4), .val (.ref b92), .val (.int (0 : Int32)), .val (.int (1 : Int32)), .val (.int (2 : Int32)), .val (.int (3 : Int32)), .val (.int (4 : Int32)), .val (.int (own_code q1 f1)), .val (.int (own_code q2 f2)), .val (.int (own_code q3 f3)), .val (.int (own_code q4 f4)), .val (.int (1 : Int32))] [(.int (0 : Int32)), (.int (0 : Int32)), (.int (own_code q1 f1)), (.int (1 : Int32)), (.ref c106)])) rfl (by rw [hml]; rfl) (argsL := [(.ref c106), (.int (1 : Int32)), (.int (own_code q1 f1)), (.int (0 : Int32)), (.int (0 : Int32))]) (rest := []) (lenOf pd_4 rfl) rfl (by show 2 * 0 + _ ≤ _; exact Nat.le_of_eq rfl) (hb hby at_219) (fun _ _ => ⟨rfl, e105, (by decide : 7 + 0 ≤ _), (by decide : 89 + 0 ≤ _)⟩)
    dsimp only [Pt.U, Pt.locs, Pt.cells, Pt.slots] at X106 l106 y106 z106 st106 hQ106
    subst l106 y106 z106
    obtain ⟨rfl, N106q, e106⟩ := hQ106
    have NF := Fr.app NF N106q
    refine own_go st106 ?_
    show own_R _ _ _ _ (T106.setTop (mkF m 222 #[.val (.int q1), .val (.int q2), .val (.int q3), .val (.int q4), .val (.int q5), .val (.int q6), .val (.int f0), .val (.int f1), .val (.int f2), .val (.int f3), .val (.int f4), .val (.ref b92), .val (.int (0 : Int32)), .val (.int (1 : Int32)), .val (.int (2 : Int32)), .val (.int (3 : Int32)), .val (.int (4 : Int32)), .val (.int (own_code q1 f1)), .val (.int (own_code q2 f2)), .val (.int (own_code q3 f3)), .val (.int (own_code q4 f4)), .val (.int (1 : Int32))] [(.int (1 : Int32))]))
    exact own_retN X106 hx (t := .boolean) (by simp) Bd.returns (hb hby at_222) hlk ⟨rfl, NF⟩ (by decide) (by decide)
  · show own_R _ _ _ _ (T102.setTop (mkF m 181 #[.val (.int q1), .val (.int q2), .val (.int q3), .val (.int q4), .val (.int q5), .val (.int q6), .val (.int f0), .val (.int f1), .val (.int f2), .val (.int f3), .val (.int f4), .val (.ref b92), .val (.int (0 : Int32)), .val (.int (1 : Int32)), .val (.int (2 : Int32)), .val (.int (3 : Int32)), .val (.int (4 : Int32)), .val (.int (own_code q1 f1)), .val (.int (own_code q2 f2)), .val (.int (own_code q3 f3)), .val (.int (own_code q4 f4)), .val (.int (2 : Int32))] []))
    refine own_go (fun _ k => XS.iload X102.here hx rfl (hb hby at_181) rfl k) ?_
    show own_R _ _ _ _ (T102.setTop (mkF m 183 #[.val (.int q1), .val (.int q2), .val (.int q3), .val (.int q4), .val (.int q5), .val (.int q6), .val (.int f0), .val (.int f1), .val (.int f2), .val (.int f3), .val (.int f4), .val (.ref b92), .val (.int (0 : Int32)), .val (.int (1 : Int32)), .val (.int (2 : Int32)), .val (.int (3 : Int32)), .val (.int (4 : Int32)), .val (.int (own_code q1 f1)), .val (.int (own_code q2 f2)), .val (.int (own_code q3 f3)), .val (.int (own_code q4 f4)), .val (.int (2 : Int32))] [(.int (2 : Int32))]))
    refine own_go (fun _ k => XS.ifYes X102.here hx rfl (pc0 := 183) (pc' := 201) rfl (hb hby at_183) rfl ((if0 _ _).trans (feq (by decide : ¬ ((2 : Int32) = (0 : Int32)))).2) (by decide) (by decide) k) ?_
    show own_R _ _ _ _ (T102.setTop (mkF m 201 #[.val (.int q1), .val (.int q2), .val (.int q3), .val (.int q4), .val (.int q5), .val (.int q6), .val (.int f0), .val (.int f1), .val (.int f2), .val (.int f3), .val (.int f4), .val (.ref b92), .val (.int (0 : Int32)), .val (.int (1 : Int32)), .val (.int (2 : Int32)), .val (.int (3 : Int32)), .val (.int (4 : Int32)), .val (.int (own_code q1 f1)), .val (.int (own_code q2 f2)), .val (.int (own_code q3 f3)), .val (.int (own_code q4 f4)), .val (.int (2 : Int32))] []))
    refine own_go (fun _ k => XS.iload X102.here hx rfl (hb hby at_201) rfl k) ?_
    show own_R _ _ _ _ (T102.setTop (mkF m 203 #[.val (.int q1), .val (.int q2), .val (.int q3), .val (.int q4), .val (.int q5), .val (.int q6), .val (.int f0), .val (.int f1), .val (.int f2), .val (.int f3), .val (.int f4), .val (.ref b92), .val (.int (0 : Int32)), .val (.int (1 : Int32)), .val (.int (2 : Int32)), .val (.int (3 : Int32)), .val (.int (4 : Int32)), .val (.int (own_code q1 f1)), .val (.int (own_code q2 f2)), .val (.int (own_code q3 f3)), .val (.int (own_code q4 f4)), .val (.int (2 : Int32))] [(.int (2 : Int32))]))
    refine own_go (fun _ k => XS.iconst X102.here hx rfl (hb hby at_203) k) ?_
    show own_R _ _ _ _ (T102.setTop (mkF m 204 #[.val (.int q1), .val (.int q2), .val (.int q3), .val (.int q4), .val (.int q5), .val (.int q6), .val (.int f0), .val (.int f1), .val (.int f2), .val (.int f3), .val (.int f4), .val (.ref b92), .val (.int (0 : Int32)), .val (.int (1 : Int32)), .val (.int (2 : Int32)), .val (.int (3 : Int32)), .val (.int (4 : Int32)), .val (.int (own_code q1 f1)), .val (.int (own_code q2 f2)), .val (.int (own_code q3 f3)), .val (.int (own_code q4 f4)), .val (.int (2 : Int32))] [(.int (1 : Int32)), (.int (2 : Int32))]))
    refine own_go (fun _ k => XS.icmpYes X102.here hx rfl (pc0 := 204) (pc' := 223) rfl (hb hby at_204) rfl (feq (by decide : ¬ ((2 : Int32) = (1 : Int32)))).2 (by decide) (by decide) k) ?_
    show own_R _ _ _ _ (T102.setTop (mkF m 223 #[.val (.int q1), .val (.int q2), .val (.int q3), .val (.int q4), .val (.int q5), .val (.int q6), .val (.int f0), .val (.int f1), .val (.int f2), .val (.int f3), .val (.int f4), .val (.ref b92), .val (.int (0 : Int32)), .val (.int (1 : Int32)), .val (.int (2 : Int32)), .val (.int (3 : Int32)), .val (.int (4 : Int32)), .val (.int (own_code q1 f1)), .val (.int (own_code q2 f2)), .val (.int (own_code q3 f3)), .val (.int (own_code q4 f4)), .val (.int (2 : Int32))] []))
    refine own_go (fun _ k => XS.iload X102.here hx rfl (hb hby at_223) rfl k) ?_
    show own_R _ _ _ _ (T102.setTop (mkF m 225 #[.val (.int q1), .val (.int q2), .val (.int q3), .val (.int q4), .val (.int q5), .val (.int q6), .val (.int f0), .val (.int f1), .val (.int f2), .val (.int f3), .val (.int f4), .val (.ref b92), .val (.int (0 : Int32)), .val (.int (1 : Int32)), .val (.int (2 : Int32)), .val (.int (3 : Int32)), .val (.int (4 : Int32)), .val (.int (own_code q1 f1)), .val (.int (own_code q2 f2)), .val (.int (own_code q3 f3)), .val (.int (own_code q4 f4)), .val (.int (2 : Int32))] [(.int (2 : Int32))]))
    refine own_go (fun _ k => XS.iconst X102.here hx rfl (hb hby at_225) k) ?_
    show own_R _ _ _ _ (T102.setTop (mkF m 226 #[.val (.int q1), .val (.int q2), .val (.int q3), .val (.int q4), .val (.int q5), .val (.int q6), .val (.int f0), .val (.int f1), .val (.int f2), .val (.int f3), .val (.int f4), .val (.ref b92), .val (.int (0 : Int32)), .val (.int (1 : Int32)), .val (.int (2 : Int32)), .val (.int (3 : Int32)), .val (.int (4 : Int32)), .val (.int (own_code q1 f1)), .val (.int (own_code q2 f2)), .val (.int (own_code q3 f3)), .val (.int (own_code q4 f4)), .val (.int (2 : Int32))] [(.int (2 : Int32)), (.int (2 : Int32))]))
    refine own_go (fun _ k => XS.icmpNo X102.here hx rfl (hb hby at_226) rfl (teq (by decide : (2 : Int32) = (2 : Int32))).2 k) ?_
    show own_R _ _ _ _ (T102.setTop (mkF m 229 #[.val (.int q1), .val (.int q2), .val (.int q3), .val (.int q4), .val (.int q5), .val (.int q6), .val (.int f0), .val (.int f1), .val (.int f2), .val (.int f3), .val (.int f4), .val (.ref b92), .val (.int (0 : Int32)), .val (.int (1 : Int32)), .val (.int (2 : Int32)), .val (.int (3 : Int32)), .val (.int (4 : Int32)), .val (.int (own_code q1 f1)), .val (.int (own_code q2 f2)), .val (.int (own_code q3 f3)), .val (.int (own_code q4 f4)), .val (.int (2 : Int32))] []))
    refine own_go (fun _ k => XS.aload X102.here hx rfl (hb hby at_229) rfl rfl k) ?_
    show own_R _ _ _ _ (T102.setTop (mkF m 231 #[.val (.int q1), .val (.int q2), .val (.int q3), .val (.int q4), .val (.int q5), .val (.int q6), .val (.int f0), .val (.int f1), .val (.int f2), .val (.int f3), .val (.int f4), .val (.ref b92), .val (.int (0 : Int32)), .val (.int (1 : Int32)), .val (.int (2 : Int32)), .val (.int (3 : Int32)), .val (.int (4 : Int32)), .val (.int (own_code q1 f1)), .val (.int (own_code q2 f2)), .val (.int (own_code q3 f3)), .val (.int (own_code q4 f4)), .val (.int (2 : Int32))] [(.ref b92)]))
    refine own_go (fun _ k => XS.iload X102.here hx rfl (hb hby at_231) rfl k) ?_
    show own_R _ _ _ _ (T102.setTop (mkF m 233 #[.val (.int q1), .val (.int q2), .val (.int q3), .val (.int q4), .val (.int q5), .val (.int q6), .val (.int f0), .val (.int f1), .val (.int f2), .val (.int f3), .val (.int f4), .val (.ref b92), .val (.int (0 : Int32)), .val (.int (1 : Int32)), .val (.int (2 : Int32)), .val (.int (3 : Int32)), .val (.int (4 : Int32)), .val (.int (own_code q1 f1)), .val (.int (own_code q2 f2)), .val (.int (own_code q3 f3)), .val (.int (own_code q4 f4)), .val (.int (2 : Int32))] [(.int (2 : Int32)), (.ref b92)]))
    obtain ⟨cq107, kq107, q107a, q107b, q107c⟩ := isOf hZ e102 E_b92
    obtain ⟨_, _, ⟨T107, L107, k107, n107⟩, -, X107, ⟨Lc107, hQ107, l107, y107, z107⟩, st107⟩ := X102.virtualBack hx (y := (⟨"com/example/clearlot/clearlot/search/PartTree", "branches", "(I)[I"⟩ : MethodName)) (z := (⟨"com/example/clearlot/clearlot/search/PartTree", "branches", "(I)[I"⟩ : MethodName)) hown (mvT hZ (hw _ (List.mem_of_getElem? (i := 35) rfl))) (mvT hZ (hw _ (List.mem_of_getElem? (i := 36) rfl))) (notFace_of_selects (args := #[]) (mvT hZ (hw _ (List.mem_of_getElem? (i := 38) rfl)))) (mvT hZ (hw _ (List.mem_of_getElem? (i := 38) rfl))) (mvT hZ (hw _ (List.mem_of_getElem? (i := 37) rfl))) (by decide) (backOf (W := 0) (rm5_2 l Z a0 hw [] b92 c94 d94 kc94 kd94 (own_code q4 f0) (own_code q1 f1) (own_code q2 f2) (own_code q3 f3) (own_code q4 f4) h98 n0 ZS F_parents_b92 F_branches_b92 V_c94 V_d94) hZ (hw _ (List.mem_of_getElem? (i := 39) rfl)) (hw _ (List.mem_of_getElem? (i := 2) rfl)) (by decide) (by decide)) q107a q107c (g := (mkF m 233 #[.val (.int q1), .val (.int q2), .val (.int q3), .val (.int q4), .val (.int q5), .val (.int q6), .val (.int f0), .val (.int f1), .val (.int f2), .val (.int f3), .val (.int f4), .val (.ref b92), .val (.int (0 : Int32)), .val (.int (1 : Int32)), .val (.int (2 : Int32)), .val (.int (3 : Int32)), .val (.int (4 : Int32)), .val (.int (own_code q1 f1)), .val (.int (own_code q2 f2)), .val (.int (own_code q3 f3)), .val (.int (own_code q4 f4)), .val (.int (2 : Int32))] [(.int (2 : Int32)), (.ref b92)])) rfl (by rw [hml]; rfl) (Steps.refl _) (argsL := [(.int (2 : Int32))]) (rest := []) (lenOf pd_3 rfl) rfl (by show 2 * 0 + _ ≤ _; exact Nat.le_of_eq rfl) (hb hby at_233) (fun _ _ => ⟨rfl, e102, (by decide : 6 + 1 ≤ _), (by decide : 88 + 2 ≤ _)⟩)
    dsimp only [Pt.U, Pt.locs, Pt.cells, Pt.slots] at X107 l107 y107 z107 st107 hQ107
    subst l107 y107 z107
    obtain ⟨h107, e107'⟩ : ∃ z, z = T107.heap := ⟨_, rfl⟩
    rw [← e107'] at hQ107
    have e107 : T107.heap = h107 := e107'.symm
    obtain ⟨c108, rfl, N107q, K107, hbc108, kc108, Vc108'⟩ := hQ107
    have NF := Fr.app NF N107q
    refine own_go (fun _ k => st107.trans k) ?_
    have ne_b92_c108 : b92 ≠ c108 := Nat.ne_of_lt (Nat.lt_of_lt_of_le E_b92.lt hbc108)
    have ne_c94_c108 : c94 ≠ c108 := Nat.ne_of_lt (Nat.lt_of_lt_of_le V_c94.lt hbc108)
    have ne_d94_c108 : d94 ≠ c108 := Nat.ne_of_lt (Nat.lt_of_lt_of_le V_d94.lt hbc108)
    have g_c108 : n0 ≤ c108 := Nat.le_trans ZS hbc108
    have sz_c108 : h0.size ≤ c108 := Nat.le_trans KP.1 hbc108
    have E_b92 := E_b92.keep K107
    have F_nodes_b92 := F_nodes_b92.keep K107 nin0
    have F_parents_b92 := F_parents_b92.keep K107 nin0
    have F_branches_b92 := F_branches_b92.keep K107 nin0
    have V_c94 := V_c94.keep K107 nin0
    have V_d94 := V_d94.keep K107 nin0
    have ZS := Nat.le_trans ZS K107.1
    have KP := KP.trans K107 all0
    have V_c108 := Vc108'
    show own_R _ _ _ _ (T107.setTop (mkF m 236 #[.val (.int q1), .val (.int q2), .val (.int q3), .val (.int q4), .val (.int q5), .val (.int q6), .val (.int f0), .val (.int f1), .val (.int f2), .val (.int f3), .val (.int f4), .val (.ref b92), .val (.int (0 : Int32)), .val (.int (1 : Int32)), .val (.int (2 : Int32)), .val (.int (3 : Int32)), .val (.int (4 : Int32)), .val (.int (own_code q1 f1)), .val (.int (own_code q2 f2)), .val (.int (own_code q3 f3)), .val (.int (own_code q4 f4)), .val (.int (2 : Int32))] [(.ref c108)]))
    refine own_go (fun _ k => XS.iconst X107.here hx rfl (hb hby at_236) k) ?_
    show own_R _ _ _ _ (T107.setTop (mkF m 237 #[.val (.int q1), .val (.int q2), .val (.int q3), .val (.int q4), .val (.int q5), .val (.int q6), .val (.int f0), .val (.int f1), .val (.int f2), .val (.int f3), .val (.int f4), .val (.ref b92), .val (.int (0 : Int32)), .val (.int (1 : Int32)), .val (.int (2 : Int32)), .val (.int (3 : Int32)), .val (.int (4 : Int32)), .val (.int (own_code q1 f1)), .val (.int (own_code q2 f2)), .val (.int (own_code q3 f3)), .val (.int (own_code q4 f4)), .val (.int (2 : Int32))] [(.int (2 : Int32)), (.ref c108)]))
    refine own_go (fun _ k => XS.iload X107.here hx rfl (hb hby at_237) rfl k) ?_
    show own_R _ _ _ _ (T107.setTop (mkF m 239 #[.val (.int q1), .val (.int q2), .val (.int q3), .val (.int q4), .val (.int q5), .val (.int q6), .val (.int f0), .val (.int f1), .val (.int f2), .val (.int f3), .val (.int f4), .val (.ref b92), .val (.int (0 : Int32)), .val (.int (1 : Int32)), .val (.int (2 : Int32)), .val (.int (3 : Int32)), .val (.int (4 : Int32)), .val (.int (own_code q1 f1)), .val (.int (own_code q2 f2)), .val (.int (own_code q3 f3)), .val (.int (own_code q4 f4)), .val (.int (2 : Int32))] [(.int (own_code q1 f1)), (.int (2 : Int32)), (.ref c108)]))
    refine own_go (fun _ k => XS.iload X107.here hx rfl (hb hby at_239) rfl k) ?_
    show own_R _ _ _ _ (T107.setTop (mkF m 241 #[.val (.int q1), .val (.int q2), .val (.int q3), .val (.int q4), .val (.int q5), .val (.int q6), .val (.int f0), .val (.int f1), .val (.int f2), .val (.int f3), .val (.int f4), .val (.ref b92), .val (.int (0 : Int32)), .val (.int (1 : Int32)), .val (.int (2 : Int32)), .val (.int (3 : Int32)), .val (.int (4 : Int32)), .val (.int (own_code q1 f1)), .val (.int (own_code q2 f2)), .val (.int (own_code q3 f3)), .val (.int (own_code q4 f4)), .val (.int (2 : Int32))] [(.int (own_code q2 f2)), (.int (own_code q1 f1)), (.int (2 : Int32)), (.ref c108)]))
    refine own_go (fun _ k => XS.iconst X107.here hx rfl (hb hby at_241) k) ?_
    show own_R _ _ _ _ (T107.setTop (mkF m 242 #[.val (.int q1), .val (.int q2), .val (.int q3), .val (.int q4), .val (.int q5), .val (.int q6), .val (.int f0), .val (.int f1), .val (.int f2), .val (.int f3), .val (.int f4), .val (.ref b92), .val (.int (0 : Int32)), .val (.int (1 : Int32)), .val (.int (2 : Int32)), .val (.int (3 : Int32)), .val (.int (4 : Int32)), .val (.int (own_code q1 f1)), .val (.int (own_code q2 f2)), .val (.int (own_code q3 f3)), .val (.int (own_code q4 f4)), .val (.int (2 : Int32))] [(.int (0 : Int32)), (.int (own_code q2 f2)), (.int (own_code q1 f1)), (.int (2 : Int32)), (.ref c108)]))
    obtain ⟨_, _, ⟨T108, L108, k108, n108⟩, -, X108, ⟨Lc108, hQ108, l108, y108, z108⟩, st108⟩ := Jvm.LawKit.callS X107 hx (y := (⟨"com/example/clearlot/clearlot/search/PartTreeBranchesPinLaw", "same", "([IIIII)Z"⟩ : MethodName)) hown (mvT hZ (hw _ (List.mem_of_getElem? (i := 40) rfl))) (mvT hZ (hw _ (List.mem_of_getElem? (i := 41) rfl))) (mvT hZ (hw _ (List.mem_of_getElem? (i := 32) rfl))) (mvT hZ (hw _ (List.mem_of_getElem? (i := 42) rfl))) (by decide) (backOf (W := 0) (rm6_2 l Z a0 hw [] c108 (own_code q1 f1) (own_code q2 f2) (0 : Int32) kc108 h107 n0 ZS V_c108) hZ (hw _ (List.mem_of_getElem? (i := 42) rfl)) (hw _ (List.mem_of_getElem? (i := 32) rfl)) (by decide) (by decide)) (g := (mkF m 242 #[.val (.int q1), .val (.int q2), .val (.int q3), .val (.int q4), .val (.int q5), .val (.int q6), .val (.int f0), .val (.int f1), .val (.int f2), .val (.int f3), .val (.int f4), .val (.ref b92), .val (.int (0 : Int32)), .val (.int (1 : Int32)), .val (.int (2 : Int32)), .val (.int (3 : Int32)), .val (.int (4 : Int32)), .val (.int (own_code q1 f1)), .val (.int (own_code q2 f2)), .val (.int (own_code q3 f3)), .val (.int (own_code q4 f4)), .val (.int (2 : Int32))] [(.int (0 : Int32)), (.int (own_code q2 f2)), (.int (own_code q1 f1)), (.int (2 : Int32)), (.ref c108)])) rfl (by rw [hml]; rfl) (argsL := [(.ref c108), (.int (2 : Int32)), (.int (own_code q1 f1)), (.int (own_code q2 f2)), (.int (0 : Int32))]) (rest := []) (lenOf pd_4 rfl) rfl (by show 2 * 0 + _ ≤ _; exact Nat.le_of_eq rfl) (hb hby at_242) (fun _ _ => ⟨rfl, e107, (by decide : 7 + 0 ≤ _), (by decide : 90 + 0 ≤ _)⟩)
    dsimp only [Pt.U, Pt.locs, Pt.cells, Pt.slots] at X108 l108 y108 z108 st108 hQ108
    subst l108 y108 z108
    obtain ⟨rfl, N108q, e108⟩ := hQ108
    have NF := Fr.app NF N108q
    refine own_go st108 ?_
    show own_R _ _ _ _ (T108.setTop (mkF m 245 #[.val (.int q1), .val (.int q2), .val (.int q3), .val (.int q4), .val (.int q5), .val (.int q6), .val (.int f0), .val (.int f1), .val (.int f2), .val (.int f3), .val (.int f4), .val (.ref b92), .val (.int (0 : Int32)), .val (.int (1 : Int32)), .val (.int (2 : Int32)), .val (.int (3 : Int32)), .val (.int (4 : Int32)), .val (.int (own_code q1 f1)), .val (.int (own_code q2 f2)), .val (.int (own_code q3 f3)), .val (.int (own_code q4 f4)), .val (.int (2 : Int32))] [(.int (1 : Int32))]))
    exact own_retN X108 hx (t := .boolean) (by simp) Bd.returns (hb hby at_245) hlk ⟨rfl, NF⟩ (by decide) (by decide)
  · show own_R _ _ _ _ (T102.setTop (mkF m 181 #[.val (.int q1), .val (.int q2), .val (.int q3), .val (.int q4), .val (.int q5), .val (.int q6), .val (.int f0), .val (.int f1), .val (.int f2), .val (.int f3), .val (.int f4), .val (.ref b92), .val (.int (0 : Int32)), .val (.int (1 : Int32)), .val (.int (2 : Int32)), .val (.int (3 : Int32)), .val (.int (4 : Int32)), .val (.int (own_code q1 f1)), .val (.int (own_code q2 f2)), .val (.int (own_code q3 f3)), .val (.int (own_code q4 f4)), .val (.int (3 : Int32))] []))
    refine own_go (fun _ k => XS.iload X102.here hx rfl (hb hby at_181) rfl k) ?_
    show own_R _ _ _ _ (T102.setTop (mkF m 183 #[.val (.int q1), .val (.int q2), .val (.int q3), .val (.int q4), .val (.int q5), .val (.int q6), .val (.int f0), .val (.int f1), .val (.int f2), .val (.int f3), .val (.int f4), .val (.ref b92), .val (.int (0 : Int32)), .val (.int (1 : Int32)), .val (.int (2 : Int32)), .val (.int (3 : Int32)), .val (.int (4 : Int32)), .val (.int (own_code q1 f1)), .val (.int (own_code q2 f2)), .val (.int (own_code q3 f3)), .val (.int (own_code q4 f4)), .val (.int (3 : Int32))] [(.int (3 : Int32))]))
    refine own_go (fun _ k => XS.ifYes X102.here hx rfl (pc0 := 183) (pc' := 201) rfl (hb hby at_183) rfl ((if0 _ _).trans (feq (by decide : ¬ ((3 : Int32) = (0 : Int32)))).2) (by decide) (by decide) k) ?_
    show own_R _ _ _ _ (T102.setTop (mkF m 201 #[.val (.int q1), .val (.int q2), .val (.int q3), .val (.int q4), .val (.int q5), .val (.int q6), .val (.int f0), .val (.int f1), .val (.int f2), .val (.int f3), .val (.int f4), .val (.ref b92), .val (.int (0 : Int32)), .val (.int (1 : Int32)), .val (.int (2 : Int32)), .val (.int (3 : Int32)), .val (.int (4 : Int32)), .val (.int (own_code q1 f1)), .val (.int (own_code q2 f2)), .val (.int (own_code q3 f3)), .val (.int (own_code q4 f4)), .val (.int (3 : Int32))] []))
    refine own_go (fun _ k => XS.iload X102.here hx rfl (hb hby at_201) rfl k) ?_
    show own_R _ _ _ _ (T102.setTop (mkF m 203 #[.val (.int q1), .val (.int q2), .val (.int q3), .val (.int q4), .val (.int q5), .val (.int q6), .val (.int f0), .val (.int f1), .val (.int f2), .val (.int f3), .val (.int f4), .val (.ref b92), .val (.int (0 : Int32)), .val (.int (1 : Int32)), .val (.int (2 : Int32)), .val (.int (3 : Int32)), .val (.int (4 : Int32)), .val (.int (own_code q1 f1)), .val (.int (own_code q2 f2)), .val (.int (own_code q3 f3)), .val (.int (own_code q4 f4)), .val (.int (3 : Int32))] [(.int (3 : Int32))]))
    refine own_go (fun _ k => XS.iconst X102.here hx rfl (hb hby at_203) k) ?_
    show own_R _ _ _ _ (T102.setTop (mkF m 204 #[.val (.int q1), .val (.int q2), .val (.int q3), .val (.int q4), .val (.int q5), .val (.int q6), .val (.int f0), .val (.int f1), .val (.int f2), .val (.int f3), .val (.int f4), .val (.ref b92), .val (.int (0 : Int32)), .val (.int (1 : Int32)), .val (.int (2 : Int32)), .val (.int (3 : Int32)), .val (.int (4 : Int32)), .val (.int (own_code q1 f1)), .val (.int (own_code q2 f2)), .val (.int (own_code q3 f3)), .val (.int (own_code q4 f4)), .val (.int (3 : Int32))] [(.int (1 : Int32)), (.int (3 : Int32))]))
    refine own_go (fun _ k => XS.icmpYes X102.here hx rfl (pc0 := 204) (pc' := 223) rfl (hb hby at_204) rfl (feq (by decide : ¬ ((3 : Int32) = (1 : Int32)))).2 (by decide) (by decide) k) ?_
    show own_R _ _ _ _ (T102.setTop (mkF m 223 #[.val (.int q1), .val (.int q2), .val (.int q3), .val (.int q4), .val (.int q5), .val (.int q6), .val (.int f0), .val (.int f1), .val (.int f2), .val (.int f3), .val (.int f4), .val (.ref b92), .val (.int (0 : Int32)), .val (.int (1 : Int32)), .val (.int (2 : Int32)), .val (.int (3 : Int32)), .val (.int (4 : Int32)), .val (.int (own_code q1 f1)), .val (.int (own_code q2 f2)), .val (.int (own_code q3 f3)), .val (.int (own_code q4 f4)), .val (.int (3 : Int32))] []))
    refine own_go (fun _ k => XS.iload X102.here hx rfl (hb hby at_223) rfl k) ?_
    show own_R _ _ _ _ (T102.setTop (mkF m 225 #[.val (.int q1), .val (.int q2), .val (.int q3), .val (.int q4), .val (.int q5), .val (.int q6), .val (.int f0), .val (.int f1), .val (.int f2), .val (.int f3), .val (.int f4), .val (.ref b92), .val (.int (0 : Int32)), .val (.int (1 : Int32)), .val (.int (2 : Int32)), .val (.int (3 : Int32)), .val (.int (4 : Int32)), .val (.int (own_code q1 f1)), .val (.int (own_code q2 f2)), .val (.int (own_code q3 f3)), .val (.int (own_code q4 f4)), .val (.int (3 : Int32))] [(.int (3 : Int32))]))
    refine own_go (fun _ k => XS.iconst X102.here hx rfl (hb hby at_225) k) ?_
    show own_R _ _ _ _ (T102.setTop (mkF m 226 #[.val (.int q1), .val (.int q2), .val (.int q3), .val (.int q4), .val (.int q5), .val (.int q6), .val (.int f0), .val (.int f1), .val (.int f2), .val (.int f3), .val (.int f4), .val (.ref b92), .val (.int (0 : Int32)), .val (.int (1 : Int32)), .val (.int (2 : Int32)), .val (.int (3 : Int32)), .val (.int (4 : Int32)), .val (.int (own_code q1 f1)), .val (.int (own_code q2 f2)), .val (.int (own_code q3 f3)), .val (.int (own_code q4 f4)), .val (.int (3 : Int32))] [(.int (2 : Int32)), (.int (3 : Int32))]))
    refine own_go (fun _ k => XS.icmpYes X102.here hx rfl (pc0 := 226) (pc' := 246) rfl (hb hby at_226) rfl (feq (by decide : ¬ ((3 : Int32) = (2 : Int32)))).2 (by decide) (by decide) k) ?_
    show own_R _ _ _ _ (T102.setTop (mkF m 246 #[.val (.int q1), .val (.int q2), .val (.int q3), .val (.int q4), .val (.int q5), .val (.int q6), .val (.int f0), .val (.int f1), .val (.int f2), .val (.int f3), .val (.int f4), .val (.ref b92), .val (.int (0 : Int32)), .val (.int (1 : Int32)), .val (.int (2 : Int32)), .val (.int (3 : Int32)), .val (.int (4 : Int32)), .val (.int (own_code q1 f1)), .val (.int (own_code q2 f2)), .val (.int (own_code q3 f3)), .val (.int (own_code q4 f4)), .val (.int (3 : Int32))] []))
    refine own_go (fun _ k => XS.iload X102.here hx rfl (hb hby at_246) rfl k) ?_
    show own_R _ _ _ _ (T102.setTop (mkF m 248 #[.val (.int q1), .val (.int q2), .val (.int q3), .val (.int q4), .val (.int q5), .val (.int q6), .val (.int f0), .val (.int f1), .val (.int f2), .val (.int f3), .val (.int f4), .val (.ref b92), .val (.int (0 : Int32)), .val (.int (1 : Int32)), .val (.int (2 : Int32)), .val (.int (3 : Int32)), .val (.int (4 : Int32)), .val (.int (own_code q1 f1)), .val (.int (own_code q2 f2)), .val (.int (own_code q3 f3)), .val (.int (own_code q4 f4)), .val (.int (3 : Int32))] [(.int (3 : Int32))]))
    refine own_go (fun _ k => XS.iconst X102.here hx rfl (hb hby at_248) k) ?_
    show own_R _ _ _ _ (T102.setTop (mkF m 249 #[.val (.int q1), .val (.int q2), .val (.int q3), .val (.int q4), .val (.int q5), .val (.int q6), .val (.int f0), .val (.int f1), .val (.int f2), .val (.int f3), .val (.int f4), .val (.ref b92), .val (.int (0 : Int32)), .val (.int (1 : Int32)), .val (.int (2 : Int32)), .val (.int (3 : Int32)), .val (.int (4 : Int32)), .val (.int (own_code q1 f1)), .val (.int (own_code q2 f2)), .val (.int (own_code q3 f3)), .val (.int (own_code q4 f4)), .val (.int (3 : Int32))] [(.int (3 : Int32)), (.int (3 : Int32))]))
    refine own_go (fun _ k => XS.icmpNo X102.here hx rfl (hb hby at_249) rfl (teq (by decide : (3 : Int32) = (3 : Int32))).2 k) ?_
    show own_R _ _ _ _ (T102.setTop (mkF m 252 #[.val (.int q1), .val (.int q2), .val (.int q3), .val (.int q4), .val (.int q5), .val (.int q6), .val (.int f0), .val (.int f1), .val (.int f2), .val (.int f3), .val (.int f4), .val (.ref b92), .val (.int (0 : Int32)), .val (.int (1 : Int32)), .val (.int (2 : Int32)), .val (.int (3 : Int32)), .val (.int (4 : Int32)), .val (.int (own_code q1 f1)), .val (.int (own_code q2 f2)), .val (.int (own_code q3 f3)), .val (.int (own_code q4 f4)), .val (.int (3 : Int32))] []))
    refine own_go (fun _ k => XS.aload X102.here hx rfl (hb hby at_252) rfl rfl k) ?_
    show own_R _ _ _ _ (T102.setTop (mkF m 254 #[.val (.int q1), .val (.int q2), .val (.int q3), .val (.int q4), .val (.int q5), .val (.int q6), .val (.int f0), .val (.int f1), .val (.int f2), .val (.int f3), .val (.int f4), .val (.ref b92), .val (.int (0 : Int32)), .val (.int (1 : Int32)), .val (.int (2 : Int32)), .val (.int (3 : Int32)), .val (.int (4 : Int32)), .val (.int (own_code q1 f1)), .val (.int (own_code q2 f2)), .val (.int (own_code q3 f3)), .val (.int (own_code q4 f4)), .val (.int (3 : Int32))] [(.ref b92)]))
    refine own_go (fun _ k => XS.iload X102.here hx rfl (hb hby at_254) rfl k) ?_
    show own_R _ _ _ _ (T102.setTop (mkF m 256 #[.val (.int q1), .val (.int q2), .val (.int q3), .val (.int q4), .val (.int q5), .val (.int q6), .val (.int f0), .val (.int f1), .val (.int f2), .val (.int f3), .val (.int f4), .val (.ref b92), .val (.int (0 : Int32)), .val (.int (1 : Int32)), .val (.int (2 : Int32)), .val (.int (3 : Int32)), .val (.int (4 : Int32)), .val (.int (own_code q1 f1)), .val (.int (own_code q2 f2)), .val (.int (own_code q3 f3)), .val (.int (own_code q4 f4)), .val (.int (3 : Int32))] [(.int (3 : Int32)), (.ref b92)]))
    obtain ⟨cq109, kq109, q109a, q109b, q109c⟩ := isOf hZ e102 E_b92
    obtain ⟨_, _, ⟨T109, L109, k109, n109⟩, -, X109, ⟨Lc109, hQ109, l109, y109, z109⟩, st109⟩ := X102.virtualBack hx (y := (⟨"com/example/clearlot/clearlot/search/PartTree", "branches", "(I)[I"⟩ : MethodName)) (z := (⟨"com/example/clearlot/clearlot/search/PartTree", "branches", "(I)[I"⟩ : MethodName)) hown (mvT hZ (hw _ (List.mem_of_getElem? (i := 35) rfl))) (mvT hZ (hw _ (List.mem_of_getElem? (i := 36) rfl))) (notFace_of_selects (args := #[]) (mvT hZ (hw _ (List.mem_of_getElem? (i := 38) rfl)))) (mvT hZ (hw _ (List.mem_of_getElem? (i := 38) rfl))) (mvT hZ (hw _ (List.mem_of_getElem? (i := 37) rfl))) (by decide) (backOf (W := 0) (rm5_3 l Z a0 hw [] b92 c94 d94 kc94 kd94 (own_code q4 f0) (own_code q1 f1) (own_code q2 f2) (own_code q3 f3) (own_code q4 f4) h98 n0 ZS F_parents_b92 F_branches_b92 V_c94 V_d94) hZ (hw _ (List.mem_of_getElem? (i := 39) rfl)) (hw _ (List.mem_of_getElem? (i := 2) rfl)) (by decide) (by decide)) q109a q109c (g := (mkF m 256 #[.val (.int q1), .val (.int q2), .val (.int q3), .val (.int q4), .val (.int q5), .val (.int q6), .val (.int f0), .val (.int f1), .val (.int f2), .val (.int f3), .val (.int f4), .val (.ref b92), .val (.int (0 : Int32)), .val (.int (1 : Int32)), .val (.int (2 : Int32)), .val (.int (3 : Int32)), .val (.int (4 : Int32)), .val (.int (own_code q1 f1)), .val (.int (own_code q2 f2)), .val (.int (own_code q3 f3)), .val (.int (own_code q4 f4)), .val (.int (3 : Int32))] [(.int (3 : Int32)), (.ref b92)])) rfl (by rw [hml]; rfl) (Steps.refl _) (argsL := [(.int (3 : Int32))]) (rest := []) (lenOf pd_3 rfl) rfl (by show 2 * 0 + _ ≤ _; exact Nat.le_of_eq rfl) (hb hby at_256) (fun _ _ => ⟨rfl, e102, (by decide : 6 + 1 ≤ _), (by decide : 88 + 1 ≤ _)⟩)
    dsimp only [Pt.U, Pt.locs, Pt.cells, Pt.slots] at X109 l109 y109 z109 st109 hQ109
    subst l109 y109 z109
    obtain ⟨h109, e109'⟩ : ∃ z, z = T109.heap := ⟨_, rfl⟩
    rw [← e109'] at hQ109
    have e109 : T109.heap = h109 := e109'.symm
    obtain ⟨c110, rfl, N109q, K109, hbc110, kc110, Vc110'⟩ := hQ109
    have NF := Fr.app NF N109q
    refine own_go (fun _ k => st109.trans k) ?_
    have ne_b92_c110 : b92 ≠ c110 := Nat.ne_of_lt (Nat.lt_of_lt_of_le E_b92.lt hbc110)
    have ne_c94_c110 : c94 ≠ c110 := Nat.ne_of_lt (Nat.lt_of_lt_of_le V_c94.lt hbc110)
    have ne_d94_c110 : d94 ≠ c110 := Nat.ne_of_lt (Nat.lt_of_lt_of_le V_d94.lt hbc110)
    have g_c110 : n0 ≤ c110 := Nat.le_trans ZS hbc110
    have sz_c110 : h0.size ≤ c110 := Nat.le_trans KP.1 hbc110
    have E_b92 := E_b92.keep K109
    have F_nodes_b92 := F_nodes_b92.keep K109 nin0
    have F_parents_b92 := F_parents_b92.keep K109 nin0
    have F_branches_b92 := F_branches_b92.keep K109 nin0
    have V_c94 := V_c94.keep K109 nin0
    have V_d94 := V_d94.keep K109 nin0
    have ZS := Nat.le_trans ZS K109.1
    have KP := KP.trans K109 all0
    have V_c110 := Vc110'
    show own_R _ _ _ _ (T109.setTop (mkF m 259 #[.val (.int q1), .val (.int q2), .val (.int q3), .val (.int q4), .val (.int q5), .val (.int q6), .val (.int f0), .val (.int f1), .val (.int f2), .val (.int f3), .val (.int f4), .val (.ref b92), .val (.int (0 : Int32)), .val (.int (1 : Int32)), .val (.int (2 : Int32)), .val (.int (3 : Int32)), .val (.int (4 : Int32)), .val (.int (own_code q1 f1)), .val (.int (own_code q2 f2)), .val (.int (own_code q3 f3)), .val (.int (own_code q4 f4)), .val (.int (3 : Int32))] [(.ref c110)]))
    refine own_go (fun _ k => XS.iconst X109.here hx rfl (hb hby at_259) k) ?_
    show own_R _ _ _ _ (T109.setTop (mkF m 260 #[.val (.int q1), .val (.int q2), .val (.int q3), .val (.int q4), .val (.int q5), .val (.int q6), .val (.int f0), .val (.int f1), .val (.int f2), .val (.int f3), .val (.int f4), .val (.ref b92), .val (.int (0 : Int32)), .val (.int (1 : Int32)), .val (.int (2 : Int32)), .val (.int (3 : Int32)), .val (.int (4 : Int32)), .val (.int (own_code q1 f1)), .val (.int (own_code q2 f2)), .val (.int (own_code q3 f3)), .val (.int (own_code q4 f4)), .val (.int (3 : Int32))] [(.int (1 : Int32)), (.ref c110)]))
    refine own_go (fun _ k => XS.iload X109.here hx rfl (hb hby at_260) rfl k) ?_
    show own_R _ _ _ _ (T109.setTop (mkF m 262 #[.val (.int q1), .val (.int q2), .val (.int q3), .val (.int q4), .val (.int q5), .val (.int q6), .val (.int f0), .val (.int f1), .val (.int f2), .val (.int f3), .val (.int f4), .val (.ref b92), .val (.int (0 : Int32)), .val (.int (1 : Int32)), .val (.int (2 : Int32)), .val (.int (3 : Int32)), .val (.int (4 : Int32)), .val (.int (own_code q1 f1)), .val (.int (own_code q2 f2)), .val (.int (own_code q3 f3)), .val (.int (own_code q4 f4)), .val (.int (3 : Int32))] [(.int (own_code q3 f3)), (.int (1 : Int32)), (.ref c110)]))
    refine own_go (fun _ k => XS.iconst X109.here hx rfl (hb hby at_262) k) ?_
    show own_R _ _ _ _ (T109.setTop (mkF m 263 #[.val (.int q1), .val (.int q2), .val (.int q3), .val (.int q4), .val (.int q5), .val (.int q6), .val (.int f0), .val (.int f1), .val (.int f2), .val (.int f3), .val (.int f4), .val (.ref b92), .val (.int (0 : Int32)), .val (.int (1 : Int32)), .val (.int (2 : Int32)), .val (.int (3 : Int32)), .val (.int (4 : Int32)), .val (.int (own_code q1 f1)), .val (.int (own_code q2 f2)), .val (.int (own_code q3 f3)), .val (.int (own_code q4 f4)), .val (.int (3 : Int32))] [(.int (0 : Int32)), (.int (own_code q3 f3)), (.int (1 : Int32)), (.ref c110)]))
    refine own_go (fun _ k => XS.iconst X109.here hx rfl (hb hby at_263) k) ?_
    show own_R _ _ _ _ (T109.setTop (mkF m 264 #[.val (.int q1), .val (.int q2), .val (.int q3), .val (.int q4), .val (.int q5), .val (.int q6), .val (.int f0), .val (.int f1), .val (.int f2), .val (.int f3), .val (.int f4), .val (.ref b92), .val (.int (0 : Int32)), .val (.int (1 : Int32)), .val (.int (2 : Int32)), .val (.int (3 : Int32)), .val (.int (4 : Int32)), .val (.int (own_code q1 f1)), .val (.int (own_code q2 f2)), .val (.int (own_code q3 f3)), .val (.int (own_code q4 f4)), .val (.int (3 : Int32))] [(.int (0 : Int32)), (.int (0 : Int32)), (.int (own_code q3 f3)), (.int (1 : Int32)), (.ref c110)]))
    obtain ⟨_, _, ⟨T110, L110, k110, n110⟩, -, X110, ⟨Lc110, hQ110, l110, y110, z110⟩, st110⟩ := Jvm.LawKit.callS X109 hx (y := (⟨"com/example/clearlot/clearlot/search/PartTreeBranchesPinLaw", "same", "([IIIII)Z"⟩ : MethodName)) hown (mvT hZ (hw _ (List.mem_of_getElem? (i := 40) rfl))) (mvT hZ (hw _ (List.mem_of_getElem? (i := 41) rfl))) (mvT hZ (hw _ (List.mem_of_getElem? (i := 32) rfl))) (mvT hZ (hw _ (List.mem_of_getElem? (i := 42) rfl))) (by decide) (backOf (W := 0) (rm6_1 l Z a0 hw [] c110 (own_code q3 f3) (0 : Int32) (0 : Int32) kc110 h109 n0 ZS V_c110) hZ (hw _ (List.mem_of_getElem? (i := 42) rfl)) (hw _ (List.mem_of_getElem? (i := 32) rfl)) (by decide) (by decide)) (g := (mkF m 264 #[.val (.int q1), .val (.int q2), .val (.int q3), .val (.int q4), .val (.int q5), .val (.int q6), .val (.int f0), .val (.int f1), .val (.int f2), .val (.int f3), .val (.int f4), .val (.ref b92), .val (.int (0 : Int32)), .val (.int (1 : Int32)), .val (.int (2 : Int32)), .val (.int (3 : Int32)), .val (.int (4 : Int32)), .val (.int (own_code q1 f1)), .val (.int (own_code q2 f2)), .val (.int (own_code q3 f3)), .val (.int (own_code q4 f4)), .val (.int (3 : Int32))] [(.int (0 : Int32)), (.int (0 : Int32)), (.int (own_code q3 f3)), (.int (1 : Int32)), (.ref c110)])) rfl (by rw [hml]; rfl) (argsL := [(.ref c110), (.int (1 : Int32)), (.int (own_code q3 f3)), (.int (0 : Int32)), (.int (0 : Int32))]) (rest := []) (lenOf pd_4 rfl) rfl (by show 2 * 0 + _ ≤ _; exact Nat.le_of_eq rfl) (hb hby at_264) (fun _ _ => ⟨rfl, e109, (by decide : 7 + 0 ≤ _), (by decide : 89 + 0 ≤ _)⟩)
    dsimp only [Pt.U, Pt.locs, Pt.cells, Pt.slots] at X110 l110 y110 z110 st110 hQ110
    subst l110 y110 z110
    obtain ⟨rfl, N110q, e110⟩ := hQ110
    have NF := Fr.app NF N110q
    refine own_go st110 ?_
    show own_R _ _ _ _ (T110.setTop (mkF m 267 #[.val (.int q1), .val (.int q2), .val (.int q3), .val (.int q4), .val (.int q5), .val (.int q6), .val (.int f0), .val (.int f1), .val (.int f2), .val (.int f3), .val (.int f4), .val (.ref b92), .val (.int (0 : Int32)), .val (.int (1 : Int32)), .val (.int (2 : Int32)), .val (.int (3 : Int32)), .val (.int (4 : Int32)), .val (.int (own_code q1 f1)), .val (.int (own_code q2 f2)), .val (.int (own_code q3 f3)), .val (.int (own_code q4 f4)), .val (.int (3 : Int32))] [(.int (1 : Int32))]))
    exact own_retN X110 hx (t := .boolean) (by simp) Bd.returns (hb hby at_267) hlk ⟨rfl, NF⟩ (by decide) (by decide)
  · show own_R _ _ _ _ (T102.setTop (mkF m 181 #[.val (.int q1), .val (.int q2), .val (.int q3), .val (.int q4), .val (.int q5), .val (.int q6), .val (.int f0), .val (.int f1), .val (.int f2), .val (.int f3), .val (.int f4), .val (.ref b92), .val (.int (0 : Int32)), .val (.int (1 : Int32)), .val (.int (2 : Int32)), .val (.int (3 : Int32)), .val (.int (4 : Int32)), .val (.int (own_code q1 f1)), .val (.int (own_code q2 f2)), .val (.int (own_code q3 f3)), .val (.int (own_code q4 f4)), .val (.int (4 : Int32))] []))
    refine own_go (fun _ k => XS.iload X102.here hx rfl (hb hby at_181) rfl k) ?_
    show own_R _ _ _ _ (T102.setTop (mkF m 183 #[.val (.int q1), .val (.int q2), .val (.int q3), .val (.int q4), .val (.int q5), .val (.int q6), .val (.int f0), .val (.int f1), .val (.int f2), .val (.int f3), .val (.int f4), .val (.ref b92), .val (.int (0 : Int32)), .val (.int (1 : Int32)), .val (.int (2 : Int32)), .val (.int (3 : Int32)), .val (.int (4 : Int32)), .val (.int (own_code q1 f1)), .val (.int (own_code q2 f2)), .val (.int (own_code q3 f3)), .val (.int (own_code q4 f4)), .val (.int (4 : Int32))] [(.int (4 : Int32))]))
    refine own_go (fun _ k => XS.ifYes X102.here hx rfl (pc0 := 183) (pc' := 201) rfl (hb hby at_183) rfl ((if0 _ _).trans (feq (by decide : ¬ ((4 : Int32) = (0 : Int32)))).2) (by decide) (by decide) k) ?_
    show own_R _ _ _ _ (T102.setTop (mkF m 201 #[.val (.int q1), .val (.int q2), .val (.int q3), .val (.int q4), .val (.int q5), .val (.int q6), .val (.int f0), .val (.int f1), .val (.int f2), .val (.int f3), .val (.int f4), .val (.ref b92), .val (.int (0 : Int32)), .val (.int (1 : Int32)), .val (.int (2 : Int32)), .val (.int (3 : Int32)), .val (.int (4 : Int32)), .val (.int (own_code q1 f1)), .val (.int (own_code q2 f2)), .val (.int (own_code q3 f3)), .val (.int (own_code q4 f4)), .val (.int (4 : Int32))] []))
    refine own_go (fun _ k => XS.iload X102.here hx rfl (hb hby at_201) rfl k) ?_
    show own_R _ _ _ _ (T102.setTop (mkF m 203 #[.val (.int q1), .val (.int q2), .val (.int q3), .val (.int q4), .val (.int q5), .val (.int q6), .val (.int f0), .val (.int f1), .val (.int f2), .val (.int f3), .val (.int f4), .val (.ref b92), .val (.int (0 : Int32)), .val (.int (1 : Int32)), .val (.int (2 : Int32)), .val (.int (3 : Int32)), .val (.int (4 : Int32)), .val (.int (own_code q1 f1)), .val (.int (own_code q2 f2)), .val (.int (own_code q3 f3)), .val (.int (own_code q4 f4)), .val (.int (4 : Int32))] [(.int (4 : Int32))]))
    refine own_go (fun _ k => XS.iconst X102.here hx rfl (hb hby at_203) k) ?_
    show own_R _ _ _ _ (T102.setTop (mkF m 204 #[.val (.int q1), .val (.int q2), .val (.int q3), .val (.int q4), .val (.int q5), .val (.int q6), .val (.int f0), .val (.int f1), .val (.int f2), .val (.int f3), .val (.int f4), .val (.ref b92), .val (.int (0 : Int32)), .val (.int (1 : Int32)), .val (.int (2 : Int32)), .val (.int (3 : Int32)), .val (.int (4 : Int32)), .val (.int (own_code q1 f1)), .val (.int (own_code q2 f2)), .val (.int (own_code q3 f3)), .val (.int (own_code q4 f4)), .val (.int (4 : Int32))] [(.int (1 : Int32)), (.int (4 : Int32))]))
    refine own_go (fun _ k => XS.icmpYes X102.here hx rfl (pc0 := 204) (pc' := 223) rfl (hb hby at_204) rfl (feq (by decide : ¬ ((4 : Int32) = (1 : Int32)))).2 (by decide) (by decide) k) ?_
    show own_R _ _ _ _ (T102.setTop (mkF m 223 #[.val (.int q1), .val (.int q2), .val (.int q3), .val (.int q4), .val (.int q5), .val (.int q6), .val (.int f0), .val (.int f1), .val (.int f2), .val (.int f3), .val (.int f4), .val (.ref b92), .val (.int (0 : Int32)), .val (.int (1 : Int32)), .val (.int (2 : Int32)), .val (.int (3 : Int32)), .val (.int (4 : Int32)), .val (.int (own_code q1 f1)), .val (.int (own_code q2 f2)), .val (.int (own_code q3 f3)), .val (.int (own_code q4 f4)), .val (.int (4 : Int32))] []))
    refine own_go (fun _ k => XS.iload X102.here hx rfl (hb hby at_223) rfl k) ?_
    show own_R _ _ _ _ (T102.setTop (mkF m 225 #[.val (.int q1), .val (.int q2), .val (.int q3), .val (.int q4), .val (.int q5), .val (.int q6), .val (.int f0), .val (.int f1), .val (.int f2), .val (.int f3), .val (.int f4), .val (.ref b92), .val (.int (0 : Int32)), .val (.int (1 : Int32)), .val (.int (2 : Int32)), .val (.int (3 : Int32)), .val (.int (4 : Int32)), .val (.int (own_code q1 f1)), .val (.int (own_code q2 f2)), .val (.int (own_code q3 f3)), .val (.int (own_code q4 f4)), .val (.int (4 : Int32))] [(.int (4 : Int32))]))
    refine own_go (fun _ k => XS.iconst X102.here hx rfl (hb hby at_225) k) ?_
    show own_R _ _ _ _ (T102.setTop (mkF m 226 #[.val (.int q1), .val (.int q2), .val (.int q3), .val (.int q4), .val (.int q5), .val (.int q6), .val (.int f0), .val (.int f1), .val (.int f2), .val (.int f3), .val (.int f4), .val (.ref b92), .val (.int (0 : Int32)), .val (.int (1 : Int32)), .val (.int (2 : Int32)), .val (.int (3 : Int32)), .val (.int (4 : Int32)), .val (.int (own_code q1 f1)), .val (.int (own_code q2 f2)), .val (.int (own_code q3 f3)), .val (.int (own_code q4 f4)), .val (.int (4 : Int32))] [(.int (2 : Int32)), (.int (4 : Int32))]))
    refine own_go (fun _ k => XS.icmpYes X102.here hx rfl (pc0 := 226) (pc' := 246) rfl (hb hby at_226) rfl (feq (by decide : ¬ ((4 : Int32) = (2 : Int32)))).2 (by decide) (by decide) k) ?_
    show own_R _ _ _ _ (T102.setTop (mkF m 246 #[.val (.int q1), .val (.int q2), .val (.int q3), .val (.int q4), .val (.int q5), .val (.int q6), .val (.int f0), .val (.int f1), .val (.int f2), .val (.int f3), .val (.int f4), .val (.ref b92), .val (.int (0 : Int32)), .val (.int (1 : Int32)), .val (.int (2 : Int32)), .val (.int (3 : Int32)), .val (.int (4 : Int32)), .val (.int (own_code q1 f1)), .val (.int (own_code q2 f2)), .val (.int (own_code q3 f3)), .val (.int (own_code q4 f4)), .val (.int (4 : Int32))] []))
    refine own_go (fun _ k => XS.iload X102.here hx rfl (hb hby at_246) rfl k) ?_
    show own_R _ _ _ _ (T102.setTop (mkF m 248 #[.val (.int q1), .val (.int q2), .val (.int q3), .val (.int q4), .val (.int q5), .val (.int q6), .val (.int f0), .val (.int f1), .val (.int f2), .val (.int f3), .val (.int f4), .val (.ref b92), .val (.int (0 : Int32)), .val (.int (1 : Int32)), .val (.int (2 : Int32)), .val (.int (3 : Int32)), .val (.int (4 : Int32)), .val (.int (own_code q1 f1)), .val (.int (own_code q2 f2)), .val (.int (own_code q3 f3)), .val (.int (own_code q4 f4)), .val (.int (4 : Int32))] [(.int (4 : Int32))]))
    refine own_go (fun _ k => XS.iconst X102.here hx rfl (hb hby at_248) k) ?_
    show own_R _ _ _ _ (T102.setTop (mkF m 249 #[.val (.int q1), .val (.int q2), .val (.int q3), .val (.int q4), .val (.int q5), .val (.int q6), .val (.int f0), .val (.int f1), .val (.int f2), .val (.int f3), .val (.int f4), .val (.ref b92), .val (.int (0 : Int32)), .val (.int (1 : Int32)), .val (.int (2 : Int32)), .val (.int (3 : Int32)), .val (.int (4 : Int32)), .val (.int (own_code q1 f1)), .val (.int (own_code q2 f2)), .val (.int (own_code q3 f3)), .val (.int (own_code q4 f4)), .val (.int (4 : Int32))] [(.int (3 : Int32)), (.int (4 : Int32))]))
    refine own_go (fun _ k => XS.icmpYes X102.here hx rfl (pc0 := 249) (pc' := 268) rfl (hb hby at_249) rfl (feq (by decide : ¬ ((4 : Int32) = (3 : Int32)))).2 (by decide) (by decide) k) ?_
    show own_R _ _ _ _ (T102.setTop (mkF m 268 #[.val (.int q1), .val (.int q2), .val (.int q3), .val (.int q4), .val (.int q5), .val (.int q6), .val (.int f0), .val (.int f1), .val (.int f2), .val (.int f3), .val (.int f4), .val (.ref b92), .val (.int (0 : Int32)), .val (.int (1 : Int32)), .val (.int (2 : Int32)), .val (.int (3 : Int32)), .val (.int (4 : Int32)), .val (.int (own_code q1 f1)), .val (.int (own_code q2 f2)), .val (.int (own_code q3 f3)), .val (.int (own_code q4 f4)), .val (.int (4 : Int32))] []))
    refine own_go (fun _ k => XS.aload X102.here hx rfl (hb hby at_268) rfl rfl k) ?_
    show own_R _ _ _ _ (T102.setTop (mkF m 270 #[.val (.int q1), .val (.int q2), .val (.int q3), .val (.int q4), .val (.int q5), .val (.int q6), .val (.int f0), .val (.int f1), .val (.int f2), .val (.int f3), .val (.int f4), .val (.ref b92), .val (.int (0 : Int32)), .val (.int (1 : Int32)), .val (.int (2 : Int32)), .val (.int (3 : Int32)), .val (.int (4 : Int32)), .val (.int (own_code q1 f1)), .val (.int (own_code q2 f2)), .val (.int (own_code q3 f3)), .val (.int (own_code q4 f4)), .val (.int (4 : Int32))] [(.ref b92)]))
    refine own_go (fun _ k => XS.iload X102.here hx rfl (hb hby at_270) rfl k) ?_
    show own_R _ _ _ _ (T102.setTop (mkF m 272 #[.val (.int q1), .val (.int q2), .val (.int q3), .val (.int q4), .val (.int q5), .val (.int q6), .val (.int f0), .val (.int f1), .val (.int f2), .val (.int f3), .val (.int f4), .val (.ref b92), .val (.int (0 : Int32)), .val (.int (1 : Int32)), .val (.int (2 : Int32)), .val (.int (3 : Int32)), .val (.int (4 : Int32)), .val (.int (own_code q1 f1)), .val (.int (own_code q2 f2)), .val (.int (own_code q3 f3)), .val (.int (own_code q4 f4)), .val (.int (4 : Int32))] [(.int (4 : Int32)), (.ref b92)]))
    obtain ⟨cq111, kq111, q111a, q111b, q111c⟩ := isOf hZ e102 E_b92
    obtain ⟨_, _, ⟨T111, L111, k111, n111⟩, -, X111, ⟨Lc111, hQ111, l111, y111, z111⟩, st111⟩ := X102.virtualBack hx (y := (⟨"com/example/clearlot/clearlot/search/PartTree", "branches", "(I)[I"⟩ : MethodName)) (z := (⟨"com/example/clearlot/clearlot/search/PartTree", "branches", "(I)[I"⟩ : MethodName)) hown (mvT hZ (hw _ (List.mem_of_getElem? (i := 35) rfl))) (mvT hZ (hw _ (List.mem_of_getElem? (i := 36) rfl))) (notFace_of_selects (args := #[]) (mvT hZ (hw _ (List.mem_of_getElem? (i := 38) rfl)))) (mvT hZ (hw _ (List.mem_of_getElem? (i := 38) rfl))) (mvT hZ (hw _ (List.mem_of_getElem? (i := 37) rfl))) (by decide) (backOf (W := 0) (rm5_4 l Z a0 hw [] b92 c94 d94 kc94 kd94 (own_code q4 f0) (own_code q1 f1) (own_code q2 f2) (own_code q3 f3) (own_code q4 f4) h98 n0 ZS F_parents_b92 F_branches_b92 V_c94 V_d94) hZ (hw _ (List.mem_of_getElem? (i := 39) rfl)) (hw _ (List.mem_of_getElem? (i := 2) rfl)) (by decide) (by decide)) q111a q111c (g := (mkF m 272 #[.val (.int q1), .val (.int q2), .val (.int q3), .val (.int q4), .val (.int q5), .val (.int q6), .val (.int f0), .val (.int f1), .val (.int f2), .val (.int f3), .val (.int f4), .val (.ref b92), .val (.int (0 : Int32)), .val (.int (1 : Int32)), .val (.int (2 : Int32)), .val (.int (3 : Int32)), .val (.int (4 : Int32)), .val (.int (own_code q1 f1)), .val (.int (own_code q2 f2)), .val (.int (own_code q3 f3)), .val (.int (own_code q4 f4)), .val (.int (4 : Int32))] [(.int (4 : Int32)), (.ref b92)])) rfl (by rw [hml]; rfl) (Steps.refl _) (argsL := [(.int (4 : Int32))]) (rest := []) (lenOf pd_3 rfl) rfl (by show 2 * 0 + _ ≤ _; exact Nat.le_of_eq rfl) (hb hby at_272) (fun _ _ => ⟨rfl, e102, (by decide : 6 + 1 ≤ _), (by decide : 88 + 3 ≤ _)⟩)
    dsimp only [Pt.U, Pt.locs, Pt.cells, Pt.slots] at X111 l111 y111 z111 st111 hQ111
    subst l111 y111 z111
    obtain ⟨h111, e111'⟩ : ∃ z, z = T111.heap := ⟨_, rfl⟩
    rw [← e111'] at hQ111
    have e111 : T111.heap = h111 := e111'.symm
    obtain ⟨c112, rfl, N111q, K111, hbc112, kc112, Vc112'⟩ := hQ111
    have NF := Fr.app NF N111q
    refine own_go (fun _ k => st111.trans k) ?_
    have ne_b92_c112 : b92 ≠ c112 := Nat.ne_of_lt (Nat.lt_of_lt_of_le E_b92.lt hbc112)
    have ne_c94_c112 : c94 ≠ c112 := Nat.ne_of_lt (Nat.lt_of_lt_of_le V_c94.lt hbc112)
    have ne_d94_c112 : d94 ≠ c112 := Nat.ne_of_lt (Nat.lt_of_lt_of_le V_d94.lt hbc112)
    have g_c112 : n0 ≤ c112 := Nat.le_trans ZS hbc112
    have sz_c112 : h0.size ≤ c112 := Nat.le_trans KP.1 hbc112
    have E_b92 := E_b92.keep K111
    have F_nodes_b92 := F_nodes_b92.keep K111 nin0
    have F_parents_b92 := F_parents_b92.keep K111 nin0
    have F_branches_b92 := F_branches_b92.keep K111 nin0
    have V_c94 := V_c94.keep K111 nin0
    have V_d94 := V_d94.keep K111 nin0
    have ZS := Nat.le_trans ZS K111.1
    have KP := KP.trans K111 all0
    have V_c112 := Vc112'
    show own_R _ _ _ _ (T111.setTop (mkF m 275 #[.val (.int q1), .val (.int q2), .val (.int q3), .val (.int q4), .val (.int q5), .val (.int q6), .val (.int f0), .val (.int f1), .val (.int f2), .val (.int f3), .val (.int f4), .val (.ref b92), .val (.int (0 : Int32)), .val (.int (1 : Int32)), .val (.int (2 : Int32)), .val (.int (3 : Int32)), .val (.int (4 : Int32)), .val (.int (own_code q1 f1)), .val (.int (own_code q2 f2)), .val (.int (own_code q3 f3)), .val (.int (own_code q4 f4)), .val (.int (4 : Int32))] [(.ref c112)]))
    refine own_go (fun _ k => XS.iconst X111.here hx rfl (hb hby at_275) k) ?_
    show own_R _ _ _ _ (T111.setTop (mkF m 276 #[.val (.int q1), .val (.int q2), .val (.int q3), .val (.int q4), .val (.int q5), .val (.int q6), .val (.int f0), .val (.int f1), .val (.int f2), .val (.int f3), .val (.int f4), .val (.ref b92), .val (.int (0 : Int32)), .val (.int (1 : Int32)), .val (.int (2 : Int32)), .val (.int (3 : Int32)), .val (.int (4 : Int32)), .val (.int (own_code q1 f1)), .val (.int (own_code q2 f2)), .val (.int (own_code q3 f3)), .val (.int (own_code q4 f4)), .val (.int (4 : Int32))] [(.int (3 : Int32)), (.ref c112)]))
    refine own_go (fun _ k => XS.iload X111.here hx rfl (hb hby at_276) rfl k) ?_
    show own_R _ _ _ _ (T111.setTop (mkF m 278 #[.val (.int q1), .val (.int q2), .val (.int q3), .val (.int q4), .val (.int q5), .val (.int q6), .val (.int f0), .val (.int f1), .val (.int f2), .val (.int f3), .val (.int f4), .val (.ref b92), .val (.int (0 : Int32)), .val (.int (1 : Int32)), .val (.int (2 : Int32)), .val (.int (3 : Int32)), .val (.int (4 : Int32)), .val (.int (own_code q1 f1)), .val (.int (own_code q2 f2)), .val (.int (own_code q3 f3)), .val (.int (own_code q4 f4)), .val (.int (4 : Int32))] [(.int (own_code q1 f1)), (.int (3 : Int32)), (.ref c112)]))
    refine own_go (fun _ k => XS.iload X111.here hx rfl (hb hby at_278) rfl k) ?_
    show own_R _ _ _ _ (T111.setTop (mkF m 280 #[.val (.int q1), .val (.int q2), .val (.int q3), .val (.int q4), .val (.int q5), .val (.int q6), .val (.int f0), .val (.int f1), .val (.int f2), .val (.int f3), .val (.int f4), .val (.ref b92), .val (.int (0 : Int32)), .val (.int (1 : Int32)), .val (.int (2 : Int32)), .val (.int (3 : Int32)), .val (.int (4 : Int32)), .val (.int (own_code q1 f1)), .val (.int (own_code q2 f2)), .val (.int (own_code q3 f3)), .val (.int (own_code q4 f4)), .val (.int (4 : Int32))] [(.int (own_code q2 f2)), (.int (own_code q1 f1)), (.int (3 : Int32)), (.ref c112)]))
    refine own_go (fun _ k => XS.iload X111.here hx rfl (hb hby at_280) rfl k) ?_
    show own_R _ _ _ _ (T111.setTop (mkF m 282 #[.val (.int q1), .val (.int q2), .val (.int q3), .val (.int q4), .val (.int q5), .val (.int q6), .val (.int f0), .val (.int f1), .val (.int f2), .val (.int f3), .val (.int f4), .val (.ref b92), .val (.int (0 : Int32)), .val (.int (1 : Int32)), .val (.int (2 : Int32)), .val (.int (3 : Int32)), .val (.int (4 : Int32)), .val (.int (own_code q1 f1)), .val (.int (own_code q2 f2)), .val (.int (own_code q3 f3)), .val (.int (own_code q4 f4)), .val (.int (4 : Int32))] [(.int (own_code q4 f4)), (.int (own_code q2 f2)), (.int (own_code q1 f1)), (.int (3 : Int32)), (.ref c112)]))
    obtain ⟨_, _, ⟨T112, L112, k112, n112⟩, -, X112, ⟨Lc112, hQ112, l112, y112, z112⟩, st112⟩ := Jvm.LawKit.callS X111 hx (y := (⟨"com/example/clearlot/clearlot/search/PartTreeBranchesPinLaw", "same", "([IIIII)Z"⟩ : MethodName)) hown (mvT hZ (hw _ (List.mem_of_getElem? (i := 40) rfl))) (mvT hZ (hw _ (List.mem_of_getElem? (i := 41) rfl))) (mvT hZ (hw _ (List.mem_of_getElem? (i := 32) rfl))) (mvT hZ (hw _ (List.mem_of_getElem? (i := 42) rfl))) (by decide) (backOf (W := 0) (rm6_3 l Z a0 hw [] c112 (own_code q1 f1) (own_code q2 f2) (own_code q4 f4) kc112 h111 n0 ZS V_c112) hZ (hw _ (List.mem_of_getElem? (i := 42) rfl)) (hw _ (List.mem_of_getElem? (i := 32) rfl)) (by decide) (by decide)) (g := (mkF m 282 #[.val (.int q1), .val (.int q2), .val (.int q3), .val (.int q4), .val (.int q5), .val (.int q6), .val (.int f0), .val (.int f1), .val (.int f2), .val (.int f3), .val (.int f4), .val (.ref b92), .val (.int (0 : Int32)), .val (.int (1 : Int32)), .val (.int (2 : Int32)), .val (.int (3 : Int32)), .val (.int (4 : Int32)), .val (.int (own_code q1 f1)), .val (.int (own_code q2 f2)), .val (.int (own_code q3 f3)), .val (.int (own_code q4 f4)), .val (.int (4 : Int32))] [(.int (own_code q4 f4)), (.int (own_code q2 f2)), (.int (own_code q1 f1)), (.int (3 : Int32)), (.ref c112)])) rfl (by rw [hml]; rfl) (argsL := [(.ref c112), (.int (3 : Int32)), (.int (own_code q1 f1)), (.int (own_code q2 f2)), (.int (own_code q4 f4))]) (rest := []) (lenOf pd_4 rfl) rfl (by show 2 * 0 + _ ≤ _; exact Nat.le_of_eq rfl) (hb hby at_282) (fun _ _ => ⟨rfl, e111, (by decide : 7 + 0 ≤ _), (by decide : 91 + 0 ≤ _)⟩)
    dsimp only [Pt.U, Pt.locs, Pt.cells, Pt.slots] at X112 l112 y112 z112 st112 hQ112
    subst l112 y112 z112
    obtain ⟨rfl, N112q, e112⟩ := hQ112
    have NF := Fr.app NF N112q
    refine own_go st112 ?_
    show own_R _ _ _ _ (T112.setTop (mkF m 285 #[.val (.int q1), .val (.int q2), .val (.int q3), .val (.int q4), .val (.int q5), .val (.int q6), .val (.int f0), .val (.int f1), .val (.int f2), .val (.int f3), .val (.int f4), .val (.ref b92), .val (.int (0 : Int32)), .val (.int (1 : Int32)), .val (.int (2 : Int32)), .val (.int (3 : Int32)), .val (.int (4 : Int32)), .val (.int (own_code q1 f1)), .val (.int (own_code q2 f2)), .val (.int (own_code q3 f3)), .val (.int (own_code q4 f4)), .val (.int (4 : Int32))] [(.int (1 : Int32))]))
    exact own_retN X112 hx (t := .boolean) (by simp) Bd.returns (hb hby at_285) hlk ⟨rfl, NF⟩ (by decide) (by decide)
set_option maxRecDepth 65536 in
set_option maxHeartbeats 40000000 in
theorem comes_1 {Post : Tables → Env → Array Value → State → Outcome → State → Prop} (hpost : ∀ tb e args s v u, (limb_1_1.after args s (.returned v) u = true ∧ limb_1_2.after args s (.returned v) u = true ∧ True) → FrameEnd s (.returned v) u (Jvm.fieldLocs frame_1_writes args s ++ Jvm.arrayLocs frame_1_arrays args s ++ Jvm.staticLocs frame_1_statics s) 24 256 → Post tb e args s (.returned v) u) :
    ArmFor flags0 classFile x code maxLocals ret World_1 tables_1 room_1 Calls_1 rest_1 Pre_1 Post := by
  intro l hfl _ _ p e ha hc hk s m args below hf hA hF happ hP
  obtain ⟨hcalls, hrest, hpre⟩ := hP
  obtain ⟨-, -, -, hnamed, -, -, -, hat⟩ := (Spec.applies_iff hf).mp happ
  obtain ⟨hg, hn⟩ := and_e (Cond.before_iff.mp (show (Jvm.Cond.and given_1 narrow_1).before args s = true from hpre))
  obtain ⟨g1, g2⟩ := and_e hg
  obtain ⟨g3, g4⟩ := and_e g2
  obtain ⟨g5, g6⟩ := and_e g4
  obtain ⟨g7, g8⟩ := and_e g6
  obtain ⟨g9, g10⟩ := and_e g8
  obtain ⟨g11, g12⟩ := and_e g10
  obtain ⟨w0, w1, w2, w3, w4, w5, rfl⟩ : ∃ w0 w1 w2 w3 w4 w5 : Value, args = #[w0, w1, w2, w3, w4, w5] := by
    have hs : args.size = 6 := by simpa [Cond.value, given_1] using g1
    obtain ⟨L⟩ := args
    match L, hs with
    | [w0, w1, w2, w3, w4, w5], _ => exact ⟨w0, w1, w2, w3, w4, w5, rfl⟩
  have hw := fun d (hd : d ∈ tables_1) => atoms_spec (ws := Jvm.Cond.code x code maxLocals ret :: tables_1) hat d (List.mem_cons_of_mem _ hd)
  have hfit : Fit s := fun {y c} hc i hi => by
    obtain ⟨ha, rfl⟩ := Array.getElem?_eq_some_iff.mp hc
    have q := List.all_eq_true.mp ((Array.all_eq_true_iff_forall_mem.mp hF) _ (Array.getElem_mem ha)) i (List.mem_range.mpr hi)
    simpa [Array.getElem?_eq_getElem hi] using q
  obtain ⟨i0, ei0⟩ := is_v g3
  obtain rfl : w0 = (.int i0) := Option.some.inj ei0
  obtain ⟨i1, ei1⟩ := is_v g5
  obtain rfl : w1 = (.int i1) := Option.some.inj ei1
  obtain ⟨i2, ei2⟩ := is_v g7
  obtain rfl : w2 = (.int i2) := Option.some.inj ei2
  obtain ⟨i3, ei3⟩ := is_v g9
  obtain rfl : w3 = (.int i3) := Option.some.inj ei3
  obtain ⟨i4, ei4⟩ := is_v g11
  obtain rfl : w4 = (.int i4) := Option.some.inj ei4
  obtain ⟨i5, ei5⟩ := is_v g12
  obtain rfl : w5 = (.int i5) := Option.some.inj ei5
  obtain ⟨n, o, h1, h2, h3, _, L, rfl, ⟨rfl, N⟩, hq⟩ := rm0 l s _ hw tables_1 i0 i1 i2 i3 i4 i5 s.heap s.heap.size (Nat.le_refl _) p e ha hc hk s m _ below hf ((Spec.applies_iff_loose hf).mp happ).1 ⟨rfl, State.Warmed39.refl s, rfl⟩ trivial
  refine ⟨n, _, h1, h2, h3, hpost _ _ _ _ _ _ ⟨Cond.after_iff.mpr rfl, Cond.after_iff.mpr (eq_i res_at (Term.int_eval (1)) rfl), trivial⟩ ⟨hq.1, hq.2.1, (hq.2.2.sift fun y hy => Or.inr (N y hy)).mono (by decide) (by decide)⟩⟩
theorem main_1_1 : Claimed_1_1 := comes_1 fun _ _ _ _ _ _ h hF => ⟨h.1, hF⟩
theorem main_1_2 : Claimed_1_2 := comes_1 fun _ _ _ _ _ _ h hF => ⟨h.2.1, hF⟩
end Jvm.Pilot.@@N@@
namespace Jvm.Pilot.@@N@@
open Jvm Jvm.ClassFile Sem Op Lib Jvm.Free Jvm.Stand Jvm.Pilot.@@N@@.Jvm.D
/-! MADE BY PROGRAM (witnessworld.py) out of the Statement's table words and the real class files: 13 classes; the members and pool entries that the words name. The judged class is class 1, her method 3. -/
namespace start1
open Jvm.ClassFile
def u (s : String) : CpInfo := .utf8 (stringToUtf16 s)
/-- a pool by its gaps: so many unusable entries, then the entry; so many at the end -/
def gap : Nat → List CpInfo → List CpInfo
  | 0, r => r
  | n + 1, r => .unusable :: gap n r
def poolList (es : List (Nat × CpInfo)) (last : Nat) : List CpInfo := es.foldr (fun e r => gap e.1 (e.2 :: r)) (gap last [])
def pool (es : List (Nat × CpInfo)) (last : Nat) : Array CpInfo := ⟨poolList es last⟩
def fileOf (pool : Array CpInfo) (this : Nat) (attrs : Array Attribute := #[]) (ms : Array MethodInfo := #[]) (fl : Nat := 33) (sup : Nat := 0) (ifs : Array Nat := #[]) (fds : Array FieldInfo := #[]) : ClassFile where
  minorVersion := 0
  majorVersion := 65
  constantPool := pool
  accessFlags := fl
  thisClass := this
  superClass := sup
  interfaces := ifs
  fields := fds
  methods := ms
  attributes := attrs
def plain (name : String) (sup : Option ClassId) : Class where
  name := name
  kind := .ordinary
  loader := none
  accessFlags := 33
  super := sup
  interfaces := #[]
  cf := none
  fields := #[]
  methods := #[]
  instanceTypes := #[]
  staticTypes := #[]
  resolved := #[]
  callSites := []
  init := .initialized
  statics := none
  mirror := none

def pool0 : Array CpInfo := pool [(5, u "<init>"), (0, u "()V"), (1, .class_ 10), (1, u "java/lang/Object")] 113

def k0c0 : Code := { maxStack := 0, maxLocals := 1, code := object_method_1_code, exceptionTable := #[], attributes := #[] }
def k0m0 : Method := { name := "<init>", desc := "()V", sig := { parameters := [], returnType := none }, accessFlags := 1, code := some k0c0 }
/-- java/lang/Object -/
def k0 : Class := { plain "java/lang/Object" none with
  accessFlags := 33
  interfaces := #[]
  cf := some (fileOf pool0 8 #[] #[{ accessFlags := 1, nameIndex := 5, descriptorIndex := 6, attributes := #[] }] 33 0 #[] #[])
  fields := #[]
  methods := #[k0m0]
  instanceTypes := #[]
  staticTypes := #[]
  resolved := Array.replicate 124 none
  statics := none }

def pool1 : Array CpInfo := pool [(2, .class_ 4), (0, .nameAndType 5 6), (0, u "java/lang/Object"), (0, u "<init>"), (0, u "()V"), (0, .class_ 8), (0, u "com/example/clearlot/clearlot/search/PartTree"), (0, .methodref 7 3), (0, .methodref 7 11), (0, .nameAndType 12 13), (0, u "add"), (0, u "(IIZ)I"), (0, .methodref 15 16), (0, .class_ 17), (0, .nameAndType 18 19), (0, u "com/example/clearlot/clearlot/search/PartTreeBranchesPinLaw"), (0, u "code"), (0, u "(IZ)I"), (0, .integer 2147483647), (0, .methodref 7 22), (0, .nameAndType 23 24), (0, u "branches"), (0, u "(I)[I"), (0, .methodref 15 26), (0, .nameAndType 27 28), (0, u "same"), (0, u "([IIIII)Z"), (3, u "law"), (0, u "(IIIIII)Z")] 2

def k1m0 : Method := { name := "<init>", desc := "()V", sig := { parameters := [], returnType := none }, accessFlags := 1, code := none }
def k1c1 : Code := { maxStack := 2, maxLocals := 2, code := method_2_code, exceptionTable := #[], attributes := #[] }
def k1m1 : Method := { name := "code", desc := "(IZ)I", sig := { parameters := [.int, .boolean], returnType := some .int }, accessFlags := 10, code := some k1c1 }
def k1c2 : Code := { maxStack := 2, maxLocals := 5, code := method_3_code, exceptionTable := #[], attributes := #[] }
def k1m2 : Method := { name := "same", desc := "([IIIII)Z", sig := { parameters := [(.array .int), .int, .int, .int, .int], returnType := some .boolean }, accessFlags := 10, code := some k1c2 }
def k1c3 : Code := { maxStack := 5, maxLocals := 22, code := code, exceptionTable := #[], attributes := #[] }
def k1m3 : Method := { name := "law", desc := "(IIIIII)Z", sig := { parameters := [.int, .int, .int, .int, .int, .int], returnType := some .boolean }, accessFlags := 9, code := some k1c3 }
/-- com/example/clearlot/clearlot/search/PartTreeBranchesPinLaw -/
def k1 : Class := { plain "com/example/clearlot/clearlot/search/PartTreeBranchesPinLaw" (some 0) with
  accessFlags := 49
  interfaces := #[]
  cf := some (fileOf pool1 15 #[] #[{ accessFlags := 1, nameIndex := 5, descriptorIndex := 6, attributes := #[] }, { accessFlags := 10, nameIndex := 18, descriptorIndex := 19, attributes := #[] }, { accessFlags := 10, nameIndex := 27, descriptorIndex := 28, attributes := #[] }, { accessFlags := 9, nameIndex := 32, descriptorIndex := 33, attributes := #[] }] 49 2 #[] #[])
  fields := #[]
  methods := #[k1m0, k1m1, k1m2, k1m3]
  instanceTypes := #[]
  staticTypes := #[]
  resolved := Array.replicate 36 none
  statics := none }

def pool2 : Array CpInfo := pool [(1, .methodref 2 3), (0, .class_ 4), (0, .nameAndType 5 6), (0, u "java/lang/Object"), (0, u "<init>"), (0, u "()V"), (0, .fieldref 8 9), (0, .class_ 10), (0, .nameAndType 11 12), (0, u "com/example/clearlot/clearlot/search/PartTree"), (0, u "leafNodes"), (0, u "[I"), (0, .fieldref 8 14), (0, .nameAndType 15 16), (0, u "leafBounds"), (0, u "[J"), (0, .class_ 18), (0, u "com/example/clearlot/clearlot/relaxation/Basis"), (0, .fieldref 8 20), (0, .nameAndType 21 22), (0, u "leafStarts"), (0, u "[Lcom/example/clearlot/clearlot/relaxation/Basis;"), (0, .fieldref 8 24), (0, .nameAndType 25 12), (0, u "parents"), (0, .fieldref 8 27), (0, .nameAndType 28 12), (0, u "branches"), (0, .fieldref 8 30), (0, .nameAndType 31 32), (0, u "nodes"), (0, u "I"), (14, u "leaves"), (9, u "keptBasisEntries"), (0, u "J"), (6, u "NONE"), (2, u "KEPT_BASIS_ENTRIES"), (3, u "add"), (0, u "(IIZ)I"), (11, u "(I)[I")] 2

def k2c0 : Code := { maxStack := 2, maxLocals := 1, code := prog_65_method_1_code, exceptionTable := #[], attributes := #[] }
def k2m0 : Method := { name := "<init>", desc := "()V", sig := { parameters := [], returnType := none }, accessFlags := 0, code := some k2c0 }
def k2c1 : Code := { maxStack := 4, maxLocals := 4, code := prog_65_method_3_code, exceptionTable := #[], attributes := #[] }
def k2m1 : Method := { name := "add", desc := "(IIZ)I", sig := { parameters := [.int, .int, .boolean], returnType := some .int }, accessFlags := 0, code := some k2c1 }
def k2c2 : Code := { maxStack := 4, maxLocals := 5, code := prog_65_method_9_code, exceptionTable := #[], attributes := #[] }
def k2m2 : Method := { name := "branches", desc := "(I)[I", sig := { parameters := [.int], returnType := some (.array .int) }, accessFlags := 0, code := some k2c2 }
/-- com/example/clearlot/clearlot/search/PartTree -/
def k2 : Class := { plain "com/example/clearlot/clearlot/search/PartTree" (some 0) with
  accessFlags := 48
  interfaces := #[]
  cf := some (fileOf pool2 8 #[] #[{ accessFlags := 0, nameIndex := 5, descriptorIndex := 6, attributes := #[] }, { accessFlags := 0, nameIndex := 72, descriptorIndex := 73, attributes := #[] }, { accessFlags := 0, nameIndex := 28, descriptorIndex := 85, attributes := #[] }] 48 2 #[] #[{ accessFlags := 24, nameIndex := 65, descriptorIndex := 32, attributes := #[] }, { accessFlags := 24, nameIndex := 68, descriptorIndex := 58, attributes := #[] }, { accessFlags := 2, nameIndex := 25, descriptorIndex := 12, attributes := #[] }, { accessFlags := 2, nameIndex := 28, descriptorIndex := 12, attributes := #[] }, { accessFlags := 2, nameIndex := 31, descriptorIndex := 32, attributes := #[] }, { accessFlags := 2, nameIndex := 11, descriptorIndex := 12, attributes := #[] }, { accessFlags := 2, nameIndex := 15, descriptorIndex := 16, attributes := #[] }, { accessFlags := 2, nameIndex := 21, descriptorIndex := 22, attributes := #[] }, { accessFlags := 2, nameIndex := 47, descriptorIndex := 32, attributes := #[] }, { accessFlags := 2, nameIndex := 57, descriptorIndex := 58, attributes := #[] }])
  fields := #[{ name := "NONE", type := .int, accessFlags := 24, slot := 0, constantValue := 0 }, { name := "KEPT_BASIS_ENTRIES", type := .long, accessFlags := 24, slot := 1, constantValue := 0 }, { name := "parents", type := (.array .int), accessFlags := 2, slot := 0, constantValue := 0 }, { name := "branches", type := (.array .int), accessFlags := 2, slot := 1, constantValue := 0 }, { name := "nodes", type := .int, accessFlags := 2, slot := 2, constantValue := 0 }, { name := "leafNodes", type := (.array .int), accessFlags := 2, slot := 3, constantValue := 0 }, { name := "leafBounds", type := (.array .long), accessFlags := 2, slot := 4, constantValue := 0 }, { name := "leafStarts", type := (.array (.object "com/example/clearlot/clearlot/relaxation/Basis")), accessFlags := 2, slot := 5, constantValue := 0 }, { name := "leaves", type := .int, accessFlags := 2, slot := 6, constantValue := 0 }, { name := "keptBasisEntries", type := .long, accessFlags := 2, slot := 7, constantValue := 0 }]
  methods := #[k2m0, k2m1, k2m2]
  instanceTypes := #[(.array .int), (.array .int), .int, (.array .int), (.array .long), (.array (.object "com/example/clearlot/clearlot/relaxation/Basis")), .int, .long]
  staticTypes := #[.int, .long]
  resolved := Array.replicate 88 none
  statics := none }

def pool3 : Array CpInfo := pool [(2, .class_ 4), (1, u "java/lang/Object"), (3, .class_ 10), (1, u "com/example/clearlot/clearlot/relaxation/Basis"), (0, u "basic"), (0, u "[I"), (2, u "atUpper"), (2, u "pricedRows"), (2, u "rowPrices"), (0, u "[D")] 46

/-- com/example/clearlot/clearlot/relaxation/Basis -/
def k3 : Class := { plain "com/example/clearlot/clearlot/relaxation/Basis" (some 0) with
  accessFlags := 49
  interfaces := #[]
  cf := some (fileOf pool3 8 #[] #[] 49 2 #[] #[{ accessFlags := 18, nameIndex := 11, descriptorIndex := 12, attributes := #[] }, { accessFlags := 18, nameIndex := 15, descriptorIndex := 12, attributes := #[] }, { accessFlags := 18, nameIndex := 18, descriptorIndex := 12, attributes := #[] }, { accessFlags := 18, nameIndex := 21, descriptorIndex := 22, attributes := #[] }])
  fields := #[{ name := "basic", type := (.array .int), accessFlags := 18, slot := 0, constantValue := 0 }, { name := "atUpper", type := (.array .int), accessFlags := 18, slot := 1, constantValue := 0 }, { name := "pricedRows", type := (.array .int), accessFlags := 18, slot := 2, constantValue := 0 }, { name := "rowPrices", type := (.array .double), accessFlags := 18, slot := 3, constantValue := 0 }]
  methods := #[]
  instanceTypes := #[(.array .int), (.array .int), (.array .int), (.array .double)]
  staticTypes := #[]
  resolved := Array.replicate 69 none
  statics := none }

def pool4 : Array CpInfo := pool [(1, u "java/lang/Cloneable"), (0, .class_ 1), (0, u "java/lang/Object"), (0, .class_ 3)] 3

/-- java/lang/Cloneable -/
def k4 : Class := { plain "java/lang/Cloneable" (some 0) with
  accessFlags := 1537
  interfaces := #[]
  cf := some (fileOf pool4 2 #[] #[] 1537 4 #[] #[])
  fields := #[]
  methods := #[]
  instanceTypes := #[]
  staticTypes := #[]
  resolved := Array.replicate 8 none
  statics := none }

def pool5 : Array CpInfo := pool [(1, u "java/io/Serializable"), (0, .class_ 1), (0, u "java/lang/Object"), (0, .class_ 3)] 3

/-- java/io/Serializable -/
def k5 : Class := { plain "java/io/Serializable" (some 0) with
  accessFlags := 1537
  interfaces := #[]
  cf := some (fileOf pool5 2 #[] #[] 1537 4 #[] #[])
  fields := #[]
  methods := #[]
  instanceTypes := #[]
  staticTypes := #[]
  resolved := Array.replicate 8 none
  statics := none }

/-- the primitive byte -/
def k6 : Class := { plain "byte" none with kind := .primitive 'B', accessFlags := 0x411 }
/-- [B -/
def k7 : Class := { plain "[B" (some 0) with kind := .array 6 .byte, interfaces := #[4, 5], accessFlags := 1041 }

/-- the primitive int -/
def k8 : Class := { plain "int" none with kind := .primitive 'I', accessFlags := 0x411 }
/-- [I -/
def k9 : Class := { plain "[I" (some 0) with kind := .array 8 .int, interfaces := #[4, 5], accessFlags := 1041 }

/-- the primitive long -/
def k10 : Class := { plain "long" none with kind := .primitive 'J', accessFlags := 0x411 }
/-- [J -/
def k11 : Class := { plain "[J" (some 0) with kind := .array 10 .long, interfaces := #[4, 5], accessFlags := 1041 }

/-- [Lcom/example/clearlot/clearlot/relaxation/Basis; -/
def k12 : Class := { plain "[Lcom/example/clearlot/clearlot/relaxation/Basis;" (some 0) with kind := .array 3 (.object "com/example/clearlot/clearlot/relaxation/Basis"), interfaces := #[4, 5], accessFlags := 1041 }

def heap : Heap := #[]
def classes : Array Class := #[k0, k1, k2, k3, k4, k5, k6, k7, k8, k9, k10, k11, k12]
def interned : List (Array UInt16 × Addr) := []
def slotsUsed : Nat := 0
def theMethod : MethodId := ⟨1, 3⟩
def args0 : Array Value := #[.int 5, .int 5, .int 5, .int 5, .int 5, .int 5]
def aboutOver (below : List Frame) : State where
  vm := { classes := classes, interned := interned.toArray }
  heap := heap
  slotsUsed := slotsUsed
  threads := #[{ frames := .invoking theMethod args0 :: below }]
def below0 : List Frame := [.native { method := ⟨0, 0⟩, args := #[] }]
def about1 : State := aboutOver below0
def p0 : Program := .bare "" "" ""
def e0 : Env := launch0.env 0 0 0
theorem w_frames : about1.frames = Frame.invoking theMethod args0 :: below0 := rfl
set_option maxRecDepth 65536 in
theorem w_args : argsFit about1.vm theMethod args0 = true := by decide +kernel
set_option maxRecDepth 65536 in
theorem w_heap : heapFits about1 = true := by decide +kernel
set_option maxRecDepth 65536 in
theorem w_runnable : about1.curStatus? = some .runnable := by decide +kernel
set_option maxRecDepth 65536 in
theorem w_alone : about1.alone = true := by decide +kernel
set_option maxRecDepth 65536 in
theorem w_named : about1.methodNamed? x = some theMethod := by decide +kernel
set_option maxRecDepth 65536 in
theorem w_hears : about1.hears theMethod below0 = true := by decide +kernel
set_option maxRecDepth 65536 in
theorem w_ripe : about1.ripe theMethod args0 below0 = true := by decide +kernel
theorem w_running : about1.status = .running := rfl
set_option maxRecDepth 65536 in
theorem w_room : about1.hasRoom e0.platform room_1 = true :=
  launch0.hasRoom_least _ room_1 (by decide +kernel) (by decide +kernel) (by decide +kernel) (by decide +kernel) (by decide +kernel) (by decide +kernel)
theorem allAtoms_all (ts : List Jvm.Cond) (a : Array Jvm.Value) (st : Jvm.State) : (allAtoms ts).before a st = ts.all (fun c => c.before a st) := by
  induction ts with
  | nil => rfl
  | cons c t ih =>
    show (Jvm.Cond.and c (allAtoms t)).before a st = _
    rw [Jvm.Cond.before_and, ih, List.all_cons]
def words1 : List Jvm.Cond := Jvm.Cond.code x code maxLocals ret :: tables_1
/-- a 'code' word, met by the world's own term for the bytes: nothing is compared byte by byte -/
theorem code_word {y : MethodName} {bytes : ByteArray} {mx : Nat} {rt : Option FieldType} {a : Array Value} {s : State} {m : MethodId} {meth : Method} {c : Code} (h1 : s.methodNamed? y = some m) (h2 : s.vm.method? m = some meth) (h3 : meth.code = some c) (h4 : c.code = bytes)
    (h5 : (c.maxLocals == mx && c.exceptionTable.isEmpty && decide (c.maxStack ≤ mostOperands) && decide (meth.sig.returnType = rt) && !meth.locks && decide (parseMethodDescriptor y.desc = some meth.sig)) = true) : (Jvm.Cond.code y bytes mx rt).before a s = true := by
  simp only [Bool.and_eq_true, beq_iff_eq, Bool.not_eq_true', decide_eq_true_eq] at h5
  obtain ⟨⟨⟨⟨⟨g1, g2⟩, g3⟩, g4⟩, g5⟩, g6⟩ := h5
  simp [Cond.before, Cond.holds, Cond.value, h1, h2, h3, h4, g1, g2, g3, g4, g5, g6]
def isCode : Jvm.Cond → Bool
  | .code _ _ _ _ => true
  | _ => false
theorem all_split {L : List Jvm.Cond} {P : Jvm.Cond → Bool} (h1 : L.all (fun c => isCode c || P c) = true) (h2 : ∀ c ∈ L.filter isCode, P c = true) : L.all P = true := by
  refine List.all_eq_true.mpr fun c hc => ?_
  have h := List.all_eq_true.mp h1 c hc
  rcases Bool.eq_false_or_eq_true (isCode c) with hi | hi
  · exact h2 c (List.mem_filter.mpr ⟨hc, hi⟩)
  · simpa [hi] using h
set_option maxRecDepth 65536 in
theorem w_c0 : (Jvm.Cond.code x code maxLocals ret).before args0 about1 = true := code_word (m := ⟨1, 3⟩) (meth := k1m3) (c := k1c3) (by decide +kernel) rfl rfl rfl (by decide +kernel)
set_option maxRecDepth 65536 in
theorem w_c1 : (Jvm.Cond.code ({ cls := "com/example/clearlot/clearlot/search/PartTree", name := "<init>", desc := "()V" } : Jvm.MethodName) prog_65_method_1_code (1 : Nat) (Option.none : Option Jvm.ClassFile.FieldType)).before args0 about1 = true := code_word (m := ⟨2, 0⟩) (meth := k2m0) (c := k2c0) (by decide +kernel) rfl rfl rfl (by decide +kernel)
set_option maxRecDepth 65536 in
theorem w_c2 : (Jvm.Cond.code ({ cls := "java/lang/Object", name := "<init>", desc := "()V" } : Jvm.MethodName) object_method_1_code (1 : Nat) (Option.none : Option Jvm.ClassFile.FieldType)).before args0 about1 = true := code_word (m := ⟨0, 0⟩) (meth := k0m0) (c := k0c0) (by decide +kernel) rfl rfl rfl (by decide +kernel)
set_option maxRecDepth 65536 in
theorem w_c3 : (Jvm.Cond.code ({ cls := "com/example/clearlot/clearlot/search/PartTree", name := "add", desc := "(IIZ)I" } : Jvm.MethodName) prog_65_method_3_code (4 : Nat) (Option.some Jvm.ClassFile.FieldType.int)).before args0 about1 = true := code_word (m := ⟨2, 1⟩) (meth := k2m1) (c := k2c1) (by decide +kernel) rfl rfl rfl (by decide +kernel)
set_option maxRecDepth 65536 in
theorem w_c4 : (Jvm.Cond.code ({ cls := "com/example/clearlot/clearlot/search/PartTreeBranchesPinLaw", name := "code", desc := "(IZ)I" } : Jvm.MethodName) method_2_code (2 : Nat) (Option.some Jvm.ClassFile.FieldType.int)).before args0 about1 = true := code_word (m := ⟨1, 1⟩) (meth := k1m1) (c := k1c1) (by decide +kernel) rfl rfl rfl (by decide +kernel)
set_option maxRecDepth 65536 in
theorem w_c5 : (Jvm.Cond.code ({ cls := "com/example/clearlot/clearlot/search/PartTree", name := "branches", desc := "(I)[I" } : Jvm.MethodName) prog_65_method_9_code (5 : Nat) (Option.some (Jvm.ClassFile.FieldType.array Jvm.ClassFile.FieldType.int))).before args0 about1 = true := code_word (m := ⟨2, 2⟩) (meth := k2m2) (c := k2c2) (by decide +kernel) rfl rfl rfl (by decide +kernel)
set_option maxRecDepth 65536 in
theorem w_c6 : (Jvm.Cond.code ({ cls := "com/example/clearlot/clearlot/search/PartTreeBranchesPinLaw", name := "same", desc := "([IIIII)Z" } : Jvm.MethodName) method_3_code (5 : Nat) (Option.some Jvm.ClassFile.FieldType.boolean)).before args0 about1 = true := code_word (m := ⟨1, 2⟩) (meth := k1m2) (c := k1c2) (by decide +kernel) rfl rfl rfl (by decide +kernel)
def codes1 : List Jvm.Cond := [Jvm.Cond.code x code maxLocals ret, Jvm.Cond.code ({ cls := "com/example/clearlot/clearlot/search/PartTree", name := "<init>", desc := "()V" } : Jvm.MethodName) prog_65_method_1_code (1 : Nat) (Option.none : Option Jvm.ClassFile.FieldType), Jvm.Cond.code ({ cls := "java/lang/Object", name := "<init>", desc := "()V" } : Jvm.MethodName) object_method_1_code (1 : Nat) (Option.none : Option Jvm.ClassFile.FieldType), Jvm.Cond.code ({ cls := "com/example/clearlot/clearlot/search/PartTree", name := "add", desc := "(IIZ)I" } : Jvm.MethodName) prog_65_method_3_code (4 : Nat) (Option.some Jvm.ClassFile.FieldType.int), Jvm.Cond.code ({ cls := "com/example/clearlot/clearlot/search/PartTreeBranchesPinLaw", name := "code", desc := "(IZ)I" } : Jvm.MethodName) method_2_code (2 : Nat) (Option.some Jvm.ClassFile.FieldType.int), Jvm.Cond.code ({ cls := "com/example/clearlot/clearlot/search/PartTree", name := "branches", desc := "(I)[I" } : Jvm.MethodName) prog_65_method_9_code (5 : Nat) (Option.some (Jvm.ClassFile.FieldType.array Jvm.ClassFile.FieldType.int)), Jvm.Cond.code ({ cls := "com/example/clearlot/clearlot/search/PartTreeBranchesPinLaw", name := "same", desc := "([IIIII)Z" } : Jvm.MethodName) method_3_code (5 : Nat) (Option.some Jvm.ClassFile.FieldType.boolean)]
set_option maxRecDepth 65536 in
theorem codes_eq : words1.filter isCode = codes1 := rfl
theorem w_codes : ∀ c ∈ words1.filter isCode, c.before args0 about1 = true := by
  rw [codes_eq]
  intro c hc
  simp only [codes1, List.mem_cons, List.not_mem_nil, or_false] at hc
  rcases hc with rfl | rfl | rfl | rfl | rfl | rfl | rfl
  · exact w_c0
  · exact w_c1
  · exact w_c2
  · exact w_c3
  · exact w_c4
  · exact w_c5
  · exact w_c6
set_option maxRecDepth 65536 in
theorem w_t1 : (words1.take 24).all (fun c => isCode c || c.before args0 about1) = true := by decide +kernel
set_option maxRecDepth 65536 in
theorem w_t2 : (words1.drop 24).all (fun c => isCode c || c.before args0 about1) = true := by decide +kernel
theorem w_tables : (allAtoms (Jvm.Cond.code x code maxLocals ret :: tables_1)).before args0 about1 = true := by
  rw [allAtoms_all]
  show words1.all (fun c => c.before args0 about1) = true
  refine all_split ?_ w_codes
  rw [← List.take_append_drop 24 words1, List.all_append, w_t1, w_t2]
  rfl
set_option maxRecDepth 65536 in
theorem w_case : (Jvm.Cond.and given_1 narrow_1).before args0 about1 = true := by decide +kernel
theorem w_applies : (headSpec (Jvm.Cond.code x code maxLocals ret :: tables_1) room_1).applies x e0.platform about1 = true :=
  (Spec.applies_iff w_frames).mpr ⟨w_running, w_runnable, w_alone, w_named, w_hears, w_ripe, w_room, w_tables⟩
theorem atStart : AtStart classFile x code maxLocals ret World_1 tables_1 room_1 Calls_1 rest_1 Pre_1 launch0 p0 e0 about1 theMethod args0 below0 :=
  ⟨lists_1, trivial, launch0.admits_env _ _ _, launch0.least_env, fairChoices_fair.cas, fairChoices_fair.clock, w_frames, w_args, w_heap, w_applies, trivial, trivial, w_case⟩
end start1
theorem witness_1 : WitnessClaimed_1 := ⟨start1.p0, start1.e0, start1.about1, start1.theMethod, start1.args0, start1.below0, start1.atStart⟩
end Jvm.Pilot.@@N@@
