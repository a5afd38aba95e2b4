import JvmDerived
import JvmDerived.Pilot.@@N@@Statement
import JvmDerived.Pilot.@@N@@Code
set_option linter.unusedVariables false
set_option linter.unusedSimpArgs false
namespace Jvm.RoadKit
open Sem ClassFile Op Lib Jvm.Stand Jvm.Free Jvm.LawKit
/-- from T the run comes to a state of which Φ holds -/
def own_R (tb : Tables) (e : Env) (below : List Frame) (Φ : State → Prop) (T : State) : Prop := ∃ T', Φ T' ∧ ∀ t, Steps tb e below T' t → Steps tb e below T t
theorem own_leaf {tb : Tables} {e : Env} {below : List Frame} {Φ : State → Prop} {T : State} (h : Φ T) : own_R tb e below Φ T := ⟨T, h, fun _ k => k⟩
theorem own_go {tb : Tables} {e : Env} {below : List Frame} {Φ : State → Prop} {T T1 : State} (h : ∀ t, Steps tb e below T1 t → Steps tb e below T t) (g : own_R tb e below Φ T1) : own_R tb e below Φ T := by
  obtain ⟨T', h1, h2⟩ := g
  exact ⟨T', h1, fun t k => h t (h2 t k)⟩
theorem own_to {tb : Tables} {e : Env} {below : List Frame} {Φ Ψ : State → Prop} {T : State} (h : own_R tb e below Φ T) (g : ∀ U, Φ U → own_R tb e below Ψ U) : own_R tb e below Ψ T := by
  obtain ⟨T', h1, h2⟩ := h
  exact own_go h2 (g T' h1)
/-- the call has come to its end: what it returns and leaves -/
def own_F (below : List Frame) (s : State) (Q : Option Value → Heap → List Loc → Prop) (rc rs : Nat) (U : State) : Prop := U.status = .running ∧ ∃ v L, Ended U below (.returned v) ∧ Q v U.heap L ∧ FrameEnd s (.returned v) U L rc rs
theorem own_fin {tb : Tables} {e : Env} {below : List Frame} {s : State} {Q : Option Value → Heap → List Loc → Prop} {rc rs : Nat} {T : State} (h : own_R tb e below (own_F below s Q rc rs) T) :
    ∃ s₂ o, Steps tb e below T s₂ ∧ s₂.status = .running ∧ Ended s₂ below o ∧ ∃ v L, o = .returned v ∧ Q v s₂.heap L ∧ FrameEnd s o s₂ L rc rs := by
  obtain ⟨T', ⟨h1, v, L, h2, h3, h4⟩, h5⟩ := h
  exact ⟨T', .returned v, h5 _ (Steps.refl _), h1, h2, v, L, rfl, h3, h4⟩
section New
variable {p : Program} {l : Launch} {e : Env} {R : Room} {s : State} {m : MethodId} {args : Array Value} {below : List Frame} {meth : Method} {c : Code} {T : State} {locs : List Loc} {cells slots : Nat}
theorem retI (X : Stand p l e R s m args below meth c T locs cells slots) (hx : p.tables.exec = Jvm.exec) {pc : Nat} {Ls : Array Slot} {z : Int32} {rest : List Value} (hret : meth.sig.returnType = some .int) (hd : decode c.code pc = .ok (.ireturn, 1)) {fs : List Frame}
    (hl : ∀ (f : JFrame) (acts : List Action), f.method = m → f.locked = none → f.entered = [] → (doReturn e (T.setTop f) acts (some (.int z))).1 = T.setFrames fs) : Steps p.tables e below (T.setTop (mkF m pc Ls (.int z :: rest))) (T.setFrames fs) := by
  have hm' : T.vm.method? m = some meth := X.method'
  have hn : narrow .int (.int z) = .int z := rfl
  show Steps p.tables e below (T.setTop { method := m, pc := pc, locals := Ls, stack := _ :: rest, locked := none }) _
  jvm_step X.here [X.here.top, hx, hd, hm', hret, hn]
  first | (intro acts; rw [hl _ acts rfl rfl rfl]) | rw [hl _ _ rfl rfl rfl]
  exact Steps.refl _
variable {Q : Option Value → Heap → List Loc → Prop} {rc rs : Nat}
theorem own_end (X : Stand p l e R s m args below meth c T locs cells slots) (hlk : meth.locks = false) {v : Option Value} (hv : meth.sig.returnType = none → v = none) (hQ : Q v T.heap locs) (hc : cells ≤ rc) (hs : slots ≤ rs) {g : JFrame}
    (hst : ∀ fs, (∀ (f : JFrame) (acts : List Action), f.method = m → f.locked = none → f.entered = [] → (doReturn e (T.setTop f) acts v).1 = T.setFrames fs) → Steps p.tables e below (T.setTop g) (T.setFrames fs)) : own_R p.tables e below (own_F below s Q rc rs) (T.setTop g) := by
  obtain ⟨fs, hr, hrun, hended, hW, hsame⟩ := X.leave hv hlk
  exact ⟨T.setFrames fs, ⟨hrun, v, locs, hended, hQ, ⟨_, rfl⟩, hW, hsame.mono hc hs⟩, fun t k => (hst fs hr).trans k⟩
theorem own_ret0 (X : Stand p l e R s m args below meth c T locs cells slots) (hx : p.tables.exec = Jvm.exec) {pc : Nat} {Ls : Array Slot} (hret : meth.sig.returnType = none) (hd : decode c.code pc = .ok (.return_, 1)) (hlk : meth.locks = false) (hQ : Q none T.heap locs) (hc : cells ≤ rc) (hs : slots ≤ rs) :
    own_R p.tables e below (own_F below s Q rc rs) (T.setTop (mkF m pc Ls [])) := own_end X hlk (fun _ => rfl) hQ hc hs fun _ hr => X.returnOut hx hret hd hr
theorem own_retI (X : Stand p l e R s m args below meth c T locs cells slots) (hx : p.tables.exec = Jvm.exec) {pc : Nat} {Ls : Array Slot} {z : Int32} {rest : List Value} (hret : meth.sig.returnType = some .int) (hd : decode c.code pc = .ok (.ireturn, 1)) (hlk : meth.locks = false) (hQ : Q (some (.int z)) T.heap locs) (hc : cells ≤ rc) (hs : slots ≤ rs) :
    own_R p.tables e below (own_F below s Q rc rs) (T.setTop (mkF m pc Ls (.int z :: rest))) := own_end X hlk (fun h => by rw [hret] at h; cases h) hQ hc hs fun _ hr => retI X hx hret hd hr
theorem own_retN (X : Stand p l e R s m args below meth c T locs cells slots) (hx : p.tables.exec = Jvm.exec) {t : FieldType} (ht : t = .boolean ∨ t = .byte ∨ t = .char ∨ t = .short) {pc : Nat} {Ls : Array Slot} {z : Int32} {rest : List Value} (hret : meth.sig.returnType = some t) (hd : decode c.code pc = .ok (.ireturn, 1)) (hlk : meth.locks = false) (hQ : Q (some (.int (nar t z))) T.heap locs) (hc : cells ≤ rc) (hs : slots ≤ rs) :
    own_R p.tables e below (own_F below s Q rc rs) (T.setTop (mkF m pc Ls (.int z :: rest))) := own_end X hlk (fun h => by rw [hret] at h; cases h) hQ hc hs fun _ hr => retN X hx hret ht hd hr
theorem own_retL (X : Stand p l e R s m args below meth c T locs cells slots) (hx : p.tables.exec = Jvm.exec) {pc : Nat} {Ls : Array Slot} {z : Int64} {rest : List Value} (hret : meth.sig.returnType = some .long) (hd : decode c.code pc = .ok (.lreturn, 1)) (hlk : meth.locks = false) (hQ : Q (some (.long z)) T.heap locs) (hc : cells ≤ rc) (hs : slots ≤ rs) :
    own_R p.tables e below (own_F below s Q rc rs) (T.setTop (mkF m pc Ls (.long z :: rest))) := own_end X hlk (fun h => by rw [hret] at h; cases h) hQ hc hs fun _ hr => retOut X hx hret rfl (Or.inr (Or.inl ⟨rfl, rfl, z, rfl⟩)) hd hr
theorem own_retA (X : Stand p l e R s m args below meth c T locs cells slots) (hx : p.tables.exec = Jvm.exec) {t : FieldType} {pc : Nat} {Ls : Array Slot} {w : Value} {rest : List Value} (ht : t.isReference = true) (hw : w.isRef = true) (hret : meth.sig.returnType = some t) (hd : decode c.code pc = .ok (.areturn, 1)) (hlk : meth.locks = false) (hQ : Q (some w) T.heap locs) (hc : cells ≤ rc) (hs : slots ≤ rs) :
    own_R p.tables e below (own_F below s Q rc rs) (T.setTop (mkF m pc Ls (w :: rest))) := own_end X hlk (fun h => by rw [hret] at h; cases h) hQ hc hs fun _ hr => retOut X hx hret (by cases t <;> first | rfl | cases ht) (Or.inr (Or.inr (Or.inr (Or.inr ⟨rfl, ht, hw⟩)))) hd hr
variable {Z : State} {h : Heap} {a : Addr} {k : ClassId} {n : Int32} {vs : List Value} {dv : Value}
theorem own_len (X : Stand p l e R s m args below meth c T locs cells slots) (hx : p.tables.exec = Jvm.exec) (hZ : Z.Warmed39 s.vm) (eT : T.heap = h) {ty : FieldType} (V : Arv Z h a k ty n vs dv) {g : JFrame} (hg : g.method = m) {rest : List Value} (hs : g.stack = .ref a :: rest) (hd : decode c.code g.pc = .ok (.arraylength, 1)) :
    ∀ target, Steps p.tables e below (T.setTop { g with pc := g.pc + 1, stack := .int n :: rest }) target → Steps p.tables e below (T.setTop g) target := by
  obtain ⟨cl, A, -, S, N, -, -⟩ := V
  intro t kt
  refine X.arraylength hx (by rw [eT]; exact A.1) (State.isArrayOf_alike hZ.alike A.2.1) hg hs hd t ?_
  rw [len_of S N]; exact kt
theorem own_ldI (X : Stand p l e R s m args below meth c T locs cells slots) (hx : p.tables.exec = Jvm.exec) (hZ : Z.Warmed39 s.vm) (eT : T.heap = h) (V : Arv Z h a k .int n vs dv) {j : Int32} {i : Nat} (hj : ¬ j < 0 ∧ j < n) (hi : j.toNatClampNeg = i) {v : Value} (hv : vs.getD i dv = v) {g : JFrame} (hg : g.method = m) {rest : List Value} (hs : g.stack = .int j :: .ref a :: rest) (hd : decode c.code g.pc = .ok (.iaload, 1)) :
    ∀ target, Steps p.tables e below (T.setTop { g with pc := g.pc + 1, stack := v :: rest }) target → Steps p.tables e below (T.setTop g) target := by
  obtain ⟨cl, A, -, S, N, H, -⟩ := V
  subst hi
  intro t kt
  exact X.iaload hx (by rw [eT]; exact A.1) (State.isArrayOf_alike hZ.alike A.2.1) A.2.2 (inb_of S hj) (H.at (inb_of S hj) hv) hg hs hd t kt
theorem own_ldJ (X : Stand p l e R s m args below meth c T locs cells slots) (hx : p.tables.exec = Jvm.exec) (hZ : Z.Warmed39 s.vm) (eT : T.heap = h) (V : Arv Z h a k .long n vs dv) {j : Int32} {i : Nat} (hj : ¬ j < 0 ∧ j < n) (hi : j.toNatClampNeg = i) {v : Value} (hv : vs.getD i dv = v) {g : JFrame} (hg : g.method = m) {rest : List Value} (hs : g.stack = .int j :: .ref a :: rest) (hd : decode c.code g.pc = .ok (.laload, 1)) :
    ∀ target, Steps p.tables e below (T.setTop { g with pc := g.pc + 1, stack := v :: rest }) target → Steps p.tables e below (T.setTop g) target := by
  obtain ⟨cl, A, -, S, N, H, -⟩ := V
  subst hi
  intro t kt
  exact X.laload hx (by rw [eT]; exact A.1) (State.isArrayOf_alike hZ.alike A.2.1) A.2.2 (inb_of S hj) (H.at (inb_of S hj) hv) hg hs hd t kt
theorem own_ldB (X : Stand p l e R s m args below meth c T locs cells slots) (hx : p.tables.exec = Jvm.exec) (hZ : Z.Warmed39 s.vm) (eT : T.heap = h) (V : Arv Z h a k .byte n vs dv) {j : Int32} {i : Nat} (hj : ¬ j < 0 ∧ j < n) (hi : j.toNatClampNeg = i) {v : Value} (hv : vs.getD i dv = v) {g : JFrame} (hg : g.method = m) {rest : List Value} (hs : g.stack = .int j :: .ref a :: rest) (hd : decode c.code g.pc = .ok (.baload, 1)) :
    ∀ target, Steps p.tables e below (T.setTop { g with pc := g.pc + 1, stack := v :: rest }) target → Steps p.tables e below (T.setTop g) target := by
  obtain ⟨cl, A, -, S, N, H, -⟩ := V
  subst hi
  intro t kt
  exact X.baloadBytes hx (by rw [eT]; exact A.1) (State.isArrayOf_alike hZ.alike A.2.1) A.2.2 (inb_of S hj) (H.at (inb_of S hj) hv) hg hs hd t kt
theorem own_stI (X : Stand p l e R s m args below meth c T locs cells slots) (hx : p.tables.exec = Jvm.exec) (hZ : Z.Warmed39 s.vm) (eT : T.heap = h) (V : Arv Z h a k .int n vs dv) {j : Int32} {i : Nat} (hj : ¬ j < 0 ∧ j < n) (hi : j.toNatClampNeg = i) (hlen : i < vs.length) {x : Int32} {w : Value} (hw : w = .int x) {g : JFrame} (hg : g.method = m) {rest : List Value} (hs : g.stack = .int x :: .int j :: .ref a :: rest) (hd : decode c.code g.pc = .ok (.iastore, 1)) :
    ∃ T' h' sl, Stand p l e R s m args below meth c T' (locs ++ [⟨a, sl⟩]) cells slots ∧ T'.heap = h' ∧ Wr h h' a sl w ∧ Arv Z h' a k .int n (vs.set i w) dv ∧ ∀ target, Steps p.tables e below (T'.setTop { g with pc := g.pc + 1, stack := rest }) target → Steps p.tables e below (T.setTop g) target := by
  obtain ⟨cl, A, q1, S, N, H, G⟩ := V
  subst hw
  obtain ⟨T', h', X', e', W', st⟩ := stI X hx hZ eT A (j := j) (inb_of S hj) hg hs hd
  exact ⟨T', h', _, X', e', W', Arv.set A q1 S N H G rfl W' i hi hlen, st⟩
theorem own_stJ (X : Stand p l e R s m args below meth c T locs cells slots) (hx : p.tables.exec = Jvm.exec) (hZ : Z.Warmed39 s.vm) (eT : T.heap = h) (V : Arv Z h a k .long n vs dv) {j : Int32} {i : Nat} (hj : ¬ j < 0 ∧ j < n) (hi : j.toNatClampNeg = i) (hlen : i < vs.length) {x : Int64} {w : Value} (hw : w = .long x) {g : JFrame} (hg : g.method = m) {rest : List Value} (hs : g.stack = .long x :: .int j :: .ref a :: rest) (hd : decode c.code g.pc = .ok (.lastore, 1)) :
    ∃ T' h' sl, Stand p l e R s m args below meth c T' (locs ++ [⟨a, sl⟩]) cells slots ∧ T'.heap = h' ∧ Wr h h' a sl w ∧ Arv Z h' a k .long n (vs.set i w) dv ∧ ∀ target, Steps p.tables e below (T'.setTop { g with pc := g.pc + 1, stack := rest }) target → Steps p.tables e below (T.setTop g) target := by
  obtain ⟨cl, A, q1, S, N, H, G⟩ := V
  subst hw
  obtain ⟨T', h', X', e', W', st⟩ := stJ X hx hZ eT A (j := j) (inb_of S hj) hg hs hd
  exact ⟨T', h', _, X', e', W', Arv.set A q1 S N H G rfl W' i hi hlen, st⟩
end New
end Jvm.RoadKit
namespace Jvm.Pilot.@@N@@
open Jvm Jvm.ClassFile Sem Op Lib Jvm.Free Jvm.Stand Jvm.LawKit Jvm.RoadKit Bundle Jvm.Pilot.@@N@@.Jvm.D
theorem pd_0 : parseMethodDescriptor "(II)I" = some ⟨[.int, .int], some .int⟩ := by decide +kernel
theorem pd_1 : parseMethodDescriptor "([II)[I" = some ⟨[(.array .int), .int], some (.array .int)⟩ := by decide +kernel
theorem pd_2 : parseMethodDescriptor "()V" = some ⟨[], none⟩ := by decide +kernel
theorem pd_3 : parseMethodDescriptor "()I" = some ⟨[], some .int⟩ := by decide +kernel
theorem pd_4 : parseMethodDescriptor "()[I" = some ⟨[], some (.array .int)⟩ := by decide +kernel
theorem pd_5 : parseMethodDescriptor "(I)V" = some ⟨[.int], none⟩ := by decide +kernel
theorem pd_6 : parseMethodDescriptor "(I)I" = some ⟨[.int], some .int⟩ := by decide +kernel

def own_min (a b : Int32) : Int32 := if b < a then b else a
theorem own_min_eq {z n : Int32} (h : n < z) : own_min z n = n := by rw [own_min, if_pos h]
theorem own_lt_nat {a b : Int32} (h0 : ¬ a < 0) (h : a < b) : a.toNatClampNeg ≤ b.toNatClampNeg := by
  rw [Int32.lt_iff_toInt_lt] at h0 h
  have : (0 : Int32).toInt = 0 := rfl
  simp only [Int32.toNatClampNeg]; omega
theorem own_four (x n : Int32) (h : (x &&& (3 : Int32)) = n) : n = (0 : Int32) ∨ n = (1 : Int32) ∨ n = (2 : Int32) ∨ n = (3 : Int32) := by
  have h1 := c_and x 3 (by decide)
  rw [h, show (3 : Int32).toInt = 3 from rfl] at h1
  simp only [← Int32.toInt_inj, show (0 : Int32).toInt = 0 from rfl, show (1 : Int32).toInt = 1 from rfl, show (2 : Int32).toInt = 2 from rfl, show (3 : Int32).toInt = 3 from rfl]
  omega
theorem d8_0 : decode jdk_29_method_69_code 0 = .ok (.iload_n 0, 1) := by decide +kernel
theorem d8_1 : decode jdk_29_method_69_code 1 = .ok (.iload_n 1, 1) := by decide +kernel
theorem d8_2 : decode jdk_29_method_69_code 2 = .ok (.if_icmp .gt 7, 3) := by decide +kernel
theorem d8_5 : decode jdk_29_method_69_code 5 = .ok (.iload_n 0, 1) := by decide +kernel
theorem d8_6 : decode jdk_29_method_69_code 6 = .ok (.goto 4, 3) := by decide +kernel
theorem d8_9 : decode jdk_29_method_69_code 9 = .ok (.iload_n 1, 1) := by decide +kernel
theorem d8_10 : decode jdk_29_method_69_code 10 = .ok (.ireturn, 1) := by decide +kernel
theorem ef_8 (m : MethodId) (x0 : Int32) (x1 : Int32) : entryFrame m #[(.int x0), (.int x1)] 2 = mkF m 0 #[.val (.int x0), .val (.int x1)] [] := by first | (simp [entryFrame, mkF, argsToLocals, Value.category]; done) | rfl
def Q8 (Z : State) (p1 : Int32) (p2 : Int32) (h0 : Heap) (n0 : Nat) (v : Option Value) (h : Heap) (L : List Loc) : Prop := v = some (.int (own_min p1 p2)) ∧ Fr n0 L ∧ h = h0
set_option maxRecDepth 65536 in
set_option maxHeartbeats 40000000 in
theorem rm8 (l : Launch) (Z : State) (a0 : Array Value) (hw : ∀ d ∈ tables_1, d.before a0 Z = true) (ws : List Jvm.Cond) (p1 : Int32) (p2 : Int32) (h0 : Heap) (n0 : Nat) (ZS : n0 ≤ h0.size) :
    MetFree l (⟨"java/lang/Math", "min", "(II)I"⟩ : MethodName) (head1 (Jvm.Cond.code (⟨"java/lang/Math", "min", "(II)I"⟩ : MethodName) jdk_29_method_69_code 2 (some .int) :: ws) ({ frames := 0, cells := 0, slots := 0, locals := 0 } : Room)) (fun a U => a = #[(.int p1), (.int p2)] ∧ Z.Warmed39 U.vm ∧ U.heap = h0) (fun _ _ _ _ _ => True) (fun _ U o U' => ∃ v L, o = .returned v ∧ Q8 Z p1 p2 h0 n0 v U'.heap L ∧ FrameEnd U o U' L ({ frames := 0, cells := 0, slots := 0, locals := 0 } : Room).cells ({ frames := 0, cells := 0, slots := 0, locals := 0 } : Room).slots) := by
  refine MetFree.of_bodySF (Jvm.Free.JP.mathPlain rfl (by decide +kernel)) hisR ?_
  intro p e s m args below meth c s₁ Bd hml0 hP hK
  obtain ⟨rfl, hZ, hh⟩ := hP
  have hx := Bd.exec
  have hby := Bd.bytes
  have hml : c.maxLocals = 2 := hml0
  have hown : s.vm.findClass "java/lang/Math" = some m.cls := findClass_of_methodNamed Bd.named
  have hnm := (name_of_methodNamed Bd.named Bd.method).1
  have hlk : meth.locks = false := Bd.notSynchronized
  have X0 : Stand p l e ({ frames := 0, cells := 0, slots := 0, locals := 0 } : Room) s m #[(.int p1), (.int p2)] below meth c s₁ [] 0 0 := Stand.of_body Bd
  have e0 : s₁.heap = h0 := by rw [← hh, Bd.state]; rfl
  have NF := Fr.nil n0
  have KP : Keep h0 h0 [] := Keep.refl _ _
  refine own_fin (s := s) (Q := Q8 Z p1 p2 h0 n0) (rc := ({ frames := 0, cells := 0, slots := 0, locals := 0 } : Room).cells) (rs := ({ frames := 0, cells := 0, slots := 0, locals := 0 } : Room).slots) ?_
  refine own_go (fun t k => castTop (ef_8 m p1 p2) k) ?_
  show own_R _ _ _ _ (s₁.setTop (mkF m 0 #[.val (.int p1), .val (.int p2)] []))
  refine own_go (fun _ k => XS.iloadN X0.here hx rfl (hb hby d8_0) rfl k) ?_
  show own_R _ _ _ _ (s₁.setTop (mkF m 1 #[.val (.int p1), .val (.int p2)] [(.int p1)]))
  refine own_go (fun _ k => XS.iloadN X0.here hx rfl (hb hby d8_1) rfl k) ?_
  show own_R _ _ _ _ (s₁.setTop (mkF m 2 #[.val (.int p1), .val (.int p2)] [(.int p2), (.int p1)]))
  by_cases hc1 : p2 < p1
  · refine own_go (fun _ k => XS.icmpYes X0.here hx rfl (pc0 := 2) (pc' := 9) rfl (hb hby d8_2) rfl (tlt hc1).2.2.1 (by decide) (by decide) k) ?_
    show own_R _ _ _ _ (s₁.setTop (mkF m 9 #[.val (.int p1), .val (.int p2)] []))
    refine own_go (fun _ k => XS.iloadN X0.here hx rfl (hb hby d8_9) rfl k) ?_
    show own_R _ _ _ _ (s₁.setTop (mkF m 10 #[.val (.int p1), .val (.int p2)] [(.int p2)]))
    exact own_retI X0 hx Bd.returns (hb hby d8_10) hlk ⟨by rw [own_min, if_pos hc1], NF, e0⟩ (by decide) (by decide)
  · refine own_go (fun _ k => XS.icmpNo X0.here hx rfl (hb hby d8_2) rfl (flt hc1).2.2.1 k) ?_
    show own_R _ _ _ _ (s₁.setTop (mkF m 5 #[.val (.int p1), .val (.int p2)] []))
    refine own_go (fun _ k => XS.iloadN X0.here hx rfl (hb hby d8_5) rfl k) ?_
    show own_R _ _ _ _ (s₁.setTop (mkF m 6 #[.val (.int p1), .val (.int p2)] [(.int p1)]))
    refine own_go (fun _ k => XS.goto X0.here hx rfl (pc0 := 6) (pc' := 10) rfl (hb hby d8_6) (by decide) (by decide) k) ?_
    show own_R _ _ _ _ (s₁.setTop (mkF m 10 #[.val (.int p1), .val (.int p2)] [(.int p1)]))
    exact own_retI X0 hx Bd.returns (hb hby d8_10) hlk ⟨by rw [own_min, if_neg hc1], NF, e0⟩ (by decide) (by decide)
theorem d7_0 : decode jdk_65_method_123_code 0 = .ok (.iload_n 1, 1) := by decide +kernel
theorem d7_1 : decode jdk_65_method_123_code 1 = .ok (.aload_n 0, 1) := by decide +kernel
theorem d7_2 : decode jdk_65_method_123_code 2 = .ok (.arraylength, 1) := by decide +kernel
theorem d7_3 : decode jdk_65_method_123_code 3 = .ok (.if_icmp .ne 11, 3) := by decide +kernel
theorem d7_6 : decode jdk_65_method_123_code 6 = .ok (.aload_n 0, 1) := by decide +kernel
theorem d7_7 : decode jdk_65_method_123_code 7 = .ok (.invokevirtual 316, 3) := by decide +kernel
theorem d7_10 : decode jdk_65_method_123_code 10 = .ok (.checkcast 317, 3) := by decide +kernel
theorem d7_13 : decode jdk_65_method_123_code 13 = .ok (.areturn, 1) := by decide +kernel
theorem d7_14 : decode jdk_65_method_123_code 14 = .ok (.iload_n 1, 1) := by decide +kernel
theorem d7_15 : decode jdk_65_method_123_code 15 = .ok (.newarray .int, 2) := by decide +kernel
theorem d7_17 : decode jdk_65_method_123_code 17 = .ok (.astore_n 2, 1) := by decide +kernel
theorem d7_18 : decode jdk_65_method_123_code 18 = .ok (.aload_n 0, 1) := by decide +kernel
theorem d7_19 : decode jdk_65_method_123_code 19 = .ok (.iconst 0, 1) := by decide +kernel
theorem d7_20 : decode jdk_65_method_123_code 20 = .ok (.aload_n 2, 1) := by decide +kernel
theorem d7_21 : decode jdk_65_method_123_code 21 = .ok (.iconst 0, 1) := by decide +kernel
theorem d7_22 : decode jdk_65_method_123_code 22 = .ok (.aload_n 0, 1) := by decide +kernel
theorem d7_23 : decode jdk_65_method_123_code 23 = .ok (.arraylength, 1) := by decide +kernel
theorem d7_24 : decode jdk_65_method_123_code 24 = .ok (.iload_n 1, 1) := by decide +kernel
theorem d7_25 : decode jdk_65_method_123_code 25 = .ok (.invokestatic 304, 3) := by decide +kernel
theorem d7_28 : decode jdk_65_method_123_code 28 = .ok (.invokestatic 150, 3) := by decide +kernel
theorem d7_31 : decode jdk_65_method_123_code 31 = .ok (.aload_n 2, 1) := by decide +kernel
theorem d7_32 : decode jdk_65_method_123_code 32 = .ok (.areturn, 1) := by decide +kernel
theorem pn_7 : plainName "java/util/Arrays" = true := by first | (simp [plainName, overriddenIn]; done) | decide +kernel
theorem ef_7 (m : MethodId) (x0 : Addr) (x1 : Int32) : entryFrame m #[(.ref x0), (.int x1)] 3 = mkF m 0 #[.val (.ref x0), .val (.int x1), .unset] [] := by first | (simp [entryFrame, mkF, argsToLocals, Value.category]; done) | rfl
def Q7 (Z : State) (a1 : Addr) (p2 : Int32) (k1 : ClassId) (z1 : Int32) (vs : List Value) (h0 : Heap) (n0 : Nat) (v : Option Value) (h : Heap) (L : List Loc) : Prop := ∃ b : Addr, v = some (.ref b) ∧ Fr n0 L ∧ Keep h0 h [] ∧ h0.size ≤ b ∧ ∃ k : ClassId, Arv Z h b k .int p2 ((List.range p2.toNatClampNeg).map fun i => vs.getD i (.int (0 : Int32))) (.int (0 : Int32))
set_option maxRecDepth 65536 in
set_option maxHeartbeats 40000000 in
theorem rm7 (l : Launch) (Z : State) (a0 : Array Value) (hw : ∀ d ∈ tables_1, d.before a0 Z = true) (ws : List Jvm.Cond) (a1 : Addr) (p2 : Int32) (k1 : ClassId) (z1 : Int32) (vs : List Value) (h0 : Heap) (n0 : Nat) (ZS : n0 ≤ h0.size) (V_a1 : Arv Z h0 a1 k1 .int z1 vs (.int (0 : Int32))) (hlt : p2 < z1) (hn0 : ¬ p2 < 0) (hcap : p2.toNatClampNeg ≤ 16) :
    MetFree l (⟨"java/util/Arrays", "copyOf", "([II)[I"⟩ : MethodName) (head1 (Jvm.Cond.code (⟨"java/util/Arrays", "copyOf", "([II)[I"⟩ : MethodName) jdk_65_method_123_code 3 (some (.array .int)) :: ws) ({ frames := 1, cells := 1, slots := 16, locals := 18 } : Room)) (fun a U => a = #[(.ref a1), (.int p2)] ∧ Z.Warmed39 U.vm ∧ U.heap = h0) (fun _ _ _ _ _ => True) (fun _ U o U' => ∃ v L, o = .returned v ∧ Q7 Z a1 p2 k1 z1 vs h0 n0 v U'.heap L ∧ FrameEnd U o U' L ({ frames := 1, cells := 1, slots := 16, locals := 18 } : Room).cells ({ frames := 1, cells := 1, slots := 16, locals := 18 } : Room).slots) := by
  refine MetFree.of_bodySF (plainFor_of_name pn_7) hisR ?_
  intro p e s m args below meth c s₁ Bd hml0 hP hK
  obtain ⟨rfl, hZ, hh⟩ := hP
  have hx := Bd.exec
  have hby := Bd.bytes
  have hml : c.maxLocals = 3 := hml0
  have hown : s.vm.findClass "java/util/Arrays" = some m.cls := findClass_of_methodNamed Bd.named
  have hnm := (name_of_methodNamed Bd.named Bd.method).1
  have hlk : meth.locks = false := Bd.notSynchronized
  have X0 : Stand p l e ({ frames := 1, cells := 1, slots := 16, locals := 18 } : Room) s m #[(.ref a1), (.int p2)] below meth c s₁ [] 0 0 := Stand.of_body Bd
  have e0 : s₁.heap = h0 := by rw [← hh, Bd.state]; rfl
  have NF := Fr.nil n0
  have KP : Keep h0 h0 [] := Keep.refl _ _
  refine own_fin (s := s) (Q := Q7 Z a1 p2 k1 z1 vs h0 n0) (rc := ({ frames := 1, cells := 1, slots := 16, locals := 18 } : Room).cells) (rs := ({ frames := 1, cells := 1, slots := 16, locals := 18 } : Room).slots) ?_
  refine own_go (fun t k => castTop (ef_7 m a1 p2) k) ?_
  show own_R _ _ _ _ (s₁.setTop (mkF m 0 #[.val (.ref a1), .val (.int p2), .unset] []))
  refine own_go (fun _ k => XS.iloadN X0.here hx rfl (hb hby d7_0) rfl k) ?_
  show own_R _ _ _ _ (s₁.setTop (mkF m 1 #[.val (.ref a1), .val (.int p2), .unset] [(.int p2)]))
  refine own_go (fun _ k => XS.aloadN X0.here hx rfl (hb hby d7_1) rfl rfl k) ?_
  show own_R _ _ _ _ (s₁.setTop (mkF m 2 #[.val (.ref a1), .val (.int p2), .unset] [(.ref a1), (.int p2)]))
  refine own_go (own_len X0 hx hZ e0 V_a1 (g := (mkF m 2 #[.val (.ref a1), .val (.int p2), .unset] [(.ref a1), (.int p2)])) rfl rfl (hb hby d7_2)) ?_
  show own_R _ _ _ _ (s₁.setTop (mkF m 3 #[.val (.ref a1), .val (.int p2), .unset] [(.int z1), (.int p2)]))
  refine own_go (fun _ k => XS.icmpYes X0.here hx rfl (pc0 := 3) (pc' := 14) rfl (hb hby d7_3) rfl (feq (fun q => by rw [q] at hlt; exact Int32.lt_irrefl hlt)).2 (by decide) (by decide) k) ?_
  show own_R _ _ _ _ (s₁.setTop (mkF m 14 #[.val (.ref a1), .val (.int p2), .unset] []))
  refine own_go (fun _ k => XS.iloadN X0.here hx rfl (hb hby d7_14) rfl k) ?_
  show own_R _ _ _ _ (s₁.setTop (mkF m 15 #[.val (.ref a1), .val (.int p2), .unset] [(.int p2)]))
  obtain ⟨T2, h2, k2, X2, e2, E2, A2, st2⟩ := newP X0 hx hZ (hw _ (List.mem_of_getElem? (i := 9) rfl)) e0 (g := (mkF m 15 #[.val (.ref a1), .val (.int p2), .unset] [(.int p2)])) rfl (hb hby d7_15) rfl hn0 (cap := 16) hcap (by decide) (by decide) (by decide)
  obtain ⟨b2, g2⟩ : ∃ z, z = h0.size := ⟨_, rfl⟩
  rw [← g2] at A2 st2
  refine own_go st2 ?_
  have ne_a1_b2 : a1 ≠ b2 := Nat.ne_of_lt (Nat.lt_of_lt_of_le V_a1.lt (Nat.le_of_eq g2.symm))
  have g_b2 : n0 ≤ b2 := Nat.le_trans ZS (Nat.le_of_eq g2.symm)
  have sz_b2 : h0.size ≤ b2 := Nat.le_trans KP.1 (Nat.le_of_eq g2.symm)
  have V_a1 := V_a1.ext E2
  have ZS := Nat.le_trans ZS E2.1
  have KP := KP.ext E2
  have V_b2 : Arv Z h2 b2 k2 .int p2 (List.replicate p2.toNatClampNeg (.int (0 : Int32))) (.int (0 : Int32)) := (Arv.new A2 hn0).pad (pad_rep [] (.int (0 : Int32)) _)
  show own_R _ _ _ _ (T2.setTop (mkF m 17 #[.val (.ref a1), .val (.int p2), .unset] [(.ref b2)]))
  refine own_go (fun _ k => XS.astoreN X2.here hx rfl (hb hby d7_17) rfl rfl (l' := #[.val (.ref a1), .val (.int p2), .val (.ref b2)]) rfl k) ?_
  show own_R _ _ _ _ (T2.setTop (mkF m 18 #[.val (.ref a1), .val (.int p2), .val (.ref b2)] []))
  refine own_go (fun _ k => XS.aloadN X2.here hx rfl (hb hby d7_18) rfl rfl k) ?_
  show own_R _ _ _ _ (T2.setTop (mkF m 19 #[.val (.ref a1), .val (.int p2), .val (.ref b2)] [(.ref a1)]))
  refine own_go (fun _ k => XS.iconst X2.here hx rfl (hb hby d7_19) k) ?_
  show own_R _ _ _ _ (T2.setTop (mkF m 20 #[.val (.ref a1), .val (.int p2), .val (.ref b2)] [(.int (0 : Int32)), (.ref a1)]))
  refine own_go (fun _ k => XS.aloadN X2.here hx rfl (hb hby d7_20) rfl rfl k) ?_
  show own_R _ _ _ _ (T2.setTop (mkF m 21 #[.val (.ref a1), .val (.int p2), .val (.ref b2)] [(.ref b2), (.int (0 : Int32)), (.ref a1)]))
  refine own_go (fun _ k => XS.iconst X2.here hx rfl (hb hby d7_21) k) ?_
  show own_R _ _ _ _ (T2.setTop (mkF m 22 #[.val (.ref a1), .val (.int p2), .val (.ref b2)] [(.int (0 : Int32)), (.ref b2), (.int (0 : Int32)), (.ref a1)]))
  refine own_go (fun _ k => XS.aloadN X2.here hx rfl (hb hby d7_22) rfl rfl k) ?_
  show own_R _ _ _ _ (T2.setTop (mkF m 23 #[.val (.ref a1), .val (.int p2), .val (.ref b2)] [(.ref a1), (.int (0 : Int32)), (.ref b2), (.int (0 : Int32)), (.ref a1)]))
  refine own_go (own_len X2 hx hZ e2 V_a1 (g := (mkF m 23 #[.val (.ref a1), .val (.int p2), .val (.ref b2)] [(.ref a1), (.int (0 : Int32)), (.ref b2), (.int (0 : Int32)), (.ref a1)])) rfl rfl (hb hby d7_23)) ?_
  show own_R _ _ _ _ (T2.setTop (mkF m 24 #[.val (.ref a1), .val (.int p2), .val (.ref b2)] [(.int z1), (.int (0 : Int32)), (.ref b2), (.int (0 : Int32)), (.ref a1)]))
  refine own_go (fun _ k => XS.iloadN X2.here hx rfl (hb hby d7_24) rfl k) ?_
  show own_R _ _ _ _ (T2.setTop (mkF m 25 #[.val (.ref a1), .val (.int p2), .val (.ref b2)] [(.int p2), (.int z1), (.int (0 : Int32)), (.ref b2), (.int (0 : Int32)), (.ref a1)]))
  obtain ⟨_, _, ⟨T3, L3, k3, n3⟩, -, X3, ⟨Lc3, hQ3, l3, y3, z3⟩, st3⟩ := Jvm.LawKit.callS X2 hx (y := (⟨"java/lang/Math", "min", "(II)I"⟩ : MethodName)) hown (mvT hZ (hw _ (List.mem_of_getElem? (i := 38) rfl))) (mvT hZ (hw _ (List.mem_of_getElem? (i := 39) rfl))) (mvT hZ (hw _ (List.mem_of_getElem? (i := 40) rfl))) (mvT hZ (hw _ (List.mem_of_getElem? (i := 41) rfl))) (by decide) (backOf (W := 4) (rm8 l Z a0 hw [] z1 p2 h2 n0 ZS) hZ (hw _ (List.mem_of_getElem? (i := 41) rfl)) (hw _ (List.mem_of_getElem? (i := 40) rfl)) (by decide) (by decide)) (g := (mkF m 25 #[.val (.ref a1), .val (.int p2), .val (.ref b2)] [(.int p2), (.int z1), (.int (0 : Int32)), (.ref b2), (.int (0 : Int32)), (.ref a1)])) rfl (by rw [hml]; rfl) (argsL := [(.int z1), (.int p2)]) (rest := [(.int (0 : Int32)), (.ref b2), (.int (0 : Int32)), (.ref a1)]) (lenOf pd_0 rfl) rfl (by show 2 * 0 + _ ≤ _; exact Nat.le_of_eq rfl) (hb hby d7_25) (fun _ _ => ⟨rfl, e2, (by decide : 1 + 0 ≤ _), (by decide : 16 + 0 ≤ _)⟩)
  dsimp only [Pt.U, Pt.locs, Pt.cells, Pt.slots] at X3 l3 y3 z3 st3 hQ3
  subst l3 y3 z3
  obtain ⟨rfl, N3q, e3⟩ := hQ3
  have NF := Fr.app NF N3q
  refine own_go st3 ?_
  show own_R _ _ _ _ (T3.setTop (mkF m 28 #[.val (.ref a1), .val (.int p2), .val (.ref b2)] [(.int (own_min z1 p2)), (.int (0 : Int32)), (.ref b2), (.int (0 : Int32)), (.ref a1)]))
  rw [own_min_eq hlt]
  show own_R _ _ _ _ (T3.setTop (mkF m 28 #[.val (.ref a1), .val (.int p2), .val (.ref b2)] [(.int p2), (.int (0 : Int32)), (.ref b2), (.int (0 : Int32)), (.ref a1)]))
  obtain ⟨T4, h4, L4, X4, e4, NF, K4, V4, st4⟩ := cpA X3 hx hZ hown (hw _ (List.mem_of_getElem? (i := 42) rfl)) (hw _ (List.mem_of_getElem? (i := 45) rfl)) (hw _ (List.mem_of_getElem? (i := 43) rfl)) (hw _ (List.mem_of_getElem? (i := 44) rfl)) e3 (sp := (0 : Int32)) (dp := (0 : Int32)) (nn := p2) (us := ((List.range p2.toNatClampNeg).map fun i => vs.getD i (.int (0 : Int32)))) V_a1 V_b2 (Or.inl ⟨rfl, rfl⟩) (by decide) (by decide) hn0 (by rw [show (0 : Int32).toNatClampNeg = 0 from rfl, Nat.zero_add]; exact own_lt_nat hn0 hlt) (by rw [show (0 : Int32).toNatClampNeg = 0 from rfl, Nat.zero_add]; exact Nat.le_refl _) (by simp) (by simp) NF g_b2 (g := (mkF m 28 #[.val (.ref a1), .val (.int p2), .val (.ref b2)] [(.int p2), (.int (0 : Int32)), (.ref b2), (.int (0 : Int32)), (.ref a1)])) rfl (by rw [hml]; rfl) rfl (hb hby d7_28) (by decide) (W := 0) (by show 2 * 0 + _ ≤ _; exact Nat.le_of_eq rfl) (by decide)
  refine own_go st4 ?_
  have V_a1 := V_a1.keep K4 (ninS ne_a1_b2 nin0)
  have ZS := Nat.le_trans ZS K4.1
  have KP := KP.trans K4 (allS (Or.inr sz_b2) all0)
  have V_b2 := V4
  show own_R _ _ _ _ (T4.setTop (mkF m 31 #[.val (.ref a1), .val (.int p2), .val (.ref b2)] []))
  refine own_go (fun _ k => XS.aloadN X4.here hx rfl (hb hby d7_31) rfl rfl k) ?_
  show own_R _ _ _ _ (T4.setTop (mkF m 32 #[.val (.ref a1), .val (.int p2), .val (.ref b2)] [(.ref b2)]))
  have VR : Arv Z h4 b2 k2 .int p2 ((List.range p2.toNatClampNeg).map fun i => vs.getD i (.int (0 : Int32))) (.int (0 : Int32)) := V_b2.pad (fun i => by simp)
  exact own_retA X4 hx rfl rfl Bd.returns (hb hby d7_32) hlk (by rw [e4]; exact ⟨_, rfl, NF, KP, sz_b2, _, VR⟩) (by decide) (by decide)
theorem d1_0 : decode prog_28_method_1_code 0 = .ok (.aload_n 0, 1) := by decide +kernel
theorem d1_1 : decode prog_28_method_1_code 1 = .ok (.invokespecial 1, 3) := by decide +kernel
theorem d1_4 : decode prog_28_method_1_code 4 = .ok (.aload_n 0, 1) := by decide +kernel
theorem d1_5 : decode prog_28_method_1_code 5 = .ok (.bipush 16, 2) := by decide +kernel
theorem d1_7 : decode prog_28_method_1_code 7 = .ok (.newarray .int, 2) := by decide +kernel
theorem d1_9 : decode prog_28_method_1_code 9 = .ok (.putfield 9, 3) := by decide +kernel
theorem d1_12 : decode prog_28_method_1_code 12 = .ok (.return_, 1) := by decide +kernel
theorem pn_1 : plainName "com/example/austere_nets/austerenets/minimize/IntList" = true := by first | (simp [plainName, overriddenIn]; done) | decide +kernel
theorem ef_1 (m : MethodId) (x0 : Addr) : entryFrame m #[(.ref x0)] 1 = mkF m 0 #[.val (.ref x0)] [] := by first | (simp [entryFrame, mkF, argsToLocals, Value.category]; done) | rfl
def Q1 (Z : State) (a1 : Addr) (u1 : Value) (w2 : Int32) (h0 : Heap) (n0 : Nat) (v : Option Value) (h : Heap) (L : List Loc) : Prop := v = none ∧ Fr n0 L ∧ Keep h0 h [a1] ∧ Fld Z h a1 "com/example/austere_nets/austerenets/minimize/IntList" "size" "I" (.int w2) ∧ ∃ b : Addr, Fld Z h a1 "com/example/austere_nets/austerenets/minimize/IntList" "values" "[I" (.ref b) ∧ h0.size ≤ b ∧ ∃ k : ClassId, Arv Z h b k .int (16 : Int32) [(.int (0 : Int32)), (.int (0 : Int32)), (.int (0 : Int32)), (.int (0 : Int32)), (.int (0 : Int32)), (.int (0 : Int32)), (.int (0 : Int32)), (.int (0 : Int32)), (.int (0 : Int32)), (.int (0 : Int32)), (.int (0 : Int32)), (.int (0 : Int32)), (.int (0 : Int32)), (.int (0 : Int32)), (.int (0 : Int32)), (.int (0 : Int32))] (.int (0 : Int32))
set_option maxRecDepth 65536 in
set_option maxHeartbeats 40000000 in
theorem rm1 (l : Launch) (Z : State) (a0 : Array Value) (hw : ∀ d ∈ tables_1, d.before a0 Z = true) (ws : List Jvm.Cond) (a1 : Addr) (u1 : Value) (w2 : Int32) (h0 : Heap) (n0 : Nat) (ZS : n0 ≤ h0.size) (E_a1 : Exa Z h0 a1 "com/example/austere_nets/austerenets/minimize/IntList") (F_values_a1 : Fld Z h0 a1 "com/example/austere_nets/austerenets/minimize/IntList" "values" "[I" u1) (F_size_a1 : Fld Z h0 a1 "com/example/austere_nets/austerenets/minimize/IntList" "size" "I" (.int w2)) (g_a1 : n0 ≤ a1) :
    MetFree l (⟨"com/example/austere_nets/austerenets/minimize/IntList", "<init>", "()V"⟩ : MethodName) (head1 (Jvm.Cond.code (⟨"com/example/austere_nets/austerenets/minimize/IntList", "<init>", "()V"⟩ : MethodName) prog_28_method_1_code 1 none :: ws) ({ frames := 1, cells := 1, slots := 16, locals := 12 } : Room)) (fun a U => a = #[(.ref a1)] ∧ Z.Warmed39 U.vm ∧ U.heap = h0) (fun _ _ _ _ _ => True) (fun _ U o U' => ∃ v L, o = .returned v ∧ Q1 Z a1 u1 w2 h0 n0 v U'.heap L ∧ FrameEnd U o U' L ({ frames := 1, cells := 1, slots := 16, locals := 12 } : Room).cells ({ frames := 1, cells := 1, slots := 16, locals := 12 } : Room).slots) := by
  refine MetFree.of_bodySF (plainFor_of_name pn_1) hisR ?_
  intro p e s m args below meth c s₁ Bd hml0 hP hK
  obtain ⟨rfl, hZ, hh⟩ := hP
  have hx := Bd.exec
  have hby := Bd.bytes
  have hml : c.maxLocals = 1 := hml0
  have hown : s.vm.findClass "com/example/austere_nets/austerenets/minimize/IntList" = some m.cls := findClass_of_methodNamed Bd.named
  have hnm := (name_of_methodNamed Bd.named Bd.method).1
  have hlk : meth.locks = false := Bd.notSynchronized
  have X0 : Stand p l e ({ frames := 1, cells := 1, slots := 16, locals := 12 } : Room) s m #[(.ref a1)] below meth c s₁ [] 0 0 := Stand.of_body Bd
  have e0 : s₁.heap = h0 := by rw [← hh, Bd.state]; rfl
  have NF := Fr.nil n0
  have KP : Keep h0 h0 [a1] := Keep.refl _ _
  refine own_fin (s := s) (Q := Q1 Z a1 u1 w2 h0 n0) (rc := ({ frames := 1, cells := 1, slots := 16, locals := 12 } : Room).cells) (rs := ({ frames := 1, cells := 1, slots := 16, locals := 12 } : Room).slots) ?_
  refine own_go (fun t k => castTop (ef_1 m a1) k) ?_
  show own_R _ _ _ _ (s₁.setTop (mkF m 0 #[.val (.ref a1)] []))
  refine own_go (fun _ k => XS.aloadN X0.here hx rfl (hb hby d1_0) rfl rfl k) ?_
  show own_R _ _ _ _ (s₁.setTop (mkF m 1 #[.val (.ref a1)] [(.ref a1)]))
  obtain ⟨T5, X5, e5, st5⟩ := initO X0 hx hZ hown (hw _ (List.mem_of_getElem? (i := 6) rfl)) (hw _ (List.mem_of_getElem? (i := 7) rfl)) (hw _ (List.mem_of_getElem? (i := 8) rfl)) e0 (g := (mkF m 1 #[.val (.ref a1)] [(.ref a1)])) rfl (by rw [hml]; rfl) rfl (hb hby d1_1) (by decide) (W := 0) (by show 2 * 0 + _ ≤ _; exact Nat.le_of_eq rfl) (by decide)
  refine own_go st5 ?_
  show own_R _ _ _ _ (T5.setTop (mkF m 4 #[.val (.ref a1)] []))
  refine own_go (fun _ k => XS.aloadN X5.here hx rfl (hb hby d1_4) rfl rfl k) ?_
  show own_R _ _ _ _ (T5.setTop (mkF m 5 #[.val (.ref a1)] [(.ref a1)]))
  refine own_go (fun _ k => XS.bipush X5.here hx rfl (hb hby d1_5) k) ?_
  show own_R _ _ _ _ (T5.setTop (mkF m 7 #[.val (.ref a1)] [(.int (16 : Int32)), (.ref a1)]))
  obtain ⟨T6, h6, k6, X6, e6, E6, A6, st6⟩ := newP X5 hx hZ (hw _ (List.mem_of_getElem? (i := 9) rfl)) e5 (g := (mkF m 7 #[.val (.ref a1)] [(.int (16 : Int32)), (.ref a1)])) rfl (hb hby d1_7) rfl (by decide) (cap := 16) (by decide) (by decide) (by decide) (by decide)
  obtain ⟨b6, g6⟩ : ∃ z, z = h0.size := ⟨_, rfl⟩
  rw [← g6] at A6 st6
  refine own_go st6 ?_
  have ne_a1_b6 : a1 ≠ b6 := Nat.ne_of_lt (Nat.lt_of_lt_of_le E_a1.lt (Nat.le_of_eq g6.symm))
  have g_b6 : n0 ≤ b6 := Nat.le_trans ZS (Nat.le_of_eq g6.symm)
  have sz_b6 : h0.size ≤ b6 := Nat.le_trans KP.1 (Nat.le_of_eq g6.symm)
  have E_a1 := E_a1.ext E6
  have F_values_a1 := F_values_a1.ext E6
  have F_size_a1 := F_size_a1.ext E6
  have ZS := Nat.le_trans ZS E6.1
  have KP := KP.ext E6
  have V_b6 : Arv Z h6 b6 k6 .int (16 : Int32) [(.int (0 : Int32)), (.int (0 : Int32)), (.int (0 : Int32)), (.int (0 : Int32)), (.int (0 : Int32)), (.int (0 : Int32)), (.int (0 : Int32)), (.int (0 : Int32)), (.int (0 : Int32)), (.int (0 : Int32)), (.int (0 : Int32)), (.int (0 : Int32)), (.int (0 : Int32)), (.int (0 : Int32)), (.int (0 : Int32)), (.int (0 : Int32))] (.int (0 : Int32)) := (Arv.new A6 (by decide)).pad (pad_rep [] (.int (0 : Int32)) 16)
  show own_R _ _ _ _ (T6.setTop (mkF m 9 #[.val (.ref a1)] [(.ref b6), (.ref a1)]))
  obtain ⟨T7, h7, X7, e7, W7, st7⟩ := putF X6 hx hZ hown (host := "") (Or.inl (hw _ (List.mem_of_getElem? (i := 10) rfl))) Via.refl e6 F_values_a1 E_a1 (Or.inl (hw _ (List.mem_of_getElem? (i := 11) rfl))) (hw _ (List.mem_of_getElem? (i := 1) rfl)) (ty := (.array .int)) (by decide) rfl rfl (g := (mkF m 9 #[.val (.ref a1)] [(.ref b6), (.ref a1)])) rfl rfl (hb hby d1_9)
  refine own_go st7 ?_
  have E_a1 := E_a1.wr W7
  have F_values_a1 := F_values_a1.same W7
  have F_size_a1 := F_size_a1.other W7 (Or.inr (slot_ne (Or.inl (hw _ (List.mem_of_getElem? (i := 18) rfl))) (Or.inl (hw _ (List.mem_of_getElem? (i := 11) rfl))) (by decide) (t := .int) (t' := (.array .int)) (by decide) (by decide)))
  have V_b6 := V_b6.other W7 (Ne.symm ne_a1_b6)
  have ZS := Nat.le_trans ZS (Keep.of_wr W7).1
  have KP := KP.wr W7 (Or.inl (List.mem_of_getElem? (i := 0) rfl))
  have NF := Fr.snoc X7 NF g_a1
  show own_R _ _ _ _ (T7.setTop (mkF m 12 #[.val (.ref a1)] []))
  exact own_ret0 X7 hx Bd.returns (hb hby d1_12) hlk (by rw [e7]; exact ⟨rfl, NF, KP, F_size_a1, _, F_values_a1, sz_b6, _, V_b6⟩) (by decide) (by decide)
theorem d3_0 : decode prog_28_method_2_code 0 = .ok (.aload_n 0, 1) := by decide +kernel
theorem d3_1 : decode prog_28_method_2_code 1 = .ok (.getfield 13, 3) := by decide +kernel
theorem d3_4 : decode prog_28_method_2_code 4 = .ok (.aload_n 0, 1) := by decide +kernel
theorem d3_5 : decode prog_28_method_2_code 5 = .ok (.getfield 9, 3) := by decide +kernel
theorem d3_8 : decode prog_28_method_2_code 8 = .ok (.arraylength, 1) := by decide +kernel
theorem d3_9 : decode prog_28_method_2_code 9 = .ok (.if_icmp .ne 20, 3) := by decide +kernel
theorem d3_12 : decode prog_28_method_2_code 12 = .ok (.aload_n 0, 1) := by decide +kernel
theorem d3_13 : decode prog_28_method_2_code 13 = .ok (.aload_n 0, 1) := by decide +kernel
theorem d3_14 : decode prog_28_method_2_code 14 = .ok (.getfield 9, 3) := by decide +kernel
theorem d3_17 : decode prog_28_method_2_code 17 = .ok (.iconst 2, 1) := by decide +kernel
theorem d3_18 : decode prog_28_method_2_code 18 = .ok (.aload_n 0, 1) := by decide +kernel
theorem d3_19 : decode prog_28_method_2_code 19 = .ok (.getfield 13, 3) := by decide +kernel
theorem d3_22 : decode prog_28_method_2_code 22 = .ok (.imul, 1) := by decide +kernel
theorem d3_23 : decode prog_28_method_2_code 23 = .ok (.invokestatic 17, 3) := by decide +kernel
theorem d3_26 : decode prog_28_method_2_code 26 = .ok (.putfield 9, 3) := by decide +kernel
theorem d3_29 : decode prog_28_method_2_code 29 = .ok (.aload_n 0, 1) := by decide +kernel
theorem d3_30 : decode prog_28_method_2_code 30 = .ok (.getfield 9, 3) := by decide +kernel
theorem d3_33 : decode prog_28_method_2_code 33 = .ok (.aload_n 0, 1) := by decide +kernel
theorem d3_34 : decode prog_28_method_2_code 34 = .ok (.dup, 1) := by decide +kernel
theorem d3_35 : decode prog_28_method_2_code 35 = .ok (.getfield 13, 3) := by decide +kernel
theorem d3_38 : decode prog_28_method_2_code 38 = .ok (.dup_x1, 1) := by decide +kernel
theorem d3_39 : decode prog_28_method_2_code 39 = .ok (.iconst 1, 1) := by decide +kernel
theorem d3_40 : decode prog_28_method_2_code 40 = .ok (.iadd, 1) := by decide +kernel
theorem d3_41 : decode prog_28_method_2_code 41 = .ok (.putfield 13, 3) := by decide +kernel
theorem d3_44 : decode prog_28_method_2_code 44 = .ok (.iload_n 1, 1) := by decide +kernel
theorem d3_45 : decode prog_28_method_2_code 45 = .ok (.iastore, 1) := by decide +kernel
theorem d3_46 : decode prog_28_method_2_code 46 = .ok (.return_, 1) := by decide +kernel
theorem ef_3 (m : MethodId) (x0 : Addr) (x1 : Int32) : entryFrame m #[(.ref x0), (.int x1)] 2 = mkF m 0 #[.val (.ref x0), .val (.int x1)] [] := by first | (simp [entryFrame, mkF, argsToLocals, Value.category]; done) | rfl
def Q3 (Z : State) (a1 : Addr) (p2 : Int32) (b1 : Addr) (k1 : ClassId) (w2 : Int32) (i : Nat) (vs : List Value) (h0 : Heap) (n0 : Nat) (v : Option Value) (h : Heap) (L : List Loc) : Prop := v = none ∧ Fr n0 L ∧ Keep h0 h [a1, b1] ∧ Fld Z h a1 "com/example/austere_nets/austerenets/minimize/IntList" "size" "I" (.int (w2 + 1)) ∧ Fld Z h a1 "com/example/austere_nets/austerenets/minimize/IntList" "values" "[I" (.ref b1) ∧ Arv Z h b1 k1 .int (16 : Int32) (vs.set i (.int p2)) (.int (0 : Int32))
set_option maxRecDepth 65536 in
set_option maxHeartbeats 40000000 in
theorem rm3 (l : Launch) (Z : State) (a0 : Array Value) (hw : ∀ d ∈ tables_1, d.before a0 Z = true) (ws : List Jvm.Cond) (a1 : Addr) (p2 : Int32) (b1 : Addr) (k1 : ClassId) (w2 : Int32) (i : Nat) (vs : List Value) (h0 : Heap) (n0 : Nat) (ZS : n0 ≤ h0.size) (E_a1 : Exa Z h0 a1 "com/example/austere_nets/austerenets/minimize/IntList") (F_values_a1 : Fld Z h0 a1 "com/example/austere_nets/austerenets/minimize/IntList" "values" "[I" (.ref b1)) (F_size_a1 : Fld Z h0 a1 "com/example/austere_nets/austerenets/minimize/IntList" "size" "I" (.int w2)) (g_a1 : n0 ≤ a1) (V_b1 : Arv Z h0 b1 k1 .int (16 : Int32) vs (.int (0 : Int32))) (g_b1 : n0 ≤ b1) (ne_ab : a1 ≠ b1) (hw0 : ¬ w2 < 0 ∧ w2 < (16 : Int32)) (hwi : w2.toNatClampNeg = i) (hil : i < vs.length) :
    MetFree l (⟨"com/example/austere_nets/austerenets/minimize/IntList", "add", "(I)V"⟩ : MethodName) (head1 (Jvm.Cond.code (⟨"com/example/austere_nets/austerenets/minimize/IntList", "add", "(I)V"⟩ : MethodName) prog_28_method_2_code 2 none :: ws) ({ frames := 0, cells := 0, slots := 0, locals := 0 } : Room)) (fun a U => a = #[(.ref a1), (.int p2)] ∧ Z.Warmed39 U.vm ∧ U.heap = h0) (fun _ _ _ _ _ => True) (fun _ U o U' => ∃ v L, o = .returned v ∧ Q3 Z a1 p2 b1 k1 w2 i vs h0 n0 v U'.heap L ∧ FrameEnd U o U' L ({ frames := 0, cells := 0, slots := 0, locals := 0 } : Room).cells ({ frames := 0, cells := 0, slots := 0, locals := 0 } : Room).slots) := by
  refine MetFree.of_bodySF (plainFor_of_name pn_1) hisR ?_
  intro p e s m args below meth c s₁ Bd hml0 hP hK
  obtain ⟨rfl, hZ, hh⟩ := hP
  have hx := Bd.exec
  have hby := Bd.bytes
  have hml : c.maxLocals = 2 := hml0
  have hown : s.vm.findClass "com/example/austere_nets/austerenets/minimize/IntList" = some m.cls := findClass_of_methodNamed Bd.named
  have hnm := (name_of_methodNamed Bd.named Bd.method).1
  have hlk : meth.locks = false := Bd.notSynchronized
  have X0 : Stand p l e ({ frames := 0, cells := 0, slots := 0, locals := 0 } : Room) s m #[(.ref a1), (.int p2)] below meth c s₁ [] 0 0 := Stand.of_body Bd
  have e0 : s₁.heap = h0 := by rw [← hh, Bd.state]; rfl
  have NF := Fr.nil n0
  have KP : Keep h0 h0 [a1, b1] := Keep.refl _ _
  refine own_fin (s := s) (Q := Q3 Z a1 p2 b1 k1 w2 i vs h0 n0) (rc := ({ frames := 0, cells := 0, slots := 0, locals := 0 } : Room).cells) (rs := ({ frames := 0, cells := 0, slots := 0, locals := 0 } : Room).slots) ?_
  refine own_go (fun t k => castTop (ef_3 m a1 p2) k) ?_
  show own_R _ _ _ _ (s₁.setTop (mkF m 0 #[.val (.ref a1), .val (.int p2)] []))
  refine own_go (fun _ k => XS.aloadN X0.here hx rfl (hb hby d3_0) rfl rfl k) ?_
  show own_R _ _ _ _ (s₁.setTop (mkF m 1 #[.val (.ref a1), .val (.int p2)] [(.ref a1)]))
  obtain ⟨T8, X8, e8, st8⟩ := getF X0 hx hZ hown (host := "") (Or.inl (hw _ (List.mem_of_getElem? (i := 17) rfl))) Via.refl e0 F_size_a1 (g := (mkF m 1 #[.val (.ref a1), .val (.int p2)] [(.ref a1)])) rfl rfl (hb hby d3_1)
  refine own_go st8 ?_
  show own_R _ _ _ _ (T8.setTop (mkF m 4 #[.val (.ref a1), .val (.int p2)] [(.int w2)]))
  refine own_go (fun _ k => XS.aloadN X8.here hx rfl (hb hby d3_4) rfl rfl k) ?_
  show own_R _ _ _ _ (T8.setTop (mkF m 5 #[.val (.ref a1), .val (.int p2)] [(.ref a1), (.int w2)]))
  obtain ⟨T9, X9, e9, st9⟩ := getF X8 hx hZ hown (host := "") (Or.inl (hw _ (List.mem_of_getElem? (i := 10) rfl))) Via.refl e8 F_values_a1 (g := (mkF m 5 #[.val (.ref a1), .val (.int p2)] [(.ref a1), (.int w2)])) rfl rfl (hb hby d3_5)
  refine own_go st9 ?_
  show own_R _ _ _ _ (T9.setTop (mkF m 8 #[.val (.ref a1), .val (.int p2)] [(.ref b1), (.int w2)]))
  refine own_go (own_len X9 hx hZ e9 V_b1 (g := (mkF m 8 #[.val (.ref a1), .val (.int p2)] [(.ref b1), (.int w2)])) rfl rfl (hb hby d3_8)) ?_
  show own_R _ _ _ _ (T9.setTop (mkF m 9 #[.val (.ref a1), .val (.int p2)] [(.int (16 : Int32)), (.int w2)]))
  refine own_go (fun _ k => XS.icmpYes X9.here hx rfl (pc0 := 9) (pc' := 29) rfl (hb hby d3_9) rfl (feq (fun q => by have z := hw0.2; rw [q] at z; exact absurd z (by decide))).2 (by decide) (by decide) k) ?_
  show own_R _ _ _ _ (T9.setTop (mkF m 29 #[.val (.ref a1), .val (.int p2)] []))
  refine own_go (fun _ k => XS.aloadN X9.here hx rfl (hb hby d3_29) rfl rfl k) ?_
  show own_R _ _ _ _ (T9.setTop (mkF m 30 #[.val (.ref a1), .val (.int p2)] [(.ref a1)]))
  obtain ⟨T10, X10, e10, st10⟩ := getF X9 hx hZ hown (host := "") (Or.inl (hw _ (List.mem_of_getElem? (i := 10) rfl))) Via.refl e9 F_values_a1 (g := (mkF m 30 #[.val (.ref a1), .val (.int p2)] [(.ref a1)])) rfl rfl (hb hby d3_30)
  refine own_go st10 ?_
  show own_R _ _ _ _ (T10.setTop (mkF m 33 #[.val (.ref a1), .val (.int p2)] [(.ref b1)]))
  refine own_go (fun _ k => XS.aloadN X10.here hx rfl (hb hby d3_33) rfl rfl k) ?_
  show own_R _ _ _ _ (T10.setTop (mkF m 34 #[.val (.ref a1), .val (.int p2)] [(.ref a1), (.ref b1)]))
  refine own_go (fun _ k => XS.dup X10.here hx rfl (hb hby d3_34) rfl rfl k) ?_
  show own_R _ _ _ _ (T10.setTop (mkF m 35 #[.val (.ref a1), .val (.int p2)] [(.ref a1), (.ref a1), (.ref b1)]))
  obtain ⟨T11, X11, e11, st11⟩ := getF X10 hx hZ hown (host := "") (Or.inl (hw _ (List.mem_of_getElem? (i := 17) rfl))) Via.refl e10 F_size_a1 (g := (mkF m 35 #[.val (.ref a1), .val (.int p2)] [(.ref a1), (.ref a1), (.ref b1)])) rfl rfl (hb hby d3_35)
  refine own_go st11 ?_
  show own_R _ _ _ _ (T11.setTop (mkF m 38 #[.val (.ref a1), .val (.int p2)] [(.int w2), (.ref a1), (.ref b1)]))
  refine own_go (fun _ k => XS.dupX1 X11.here hx rfl (hb hby d3_38) rfl rfl rfl k) ?_
  show own_R _ _ _ _ (T11.setTop (mkF m 39 #[.val (.ref a1), .val (.int p2)] [(.int w2), (.ref a1), (.int w2), (.ref b1)]))
  refine own_go (fun _ k => XS.iconst X11.here hx rfl (hb hby d3_39) k) ?_
  show own_R _ _ _ _ (T11.setTop (mkF m 40 #[.val (.ref a1), .val (.int p2)] [(.int (1 : Int32)), (.int w2), (.ref a1), (.int w2), (.ref b1)]))
  refine own_go (fun _ k => XS.iadd X11.here hx rfl (hb hby d3_40) rfl k) ?_
  show own_R _ _ _ _ (T11.setTop (mkF m 41 #[.val (.ref a1), .val (.int p2)] [(.int (w2 + (1 : Int32))), (.ref a1), (.int w2), (.ref b1)]))
  obtain ⟨T12, h12, X12, e12, W12, st12⟩ := putF X11 hx hZ hown (host := "") (Or.inl (hw _ (List.mem_of_getElem? (i := 17) rfl))) Via.refl e11 F_size_a1 E_a1 (Or.inl (hw _ (List.mem_of_getElem? (i := 18) rfl))) (hw _ (List.mem_of_getElem? (i := 1) rfl)) (ty := .int) (by decide) rfl rfl (g := (mkF m 41 #[.val (.ref a1), .val (.int p2)] [(.int (w2 + (1 : Int32))), (.ref a1), (.int w2), (.ref b1)])) rfl rfl (hb hby d3_41)
  refine own_go st12 ?_
  have E_a1 := E_a1.wr W12
  have F_values_a1 := F_values_a1.other W12 (Or.inr (slot_ne (Or.inl (hw _ (List.mem_of_getElem? (i := 11) rfl))) (Or.inl (hw _ (List.mem_of_getElem? (i := 18) rfl))) (by decide) (t := (.array .int)) (t' := .int) (by decide) (by decide)))
  have F_size_a1 := F_size_a1.same W12
  have V_b1 := V_b1.other W12 (Ne.symm ne_ab)
  have ZS := Nat.le_trans ZS (Keep.of_wr W12).1
  have KP := KP.wr W12 (Or.inl (List.mem_of_getElem? (i := 0) rfl))
  have NF := Fr.snoc X12 NF g_a1
  show own_R _ _ _ _ (T12.setTop (mkF m 44 #[.val (.ref a1), .val (.int p2)] [(.int w2), (.ref b1)]))
  refine own_go (fun _ k => XS.iloadN X12.here hx rfl (hb hby d3_44) rfl k) ?_
  show own_R _ _ _ _ (T12.setTop (mkF m 45 #[.val (.ref a1), .val (.int p2)] [(.int p2), (.int w2), (.ref b1)]))
  obtain ⟨T13, h13, sl13, X13, e13, W13, V13, st13⟩ := own_stI X12 hx hZ e12 V_b1 (j := w2) (i := i) hw0 hwi hil rfl (g := (mkF m 45 #[.val (.ref a1), .val (.int p2)] [(.int p2), (.int w2), (.ref b1)])) rfl rfl (hb hby d3_45)
  refine own_go st13 ?_
  have E_a1 := E_a1.wr W13
  have F_values_a1 := F_values_a1.other W13 (Or.inl ne_ab)
  have F_size_a1 := F_size_a1.other W13 (Or.inl ne_ab)
  have ZS := Nat.le_trans ZS (Keep.of_wr W13).1
  have KP := KP.wr W13 (Or.inl (List.mem_of_getElem? (i := 1) rfl))
  have NF := Fr.snoc X13 NF g_b1
  have V_b1 := V13
  show own_R _ _ _ _ (T13.setTop (mkF m 46 #[.val (.ref a1), .val (.int p2)] []))
  exact own_ret0 X13 hx Bd.returns (hb hby d3_46) hlk (by rw [e13]; exact ⟨rfl, NF, KP, F_size_a1, F_values_a1, V_b1⟩) (by decide) (by decide)
theorem d6_0 : decode prog_28_method_5_code 0 = .ok (.aload_n 0, 1) := by decide +kernel
theorem d6_1 : decode prog_28_method_5_code 1 = .ok (.getfield 9, 3) := by decide +kernel
theorem d6_4 : decode prog_28_method_5_code 4 = .ok (.aload_n 0, 1) := by decide +kernel
theorem d6_5 : decode prog_28_method_5_code 5 = .ok (.getfield 13, 3) := by decide +kernel
theorem d6_8 : decode prog_28_method_5_code 8 = .ok (.invokestatic 17, 3) := by decide +kernel
theorem d6_11 : decode prog_28_method_5_code 11 = .ok (.areturn, 1) := by decide +kernel
theorem ef_6 (m : MethodId) (x0 : Addr) : entryFrame m #[(.ref x0)] 1 = mkF m 0 #[.val (.ref x0)] [] := by first | (simp [entryFrame, mkF, argsToLocals, Value.category]; done) | rfl
def Q6 (Z : State) (a1 : Addr) (b1 : Addr) (k1 : ClassId) (p2 : Int32) (vs : List Value) (h0 : Heap) (n0 : Nat) (v : Option Value) (h : Heap) (L : List Loc) : Prop := ∃ b : Addr, v = some (.ref b) ∧ Fr n0 L ∧ Keep h0 h [] ∧ h0.size ≤ b ∧ ∃ k : ClassId, Arv Z h b k .int p2 ((List.range p2.toNatClampNeg).map fun i => vs.getD i (.int (0 : Int32))) (.int (0 : Int32))
set_option maxRecDepth 65536 in
set_option maxHeartbeats 40000000 in
theorem rm6 (l : Launch) (Z : State) (a0 : Array Value) (hw : ∀ d ∈ tables_1, d.before a0 Z = true) (ws : List Jvm.Cond) (a1 : Addr) (b1 : Addr) (k1 : ClassId) (p2 : Int32) (vs : List Value) (h0 : Heap) (n0 : Nat) (ZS : n0 ≤ h0.size) (F_values_a1 : Fld Z h0 a1 "com/example/austere_nets/austerenets/minimize/IntList" "values" "[I" (.ref b1)) (F_size_a1 : Fld Z h0 a1 "com/example/austere_nets/austerenets/minimize/IntList" "size" "I" (.int p2)) (V_b1 : Arv Z h0 b1 k1 .int (16 : Int32) vs (.int (0 : Int32))) (hlt : p2 < (16 : Int32)) (hn0 : ¬ p2 < 0) (hcap : p2.toNatClampNeg ≤ 16) :
    MetFree l (⟨"com/example/austere_nets/austerenets/minimize/IntList", "toArray", "()[I"⟩ : MethodName) (head1 (Jvm.Cond.code (⟨"com/example/austere_nets/austerenets/minimize/IntList", "toArray", "()[I"⟩ : MethodName) prog_28_method_5_code 1 (some (.array .int)) :: ws) ({ frames := 2, cells := 1, slots := 16, locals := 32 } : Room)) (fun a U => a = #[(.ref a1)] ∧ Z.Warmed39 U.vm ∧ U.heap = h0) (fun _ _ _ _ _ => True) (fun _ U o U' => ∃ v L, o = .returned v ∧ Q6 Z a1 b1 k1 p2 vs h0 n0 v U'.heap L ∧ FrameEnd U o U' L ({ frames := 2, cells := 1, slots := 16, locals := 32 } : Room).cells ({ frames := 2, cells := 1, slots := 16, locals := 32 } : Room).slots) := by
  refine MetFree.of_bodySF (plainFor_of_name pn_1) hisR ?_
  intro p e s m args below meth c s₁ Bd hml0 hP hK
  obtain ⟨rfl, hZ, hh⟩ := hP
  have hx := Bd.exec
  have hby := Bd.bytes
  have hml : c.maxLocals = 1 := hml0
  have hown : s.vm.findClass "com/example/austere_nets/austerenets/minimize/IntList" = some m.cls := findClass_of_methodNamed Bd.named
  have hnm := (name_of_methodNamed Bd.named Bd.method).1
  have hlk : meth.locks = false := Bd.notSynchronized
  have X0 : Stand p l e ({ frames := 2, cells := 1, slots := 16, locals := 32 } : Room) s m #[(.ref a1)] below meth c s₁ [] 0 0 := Stand.of_body Bd
  have e0 : s₁.heap = h0 := by rw [← hh, Bd.state]; rfl
  have NF := Fr.nil n0
  have KP : Keep h0 h0 [] := Keep.refl _ _
  refine own_fin (s := s) (Q := Q6 Z a1 b1 k1 p2 vs h0 n0) (rc := ({ frames := 2, cells := 1, slots := 16, locals := 32 } : Room).cells) (rs := ({ frames := 2, cells := 1, slots := 16, locals := 32 } : Room).slots) ?_
  refine own_go (fun t k => castTop (ef_6 m a1) k) ?_
  show own_R _ _ _ _ (s₁.setTop (mkF m 0 #[.val (.ref a1)] []))
  refine own_go (fun _ k => XS.aloadN X0.here hx rfl (hb hby d6_0) rfl rfl k) ?_
  show own_R _ _ _ _ (s₁.setTop (mkF m 1 #[.val (.ref a1)] [(.ref a1)]))
  obtain ⟨T14, X14, e14, st14⟩ := getF X0 hx hZ hown (host := "") (Or.inl (hw _ (List.mem_of_getElem? (i := 10) rfl))) Via.refl e0 F_values_a1 (g := (mkF m 1 #[.val (.ref a1)] [(.ref a1)])) rfl rfl (hb hby d6_1)
  refine own_go st14 ?_
  show own_R _ _ _ _ (T14.setTop (mkF m 4 #[.val (.ref a1)] [(.ref b1)]))
  refine own_go (fun _ k => XS.aloadN X14.here hx rfl (hb hby d6_4) rfl rfl k) ?_
  show own_R _ _ _ _ (T14.setTop (mkF m 5 #[.val (.ref a1)] [(.ref a1), (.ref b1)]))
  obtain ⟨T15, X15, e15, st15⟩ := getF X14 hx hZ hown (host := "") (Or.inl (hw _ (List.mem_of_getElem? (i := 17) rfl))) Via.refl e14 F_size_a1 (g := (mkF m 5 #[.val (.ref a1)] [(.ref a1), (.ref b1)])) rfl rfl (hb hby d6_5)
  refine own_go st15 ?_
  show own_R _ _ _ _ (T15.setTop (mkF m 8 #[.val (.ref a1)] [(.int p2), (.ref b1)]))
  obtain ⟨_, _, ⟨T16, L16, k16, n16⟩, -, X16, ⟨Lc16, hQ16, l16, y16, z16⟩, st16⟩ := Jvm.LawKit.callS X15 hx (y := (⟨"java/util/Arrays", "copyOf", "([II)[I"⟩ : MethodName)) hown (mvT hZ (hw _ (List.mem_of_getElem? (i := 34) rfl))) (mvT hZ (hw _ (List.mem_of_getElem? (i := 35) rfl))) (mvT hZ (hw _ (List.mem_of_getElem? (i := 36) rfl))) (mvT hZ (hw _ (List.mem_of_getElem? (i := 37) rfl))) (by decide) (backOf (W := 0) (rm7 l Z a0 hw [] b1 p2 k1 (16 : Int32) vs h0 n0 ZS V_b1 hlt hn0 hcap) hZ (hw _ (List.mem_of_getElem? (i := 37) rfl)) (hw _ (List.mem_of_getElem? (i := 36) rfl)) (by decide) (by decide)) (g := (mkF m 8 #[.val (.ref a1)] [(.int p2), (.ref b1)])) rfl (by rw [hml]; rfl) (argsL := [(.ref b1), (.int p2)]) (rest := []) (lenOf pd_1 rfl) rfl (by show 2 * 0 + _ ≤ _; exact Nat.le_of_eq rfl) (hb hby d6_8) (fun _ _ => ⟨rfl, e15, (by decide : 0 + 1 ≤ _), (by decide : 0 + 16 ≤ _)⟩)
  dsimp only [Pt.U, Pt.locs, Pt.cells, Pt.slots] at X16 l16 y16 z16 st16 hQ16
  subst l16 y16 z16
  obtain ⟨h16, e16'⟩ : ∃ z, z = T16.heap := ⟨_, rfl⟩
  rw [← e16'] at hQ16
  have e16 : T16.heap = h16 := e16'.symm
  obtain ⟨c17, rfl, N16q, K16, hbc17, kc17, Vc17'⟩ := hQ16
  have NF := Fr.app NF N16q
  refine own_go st16 ?_
  have ne_a1_c17 : a1 ≠ c17 := Nat.ne_of_lt (Nat.lt_of_lt_of_le F_values_a1.lt hbc17)
  have ne_b1_c17 : b1 ≠ c17 := Nat.ne_of_lt (Nat.lt_of_lt_of_le V_b1.lt hbc17)
  have g_c17 : n0 ≤ c17 := Nat.le_trans ZS hbc17
  have sz_c17 : h0.size ≤ c17 := Nat.le_trans KP.1 hbc17
  have F_values_a1 := F_values_a1.keep K16 nin0
  have F_size_a1 := F_size_a1.keep K16 nin0
  have V_b1 := V_b1.keep K16 nin0
  have ZS := Nat.le_trans ZS K16.1
  have KP := KP.trans K16 all0
  have V_c17 := Vc17'
  show own_R _ _ _ _ (T16.setTop (mkF m 11 #[.val (.ref a1)] [(.ref c17)]))
  exact own_retA X16 hx rfl rfl Bd.returns (hb hby d6_11) hlk (by rw [e16]; exact ⟨_, rfl, NF, KP, sz_c17, _, V_c17⟩) (by decide) (by decide)
theorem d4_0 : decode prog_28_method_4_code 0 = .ok (.aload_n 0, 1) := by decide +kernel
theorem d4_1 : decode prog_28_method_4_code 1 = .ok (.getfield 13, 3) := by decide +kernel
theorem d4_4 : decode prog_28_method_4_code 4 = .ok (.ireturn, 1) := by decide +kernel
theorem ef_4 (m : MethodId) (x0 : Addr) : entryFrame m #[(.ref x0)] 1 = mkF m 0 #[.val (.ref x0)] [] := by first | (simp [entryFrame, mkF, argsToLocals, Value.category]; done) | rfl
def Q4 (Z : State) (a1 : Addr) (w1 : Int32) (h0 : Heap) (n0 : Nat) (v : Option Value) (h : Heap) (L : List Loc) : Prop := v = some (.int w1) ∧ Fr n0 L ∧ h = h0
set_option maxRecDepth 65536 in
set_option maxHeartbeats 40000000 in
theorem rm4 (l : Launch) (Z : State) (a0 : Array Value) (hw : ∀ d ∈ tables_1, d.before a0 Z = true) (ws : List Jvm.Cond) (a1 : Addr) (w1 : Int32) (h0 : Heap) (n0 : Nat) (ZS : n0 ≤ h0.size) (F_size_a1 : Fld Z h0 a1 "com/example/austere_nets/austerenets/minimize/IntList" "size" "I" (.int w1)) :
    MetFree l (⟨"com/example/austere_nets/austerenets/minimize/IntList", "size", "()I"⟩ : MethodName) (head1 (Jvm.Cond.code (⟨"com/example/austere_nets/austerenets/minimize/IntList", "size", "()I"⟩ : MethodName) prog_28_method_4_code 1 (some .int) :: ws) ({ frames := 0, cells := 0, slots := 0, locals := 0 } : Room)) (fun a U => a = #[(.ref a1)] ∧ Z.Warmed39 U.vm ∧ U.heap = h0) (fun _ _ _ _ _ => True) (fun _ U o U' => ∃ v L, o = .returned v ∧ Q4 Z a1 w1 h0 n0 v U'.heap L ∧ FrameEnd U o U' L ({ frames := 0, cells := 0, slots := 0, locals := 0 } : Room).cells ({ frames := 0, cells := 0, slots := 0, locals := 0 } : Room).slots) := by
  refine MetFree.of_bodySF (plainFor_of_name pn_1) hisR ?_
  intro p e s m args below meth c s₁ Bd hml0 hP hK
  obtain ⟨rfl, hZ, hh⟩ := hP
  have hx := Bd.exec
  have hby := Bd.bytes
  have hml : c.maxLocals = 1 := hml0
  have hown : s.vm.findClass "com/example/austere_nets/austerenets/minimize/IntList" = some m.cls := findClass_of_methodNamed Bd.named
  have hnm := (name_of_methodNamed Bd.named Bd.method).1
  have hlk : meth.locks = false := Bd.notSynchronized
  have X0 : Stand p l e ({ frames := 0, cells := 0, slots := 0, locals := 0 } : Room) s m #[(.ref a1)] below meth c s₁ [] 0 0 := Stand.of_body Bd
  have e0 : s₁.heap = h0 := by rw [← hh, Bd.state]; rfl
  have NF := Fr.nil n0
  have KP : Keep h0 h0 [] := Keep.refl _ _
  refine own_fin (s := s) (Q := Q4 Z a1 w1 h0 n0) (rc := ({ frames := 0, cells := 0, slots := 0, locals := 0 } : Room).cells) (rs := ({ frames := 0, cells := 0, slots := 0, locals := 0 } : Room).slots) ?_
  refine own_go (fun t k => castTop (ef_4 m a1) k) ?_
  show own_R _ _ _ _ (s₁.setTop (mkF m 0 #[.val (.ref a1)] []))
  refine own_go (fun _ k => XS.aloadN X0.here hx rfl (hb hby d4_0) rfl rfl k) ?_
  show own_R _ _ _ _ (s₁.setTop (mkF m 1 #[.val (.ref a1)] [(.ref a1)]))
  obtain ⟨T17, X17, e17, st17⟩ := getF X0 hx hZ hown (host := "") (Or.inl (hw _ (List.mem_of_getElem? (i := 17) rfl))) Via.refl e0 F_size_a1 (g := (mkF m 1 #[.val (.ref a1)] [(.ref a1)])) rfl rfl (hb hby d4_1)
  refine own_go st17 ?_
  show own_R _ _ _ _ (T17.setTop (mkF m 4 #[.val (.ref a1)] [(.int w1)]))
  exact own_retI X17 hx Bd.returns (hb hby d4_4) hlk ⟨rfl, NF, e17⟩ (by decide) (by decide)
theorem d5_0 : decode prog_28_method_3_code 0 = .ok (.aload_n 0, 1) := by decide +kernel
theorem d5_1 : decode prog_28_method_3_code 1 = .ok (.getfield 9, 3) := by decide +kernel
theorem d5_4 : decode prog_28_method_3_code 4 = .ok (.iload_n 1, 1) := by decide +kernel
theorem d5_5 : decode prog_28_method_3_code 5 = .ok (.iaload, 1) := by decide +kernel
theorem d5_6 : decode prog_28_method_3_code 6 = .ok (.ireturn, 1) := by decide +kernel
theorem ef_5 (m : MethodId) (x0 : Addr) (x1 : Int32) : entryFrame m #[(.ref x0), (.int x1)] 2 = mkF m 0 #[.val (.ref x0), .val (.int x1)] [] := by first | (simp [entryFrame, mkF, argsToLocals, Value.category]; done) | rfl
def Q5 (Z : State) (a1 : Addr) (p2 : Int32) (b1 : Addr) (k1 : ClassId) (i : Nat) (w1 : Int32) (vs : List Value) (h0 : Heap) (n0 : Nat) (v : Option Value) (h : Heap) (L : List Loc) : Prop := v = some (.int w1) ∧ Fr n0 L ∧ h = h0
set_option maxRecDepth 65536 in
set_option maxHeartbeats 40000000 in
theorem rm5 (l : Launch) (Z : State) (a0 : Array Value) (hw : ∀ d ∈ tables_1, d.before a0 Z = true) (ws : List Jvm.Cond) (a1 : Addr) (p2 : Int32) (b1 : Addr) (k1 : ClassId) (i : Nat) (w1 : Int32) (vs : List Value) (h0 : Heap) (n0 : Nat) (ZS : n0 ≤ h0.size) (F_values_a1 : Fld Z h0 a1 "com/example/austere_nets/austerenets/minimize/IntList" "values" "[I" (.ref b1)) (V_b1 : Arv Z h0 b1 k1 .int (16 : Int32) vs (.int (0 : Int32))) (hp : ¬ p2 < 0 ∧ p2 < (16 : Int32)) (hpi : p2.toNatClampNeg = i) (hel : vs.getD i (.int (0 : Int32)) = .int w1) :
    MetFree l (⟨"com/example/austere_nets/austerenets/minimize/IntList", "get", "(I)I"⟩ : MethodName) (head1 (Jvm.Cond.code (⟨"com/example/austere_nets/austerenets/minimize/IntList", "get", "(I)I"⟩ : MethodName) prog_28_method_3_code 2 (some .int) :: ws) ({ frames := 0, cells := 0, slots := 0, locals := 0 } : Room)) (fun a U => a = #[(.ref a1), (.int p2)] ∧ Z.Warmed39 U.vm ∧ U.heap = h0) (fun _ _ _ _ _ => True) (fun _ U o U' => ∃ v L, o = .returned v ∧ Q5 Z a1 p2 b1 k1 i w1 vs h0 n0 v U'.heap L ∧ FrameEnd U o U' L ({ frames := 0, cells := 0, slots := 0, locals := 0 } : Room).cells ({ frames := 0, cells := 0, slots := 0, locals := 0 } : Room).slots) := by
  refine MetFree.of_bodySF (plainFor_of_name pn_1) hisR ?_
  intro p e s m args below meth c s₁ Bd hml0 hP hK
  obtain ⟨rfl, hZ, hh⟩ := hP
  have hx := Bd.exec
  have hby := Bd.bytes
  have hml : c.maxLocals = 2 := hml0
  have hown : s.vm.findClass "com/example/austere_nets/austerenets/minimize/IntList" = some m.cls := findClass_of_methodNamed Bd.named
  have hnm := (name_of_methodNamed Bd.named Bd.method).1
  have hlk : meth.locks = false := Bd.notSynchronized
  have X0 : Stand p l e ({ frames := 0, cells := 0, slots := 0, locals := 0 } : Room) s m #[(.ref a1), (.int p2)] below meth c s₁ [] 0 0 := Stand.of_body Bd
  have e0 : s₁.heap = h0 := by rw [← hh, Bd.state]; rfl
  have NF := Fr.nil n0
  have KP : Keep h0 h0 [] := Keep.refl _ _
  refine own_fin (s := s) (Q := Q5 Z a1 p2 b1 k1 i w1 vs h0 n0) (rc := ({ frames := 0, cells := 0, slots := 0, locals := 0 } : Room).cells) (rs := ({ frames := 0, cells := 0, slots := 0, locals := 0 } : Room).slots) ?_
  refine own_go (fun t k => castTop (ef_5 m a1 p2) k) ?_
  show own_R _ _ _ _ (s₁.setTop (mkF m 0 #[.val (.ref a1), .val (.int p2)] []))
  refine own_go (fun _ k => XS.aloadN X0.here hx rfl (hb hby d5_0) rfl rfl k) ?_
  show own_R _ _ _ _ (s₁.setTop (mkF m 1 #[.val (.ref a1), .val (.int p2)] [(.ref a1)]))
  obtain ⟨T18, X18, e18, st18⟩ := getF X0 hx hZ hown (host := "") (Or.inl (hw _ (List.mem_of_getElem? (i := 10) rfl))) Via.refl e0 F_values_a1 (g := (mkF m 1 #[.val (.ref a1), .val (.int p2)] [(.ref a1)])) rfl rfl (hb hby d5_1)
  refine own_go st18 ?_
  show own_R _ _ _ _ (T18.setTop (mkF m 4 #[.val (.ref a1), .val (.int p2)] [(.ref b1)]))
  refine own_go (fun _ k => XS.iloadN X18.here hx rfl (hb hby d5_4) rfl k) ?_
  show own_R _ _ _ _ (T18.setTop (mkF m 5 #[.val (.ref a1), .val (.int p2)] [(.int p2), (.ref b1)]))
  refine own_go (own_ldI X18 hx hZ e18 V_b1 (j := p2) (i := i) hp hpi (v := (.int w1)) hel (g := (mkF m 5 #[.val (.ref a1), .val (.int p2)] [(.int p2), (.ref b1)])) rfl rfl (hb hby d5_5)) ?_
  show own_R _ _ _ _ (T18.setTop (mkF m 6 #[.val (.ref a1), .val (.int p2)] [(.int w1)]))
  exact own_retI X18 hx Bd.returns (hb hby d5_6) hlk ⟨rfl, NF, e18⟩ (by decide) (by decide)
theorem pn_0 : plainName "com/example/austere_nets/austerenets/minimize/IntListAddPinLaw" = true := by first | (simp [plainName, overriddenIn]; done) | decide +kernel
theorem ef_0 (m : MethodId) (x0 : Int32) (x1 : Int32) (x2 : Int32) (x3 : Int32) : entryFrame m #[(.int x0), (.int x1), (.int x2), (.int x3)] maxLocals = mkF m 0 #[.val (.int x0), .val (.int x1), .val (.int x2), .val (.int x3), .unset, .unset, .unset] [] := by first | (simp [entryFrame, mkF, argsToLocals, Value.category, maxLocals]; done) | rfl
def Q0 (Z : State) (q1 : Int32) (q2 : Int32) (q3 : Int32) (p4 : Int32) (h0 : Heap) (n0 : Nat) (v : Option Value) (h : Heap) (L : List Loc) : Prop := v = some (.int 1) ∧ Fr n0 L
set_option maxRecDepth 65536 in
set_option maxHeartbeats 40000000 in
theorem rm0 (l : Launch) (Z : State) (a0 : Array Value) (hw : ∀ d ∈ tables_1, d.before a0 Z = true) (ws : List Jvm.Cond) (q1 : Int32) (q2 : Int32) (q3 : Int32) (p4 : Int32) (h0 : Heap) (n0 : Nat) (ZS : n0 ≤ h0.size) :
    MetFree l x (head1 (Jvm.Cond.code x code maxLocals ret :: ws) room_1) (fun a U => a = #[(.int q1), (.int q2), (.int q3), (.int p4)] ∧ Z.Warmed39 U.vm ∧ U.heap = h0) (fun _ _ _ _ _ => True) (fun _ U o U' => ∃ v L, o = .returned v ∧ Q0 Z q1 q2 q3 p4 h0 n0 v U'.heap L ∧ FrameEnd U o U' L 16 128) := by
  refine MetFree.of_bodySF (plainFor_of_name pn_0) hisR ?_
  intro p e s m args below meth c s₁ Bd hml0 hP hK
  obtain ⟨rfl, hZ, hh⟩ := hP
  have hx := Bd.exec
  have hby := Bd.bytes
  have hml : c.maxLocals = 7 := hml0
  have hown : s.vm.findClass "com/example/austere_nets/austerenets/minimize/IntListAddPinLaw" = some m.cls := findClass_of_methodNamed Bd.named
  have hnm := (name_of_methodNamed Bd.named Bd.method).1
  have hlk : meth.locks = false := Bd.notSynchronized
  have X0 : Stand p l e room_1 s m #[(.int q1), (.int q2), (.int q3), (.int p4)] below meth c s₁ [] 0 0 := Stand.of_body Bd
  have e0 : s₁.heap = h0 := by rw [← hh, Bd.state]; rfl
  have NF := Fr.nil n0
  have KP : Keep h0 h0 [] := Keep.refl _ _
  refine own_fin (s := s) (Q := Q0 Z q1 q2 q3 p4 h0 n0) (rc := 16) (rs := 128) ?_
  refine own_go (fun t k => castTop (ef_0 m q1 q2 q3 p4) k) ?_
  show own_R _ _ _ _ (s₁.setTop (mkF m 0 #[.val (.int q1), .val (.int q2), .val (.int q3), .val (.int p4), .unset, .unset, .unset] []))
  refine own_go (fun _ k => XS.iloadN X0.here hx rfl (hb hby at_0) rfl k) ?_
  show own_R _ _ _ _ (s₁.setTop (mkF m 1 #[.val (.int q1), .val (.int q2), .val (.int q3), .val (.int p4), .unset, .unset, .unset] [(.int p4)]))
  refine own_go (fun _ k => XS.iconst X0.here hx rfl (hb hby at_1) k) ?_
  show own_R _ _ _ _ (s₁.setTop (mkF m 2 #[.val (.int q1), .val (.int q2), .val (.int q3), .val (.int p4), .unset, .unset, .unset] [(.int (3 : Int32)), (.int p4)]))
  refine own_go (fun _ k => XS.iand X0.here hx rfl (hb hby at_2) rfl k) ?_
  show own_R _ _ _ _ (s₁.setTop (mkF m 3 #[.val (.int q1), .val (.int q2), .val (.int q3), .val (.int p4), .unset, .unset, .unset] [(.int (p4 &&& (3 : Int32)))]))
  refine own_go (fun _ k => XS.istore X0.here hx rfl (hb hby at_3) rfl (l' := #[.val (.int q1), .val (.int q2), .val (.int q3), .val (.int p4), .val (.int (p4 &&& (3 : Int32))), .unset, .unset]) rfl k) ?_
  show own_R _ _ _ _ (s₁.setTop (mkF m 5 #[.val (.int q1), .val (.int q2), .val (.int q3), .val (.int p4), .val (.int (p4 &&& (3 : Int32))), .unset, .unset] []))
  generalize hnn : (p4 &&& (3 : Int32)) = nn
  show own_R _ _ _ _ (s₁.setTop (mkF m 5 #[.val (.int q1), .val (.int q2), .val (.int q3), .val (.int p4), .val (.int nn), .unset, .unset] []))
  obtain ⟨T19, h19, X19, e19, E19, A19, D19, -, st19⟩ := newO X0 hx hZ hown (hw _ (List.mem_of_getElem? (i := 0) rfl)) (hw _ (List.mem_of_getElem? (i := 1) rfl)) (hw _ (List.mem_of_getElem? (i := 2) rfl)) e0 (g := (mkF m 5 #[.val (.int q1), .val (.int q2), .val (.int q3), .val (.int p4), .val (.int nn), .unset, .unset] [])) rfl (hb hby at_5) (by decide) (by decide)
  obtain ⟨b19, g19⟩ : ∃ z, z = h0.size := ⟨_, rfl⟩
  rw [← g19] at A19 D19 st19
  refine own_go st19 ?_
  have g_b19 : n0 ≤ b19 := Nat.le_trans ZS (Nat.le_of_eq g19.symm)
  have sz_b19 : h0.size ≤ b19 := Nat.le_trans KP.1 (Nat.le_of_eq g19.symm)
  have ZS := Nat.le_trans ZS E19.1
  have KP := KP.ext E19
  have E_b19 := A19
  have F_values_b19 : Fld Z h19 b19 "com/example/austere_nets/austerenets/minimize/IntList" "values" "[I" .null := D19 (Or.inl (hw _ (List.mem_of_getElem? (i := 11) rfl))) (ty := (.array .int)) (by decide)
  have F_size_b19 : Fld Z h19 b19 "com/example/austere_nets/austerenets/minimize/IntList" "size" "I" (.int (0 : Int32)) := D19 (Or.inl (hw _ (List.mem_of_getElem? (i := 18) rfl))) (ty := .int) (by decide)
  show own_R _ _ _ _ (T19.setTop (mkF m 8 #[.val (.int q1), .val (.int q2), .val (.int q3), .val (.int p4), .val (.int nn), .unset, .unset] [(.ref b19)]))
  refine own_go (fun _ k => XS.dup X19.here hx rfl (hb hby at_8) rfl rfl k) ?_
  show own_R _ _ _ _ (T19.setTop (mkF m 9 #[.val (.int q1), .val (.int q2), .val (.int q3), .val (.int p4), .val (.int nn), .unset, .unset] [(.ref b19), (.ref b19)]))
  obtain ⟨_, _, ⟨T20, L20, k20, n20⟩, -, X20, ⟨Lc20, hQ20, l20, y20, z20⟩, st20⟩ := X19.specialBack hx (y := (⟨"com/example/austere_nets/austerenets/minimize/IntList", "<init>", "()V"⟩ : MethodName)) rfl hown (mvT hZ (hw _ (List.mem_of_getElem? (i := 3) rfl))) (mvT hZ (hw _ (List.mem_of_getElem? (i := 4) rfl))) (mvT hZ (hw _ (List.mem_of_getElem? (i := 5) rfl))) (by decide) (backOf (W := 1) (rm1 l Z a0 hw [] b19 .null (0 : Int32) h19 n0 ZS E_b19 F_values_b19 F_size_b19 g_b19) hZ (hw _ (List.mem_of_getElem? (i := 5) rfl)) (hw _ (List.mem_of_getElem? (i := 2) rfl)) (by decide) (by decide)) (g := (mkF m 9 #[.val (.int q1), .val (.int q2), .val (.int q3), .val (.int p4), .val (.int nn), .unset, .unset] [(.ref b19), (.ref b19)])) rfl (by rw [hml]; rfl) (Steps.refl _) (a := b19) (argsL := []) (rest := [(.ref b19)]) (lenOf pd_2 rfl) rfl (by show 2 * 0 + _ ≤ _; exact Nat.le_of_eq rfl) (hb hby at_9) (fun _ _ => ⟨rfl, e19, (by decide : 1 + 1 ≤ _), (by decide : 2 + 16 ≤ _)⟩)
  dsimp only [Pt.U, Pt.locs, Pt.cells, Pt.slots] at X20 l20 y20 z20 st20 hQ20
  subst l20 y20 z20
  obtain ⟨h20, e20'⟩ : ∃ z, z = T20.heap := ⟨_, rfl⟩
  rw [← e20'] at hQ20
  have e20 : T20.heap = h20 := e20'.symm
  obtain ⟨rfl, N20q, K20, pp1, c21, pp2, hbc21, kc21, Vc21'⟩ := hQ20
  have NF := Fr.app NF N20q
  refine own_go (fun _ k => st20.trans k) ?_
  have ne_b19_c21 : b19 ≠ c21 := Nat.ne_of_lt (Nat.lt_of_lt_of_le E_b19.lt hbc21)
  have g_c21 : n0 ≤ c21 := Nat.le_trans ZS hbc21
  have sz_c21 : h0.size ≤ c21 := Nat.le_trans KP.1 hbc21
  have E_b19 := E_b19.keep K20
  have ZS := Nat.le_trans ZS K20.1
  have KP := KP.trans K20 (allS (Or.inr sz_b19) all0)
  have F_size_b19 := pp1
  have F_values_b19 := pp2
  have V_c21 := Vc21'
  show own_R _ _ _ _ (T20.setTop (mkF m 12 #[.val (.int q1), .val (.int q2), .val (.int q3), .val (.int p4), .val (.int nn), .unset, .unset] [(.ref b19)]))
  refine own_go (fun _ k => XS.astore X20.here hx rfl (hb hby at_12) rfl rfl (l' := #[.val (.int q1), .val (.int q2), .val (.int q3), .val (.int p4), .val (.int nn), .val (.ref b19), .unset]) rfl k) ?_
  show own_R _ _ _ _ (T20.setTop (mkF m 14 #[.val (.int q1), .val (.int q2), .val (.int q3), .val (.int p4), .val (.int nn), .val (.ref b19), .unset] []))
  rcases own_four _ _ hnn with rfl | rfl | rfl | rfl
  · show own_R _ _ _ _ (T20.setTop (mkF m 14 #[.val (.int q1), .val (.int q2), .val (.int q3), .val (.int p4), .val (.int (0 : Int32)), .val (.ref b19), .unset] []))
    refine own_go (fun _ k => XS.iload X20.here hx rfl (hb hby at_14) rfl k) ?_
    show own_R _ _ _ _ (T20.setTop (mkF m 16 #[.val (.int q1), .val (.int q2), .val (.int q3), .val (.int p4), .val (.int (0 : Int32)), .val (.ref b19), .unset] [(.int (0 : Int32))]))
    refine own_go (fun _ k => XS.iconst X20.here hx rfl (hb hby at_16) k) ?_
    show own_R _ _ _ _ (T20.setTop (mkF m 17 #[.val (.int q1), .val (.int q2), .val (.int q3), .val (.int p4), .val (.int (0 : Int32)), .val (.ref b19), .unset] [(.int (1 : Int32)), (.int (0 : Int32))]))
    refine own_go (fun _ k => XS.icmpYes X20.here hx rfl (pc0 := 17) (pc' := 26) rfl (hb hby at_17) rfl (tlt (by decide : (0 : Int32) < (1 : Int32))).1 (by decide) (by decide) k) ?_
    show own_R _ _ _ _ (T20.setTop (mkF m 26 #[.val (.int q1), .val (.int q2), .val (.int q3), .val (.int p4), .val (.int (0 : Int32)), .val (.ref b19), .unset] []))
    refine own_go (fun _ k => XS.iload X20.here hx rfl (hb hby at_26) rfl k) ?_
    show own_R _ _ _ _ (T20.setTop (mkF m 28 #[.val (.int q1), .val (.int q2), .val (.int q3), .val (.int p4), .val (.int (0 : Int32)), .val (.ref b19), .unset] [(.int (0 : Int32))]))
    refine own_go (fun _ k => XS.iconst X20.here hx rfl (hb hby at_28) k) ?_
    show own_R _ _ _ _ (T20.setTop (mkF m 29 #[.val (.int q1), .val (.int q2), .val (.int q3), .val (.int p4), .val (.int (0 : Int32)), .val (.ref b19), .unset] [(.int (2 : Int32)), (.int (0 : Int32))]))
    refine own_go (fun _ k => XS.icmpYes X20.here hx rfl (pc0 := 29) (pc' := 38) rfl (hb hby at_29) rfl (tlt (by decide : (0 : Int32) < (2 : Int32))).1 (by decide) (by decide) k) ?_
    show own_R _ _ _ _ (T20.setTop (mkF m 38 #[.val (.int q1), .val (.int q2), .val (.int q3), .val (.int p4), .val (.int (0 : Int32)), .val (.ref b19), .unset] []))
    refine own_go (fun _ k => XS.iload X20.here hx rfl (hb hby at_38) rfl k) ?_
    show own_R _ _ _ _ (T20.setTop (mkF m 40 #[.val (.int q1), .val (.int q2), .val (.int q3), .val (.int p4), .val (.int (0 : Int32)), .val (.ref b19), .unset] [(.int (0 : Int32))]))
    refine own_go (fun _ k => XS.iconst X20.here hx rfl (hb hby at_40) k) ?_
    show own_R _ _ _ _ (T20.setTop (mkF m 41 #[.val (.int q1), .val (.int q2), .val (.int q3), .val (.int p4), .val (.int (0 : Int32)), .val (.ref b19), .unset] [(.int (3 : Int32)), (.int (0 : Int32))]))
    refine own_go (fun _ k => XS.icmpYes X20.here hx rfl (pc0 := 41) (pc' := 50) rfl (hb hby at_41) rfl (tlt (by decide : (0 : Int32) < (3 : Int32))).1 (by decide) (by decide) k) ?_
    show own_R _ _ _ _ (T20.setTop (mkF m 50 #[.val (.int q1), .val (.int q2), .val (.int q3), .val (.int p4), .val (.int (0 : Int32)), .val (.ref b19), .unset] []))
    refine own_go (fun _ k => XS.aload X20.here hx rfl (hb hby at_50) rfl rfl k) ?_
    show own_R _ _ _ _ (T20.setTop (mkF m 52 #[.val (.int q1), .val (.int q2), .val (.int q3), .val (.int p4), .val (.int (0 : Int32)), .val (.ref b19), .unset] [(.ref b19)]))
    obtain ⟨cq21, kq21, q21a, q21b, q21c⟩ := isOf hZ e20 E_b19
    obtain ⟨_, _, ⟨T21, L21, k21, n21⟩, -, X21, ⟨Lc21, hQ21, l21, y21, z21⟩, st21⟩ := X20.virtualBack hx (y := (⟨"com/example/austere_nets/austerenets/minimize/IntList", "size", "()I"⟩ : MethodName)) (z := (⟨"com/example/austere_nets/austerenets/minimize/IntList", "size", "()I"⟩ : MethodName)) hown (mvT hZ (hw _ (List.mem_of_getElem? (i := 19) rfl))) (mvT hZ (hw _ (List.mem_of_getElem? (i := 20) rfl))) (notFace_of_selects (args := #[]) (mvT hZ (hw _ (List.mem_of_getElem? (i := 22) rfl)))) (mvT hZ (hw _ (List.mem_of_getElem? (i := 22) rfl))) (mvT hZ (hw _ (List.mem_of_getElem? (i := 21) rfl))) (by decide) (backOf (W := 0) (rm4 l Z a0 hw [] b19 (0 : Int32) h20 n0 ZS F_size_b19) hZ (hw _ (List.mem_of_getElem? (i := 23) rfl)) (hw _ (List.mem_of_getElem? (i := 2) rfl)) (by decide) (by decide)) q21a q21c (g := (mkF m 52 #[.val (.int q1), .val (.int q2), .val (.int q3), .val (.int p4), .val (.int (0 : Int32)), .val (.ref b19), .unset] [(.ref b19)])) rfl (by rw [hml]; rfl) (Steps.refl _) (argsL := []) (rest := []) (lenOf pd_3 rfl) rfl (by show 2 * 0 + _ ≤ _; exact Nat.le_of_eq rfl) (hb hby at_52) (fun _ _ => ⟨rfl, e20, (by decide : 2 + 0 ≤ _), (by decide : 18 + 0 ≤ _)⟩)
    dsimp only [Pt.U, Pt.locs, Pt.cells, Pt.slots] at X21 l21 y21 z21 st21 hQ21
    subst l21 y21 z21
    obtain ⟨rfl, N21q, e21⟩ := hQ21
    have NF := Fr.app NF N21q
    refine own_go (fun _ k => st21.trans k) ?_
    show own_R _ _ _ _ (T21.setTop (mkF m 55 #[.val (.int q1), .val (.int q2), .val (.int q3), .val (.int p4), .val (.int (0 : Int32)), .val (.ref b19), .unset] [(.int (0 : Int32))]))
    refine own_go (fun _ k => XS.iload X21.here hx rfl (hb hby at_55) rfl k) ?_
    show own_R _ _ _ _ (T21.setTop (mkF m 57 #[.val (.int q1), .val (.int q2), .val (.int q3), .val (.int p4), .val (.int (0 : Int32)), .val (.ref b19), .unset] [(.int (0 : Int32)), (.int (0 : Int32))]))
    refine own_go (fun _ k => XS.icmpYes X21.here hx rfl (pc0 := 57) (pc' := 62) rfl (hb hby at_57) rfl (teq (by decide : (0 : Int32) = (0 : Int32))).1 (by decide) (by decide) k) ?_
    show own_R _ _ _ _ (T21.setTop (mkF m 62 #[.val (.int q1), .val (.int q2), .val (.int q3), .val (.int p4), .val (.int (0 : Int32)), .val (.ref b19), .unset] []))
    refine own_go (fun _ k => XS.iload X21.here hx rfl (hb hby at_62) rfl k) ?_
    show own_R _ _ _ _ (T21.setTop (mkF m 64 #[.val (.int q1), .val (.int q2), .val (.int q3), .val (.int p4), .val (.int (0 : Int32)), .val (.ref b19), .unset] [(.int (0 : Int32))]))
    refine own_go (fun _ k => XS.iconst X21.here hx rfl (hb hby at_64) k) ?_
    show own_R _ _ _ _ (T21.setTop (mkF m 65 #[.val (.int q1), .val (.int q2), .val (.int q3), .val (.int p4), .val (.int (0 : Int32)), .val (.ref b19), .unset] [(.int (1 : Int32)), (.int (0 : Int32))]))
    refine own_go (fun _ k => XS.icmpYes X21.here hx rfl (pc0 := 65) (pc' := 80) rfl (hb hby at_65) rfl (tlt (by decide : (0 : Int32) < (1 : Int32))).1 (by decide) (by decide) k) ?_
    show own_R _ _ _ _ (T21.setTop (mkF m 80 #[.val (.int q1), .val (.int q2), .val (.int q3), .val (.int p4), .val (.int (0 : Int32)), .val (.ref b19), .unset] []))
    refine own_go (fun _ k => XS.iload X21.here hx rfl (hb hby at_80) rfl k) ?_
    show own_R _ _ _ _ (T21.setTop (mkF m 82 #[.val (.int q1), .val (.int q2), .val (.int q3), .val (.int p4), .val (.int (0 : Int32)), .val (.ref b19), .unset] [(.int (0 : Int32))]))
    refine own_go (fun _ k => XS.iconst X21.here hx rfl (hb hby at_82) k) ?_
    show own_R _ _ _ _ (T21.setTop (mkF m 83 #[.val (.int q1), .val (.int q2), .val (.int q3), .val (.int p4), .val (.int (0 : Int32)), .val (.ref b19), .unset] [(.int (2 : Int32)), (.int (0 : Int32))]))
    refine own_go (fun _ k => XS.icmpYes X21.here hx rfl (pc0 := 83) (pc' := 98) rfl (hb hby at_83) rfl (tlt (by decide : (0 : Int32) < (2 : Int32))).1 (by decide) (by decide) k) ?_
    show own_R _ _ _ _ (T21.setTop (mkF m 98 #[.val (.int q1), .val (.int q2), .val (.int q3), .val (.int p4), .val (.int (0 : Int32)), .val (.ref b19), .unset] []))
    refine own_go (fun _ k => XS.iload X21.here hx rfl (hb hby at_98) rfl k) ?_
    show own_R _ _ _ _ (T21.setTop (mkF m 100 #[.val (.int q1), .val (.int q2), .val (.int q3), .val (.int p4), .val (.int (0 : Int32)), .val (.ref b19), .unset] [(.int (0 : Int32))]))
    refine own_go (fun _ k => XS.iconst X21.here hx rfl (hb hby at_100) k) ?_
    show own_R _ _ _ _ (T21.setTop (mkF m 101 #[.val (.int q1), .val (.int q2), .val (.int q3), .val (.int p4), .val (.int (0 : Int32)), .val (.ref b19), .unset] [(.int (3 : Int32)), (.int (0 : Int32))]))
    refine own_go (fun _ k => XS.icmpYes X21.here hx rfl (pc0 := 101) (pc' := 116) rfl (hb hby at_101) rfl (tlt (by decide : (0 : Int32) < (3 : Int32))).1 (by decide) (by decide) k) ?_
    show own_R _ _ _ _ (T21.setTop (mkF m 116 #[.val (.int q1), .val (.int q2), .val (.int q3), .val (.int p4), .val (.int (0 : Int32)), .val (.ref b19), .unset] []))
    refine own_go (fun _ k => XS.aload X21.here hx rfl (hb hby at_116) rfl rfl k) ?_
    show own_R _ _ _ _ (T21.setTop (mkF m 118 #[.val (.int q1), .val (.int q2), .val (.int q3), .val (.int p4), .val (.int (0 : Int32)), .val (.ref b19), .unset] [(.ref b19)]))
    obtain ⟨cq22, kq22, q22a, q22b, q22c⟩ := isOf hZ e21 E_b19
    obtain ⟨_, _, ⟨T22, L22, k22, n22⟩, -, X22, ⟨Lc22, hQ22, l22, y22, z22⟩, st22⟩ := X21.virtualBack hx (y := (⟨"com/example/austere_nets/austerenets/minimize/IntList", "toArray", "()[I"⟩ : MethodName)) (z := (⟨"com/example/austere_nets/austerenets/minimize/IntList", "toArray", "()[I"⟩ : MethodName)) hown (mvT hZ (hw _ (List.mem_of_getElem? (i := 29) rfl))) (mvT hZ (hw _ (List.mem_of_getElem? (i := 30) rfl))) (notFace_of_selects (args := #[]) (mvT hZ (hw _ (List.mem_of_getElem? (i := 32) rfl)))) (mvT hZ (hw _ (List.mem_of_getElem? (i := 32) rfl))) (mvT hZ (hw _ (List.mem_of_getElem? (i := 31) rfl))) (by decide) (backOf (W := 0) (rm6 l Z a0 hw [] b19 c21 kc21 (0 : Int32) [(.int (0 : Int32)), (.int (0 : Int32)), (.int (0 : Int32)), (.int (0 : Int32)), (.int (0 : Int32)), (.int (0 : Int32)), (.int (0 : Int32)), (.int (0 : Int32)), (.int (0 : Int32)), (.int (0 : Int32)), (.int (0 : Int32)), (.int (0 : Int32)), (.int (0 : Int32)), (.int (0 : Int32)), (.int (0 : Int32)), (.int (0 : Int32))] h20 n0 ZS F_values_b19 F_size_b19 V_c21 (by decide) (by decide) (by decide)) hZ (hw _ (List.mem_of_getElem? (i := 33) rfl)) (hw _ (List.mem_of_getElem? (i := 2) rfl)) (by decide) (by decide)) q22a q22c (g := (mkF m 118 #[.val (.int q1), .val (.int q2), .val (.int q3), .val (.int p4), .val (.int (0 : Int32)), .val (.ref b19), .unset] [(.ref b19)])) rfl (by rw [hml]; rfl) (Steps.refl _) (argsL := []) (rest := []) (lenOf pd_4 rfl) rfl (by show 2 * 0 + _ ≤ _; exact Nat.le_of_eq rfl) (hb hby at_118) (fun _ _ => ⟨rfl, e21, (by decide : 2 + 1 ≤ _), (by decide : 18 + 16 ≤ _)⟩)
    dsimp only [Pt.U, Pt.locs, Pt.cells, Pt.slots] at X22 l22 y22 z22 st22 hQ22
    subst l22 y22 z22
    obtain ⟨h22, e22'⟩ : ∃ z, z = T22.heap := ⟨_, rfl⟩
    rw [← e22'] at hQ22
    have e22 : T22.heap = h22 := e22'.symm
    obtain ⟨c23, rfl, N22q, K22, hbc23, kc23, Vc23'⟩ := hQ22
    have NF := Fr.app NF N22q
    refine own_go (fun _ k => st22.trans k) ?_
    have ne_b19_c23 : b19 ≠ c23 := Nat.ne_of_lt (Nat.lt_of_lt_of_le E_b19.lt hbc23)
    have ne_c21_c23 : c21 ≠ c23 := Nat.ne_of_lt (Nat.lt_of_lt_of_le V_c21.lt hbc23)
    have g_c23 : n0 ≤ c23 := Nat.le_trans ZS hbc23
    have sz_c23 : h0.size ≤ c23 := Nat.le_trans KP.1 hbc23
    have E_b19 := E_b19.keep K22
    have F_size_b19 := F_size_b19.keep K22 nin0
    have F_values_b19 := F_values_b19.keep K22 nin0
    have V_c21 := V_c21.keep K22 nin0
    have ZS := Nat.le_trans ZS K22.1
    have KP := KP.trans K22 all0
    have V_c23 : Arv Z h22 c23 kc23 .int (0 : Int32) [] (.int (0 : Int32)) := Vc23'
    show own_R _ _ _ _ (T22.setTop (mkF m 121 #[.val (.int q1), .val (.int q2), .val (.int q3), .val (.int p4), .val (.int (0 : Int32)), .val (.ref b19), .unset] [(.ref c23)]))
    refine own_go (fun _ k => XS.astore X22.here hx rfl (hb hby at_121) rfl rfl (l' := #[.val (.int q1), .val (.int q2), .val (.int q3), .val (.int p4), .val (.int (0 : Int32)), .val (.ref b19), .val (.ref c23)]) rfl k) ?_
    show own_R _ _ _ _ (T22.setTop (mkF m 123 #[.val (.int q1), .val (.int q2), .val (.int q3), .val (.int p4), .val (.int (0 : Int32)), .val (.ref b19), .val (.ref c23)] []))
    refine own_go (fun _ k => XS.aload X22.here hx rfl (hb hby at_123) rfl rfl k) ?_
    show own_R _ _ _ _ (T22.setTop (mkF m 125 #[.val (.int q1), .val (.int q2), .val (.int q3), .val (.int p4), .val (.int (0 : Int32)), .val (.ref b19), .val (.ref c23)] [(.ref c23)]))
    refine own_go (own_len X22 hx hZ e22 V_c23 (g := (mkF m 125 #[.val (.int q1), .val (.int q2), .val (.int q3), .val (.int p4), .val (.int (0 : Int32)), .val (.ref b19), .val (.ref c23)] [(.ref c23)])) rfl rfl (hb hby at_125)) ?_
    show own_R _ _ _ _ (T22.setTop (mkF m 126 #[.val (.int q1), .val (.int q2), .val (.int q3), .val (.int p4), .val (.int (0 : Int32)), .val (.ref b19), .val (.ref c23)] [(.int (0 : Int32))]))
    refine own_go (fun _ k => XS.iload X22.here hx rfl (hb hby at_126) rfl k) ?_
    show own_R _ _ _ _ (T22.setTop (mkF m 128 #[.val (.int q1), .val (.int q2), .val (.int q3), .val (.int p4), .val (.int (0 : Int32)), .val (.ref b19), .val (.ref c23)] [(.int (0 : Int32)), (.int (0 : Int32))]))
    refine own_go (fun _ k => XS.icmpYes X22.here hx rfl (pc0 := 128) (pc' := 133) rfl (hb hby at_128) rfl (teq (by decide : (0 : Int32) = (0 : Int32))).1 (by decide) (by decide) k) ?_
    show own_R _ _ _ _ (T22.setTop (mkF m 133 #[.val (.int q1), .val (.int q2), .val (.int q3), .val (.int p4), .val (.int (0 : Int32)), .val (.ref b19), .val (.ref c23)] []))
    refine own_go (fun _ k => XS.iload X22.here hx rfl (hb hby at_133) rfl k) ?_
    show own_R _ _ _ _ (T22.setTop (mkF m 135 #[.val (.int q1), .val (.int q2), .val (.int q3), .val (.int p4), .val (.int (0 : Int32)), .val (.ref b19), .val (.ref c23)] [(.int (0 : Int32))]))
    refine own_go (fun _ k => XS.iconst X22.here hx rfl (hb hby at_135) k) ?_
    show own_R _ _ _ _ (T22.setTop (mkF m 136 #[.val (.int q1), .val (.int q2), .val (.int q3), .val (.int p4), .val (.int (0 : Int32)), .val (.ref b19), .val (.ref c23)] [(.int (1 : Int32)), (.int (0 : Int32))]))
    refine own_go (fun _ k => XS.icmpYes X22.here hx rfl (pc0 := 136) (pc' := 149) rfl (hb hby at_136) rfl (tlt (by decide : (0 : Int32) < (1 : Int32))).1 (by decide) (by decide) k) ?_
    show own_R _ _ _ _ (T22.setTop (mkF m 149 #[.val (.int q1), .val (.int q2), .val (.int q3), .val (.int p4), .val (.int (0 : Int32)), .val (.ref b19), .val (.ref c23)] []))
    refine own_go (fun _ k => XS.iload X22.here hx rfl (hb hby at_149) rfl k) ?_
    show own_R _ _ _ _ (T22.setTop (mkF m 151 #[.val (.int q1), .val (.int q2), .val (.int q3), .val (.int p4), .val (.int (0 : Int32)), .val (.ref b19), .val (.ref c23)] [(.int (0 : Int32))]))
    refine own_go (fun _ k => XS.iconst X22.here hx rfl (hb hby at_151) k) ?_
    show own_R _ _ _ _ (T22.setTop (mkF m 152 #[.val (.int q1), .val (.int q2), .val (.int q3), .val (.int p4), .val (.int (0 : Int32)), .val (.ref b19), .val (.ref c23)] [(.int (2 : Int32)), (.int (0 : Int32))]))
    refine own_go (fun _ k => XS.icmpYes X22.here hx rfl (pc0 := 152) (pc' := 165) rfl (hb hby at_152) rfl (tlt (by decide : (0 : Int32) < (2 : Int32))).1 (by decide) (by decide) k) ?_
    show own_R _ _ _ _ (T22.setTop (mkF m 165 #[.val (.int q1), .val (.int q2), .val (.int q3), .val (.int p4), .val (.int (0 : Int32)), .val (.ref b19), .val (.ref c23)] []))
    refine own_go (fun _ k => XS.iload X22.here hx rfl (hb hby at_165) rfl k) ?_
    show own_R _ _ _ _ (T22.setTop (mkF m 167 #[.val (.int q1), .val (.int q2), .val (.int q3), .val (.int p4), .val (.int (0 : Int32)), .val (.ref b19), .val (.ref c23)] [(.int (0 : Int32))]))
    refine own_go (fun _ k => XS.iconst X22.here hx rfl (hb hby at_167) k) ?_
    show own_R _ _ _ _ (T22.setTop (mkF m 168 #[.val (.int q1), .val (.int q2), .val (.int q3), .val (.int p4), .val (.int (0 : Int32)), .val (.ref b19), .val (.ref c23)] [(.int (3 : Int32)), (.int (0 : Int32))]))
    refine own_go (fun _ k => XS.icmpYes X22.here hx rfl (pc0 := 168) (pc' := 181) rfl (hb hby at_168) rfl (tlt (by decide : (0 : Int32) < (3 : Int32))).1 (by decide) (by decide) k) ?_
    show own_R _ _ _ _ (T22.setTop (mkF m 181 #[.val (.int q1), .val (.int q2), .val (.int q3), .val (.int p4), .val (.int (0 : Int32)), .val (.ref b19), .val (.ref c23)] []))
    refine own_go (fun _ k => XS.iconst X22.here hx rfl (hb hby at_181) k) ?_
    show own_R _ _ _ _ (T22.setTop (mkF m 182 #[.val (.int q1), .val (.int q2), .val (.int q3), .val (.int p4), .val (.int (0 : Int32)), .val (.ref b19), .val (.ref c23)] [(.int (1 : Int32))]))
    exact own_retN X22 hx (t := .boolean) (by simp) Bd.returns (hb hby at_182) hlk ⟨rfl, NF⟩ (by decide) (by decide)
  · show own_R _ _ _ _ (T20.setTop (mkF m 14 #[.val (.int q1), .val (.int q2), .val (.int q3), .val (.int p4), .val (.int (1 : Int32)), .val (.ref b19), .unset] []))
    refine own_go (fun _ k => XS.iload X20.here hx rfl (hb hby at_14) rfl k) ?_
    show own_R _ _ _ _ (T20.setTop (mkF m 16 #[.val (.int q1), .val (.int q2), .val (.int q3), .val (.int p4), .val (.int (1 : Int32)), .val (.ref b19), .unset] [(.int (1 : Int32))]))
    refine own_go (fun _ k => XS.iconst X20.here hx rfl (hb hby at_16) k) ?_
    show own_R _ _ _ _ (T20.setTop (mkF m 17 #[.val (.int q1), .val (.int q2), .val (.int q3), .val (.int p4), .val (.int (1 : Int32)), .val (.ref b19), .unset] [(.int (1 : Int32)), (.int (1 : Int32))]))
    refine own_go (fun _ k => XS.icmpNo X20.here hx rfl (hb hby at_17) rfl (flt (by decide : ¬ ((1 : Int32) < (1 : Int32)))).1 k) ?_
    show own_R _ _ _ _ (T20.setTop (mkF m 20 #[.val (.int q1), .val (.int q2), .val (.int q3), .val (.int p4), .val (.int (1 : Int32)), .val (.ref b19), .unset] []))
    refine own_go (fun _ k => XS.aload X20.here hx rfl (hb hby at_20) rfl rfl k) ?_
    show own_R _ _ _ _ (T20.setTop (mkF m 22 #[.val (.int q1), .val (.int q2), .val (.int q3), .val (.int p4), .val (.int (1 : Int32)), .val (.ref b19), .unset] [(.ref b19)]))
    refine own_go (fun _ k => XS.iloadN X20.here hx rfl (hb hby at_22) rfl k) ?_
    show own_R _ _ _ _ (T20.setTop (mkF m 23 #[.val (.int q1), .val (.int q2), .val (.int q3), .val (.int p4), .val (.int (1 : Int32)), .val (.ref b19), .unset] [(.int q1), (.ref b19)]))
    obtain ⟨cq23, kq23, q23a, q23b, q23c⟩ := isOf hZ e20 E_b19
    obtain ⟨_, _, ⟨T23, L23, k23, n23⟩, -, X23, ⟨Lc23, hQ23, l23, y23, z23⟩, st23⟩ := X20.virtualBack hx (y := (⟨"com/example/austere_nets/austerenets/minimize/IntList", "add", "(I)V"⟩ : MethodName)) (z := (⟨"com/example/austere_nets/austerenets/minimize/IntList", "add", "(I)V"⟩ : MethodName)) hown (mvT hZ (hw _ (List.mem_of_getElem? (i := 12) rfl))) (mvT hZ (hw _ (List.mem_of_getElem? (i := 13) rfl))) (notFace_of_selects (args := #[]) (mvT hZ (hw _ (List.mem_of_getElem? (i := 15) rfl)))) (mvT hZ (hw _ (List.mem_of_getElem? (i := 15) rfl))) (mvT hZ (hw _ (List.mem_of_getElem? (i := 14) rfl))) (by decide) (backOf (W := 0) (rm3 l Z a0 hw [] b19 q1 c21 kc21 (0 : Int32) 0 [(.int (0 : Int32)), (.int (0 : Int32)), (.int (0 : Int32)), (.int (0 : Int32)), (.int (0 : Int32)), (.int (0 : Int32)), (.int (0 : Int32)), (.int (0 : Int32)), (.int (0 : Int32)), (.int (0 : Int32)), (.int (0 : Int32)), (.int (0 : Int32)), (.int (0 : Int32)), (.int (0 : Int32)), (.int (0 : Int32)), (.int (0 : Int32))] h20 n0 ZS E_b19 F_values_b19 F_size_b19 g_b19 V_c21 g_c21 ne_b19_c21 ⟨by decide, by decide⟩ rfl (Nat.le_of_ble_eq_true rfl)) hZ (hw _ (List.mem_of_getElem? (i := 16) rfl)) (hw _ (List.mem_of_getElem? (i := 2) rfl)) (by decide) (by decide)) q23a q23c (g := (mkF m 23 #[.val (.int q1), .val (.int q2), .val (.int q3), .val (.int p4), .val (.int (1 : Int32)), .val (.ref b19), .unset] [(.int q1), (.ref b19)])) rfl (by rw [hml]; rfl) (Steps.refl _) (argsL := [(.int q1)]) (rest := []) (lenOf pd_5 rfl) rfl (by show 2 * 0 + _ ≤ _; exact Nat.le_of_eq rfl) (hb hby at_23) (fun _ _ => ⟨rfl, e20, (by decide : 2 + 0 ≤ _), (by decide : 18 + 0 ≤ _)⟩)
    dsimp only [Pt.U, Pt.locs, Pt.cells, Pt.slots] at X23 l23 y23 z23 st23 hQ23
    subst l23 y23 z23
    obtain ⟨h23, e23'⟩ : ∃ z, z = T23.heap := ⟨_, rfl⟩
    rw [← e23'] at hQ23
    have e23 : T23.heap = h23 := e23'.symm
    obtain ⟨rfl, N23q, K23, pp1, pp2, pp3⟩ := hQ23
    have NF := Fr.app NF N23q
    refine own_go (fun _ k => st23.trans k) ?_
    have E_b19 := E_b19.keep K23
    have ZS := Nat.le_trans ZS K23.1
    have KP := KP.trans K23 (allS (Or.inr sz_b19) (allS (Or.inr sz_c21) all0))
    have F_size_b19 := pp1
    have F_values_b19 := pp2
    have V_c21 : Arv Z h23 c21 kc21 .int (16 : Int32) [(.int q1), (.int (0 : Int32)), (.int (0 : Int32)), (.int (0 : Int32)), (.int (0 : Int32)), (.int (0 : Int32)), (.int (0 : Int32)), (.int (0 : Int32)), (.int (0 : Int32)), (.int (0 : Int32)), (.int (0 : Int32)), (.int (0 : Int32)), (.int (0 : Int32)), (.int (0 : Int32)), (.int (0 : Int32)), (.int (0 : Int32))] (.int (0 : Int32)) := pp3
    show own_R _ _ _ _ (T23.setTop (mkF m 26 #[.val (.int q1), .val (.int q2), .val (.int q3), .val (.int p4), .val (.int (1 : Int32)), .val (.ref b19), .unset] []))
    refine own_go (fun _ k => XS.iload X23.here hx rfl (hb hby at_26) rfl k) ?_
    show own_R _ _ _ _ (T23.setTop (mkF m 28 #[.val (.int q1), .val (.int q2), .val (.int q3), .val (.int p4), .val (.int (1 : Int32)), .val (.ref b19), .unset] [(.int (1 : Int32))]))
    refine own_go (fun _ k => XS.iconst X23.here hx rfl (hb hby at_28) k) ?_
    show own_R _ _ _ _ (T23.setTop (mkF m 29 #[.val (.int q1), .val (.int q2), .val (.int q3), .val (.int p4), .val (.int (1 : Int32)), .val (.ref b19), .unset] [(.int (2 : Int32)), (.int (1 : Int32))]))
    refine own_go (fun _ k => XS.icmpYes X23.here hx rfl (pc0 := 29) (pc' := 38) rfl (hb hby at_29) rfl (tlt (by decide : (1 : Int32) < (2 : Int32))).1 (by decide) (by decide) k) ?_
    show own_R _ _ _ _ (T23.setTop (mkF m 38 #[.val (.int q1), .val (.int q2), .val (.int q3), .val (.int p4), .val (.int (1 : Int32)), .val (.ref b19), .unset] []))
    refine own_go (fun _ k => XS.iload X23.here hx rfl (hb hby at_38) rfl k) ?_
    show own_R _ _ _ _ (T23.setTop (mkF m 40 #[.val (.int q1), .val (.int q2), .val (.int q3), .val (.int p4), .val (.int (1 : Int32)), .val (.ref b19), .unset] [(.int (1 : Int32))]))
    refine own_go (fun _ k => XS.iconst X23.here hx rfl (hb hby at_40) k) ?_
    show own_R _ _ _ _ (T23.setTop (mkF m 41 #[.val (.int q1), .val (.int q2), .val (.int q3), .val (.int p4), .val (.int (1 : Int32)), .val (.ref b19), .unset] [(.int (3 : Int32)), (.int (1 : Int32))]))
    refine own_go (fun _ k => XS.icmpYes X23.here hx rfl (pc0 := 41) (pc' := 50) rfl (hb hby at_41) rfl (tlt (by decide : (1 : Int32) < (3 : Int32))).1 (by decide) (by decide) k) ?_
    show own_R _ _ _ _ (T23.setTop (mkF m 50 #[.val (.int q1), .val (.int q2), .val (.int q3), .val (.int p4), .val (.int (1 : Int32)), .val (.ref b19), .unset] []))
    refine own_go (fun _ k => XS.aload X23.here hx rfl (hb hby at_50) rfl rfl k) ?_
    show own_R _ _ _ _ (T23.setTop (mkF m 52 #[.val (.int q1), .val (.int q2), .val (.int q3), .val (.int p4), .val (.int (1 : Int32)), .val (.ref b19), .unset] [(.ref b19)]))
    obtain ⟨cq24, kq24, q24a, q24b, q24c⟩ := isOf hZ e23 E_b19
    obtain ⟨_, _, ⟨T24, L24, k24, n24⟩, -, X24, ⟨Lc24, hQ24, l24, y24, z24⟩, st24⟩ := X23.virtualBack hx (y := (⟨"com/example/austere_nets/austerenets/minimize/IntList", "size", "()I"⟩ : MethodName)) (z := (⟨"com/example/austere_nets/austerenets/minimize/IntList", "size", "()I"⟩ : MethodName)) hown (mvT hZ (hw _ (List.mem_of_getElem? (i := 19) rfl))) (mvT hZ (hw _ (List.mem_of_getElem? (i := 20) rfl))) (notFace_of_selects (args := #[]) (mvT hZ (hw _ (List.mem_of_getElem? (i := 22) rfl)))) (mvT hZ (hw _ (List.mem_of_getElem? (i := 22) rfl))) (mvT hZ (hw _ (List.mem_of_getElem? (i := 21) rfl))) (by decide) (backOf (W := 0) (rm4 l Z a0 hw [] b19 (1 : Int32) h23 n0 ZS F_size_b19) hZ (hw _ (List.mem_of_getElem? (i := 23) rfl)) (hw _ (List.mem_of_getElem? (i := 2) rfl)) (by decide) (by decide)) q24a q24c (g := (mkF m 52 #[.val (.int q1), .val (.int q2), .val (.int q3), .val (.int p4), .val (.int (1 : Int32)), .val (.ref b19), .unset] [(.ref b19)])) rfl (by rw [hml]; rfl) (Steps.refl _) (argsL := []) (rest := []) (lenOf pd_3 rfl) rfl (by show 2 * 0 + _ ≤ _; exact Nat.le_of_eq rfl) (hb hby at_52) (fun _ _ => ⟨rfl, e23, (by decide : 2 + 0 ≤ _), (by decide : 18 + 0 ≤ _)⟩)
    dsimp only [Pt.U, Pt.locs, Pt.cells, Pt.slots] at X24 l24 y24 z24 st24 hQ24
    subst l24 y24 z24
    obtain ⟨rfl, N24q, e24⟩ := hQ24
    have NF := Fr.app NF N24q
    refine own_go (fun _ k => st24.trans k) ?_
    show own_R _ _ _ _ (T24.setTop (mkF m 55 #[.val (.int q1), .val (.int q2), .val (.int q3), .val (.int p4), .val (.int (1 : Int32)), .val (.ref b19), .unset] [(.int (1 : Int32))]))
    refine own_go (fun _ k => XS.iload X24.here hx rfl (hb hby at_55) rfl k) ?_
    show own_R _ _ _ _ (T24.setTop (mkF m 57 #[.val (.int q1), .val (.int q2), .val (.int q3), .val (.int p4), .val (.int (1 : Int32)), .val (.ref b19), .unset] [(.int (1 : Int32)), (.int (1 : Int32))]))
    refine own_go (fun _ k => XS.icmpYes X24.here hx rfl (pc0 := 57) (pc' := 62) rfl (hb hby at_57) rfl (teq (by decide : (1 : Int32) = (1 : Int32))).1 (by decide) (by decide) k) ?_
    show own_R _ _ _ _ (T24.setTop (mkF m 62 #[.val (.int q1), .val (.int q2), .val (.int q3), .val (.int p4), .val (.int (1 : Int32)), .val (.ref b19), .unset] []))
    refine own_go (fun _ k => XS.iload X24.here hx rfl (hb hby at_62) rfl k) ?_
    show own_R _ _ _ _ (T24.setTop (mkF m 64 #[.val (.int q1), .val (.int q2), .val (.int q3), .val (.int p4), .val (.int (1 : Int32)), .val (.ref b19), .unset] [(.int (1 : Int32))]))
    refine own_go (fun _ k => XS.iconst X24.here hx rfl (hb hby at_64) k) ?_
    show own_R _ _ _ _ (T24.setTop (mkF m 65 #[.val (.int q1), .val (.int q2), .val (.int q3), .val (.int p4), .val (.int (1 : Int32)), .val (.ref b19), .unset] [(.int (1 : Int32)), (.int (1 : Int32))]))
    refine own_go (fun _ k => XS.icmpNo X24.here hx rfl (hb hby at_65) rfl (flt (by decide : ¬ ((1 : Int32) < (1 : Int32)))).1 k) ?_
    show own_R _ _ _ _ (T24.setTop (mkF m 68 #[.val (.int q1), .val (.int q2), .val (.int q3), .val (.int p4), .val (.int (1 : Int32)), .val (.ref b19), .unset] []))
    refine own_go (fun _ k => XS.aload X24.here hx rfl (hb hby at_68) rfl rfl k) ?_
    show own_R _ _ _ _ (T24.setTop (mkF m 70 #[.val (.int q1), .val (.int q2), .val (.int q3), .val (.int p4), .val (.int (1 : Int32)), .val (.ref b19), .unset] [(.ref b19)]))
    refine own_go (fun _ k => XS.iconst X24.here hx rfl (hb hby at_70) k) ?_
    show own_R _ _ _ _ (T24.setTop (mkF m 71 #[.val (.int q1), .val (.int q2), .val (.int q3), .val (.int p4), .val (.int (1 : Int32)), .val (.ref b19), .unset] [(.int (0 : Int32)), (.ref b19)]))
    obtain ⟨cq25, kq25, q25a, q25b, q25c⟩ := isOf hZ e24 E_b19
    obtain ⟨_, _, ⟨T25, L25, k25, n25⟩, -, X25, ⟨Lc25, hQ25, l25, y25, z25⟩, st25⟩ := X24.virtualBack hx (y := (⟨"com/example/austere_nets/austerenets/minimize/IntList", "get", "(I)I"⟩ : MethodName)) (z := (⟨"com/example/austere_nets/austerenets/minimize/IntList", "get", "(I)I"⟩ : MethodName)) hown (mvT hZ (hw _ (List.mem_of_getElem? (i := 24) rfl))) (mvT hZ (hw _ (List.mem_of_getElem? (i := 25) rfl))) (notFace_of_selects (args := #[]) (mvT hZ (hw _ (List.mem_of_getElem? (i := 27) rfl)))) (mvT hZ (hw _ (List.mem_of_getElem? (i := 27) rfl))) (mvT hZ (hw _ (List.mem_of_getElem? (i := 26) rfl))) (by decide) (backOf (W := 0) (rm5 l Z a0 hw [] b19 (0 : Int32) c21 kc21 0 q1 [(.int q1), (.int (0 : Int32)), (.int (0 : Int32)), (.int (0 : Int32)), (.int (0 : Int32)), (.int (0 : Int32)), (.int (0 : Int32)), (.int (0 : Int32)), (.int (0 : Int32)), (.int (0 : Int32)), (.int (0 : Int32)), (.int (0 : Int32)), (.int (0 : Int32)), (.int (0 : Int32)), (.int (0 : Int32)), (.int (0 : Int32))] h23 n0 ZS F_values_b19 V_c21 ⟨by decide, by decide⟩ rfl rfl) hZ (hw _ (List.mem_of_getElem? (i := 28) rfl)) (hw _ (List.mem_of_getElem? (i := 2) rfl)) (by decide) (by decide)) q25a q25c (g := (mkF m 71 #[.val (.int q1), .val (.int q2), .val (.int q3), .val (.int p4), .val (.int (1 : Int32)), .val (.ref b19), .unset] [(.int (0 : Int32)), (.ref b19)])) rfl (by rw [hml]; rfl) (Steps.refl _) (argsL := [(.int (0 : Int32))]) (rest := []) (lenOf pd_6 rfl) rfl (by show 2 * 0 + _ ≤ _; exact Nat.le_of_eq rfl) (hb hby at_71) (fun _ _ => ⟨rfl, e24, (by decide : 2 + 0 ≤ _), (by decide : 18 + 0 ≤ _)⟩)
    dsimp only [Pt.U, Pt.locs, Pt.cells, Pt.slots] at X25 l25 y25 z25 st25 hQ25
    subst l25 y25 z25
    obtain ⟨rfl, N25q, e25⟩ := hQ25
    have NF := Fr.app NF N25q
    refine own_go (fun _ k => st25.trans k) ?_
    show own_R _ _ _ _ (T25.setTop (mkF m 74 #[.val (.int q1), .val (.int q2), .val (.int q3), .val (.int p4), .val (.int (1 : Int32)), .val (.ref b19), .unset] [(.int q1)]))
    refine own_go (fun _ k => XS.iloadN X25.here hx rfl (hb hby at_74) rfl k) ?_
    show own_R _ _ _ _ (T25.setTop (mkF m 75 #[.val (.int q1), .val (.int q2), .val (.int q3), .val (.int p4), .val (.int (1 : Int32)), .val (.ref b19), .unset] [(.int q1), (.int q1)]))
    refine own_go (fun _ k => XS.icmpYes X25.here hx rfl (pc0 := 75) (pc' := 80) rfl (hb hby at_75) rfl (teq rfl).1 (by decide) (by decide) k) ?_
    show own_R _ _ _ _ (T25.setTop (mkF m 80 #[.val (.int q1), .val (.int q2), .val (.int q3), .val (.int p4), .val (.int (1 : Int32)), .val (.ref b19), .unset] []))
    refine own_go (fun _ k => XS.iload X25.here hx rfl (hb hby at_80) rfl k) ?_
    show own_R _ _ _ _ (T25.setTop (mkF m 82 #[.val (.int q1), .val (.int q2), .val (.int q3), .val (.int p4), .val (.int (1 : Int32)), .val (.ref b19), .unset] [(.int (1 : Int32))]))
    refine own_go (fun _ k => XS.iconst X25.here hx rfl (hb hby at_82) k) ?_
    show own_R _ _ _ _ (T25.setTop (mkF m 83 #[.val (.int q1), .val (.int q2), .val (.int q3), .val (.int p4), .val (.int (1 : Int32)), .val (.ref b19), .unset] [(.int (2 : Int32)), (.int (1 : Int32))]))
    refine own_go (fun _ k => XS.icmpYes X25.here hx rfl (pc0 := 83) (pc' := 98) rfl (hb hby at_83) rfl (tlt (by decide : (1 : Int32) < (2 : Int32))).1 (by decide) (by decide) k) ?_
    show own_R _ _ _ _ (T25.setTop (mkF m 98 #[.val (.int q1), .val (.int q2), .val (.int q3), .val (.int p4), .val (.int (1 : Int32)), .val (.ref b19), .unset] []))
    refine own_go (fun _ k => XS.iload X25.here hx rfl (hb hby at_98) rfl k) ?_
    show own_R _ _ _ _ (T25.setTop (mkF m 100 #[.val (.int q1), .val (.int q2), .val (.int q3), .val (.int p4), .val (.int (1 : Int32)), .val (.ref b19), .unset] [(.int (1 : Int32))]))
    refine own_go (fun _ k => XS.iconst X25.here hx rfl (hb hby at_100) k) ?_
    show own_R _ _ _ _ (T25.setTop (mkF m 101 #[.val (.int q1), .val (.int q2), .val (.int q3), .val (.int p4), .val (.int (1 : Int32)), .val (.ref b19), .unset] [(.int (3 : Int32)), (.int (1 : Int32))]))
    refine own_go (fun _ k => XS.icmpYes X25.here hx rfl (pc0 := 101) (pc' := 116) rfl (hb hby at_101) rfl (tlt (by decide : (1 : Int32) < (3 : Int32))).1 (by decide) (by decide) k) ?_
    show own_R _ _ _ _ (T25.setTop (mkF m 116 #[.val (.int q1), .val (.int q2), .val (.int q3), .val (.int p4), .val (.int (1 : Int32)), .val (.ref b19), .unset] []))
    refine own_go (fun _ k => XS.aload X25.here hx rfl (hb hby at_116) rfl rfl k) ?_
    show own_R _ _ _ _ (T25.setTop (mkF m 118 #[.val (.int q1), .val (.int q2), .val (.int q3), .val (.int p4), .val (.int (1 : Int32)), .val (.ref b19), .unset] [(.ref b19)]))
    obtain ⟨cq26, kq26, q26a, q26b, q26c⟩ := isOf hZ e25 E_b19
    obtain ⟨_, _, ⟨T26, L26, k26, n26⟩, -, X26, ⟨Lc26, hQ26, l26, y26, z26⟩, st26⟩ := X25.virtualBack hx (y := (⟨"com/example/austere_nets/austerenets/minimize/IntList", "toArray", "()[I"⟩ : MethodName)) (z := (⟨"com/example/austere_nets/austerenets/minimize/IntList", "toArray", "()[I"⟩ : MethodName)) hown (mvT hZ (hw _ (List.mem_of_getElem? (i := 29) rfl))) (mvT hZ (hw _ (List.mem_of_getElem? (i := 30) rfl))) (notFace_of_selects (args := #[]) (mvT hZ (hw _ (List.mem_of_getElem? (i := 32) rfl)))) (mvT hZ (hw _ (List.mem_of_getElem? (i := 32) rfl))) (mvT hZ (hw _ (List.mem_of_getElem? (i := 31) rfl))) (by decide) (backOf (W := 0) (rm6 l Z a0 hw [] b19 c21 kc21 (1 : Int32) [(.int q1), (.int (0 : Int32)), (.int (0 : Int32)), (.int (0 : Int32)), (.int (0 : Int32)), (.int (0 : Int32)), (.int (0 : Int32)), (.int (0 : Int32)), (.int (0 : Int32)), (.int (0 : Int32)), (.int (0 : Int32)), (.int (0 : Int32)), (.int (0 : Int32)), (.int (0 : Int32)), (.int (0 : Int32)), (.int (0 : Int32))] h23 n0 ZS F_values_b19 F_size_b19 V_c21 (by decide) (by decide) (by decide)) hZ (hw _ (List.mem_of_getElem? (i := 33) rfl)) (hw _ (List.mem_of_getElem? (i := 2) rfl)) (by decide) (by decide)) q26a q26c (g := (mkF m 118 #[.val (.int q1), .val (.int q2), .val (.int q3), .val (.int p4), .val (.int (1 : Int32)), .val (.ref b19), .unset] [(.ref b19)])) rfl (by rw [hml]; rfl) (Steps.refl _) (argsL := []) (rest := []) (lenOf pd_4 rfl) rfl (by show 2 * 0 + _ ≤ _; exact Nat.le_of_eq rfl) (hb hby at_118) (fun _ _ => ⟨rfl, e25, (by decide : 2 + 1 ≤ _), (by decide : 18 + 16 ≤ _)⟩)
    dsimp only [Pt.U, Pt.locs, Pt.cells, Pt.slots] at X26 l26 y26 z26 st26 hQ26
    subst l26 y26 z26
    obtain ⟨h26, e26'⟩ : ∃ z, z = T26.heap := ⟨_, rfl⟩
    rw [← e26'] at hQ26
    have e26 : T26.heap = h26 := e26'.symm
    obtain ⟨c27, rfl, N26q, K26, hbc27, kc27, Vc27'⟩ := hQ26
    have NF := Fr.app NF N26q
    refine own_go (fun _ k => st26.trans k) ?_
    have ne_b19_c27 : b19 ≠ c27 := Nat.ne_of_lt (Nat.lt_of_lt_of_le E_b19.lt hbc27)
    have ne_c21_c27 : c21 ≠ c27 := Nat.ne_of_lt (Nat.lt_of_lt_of_le V_c21.lt hbc27)
    have g_c27 : n0 ≤ c27 := Nat.le_trans ZS hbc27
    have sz_c27 : h0.size ≤ c27 := Nat.le_trans KP.1 hbc27
    have E_b19 := E_b19.keep K26
    have F_size_b19 := F_size_b19.keep K26 nin0
    have F_values_b19 := F_values_b19.keep K26 nin0
    have V_c21 := V_c21.keep K26 nin0
    have ZS := Nat.le_trans ZS K26.1
    have KP := KP.trans K26 all0
    have V_c27 : Arv Z h26 c27 kc27 .int (1 : Int32) [(.int q1)] (.int (0 : Int32)) := Vc27'
    show own_R _ _ _ _ (T26.setTop (mkF m 121 #[.val (.int q1), .val (.int q2), .val (.int q3), .val (.int p4), .val (.int (1 : Int32)), .val (.ref b19), .unset] [(.ref c27)]))
    refine own_go (fun _ k => XS.astore X26.here hx rfl (hb hby at_121) rfl rfl (l' := #[.val (.int q1), .val (.int q2), .val (.int q3), .val (.int p4), .val (.int (1 : Int32)), .val (.ref b19), .val (.ref c27)]) rfl k) ?_
    show own_R _ _ _ _ (T26.setTop (mkF m 123 #[.val (.int q1), .val (.int q2), .val (.int q3), .val (.int p4), .val (.int (1 : Int32)), .val (.ref b19), .val (.ref c27)] []))
    refine own_go (fun _ k => XS.aload X26.here hx rfl (hb hby at_123) rfl rfl k) ?_
    show own_R _ _ _ _ (T26.setTop (mkF m 125 #[.val (.int q1), .val (.int q2), .val (.int q3), .val (.int p4), .val (.int (1 : Int32)), .val (.ref b19), .val (.ref c27)] [(.ref c27)]))
    refine own_go (own_len X26 hx hZ e26 V_c27 (g := (mkF m 125 #[.val (.int q1), .val (.int q2), .val (.int q3), .val (.int p4), .val (.int (1 : Int32)), .val (.ref b19), .val (.ref c27)] [(.ref c27)])) rfl rfl (hb hby at_125)) ?_
    show own_R _ _ _ _ (T26.setTop (mkF m 126 #[.val (.int q1), .val (.int q2), .val (.int q3), .val (.int p4), .val (.int (1 : Int32)), .val (.ref b19), .val (.ref c27)] [(.int (1 : Int32))]))
    refine own_go (fun _ k => XS.iload X26.here hx rfl (hb hby at_126) rfl k) ?_
    show own_R _ _ _ _ (T26.setTop (mkF m 128 #[.val (.int q1), .val (.int q2), .val (.int q3), .val (.int p4), .val (.int (1 : Int32)), .val (.ref b19), .val (.ref c27)] [(.int (1 : Int32)), (.int (1 : Int32))]))
    refine own_go (fun _ k => XS.icmpYes X26.here hx rfl (pc0 := 128) (pc' := 133) rfl (hb hby at_128) rfl (teq (by decide : (1 : Int32) = (1 : Int32))).1 (by decide) (by decide) k) ?_
    show own_R _ _ _ _ (T26.setTop (mkF m 133 #[.val (.int q1), .val (.int q2), .val (.int q3), .val (.int p4), .val (.int (1 : Int32)), .val (.ref b19), .val (.ref c27)] []))
    refine own_go (fun _ k => XS.iload X26.here hx rfl (hb hby at_133) rfl k) ?_
    show own_R _ _ _ _ (T26.setTop (mkF m 135 #[.val (.int q1), .val (.int q2), .val (.int q3), .val (.int p4), .val (.int (1 : Int32)), .val (.ref b19), .val (.ref c27)] [(.int (1 : Int32))]))
    refine own_go (fun _ k => XS.iconst X26.here hx rfl (hb hby at_135) k) ?_
    show own_R _ _ _ _ (T26.setTop (mkF m 136 #[.val (.int q1), .val (.int q2), .val (.int q3), .val (.int p4), .val (.int (1 : Int32)), .val (.ref b19), .val (.ref c27)] [(.int (1 : Int32)), (.int (1 : Int32))]))
    refine own_go (fun _ k => XS.icmpNo X26.here hx rfl (hb hby at_136) rfl (flt (by decide : ¬ ((1 : Int32) < (1 : Int32)))).1 k) ?_
    show own_R _ _ _ _ (T26.setTop (mkF m 139 #[.val (.int q1), .val (.int q2), .val (.int q3), .val (.int p4), .val (.int (1 : Int32)), .val (.ref b19), .val (.ref c27)] []))
    refine own_go (fun _ k => XS.aload X26.here hx rfl (hb hby at_139) rfl rfl k) ?_
    show own_R _ _ _ _ (T26.setTop (mkF m 141 #[.val (.int q1), .val (.int q2), .val (.int q3), .val (.int p4), .val (.int (1 : Int32)), .val (.ref b19), .val (.ref c27)] [(.ref c27)]))
    refine own_go (fun _ k => XS.iconst X26.here hx rfl (hb hby at_141) k) ?_
    show own_R _ _ _ _ (T26.setTop (mkF m 142 #[.val (.int q1), .val (.int q2), .val (.int q3), .val (.int p4), .val (.int (1 : Int32)), .val (.ref b19), .val (.ref c27)] [(.int (0 : Int32)), (.ref c27)]))
    refine own_go (own_ldI X26 hx hZ e26 V_c27 (j := (0 : Int32)) (i := 0) ⟨by decide, by decide⟩ rfl (v := (.int q1)) rfl (g := (mkF m 142 #[.val (.int q1), .val (.int q2), .val (.int q3), .val (.int p4), .val (.int (1 : Int32)), .val (.ref b19), .val (.ref c27)] [(.int (0 : Int32)), (.ref c27)])) rfl rfl (hb hby at_142)) ?_
    show own_R _ _ _ _ (T26.setTop (mkF m 143 #[.val (.int q1), .val (.int q2), .val (.int q3), .val (.int p4), .val (.int (1 : Int32)), .val (.ref b19), .val (.ref c27)] [(.int q1)]))
    refine own_go (fun _ k => XS.iloadN X26.here hx rfl (hb hby at_143) rfl k) ?_
    show own_R _ _ _ _ (T26.setTop (mkF m 144 #[.val (.int q1), .val (.int q2), .val (.int q3), .val (.int p4), .val (.int (1 : Int32)), .val (.ref b19), .val (.ref c27)] [(.int q1), (.int q1)]))
    refine own_go (fun _ k => XS.icmpYes X26.here hx rfl (pc0 := 144) (pc' := 149) rfl (hb hby at_144) rfl (teq rfl).1 (by decide) (by decide) k) ?_
    show own_R _ _ _ _ (T26.setTop (mkF m 149 #[.val (.int q1), .val (.int q2), .val (.int q3), .val (.int p4), .val (.int (1 : Int32)), .val (.ref b19), .val (.ref c27)] []))
    refine own_go (fun _ k => XS.iload X26.here hx rfl (hb hby at_149) rfl k) ?_
    show own_R _ _ _ _ (T26.setTop (mkF m 151 #[.val (.int q1), .val (.int q2), .val (.int q3), .val (.int p4), .val (.int (1 : Int32)), .val (.ref b19), .val (.ref c27)] [(.int (1 : Int32))]))
    refine own_go (fun _ k => XS.iconst X26.here hx rfl (hb hby at_151) k) ?_
    show own_R _ _ _ _ (T26.setTop (mkF m 152 #[.val (.int q1), .val (.int q2), .val (.int q3), .val (.int p4), .val (.int (1 : Int32)), .val (.ref b19), .val (.ref c27)] [(.int (2 : Int32)), (.int (1 : Int32))]))
    refine own_go (fun _ k => XS.icmpYes X26.here hx rfl (pc0 := 152) (pc' := 165) rfl (hb hby at_152) rfl (tlt (by decide : (1 : Int32) < (2 : Int32))).1 (by decide) (by decide) k) ?_
    show own_R _ _ _ _ (T26.setTop (mkF m 165 #[.val (.int q1), .val (.int q2), .val (.int q3), .val (.int p4), .val (.int (1 : Int32)), .val (.ref b19), .val (.ref c27)] []))
    refine own_go (fun _ k => XS.iload X26.here hx rfl (hb hby at_165) rfl k) ?_
    show own_R _ _ _ _ (T26.setTop (mkF m 167 #[.val (.int q1), .val (.int q2), .val (.int q3), .val (.int p4), .val (.int (1 : Int32)), .val (.ref b19), .val (.ref c27)] [(.int (1 : Int32))]))
    refine own_go (fun _ k => XS.iconst X26.here hx rfl (hb hby at_167) k) ?_
    show own_R _ _ _ _ (T26.setTop (mkF m 168 #[.val (.int q1), .val (.int q2), .val (.int q3), .val (.int p4), .val (.int (1 : Int32)), .val (.ref b19), .val (.ref c27)] [(.int (3 : Int32)), (.int (1 : Int32))]))
    refine own_go (fun _ k => XS.icmpYes X26.here hx rfl (pc0 := 168) (pc' := 181) rfl (hb hby at_168) rfl (tlt (by decide : (1 : Int32) < (3 : Int32))).1 (by decide) (by decide) k) ?_
    show own_R _ _ _ _ (T26.setTop (mkF m 181 #[.val (.int q1), .val (.int q2), .val (.int q3), .val (.int p4), .val (.int (1 : Int32)), .val (.ref b19), .val (.ref c27)] []))
    refine own_go (fun _ k => XS.iconst X26.here hx rfl (hb hby at_181) k) ?_
    show own_R _ _ _ _ (T26.setTop (mkF m 182 #[.val (.int q1), .val (.int q2), .val (.int q3), .val (.int p4), .val (.int (1 : Int32)), .val (.ref b19), .val (.ref c27)] [(.int (1 : Int32))]))
    exact own_retN X26 hx (t := .boolean) (by simp) Bd.returns (hb hby at_182) hlk ⟨rfl, NF⟩ (by decide) (by decide)
  · show own_R _ _ _ _ (T20.setTop (mkF m 14 #[.val (.int q1), .val (.int q2), .val (.int q3), .val (.int p4), .val (.int (2 : Int32)), .val (.ref b19), .unset] []))
    refine own_go (fun _ k => XS.iload X20.here hx rfl (hb hby at_14) rfl k) ?_
    show own_R _ _ _ _ (T20.setTop (mkF m 16 #[.val (.int q1), .val (.int q2), .val (.int q3), .val (.int p4), .val (.int (2 : Int32)), .val (.ref b19), .unset] [(.int (2 : Int32))]))
    refine own_go (fun _ k => XS.iconst X20.here hx rfl (hb hby at_16) k) ?_
    show own_R _ _ _ _ (T20.setTop (mkF m 17 #[.val (.int q1), .val (.int q2), .val (.int q3), .val (.int p4), .val (.int (2 : Int32)), .val (.ref b19), .unset] [(.int (1 : Int32)), (.int (2 : Int32))]))
    refine own_go (fun _ k => XS.icmpNo X20.here hx rfl (hb hby at_17) rfl (flt (by decide : ¬ ((2 : Int32) < (1 : Int32)))).1 k) ?_
    show own_R _ _ _ _ (T20.setTop (mkF m 20 #[.val (.int q1), .val (.int q2), .val (.int q3), .val (.int p4), .val (.int (2 : Int32)), .val (.ref b19), .unset] []))
    refine own_go (fun _ k => XS.aload X20.here hx rfl (hb hby at_20) rfl rfl k) ?_
    show own_R _ _ _ _ (T20.setTop (mkF m 22 #[.val (.int q1), .val (.int q2), .val (.int q3), .val (.int p4), .val (.int (2 : Int32)), .val (.ref b19), .unset] [(.ref b19)]))
    refine own_go (fun _ k => XS.iloadN X20.here hx rfl (hb hby at_22) rfl k) ?_
    show own_R _ _ _ _ (T20.setTop (mkF m 23 #[.val (.int q1), .val (.int q2), .val (.int q3), .val (.int p4), .val (.int (2 : Int32)), .val (.ref b19), .unset] [(.int q1), (.ref b19)]))
    obtain ⟨cq27, kq27, q27a, q27b, q27c⟩ := isOf hZ e20 E_b19
    obtain ⟨_, _, ⟨T27, L27, k27, n27⟩, -, X27, ⟨Lc27, hQ27, l27, y27, z27⟩, st27⟩ := X20.virtualBack hx (y := (⟨"com/example/austere_nets/austerenets/minimize/IntList", "add", "(I)V"⟩ : MethodName)) (z := (⟨"com/example/austere_nets/austerenets/minimize/IntList", "add", "(I)V"⟩ : MethodName)) hown (mvT hZ (hw _ (List.mem_of_getElem? (i := 12) rfl))) (mvT hZ (hw _ (List.mem_of_getElem? (i := 13) rfl))) (notFace_of_selects (args := #[]) (mvT hZ (hw _ (List.mem_of_getElem? (i := 15) rfl)))) (mvT hZ (hw _ (List.mem_of_getElem? (i := 15) rfl))) (mvT hZ (hw _ (List.mem_of_getElem? (i := 14) rfl))) (by decide) (backOf (W := 0) (rm3 l Z a0 hw [] b19 q1 c21 kc21 (0 : Int32) 0 [(.int (0 : Int32)), (.int (0 : Int32)), (.int (0 : Int32)), (.int (0 : Int32)), (.int (0 : Int32)), (.int (0 : Int32)), (.int (0 : Int32)), (.int (0 : Int32)), (.int (0 : Int32)), (.int (0 : Int32)), (.int (0 : Int32)), (.int (0 : Int32)), (.int (0 : Int32)), (.int (0 : Int32)), (.int (0 : Int32)), (.int (0 : Int32))] h20 n0 ZS E_b19 F_values_b19 F_size_b19 g_b19 V_c21 g_c21 ne_b19_c21 ⟨by decide, by decide⟩ rfl (Nat.le_of_ble_eq_true rfl)) hZ (hw _ (List.mem_of_getElem? (i := 16) rfl)) (hw _ (List.mem_of_getElem? (i := 2) rfl)) (by decide) (by decide)) q27a q27c (g := (mkF m 23 #[.val (.int q1), .val (.int q2), .val (.int q3), .val (.int p4), .val (.int (2 : Int32)), .val (.ref b19), .unset] [(.int q1), (.ref b19)])) rfl (by rw [hml]; rfl) (Steps.refl _) (argsL := [(.int q1)]) (rest := []) (lenOf pd_5 rfl) rfl (by show 2 * 0 + _ ≤ _; exact Nat.le_of_eq rfl) (hb hby at_23) (fun _ _ => ⟨rfl, e20, (by decide : 2 + 0 ≤ _), (by decide : 18 + 0 ≤ _)⟩)
    dsimp only [Pt.U, Pt.locs, Pt.cells, Pt.slots] at X27 l27 y27 z27 st27 hQ27
    subst l27 y27 z27
    obtain ⟨h27, e27'⟩ : ∃ z, z = T27.heap := ⟨_, rfl⟩
    rw [← e27'] at hQ27
    have e27 : T27.heap = h27 := e27'.symm
    obtain ⟨rfl, N27q, K27, pp1, pp2, pp3⟩ := hQ27
    have NF := Fr.app NF N27q
    refine own_go (fun _ k => st27.trans k) ?_
    have E_b19 := E_b19.keep K27
    have ZS := Nat.le_trans ZS K27.1
    have KP := KP.trans K27 (allS (Or.inr sz_b19) (allS (Or.inr sz_c21) all0))
    have F_size_b19 := pp1
    have F_values_b19 := pp2
    have V_c21 : Arv Z h27 c21 kc21 .int (16 : Int32) [(.int q1), (.int (0 : Int32)), (.int (0 : Int32)), (.int (0 : Int32)), (.int (0 : Int32)), (.int (0 : Int32)), (.int (0 : Int32)), (.int (0 : Int32)), (.int (0 : Int32)), (.int (0 : Int32)), (.int (0 : Int32)), (.int (0 : Int32)), (.int (0 : Int32)), (.int (0 : Int32)), (.int (0 : Int32)), (.int (0 : Int32))] (.int (0 : Int32)) := pp3
    show own_R _ _ _ _ (T27.setTop (mkF m 26 #[.val (.int q1), .val (.int q2), .val (.int q3), .val (.int p4), .val (.int (2 : Int32)), .val (.ref b19), .unset] []))
    refine own_go (fun _ k => XS.iload X27.here hx rfl (hb hby at_26) rfl k) ?_
    show own_R _ _ _ _ (T27.setTop (mkF m 28 #[.val (.int q1), .val (.int q2), .val (.int q3), .val (.int p4), .val (.int (2 : Int32)), .val (.ref b19), .unset] [(.int (2 : Int32))]))
    refine own_go (fun _ k => XS.iconst X27.here hx rfl (hb hby at_28) k) ?_
    show own_R _ _ _ _ (T27.setTop (mkF m 29 #[.val (.int q1), .val (.int q2), .val (.int q3), .val (.int p4), .val (.int (2 : Int32)), .val (.ref b19), .unset] [(.int (2 : Int32)), (.int (2 : Int32))]))
    refine own_go (fun _ k => XS.icmpNo X27.here hx rfl (hb hby at_29) rfl (flt (by decide : ¬ ((2 : Int32) < (2 : Int32)))).1 k) ?_
    show own_R _ _ _ _ (T27.setTop (mkF m 32 #[.val (.int q1), .val (.int q2), .val (.int q3), .val (.int p4), .val (.int (2 : Int32)), .val (.ref b19), .unset] []))
    refine own_go (fun _ k => XS.aload X27.here hx rfl (hb hby at_32) rfl rfl k) ?_
    show own_R _ _ _ _ (T27.setTop (mkF m 34 #[.val (.int q1), .val (.int q2), .val (.int q3), .val (.int p4), .val (.int (2 : Int32)), .val (.ref b19), .unset] [(.ref b19)]))
    refine own_go (fun _ k => XS.iloadN X27.here hx rfl (hb hby at_34) rfl k) ?_
    show own_R _ _ _ _ (T27.setTop (mkF m 35 #[.val (.int q1), .val (.int q2), .val (.int q3), .val (.int p4), .val (.int (2 : Int32)), .val (.ref b19), .unset] [(.int q2), (.ref b19)]))
    obtain ⟨cq28, kq28, q28a, q28b, q28c⟩ := isOf hZ e27 E_b19
    obtain ⟨_, _, ⟨T28, L28, k28, n28⟩, -, X28, ⟨Lc28, hQ28, l28, y28, z28⟩, st28⟩ := X27.virtualBack hx (y := (⟨"com/example/austere_nets/austerenets/minimize/IntList", "add", "(I)V"⟩ : MethodName)) (z := (⟨"com/example/austere_nets/austerenets/minimize/IntList", "add", "(I)V"⟩ : MethodName)) hown (mvT hZ (hw _ (List.mem_of_getElem? (i := 12) rfl))) (mvT hZ (hw _ (List.mem_of_getElem? (i := 13) rfl))) (notFace_of_selects (args := #[]) (mvT hZ (hw _ (List.mem_of_getElem? (i := 15) rfl)))) (mvT hZ (hw _ (List.mem_of_getElem? (i := 15) rfl))) (mvT hZ (hw _ (List.mem_of_getElem? (i := 14) rfl))) (by decide) (backOf (W := 0) (rm3 l Z a0 hw [] b19 q2 c21 kc21 (1 : Int32) 1 [(.int q1), (.int (0 : Int32)), (.int (0 : Int32)), (.int (0 : Int32)), (.int (0 : Int32)), (.int (0 : Int32)), (.int (0 : Int32)), (.int (0 : Int32)), (.int (0 : Int32)), (.int (0 : Int32)), (.int (0 : Int32)), (.int (0 : Int32)), (.int (0 : Int32)), (.int (0 : Int32)), (.int (0 : Int32)), (.int (0 : Int32))] h27 n0 ZS E_b19 F_values_b19 F_size_b19 g_b19 V_c21 g_c21 ne_b19_c21 ⟨by decide, by decide⟩ rfl (Nat.le_of_ble_eq_true rfl)) hZ (hw _ (List.mem_of_getElem? (i := 16) rfl)) (hw _ (List.mem_of_getElem? (i := 2) rfl)) (by decide) (by decide)) q28a q28c (g := (mkF m 35 #[.val (.int q1), .val (.int q2), .val (.int q3), .val (.int p4), .val (.int (2 : Int32)), .val (.ref b19), .unset] [(.int q2), (.ref b19)])) rfl (by rw [hml]; rfl) (Steps.refl _) (argsL := [(.int q2)]) (rest := []) (lenOf pd_5 rfl) rfl (by show 2 * 0 + _ ≤ _; exact Nat.le_of_eq rfl) (hb hby at_35) (fun _ _ => ⟨rfl, e27, (by decide : 2 + 0 ≤ _), (by decide : 18 + 0 ≤ _)⟩)
    dsimp only [Pt.U, Pt.locs, Pt.cells, Pt.slots] at X28 l28 y28 z28 st28 hQ28
    subst l28 y28 z28
    obtain ⟨h28, e28'⟩ : ∃ z, z = T28.heap := ⟨_, rfl⟩
    rw [← e28'] at hQ28
    have e28 : T28.heap = h28 := e28'.symm
    obtain ⟨rfl, N28q, K28, pp1, pp2, pp3⟩ := hQ28
    have NF := Fr.app NF N28q
    refine own_go (fun _ k => st28.trans k) ?_
    have E_b19 := E_b19.keep K28
    have ZS := Nat.le_trans ZS K28.1
    have KP := KP.trans K28 (allS (Or.inr sz_b19) (allS (Or.inr sz_c21) all0))
    have F_size_b19 := pp1
    have F_values_b19 := pp2
    have V_c21 : Arv Z h28 c21 kc21 .int (16 : Int32) [(.int q1), (.int q2), (.int (0 : Int32)), (.int (0 : Int32)), (.int (0 : Int32)), (.int (0 : Int32)), (.int (0 : Int32)), (.int (0 : Int32)), (.int (0 : Int32)), (.int (0 : Int32)), (.int (0 : Int32)), (.int (0 : Int32)), (.int (0 : Int32)), (.int (0 : Int32)), (.int (0 : Int32)), (.int (0 : Int32))] (.int (0 : Int32)) := pp3
    show own_R _ _ _ _ (T28.setTop (mkF m 38 #[.val (.int q1), .val (.int q2), .val (.int q3), .val (.int p4), .val (.int (2 : Int32)), .val (.ref b19), .unset] []))
    refine own_go (fun _ k => XS.iload X28.here hx rfl (hb hby at_38) rfl k) ?_
    show own_R _ _ _ _ (T28.setTop (mkF m 40 #[.val (.int q1), .val (.int q2), .val (.int q3), .val (.int p4), .val (.int (2 : Int32)), .val (.ref b19), .unset] [(.int (2 : Int32))]))
    refine own_go (fun _ k => XS.iconst X28.here hx rfl (hb hby at_40) k) ?_
    show own_R _ _ _ _ (T28.setTop (mkF m 41 #[.val (.int q1), .val (.int q2), .val (.int q3), .val (.int p4), .val (.int (2 : Int32)), .val (.ref b19), .unset] [(.int (3 : Int32)), (.int (2 : Int32))]))
    refine own_go (fun _ k => XS.icmpYes X28.here hx rfl (pc0 := 41) (pc' := 50) rfl (hb hby at_41) rfl (tlt (by decide : (2 : Int32) < (3 : Int32))).1 (by decide) (by decide) k) ?_
    show own_R _ _ _ _ (T28.setTop (mkF m 50 #[.val (.int q1), .val (.int q2), .val (.int q3), .val (.int p4), .val (.int (2 : Int32)), .val (.ref b19), .unset] []))
    refine own_go (fun _ k => XS.aload X28.here hx rfl (hb hby at_50) rfl rfl k) ?_
    show own_R _ _ _ _ (T28.setTop (mkF m 52 #[.val (.int q1), .val (.int q2), .val (.int q3), .val (.int p4), .val (.int (2 : Int32)), .val (.ref b19), .unset] [(.ref b19)]))
    obtain ⟨cq29, kq29, q29a, q29b, q29c⟩ := isOf hZ e28 E_b19
    obtain ⟨_, _, ⟨T29, L29, k29, n29⟩, -, X29, ⟨Lc29, hQ29, l29, y29, z29⟩, st29⟩ := X28.virtualBack hx (y := (⟨"com/example/austere_nets/austerenets/minimize/IntList", "size", "()I"⟩ : MethodName)) (z := (⟨"com/example/austere_nets/austerenets/minimize/IntList", "size", "()I"⟩ : MethodName)) hown (mvT hZ (hw _ (List.mem_of_getElem? (i := 19) rfl))) (mvT hZ (hw _ (List.mem_of_getElem? (i := 20) rfl))) (notFace_of_selects (args := #[]) (mvT hZ (hw _ (List.mem_of_getElem? (i := 22) rfl)))) (mvT hZ (hw _ (List.mem_of_getElem? (i := 22) rfl))) (mvT hZ (hw _ (List.mem_of_getElem? (i := 21) rfl))) (by decide) (backOf (W := 0) (rm4 l Z a0 hw [] b19 (2 : Int32) h28 n0 ZS F_size_b19) hZ (hw _ (List.mem_of_getElem? (i := 23) rfl)) (hw _ (List.mem_of_getElem? (i := 2) rfl)) (by decide) (by decide)) q29a q29c (g := (mkF m 52 #[.val (.int q1), .val (.int q2), .val (.int q3), .val (.int p4), .val (.int (2 : Int32)), .val (.ref b19), .unset] [(.ref b19)])) rfl (by rw [hml]; rfl) (Steps.refl _) (argsL := []) (rest := []) (lenOf pd_3 rfl) rfl (by show 2 * 0 + _ ≤ _; exact Nat.le_of_eq rfl) (hb hby at_52) (fun _ _ => ⟨rfl, e28, (by decide : 2 + 0 ≤ _), (by decide : 18 + 0 ≤ _)⟩)
    dsimp only [Pt.U, Pt.locs, Pt.cells, Pt.slots] at X29 l29 y29 z29 st29 hQ29
    subst l29 y29 z29
    obtain ⟨rfl, N29q, e29⟩ := hQ29
    have NF := Fr.app NF N29q
    refine own_go (fun _ k => st29.trans k) ?_
    show own_R _ _ _ _ (T29.setTop (mkF m 55 #[.val (.int q1), .val (.int q2), .val (.int q3), .val (.int p4), .val (.int (2 : Int32)), .val (.ref b19), .unset] [(.int (2 : Int32))]))
    refine own_go (fun _ k => XS.iload X29.here hx rfl (hb hby at_55) rfl k) ?_
    show own_R _ _ _ _ (T29.setTop (mkF m 57 #[.val (.int q1), .val (.int q2), .val (.int q3), .val (.int p4), .val (.int (2 : Int32)), .val (.ref b19), .unset] [(.int (2 : Int32)), (.int (2 : Int32))]))
    refine own_go (fun _ k => XS.icmpYes X29.here hx rfl (pc0 := 57) (pc' := 62) rfl (hb hby at_57) rfl (teq (by decide : (2 : Int32) = (2 : Int32))).1 (by decide) (by decide) k) ?_
    show own_R _ _ _ _ (T29.setTop (mkF m 62 #[.val (.int q1), .val (.int q2), .val (.int q3), .val (.int p4), .val (.int (2 : Int32)), .val (.ref b19), .unset] []))
    refine own_go (fun _ k => XS.iload X29.here hx rfl (hb hby at_62) rfl k) ?_
    show own_R _ _ _ _ (T29.setTop (mkF m 64 #[.val (.int q1), .val (.int q2), .val (.int q3), .val (.int p4), .val (.int (2 : Int32)), .val (.ref b19), .unset] [(.int (2 : Int32))]))
    refine own_go (fun _ k => XS.iconst X29.here hx rfl (hb hby at_64) k) ?_
    show own_R _ _ _ _ (T29.setTop (mkF m 65 #[.val (.int q1), .val (.int q2), .val (.int q3), .val (.int p4), .val (.int (2 : Int32)), .val (.ref b19), .unset] [(.int (1 : Int32)), (.int (2 : Int32))]))
    refine own_go (fun _ k => XS.icmpNo X29.here hx rfl (hb hby at_65) rfl (flt (by decide : ¬ ((2 : Int32) < (1 : Int32)))).1 k) ?_
    show own_R _ _ _ _ (T29.setTop (mkF m 68 #[.val (.int q1), .val (.int q2), .val (.int q3), .val (.int p4), .val (.int (2 : Int32)), .val (.ref b19), .unset] []))
    refine own_go (fun _ k => XS.aload X29.here hx rfl (hb hby at_68) rfl rfl k) ?_
    show own_R _ _ _ _ (T29.setTop (mkF m 70 #[.val (.int q1), .val (.int q2), .val (.int q3), .val (.int p4), .val (.int (2 : Int32)), .val (.ref b19), .unset] [(.ref b19)]))
    refine own_go (fun _ k => XS.iconst X29.here hx rfl (hb hby at_70) k) ?_
    show own_R _ _ _ _ (T29.setTop (mkF m 71 #[.val (.int q1), .val (.int q2), .val (.int q3), .val (.int p4), .val (.int (2 : Int32)), .val (.ref b19), .unset] [(.int (0 : Int32)), (.ref b19)]))
    obtain ⟨cq30, kq30, q30a, q30b, q30c⟩ := isOf hZ e29 E_b19
    obtain ⟨_, _, ⟨T30, L30, k30, n30⟩, -, X30, ⟨Lc30, hQ30, l30, y30, z30⟩, st30⟩ := X29.virtualBack hx (y := (⟨"com/example/austere_nets/austerenets/minimize/IntList", "get", "(I)I"⟩ : MethodName)) (z := (⟨"com/example/austere_nets/austerenets/minimize/IntList", "get", "(I)I"⟩ : MethodName)) hown (mvT hZ (hw _ (List.mem_of_getElem? (i := 24) rfl))) (mvT hZ (hw _ (List.mem_of_getElem? (i := 25) rfl))) (notFace_of_selects (args := #[]) (mvT hZ (hw _ (List.mem_of_getElem? (i := 27) rfl)))) (mvT hZ (hw _ (List.mem_of_getElem? (i := 27) rfl))) (mvT hZ (hw _ (List.mem_of_getElem? (i := 26) rfl))) (by decide) (backOf (W := 0) (rm5 l Z a0 hw [] b19 (0 : Int32) c21 kc21 0 q1 [(.int q1), (.int q2), (.int (0 : Int32)), (.int (0 : Int32)), (.int (0 : Int32)), (.int (0 : Int32)), (.int (0 : Int32)), (.int (0 : Int32)), (.int (0 : Int32)), (.int (0 : Int32)), (.int (0 : Int32)), (.int (0 : Int32)), (.int (0 : Int32)), (.int (0 : Int32)), (.int (0 : Int32)), (.int (0 : Int32))] h28 n0 ZS F_values_b19 V_c21 ⟨by decide, by decide⟩ rfl rfl) hZ (hw _ (List.mem_of_getElem? (i := 28) rfl)) (hw _ (List.mem_of_getElem? (i := 2) rfl)) (by decide) (by decide)) q30a q30c (g := (mkF m 71 #[.val (.int q1), .val (.int q2), .val (.int q3), .val (.int p4), .val (.int (2 : Int32)), .val (.ref b19), .unset] [(.int (0 : Int32)), (.ref b19)])) rfl (by rw [hml]; rfl) (Steps.refl _) (argsL := [(.int (0 : Int32))]) (rest := []) (lenOf pd_6 rfl) rfl (by show 2 * 0 + _ ≤ _; exact Nat.le_of_eq rfl) (hb hby at_71) (fun _ _ => ⟨rfl, e29, (by decide : 2 + 0 ≤ _), (by decide : 18 + 0 ≤ _)⟩)
    dsimp only [Pt.U, Pt.locs, Pt.cells, Pt.slots] at X30 l30 y30 z30 st30 hQ30
    subst l30 y30 z30
    obtain ⟨rfl, N30q, e30⟩ := hQ30
    have NF := Fr.app NF N30q
    refine own_go (fun _ k => st30.trans k) ?_
    show own_R _ _ _ _ (T30.setTop (mkF m 74 #[.val (.int q1), .val (.int q2), .val (.int q3), .val (.int p4), .val (.int (2 : Int32)), .val (.ref b19), .unset] [(.int q1)]))
    refine own_go (fun _ k => XS.iloadN X30.here hx rfl (hb hby at_74) rfl k) ?_
    show own_R _ _ _ _ (T30.setTop (mkF m 75 #[.val (.int q1), .val (.int q2), .val (.int q3), .val (.int p4), .val (.int (2 : Int32)), .val (.ref b19), .unset] [(.int q1), (.int q1)]))
    refine own_go (fun _ k => XS.icmpYes X30.here hx rfl (pc0 := 75) (pc' := 80) rfl (hb hby at_75) rfl (teq rfl).1 (by decide) (by decide) k) ?_
    show own_R _ _ _ _ (T30.setTop (mkF m 80 #[.val (.int q1), .val (.int q2), .val (.int q3), .val (.int p4), .val (.int (2 : Int32)), .val (.ref b19), .unset] []))
    refine own_go (fun _ k => XS.iload X30.here hx rfl (hb hby at_80) rfl k) ?_
    show own_R _ _ _ _ (T30.setTop (mkF m 82 #[.val (.int q1), .val (.int q2), .val (.int q3), .val (.int p4), .val (.int (2 : Int32)), .val (.ref b19), .unset] [(.int (2 : Int32))]))
    refine own_go (fun _ k => XS.iconst X30.here hx rfl (hb hby at_82) k) ?_
    show own_R _ _ _ _ (T30.setTop (mkF m 83 #[.val (.int q1), .val (.int q2), .val (.int q3), .val (.int p4), .val (.int (2 : Int32)), .val (.ref b19), .unset] [(.int (2 : Int32)), (.int (2 : Int32))]))
    refine own_go (fun _ k => XS.icmpNo X30.here hx rfl (hb hby at_83) rfl (flt (by decide : ¬ ((2 : Int32) < (2 : Int32)))).1 k) ?_
    show own_R _ _ _ _ (T30.setTop (mkF m 86 #[.val (.int q1), .val (.int q2), .val (.int q3), .val (.int p4), .val (.int (2 : Int32)), .val (.ref b19), .unset] []))
    refine own_go (fun _ k => XS.aload X30.here hx rfl (hb hby at_86) rfl rfl k) ?_
    show own_R _ _ _ _ (T30.setTop (mkF m 88 #[.val (.int q1), .val (.int q2), .val (.int q3), .val (.int p4), .val (.int (2 : Int32)), .val (.ref b19), .unset] [(.ref b19)]))
    refine own_go (fun _ k => XS.iconst X30.here hx rfl (hb hby at_88) k) ?_
    show own_R _ _ _ _ (T30.setTop (mkF m 89 #[.val (.int q1), .val (.int q2), .val (.int q3), .val (.int p4), .val (.int (2 : Int32)), .val (.ref b19), .unset] [(.int (1 : Int32)), (.ref b19)]))
    obtain ⟨cq31, kq31, q31a, q31b, q31c⟩ := isOf hZ e30 E_b19
    obtain ⟨_, _, ⟨T31, L31, k31, n31⟩, -, X31, ⟨Lc31, hQ31, l31, y31, z31⟩, st31⟩ := X30.virtualBack hx (y := (⟨"com/example/austere_nets/austerenets/minimize/IntList", "get", "(I)I"⟩ : MethodName)) (z := (⟨"com/example/austere_nets/austerenets/minimize/IntList", "get", "(I)I"⟩ : MethodName)) hown (mvT hZ (hw _ (List.mem_of_getElem? (i := 24) rfl))) (mvT hZ (hw _ (List.mem_of_getElem? (i := 25) rfl))) (notFace_of_selects (args := #[]) (mvT hZ (hw _ (List.mem_of_getElem? (i := 27) rfl)))) (mvT hZ (hw _ (List.mem_of_getElem? (i := 27) rfl))) (mvT hZ (hw _ (List.mem_of_getElem? (i := 26) rfl))) (by decide) (backOf (W := 0) (rm5 l Z a0 hw [] b19 (1 : Int32) c21 kc21 1 q2 [(.int q1), (.int q2), (.int (0 : Int32)), (.int (0 : Int32)), (.int (0 : Int32)), (.int (0 : Int32)), (.int (0 : Int32)), (.int (0 : Int32)), (.int (0 : Int32)), (.int (0 : Int32)), (.int (0 : Int32)), (.int (0 : Int32)), (.int (0 : Int32)), (.int (0 : Int32)), (.int (0 : Int32)), (.int (0 : Int32))] h28 n0 ZS F_values_b19 V_c21 ⟨by decide, by decide⟩ rfl rfl) hZ (hw _ (List.mem_of_getElem? (i := 28) rfl)) (hw _ (List.mem_of_getElem? (i := 2) rfl)) (by decide) (by decide)) q31a q31c (g := (mkF m 89 #[.val (.int q1), .val (.int q2), .val (.int q3), .val (.int p4), .val (.int (2 : Int32)), .val (.ref b19), .unset] [(.int (1 : Int32)), (.ref b19)])) rfl (by rw [hml]; rfl) (Steps.refl _) (argsL := [(.int (1 : Int32))]) (rest := []) (lenOf pd_6 rfl) rfl (by show 2 * 0 + _ ≤ _; exact Nat.le_of_eq rfl) (hb hby at_89) (fun _ _ => ⟨rfl, e30, (by decide : 2 + 0 ≤ _), (by decide : 18 + 0 ≤ _)⟩)
    dsimp only [Pt.U, Pt.locs, Pt.cells, Pt.slots] at X31 l31 y31 z31 st31 hQ31
    subst l31 y31 z31
    obtain ⟨rfl, N31q, e31⟩ := hQ31
    have NF := Fr.app NF N31q
    refine own_go (fun _ k => st31.trans k) ?_
    show own_R _ _ _ _ (T31.setTop (mkF m 92 #[.val (.int q1), .val (.int q2), .val (.int q3), .val (.int p4), .val (.int (2 : Int32)), .val (.ref b19), .unset] [(.int q2)]))
    refine own_go (fun _ k => XS.iloadN X31.here hx rfl (hb hby at_92) rfl k) ?_
    show own_R _ _ _ _ (T31.setTop (mkF m 93 #[.val (.int q1), .val (.int q2), .val (.int q3), .val (.int p4), .val (.int (2 : Int32)), .val (.ref b19), .unset] [(.int q2), (.int q2)]))
    refine own_go (fun _ k => XS.icmpYes X31.here hx rfl (pc0 := 93) (pc' := 98) rfl (hb hby at_93) rfl (teq rfl).1 (by decide) (by decide) k) ?_
    show own_R _ _ _ _ (T31.setTop (mkF m 98 #[.val (.int q1), .val (.int q2), .val (.int q3), .val (.int p4), .val (.int (2 : Int32)), .val (.ref b19), .unset] []))
    refine own_go (fun _ k => XS.iload X31.here hx rfl (hb hby at_98) rfl k) ?_
    show own_R _ _ _ _ (T31.setTop (mkF m 100 #[.val (.int q1), .val (.int q2), .val (.int q3), .val (.int p4), .val (.int (2 : Int32)), .val (.ref b19), .unset] [(.int (2 : Int32))]))
    refine own_go (fun _ k => XS.iconst X31.here hx rfl (hb hby at_100) k) ?_
    show own_R _ _ _ _ (T31.setTop (mkF m 101 #[.val (.int q1), .val (.int q2), .val (.int q3), .val (.int p4), .val (.int (2 : Int32)), .val (.ref b19), .unset] [(.int (3 : Int32)), (.int (2 : Int32))]))
    refine own_go (fun _ k => XS.icmpYes X31.here hx rfl (pc0 := 101) (pc' := 116) rfl (hb hby at_101) rfl (tlt (by decide : (2 : Int32) < (3 : Int32))).1 (by decide) (by decide) k) ?_
    show own_R _ _ _ _ (T31.setTop (mkF m 116 #[.val (.int q1), .val (.int q2), .val (.int q3), .val (.int p4), .val (.int (2 : Int32)), .val (.ref b19), .unset] []))
    refine own_go (fun _ k => XS.aload X31.here hx rfl (hb hby at_116) rfl rfl k) ?_
    show own_R _ _ _ _ (T31.setTop (mkF m 118 #[.val (.int q1), .val (.int q2), .val (.int q3), .val (.int p4), .val (.int (2 : Int32)), .val (.ref b19), .unset] [(.ref b19)]))
    obtain ⟨cq32, kq32, q32a, q32b, q32c⟩ := isOf hZ e31 E_b19
    obtain ⟨_, _, ⟨T32, L32, k32, n32⟩, -, X32, ⟨Lc32, hQ32, l32, y32, z32⟩, st32⟩ := X31.virtualBack hx (y := (⟨"com/example/austere_nets/austerenets/minimize/IntList", "toArray", "()[I"⟩ : MethodName)) (z := (⟨"com/example/austere_nets/austerenets/minimize/IntList", "toArray", "()[I"⟩ : MethodName)) hown (mvT hZ (hw _ (List.mem_of_getElem? (i := 29) rfl))) (mvT hZ (hw _ (List.mem_of_getElem? (i := 30) rfl))) (notFace_of_selects (args := #[]) (mvT hZ (hw _ (List.mem_of_getElem? (i := 32) rfl)))) (mvT hZ (hw _ (List.mem_of_getElem? (i := 32) rfl))) (mvT hZ (hw _ (List.mem_of_getElem? (i := 31) rfl))) (by decide) (backOf (W := 0) (rm6 l Z a0 hw [] b19 c21 kc21 (2 : Int32) [(.int q1), (.int q2), (.int (0 : Int32)), (.int (0 : Int32)), (.int (0 : Int32)), (.int (0 : Int32)), (.int (0 : Int32)), (.int (0 : Int32)), (.int (0 : Int32)), (.int (0 : Int32)), (.int (0 : Int32)), (.int (0 : Int32)), (.int (0 : Int32)), (.int (0 : Int32)), (.int (0 : Int32)), (.int (0 : Int32))] h28 n0 ZS F_values_b19 F_size_b19 V_c21 (by decide) (by decide) (by decide)) hZ (hw _ (List.mem_of_getElem? (i := 33) rfl)) (hw _ (List.mem_of_getElem? (i := 2) rfl)) (by decide) (by decide)) q32a q32c (g := (mkF m 118 #[.val (.int q1), .val (.int q2), .val (.int q3), .val (.int p4), .val (.int (2 : Int32)), .val (.ref b19), .unset] [(.ref b19)])) rfl (by rw [hml]; rfl) (Steps.refl _) (argsL := []) (rest := []) (lenOf pd_4 rfl) rfl (by show 2 * 0 + _ ≤ _; exact Nat.le_of_eq rfl) (hb hby at_118) (fun _ _ => ⟨rfl, e31, (by decide : 2 + 1 ≤ _), (by decide : 18 + 16 ≤ _)⟩)
    dsimp only [Pt.U, Pt.locs, Pt.cells, Pt.slots] at X32 l32 y32 z32 st32 hQ32
    subst l32 y32 z32
    obtain ⟨h32, e32'⟩ : ∃ z, z = T32.heap := ⟨_, rfl⟩
    rw [← e32'] at hQ32
    have e32 : T32.heap = h32 := e32'.symm
    obtain ⟨c33, rfl, N32q, K32, hbc33, kc33, Vc33'⟩ := hQ32
    have NF := Fr.app NF N32q
    refine own_go (fun _ k => st32.trans k) ?_
    have ne_b19_c33 : b19 ≠ c33 := Nat.ne_of_lt (Nat.lt_of_lt_of_le E_b19.lt hbc33)
    have ne_c21_c33 : c21 ≠ c33 := Nat.ne_of_lt (Nat.lt_of_lt_of_le V_c21.lt hbc33)
    have g_c33 : n0 ≤ c33 := Nat.le_trans ZS hbc33
    have sz_c33 : h0.size ≤ c33 := Nat.le_trans KP.1 hbc33
    have E_b19 := E_b19.keep K32
    have F_size_b19 := F_size_b19.keep K32 nin0
    have F_values_b19 := F_values_b19.keep K32 nin0
    have V_c21 := V_c21.keep K32 nin0
    have ZS := Nat.le_trans ZS K32.1
    have KP := KP.trans K32 all0
    have V_c33 : Arv Z h32 c33 kc33 .int (2 : Int32) [(.int q1), (.int q2)] (.int (0 : Int32)) := Vc33'
    show own_R _ _ _ _ (T32.setTop (mkF m 121 #[.val (.int q1), .val (.int q2), .val (.int q3), .val (.int p4), .val (.int (2 : Int32)), .val (.ref b19), .unset] [(.ref c33)]))
    refine own_go (fun _ k => XS.astore X32.here hx rfl (hb hby at_121) rfl rfl (l' := #[.val (.int q1), .val (.int q2), .val (.int q3), .val (.int p4), .val (.int (2 : Int32)), .val (.ref b19), .val (.ref c33)]) rfl k) ?_
    show own_R _ _ _ _ (T32.setTop (mkF m 123 #[.val (.int q1), .val (.int q2), .val (.int q3), .val (.int p4), .val (.int (2 : Int32)), .val (.ref b19), .val (.ref c33)] []))
    refine own_go (fun _ k => XS.aload X32.here hx rfl (hb hby at_123) rfl rfl k) ?_
    show own_R _ _ _ _ (T32.setTop (mkF m 125 #[.val (.int q1), .val (.int q2), .val (.int q3), .val (.int p4), .val (.int (2 : Int32)), .val (.ref b19), .val (.ref c33)] [(.ref c33)]))
    refine own_go (own_len X32 hx hZ e32 V_c33 (g := (mkF m 125 #[.val (.int q1), .val (.int q2), .val (.int q3), .val (.int p4), .val (.int (2 : Int32)), .val (.ref b19), .val (.ref c33)] [(.ref c33)])) rfl rfl (hb hby at_125)) ?_
    show own_R _ _ _ _ (T32.setTop (mkF m 126 #[.val (.int q1), .val (.int q2), .val (.int q3), .val (.int p4), .val (.int (2 : Int32)), .val (.ref b19), .val (.ref c33)] [(.int (2 : Int32))]))
    refine own_go (fun _ k => XS.iload X32.here hx rfl (hb hby at_126) rfl k) ?_
    show own_R _ _ _ _ (T32.setTop (mkF m 128 #[.val (.int q1), .val (.int q2), .val (.int q3), .val (.int p4), .val (.int (2 : Int32)), .val (.ref b19), .val (.ref c33)] [(.int (2 : Int32)), (.int (2 : Int32))]))
    refine own_go (fun _ k => XS.icmpYes X32.here hx rfl (pc0 := 128) (pc' := 133) rfl (hb hby at_128) rfl (teq (by decide : (2 : Int32) = (2 : Int32))).1 (by decide) (by decide) k) ?_
    show own_R _ _ _ _ (T32.setTop (mkF m 133 #[.val (.int q1), .val (.int q2), .val (.int q3), .val (.int p4), .val (.int (2 : Int32)), .val (.ref b19), .val (.ref c33)] []))
    refine own_go (fun _ k => XS.iload X32.here hx rfl (hb hby at_133) rfl k) ?_
    show own_R _ _ _ _ (T32.setTop (mkF m 135 #[.val (.int q1), .val (.int q2), .val (.int q3), .val (.int p4), .val (.int (2 : Int32)), .val (.ref b19), .val (.ref c33)] [(.int (2 : Int32))]))
    refine own_go (fun _ k => XS.iconst X32.here hx rfl (hb hby at_135) k) ?_
    show own_R _ _ _ _ (T32.setTop (mkF m 136 #[.val (.int q1), .val (.int q2), .val (.int q3), .val (.int p4), .val (.int (2 : Int32)), .val (.ref b19), .val (.ref c33)] [(.int (1 : Int32)), (.int (2 : Int32))]))
    refine own_go (fun _ k => XS.icmpNo X32.here hx rfl (hb hby at_136) rfl (flt (by decide : ¬ ((2 : Int32) < (1 : Int32)))).1 k) ?_
    show own_R _ _ _ _ (T32.setTop (mkF m 139 #[.val (.int q1), .val (.int q2), .val (.int q3), .val (.int p4), .val (.int (2 : Int32)), .val (.ref b19), .val (.ref c33)] []))
    refine own_go (fun _ k => XS.aload X32.here hx rfl (hb hby at_139) rfl rfl k) ?_
    show own_R _ _ _ _ (T32.setTop (mkF m 141 #[.val (.int q1), .val (.int q2), .val (.int q3), .val (.int p4), .val (.int (2 : Int32)), .val (.ref b19), .val (.ref c33)] [(.ref c33)]))
    refine own_go (fun _ k => XS.iconst X32.here hx rfl (hb hby at_141) k) ?_
    show own_R _ _ _ _ (T32.setTop (mkF m 142 #[.val (.int q1), .val (.int q2), .val (.int q3), .val (.int p4), .val (.int (2 : Int32)), .val (.ref b19), .val (.ref c33)] [(.int (0 : Int32)), (.ref c33)]))
    refine own_go (own_ldI X32 hx hZ e32 V_c33 (j := (0 : Int32)) (i := 0) ⟨by decide, by decide⟩ rfl (v := (.int q1)) rfl (g := (mkF m 142 #[.val (.int q1), .val (.int q2), .val (.int q3), .val (.int p4), .val (.int (2 : Int32)), .val (.ref b19), .val (.ref c33)] [(.int (0 : Int32)), (.ref c33)])) rfl rfl (hb hby at_142)) ?_
    show own_R _ _ _ _ (T32.setTop (mkF m 143 #[.val (.int q1), .val (.int q2), .val (.int q3), .val (.int p4), .val (.int (2 : Int32)), .val (.ref b19), .val (.ref c33)] [(.int q1)]))
    refine own_go (fun _ k => XS.iloadN X32.here hx rfl (hb hby at_143) rfl k) ?_
    show own_R _ _ _ _ (T32.setTop (mkF m 144 #[.val (.int q1), .val (.int q2), .val (.int q3), .val (.int p4), .val (.int (2 : Int32)), .val (.ref b19), .val (.ref c33)] [(.int q1), (.int q1)]))
    refine own_go (fun _ k => XS.icmpYes X32.here hx rfl (pc0 := 144) (pc' := 149) rfl (hb hby at_144) rfl (teq rfl).1 (by decide) (by decide) k) ?_
    show own_R _ _ _ _ (T32.setTop (mkF m 149 #[.val (.int q1), .val (.int q2), .val (.int q3), .val (.int p4), .val (.int (2 : Int32)), .val (.ref b19), .val (.ref c33)] []))
    refine own_go (fun _ k => XS.iload X32.here hx rfl (hb hby at_149) rfl k) ?_
    show own_R _ _ _ _ (T32.setTop (mkF m 151 #[.val (.int q1), .val (.int q2), .val (.int q3), .val (.int p4), .val (.int (2 : Int32)), .val (.ref b19), .val (.ref c33)] [(.int (2 : Int32))]))
    refine own_go (fun _ k => XS.iconst X32.here hx rfl (hb hby at_151) k) ?_
    show own_R _ _ _ _ (T32.setTop (mkF m 152 #[.val (.int q1), .val (.int q2), .val (.int q3), .val (.int p4), .val (.int (2 : Int32)), .val (.ref b19), .val (.ref c33)] [(.int (2 : Int32)), (.int (2 : Int32))]))
    refine own_go (fun _ k => XS.icmpNo X32.here hx rfl (hb hby at_152) rfl (flt (by decide : ¬ ((2 : Int32) < (2 : Int32)))).1 k) ?_
    show own_R _ _ _ _ (T32.setTop (mkF m 155 #[.val (.int q1), .val (.int q2), .val (.int q3), .val (.int p4), .val (.int (2 : Int32)), .val (.ref b19), .val (.ref c33)] []))
    refine own_go (fun _ k => XS.aload X32.here hx rfl (hb hby at_155) rfl rfl k) ?_
    show own_R _ _ _ _ (T32.setTop (mkF m 157 #[.val (.int q1), .val (.int q2), .val (.int q3), .val (.int p4), .val (.int (2 : Int32)), .val (.ref b19), .val (.ref c33)] [(.ref c33)]))
    refine own_go (fun _ k => XS.iconst X32.here hx rfl (hb hby at_157) k) ?_
    show own_R _ _ _ _ (T32.setTop (mkF m 158 #[.val (.int q1), .val (.int q2), .val (.int q3), .val (.int p4), .val (.int (2 : Int32)), .val (.ref b19), .val (.ref c33)] [(.int (1 : Int32)), (.ref c33)]))
    refine own_go (own_ldI X32 hx hZ e32 V_c33 (j := (1 : Int32)) (i := 1) ⟨by decide, by decide⟩ rfl (v := (.int q2)) rfl (g := (mkF m 158 #[.val (.int q1), .val (.int q2), .val (.int q3), .val (.int p4), .val (.int (2 : Int32)), .val (.ref b19), .val (.ref c33)] [(.int (1 : Int32)), (.ref c33)])) rfl rfl (hb hby at_158)) ?_
    show own_R _ _ _ _ (T32.setTop (mkF m 159 #[.val (.int q1), .val (.int q2), .val (.int q3), .val (.int p4), .val (.int (2 : Int32)), .val (.ref b19), .val (.ref c33)] [(.int q2)]))
    refine own_go (fun _ k => XS.iloadN X32.here hx rfl (hb hby at_159) rfl k) ?_
    show own_R _ _ _ _ (T32.setTop (mkF m 160 #[.val (.int q1), .val (.int q2), .val (.int q3), .val (.int p4), .val (.int (2 : Int32)), .val (.ref b19), .val (.ref c33)] [(.int q2), (.int q2)]))
    refine own_go (fun _ k => XS.icmpYes X32.here hx rfl (pc0 := 160) (pc' := 165) rfl (hb hby at_160) rfl (teq rfl).1 (by decide) (by decide) k) ?_
    show own_R _ _ _ _ (T32.setTop (mkF m 165 #[.val (.int q1), .val (.int q2), .val (.int q3), .val (.int p4), .val (.int (2 : Int32)), .val (.ref b19), .val (.ref c33)] []))
    refine own_go (fun _ k => XS.iload X32.here hx rfl (hb hby at_165) rfl k) ?_
    show own_R _ _ _ _ (T32.setTop (mkF m 167 #[.val (.int q1), .val (.int q2), .val (.int q3), .val (.int p4), .val (.int (2 : Int32)), .val (.ref b19), .val (.ref c33)] [(.int (2 : Int32))]))
    refine own_go (fun _ k => XS.iconst X32.here hx rfl (hb hby at_167) k) ?_
    show own_R _ _ _ _ (T32.setTop (mkF m 168 #[.val (.int q1), .val (.int q2), .val (.int q3), .val (.int p4), .val (.int (2 : Int32)), .val (.ref b19), .val (.ref c33)] [(.int (3 : Int32)), (.int (2 : Int32))]))
    refine own_go (fun _ k => XS.icmpYes X32.here hx rfl (pc0 := 168) (pc' := 181) rfl (hb hby at_168) rfl (tlt (by decide : (2 : Int32) < (3 : Int32))).1 (by decide) (by decide) k) ?_
    show own_R _ _ _ _ (T32.setTop (mkF m 181 #[.val (.int q1), .val (.int q2), .val (.int q3), .val (.int p4), .val (.int (2 : Int32)), .val (.ref b19), .val (.ref c33)] []))
    refine own_go (fun _ k => XS.iconst X32.here hx rfl (hb hby at_181) k) ?_
    show own_R _ _ _ _ (T32.setTop (mkF m 182 #[.val (.int q1), .val (.int q2), .val (.int q3), .val (.int p4), .val (.int (2 : Int32)), .val (.ref b19), .val (.ref c33)] [(.int (1 : Int32))]))
    exact own_retN X32 hx (t := .boolean) (by simp) Bd.returns (hb hby at_182) hlk ⟨rfl, NF⟩ (by decide) (by decide)
  · show own_R _ _ _ _ (T20.setTop (mkF m 14 #[.val (.int q1), .val (.int q2), .val (.int q3), .val (.int p4), .val (.int (3 : Int32)), .val (.ref b19), .unset] []))
    refine own_go (fun _ k => XS.iload X20.here hx rfl (hb hby at_14) rfl k) ?_
    show own_R _ _ _ _ (T20.setTop (mkF m 16 #[.val (.int q1), .val (.int q2), .val (.int q3), .val (.int p4), .val (.int (3 : Int32)), .val (.ref b19), .unset] [(.int (3 : Int32))]))
    refine own_go (fun _ k => XS.iconst X20.here hx rfl (hb hby at_16) k) ?_
    show own_R _ _ _ _ (T20.setTop (mkF m 17 #[.val (.int q1), .val (.int q2), .val (.int q3), .val (.int p4), .val (.int (3 : Int32)), .val (.ref b19), .unset] [(.int (1 : Int32)), (.int (3 : Int32))]))
    refine own_go (fun _ k => XS.icmpNo X20.here hx rfl (hb hby at_17) rfl (flt (by decide : ¬ ((3 : Int32) < (1 : Int32)))).1 k) ?_
    show own_R _ _ _ _ (T20.setTop (mkF m 20 #[.val (.int q1), .val (.int q2), .val (.int q3), .val (.int p4), .val (.int (3 : Int32)), .val (.ref b19), .unset] []))
    refine own_go (fun _ k => XS.aload X20.here hx rfl (hb hby at_20) rfl rfl k) ?_
    show own_R _ _ _ _ (T20.setTop (mkF m 22 #[.val (.int q1), .val (.int q2), .val (.int q3), .val (.int p4), .val (.int (3 : Int32)), .val (.ref b19), .unset] [(.ref b19)]))
    refine own_go (fun _ k => XS.iloadN X20.here hx rfl (hb hby at_22) rfl k) ?_
    show own_R _ _ _ _ (T20.setTop (mkF m 23 #[.val (.int q1), .val (.int q2), .val (.int q3), .val (.int p4), .val (.int (3 : Int32)), .val (.ref b19), .unset] [(.int q1), (.ref b19)]))
    obtain ⟨cq33, kq33, q33a, q33b, q33c⟩ := isOf hZ e20 E_b19
    obtain ⟨_, _, ⟨T33, L33, k33, n33⟩, -, X33, ⟨Lc33, hQ33, l33, y33, z33⟩, st33⟩ := X20.virtualBack hx (y := (⟨"com/example/austere_nets/austerenets/minimize/IntList", "add", "(I)V"⟩ : MethodName)) (z := (⟨"com/example/austere_nets/austerenets/minimize/IntList", "add", "(I)V"⟩ : MethodName)) hown (mvT hZ (hw _ (List.mem_of_getElem? (i := 12) rfl))) (mvT hZ (hw _ (List.mem_of_getElem? (i := 13) rfl))) (notFace_of_selects (args := #[]) (mvT hZ (hw _ (List.mem_of_getElem? (i := 15) rfl)))) (mvT hZ (hw _ (List.mem_of_getElem? (i := 15) rfl))) (mvT hZ (hw _ (List.mem_of_getElem? (i := 14) rfl))) (by decide) (backOf (W := 0) (rm3 l Z a0 hw [] b19 q1 c21 kc21 (0 : Int32) 0 [(.int (0 : Int32)), (.int (0 : Int32)), (.int (0 : Int32)), (.int (0 : Int32)), (.int (0 : Int32)), (.int (0 : Int32)), (.int (0 : Int32)), (.int (0 : Int32)), (.int (0 : Int32)), (.int (0 : Int32)), (.int (0 : Int32)), (.int (0 : Int32)), (.int (0 : Int32)), (.int (0 : Int32)), (.int (0 : Int32)), (.int (0 : Int32))] h20 n0 ZS E_b19 F_values_b19 F_size_b19 g_b19 V_c21 g_c21 ne_b19_c21 ⟨by decide, by decide⟩ rfl (Nat.le_of_ble_eq_true rfl)) hZ (hw _ (List.mem_of_getElem? (i := 16) rfl)) (hw _ (List.mem_of_getElem? (i := 2) rfl)) (by decide) (by decide)) q33a q33c (g := (mkF m 23 #[.val (.int q1), .val (.int q2), .val (.int q3), .val (.int p4), .val (.int (3 : Int32)), .val (.ref b19), .unset] [(.int q1), (.ref b19)])) rfl (by rw [hml]; rfl) (Steps.refl _) (argsL := [(.int q1)]) (rest := []) (lenOf pd_5 rfl) rfl (by show 2 * 0 + _ ≤ _; exact Nat.le_of_eq rfl) (hb hby at_23) (fun _ _ => ⟨rfl, e20, (by decide : 2 + 0 ≤ _), (by decide : 18 + 0 ≤ _)⟩)
    dsimp only [Pt.U, Pt.locs, Pt.cells, Pt.slots] at X33 l33 y33 z33 st33 hQ33
    subst l33 y33 z33
    obtain ⟨h33, e33'⟩ : ∃ z, z = T33.heap := ⟨_, rfl⟩
    rw [← e33'] at hQ33
    have e33 : T33.heap = h33 := e33'.symm
    obtain ⟨rfl, N33q, K33, pp1, pp2, pp3⟩ := hQ33
    have NF := Fr.app NF N33q
    refine own_go (fun _ k => st33.trans k) ?_
    have E_b19 := E_b19.keep K33
    have ZS := Nat.le_trans ZS K33.1
    have KP := KP.trans K33 (allS (Or.inr sz_b19) (allS (Or.inr sz_c21) all0))
    have F_size_b19 := pp1
    have F_values_b19 := pp2
    have V_c21 : Arv Z h33 c21 kc21 .int (16 : Int32) [(.int q1), (.int (0 : Int32)), (.int (0 : Int32)), (.int (0 : Int32)), (.int (0 : Int32)), (.int (0 : Int32)), (.int (0 : Int32)), (.int (0 : Int32)), (.int (0 : Int32)), (.int (0 : Int32)), (.int (0 : Int32)), (.int (0 : Int32)), (.int (0 : Int32)), (.int (0 : Int32)), (.int (0 : Int32)), (.int (0 : Int32))] (.int (0 : Int32)) := pp3
    show own_R _ _ _ _ (T33.setTop (mkF m 26 #[.val (.int q1), .val (.int q2), .val (.int q3), .val (.int p4), .val (.int (3 : Int32)), .val (.ref b19), .unset] []))
    refine own_go (fun _ k => XS.iload X33.here hx rfl (hb hby at_26) rfl k) ?_
    show own_R _ _ _ _ (T33.setTop (mkF m 28 #[.val (.int q1), .val (.int q2), .val (.int q3), .val (.int p4), .val (.int (3 : Int32)), .val (.ref b19), .unset] [(.int (3 : Int32))]))
    refine own_go (fun _ k => XS.iconst X33.here hx rfl (hb hby at_28) k) ?_
    show own_R _ _ _ _ (T33.setTop (mkF m 29 #[.val (.int q1), .val (.int q2), .val (.int q3), .val (.int p4), .val (.int (3 : Int32)), .val (.ref b19), .unset] [(.int (2 : Int32)), (.int (3 : Int32))]))
    refine own_go (fun _ k => XS.icmpNo X33.here hx rfl (hb hby at_29) rfl (flt (by decide : ¬ ((3 : Int32) < (2 : Int32)))).1 k) ?_
    show own_R _ _ _ _ (T33.setTop (mkF m 32 #[.val (.int q1), .val (.int q2), .val (.int q3), .val (.int p4), .val (.int (3 : Int32)), .val (.ref b19), .unset] []))
    refine own_go (fun _ k => XS.aload X33.here hx rfl (hb hby at_32) rfl rfl k) ?_
    show own_R _ _ _ _ (T33.setTop (mkF m 34 #[.val (.int q1), .val (.int q2), .val (.int q3), .val (.int p4), .val (.int (3 : Int32)), .val (.ref b19), .unset] [(.ref b19)]))
    refine own_go (fun _ k => XS.iloadN X33.here hx rfl (hb hby at_34) rfl k) ?_
    show own_R _ _ _ _ (T33.setTop (mkF m 35 #[.val (.int q1), .val (.int q2), .val (.int q3), .val (.int p4), .val (.int (3 : Int32)), .val (.ref b19), .unset] [(.int q2), (.ref b19)]))
    obtain ⟨cq34, kq34, q34a, q34b, q34c⟩ := isOf hZ e33 E_b19
    obtain ⟨_, _, ⟨T34, L34, k34, n34⟩, -, X34, ⟨Lc34, hQ34, l34, y34, z34⟩, st34⟩ := X33.virtualBack hx (y := (⟨"com/example/austere_nets/austerenets/minimize/IntList", "add", "(I)V"⟩ : MethodName)) (z := (⟨"com/example/austere_nets/austerenets/minimize/IntList", "add", "(I)V"⟩ : MethodName)) hown (mvT hZ (hw _ (List.mem_of_getElem? (i := 12) rfl))) (mvT hZ (hw _ (List.mem_of_getElem? (i := 13) rfl))) (notFace_of_selects (args := #[]) (mvT hZ (hw _ (List.mem_of_getElem? (i := 15) rfl)))) (mvT hZ (hw _ (List.mem_of_getElem? (i := 15) rfl))) (mvT hZ (hw _ (List.mem_of_getElem? (i := 14) rfl))) (by decide) (backOf (W := 0) (rm3 l Z a0 hw [] b19 q2 c21 kc21 (1 : Int32) 1 [(.int q1), (.int (0 : Int32)), (.int (0 : Int32)), (.int (0 : Int32)), (.int (0 : Int32)), (.int (0 : Int32)), (.int (0 : Int32)), (.int (0 : Int32)), (.int (0 : Int32)), (.int (0 : Int32)), (.int (0 : Int32)), (.int (0 : Int32)), (.int (0 : Int32)), (.int (0 : Int32)), (.int (0 : Int32)), (.int (0 : Int32))] h33 n0 ZS E_b19 F_values_b19 F_size_b19 g_b19 V_c21 g_c21 ne_b19_c21 ⟨by decide, by decide⟩ rfl (Nat.le_of_ble_eq_true rfl)) hZ (hw _ (List.mem_of_getElem? (i := 16) rfl)) (hw _ (List.mem_of_getElem? (i := 2) rfl)) (by decide) (by decide)) q34a q34c (g := (mkF m 35 #[.val (.int q1), .val (.int q2), .val (.int q3), .val (.int p4), .val (.int (3 : Int32)), .val (.ref b19), .unset] [(.int q2), (.ref b19)])) rfl (by rw [hml]; rfl) (Steps.refl _) (argsL := [(.int q2)]) (rest := []) (lenOf pd_5 rfl) rfl (by show 2 * 0 + _ ≤ _; exact Nat.le_of_eq rfl) (hb hby at_35) (fun _ _ => ⟨rfl, e33, (by decide : 2 + 0 ≤ _), (by decide : 18 + 0 ≤ _)⟩)
    dsimp only [Pt.U, Pt.locs, Pt.cells, Pt.slots] at X34 l34 y34 z34 st34 hQ34
    subst l34 y34 z34
    obtain ⟨h34, e34'⟩ : ∃ z, z = T34.heap := ⟨_, rfl⟩
    rw [← e34'] at hQ34
    have e34 : T34.heap = h34 := e34'.symm
    obtain ⟨rfl, N34q, K34, pp1, pp2, pp3⟩ := hQ34
    have NF := Fr.app NF N34q
    refine own_go (fun _ k => st34.trans k) ?_
    have E_b19 := E_b19.keep K34
    have ZS := Nat.le_trans ZS K34.1
    have KP := KP.trans K34 (allS (Or.inr sz_b19) (allS (Or.inr sz_c21) all0))
    have F_size_b19 := pp1
    have F_values_b19 := pp2
    have V_c21 : Arv Z h34 c21 kc21 .int (16 : Int32) [(.int q1), (.int q2), (.int (0 : Int32)), (.int (0 : Int32)), (.int (0 : Int32)), (.int (0 : Int32)), (.int (0 : Int32)), (.int (0 : Int32)), (.int (0 : Int32)), (.int (0 : Int32)), (.int (0 : Int32)), (.int (0 : Int32)), (.int (0 : Int32)), (.int (0 : Int32)), (.int (0 : Int32)), (.int (0 : Int32))] (.int (0 : Int32)) := pp3
    show own_R _ _ _ _ (T34.setTop (mkF m 38 #[.val (.int q1), .val (.int q2), .val (.int q3), .val (.int p4), .val (.int (3 : Int32)), .val (.ref b19), .unset] []))
    refine own_go (fun _ k => XS.iload X34.here hx rfl (hb hby at_38) rfl k) ?_
    show own_R _ _ _ _ (T34.setTop (mkF m 40 #[.val (.int q1), .val (.int q2), .val (.int q3), .val (.int p4), .val (.int (3 : Int32)), .val (.ref b19), .unset] [(.int (3 : Int32))]))
    refine own_go (fun _ k => XS.iconst X34.here hx rfl (hb hby at_40) k) ?_
    show own_R _ _ _ _ (T34.setTop (mkF m 41 #[.val (.int q1), .val (.int q2), .val (.int q3), .val (.int p4), .val (.int (3 : Int32)), .val (.ref b19), .unset] [(.int (3 : Int32)), (.int (3 : Int32))]))
    refine own_go (fun _ k => XS.icmpNo X34.here hx rfl (hb hby at_41) rfl (flt (by decide : ¬ ((3 : Int32) < (3 : Int32)))).1 k) ?_
    show own_R _ _ _ _ (T34.setTop (mkF m 44 #[.val (.int q1), .val (.int q2), .val (.int q3), .val (.int p4), .val (.int (3 : Int32)), .val (.ref b19), .unset] []))
    refine own_go (fun _ k => XS.aload X34.here hx rfl (hb hby at_44) rfl rfl k) ?_
    show own_R _ _ _ _ (T34.setTop (mkF m 46 #[.val (.int q1), .val (.int q2), .val (.int q3), .val (.int p4), .val (.int (3 : Int32)), .val (.ref b19), .unset] [(.ref b19)]))
    refine own_go (fun _ k => XS.iloadN X34.here hx rfl (hb hby at_46) rfl k) ?_
    show own_R _ _ _ _ (T34.setTop (mkF m 47 #[.val (.int q1), .val (.int q2), .val (.int q3), .val (.int p4), .val (.int (3 : Int32)), .val (.ref b19), .unset] [(.int q3), (.ref b19)]))
    obtain ⟨cq35, kq35, q35a, q35b, q35c⟩ := isOf hZ e34 E_b19
    obtain ⟨_, _, ⟨T35, L35, k35, n35⟩, -, X35, ⟨Lc35, hQ35, l35, y35, z35⟩, st35⟩ := X34.virtualBack hx (y := (⟨"com/example/austere_nets/austerenets/minimize/IntList", "add", "(I)V"⟩ : MethodName)) (z := (⟨"com/example/austere_nets/austerenets/minimize/IntList", "add", "(I)V"⟩ : MethodName)) hown (mvT hZ (hw _ (List.mem_of_getElem? (i := 12) rfl))) (mvT hZ (hw _ (List.mem_of_getElem? (i := 13) rfl))) (notFace_of_selects (args := #[]) (mvT hZ (hw _ (List.mem_of_getElem? (i := 15) rfl)))) (mvT hZ (hw _ (List.mem_of_getElem? (i := 15) rfl))) (mvT hZ (hw _ (List.mem_of_getElem? (i := 14) rfl))) (by decide) (backOf (W := 0) (rm3 l Z a0 hw [] b19 q3 c21 kc21 (2 : Int32) 2 [(.int q1), (.int q2), (.int (0 : Int32)), (.int (0 : Int32)), (.int (0 : Int32)), (.int (0 : Int32)), (.int (0 : Int32)), (.int (0 : Int32)), (.int (0 : Int32)), (.int (0 : Int32)), (.int (0 : Int32)), (.int (0 : Int32)), (.int (0 : Int32)), (.int (0 : Int32)), (.int (0 : Int32)), (.int (0 : Int32))] h34 n0 ZS E_b19 F_values_b19 F_size_b19 g_b19 V_c21 g_c21 ne_b19_c21 ⟨by decide, by decide⟩ rfl (Nat.le_of_ble_eq_true rfl)) hZ (hw _ (List.mem_of_getElem? (i := 16) rfl)) (hw _ (List.mem_of_getElem? (i := 2) rfl)) (by decide) (by decide)) q35a q35c (g := (mkF m 47 #[.val (.int q1), .val (.int q2), .val (.int q3), .val (.int p4), .val (.int (3 : Int32)), .val (.ref b19), .unset] [(.int q3), (.ref b19)])) rfl (by rw [hml]; rfl) (Steps.refl _) (argsL := [(.int q3)]) (rest := []) (lenOf pd_5 rfl) rfl (by show 2 * 0 + _ ≤ _; exact Nat.le_of_eq rfl) (hb hby at_47) (fun _ _ => ⟨rfl, e34, (by decide : 2 + 0 ≤ _), (by decide : 18 + 0 ≤ _)⟩)
    dsimp only [Pt.U, Pt.locs, Pt.cells, Pt.slots] at X35 l35 y35 z35 st35 hQ35
    subst l35 y35 z35
    obtain ⟨h35, e35'⟩ : ∃ z, z = T35.heap := ⟨_, rfl⟩
    rw [← e35'] at hQ35
    have e35 : T35.heap = h35 := e35'.symm
    obtain ⟨rfl, N35q, K35, pp1, pp2, pp3⟩ := hQ35
    have NF := Fr.app NF N35q
    refine own_go (fun _ k => st35.trans k) ?_
    have E_b19 := E_b19.keep K35
    have ZS := Nat.le_trans ZS K35.1
    have KP := KP.trans K35 (allS (Or.inr sz_b19) (allS (Or.inr sz_c21) all0))
    have F_size_b19 := pp1
    have F_values_b19 := pp2
    have V_c21 : Arv Z h35 c21 kc21 .int (16 : Int32) [(.int q1), (.int q2), (.int q3), (.int (0 : Int32)), (.int (0 : Int32)), (.int (0 : Int32)), (.int (0 : Int32)), (.int (0 : Int32)), (.int (0 : Int32)), (.int (0 : Int32)), (.int (0 : Int32)), (.int (0 : Int32)), (.int (0 : Int32)), (.int (0 : Int32)), (.int (0 : Int32)), (.int (0 : Int32))] (.int (0 : Int32)) := pp3
    show own_R _ _ _ _ (T35.setTop (mkF m 50 #[.val (.int q1), .val (.int q2), .val (.int q3), .val (.int p4), .val (.int (3 : Int32)), .val (.ref b19), .unset] []))
    refine own_go (fun _ k => XS.aload X35.here hx rfl (hb hby at_50) rfl rfl k) ?_
    show own_R _ _ _ _ (T35.setTop (mkF m 52 #[.val (.int q1), .val (.int q2), .val (.int q3), .val (.int p4), .val (.int (3 : Int32)), .val (.ref b19), .unset] [(.ref b19)]))
    obtain ⟨cq36, kq36, q36a, q36b, q36c⟩ := isOf hZ e35 E_b19
    obtain ⟨_, _, ⟨T36, L36, k36, n36⟩, -, X36, ⟨Lc36, hQ36, l36, y36, z36⟩, st36⟩ := X35.virtualBack hx (y := (⟨"com/example/austere_nets/austerenets/minimize/IntList", "size", "()I"⟩ : MethodName)) (z := (⟨"com/example/austere_nets/austerenets/minimize/IntList", "size", "()I"⟩ : MethodName)) hown (mvT hZ (hw _ (List.mem_of_getElem? (i := 19) rfl))) (mvT hZ (hw _ (List.mem_of_getElem? (i := 20) rfl))) (notFace_of_selects (args := #[]) (mvT hZ (hw _ (List.mem_of_getElem? (i := 22) rfl)))) (mvT hZ (hw _ (List.mem_of_getElem? (i := 22) rfl))) (mvT hZ (hw _ (List.mem_of_getElem? (i := 21) rfl))) (by decide) (backOf (W := 0) (rm4 l Z a0 hw [] b19 (3 : Int32) h35 n0 ZS F_size_b19) hZ (hw _ (List.mem_of_getElem? (i := 23) rfl)) (hw _ (List.mem_of_getElem? (i := 2) rfl)) (by decide) (by decide)) q36a q36c (g := (mkF m 52 #[.val (.int q1), .val (.int q2), .val (.int q3), .val (.int p4), .val (.int (3 : Int32)), .val (.ref b19), .unset] [(.ref b19)])) rfl (by rw [hml]; rfl) (Steps.refl _) (argsL := []) (rest := []) (lenOf pd_3 rfl) rfl (by show 2 * 0 + _ ≤ _; exact Nat.le_of_eq rfl) (hb hby at_52) (fun _ _ => ⟨rfl, e35, (by decide : 2 + 0 ≤ _), (by decide : 18 + 0 ≤ _)⟩)
    dsimp only [Pt.U, Pt.locs, Pt.cells, Pt.slots] at X36 l36 y36 z36 st36 hQ36
    subst l36 y36 z36
    obtain ⟨rfl, N36q, e36⟩ := hQ36
    have NF := Fr.app NF N36q
    refine own_go (fun _ k => st36.trans k) ?_
    show own_R _ _ _ _ (T36.setTop (mkF m 55 #[.val (.int q1), .val (.int q2), .val (.int q3), .val (.int p4), .val (.int (3 : Int32)), .val (.ref b19), .unset] [(.int (3 : Int32))]))
    refine own_go (fun _ k => XS.iload X36.here hx rfl (hb hby at_55) rfl k) ?_
    show own_R _ _ _ _ (T36.setTop (mkF m 57 #[.val (.int q1), .val (.int q2), .val (.int q3), .val (.int p4), .val (.int (3 : Int32)), .val (.ref b19), .unset] [(.int (3 : Int32)), (.int (3 : Int32))]))
    refine own_go (fun _ k => XS.icmpYes X36.here hx rfl (pc0 := 57) (pc' := 62) rfl (hb hby at_57) rfl (teq (by decide : (3 : Int32) = (3 : Int32))).1 (by decide) (by decide) k) ?_
    show own_R _ _ _ _ (T36.setTop (mkF m 62 #[.val (.int q1), .val (.int q2), .val (.int q3), .val (.int p4), .val (.int (3 : Int32)), .val (.ref b19), .unset] []))
    refine own_go (fun _ k => XS.iload X36.here hx rfl (hb hby at_62) rfl k) ?_
    show own_R _ _ _ _ (T36.setTop (mkF m 64 #[.val (.int q1), .val (.int q2), .val (.int q3), .val (.int p4), .val (.int (3 : Int32)), .val (.ref b19), .unset] [(.int (3 : Int32))]))
    refine own_go (fun _ k => XS.iconst X36.here hx rfl (hb hby at_64) k) ?_
    show own_R _ _ _ _ (T36.setTop (mkF m 65 #[.val (.int q1), .val (.int q2), .val (.int q3), .val (.int p4), .val (.int (3 : Int32)), .val (.ref b19), .unset] [(.int (1 : Int32)), (.int (3 : Int32))]))
    refine own_go (fun _ k => XS.icmpNo X36.here hx rfl (hb hby at_65) rfl (flt (by decide : ¬ ((3 : Int32) < (1 : Int32)))).1 k) ?_
    show own_R _ _ _ _ (T36.setTop (mkF m 68 #[.val (.int q1), .val (.int q2), .val (.int q3), .val (.int p4), .val (.int (3 : Int32)), .val (.ref b19), .unset] []))
    refine own_go (fun _ k => XS.aload X36.here hx rfl (hb hby at_68) rfl rfl k) ?_
    show own_R _ _ _ _ (T36.setTop (mkF m 70 #[.val (.int q1), .val (.int q2), .val (.int q3), .val (.int p4), .val (.int (3 : Int32)), .val (.ref b19), .unset] [(.ref b19)]))
    refine own_go (fun _ k => XS.iconst X36.here hx rfl (hb hby at_70) k) ?_
    show own_R _ _ _ _ (T36.setTop (mkF m 71 #[.val (.int q1), .val (.int q2), .val (.int q3), .val (.int p4), .val (.int (3 : Int32)), .val (.ref b19), .unset] [(.int (0 : Int32)), (.ref b19)]))
    obtain ⟨cq37, kq37, q37a, q37b, q37c⟩ := isOf hZ e36 E_b19
    obtain ⟨_, _, ⟨T37, L37, k37, n37⟩, -, X37, ⟨Lc37, hQ37, l37, y37, z37⟩, st37⟩ := X36.virtualBack hx (y := (⟨"com/example/austere_nets/austerenets/minimize/IntList", "get", "(I)I"⟩ : MethodName)) (z := (⟨"com/example/austere_nets/austerenets/minimize/IntList", "get", "(I)I"⟩ : MethodName)) hown (mvT hZ (hw _ (List.mem_of_getElem? (i := 24) rfl))) (mvT hZ (hw _ (List.mem_of_getElem? (i := 25) rfl))) (notFace_of_selects (args := #[]) (mvT hZ (hw _ (List.mem_of_getElem? (i := 27) rfl)))) (mvT hZ (hw _ (List.mem_of_getElem? (i := 27) rfl))) (mvT hZ (hw _ (List.mem_of_getElem? (i := 26) rfl))) (by decide) (backOf (W := 0) (rm5 l Z a0 hw [] b19 (0 : Int32) c21 kc21 0 q1 [(.int q1), (.int q2), (.int q3), (.int (0 : Int32)), (.int (0 : Int32)), (.int (0 : Int32)), (.int (0 : Int32)), (.int (0 : Int32)), (.int (0 : Int32)), (.int (0 : Int32)), (.int (0 : Int32)), (.int (0 : Int32)), (.int (0 : Int32)), (.int (0 : Int32)), (.int (0 : Int32)), (.int (0 : Int32))] h35 n0 ZS F_values_b19 V_c21 ⟨by decide, by decide⟩ rfl rfl) hZ (hw _ (List.mem_of_getElem? (i := 28) rfl)) (hw _ (List.mem_of_getElem? (i := 2) rfl)) (by decide) (by decide)) q37a q37c (g := (mkF m 71 #[.val (.int q1), .val (.int q2), .val (.int q3), .val (.int p4), .val (.int (3 : Int32)), .val (.ref b19), .unset] [(.int (0 : Int32)), (.ref b19)])) rfl (by rw [hml]; rfl) (Steps.refl _) (argsL := [(.int (0 : Int32))]) (rest := []) (lenOf pd_6 rfl) rfl (by show 2 * 0 + _ ≤ _; exact Nat.le_of_eq rfl) (hb hby at_71) (fun _ _ => ⟨rfl, e36, (by decide : 2 + 0 ≤ _), (by decide : 18 + 0 ≤ _)⟩)
    dsimp only [Pt.U, Pt.locs, Pt.cells, Pt.slots] at X37 l37 y37 z37 st37 hQ37
    subst l37 y37 z37
    obtain ⟨rfl, N37q, e37⟩ := hQ37
    have NF := Fr.app NF N37q
    refine own_go (fun _ k => st37.trans k) ?_
    show own_R _ _ _ _ (T37.setTop (mkF m 74 #[.val (.int q1), .val (.int q2), .val (.int q3), .val (.int p4), .val (.int (3 : Int32)), .val (.ref b19), .unset] [(.int q1)]))
    refine own_go (fun _ k => XS.iloadN X37.here hx rfl (hb hby at_74) rfl k) ?_
    show own_R _ _ _ _ (T37.setTop (mkF m 75 #[.val (.int q1), .val (.int q2), .val (.int q3), .val (.int p4), .val (.int (3 : Int32)), .val (.ref b19), .unset] [(.int q1), (.int q1)]))
    refine own_go (fun _ k => XS.icmpYes X37.here hx rfl (pc0 := 75) (pc' := 80) rfl (hb hby at_75) rfl (teq rfl).1 (by decide) (by decide) k) ?_
    show own_R _ _ _ _ (T37.setTop (mkF m 80 #[.val (.int q1), .val (.int q2), .val (.int q3), .val (.int p4), .val (.int (3 : Int32)), .val (.ref b19), .unset] []))
    refine own_go (fun _ k => XS.iload X37.here hx rfl (hb hby at_80) rfl k) ?_
    show own_R _ _ _ _ (T37.setTop (mkF m 82 #[.val (.int q1), .val (.int q2), .val (.int q3), .val (.int p4), .val (.int (3 : Int32)), .val (.ref b19), .unset] [(.int (3 : Int32))]))
    refine own_go (fun _ k => XS.iconst X37.here hx rfl (hb hby at_82) k) ?_
    show own_R _ _ _ _ (T37.setTop (mkF m 83 #[.val (.int q1), .val (.int q2), .val (.int q3), .val (.int p4), .val (.int (3 : Int32)), .val (.ref b19), .unset] [(.int (2 : Int32)), (.int (3 : Int32))]))
    refine own_go (fun _ k => XS.icmpNo X37.here hx rfl (hb hby at_83) rfl (flt (by decide : ¬ ((3 : Int32) < (2 : Int32)))).1 k) ?_
    show own_R _ _ _ _ (T37.setTop (mkF m 86 #[.val (.int q1), .val (.int q2), .val (.int q3), .val (.int p4), .val (.int (3 : Int32)), .val (.ref b19), .unset] []))
    refine own_go (fun _ k => XS.aload X37.here hx rfl (hb hby at_86) rfl rfl k) ?_
    show own_R _ _ _ _ (T37.setTop (mkF m 88 #[.val (.int q1), .val (.int q2), .val (.int q3), .val (.int p4), .val (.int (3 : Int32)), .val (.ref b19), .unset] [(.ref b19)]))
    refine own_go (fun _ k => XS.iconst X37.here hx rfl (hb hby at_88) k) ?_
    show own_R _ _ _ _ (T37.setTop (mkF m 89 #[.val (.int q1), .val (.int q2), .val (.int q3), .val (.int p4), .val (.int (3 : Int32)), .val (.ref b19), .unset] [(.int (1 : Int32)), (.ref b19)]))
    obtain ⟨cq38, kq38, q38a, q38b, q38c⟩ := isOf hZ e37 E_b19
    obtain ⟨_, _, ⟨T38, L38, k38, n38⟩, -, X38, ⟨Lc38, hQ38, l38, y38, z38⟩, st38⟩ := X37.virtualBack hx (y := (⟨"com/example/austere_nets/austerenets/minimize/IntList", "get", "(I)I"⟩ : MethodName)) (z := (⟨"com/example/austere_nets/austerenets/minimize/IntList", "get", "(I)I"⟩ : MethodName)) hown (mvT hZ (hw _ (List.mem_of_getElem? (i := 24) rfl))) (mvT hZ (hw _ (List.mem_of_getElem? (i := 25) rfl))) (notFace_of_selects (args := #[]) (mvT hZ (hw _ (List.mem_of_getElem? (i := 27) rfl)))) (mvT hZ (hw _ (List.mem_of_getElem? (i := 27) rfl))) (mvT hZ (hw _ (List.mem_of_getElem? (i := 26) rfl))) (by decide) (backOf (W := 0) (rm5 l Z a0 hw [] b19 (1 : Int32) c21 kc21 1 q2 [(.int q1), (.int q2), (.int q3), (.int (0 : Int32)), (.int (0 : Int32)), (.int (0 : Int32)), (.int (0 : Int32)), (.int (0 : Int32)), (.int (0 : Int32)), (.int (0 : Int32)), (.int (0 : Int32)), (.int (0 : Int32)), (.int (0 : Int32)), (.int (0 : Int32)), (.int (0 : Int32)), (.int (0 : Int32))] h35 n0 ZS F_values_b19 V_c21 ⟨by decide, by decide⟩ rfl rfl) hZ (hw _ (List.mem_of_getElem? (i := 28) rfl)) (hw _ (List.mem_of_getElem? (i := 2) rfl)) (by decide) (by decide)) q38a q38c (g := (mkF m 89 #[.val (.int q1), .val (.int q2), .val (.int q3), .val (.int p4), .val (.int (3 : Int32)), .val (.ref b19), .unset] [(.int (1 : Int32)), (.ref b19)])) rfl (by rw [hml]; rfl) (Steps.refl _) (argsL := [(.int (1 : Int32))]) (rest := []) (lenOf pd_6 rfl) rfl (by show 2 * 0 + _ ≤ _; exact Nat.le_of_eq rfl) (hb hby at_89) (fun _ _ => ⟨rfl, e37, (by decide : 2 + 0 ≤ _), (by decide : 18 + 0 ≤ _)⟩)
    dsimp only [Pt.U, Pt.locs, Pt.cells, Pt.slots] at X38 l38 y38 z38 st38 hQ38
    subst l38 y38 z38
    obtain ⟨rfl, N38q, e38⟩ := hQ38
    have NF := Fr.app NF N38q
    refine own_go (fun _ k => st38.trans k) ?_
    show own_R _ _ _ _ (T38.setTop (mkF m 92 #[.val (.int q1), .val (.int q2), .val (.int q3), .val (.int p4), .val (.int (3 : Int32)), .val (.ref b19), .unset] [(.int q2)]))
    refine own_go (fun _ k => XS.iloadN X38.here hx rfl (hb hby at_92) rfl k) ?_
    show own_R _ _ _ _ (T38.setTop (mkF m 93 #[.val (.int q1), .val (.int q2), .val (.int q3), .val (.int p4), .val (.int (3 : Int32)), .val (.ref b19), .unset] [(.int q2), (.int q2)]))
    refine own_go (fun _ k => XS.icmpYes X38.here hx rfl (pc0 := 93) (pc' := 98) rfl (hb hby at_93) rfl (teq rfl).1 (by decide) (by decide) k) ?_
    show own_R _ _ _ _ (T38.setTop (mkF m 98 #[.val (.int q1), .val (.int q2), .val (.int q3), .val (.int p4), .val (.int (3 : Int32)), .val (.ref b19), .unset] []))
    refine own_go (fun _ k => XS.iload X38.here hx rfl (hb hby at_98) rfl k) ?_
    show own_R _ _ _ _ (T38.setTop (mkF m 100 #[.val (.int q1), .val (.int q2), .val (.int q3), .val (.int p4), .val (.int (3 : Int32)), .val (.ref b19), .unset] [(.int (3 : Int32))]))
    refine own_go (fun _ k => XS.iconst X38.here hx rfl (hb hby at_100) k) ?_
    show own_R _ _ _ _ (T38.setTop (mkF m 101 #[.val (.int q1), .val (.int q2), .val (.int q3), .val (.int p4), .val (.int (3 : Int32)), .val (.ref b19), .unset] [(.int (3 : Int32)), (.int (3 : Int32))]))
    refine own_go (fun _ k => XS.icmpNo X38.here hx rfl (hb hby at_101) rfl (flt (by decide : ¬ ((3 : Int32) < (3 : Int32)))).1 k) ?_
    show own_R _ _ _ _ (T38.setTop (mkF m 104 #[.val (.int q1), .val (.int q2), .val (.int q3), .val (.int p4), .val (.int (3 : Int32)), .val (.ref b19), .unset] []))
    refine own_go (fun _ k => XS.aload X38.here hx rfl (hb hby at_104) rfl rfl k) ?_
    show own_R _ _ _ _ (T38.setTop (mkF m 106 #[.val (.int q1), .val (.int q2), .val (.int q3), .val (.int p4), .val (.int (3 : Int32)), .val (.ref b19), .unset] [(.ref b19)]))
    refine own_go (fun _ k => XS.iconst X38.here hx rfl (hb hby at_106) k) ?_
    show own_R _ _ _ _ (T38.setTop (mkF m 107 #[.val (.int q1), .val (.int q2), .val (.int q3), .val (.int p4), .val (.int (3 : Int32)), .val (.ref b19), .unset] [(.int (2 : Int32)), (.ref b19)]))
    obtain ⟨cq39, kq39, q39a, q39b, q39c⟩ := isOf hZ e38 E_b19
    obtain ⟨_, _, ⟨T39, L39, k39, n39⟩, -, X39, ⟨Lc39, hQ39, l39, y39, z39⟩, st39⟩ := X38.virtualBack hx (y := (⟨"com/example/austere_nets/austerenets/minimize/IntList", "get", "(I)I"⟩ : MethodName)) (z := (⟨"com/example/austere_nets/austerenets/minimize/IntList", "get", "(I)I"⟩ : MethodName)) hown (mvT hZ (hw _ (List.mem_of_getElem? (i := 24) rfl))) (mvT hZ (hw _ (List.mem_of_getElem? (i := 25) rfl))) (notFace_of_selects (args := #[]) (mvT hZ (hw _ (List.mem_of_getElem? (i := 27) rfl)))) (mvT hZ (hw _ (List.mem_of_getElem? (i := 27) rfl))) (mvT hZ (hw _ (List.mem_of_getElem? (i := 26) rfl))) (by decide) (backOf (W := 0) (rm5 l Z a0 hw [] b19 (2 : Int32) c21 kc21 2 q3 [(.int q1), (.int q2), (.int q3), (.int (0 : Int32)), (.int (0 : Int32)), (.int (0 : Int32)), (.int (0 : Int32)), (.int (0 : Int32)), (.int (0 : Int32)), (.int (0 : Int32)), (.int (0 : Int32)), (.int (0 : Int32)), (.int (0 : Int32)), (.int (0 : Int32)), (.int (0 : Int32)), (.int (0 : Int32))] h35 n0 ZS F_values_b19 V_c21 ⟨by decide, by decide⟩ rfl rfl) hZ (hw _ (List.mem_of_getElem? (i := 28) rfl)) (hw _ (List.mem_of_getElem? (i := 2) rfl)) (by decide) (by decide)) q39a q39c (g := (mkF m 107 #[.val (.int q1), .val (.int q2), .val (.int q3), .val (.int p4), .val (.int (3 : Int32)), .val (.ref b19), .unset] [(.int (2 : Int32)), (.ref b19)])) rfl (by rw [hml]; rfl) (Steps.refl _) (argsL := [(.int (2 : Int32))]) (rest := []) (lenOf pd_6 rfl) rfl (by show 2 * 0 + _ ≤ _; exact Nat.le_of_eq rfl) (hb hby at_107) (fun _ _ => ⟨rfl, e38, (by decide : 2 + 0 ≤ _), (by decide : 18 + 0 ≤ _)⟩)
    dsimp only [Pt.U, Pt.locs, Pt.cells, Pt.slots] at X39 l39 y39 z39 st39 hQ39
    subst l39 y39 z39
    obtain ⟨rfl, N39q, e39⟩ := hQ39
    have NF := Fr.app NF N39q
    refine own_go (fun _ k => st39.trans k) ?_
    show own_R _ _ _ _ (T39.setTop (mkF m 110 #[.val (.int q1), .val (.int q2), .val (.int q3), .val (.int p4), .val (.int (3 : Int32)), .val (.ref b19), .unset] [(.int q3)]))
    refine own_go (fun _ k => XS.iloadN X39.here hx rfl (hb hby at_110) rfl k) ?_
    show own_R _ _ _ _ (T39.setTop (mkF m 111 #[.val (.int q1), .val (.int q2), .val (.int q3), .val (.int p4), .val (.int (3 : Int32)), .val (.ref b19), .unset] [(.int q3), (.int q3)]))
    refine own_go (fun _ k => XS.icmpYes X39.here hx rfl (pc0 := 111) (pc' := 116) rfl (hb hby at_111) rfl (teq rfl).1 (by decide) (by decide) k) ?_
    show own_R _ _ _ _ (T39.setTop (mkF m 116 #[.val (.int q1), .val (.int q2), .val (.int q3), .val (.int p4), .val (.int (3 : Int32)), .val (.ref b19), .unset] []))
    refine own_go (fun _ k => XS.aload X39.here hx rfl (hb hby at_116) rfl rfl k) ?_
    show own_R _ _ _ _ (T39.setTop (mkF m 118 #[.val (.int q1), .val (.int q2), .val (.int q3), .val (.int p4), .val (.int (3 : Int32)), .val (.ref b19), .unset] [(.ref b19)]))
    obtain ⟨cq40, kq40, q40a, q40b, q40c⟩ := isOf hZ e39 E_b19
    obtain ⟨_, _, ⟨T40, L40, k40, n40⟩, -, X40, ⟨Lc40, hQ40, l40, y40, z40⟩, st40⟩ := X39.virtualBack hx (y := (⟨"com/example/austere_nets/austerenets/minimize/IntList", "toArray", "()[I"⟩ : MethodName)) (z := (⟨"com/example/austere_nets/austerenets/minimize/IntList", "toArray", "()[I"⟩ : MethodName)) hown (mvT hZ (hw _ (List.mem_of_getElem? (i := 29) rfl))) (mvT hZ (hw _ (List.mem_of_getElem? (i := 30) rfl))) (notFace_of_selects (args := #[]) (mvT hZ (hw _ (List.mem_of_getElem? (i := 32) rfl)))) (mvT hZ (hw _ (List.mem_of_getElem? (i := 32) rfl))) (mvT hZ (hw _ (List.mem_of_getElem? (i := 31) rfl))) (by decide) (backOf (W := 0) (rm6 l Z a0 hw [] b19 c21 kc21 (3 : Int32) [(.int q1), (.int q2), (.int q3), (.int (0 : Int32)), (.int (0 : Int32)), (.int (0 : Int32)), (.int (0 : Int32)), (.int (0 : Int32)), (.int (0 : Int32)), (.int (0 : Int32)), (.int (0 : Int32)), (.int (0 : Int32)), (.int (0 : Int32)), (.int (0 : Int32)), (.int (0 : Int32)), (.int (0 : Int32))] h35 n0 ZS F_values_b19 F_size_b19 V_c21 (by decide) (by decide) (by decide)) hZ (hw _ (List.mem_of_getElem? (i := 33) rfl)) (hw _ (List.mem_of_getElem? (i := 2) rfl)) (by decide) (by decide)) q40a q40c (g := (mkF m 118 #[.val (.int q1), .val (.int q2), .val (.int q3), .val (.int p4), .val (.int (3 : Int32)), .val (.ref b19), .unset] [(.ref b19)])) rfl (by rw [hml]; rfl) (Steps.refl _) (argsL := []) (rest := []) (lenOf pd_4 rfl) rfl (by show 2 * 0 + _ ≤ _; exact Nat.le_of_eq rfl) (hb hby at_118) (fun _ _ => ⟨rfl, e39, (by decide : 2 + 1 ≤ _), (by decide : 18 + 16 ≤ _)⟩)
    dsimp only [Pt.U, Pt.locs, Pt.cells, Pt.slots] at X40 l40 y40 z40 st40 hQ40
    subst l40 y40 z40
    obtain ⟨h40, e40'⟩ : ∃ z, z = T40.heap := ⟨_, rfl⟩
    rw [← e40'] at hQ40
    have e40 : T40.heap = h40 := e40'.symm
    obtain ⟨c41, rfl, N40q, K40, hbc41, kc41, Vc41'⟩ := hQ40
    have NF := Fr.app NF N40q
    refine own_go (fun _ k => st40.trans k) ?_
    have ne_b19_c41 : b19 ≠ c41 := Nat.ne_of_lt (Nat.lt_of_lt_of_le E_b19.lt hbc41)
    have ne_c21_c41 : c21 ≠ c41 := Nat.ne_of_lt (Nat.lt_of_lt_of_le V_c21.lt hbc41)
    have g_c41 : n0 ≤ c41 := Nat.le_trans ZS hbc41
    have sz_c41 : h0.size ≤ c41 := Nat.le_trans KP.1 hbc41
    have E_b19 := E_b19.keep K40
    have F_size_b19 := F_size_b19.keep K40 nin0
    have F_values_b19 := F_values_b19.keep K40 nin0
    have V_c21 := V_c21.keep K40 nin0
    have ZS := Nat.le_trans ZS K40.1
    have KP := KP.trans K40 all0
    have V_c41 : Arv Z h40 c41 kc41 .int (3 : Int32) [(.int q1), (.int q2), (.int q3)] (.int (0 : Int32)) := Vc41'
    show own_R _ _ _ _ (T40.setTop (mkF m 121 #[.val (.int q1), .val (.int q2), .val (.int q3), .val (.int p4), .val (.int (3 : Int32)), .val (.ref b19), .unset] [(.ref c41)]))
    refine own_go (fun _ k => XS.astore X40.here hx rfl (hb hby at_121) rfl rfl (l' := #[.val (.int q1), .val (.int q2), .val (.int q3), .val (.int p4), .val (.int (3 : Int32)), .val (.ref b19), .val (.ref c41)]) rfl k) ?_
    show own_R _ _ _ _ (T40.setTop (mkF m 123 #[.val (.int q1), .val (.int q2), .val (.int q3), .val (.int p4), .val (.int (3 : Int32)), .val (.ref b19), .val (.ref c41)] []))
    refine own_go (fun _ k => XS.aload X40.here hx rfl (hb hby at_123) rfl rfl k) ?_
    show own_R _ _ _ _ (T40.setTop (mkF m 125 #[.val (.int q1), .val (.int q2), .val (.int q3), .val (.int p4), .val (.int (3 : Int32)), .val (.ref b19), .val (.ref c41)] [(.ref c41)]))
    refine own_go (own_len X40 hx hZ e40 V_c41 (g := (mkF m 125 #[.val (.int q1), .val (.int q2), .val (.int q3), .val (.int p4), .val (.int (3 : Int32)), .val (.ref b19), .val (.ref c41)] [(.ref c41)])) rfl rfl (hb hby at_125)) ?_
    show own_R _ _ _ _ (T40.setTop (mkF m 126 #[.val (.int q1), .val (.int q2), .val (.int q3), .val (.int p4), .val (.int (3 : Int32)), .val (.ref b19), .val (.ref c41)] [(.int (3 : Int32))]))
    refine own_go (fun _ k => XS.iload X40.here hx rfl (hb hby at_126) rfl k) ?_
    show own_R _ _ _ _ (T40.setTop (mkF m 128 #[.val (.int q1), .val (.int q2), .val (.int q3), .val (.int p4), .val (.int (3 : Int32)), .val (.ref b19), .val (.ref c41)] [(.int (3 : Int32)), (.int (3 : Int32))]))
    refine own_go (fun _ k => XS.icmpYes X40.here hx rfl (pc0 := 128) (pc' := 133) rfl (hb hby at_128) rfl (teq (by decide : (3 : Int32) = (3 : Int32))).1 (by decide) (by decide) k) ?_
    show own_R _ _ _ _ (T40.setTop (mkF m 133 #[.val (.int q1), .val (.int q2), .val (.int q3), .val (.int p4), .val (.int (3 : Int32)), .val (.ref b19), .val (.ref c41)] []))
    refine own_go (fun _ k => XS.iload X40.here hx rfl (hb hby at_133) rfl k) ?_
    show own_R _ _ _ _ (T40.setTop (mkF m 135 #[.val (.int q1), .val (.int q2), .val (.int q3), .val (.int p4), .val (.int (3 : Int32)), .val (.ref b19), .val (.ref c41)] [(.int (3 : Int32))]))
    refine own_go (fun _ k => XS.iconst X40.here hx rfl (hb hby at_135) k) ?_
    show own_R _ _ _ _ (T40.setTop (mkF m 136 #[.val (.int q1), .val (.int q2), .val (.int q3), .val (.int p4), .val (.int (3 : Int32)), .val (.ref b19), .val (.ref c41)] [(.int (1 : Int32)), (.int (3 : Int32))]))
    refine own_go (fun _ k => XS.icmpNo X40.here hx rfl (hb hby at_136) rfl (flt (by decide : ¬ ((3 : Int32) < (1 : Int32)))).1 k) ?_
    show own_R _ _ _ _ (T40.setTop (mkF m 139 #[.val (.int q1), .val (.int q2), .val (.int q3), .val (.int p4), .val (.int (3 : Int32)), .val (.ref b19), .val (.ref c41)] []))
    refine own_go (fun _ k => XS.aload X40.here hx rfl (hb hby at_139) rfl rfl k) ?_
    show own_R _ _ _ _ (T40.setTop (mkF m 141 #[.val (.int q1), .val (.int q2), .val (.int q3), .val (.int p4), .val (.int (3 : Int32)), .val (.ref b19), .val (.ref c41)] [(.ref c41)]))
    refine own_go (fun _ k => XS.iconst X40.here hx rfl (hb hby at_141) k) ?_
    show own_R _ _ _ _ (T40.setTop (mkF m 142 #[.val (.int q1), .val (.int q2), .val (.int q3), .val (.int p4), .val (.int (3 : Int32)), .val (.ref b19), .val (.ref c41)] [(.int (0 : Int32)), (.ref c41)]))
    refine own_go (own_ldI X40 hx hZ e40 V_c41 (j := (0 : Int32)) (i := 0) ⟨by decide, by decide⟩ rfl (v := (.int q1)) rfl (g := (mkF m 142 #[.val (.int q1), .val (.int q2), .val (.int q3), .val (.int p4), .val (.int (3 : Int32)), .val (.ref b19), .val (.ref c41)] [(.int (0 : Int32)), (.ref c41)])) rfl rfl (hb hby at_142)) ?_
    show own_R _ _ _ _ (T40.setTop (mkF m 143 #[.val (.int q1), .val (.int q2), .val (.int q3), .val (.int p4), .val (.int (3 : Int32)), .val (.ref b19), .val (.ref c41)] [(.int q1)]))
    refine own_go (fun _ k => XS.iloadN X40.here hx rfl (hb hby at_143) rfl k) ?_
    show own_R _ _ _ _ (T40.setTop (mkF m 144 #[.val (.int q1), .val (.int q2), .val (.int q3), .val (.int p4), .val (.int (3 : Int32)), .val (.ref b19), .val (.ref c41)] [(.int q1), (.int q1)]))
    refine own_go (fun _ k => XS.icmpYes X40.here hx rfl (pc0 := 144) (pc' := 149) rfl (hb hby at_144) rfl (teq rfl).1 (by decide) (by decide) k) ?_
    show own_R _ _ _ _ (T40.setTop (mkF m 149 #[.val (.int q1), .val (.int q2), .val (.int q3), .val (.int p4), .val (.int (3 : Int32)), .val (.ref b19), .val (.ref c41)] []))
    refine own_go (fun _ k => XS.iload X40.here hx rfl (hb hby at_149) rfl k) ?_
    show own_R _ _ _ _ (T40.setTop (mkF m 151 #[.val (.int q1), .val (.int q2), .val (.int q3), .val (.int p4), .val (.int (3 : Int32)), .val (.ref b19), .val (.ref c41)] [(.int (3 : Int32))]))
    refine own_go (fun _ k => XS.iconst X40.here hx rfl (hb hby at_151) k) ?_
    show own_R _ _ _ _ (T40.setTop (mkF m 152 #[.val (.int q1), .val (.int q2), .val (.int q3), .val (.int p4), .val (.int (3 : Int32)), .val (.ref b19), .val (.ref c41)] [(.int (2 : Int32)), (.int (3 : Int32))]))
    refine own_go (fun _ k => XS.icmpNo X40.here hx rfl (hb hby at_152) rfl (flt (by decide : ¬ ((3 : Int32) < (2 : Int32)))).1 k) ?_
    show own_R _ _ _ _ (T40.setTop (mkF m 155 #[.val (.int q1), .val (.int q2), .val (.int q3), .val (.int p4), .val (.int (3 : Int32)), .val (.ref b19), .val (.ref c41)] []))
    refine own_go (fun _ k => XS.aload X40.here hx rfl (hb hby at_155) rfl rfl k) ?_
    show own_R _ _ _ _ (T40.setTop (mkF m 157 #[.val (.int q1), .val (.int q2), .val (.int q3), .val (.int p4), .val (.int (3 : Int32)), .val (.ref b19), .val (.ref c41)] [(.ref c41)]))
    refine own_go (fun _ k => XS.iconst X40.here hx rfl (hb hby at_157) k) ?_
    show own_R _ _ _ _ (T40.setTop (mkF m 158 #[.val (.int q1), .val (.int q2), .val (.int q3), .val (.int p4), .val (.int (3 : Int32)), .val (.ref b19), .val (.ref c41)] [(.int (1 : Int32)), (.ref c41)]))
    refine own_go (own_ldI X40 hx hZ e40 V_c41 (j := (1 : Int32)) (i := 1) ⟨by decide, by decide⟩ rfl (v := (.int q2)) rfl (g := (mkF m 158 #[.val (.int q1), .val (.int q2), .val (.int q3), .val (.int p4), .val (.int (3 : Int32)), .val (.ref b19), .val (.ref c41)] [(.int (1 : Int32)), (.ref c41)])) rfl rfl (hb hby at_158)) ?_
    show own_R _ _ _ _ (T40.setTop (mkF m 159 #[.val (.int q1), .val (.int q2), .val (.int q3), .val (.int p4), .val (.int (3 : Int32)), .val (.ref b19), .val (.ref c41)] [(.int q2)]))
    refine own_go (fun _ k => XS.iloadN X40.here hx rfl (hb hby at_159) rfl k) ?_
    show own_R _ _ _ _ (T40.setTop (mkF m 160 #[.val (.int q1), .val (.int q2), .val (.int q3), .val (.int p4), .val (.int (3 : Int32)), .val (.ref b19), .val (.ref c41)] [(.int q2), (.int q2)]))
    refine own_go (fun _ k => XS.icmpYes X40.here hx rfl (pc0 := 160) (pc' := 165) rfl (hb hby at_160) rfl (teq rfl).1 (by decide) (by decide) k) ?_
    show own_R _ _ _ _ (T40.setTop (mkF m 165 #[.val (.int q1), .val (.int q2), .val (.int q3), .val (.int p4), .val (.int (3 : Int32)), .val (.ref b19), .val (.ref c41)] []))
    refine own_go (fun _ k => XS.iload X40.here hx rfl (hb hby at_165) rfl k) ?_
    show own_R _ _ _ _ (T40.setTop (mkF m 167 #[.val (.int q1), .val (.int q2), .val (.int q3), .val (.int p4), .val (.int (3 : Int32)), .val (.ref b19), .val (.ref c41)] [(.int (3 : Int32))]))
    refine own_go (fun _ k => XS.iconst X40.here hx rfl (hb hby at_167) k) ?_
    show own_R _ _ _ _ (T40.setTop (mkF m 168 #[.val (.int q1), .val (.int q2), .val (.int q3), .val (.int p4), .val (.int (3 : Int32)), .val (.ref b19), .val (.ref c41)] [(.int (3 : Int32)), (.int (3 : Int32))]))
    refine own_go (fun _ k => XS.icmpNo X40.here hx rfl (hb hby at_168) rfl (flt (by decide : ¬ ((3 : Int32) < (3 : Int32)))).1 k) ?_
    show own_R _ _ _ _ (T40.setTop (mkF m 171 #[.val (.int q1), .val (.int q2), .val (.int q3), .val (.int p4), .val (.int (3 : Int32)), .val (.ref b19), .val (.ref c41)] []))
    refine own_go (fun _ k => XS.aload X40.here hx rfl (hb hby at_171) rfl rfl k) ?_
    show own_R _ _ _ _ (T40.setTop (mkF m 173 #[.val (.int q1), .val (.int q2), .val (.int q3), .val (.int p4), .val (.int (3 : Int32)), .val (.ref b19), .val (.ref c41)] [(.ref c41)]))
    refine own_go (fun _ k => XS.iconst X40.here hx rfl (hb hby at_173) k) ?_
    show own_R _ _ _ _ (T40.setTop (mkF m 174 #[.val (.int q1), .val (.int q2), .val (.int q3), .val (.int p4), .val (.int (3 : Int32)), .val (.ref b19), .val (.ref c41)] [(.int (2 : Int32)), (.ref c41)]))
    refine own_go (own_ldI X40 hx hZ e40 V_c41 (j := (2 : Int32)) (i := 2) ⟨by decide, by decide⟩ rfl (v := (.int q3)) rfl (g := (mkF m 174 #[.val (.int q1), .val (.int q2), .val (.int q3), .val (.int p4), .val (.int (3 : Int32)), .val (.ref b19), .val (.ref c41)] [(.int (2 : Int32)), (.ref c41)])) rfl rfl (hb hby at_174)) ?_
    show own_R _ _ _ _ (T40.setTop (mkF m 175 #[.val (.int q1), .val (.int q2), .val (.int q3), .val (.int p4), .val (.int (3 : Int32)), .val (.ref b19), .val (.ref c41)] [(.int q3)]))
    refine own_go (fun _ k => XS.iloadN X40.here hx rfl (hb hby at_175) rfl k) ?_
    show own_R _ _ _ _ (T40.setTop (mkF m 176 #[.val (.int q1), .val (.int q2), .val (.int q3), .val (.int p4), .val (.int (3 : Int32)), .val (.ref b19), .val (.ref c41)] [(.int q3), (.int q3)]))
    refine own_go (fun _ k => XS.icmpYes X40.here hx rfl (pc0 := 176) (pc' := 181) rfl (hb hby at_176) rfl (teq rfl).1 (by decide) (by decide) k) ?_
    show own_R _ _ _ _ (T40.setTop (mkF m 181 #[.val (.int q1), .val (.int q2), .val (.int q3), .val (.int p4), .val (.int (3 : Int32)), .val (.ref b19), .val (.ref c41)] []))
    refine own_go (fun _ k => XS.iconst X40.here hx rfl (hb hby at_181) k) ?_
    show own_R _ _ _ _ (T40.setTop (mkF m 182 #[.val (.int q1), .val (.int q2), .val (.int q3), .val (.int p4), .val (.int (3 : Int32)), .val (.ref b19), .val (.ref c41)] [(.int (1 : Int32))]))
    exact own_retN X40 hx (t := .boolean) (by simp) Bd.returns (hb hby at_182) hlk ⟨rfl, NF⟩ (by decide) (by decide)
set_option maxRecDepth 65536 in
set_option maxHeartbeats 40000000 in
theorem comes_1 {Post : Tables → Env → Array Value → State → Outcome → State → Prop} (hpost : ∀ tb e args s v u, (limb_1_1.after args s (.returned v) u = true ∧ limb_1_2.after args s (.returned v) u = true ∧ True) → FrameEnd s (.returned v) u (Jvm.fieldLocs frame_1_writes args s ++ Jvm.arrayLocs frame_1_arrays args s ++ Jvm.staticLocs frame_1_statics s) 16 128 → Post tb e args s (.returned v) u) :
    ArmFor flags0 classFile x code maxLocals ret World_1 tables_1 room_1 Calls_1 rest_1 Pre_1 Post := by
  intro l hfl _ _ p e ha hc hk s m args below hf hA hF happ hP
  obtain ⟨hcalls, hrest, hpre⟩ := hP
  obtain ⟨-, -, -, hnamed, -, -, -, hat⟩ := (Spec.applies_iff hf).mp happ
  obtain ⟨hg, hn⟩ := and_e (Cond.before_iff.mp (show (Jvm.Cond.and given_1 narrow_1).before args s = true from hpre))
  obtain ⟨g1, g2⟩ := and_e hg
  obtain ⟨g3, g4⟩ := and_e g2
  obtain ⟨g5, g6⟩ := and_e g4
  obtain ⟨g7, g8⟩ := and_e g6
  obtain ⟨w0, w1, w2, w3, rfl⟩ : ∃ w0 w1 w2 w3 : Value, args = #[w0, w1, w2, w3] := by
    have hs : args.size = 4 := by simpa [Cond.value, given_1] using g1
    obtain ⟨L⟩ := args
    match L, hs with
    | [w0, w1, w2, w3], _ => exact ⟨w0, w1, w2, w3, rfl⟩
  have hw := fun d (hd : d ∈ tables_1) => atoms_spec (ws := Jvm.Cond.code x code maxLocals ret :: tables_1) hat d (List.mem_cons_of_mem _ hd)
  have hfit : Fit s := fun {y c} hc i hi => by
    obtain ⟨ha, rfl⟩ := Array.getElem?_eq_some_iff.mp hc
    have q := List.all_eq_true.mp ((Array.all_eq_true_iff_forall_mem.mp hF) _ (Array.getElem_mem ha)) i (List.mem_range.mpr hi)
    simpa [Array.getElem?_eq_getElem hi] using q
  obtain ⟨i0, ei0⟩ := is_v g3
  obtain rfl : w0 = (.int i0) := Option.some.inj ei0
  obtain ⟨i1, ei1⟩ := is_v g5
  obtain rfl : w1 = (.int i1) := Option.some.inj ei1
  obtain ⟨i2, ei2⟩ := is_v g7
  obtain rfl : w2 = (.int i2) := Option.some.inj ei2
  obtain ⟨i3, ei3⟩ := is_v g8
  obtain rfl : w3 = (.int i3) := Option.some.inj ei3
  obtain ⟨n, o, h1, h2, h3, _, L, rfl, ⟨rfl, N⟩, hq⟩ := rm0 l s _ hw tables_1 i0 i1 i2 i3 s.heap s.heap.size (Nat.le_refl _) p e ha hc hk s m _ below hf ((Spec.applies_iff_loose hf).mp happ).1 ⟨rfl, State.Warmed39.refl s, rfl⟩ trivial
  refine ⟨n, _, h1, h2, h3, hpost _ _ _ _ _ _ ⟨Cond.after_iff.mpr rfl, Cond.after_iff.mpr (eq_i res_at (Term.int_eval (1)) rfl), trivial⟩ ⟨hq.1, hq.2.1, (hq.2.2.sift fun y hy => Or.inr (N y hy)).mono (by decide) (by decide)⟩⟩
theorem main_1_1 : Claimed_1_1 := comes_1 fun _ _ _ _ _ _ h hF => ⟨h.1, hF⟩
theorem main_1_2 : Claimed_1_2 := comes_1 fun _ _ _ _ _ _ h hF => ⟨h.2.1, hF⟩
end Jvm.Pilot.@@N@@
namespace Jvm.Pilot.@@N@@
open Jvm Jvm.ClassFile Sem Op Lib Jvm.Free Jvm.Stand Jvm.Pilot.@@N@@.Jvm.D
/-! MADE BY PROGRAM (witnessworld.py) out of the Statement's table words and the real class files: 12 classes; the members and pool entries that the words name. The judged class is class 1, her method 1. -/
namespace start1
open Jvm.ClassFile
def u (s : String) : CpInfo := .utf8 (stringToUtf16 s)
/-- a pool by its gaps: so many unusable entries, then the entry; so many at the end -/
def gap : Nat → List CpInfo → List CpInfo
  | 0, r => r
  | n + 1, r => .unusable :: gap n r
def poolList (es : List (Nat × CpInfo)) (last : Nat) : List CpInfo := es.foldr (fun e r => gap e.1 (e.2 :: r)) (gap last [])
def pool (es : List (Nat × CpInfo)) (last : Nat) : Array CpInfo := ⟨poolList es last⟩
def fileOf (pool : Array CpInfo) (this : Nat) (attrs : Array Attribute := #[]) (ms : Array MethodInfo := #[]) (fl : Nat := 33) (sup : Nat := 0) (ifs : Array Nat := #[]) (fds : Array FieldInfo := #[]) : ClassFile where
  minorVersion := 0
  majorVersion := 65
  constantPool := pool
  accessFlags := fl
  thisClass := this
  superClass := sup
  interfaces := ifs
  fields := fds
  methods := ms
  attributes := attrs
def plain (name : String) (sup : Option ClassId) : Class where
  name := name
  kind := .ordinary
  loader := none
  accessFlags := 33
  super := sup
  interfaces := #[]
  cf := none
  fields := #[]
  methods := #[]
  instanceTypes := #[]
  staticTypes := #[]
  resolved := #[]
  callSites := []
  init := .initialized
  statics := none
  mirror := none

def pool0 : Array CpInfo := pool [(5, u "<init>"), (0, u "()V"), (1, .class_ 10), (1, u "java/lang/Object")] 113

def k0c0 : Code := { maxStack := 0, maxLocals := 1, code := object_method_1_code, exceptionTable := #[], attributes := #[] }
def k0m0 : Method := { name := "<init>", desc := "()V", sig := { parameters := [], returnType := none }, accessFlags := 1, code := some k0c0 }
/-- java/lang/Object -/
def k0 : Class := { plain "java/lang/Object" none with
  accessFlags := 33
  interfaces := #[]
  cf := some (fileOf pool0 8 #[] #[{ accessFlags := 1, nameIndex := 5, descriptorIndex := 6, attributes := #[] }] 33 0 #[] #[])
  fields := #[]
  methods := #[k0m0]
  instanceTypes := #[]
  staticTypes := #[]
  resolved := Array.replicate 124 none
  statics := none }

def pool1 : Array CpInfo := pool [(2, .class_ 4), (0, .nameAndType 5 6), (0, u "java/lang/Object"), (0, u "<init>"), (0, u "()V"), (0, .class_ 8), (0, u "com/example/austere_nets/austerenets/minimize/IntList"), (0, .methodref 7 3), (0, .methodref 7 11), (0, .nameAndType 12 13), (0, u "add"), (0, u "(I)V"), (0, .methodref 7 15), (0, .nameAndType 16 17), (0, u "size"), (0, u "()I"), (0, .methodref 7 19), (0, .nameAndType 20 21), (0, u "get"), (0, u "(I)I"), (0, .methodref 7 23), (0, .nameAndType 24 25), (0, u "toArray"), (0, u "()[I"), (0, .class_ 27), (0, u "com/example/austere_nets/austerenets/minimize/IntListAddPinLaw"), (2, u "law"), (0, u "(IIII)Z")] 5

def k1m0 : Method := { name := "<init>", desc := "()V", sig := { parameters := [], returnType := none }, accessFlags := 1, code := none }
def k1c1 : Code := { maxStack := 2, maxLocals := 7, code := code, exceptionTable := #[], attributes := #[] }
def k1m1 : Method := { name := "law", desc := "(IIII)Z", sig := { parameters := [.int, .int, .int, .int], returnType := some .boolean }, accessFlags := 9, code := some k1c1 }
/-- com/example/austere_nets/austerenets/minimize/IntListAddPinLaw -/
def k1 : Class := { plain "com/example/austere_nets/austerenets/minimize/IntListAddPinLaw" (some 0) with
  accessFlags := 49
  interfaces := #[]
  cf := some (fileOf pool1 26 #[] #[{ accessFlags := 1, nameIndex := 5, descriptorIndex := 6, attributes := #[] }, { accessFlags := 9, nameIndex := 30, descriptorIndex := 31, attributes := #[] }] 49 2 #[] #[])
  fields := #[]
  methods := #[k1m0, k1m1]
  instanceTypes := #[]
  staticTypes := #[]
  resolved := Array.replicate 37 none
  statics := none }

def pool2 : Array CpInfo := pool [(1, .methodref 2 3), (0, .class_ 4), (0, .nameAndType 5 6), (0, u "java/lang/Object"), (0, u "<init>"), (0, u "()V"), (0, .class_ 8), (0, u "com/example/austere_nets/austerenets/minimize/IntList"), (0, .fieldref 7 10), (0, .nameAndType 11 12), (0, u "values"), (0, u "[I"), (0, .fieldref 7 14), (0, .nameAndType 15 16), (0, u "size"), (0, u "I"), (0, .methodref 18 19), (0, .class_ 20), (0, .nameAndType 21 22), (0, u "java/util/Arrays"), (0, u "copyOf"), (0, u "([II)[I"), (0, u "INITIAL_CAPACITY"), (4, u "add"), (0, u "(I)V"), (1, u "get"), (0, u "(I)I"), (0, u "()I"), (0, u "toArray"), (0, u "()[I")] 2

def k2c0 : Code := { maxStack := 2, maxLocals := 1, code := prog_28_method_1_code, exceptionTable := #[], attributes := #[] }
def k2m0 : Method := { name := "<init>", desc := "()V", sig := { parameters := [], returnType := none }, accessFlags := 0, code := some k2c0 }
def k2c1 : Code := { maxStack := 5, maxLocals := 2, code := prog_28_method_2_code, exceptionTable := #[], attributes := #[] }
def k2m1 : Method := { name := "add", desc := "(I)V", sig := { parameters := [.int], returnType := none }, accessFlags := 0, code := some k2c1 }
def k2c2 : Code := { maxStack := 2, maxLocals := 2, code := prog_28_method_3_code, exceptionTable := #[], attributes := #[] }
def k2m2 : Method := { name := "get", desc := "(I)I", sig := { parameters := [.int], returnType := some .int }, accessFlags := 0, code := some k2c2 }
def k2c3 : Code := { maxStack := 1, maxLocals := 1, code := prog_28_method_4_code, exceptionTable := #[], attributes := #[] }
def k2m3 : Method := { name := "size", desc := "()I", sig := { parameters := [], returnType := some .int }, accessFlags := 0, code := some k2c3 }
def k2c4 : Code := { maxStack := 2, maxLocals := 1, code := prog_28_method_5_code, exceptionTable := #[], attributes := #[] }
def k2m4 : Method := { name := "toArray", desc := "()[I", sig := { parameters := [], returnType := some (.array .int) }, accessFlags := 0, code := some k2c4 }
/-- com/example/austere_nets/austerenets/minimize/IntList -/
def k2 : Class := { plain "com/example/austere_nets/austerenets/minimize/IntList" (some 0) with
  accessFlags := 48
  interfaces := #[]
  cf := some (fileOf pool2 7 #[] #[{ accessFlags := 0, nameIndex := 5, descriptorIndex := 6, attributes := #[] }, { accessFlags := 0, nameIndex := 28, descriptorIndex := 29, attributes := #[] }, { accessFlags := 0, nameIndex := 31, descriptorIndex := 32, attributes := #[] }, { accessFlags := 0, nameIndex := 15, descriptorIndex := 33, attributes := #[] }, { accessFlags := 0, nameIndex := 34, descriptorIndex := 35, attributes := #[] }] 48 2 #[] #[{ accessFlags := 26, nameIndex := 23, descriptorIndex := 16, attributes := #[] }, { accessFlags := 2, nameIndex := 11, descriptorIndex := 12, attributes := #[] }, { accessFlags := 2, nameIndex := 15, descriptorIndex := 16, attributes := #[] }])
  fields := #[{ name := "INITIAL_CAPACITY", type := .int, accessFlags := 26, slot := 0, constantValue := 0 }, { name := "values", type := (.array .int), accessFlags := 2, slot := 0, constantValue := 0 }, { name := "size", type := .int, accessFlags := 2, slot := 1, constantValue := 0 }]
  methods := #[k2m0, k2m1, k2m2, k2m3, k2m4]
  instanceTypes := #[(.array .int), .int]
  staticTypes := #[.int]
  resolved := Array.replicate 38 none
  statics := none }

def pool3 : Array CpInfo := pool [(2, .class_ 4), (1, u "java/lang/Object"), (0, u "<init>"), (0, u "()V"), (7, .class_ 16), (1, u "java/util/Arrays"), (57, .class_ 76), (1, u "java/util/Arrays$NaturalOrder"), (36, .class_ 115), (1, u "java/util/Arrays$LegacyMergeSort"), (1, u "Z"), (32, .methodref 151 152), (0, .class_ 153), (0, .nameAndType 154 155), (0, u "java/lang/System"), (0, u "arraycopy"), (0, u "(Ljava/lang/Object;ILjava/lang/Object;II)V"), (146, u "copyOf"), (1, .methodref 305 306), (0, .class_ 307), (0, .nameAndType 308 309), (0, u "java/lang/Math"), (0, u "min"), (0, u "(II)I"), (65, .class_ 376), (0, u "java/util/Arrays$ArrayList"), (68, u "$assertionsDisabled"), (269, u "MIN_ARRAY_SORT_GRAN"), (0, u "I"), (2, u "INSERTIONSORT_THRESHOLD"), (151, u "([II)[I"), (103, .class_ 976), (0, u "java/util/Arrays$ArrayItr")] 52

def k3m0 : Method := { name := "<init>", desc := "()V", sig := { parameters := [], returnType := none }, accessFlags := 2, code := none }
def k3c1 : Code := { maxStack := 6, maxLocals := 3, code := jdk_65_method_123_code, exceptionTable := #[], attributes := #[] }
def k3m1 : Method := { name := "copyOf", desc := "([II)[I", sig := { parameters := [(.array .int), .int], returnType := some (.array .int) }, accessFlags := 9, code := some k3c1 }
/-- java/util/Arrays -/
def k3 : Class := { plain "java/util/Arrays" (some 0) with
  accessFlags := 49
  interfaces := #[]
  cf := some (fileOf pool3 14 #[.nestMembers #[975, 375, 113, 74]] #[{ accessFlags := 2, nameIndex := 5, descriptorIndex := 6, attributes := #[] }, { accessFlags := 9, nameIndex := 302, descriptorIndex := 871, attributes := #[] }] 49 2 #[] #[{ accessFlags := 26, nameIndex := 715, descriptorIndex := 716, attributes := #[] }, { accessFlags := 26, nameIndex := 719, descriptorIndex := 716, attributes := #[] }, { accessFlags := 4120, nameIndex := 445, descriptorIndex := 117, attributes := #[] }])
  fields := #[{ name := "MIN_ARRAY_SORT_GRAN", type := .int, accessFlags := 26, slot := 0, constantValue := 0 }, { name := "INSERTIONSORT_THRESHOLD", type := .int, accessFlags := 26, slot := 1, constantValue := 0 }, { name := "$assertionsDisabled", type := .boolean, accessFlags := 4120, slot := 2, constantValue := 0 }]
  methods := #[k3m0, k3m1]
  instanceTypes := #[]
  staticTypes := #[.int, .int, .boolean]
  resolved := Array.replicate 1029 none
  statics := none }

def pool4 : Array CpInfo := pool [(1, .class_ 2), (0, u "java/lang/Math"), (1, .class_ 6), (1, u "java/lang/Object"), (0, u "<init>"), (0, u "()V"), (89, .class_ 100), (1, u "java/lang/Math$RandomNumberGeneratorHolder"), (71, u "negativeZeroFloatBits"), (0, u "J"), (2, u "negativeZeroDoubleBits"), (24, u "min"), (43, u "$assertionsDisabled"), (0, u "Z"), (88, u "(II)I"), (2, u "twoToTheDoubleScaleDown"), (0, u "D"), (4, u "twoToTheDoubleScaleUp"), (9, u "E"), (3, u "PI"), (2, u "TAU"), (2, u "DEGREES_TO_RADIANS"), (0, u "RADIANS_TO_DEGREES")] 94

def k4m0 : Method := { name := "<init>", desc := "()V", sig := { parameters := [], returnType := none }, accessFlags := 2, code := none }
def k4c1 : Code := { maxStack := 2, maxLocals := 2, code := jdk_29_method_69_code, exceptionTable := #[], attributes := #[] }
def k4m1 : Method := { name := "min", desc := "(II)I", sig := { parameters := [.int, .int], returnType := some .int }, accessFlags := 9, code := some k4c1 }
/-- java/lang/Math -/
def k4 : Class := { plain "java/lang/Math" (some 0) with
  accessFlags := 49
  interfaces := #[]
  cf := some (fileOf pool4 1 #[.nestMembers #[98]] #[{ accessFlags := 2, nameIndex := 7, descriptorIndex := 8, attributes := #[] }, { accessFlags := 9, nameIndex := 201, descriptorIndex := 335, attributes := #[] }] 49 4 #[] #[{ accessFlags := 25, nameIndex := 354, descriptorIndex := 339, attributes := #[] }, { accessFlags := 25, nameIndex := 358, descriptorIndex := 339, attributes := #[] }, { accessFlags := 25, nameIndex := 361, descriptorIndex := 339, attributes := #[] }, { accessFlags := 26, nameIndex := 364, descriptorIndex := 339, attributes := #[] }, { accessFlags := 26, nameIndex := 365, descriptorIndex := 339, attributes := #[] }, { accessFlags := 26, nameIndex := 172, descriptorIndex := 173, attributes := #[] }, { accessFlags := 26, nameIndex := 176, descriptorIndex := 173, attributes := #[] }, { accessFlags := 8, nameIndex := 344, descriptorIndex := 339, attributes := #[] }, { accessFlags := 8, nameIndex := 338, descriptorIndex := 339, attributes := #[] }, { accessFlags := 4120, nameIndex := 245, descriptorIndex := 246, attributes := #[] }])
  fields := #[{ name := "E", type := .double, accessFlags := 25, slot := 0, constantValue := 0 }, { name := "PI", type := .double, accessFlags := 25, slot := 1, constantValue := 0 }, { name := "TAU", type := .double, accessFlags := 25, slot := 2, constantValue := 0 }, { name := "DEGREES_TO_RADIANS", type := .double, accessFlags := 26, slot := 3, constantValue := 0 }, { name := "RADIANS_TO_DEGREES", type := .double, accessFlags := 26, slot := 4, constantValue := 0 }, { name := "negativeZeroFloatBits", type := .long, accessFlags := 26, slot := 5, constantValue := 0 }, { name := "negativeZeroDoubleBits", type := .long, accessFlags := 26, slot := 6, constantValue := 0 }, { name := "twoToTheDoubleScaleUp", type := .double, accessFlags := 8, slot := 7, constantValue := 0 }, { name := "twoToTheDoubleScaleDown", type := .double, accessFlags := 8, slot := 8, constantValue := 0 }, { name := "$assertionsDisabled", type := .boolean, accessFlags := 4120, slot := 9, constantValue := 0 }]
  methods := #[k4m0, k4m1]
  instanceTypes := #[]
  staticTypes := #[.double, .double, .double, .double, .double, .long, .long, .double, .double, .boolean]
  resolved := Array.replicate 460 none
  statics := none }

def pool5 : Array CpInfo := pool [(2, .class_ 4), (1, u "java/lang/Object"), (0, u "<init>"), (0, u "()V"), (1, .class_ 10), (1, u "java/lang/System"), (0, u "allowSecurityManager"), (0, u "I"), (16, u "cons"), (0, u "Ljava/io/Console;"), (77, .class_ 110), (1, u "java/lang/System$CallersHolder"), (43, u "initialErrStream"), (0, u "Ljava/io/PrintStream;"), (19, u "security"), (0, u "Ljava/lang/SecurityManager;"), (31, .class_ 209), (0, u "java/lang/System$1"), (7, u "props"), (0, u "Ljava/util/Properties;"), (2, u "lineSeparator"), (0, u "Ljava/lang/String;"), (96, .class_ 321), (1, u "java/lang/System$LoggerFinder"), (5, .class_ 328), (0, u "java/lang/System$Logger"), (67, u "err"), (2, u "out"), (91, u "notSupportedJnuEncoding"), (15, u "in"), (17, u "initialIn"), (0, u "Ljava/io/InputStream;"), (35, u "bootLayer"), (0, u "Ljava/lang/ModuleLayer;"), (99, .class_ 664), (0, u "java/lang/System$2"), (9, u "NEVER"), (2, u "MAYBE"), (49, u "arraycopy"), (0, u "(Ljava/lang/Object;ILjava/lang/Object;II)V"), (72, .class_ 802), (0, u "java/lang/System$Logger$Level")] 31

def k5m0 : Method := { name := "<init>", desc := "()V", sig := { parameters := [], returnType := none }, accessFlags := 2, code := none }
def k5m1 : Method := { name := "arraycopy", desc := "(Ljava/lang/Object;ILjava/lang/Object;II)V", sig := { parameters := [(.object "java/lang/Object"), .int, (.object "java/lang/Object"), .int, .int], returnType := none }, accessFlags := 265, code := none }
/-- java/lang/System -/
def k5 : Class := { plain "java/lang/System" (some 0) with
  accessFlags := 49
  interfaces := #[]
  cf := some (fileOf pool5 8 #[.nestMembers #[319, 327, 801, 108, 663, 208]] #[{ accessFlags := 2, nameIndex := 5, descriptorIndex := 6, attributes := #[] }, { accessFlags := 265, nameIndex := 727, descriptorIndex := 728, attributes := #[] }] 49 2 #[] #[{ accessFlags := 25, nameIndex := 507, descriptorIndex := 526, attributes := #[] }, { accessFlags := 25, nameIndex := 399, descriptorIndex := 155, attributes := #[] }, { accessFlags := 25, nameIndex := 396, descriptorIndex := 155, attributes := #[] }, { accessFlags := 10, nameIndex := 525, descriptorIndex := 526, attributes := #[] }, { accessFlags := 26, nameIndex := 674, descriptorIndex := 12, attributes := #[] }, { accessFlags := 26, nameIndex := 677, descriptorIndex := 12, attributes := #[] }, { accessFlags := 10, nameIndex := 11, descriptorIndex := 12, attributes := #[] }, { accessFlags := 74, nameIndex := 175, descriptorIndex := 176, attributes := #[] }, { accessFlags := 10, nameIndex := 491, descriptorIndex := 222, attributes := #[] }, { accessFlags := 74, nameIndex := 29, descriptorIndex := 30, attributes := #[] }, { accessFlags := 74, nameIndex := 154, descriptorIndex := 155, attributes := #[] }, { accessFlags := 10, nameIndex := 217, descriptorIndex := 218, attributes := #[] }, { accessFlags := 10, nameIndex := 221, descriptorIndex := 222, attributes := #[] }, { accessFlags := 8, nameIndex := 562, descriptorIndex := 563, attributes := #[] }])
  fields := #[{ name := "in", type := (.object "java/io/InputStream"), accessFlags := 25, slot := 0, constantValue := 0 }, { name := "out", type := (.object "java/io/PrintStream"), accessFlags := 25, slot := 1, constantValue := 0 }, { name := "err", type := (.object "java/io/PrintStream"), accessFlags := 25, slot := 2, constantValue := 0 }, { name := "initialIn", type := (.object "java/io/InputStream"), accessFlags := 10, slot := 3, constantValue := 0 }, { name := "NEVER", type := .int, accessFlags := 26, slot := 4, constantValue := 0 }, { name := "MAYBE", type := .int, accessFlags := 26, slot := 5, constantValue := 0 }, { name := "allowSecurityManager", type := .int, accessFlags := 10, slot := 6, constantValue := 0 }, { name := "security", type := (.object "java/lang/SecurityManager"), accessFlags := 74, slot := 7, constantValue := 0 }, { name := "notSupportedJnuEncoding", type := (.object "java/lang/String"), accessFlags := 10, slot := 8, constantValue := 0 }, { name := "cons", type := (.object "java/io/Console"), accessFlags := 74, slot := 9, constantValue := 0 }, { name := "initialErrStream", type := (.object "java/io/PrintStream"), accessFlags := 74, slot := 10, constantValue := 0 }, { name := "props", type := (.object "java/util/Properties"), accessFlags := 10, slot := 11, constantValue := 0 }, { name := "lineSeparator", type := (.object "java/lang/String"), accessFlags := 10, slot := 12, constantValue := 0 }, { name := "bootLayer", type := (.object "java/lang/ModuleLayer"), accessFlags := 8, slot := 13, constantValue := 0 }]
  methods := #[k5m0, k5m1]
  instanceTypes := #[]
  staticTypes := #[(.object "java/io/InputStream"), (.object "java/io/PrintStream"), (.object "java/io/PrintStream"), (.object "java/io/InputStream"), .int, .int, .int, (.object "java/lang/SecurityManager"), (.object "java/lang/String"), (.object "java/io/Console"), (.object "java/io/PrintStream"), (.object "java/util/Properties"), (.object "java/lang/String"), (.object "java/lang/ModuleLayer")]
  resolved := Array.replicate 834 none
  statics := none }

def pool6 : Array CpInfo := pool [(1, u "java/lang/Cloneable"), (0, .class_ 1), (0, u "java/lang/Object"), (0, .class_ 3)] 3

/-- java/lang/Cloneable -/
def k6 : Class := { plain "java/lang/Cloneable" (some 0) with
  accessFlags := 1537
  interfaces := #[]
  cf := some (fileOf pool6 2 #[] #[] 1537 4 #[] #[])
  fields := #[]
  methods := #[]
  instanceTypes := #[]
  staticTypes := #[]
  resolved := Array.replicate 8 none
  statics := none }

def pool7 : Array CpInfo := pool [(1, u "java/io/Serializable"), (0, .class_ 1), (0, u "java/lang/Object"), (0, .class_ 3)] 3

/-- java/io/Serializable -/
def k7 : Class := { plain "java/io/Serializable" (some 0) with
  accessFlags := 1537
  interfaces := #[]
  cf := some (fileOf pool7 2 #[] #[] 1537 4 #[] #[])
  fields := #[]
  methods := #[]
  instanceTypes := #[]
  staticTypes := #[]
  resolved := Array.replicate 8 none
  statics := none }

/-- the primitive byte -/
def k8 : Class := { plain "byte" none with kind := .primitive 'B', accessFlags := 0x411 }
/-- [B -/
def k9 : Class := { plain "[B" (some 0) with kind := .array 8 .byte, interfaces := #[6, 7], accessFlags := 1041 }

/-- the primitive int -/
def k10 : Class := { plain "int" none with kind := .primitive 'I', accessFlags := 0x411 }
/-- [I -/
def k11 : Class := { plain "[I" (some 0) with kind := .array 10 .int, interfaces := #[6, 7], accessFlags := 1041 }

def heap : Heap := #[]
def classes : Array Class := #[k0, k1, k2, k3, k4, k5, k6, k7, k8, k9, k10, k11]
def interned : List (Array UInt16 × Addr) := []
def slotsUsed : Nat := 0
def theMethod : MethodId := ⟨1, 1⟩
def args0 : Array Value := #[.int 5, .int 5, .int 5, .int 5]
def aboutOver (below : List Frame) : State where
  vm := { classes := classes, interned := interned.toArray }
  heap := heap
  slotsUsed := slotsUsed
  threads := #[{ frames := .invoking theMethod args0 :: below }]
def below0 : List Frame := [.native { method := ⟨0, 0⟩, args := #[] }]
def about1 : State := aboutOver below0
def p0 : Program := .bare "" "" ""
def e0 : Env := launch0.env 0 0 0
theorem w_frames : about1.frames = Frame.invoking theMethod args0 :: below0 := rfl
set_option maxRecDepth 65536 in
theorem w_args : argsFit about1.vm theMethod args0 = true := by decide +kernel
set_option maxRecDepth 65536 in
theorem w_heap : heapFits about1 = true := by decide +kernel
set_option maxRecDepth 65536 in
theorem w_runnable : about1.curStatus? = some .runnable := by decide +kernel
set_option maxRecDepth 65536 in
theorem w_alone : about1.alone = true := by decide +kernel
set_option maxRecDepth 65536 in
theorem w_named : about1.methodNamed? x = some theMethod := by decide +kernel
set_option maxRecDepth 65536 in
theorem w_hears : about1.hears theMethod below0 = true := by decide +kernel
set_option maxRecDepth 65536 in
theorem w_ripe : about1.ripe theMethod args0 below0 = true := by decide +kernel
theorem w_running : about1.status = .running := rfl
set_option maxRecDepth 65536 in
theorem w_room : about1.hasRoom e0.platform room_1 = true :=
  launch0.hasRoom_least _ room_1 (by decide +kernel) (by decide +kernel) (by decide +kernel) (by decide +kernel) (by decide +kernel) (by decide +kernel)
theorem allAtoms_all (ts : List Jvm.Cond) (a : Array Jvm.Value) (st : Jvm.State) : (allAtoms ts).before a st = ts.all (fun c => c.before a st) := by
  induction ts with
  | nil => rfl
  | cons c t ih =>
    show (Jvm.Cond.and c (allAtoms t)).before a st = _
    rw [Jvm.Cond.before_and, ih, List.all_cons]
def words1 : List Jvm.Cond := Jvm.Cond.code x code maxLocals ret :: tables_1
/-- a 'code' word, met by the world's own term for the bytes: nothing is compared byte by byte -/
theorem code_word {y : MethodName} {bytes : ByteArray} {mx : Nat} {rt : Option FieldType} {a : Array Value} {s : State} {m : MethodId} {meth : Method} {c : Code} (h1 : s.methodNamed? y = some m) (h2 : s.vm.method? m = some meth) (h3 : meth.code = some c) (h4 : c.code = bytes)
    (h5 : (c.maxLocals == mx && c.exceptionTable.isEmpty && decide (c.maxStack ≤ mostOperands) && decide (meth.sig.returnType = rt) && !meth.locks && decide (parseMethodDescriptor y.desc = some meth.sig)) = true) : (Jvm.Cond.code y bytes mx rt).before a s = true := by
  simp only [Bool.and_eq_true, beq_iff_eq, Bool.not_eq_true', decide_eq_true_eq] at h5
  obtain ⟨⟨⟨⟨⟨g1, g2⟩, g3⟩, g4⟩, g5⟩, g6⟩ := h5
  simp [Cond.before, Cond.holds, Cond.value, h1, h2, h3, h4, g1, g2, g3, g4, g5, g6]
def isCode : Jvm.Cond → Bool
  | .code _ _ _ _ => true
  | _ => false
theorem all_split {L : List Jvm.Cond} {P : Jvm.Cond → Bool} (h1 : L.all (fun c => isCode c || P c) = true) (h2 : ∀ c ∈ L.filter isCode, P c = true) : L.all P = true := by
  refine List.all_eq_true.mpr fun c hc => ?_
  have h := List.all_eq_true.mp h1 c hc
  rcases Bool.eq_false_or_eq_true (isCode c) with hi | hi
  · exact h2 c (List.mem_filter.mpr ⟨hc, hi⟩)
  · simpa [hi] using h
set_option maxRecDepth 65536 in
theorem w_c0 : (Jvm.Cond.code x code maxLocals ret).before args0 about1 = true := code_word (m := ⟨1, 1⟩) (meth := k1m1) (c := k1c1) (by decide +kernel) rfl rfl rfl (by decide +kernel)
set_option maxRecDepth 65536 in
theorem w_c1 : (Jvm.Cond.code ({ cls := "com/example/austere_nets/austerenets/minimize/IntList", name := "<init>", desc := "()V" } : Jvm.MethodName) prog_28_method_1_code (1 : Nat) (Option.none : Option Jvm.ClassFile.FieldType)).before args0 about1 = true := code_word (m := ⟨2, 0⟩) (meth := k2m0) (c := k2c0) (by decide +kernel) rfl rfl rfl (by decide +kernel)
set_option maxRecDepth 65536 in
theorem w_c2 : (Jvm.Cond.code ({ cls := "java/lang/Object", name := "<init>", desc := "()V" } : Jvm.MethodName) object_method_1_code (1 : Nat) (Option.none : Option Jvm.ClassFile.FieldType)).before args0 about1 = true := code_word (m := ⟨0, 0⟩) (meth := k0m0) (c := k0c0) (by decide +kernel) rfl rfl rfl (by decide +kernel)
set_option maxRecDepth 65536 in
theorem w_c3 : (Jvm.Cond.code ({ cls := "com/example/austere_nets/austerenets/minimize/IntList", name := "add", desc := "(I)V" } : Jvm.MethodName) prog_28_method_2_code (2 : Nat) (Option.none : Option Jvm.ClassFile.FieldType)).before args0 about1 = true := code_word (m := ⟨2, 1⟩) (meth := k2m1) (c := k2c1) (by decide +kernel) rfl rfl rfl (by decide +kernel)
set_option maxRecDepth 65536 in
theorem w_c4 : (Jvm.Cond.code ({ cls := "com/example/austere_nets/austerenets/minimize/IntList", name := "size", desc := "()I" } : Jvm.MethodName) prog_28_method_4_code (1 : Nat) (Option.some Jvm.ClassFile.FieldType.int)).before args0 about1 = true := code_word (m := ⟨2, 3⟩) (meth := k2m3) (c := k2c3) (by decide +kernel) rfl rfl rfl (by decide +kernel)
set_option maxRecDepth 65536 in
theorem w_c5 : (Jvm.Cond.code ({ cls := "com/example/austere_nets/austerenets/minimize/IntList", name := "get", desc := "(I)I" } : Jvm.MethodName) prog_28_method_3_code (2 : Nat) (Option.some Jvm.ClassFile.FieldType.int)).before args0 about1 = true := code_word (m := ⟨2, 2⟩) (meth := k2m2) (c := k2c2) (by decide +kernel) rfl rfl rfl (by decide +kernel)
set_option maxRecDepth 65536 in
theorem w_c6 : (Jvm.Cond.code ({ cls := "com/example/austere_nets/austerenets/minimize/IntList", name := "toArray", desc := "()[I" } : Jvm.MethodName) prog_28_method_5_code (1 : Nat) (Option.some (Jvm.ClassFile.FieldType.array Jvm.ClassFile.FieldType.int))).before args0 about1 = true := code_word (m := ⟨2, 4⟩) (meth := k2m4) (c := k2c4) (by decide +kernel) rfl rfl rfl (by decide +kernel)
set_option maxRecDepth 65536 in
theorem w_c7 : (Jvm.Cond.code ({ cls := "java/util/Arrays", name := "copyOf", desc := "([II)[I" } : Jvm.MethodName) jdk_65_method_123_code (3 : Nat) (Option.some (Jvm.ClassFile.FieldType.array Jvm.ClassFile.FieldType.int))).before args0 about1 = true := code_word (m := ⟨3, 1⟩) (meth := k3m1) (c := k3c1) (by decide +kernel) rfl rfl rfl (by decide +kernel)
set_option maxRecDepth 65536 in
theorem w_c8 : (Jvm.Cond.code ({ cls := "java/lang/Math", name := "min", desc := "(II)I" } : Jvm.MethodName) jdk_29_method_69_code (2 : Nat) (Option.some Jvm.ClassFile.FieldType.int)).before args0 about1 = true := code_word (m := ⟨4, 1⟩) (meth := k4m1) (c := k4c1) (by decide +kernel) rfl rfl rfl (by decide +kernel)
def codes1 : List Jvm.Cond := [Jvm.Cond.code x code maxLocals ret, Jvm.Cond.code ({ cls := "com/example/austere_nets/austerenets/minimize/IntList", name := "<init>", desc := "()V" } : Jvm.MethodName) prog_28_method_1_code (1 : Nat) (Option.none : Option Jvm.ClassFile.FieldType), Jvm.Cond.code ({ cls := "java/lang/Object", name := "<init>", desc := "()V" } : Jvm.MethodName) object_method_1_code (1 : Nat) (Option.none : Option Jvm.ClassFile.FieldType), Jvm.Cond.code ({ cls := "com/example/austere_nets/austerenets/minimize/IntList", name := "add", desc := "(I)V" } : Jvm.MethodName) prog_28_method_2_code (2 : Nat) (Option.none : Option Jvm.ClassFile.FieldType), Jvm.Cond.code ({ cls := "com/example/austere_nets/austerenets/minimize/IntList", name := "size", desc := "()I" } : Jvm.MethodName) prog_28_method_4_code (1 : Nat) (Option.some Jvm.ClassFile.FieldType.int), Jvm.Cond.code ({ cls := "com/example/austere_nets/austerenets/minimize/IntList", name := "get", desc := "(I)I" } : Jvm.MethodName) prog_28_method_3_code (2 : Nat) (Option.some Jvm.ClassFile.FieldType.int), Jvm.Cond.code ({ cls := "com/example/austere_nets/austerenets/minimize/IntList", name := "toArray", desc := "()[I" } : Jvm.MethodName) prog_28_method_5_code (1 : Nat) (Option.some (Jvm.ClassFile.FieldType.array Jvm.ClassFile.FieldType.int)), Jvm.Cond.code ({ cls := "java/util/Arrays", name := "copyOf", desc := "([II)[I" } : Jvm.MethodName) jdk_65_method_123_code (3 : Nat) (Option.some (Jvm.ClassFile.FieldType.array Jvm.ClassFile.FieldType.int)), Jvm.Cond.code ({ cls := "java/lang/Math", name := "min", desc := "(II)I" } : Jvm.MethodName) jdk_29_method_69_code (2 : Nat) (Option.some Jvm.ClassFile.FieldType.int)]
set_option maxRecDepth 65536 in
theorem codes_eq : words1.filter isCode = codes1 := rfl
theorem w_codes : ∀ c ∈ words1.filter isCode, c.before args0 about1 = true := by
  rw [codes_eq]
  intro c hc
  simp only [codes1, List.mem_cons, List.not_mem_nil, or_false] at hc
  rcases hc with rfl | rfl | rfl | rfl | rfl | rfl | rfl | rfl | rfl
  · exact w_c0
  · exact w_c1
  · exact w_c2
  · exact w_c3
  · exact w_c4
  · exact w_c5
  · exact w_c6
  · exact w_c7
  · exact w_c8
set_option maxRecDepth 65536 in
theorem w_t1 : (words1.take 24).all (fun c => isCode c || c.before args0 about1) = true := by decide +kernel
set_option maxRecDepth 65536 in
theorem w_t2 : (words1.drop 24).all (fun c => isCode c || c.before args0 about1) = true := by decide +kernel
theorem w_tables : (allAtoms (Jvm.Cond.code x code maxLocals ret :: tables_1)).before args0 about1 = true := by
  rw [allAtoms_all]
  show words1.all (fun c => c.before args0 about1) = true
  refine all_split ?_ w_codes
  rw [← List.take_append_drop 24 words1, List.all_append, w_t1, w_t2]
  rfl
set_option maxRecDepth 65536 in
theorem w_case : (Jvm.Cond.and given_1 narrow_1).before args0 about1 = true := by decide +kernel
theorem w_applies : (headSpec (Jvm.Cond.code x code maxLocals ret :: tables_1) room_1).applies x e0.platform about1 = true :=
  (Spec.applies_iff w_frames).mpr ⟨w_running, w_runnable, w_alone, w_named, w_hears, w_ripe, w_room, w_tables⟩
theorem atStart : AtStart classFile x code maxLocals ret World_1 tables_1 room_1 Calls_1 rest_1 Pre_1 launch0 p0 e0 about1 theMethod args0 below0 :=
  ⟨lists_1, trivial, launch0.admits_env _ _ _, launch0.least_env, fairChoices_fair.cas, fairChoices_fair.clock, w_frames, w_args, w_heap, w_applies, trivial, trivial, w_case⟩
end start1
theorem witness_1 : WitnessClaimed_1 := ⟨start1.p0, start1.e0, start1.about1, start1.theMethod, start1.args0, start1.below0, start1.atStart⟩
end Jvm.Pilot.@@N@@
