import JvmDerived
import JvmDerived.Pilot.@@N@@Statement
import JvmDerived.Pilot.@@N@@Code
set_option linter.unusedVariables false
set_option linter.unusedSimpArgs false
namespace Jvm.RoadKit
open Sem ClassFile Op Lib Jvm.Stand Jvm.Free Jvm.LawKit
/-- from T the run comes to a state of which Φ holds -/
def own_R (tb : Tables) (e : Env) (below : List Frame) (Φ : State → Prop) (T : State) : Prop := ∃ T', Φ T' ∧ ∀ t, Steps tb e below T' t → Steps tb e below T t
theorem own_leaf {tb : Tables} {e : Env} {below : List Frame} {Φ : State → Prop} {T : State} (h : Φ T) : own_R tb e below Φ T := ⟨T, h, fun _ k => k⟩
theorem own_go {tb : Tables} {e : Env} {below : List Frame} {Φ : State → Prop} {T T1 : State} (h : ∀ t, Steps tb e below T1 t → Steps tb e below T t) (g : own_R tb e below Φ T1) : own_R tb e below Φ T := by
  obtain ⟨T', h1, h2⟩ := g
  exact ⟨T', h1, fun t k => h t (h2 t k)⟩
theorem own_to {tb : Tables} {e : Env} {below : List Frame} {Φ Ψ : State → Prop} {T : State} (h : own_R tb e below Φ T) (g : ∀ U, Φ U → own_R tb e below Ψ U) : own_R tb e below Ψ T := by
  obtain ⟨T', h1, h2⟩ := h
  exact own_go h2 (g T' h1)
/-- the call has come to its end: what it returns and leaves -/
def own_F (below : List Frame) (s : State) (Q : Option Value → Heap → List Loc → Prop) (rc rs : Nat) (U : State) : Prop := U.status = .running ∧ ∃ v L, Ended U below (.returned v) ∧ Q v U.heap L ∧ FrameEnd s (.returned v) U L rc rs
theorem own_fin {tb : Tables} {e : Env} {below : List Frame} {s : State} {Q : Option Value → Heap → List Loc → Prop} {rc rs : Nat} {T : State} (h : own_R tb e below (own_F below s Q rc rs) T) :
    ∃ s₂ o, Steps tb e below T s₂ ∧ s₂.status = .running ∧ Ended s₂ below o ∧ ∃ v L, o = .returned v ∧ Q v s₂.heap L ∧ FrameEnd s o s₂ L rc rs := by
  obtain ⟨T', ⟨h1, v, L, h2, h3, h4⟩, h5⟩ := h
  exact ⟨T', .returned v, h5 _ (Steps.refl _), h1, h2, v, L, rfl, h3, h4⟩
section New
variable {p : Program} {l : Launch} {e : Env} {R : Room} {s : State} {m : MethodId} {args : Array Value} {below : List Frame} {meth : Method} {c : Code} {T : State} {locs : List Loc} {cells slots : Nat}
theorem retI (X : Stand p l e R s m args below meth c T locs cells slots) (hx : p.tables.exec = Jvm.exec) {pc : Nat} {Ls : Array Slot} {z : Int32} {rest : List Value} (hret : meth.sig.returnType = some .int) (hd : decode c.code pc = .ok (.ireturn, 1)) {fs : List Frame}
    (hl : ∀ (f : JFrame) (acts : List Action), f.method = m → f.locked = none → f.entered = [] → (doReturn e (T.setTop f) acts (some (.int z))).1 = T.setFrames fs) : Steps p.tables e below (T.setTop (mkF m pc Ls (.int z :: rest))) (T.setFrames fs) := by
  have hm' : T.vm.method? m = some meth := X.method'
  have hn : narrow .int (.int z) = .int z := rfl
  show Steps p.tables e below (T.setTop { method := m, pc := pc, locals := Ls, stack := _ :: rest, locked := none }) _
  jvm_step X.here [X.here.top, hx, hd, hm', hret, hn]
  first | (intro acts; rw [hl _ acts rfl rfl rfl]) | rw [hl _ _ rfl rfl rfl]
  exact Steps.refl _
variable {Q : Option Value → Heap → List Loc → Prop} {rc rs : Nat}
theorem own_end (X : Stand p l e R s m args below meth c T locs cells slots) (hlk : meth.locks = false) {v : Option Value} (hv : meth.sig.returnType = none → v = none) (hQ : Q v T.heap locs) (hc : cells ≤ rc) (hs : slots ≤ rs) {g : JFrame}
    (hst : ∀ fs, (∀ (f : JFrame) (acts : List Action), f.method = m → f.locked = none → f.entered = [] → (doReturn e (T.setTop f) acts v).1 = T.setFrames fs) → Steps p.tables e below (T.setTop g) (T.setFrames fs)) : own_R p.tables e below (own_F below s Q rc rs) (T.setTop g) := by
  obtain ⟨fs, hr, hrun, hended, hW, hsame⟩ := X.leave hv hlk
  exact ⟨T.setFrames fs, ⟨hrun, v, locs, hended, hQ, ⟨_, rfl⟩, hW, hsame.mono hc hs⟩, fun t k => (hst fs hr).trans k⟩
theorem own_ret0 (X : Stand p l e R s m args below meth c T locs cells slots) (hx : p.tables.exec = Jvm.exec) {pc : Nat} {Ls : Array Slot} (hret : meth.sig.returnType = none) (hd : decode c.code pc = .ok (.return_, 1)) (hlk : meth.locks = false) (hQ : Q none T.heap locs) (hc : cells ≤ rc) (hs : slots ≤ rs) :
    own_R p.tables e below (own_F below s Q rc rs) (T.setTop (mkF m pc Ls [])) := own_end X hlk (fun _ => rfl) hQ hc hs fun _ hr => X.returnOut hx hret hd hr
theorem own_retI (X : Stand p l e R s m args below meth c T locs cells slots) (hx : p.tables.exec = Jvm.exec) {pc : Nat} {Ls : Array Slot} {z : Int32} {rest : List Value} (hret : meth.sig.returnType = some .int) (hd : decode c.code pc = .ok (.ireturn, 1)) (hlk : meth.locks = false) (hQ : Q (some (.int z)) T.heap locs) (hc : cells ≤ rc) (hs : slots ≤ rs) :
    own_R p.tables e below (own_F below s Q rc rs) (T.setTop (mkF m pc Ls (.int z :: rest))) := own_end X hlk (fun h => by rw [hret] at h; cases h) hQ hc hs fun _ hr => retI X hx hret hd hr
theorem own_retN (X : Stand p l e R s m args below meth c T locs cells slots) (hx : p.tables.exec = Jvm.exec) {t : FieldType} (ht : t = .boolean ∨ t = .byte ∨ t = .char ∨ t = .short) {pc : Nat} {Ls : Array Slot} {z : Int32} {rest : List Value} (hret : meth.sig.returnType = some t) (hd : decode c.code pc = .ok (.ireturn, 1)) (hlk : meth.locks = false) (hQ : Q (some (.int (nar t z))) T.heap locs) (hc : cells ≤ rc) (hs : slots ≤ rs) :
    own_R p.tables e below (own_F below s Q rc rs) (T.setTop (mkF m pc Ls (.int z :: rest))) := own_end X hlk (fun h => by rw [hret] at h; cases h) hQ hc hs fun _ hr => retN X hx hret ht hd hr
theorem own_retL (X : Stand p l e R s m args below meth c T locs cells slots) (hx : p.tables.exec = Jvm.exec) {pc : Nat} {Ls : Array Slot} {z : Int64} {rest : List Value} (hret : meth.sig.returnType = some .long) (hd : decode c.code pc = .ok (.lreturn, 1)) (hlk : meth.locks = false) (hQ : Q (some (.long z)) T.heap locs) (hc : cells ≤ rc) (hs : slots ≤ rs) :
    own_R p.tables e below (own_F below s Q rc rs) (T.setTop (mkF m pc Ls (.long z :: rest))) := own_end X hlk (fun h => by rw [hret] at h; cases h) hQ hc hs fun _ hr => retOut X hx hret rfl (Or.inr (Or.inl ⟨rfl, rfl, z, rfl⟩)) hd hr
theorem own_retA (X : Stand p l e R s m args below meth c T locs cells slots) (hx : p.tables.exec = Jvm.exec) {t : FieldType} {pc : Nat} {Ls : Array Slot} {w : Value} {rest : List Value} (ht : t.isReference = true) (hw : w.isRef = true) (hret : meth.sig.returnType = some t) (hd : decode c.code pc = .ok (.areturn, 1)) (hlk : meth.locks = false) (hQ : Q (some w) T.heap locs) (hc : cells ≤ rc) (hs : slots ≤ rs) :
    own_R p.tables e below (own_F below s Q rc rs) (T.setTop (mkF m pc Ls (w :: rest))) := own_end X hlk (fun h => by rw [hret] at h; cases h) hQ hc hs fun _ hr => retOut X hx hret (by cases t <;> first | rfl | cases ht) (Or.inr (Or.inr (Or.inr (Or.inr ⟨rfl, ht, hw⟩)))) hd hr
variable {Z : State} {h : Heap} {a : Addr} {k : ClassId} {n : Int32} {vs : List Value} {dv : Value}
theorem own_len (X : Stand p l e R s m args below meth c T locs cells slots) (hx : p.tables.exec = Jvm.exec) (hZ : Z.Warmed39 s.vm) (eT : T.heap = h) {ty : FieldType} (V : Arv Z h a k ty n vs dv) {g : JFrame} (hg : g.method = m) {rest : List Value} (hs : g.stack = .ref a :: rest) (hd : decode c.code g.pc = .ok (.arraylength, 1)) :
    ∀ target, Steps p.tables e below (T.setTop { g with pc := g.pc + 1, stack := .int n :: rest }) target → Steps p.tables e below (T.setTop g) target := by
  obtain ⟨cl, A, -, S, N, -, -⟩ := V
  intro t kt
  refine X.arraylength hx (by rw [eT]; exact A.1) (State.isArrayOf_alike hZ.alike A.2.1) hg hs hd t ?_
  rw [len_of S N]; exact kt
theorem own_ldI (X : Stand p l e R s m args below meth c T locs cells slots) (hx : p.tables.exec = Jvm.exec) (hZ : Z.Warmed39 s.vm) (eT : T.heap = h) (V : Arv Z h a k .int n vs dv) {j : Int32} {i : Nat} (hj : ¬ j < 0 ∧ j < n) (hi : j.toNatClampNeg = i) {v : Value} (hv : vs.getD i dv = v) {g : JFrame} (hg : g.method = m) {rest : List Value} (hs : g.stack = .int j :: .ref a :: rest) (hd : decode c.code g.pc = .ok (.iaload, 1)) :
    ∀ target, Steps p.tables e below (T.setTop { g with pc := g.pc + 1, stack := v :: rest }) target → Steps p.tables e below (T.setTop g) target := by
  obtain ⟨cl, A, -, S, N, H, -⟩ := V
  subst hi
  intro t kt
  exact X.iaload hx (by rw [eT]; exact A.1) (State.isArrayOf_alike hZ.alike A.2.1) A.2.2 (inb_of S hj) (H.at (inb_of S hj) hv) hg hs hd t kt
theorem own_ldJ (X : Stand p l e R s m args below meth c T locs cells slots) (hx : p.tables.exec = Jvm.exec) (hZ : Z.Warmed39 s.vm) (eT : T.heap = h) (V : Arv Z h a k .long n vs dv) {j : Int32} {i : Nat} (hj : ¬ j < 0 ∧ j < n) (hi : j.toNatClampNeg = i) {v : Value} (hv : vs.getD i dv = v) {g : JFrame} (hg : g.method = m) {rest : List Value} (hs : g.stack = .int j :: .ref a :: rest) (hd : decode c.code g.pc = .ok (.laload, 1)) :
    ∀ target, Steps p.tables e below (T.setTop { g with pc := g.pc + 1, stack := v :: rest }) target → Steps p.tables e below (T.setTop g) target := by
  obtain ⟨cl, A, -, S, N, H, -⟩ := V
  subst hi
  intro t kt
  exact X.laload hx (by rw [eT]; exact A.1) (State.isArrayOf_alike hZ.alike A.2.1) A.2.2 (inb_of S hj) (H.at (inb_of S hj) hv) hg hs hd t kt
theorem own_ldB (X : Stand p l e R s m args below meth c T locs cells slots) (hx : p.tables.exec = Jvm.exec) (hZ : Z.Warmed39 s.vm) (eT : T.heap = h) (V : Arv Z h a k .byte n vs dv) {j : Int32} {i : Nat} (hj : ¬ j < 0 ∧ j < n) (hi : j.toNatClampNeg = i) {v : Value} (hv : vs.getD i dv = v) {g : JFrame} (hg : g.method = m) {rest : List Value} (hs : g.stack = .int j :: .ref a :: rest) (hd : decode c.code g.pc = .ok (.baload, 1)) :
    ∀ target, Steps p.tables e below (T.setTop { g with pc := g.pc + 1, stack := v :: rest }) target → Steps p.tables e below (T.setTop g) target := by
  obtain ⟨cl, A, -, S, N, H, -⟩ := V
  subst hi
  intro t kt
  exact X.baloadBytes hx (by rw [eT]; exact A.1) (State.isArrayOf_alike hZ.alike A.2.1) A.2.2 (inb_of S hj) (H.at (inb_of S hj) hv) hg hs hd t kt
theorem own_stI (X : Stand p l e R s m args below meth c T locs cells slots) (hx : p.tables.exec = Jvm.exec) (hZ : Z.Warmed39 s.vm) (eT : T.heap = h) (V : Arv Z h a k .int n vs dv) {j : Int32} {i : Nat} (hj : ¬ j < 0 ∧ j < n) (hi : j.toNatClampNeg = i) (hlen : i < vs.length) {x : Int32} {w : Value} (hw : w = .int x) {g : JFrame} (hg : g.method = m) {rest : List Value} (hs : g.stack = .int x :: .int j :: .ref a :: rest) (hd : decode c.code g.pc = .ok (.iastore, 1)) :
    ∃ T' h' sl, Stand p l e R s m args below meth c T' (locs ++ [⟨a, sl⟩]) cells slots ∧ T'.heap = h' ∧ Wr h h' a sl w ∧ Arv Z h' a k .int n (vs.set i w) dv ∧ ∀ target, Steps p.tables e below (T'.setTop { g with pc := g.pc + 1, stack := rest }) target → Steps p.tables e below (T.setTop g) target := by
  obtain ⟨cl, A, q1, S, N, H, G⟩ := V
  subst hw
  obtain ⟨T', h', X', e', W', st⟩ := stI X hx hZ eT A (j := j) (inb_of S hj) hg hs hd
  exact ⟨T', h', _, X', e', W', Arv.set A q1 S N H G rfl W' i hi hlen, st⟩
theorem own_stJ (X : Stand p l e R s m args below meth c T locs cells slots) (hx : p.tables.exec = Jvm.exec) (hZ : Z.Warmed39 s.vm) (eT : T.heap = h) (V : Arv Z h a k .long n vs dv) {j : Int32} {i : Nat} (hj : ¬ j < 0 ∧ j < n) (hi : j.toNatClampNeg = i) (hlen : i < vs.length) {x : Int64} {w : Value} (hw : w = .long x) {g : JFrame} (hg : g.method = m) {rest : List Value} (hs : g.stack = .long x :: .int j :: .ref a :: rest) (hd : decode c.code g.pc = .ok (.lastore, 1)) :
    ∃ T' h' sl, Stand p l e R s m args below meth c T' (locs ++ [⟨a, sl⟩]) cells slots ∧ T'.heap = h' ∧ Wr h h' a sl w ∧ Arv Z h' a k .long n (vs.set i w) dv ∧ ∀ target, Steps p.tables e below (T'.setTop { g with pc := g.pc + 1, stack := rest }) target → Steps p.tables e below (T.setTop g) target := by
  obtain ⟨cl, A, q1, S, N, H, G⟩ := V
  subst hw
  obtain ⟨T', h', X', e', W', st⟩ := stJ X hx hZ eT A (j := j) (inb_of S hj) hg hs hd
  exact ⟨T', h', _, X', e', W', Arv.set A q1 S N H G rfl W' i hi hlen, st⟩
end New
end Jvm.RoadKit
namespace Jvm.Pilot.@@N@@
open Jvm Jvm.ClassFile Sem Op Lib Jvm.Free Jvm.Stand Jvm.LawKit Jvm.RoadKit Bundle Jvm.Pilot.@@N@@.Jvm.D
theorem pd_0 : parseMethodDescriptor "(II)I" = some ⟨[.int, .int], some .int⟩ := by decide +kernel
theorem pd_1 : parseMethodDescriptor "([II)[I" = some ⟨[(.array .int), .int], some (.array .int)⟩ := by decide +kernel
theorem pd_2 : parseMethodDescriptor "()V" = some ⟨[], none⟩ := by decide +kernel
theorem pd_3 : parseMethodDescriptor "()[I" = some ⟨[], some (.array .int)⟩ := by decide +kernel
theorem pd_4 : parseMethodDescriptor "([IIIIIII)Z" = some ⟨[(.array .int), .int, .int, .int, .int, .int, .int], some .boolean⟩ := by decide +kernel
theorem pd_5 : parseMethodDescriptor "(I)V" = some ⟨[.int], none⟩ := by decide +kernel

def own_min (a b : Int32) : Int32 := if b < a then b else a
theorem own_min_eq {z n : Int32} (h : n < z) : own_min z n = n := by rw [own_min, if_pos h]
theorem own_lt_nat {a b : Int32} (h0 : ¬ a < 0) (h : a < b) : a.toNatClampNeg ≤ b.toNatClampNeg := by
  rw [Int32.lt_iff_toInt_lt] at h0 h
  have : (0 : Int32).toInt = 0 := rfl
  simp only [Int32.toNatClampNeg]; omega
theorem own_six (x n : Int32) (h : (x &&& (2147483647 : Int32)) % (6 : Int32) = n) : n = (0 : Int32) ∨ n = (1 : Int32) ∨ n = (2 : Int32) ∨ n = (3 : Int32) ∨ n = (4 : Int32) ∨ n = (5 : Int32) := by
  have h1 := (c_and x 2147483647 (by decide)).1
  have h2 := (c_irem (x &&& 2147483647) 6 6 rfl).1 h1
  rw [h] at h2
  simp only [← Int32.toInt_inj, show (0 : Int32).toInt = 0 from rfl, show (1 : Int32).toInt = 1 from rfl, show (2 : Int32).toInt = 2 from rfl, show (3 : Int32).toInt = 3 from rfl, show (4 : Int32).toInt = 4 from rfl, show (5 : Int32).toInt = 5 from rfl]
  omega
theorem d5_0 : decode jdk_29_method_69_code 0 = .ok (.iload_n 0, 1) := by decide +kernel
theorem d5_1 : decode jdk_29_method_69_code 1 = .ok (.iload_n 1, 1) := by decide +kernel
theorem d5_2 : decode jdk_29_method_69_code 2 = .ok (.if_icmp .gt 7, 3) := by decide +kernel
theorem d5_5 : decode jdk_29_method_69_code 5 = .ok (.iload_n 0, 1) := by decide +kernel
theorem d5_6 : decode jdk_29_method_69_code 6 = .ok (.goto 4, 3) := by decide +kernel
theorem d5_9 : decode jdk_29_method_69_code 9 = .ok (.iload_n 1, 1) := by decide +kernel
theorem d5_10 : decode jdk_29_method_69_code 10 = .ok (.ireturn, 1) := by decide +kernel
theorem ef_5 (m : MethodId) (x0 : Int32) (x1 : Int32) : entryFrame m #[(.int x0), (.int x1)] 2 = mkF m 0 #[.val (.int x0), .val (.int x1)] [] := by first | (simp [entryFrame, mkF, argsToLocals, Value.category]; done) | rfl
def Q5 (Z : State) (p1 : Int32) (p2 : Int32) (h0 : Heap) (n0 : Nat) (v : Option Value) (h : Heap) (L : List Loc) : Prop := v = some (.int (own_min p1 p2)) ∧ Fr n0 L ∧ h = h0
set_option maxRecDepth 65536 in
set_option maxHeartbeats 40000000 in
theorem rm5 (l : Launch) (Z : State) (a0 : Array Value) (hw : ∀ d ∈ tables_1, d.before a0 Z = true) (ws : List Jvm.Cond) (p1 : Int32) (p2 : Int32) (h0 : Heap) (n0 : Nat) (ZS : n0 ≤ h0.size) :
    MetFree l (⟨"java/lang/Math", "min", "(II)I"⟩ : MethodName) (head1 (Jvm.Cond.code (⟨"java/lang/Math", "min", "(II)I"⟩ : MethodName) jdk_29_method_69_code 2 (some .int) :: ws) ({ frames := 0, cells := 0, slots := 0, locals := 0 } : Room)) (fun a U => a = #[(.int p1), (.int p2)] ∧ Z.Warmed39 U.vm ∧ U.heap = h0) (fun _ _ _ _ _ => True) (fun _ U o U' => ∃ v L, o = .returned v ∧ Q5 Z p1 p2 h0 n0 v U'.heap L ∧ FrameEnd U o U' L ({ frames := 0, cells := 0, slots := 0, locals := 0 } : Room).cells ({ frames := 0, cells := 0, slots := 0, locals := 0 } : Room).slots) := by
  refine MetFree.of_bodySF (Jvm.Free.JP.mathPlain rfl (by decide +kernel)) hisR ?_
  intro p e s m args below meth c s₁ Bd hml0 hP hK
  obtain ⟨rfl, hZ, hh⟩ := hP
  have hx := Bd.exec
  have hby := Bd.bytes
  have hml : c.maxLocals = 2 := hml0
  have hown : s.vm.findClass "java/lang/Math" = some m.cls := findClass_of_methodNamed Bd.named
  have hnm := (name_of_methodNamed Bd.named Bd.method).1
  have hlk : meth.locks = false := Bd.notSynchronized
  have X0 : Stand p l e ({ frames := 0, cells := 0, slots := 0, locals := 0 } : Room) s m #[(.int p1), (.int p2)] below meth c s₁ [] 0 0 := Stand.of_body Bd
  have e0 : s₁.heap = h0 := by rw [← hh, Bd.state]; rfl
  have NF := Fr.nil n0
  have KP : Keep h0 h0 [] := Keep.refl _ _
  refine own_fin (s := s) (Q := Q5 Z p1 p2 h0 n0) (rc := ({ frames := 0, cells := 0, slots := 0, locals := 0 } : Room).cells) (rs := ({ frames := 0, cells := 0, slots := 0, locals := 0 } : Room).slots) ?_
  refine own_go (fun t k => castTop (ef_5 m p1 p2) k) ?_
  show own_R _ _ _ _ (s₁.setTop (mkF m 0 #[.val (.int p1), .val (.int p2)] []))
  refine own_go (fun _ k => XS.iloadN X0.here hx rfl (hb hby d5_0) rfl k) ?_
  show own_R _ _ _ _ (s₁.setTop (mkF m 1 #[.val (.int p1), .val (.int p2)] [(.int p1)]))
  refine own_go (fun _ k => XS.iloadN X0.here hx rfl (hb hby d5_1) rfl k) ?_
  show own_R _ _ _ _ (s₁.setTop (mkF m 2 #[.val (.int p1), .val (.int p2)] [(.int p2), (.int p1)]))
  by_cases hc1 : p2 < p1
  · refine own_go (fun _ k => XS.icmpYes X0.here hx rfl (pc0 := 2) (pc' := 9) rfl (hb hby d5_2) rfl (tlt hc1).2.2.1 (by decide) (by decide) k) ?_
    show own_R _ _ _ _ (s₁.setTop (mkF m 9 #[.val (.int p1), .val (.int p2)] []))
    refine own_go (fun _ k => XS.iloadN X0.here hx rfl (hb hby d5_9) rfl k) ?_
    show own_R _ _ _ _ (s₁.setTop (mkF m 10 #[.val (.int p1), .val (.int p2)] [(.int p2)]))
    exact own_retI X0 hx Bd.returns (hb hby d5_10) hlk ⟨by rw [own_min, if_pos hc1], NF, e0⟩ (by decide) (by decide)
  · refine own_go (fun _ k => XS.icmpNo X0.here hx rfl (hb hby d5_2) rfl (flt hc1).2.2.1 k) ?_
    show own_R _ _ _ _ (s₁.setTop (mkF m 5 #[.val (.int p1), .val (.int p2)] []))
    refine own_go (fun _ k => XS.iloadN X0.here hx rfl (hb hby d5_5) rfl k) ?_
    show own_R _ _ _ _ (s₁.setTop (mkF m 6 #[.val (.int p1), .val (.int p2)] [(.int p1)]))
    refine own_go (fun _ k => XS.goto X0.here hx rfl (pc0 := 6) (pc' := 10) rfl (hb hby d5_6) (by decide) (by decide) k) ?_
    show own_R _ _ _ _ (s₁.setTop (mkF m 10 #[.val (.int p1), .val (.int p2)] [(.int p1)]))
    exact own_retI X0 hx Bd.returns (hb hby d5_10) hlk ⟨by rw [own_min, if_neg hc1], NF, e0⟩ (by decide) (by decide)
theorem d4_0 : decode jdk_65_method_123_code 0 = .ok (.iload_n 1, 1) := by decide +kernel
theorem d4_1 : decode jdk_65_method_123_code 1 = .ok (.aload_n 0, 1) := by decide +kernel
theorem d4_2 : decode jdk_65_method_123_code 2 = .ok (.arraylength, 1) := by decide +kernel
theorem d4_3 : decode jdk_65_method_123_code 3 = .ok (.if_icmp .ne 11, 3) := by decide +kernel
theorem d4_6 : decode jdk_65_method_123_code 6 = .ok (.aload_n 0, 1) := by decide +kernel
theorem d4_7 : decode jdk_65_method_123_code 7 = .ok (.invokevirtual 316, 3) := by decide +kernel
theorem d4_10 : decode jdk_65_method_123_code 10 = .ok (.checkcast 317, 3) := by decide +kernel
theorem d4_13 : decode jdk_65_method_123_code 13 = .ok (.areturn, 1) := by decide +kernel
theorem d4_14 : decode jdk_65_method_123_code 14 = .ok (.iload_n 1, 1) := by decide +kernel
theorem d4_15 : decode jdk_65_method_123_code 15 = .ok (.newarray .int, 2) := by decide +kernel
theorem d4_17 : decode jdk_65_method_123_code 17 = .ok (.astore_n 2, 1) := by decide +kernel
theorem d4_18 : decode jdk_65_method_123_code 18 = .ok (.aload_n 0, 1) := by decide +kernel
theorem d4_19 : decode jdk_65_method_123_code 19 = .ok (.iconst 0, 1) := by decide +kernel
theorem d4_20 : decode jdk_65_method_123_code 20 = .ok (.aload_n 2, 1) := by decide +kernel
theorem d4_21 : decode jdk_65_method_123_code 21 = .ok (.iconst 0, 1) := by decide +kernel
theorem d4_22 : decode jdk_65_method_123_code 22 = .ok (.aload_n 0, 1) := by decide +kernel
theorem d4_23 : decode jdk_65_method_123_code 23 = .ok (.arraylength, 1) := by decide +kernel
theorem d4_24 : decode jdk_65_method_123_code 24 = .ok (.iload_n 1, 1) := by decide +kernel
theorem d4_25 : decode jdk_65_method_123_code 25 = .ok (.invokestatic 304, 3) := by decide +kernel
theorem d4_28 : decode jdk_65_method_123_code 28 = .ok (.invokestatic 150, 3) := by decide +kernel
theorem d4_31 : decode jdk_65_method_123_code 31 = .ok (.aload_n 2, 1) := by decide +kernel
theorem d4_32 : decode jdk_65_method_123_code 32 = .ok (.areturn, 1) := by decide +kernel
theorem pn_4 : plainName "java/util/Arrays" = true := by first | (simp [plainName, overriddenIn]; done) | decide +kernel
theorem ef_4 (m : MethodId) (x0 : Addr) (x1 : Int32) : entryFrame m #[(.ref x0), (.int x1)] 3 = mkF m 0 #[.val (.ref x0), .val (.int x1), .unset] [] := by first | (simp [entryFrame, mkF, argsToLocals, Value.category]; done) | rfl
def Q4 (Z : State) (a1 : Addr) (p2 : Int32) (k1 : ClassId) (z1 : Int32) (vs : List Value) (h0 : Heap) (n0 : Nat) (v : Option Value) (h : Heap) (L : List Loc) : Prop := ∃ b : Addr, v = some (.ref b) ∧ Fr n0 L ∧ Keep h0 h [] ∧ h0.size ≤ b ∧ ∃ k : ClassId, Arv Z h b k .int p2 ((List.range p2.toNatClampNeg).map fun i => vs.getD i (.int (0 : Int32))) (.int (0 : Int32))
set_option maxRecDepth 65536 in
set_option maxHeartbeats 40000000 in
theorem rm4 (l : Launch) (Z : State) (a0 : Array Value) (hw : ∀ d ∈ tables_1, d.before a0 Z = true) (ws : List Jvm.Cond) (a1 : Addr) (p2 : Int32) (k1 : ClassId) (z1 : Int32) (vs : List Value) (h0 : Heap) (n0 : Nat) (ZS : n0 ≤ h0.size) (V_a1 : Arv Z h0 a1 k1 .int z1 vs (.int (0 : Int32))) (hlt : p2 < z1) (hn0 : ¬ p2 < 0) (hcap : p2.toNatClampNeg ≤ 16) :
    MetFree l (⟨"java/util/Arrays", "copyOf", "([II)[I"⟩ : MethodName) (head1 (Jvm.Cond.code (⟨"java/util/Arrays", "copyOf", "([II)[I"⟩ : MethodName) jdk_65_method_123_code 3 (some (.array .int)) :: ws) ({ frames := 1, cells := 1, slots := 16, locals := 18 } : Room)) (fun a U => a = #[(.ref a1), (.int p2)] ∧ Z.Warmed39 U.vm ∧ U.heap = h0) (fun _ _ _ _ _ => True) (fun _ U o U' => ∃ v L, o = .returned v ∧ Q4 Z a1 p2 k1 z1 vs h0 n0 v U'.heap L ∧ FrameEnd U o U' L ({ frames := 1, cells := 1, slots := 16, locals := 18 } : Room).cells ({ frames := 1, cells := 1, slots := 16, locals := 18 } : Room).slots) := by
  refine MetFree.of_bodySF (plainFor_of_name pn_4) hisR ?_
  intro p e s m args below meth c s₁ Bd hml0 hP hK
  obtain ⟨rfl, hZ, hh⟩ := hP
  have hx := Bd.exec
  have hby := Bd.bytes
  have hml : c.maxLocals = 3 := hml0
  have hown : s.vm.findClass "java/util/Arrays" = some m.cls := findClass_of_methodNamed Bd.named
  have hnm := (name_of_methodNamed Bd.named Bd.method).1
  have hlk : meth.locks = false := Bd.notSynchronized
  have X0 : Stand p l e ({ frames := 1, cells := 1, slots := 16, locals := 18 } : Room) s m #[(.ref a1), (.int p2)] below meth c s₁ [] 0 0 := Stand.of_body Bd
  have e0 : s₁.heap = h0 := by rw [← hh, Bd.state]; rfl
  have NF := Fr.nil n0
  have KP : Keep h0 h0 [] := Keep.refl _ _
  refine own_fin (s := s) (Q := Q4 Z a1 p2 k1 z1 vs h0 n0) (rc := ({ frames := 1, cells := 1, slots := 16, locals := 18 } : Room).cells) (rs := ({ frames := 1, cells := 1, slots := 16, locals := 18 } : Room).slots) ?_
  refine own_go (fun t k => castTop (ef_4 m a1 p2) k) ?_
  show own_R _ _ _ _ (s₁.setTop (mkF m 0 #[.val (.ref a1), .val (.int p2), .unset] []))
  refine own_go (fun _ k => XS.iloadN X0.here hx rfl (hb hby d4_0) rfl k) ?_
  show own_R _ _ _ _ (s₁.setTop (mkF m 1 #[.val (.ref a1), .val (.int p2), .unset] [(.int p2)]))
  refine own_go (fun _ k => XS.aloadN X0.here hx rfl (hb hby d4_1) rfl rfl k) ?_
  show own_R _ _ _ _ (s₁.setTop (mkF m 2 #[.val (.ref a1), .val (.int p2), .unset] [(.ref a1), (.int p2)]))
  refine own_go (own_len X0 hx hZ e0 V_a1 (g := (mkF m 2 #[.val (.ref a1), .val (.int p2), .unset] [(.ref a1), (.int p2)])) rfl rfl (hb hby d4_2)) ?_
  show own_R _ _ _ _ (s₁.setTop (mkF m 3 #[.val (.ref a1), .val (.int p2), .unset] [(.int z1), (.int p2)]))
  refine own_go (fun _ k => XS.icmpYes X0.here hx rfl (pc0 := 3) (pc' := 14) rfl (hb hby d4_3) rfl (feq (fun q => by rw [q] at hlt; exact Int32.lt_irrefl hlt)).2 (by decide) (by decide) k) ?_
  show own_R _ _ _ _ (s₁.setTop (mkF m 14 #[.val (.ref a1), .val (.int p2), .unset] []))
  refine own_go (fun _ k => XS.iloadN X0.here hx rfl (hb hby d4_14) rfl k) ?_
  show own_R _ _ _ _ (s₁.setTop (mkF m 15 #[.val (.ref a1), .val (.int p2), .unset] [(.int p2)]))
  obtain ⟨T2, h2, k2, X2, e2, E2, A2, st2⟩ := newP X0 hx hZ (hw _ (List.mem_of_getElem? (i := 10) rfl)) e0 (g := (mkF m 15 #[.val (.ref a1), .val (.int p2), .unset] [(.int p2)])) rfl (hb hby d4_15) rfl hn0 (cap := 16) hcap (by decide) (by decide) (by decide)
  obtain ⟨b2, g2⟩ : ∃ z, z = h0.size := ⟨_, rfl⟩
  rw [← g2] at A2 st2
  refine own_go st2 ?_
  have ne_a1_b2 : a1 ≠ b2 := Nat.ne_of_lt (Nat.lt_of_lt_of_le V_a1.lt (Nat.le_of_eq g2.symm))
  have g_b2 : n0 ≤ b2 := Nat.le_trans ZS (Nat.le_of_eq g2.symm)
  have sz_b2 : h0.size ≤ b2 := Nat.le_trans KP.1 (Nat.le_of_eq g2.symm)
  have V_a1 := V_a1.ext E2
  have ZS := Nat.le_trans ZS E2.1
  have KP := KP.ext E2
  have V_b2 : Arv Z h2 b2 k2 .int p2 (List.replicate p2.toNatClampNeg (.int (0 : Int32))) (.int (0 : Int32)) := (Arv.new A2 hn0).pad (pad_rep [] (.int (0 : Int32)) _)
  show own_R _ _ _ _ (T2.setTop (mkF m 17 #[.val (.ref a1), .val (.int p2), .unset] [(.ref b2)]))
  refine own_go (fun _ k => XS.astoreN X2.here hx rfl (hb hby d4_17) rfl rfl (l' := #[.val (.ref a1), .val (.int p2), .val (.ref b2)]) rfl k) ?_
  show own_R _ _ _ _ (T2.setTop (mkF m 18 #[.val (.ref a1), .val (.int p2), .val (.ref b2)] []))
  refine own_go (fun _ k => XS.aloadN X2.here hx rfl (hb hby d4_18) rfl rfl k) ?_
  show own_R _ _ _ _ (T2.setTop (mkF m 19 #[.val (.ref a1), .val (.int p2), .val (.ref b2)] [(.ref a1)]))
  refine own_go (fun _ k => XS.iconst X2.here hx rfl (hb hby d4_19) k) ?_
  show own_R _ _ _ _ (T2.setTop (mkF m 20 #[.val (.ref a1), .val (.int p2), .val (.ref b2)] [(.int (0 : Int32)), (.ref a1)]))
  refine own_go (fun _ k => XS.aloadN X2.here hx rfl (hb hby d4_20) rfl rfl k) ?_
  show own_R _ _ _ _ (T2.setTop (mkF m 21 #[.val (.ref a1), .val (.int p2), .val (.ref b2)] [(.ref b2), (.int (0 : Int32)), (.ref a1)]))
  refine own_go (fun _ k => XS.iconst X2.here hx rfl (hb hby d4_21) k) ?_
  show own_R _ _ _ _ (T2.setTop (mkF m 22 #[.val (.ref a1), .val (.int p2), .val (.ref b2)] [(.int (0 : Int32)), (.ref b2), (.int (0 : Int32)), (.ref a1)]))
  refine own_go (fun _ k => XS.aloadN X2.here hx rfl (hb hby d4_22) rfl rfl k) ?_
  show own_R _ _ _ _ (T2.setTop (mkF m 23 #[.val (.ref a1), .val (.int p2), .val (.ref b2)] [(.ref a1), (.int (0 : Int32)), (.ref b2), (.int (0 : Int32)), (.ref a1)]))
  refine own_go (own_len X2 hx hZ e2 V_a1 (g := (mkF m 23 #[.val (.ref a1), .val (.int p2), .val (.ref b2)] [(.ref a1), (.int (0 : Int32)), (.ref b2), (.int (0 : Int32)), (.ref a1)])) rfl rfl (hb hby d4_23)) ?_
  show own_R _ _ _ _ (T2.setTop (mkF m 24 #[.val (.ref a1), .val (.int p2), .val (.ref b2)] [(.int z1), (.int (0 : Int32)), (.ref b2), (.int (0 : Int32)), (.ref a1)]))
  refine own_go (fun _ k => XS.iloadN X2.here hx rfl (hb hby d4_24) rfl k) ?_
  show own_R _ _ _ _ (T2.setTop (mkF m 25 #[.val (.ref a1), .val (.int p2), .val (.ref b2)] [(.int p2), (.int z1), (.int (0 : Int32)), (.ref b2), (.int (0 : Int32)), (.ref a1)]))
  obtain ⟨_, _, ⟨T3, L3, k3, n3⟩, -, X3, ⟨Lc3, hQ3, l3, y3, z3⟩, st3⟩ := Jvm.LawKit.callS X2 hx (y := (⟨"java/lang/Math", "min", "(II)I"⟩ : MethodName)) hown (mvT hZ (hw _ (List.mem_of_getElem? (i := 24) rfl))) (mvT hZ (hw _ (List.mem_of_getElem? (i := 25) rfl))) (mvT hZ (hw _ (List.mem_of_getElem? (i := 26) rfl))) (mvT hZ (hw _ (List.mem_of_getElem? (i := 27) rfl))) (by decide) (backOf (W := 4) (rm5 l Z a0 hw [] z1 p2 h2 n0 ZS) hZ (hw _ (List.mem_of_getElem? (i := 27) rfl)) (hw _ (List.mem_of_getElem? (i := 26) rfl)) (by decide) (by decide)) (g := (mkF m 25 #[.val (.ref a1), .val (.int p2), .val (.ref b2)] [(.int p2), (.int z1), (.int (0 : Int32)), (.ref b2), (.int (0 : Int32)), (.ref a1)])) rfl (by rw [hml]; rfl) (argsL := [(.int z1), (.int p2)]) (rest := [(.int (0 : Int32)), (.ref b2), (.int (0 : Int32)), (.ref a1)]) (lenOf pd_0 rfl) rfl (by show 2 * 0 + _ ≤ _; exact Nat.le_of_eq rfl) (hb hby d4_25) (fun _ _ => ⟨rfl, e2, (by decide : 1 + 0 ≤ _), (by decide : 16 + 0 ≤ _)⟩)
  dsimp only [Pt.U, Pt.locs, Pt.cells, Pt.slots] at X3 l3 y3 z3 st3 hQ3
  subst l3 y3 z3
  obtain ⟨rfl, N3q, e3⟩ := hQ3
  have NF := Fr.app NF N3q
  refine own_go st3 ?_
  show own_R _ _ _ _ (T3.setTop (mkF m 28 #[.val (.ref a1), .val (.int p2), .val (.ref b2)] [(.int (own_min z1 p2)), (.int (0 : Int32)), (.ref b2), (.int (0 : Int32)), (.ref a1)]))
  rw [own_min_eq hlt]
  show own_R _ _ _ _ (T3.setTop (mkF m 28 #[.val (.ref a1), .val (.int p2), .val (.ref b2)] [(.int p2), (.int (0 : Int32)), (.ref b2), (.int (0 : Int32)), (.ref a1)]))
  obtain ⟨T4, h4, L4, X4, e4, NF, K4, V4, st4⟩ := cpA X3 hx hZ hown (hw _ (List.mem_of_getElem? (i := 28) rfl)) (hw _ (List.mem_of_getElem? (i := 31) rfl)) (hw _ (List.mem_of_getElem? (i := 29) rfl)) (hw _ (List.mem_of_getElem? (i := 30) rfl)) e3 (sp := (0 : Int32)) (dp := (0 : Int32)) (nn := p2) (us := ((List.range p2.toNatClampNeg).map fun i => vs.getD i (.int (0 : Int32)))) V_a1 V_b2 (Or.inl ⟨rfl, rfl⟩) (by decide) (by decide) hn0 (by rw [show (0 : Int32).toNatClampNeg = 0 from rfl, Nat.zero_add]; exact own_lt_nat hn0 hlt) (by rw [show (0 : Int32).toNatClampNeg = 0 from rfl, Nat.zero_add]; exact Nat.le_refl _) (by simp) (by simp) NF g_b2 (g := (mkF m 28 #[.val (.ref a1), .val (.int p2), .val (.ref b2)] [(.int p2), (.int (0 : Int32)), (.ref b2), (.int (0 : Int32)), (.ref a1)])) rfl (by rw [hml]; rfl) rfl (hb hby d4_28) (by decide) (W := 0) (by show 2 * 0 + _ ≤ _; exact Nat.le_of_eq rfl) (by decide)
  refine own_go st4 ?_
  have V_a1 := V_a1.keep K4 (ninS ne_a1_b2 nin0)
  have ZS := Nat.le_trans ZS K4.1
  have KP := KP.trans K4 (allS (Or.inr sz_b2) all0)
  have V_b2 := V4
  show own_R _ _ _ _ (T4.setTop (mkF m 31 #[.val (.ref a1), .val (.int p2), .val (.ref b2)] []))
  refine own_go (fun _ k => XS.aloadN X4.here hx rfl (hb hby d4_31) rfl rfl k) ?_
  show own_R _ _ _ _ (T4.setTop (mkF m 32 #[.val (.ref a1), .val (.int p2), .val (.ref b2)] [(.ref b2)]))
  have VR : Arv Z h4 b2 k2 .int p2 ((List.range p2.toNatClampNeg).map fun i => vs.getD i (.int (0 : Int32))) (.int (0 : Int32)) := V_b2.pad (fun i => by simp)
  exact own_retA X4 hx rfl rfl Bd.returns (hb hby d4_32) hlk (by rw [e4]; exact ⟨_, rfl, NF, KP, sz_b2, _, VR⟩) (by decide) (by decide)
theorem d1_0 : decode prog_28_method_1_code 0 = .ok (.aload_n 0, 1) := by decide +kernel
theorem d1_1 : decode prog_28_method_1_code 1 = .ok (.invokespecial 1, 3) := by decide +kernel
theorem d1_4 : decode prog_28_method_1_code 4 = .ok (.aload_n 0, 1) := by decide +kernel
theorem d1_5 : decode prog_28_method_1_code 5 = .ok (.bipush 16, 2) := by decide +kernel
theorem d1_7 : decode prog_28_method_1_code 7 = .ok (.newarray .int, 2) := by decide +kernel
theorem d1_9 : decode prog_28_method_1_code 9 = .ok (.putfield 9, 3) := by decide +kernel
theorem d1_12 : decode prog_28_method_1_code 12 = .ok (.return_, 1) := by decide +kernel
theorem pn_1 : plainName "com/example/austere_nets/austerenets/minimize/IntList" = true := by first | (simp [plainName, overriddenIn]; done) | decide +kernel
theorem ef_1 (m : MethodId) (x0 : Addr) : entryFrame m #[(.ref x0)] 1 = mkF m 0 #[.val (.ref x0)] [] := by first | (simp [entryFrame, mkF, argsToLocals, Value.category]; done) | rfl
def Q1 (Z : State) (a1 : Addr) (u1 : Value) (w2 : Int32) (h0 : Heap) (n0 : Nat) (v : Option Value) (h : Heap) (L : List Loc) : Prop := v = none ∧ Fr n0 L ∧ Keep h0 h [a1] ∧ Fld Z h a1 "com/example/austere_nets/austerenets/minimize/IntList" "size" "I" (.int w2) ∧ ∃ b : Addr, Fld Z h a1 "com/example/austere_nets/austerenets/minimize/IntList" "values" "[I" (.ref b) ∧ h0.size ≤ b ∧ ∃ k : ClassId, Arv Z h b k .int (16 : Int32) [(.int (0 : Int32)), (.int (0 : Int32)), (.int (0 : Int32)), (.int (0 : Int32)), (.int (0 : Int32)), (.int (0 : Int32)), (.int (0 : Int32)), (.int (0 : Int32)), (.int (0 : Int32)), (.int (0 : Int32)), (.int (0 : Int32)), (.int (0 : Int32)), (.int (0 : Int32)), (.int (0 : Int32)), (.int (0 : Int32)), (.int (0 : Int32))] (.int (0 : Int32))
set_option maxRecDepth 65536 in
set_option maxHeartbeats 40000000 in
theorem rm1 (l : Launch) (Z : State) (a0 : Array Value) (hw : ∀ d ∈ tables_1, d.before a0 Z = true) (ws : List Jvm.Cond) (a1 : Addr) (u1 : Value) (w2 : Int32) (h0 : Heap) (n0 : Nat) (ZS : n0 ≤ h0.size) (E_a1 : Exa Z h0 a1 "com/example/austere_nets/austerenets/minimize/IntList") (F_values_a1 : Fld Z h0 a1 "com/example/austere_nets/austerenets/minimize/IntList" "values" "[I" u1) (F_size_a1 : Fld Z h0 a1 "com/example/austere_nets/austerenets/minimize/IntList" "size" "I" (.int w2)) (g_a1 : n0 ≤ a1) :
    MetFree l (⟨"com/example/austere_nets/austerenets/minimize/IntList", "<init>", "()V"⟩ : MethodName) (head1 (Jvm.Cond.code (⟨"com/example/austere_nets/austerenets/minimize/IntList", "<init>", "()V"⟩ : MethodName) prog_28_method_1_code 1 none :: ws) ({ frames := 1, cells := 1, slots := 16, locals := 12 } : Room)) (fun a U => a = #[(.ref a1)] ∧ Z.Warmed39 U.vm ∧ U.heap = h0) (fun _ _ _ _ _ => True) (fun _ U o U' => ∃ v L, o = .returned v ∧ Q1 Z a1 u1 w2 h0 n0 v U'.heap L ∧ FrameEnd U o U' L ({ frames := 1, cells := 1, slots := 16, locals := 12 } : Room).cells ({ frames := 1, cells := 1, slots := 16, locals := 12 } : Room).slots) := by
  refine MetFree.of_bodySF (plainFor_of_name pn_1) hisR ?_
  intro p e s m args below meth c s₁ Bd hml0 hP hK
  obtain ⟨rfl, hZ, hh⟩ := hP
  have hx := Bd.exec
  have hby := Bd.bytes
  have hml : c.maxLocals = 1 := hml0
  have hown : s.vm.findClass "com/example/austere_nets/austerenets/minimize/IntList" = some m.cls := findClass_of_methodNamed Bd.named
  have hnm := (name_of_methodNamed Bd.named Bd.method).1
  have hlk : meth.locks = false := Bd.notSynchronized
  have X0 : Stand p l e ({ frames := 1, cells := 1, slots := 16, locals := 12 } : Room) s m #[(.ref a1)] below meth c s₁ [] 0 0 := Stand.of_body Bd
  have e0 : s₁.heap = h0 := by rw [← hh, Bd.state]; rfl
  have NF := Fr.nil n0
  have KP : Keep h0 h0 [a1] := Keep.refl _ _
  refine own_fin (s := s) (Q := Q1 Z a1 u1 w2 h0 n0) (rc := ({ frames := 1, cells := 1, slots := 16, locals := 12 } : Room).cells) (rs := ({ frames := 1, cells := 1, slots := 16, locals := 12 } : Room).slots) ?_
  refine own_go (fun t k => castTop (ef_1 m a1) k) ?_
  show own_R _ _ _ _ (s₁.setTop (mkF m 0 #[.val (.ref a1)] []))
  refine own_go (fun _ k => XS.aloadN X0.here hx rfl (hb hby d1_0) rfl rfl k) ?_
  show own_R _ _ _ _ (s₁.setTop (mkF m 1 #[.val (.ref a1)] [(.ref a1)]))
  obtain ⟨T5, X5, e5, st5⟩ := initO X0 hx hZ hown (hw _ (List.mem_of_getElem? (i := 7) rfl)) (hw _ (List.mem_of_getElem? (i := 8) rfl)) (hw _ (List.mem_of_getElem? (i := 9) rfl)) e0 (g := (mkF m 1 #[.val (.ref a1)] [(.ref a1)])) rfl (by rw [hml]; rfl) rfl (hb hby d1_1) (by decide) (W := 0) (by show 2 * 0 + _ ≤ _; exact Nat.le_of_eq rfl) (by decide)
  refine own_go st5 ?_
  show own_R _ _ _ _ (T5.setTop (mkF m 4 #[.val (.ref a1)] []))
  refine own_go (fun _ k => XS.aloadN X5.here hx rfl (hb hby d1_4) rfl rfl k) ?_
  show own_R _ _ _ _ (T5.setTop (mkF m 5 #[.val (.ref a1)] [(.ref a1)]))
  refine own_go (fun _ k => XS.bipush X5.here hx rfl (hb hby d1_5) k) ?_
  show own_R _ _ _ _ (T5.setTop (mkF m 7 #[.val (.ref a1)] [(.int (16 : Int32)), (.ref a1)]))
  obtain ⟨T6, h6, k6, X6, e6, E6, A6, st6⟩ := newP X5 hx hZ (hw _ (List.mem_of_getElem? (i := 10) rfl)) e5 (g := (mkF m 7 #[.val (.ref a1)] [(.int (16 : Int32)), (.ref a1)])) rfl (hb hby d1_7) rfl (by decide) (cap := 16) (by decide) (by decide) (by decide) (by decide)
  obtain ⟨b6, g6⟩ : ∃ z, z = h0.size := ⟨_, rfl⟩
  rw [← g6] at A6 st6
  refine own_go st6 ?_
  have ne_a1_b6 : a1 ≠ b6 := Nat.ne_of_lt (Nat.lt_of_lt_of_le E_a1.lt (Nat.le_of_eq g6.symm))
  have g_b6 : n0 ≤ b6 := Nat.le_trans ZS (Nat.le_of_eq g6.symm)
  have sz_b6 : h0.size ≤ b6 := Nat.le_trans KP.1 (Nat.le_of_eq g6.symm)
  have E_a1 := E_a1.ext E6
  have F_values_a1 := F_values_a1.ext E6
  have F_size_a1 := F_size_a1.ext E6
  have ZS := Nat.le_trans ZS E6.1
  have KP := KP.ext E6
  have V_b6 : Arv Z h6 b6 k6 .int (16 : Int32) [(.int (0 : Int32)), (.int (0 : Int32)), (.int (0 : Int32)), (.int (0 : Int32)), (.int (0 : Int32)), (.int (0 : Int32)), (.int (0 : Int32)), (.int (0 : Int32)), (.int (0 : Int32)), (.int (0 : Int32)), (.int (0 : Int32)), (.int (0 : Int32)), (.int (0 : Int32)), (.int (0 : Int32)), (.int (0 : Int32)), (.int (0 : Int32))] (.int (0 : Int32)) := (Arv.new A6 (by decide)).pad (pad_rep [] (.int (0 : Int32)) 16)
  show own_R _ _ _ _ (T6.setTop (mkF m 9 #[.val (.ref a1)] [(.ref b6), (.ref a1)]))
  obtain ⟨T7, h7, X7, e7, W7, st7⟩ := putF X6 hx hZ hown (host := "") (Or.inl (hw _ (List.mem_of_getElem? (i := 11) rfl))) Via.refl e6 F_values_a1 E_a1 (Or.inl (hw _ (List.mem_of_getElem? (i := 12) rfl))) (hw _ (List.mem_of_getElem? (i := 2) rfl)) (ty := (.array .int)) (by decide) rfl rfl (g := (mkF m 9 #[.val (.ref a1)] [(.ref b6), (.ref a1)])) rfl rfl (hb hby d1_9)
  refine own_go st7 ?_
  have E_a1 := E_a1.wr W7
  have F_values_a1 := F_values_a1.same W7
  have F_size_a1 := F_size_a1.other W7 (Or.inr (slot_ne (Or.inl (hw _ (List.mem_of_getElem? (i := 19) rfl))) (Or.inl (hw _ (List.mem_of_getElem? (i := 12) rfl))) (by decide) (t := .int) (t' := (.array .int)) (by decide) (by decide)))
  have V_b6 := V_b6.other W7 (Ne.symm ne_a1_b6)
  have ZS := Nat.le_trans ZS (Keep.of_wr W7).1
  have KP := KP.wr W7 (Or.inl (List.mem_of_getElem? (i := 0) rfl))
  have NF := Fr.snoc X7 NF g_a1
  show own_R _ _ _ _ (T7.setTop (mkF m 12 #[.val (.ref a1)] []))
  exact own_ret0 X7 hx Bd.returns (hb hby d1_12) hlk (by rw [e7]; exact ⟨rfl, NF, KP, F_size_a1, _, F_values_a1, sz_b6, _, V_b6⟩) (by decide) (by decide)
theorem d7_0 : decode prog_28_method_2_code 0 = .ok (.aload_n 0, 1) := by decide +kernel
theorem d7_1 : decode prog_28_method_2_code 1 = .ok (.getfield 13, 3) := by decide +kernel
theorem d7_4 : decode prog_28_method_2_code 4 = .ok (.aload_n 0, 1) := by decide +kernel
theorem d7_5 : decode prog_28_method_2_code 5 = .ok (.getfield 9, 3) := by decide +kernel
theorem d7_8 : decode prog_28_method_2_code 8 = .ok (.arraylength, 1) := by decide +kernel
theorem d7_9 : decode prog_28_method_2_code 9 = .ok (.if_icmp .ne 20, 3) := by decide +kernel
theorem d7_12 : decode prog_28_method_2_code 12 = .ok (.aload_n 0, 1) := by decide +kernel
theorem d7_13 : decode prog_28_method_2_code 13 = .ok (.aload_n 0, 1) := by decide +kernel
theorem d7_14 : decode prog_28_method_2_code 14 = .ok (.getfield 9, 3) := by decide +kernel
theorem d7_17 : decode prog_28_method_2_code 17 = .ok (.iconst 2, 1) := by decide +kernel
theorem d7_18 : decode prog_28_method_2_code 18 = .ok (.aload_n 0, 1) := by decide +kernel
theorem d7_19 : decode prog_28_method_2_code 19 = .ok (.getfield 13, 3) := by decide +kernel
theorem d7_22 : decode prog_28_method_2_code 22 = .ok (.imul, 1) := by decide +kernel
theorem d7_23 : decode prog_28_method_2_code 23 = .ok (.invokestatic 17, 3) := by decide +kernel
theorem d7_26 : decode prog_28_method_2_code 26 = .ok (.putfield 9, 3) := by decide +kernel
theorem d7_29 : decode prog_28_method_2_code 29 = .ok (.aload_n 0, 1) := by decide +kernel
theorem d7_30 : decode prog_28_method_2_code 30 = .ok (.getfield 9, 3) := by decide +kernel
theorem d7_33 : decode prog_28_method_2_code 33 = .ok (.aload_n 0, 1) := by decide +kernel
theorem d7_34 : decode prog_28_method_2_code 34 = .ok (.dup, 1) := by decide +kernel
theorem d7_35 : decode prog_28_method_2_code 35 = .ok (.getfield 13, 3) := by decide +kernel
theorem d7_38 : decode prog_28_method_2_code 38 = .ok (.dup_x1, 1) := by decide +kernel
theorem d7_39 : decode prog_28_method_2_code 39 = .ok (.iconst 1, 1) := by decide +kernel
theorem d7_40 : decode prog_28_method_2_code 40 = .ok (.iadd, 1) := by decide +kernel
theorem d7_41 : decode prog_28_method_2_code 41 = .ok (.putfield 13, 3) := by decide +kernel
theorem d7_44 : decode prog_28_method_2_code 44 = .ok (.iload_n 1, 1) := by decide +kernel
theorem d7_45 : decode prog_28_method_2_code 45 = .ok (.iastore, 1) := by decide +kernel
theorem d7_46 : decode prog_28_method_2_code 46 = .ok (.return_, 1) := by decide +kernel
theorem ef_7 (m : MethodId) (x0 : Addr) (x1 : Int32) : entryFrame m #[(.ref x0), (.int x1)] 2 = mkF m 0 #[.val (.ref x0), .val (.int x1)] [] := by first | (simp [entryFrame, mkF, argsToLocals, Value.category]; done) | rfl
def Q7 (Z : State) (a1 : Addr) (p2 : Int32) (b1 : Addr) (k1 : ClassId) (w2 : Int32) (i : Nat) (vs : List Value) (h0 : Heap) (n0 : Nat) (v : Option Value) (h : Heap) (L : List Loc) : Prop := v = none ∧ Fr n0 L ∧ Keep h0 h [a1, b1] ∧ Fld Z h a1 "com/example/austere_nets/austerenets/minimize/IntList" "size" "I" (.int (w2 + 1)) ∧ Fld Z h a1 "com/example/austere_nets/austerenets/minimize/IntList" "values" "[I" (.ref b1) ∧ Arv Z h b1 k1 .int (16 : Int32) (vs.set i (.int p2)) (.int (0 : Int32))
set_option maxRecDepth 65536 in
set_option maxHeartbeats 40000000 in
theorem rm7 (l : Launch) (Z : State) (a0 : Array Value) (hw : ∀ d ∈ tables_1, d.before a0 Z = true) (ws : List Jvm.Cond) (a1 : Addr) (p2 : Int32) (b1 : Addr) (k1 : ClassId) (w2 : Int32) (i : Nat) (vs : List Value) (h0 : Heap) (n0 : Nat) (ZS : n0 ≤ h0.size) (E_a1 : Exa Z h0 a1 "com/example/austere_nets/austerenets/minimize/IntList") (F_values_a1 : Fld Z h0 a1 "com/example/austere_nets/austerenets/minimize/IntList" "values" "[I" (.ref b1)) (F_size_a1 : Fld Z h0 a1 "com/example/austere_nets/austerenets/minimize/IntList" "size" "I" (.int w2)) (g_a1 : n0 ≤ a1) (V_b1 : Arv Z h0 b1 k1 .int (16 : Int32) vs (.int (0 : Int32))) (g_b1 : n0 ≤ b1) (ne_ab : a1 ≠ b1) (hw0 : ¬ w2 < 0 ∧ w2 < (16 : Int32)) (hwi : w2.toNatClampNeg = i) (hil : i < vs.length) :
    MetFree l (⟨"com/example/austere_nets/austerenets/minimize/IntList", "add", "(I)V"⟩ : MethodName) (head1 (Jvm.Cond.code (⟨"com/example/austere_nets/austerenets/minimize/IntList", "add", "(I)V"⟩ : MethodName) prog_28_method_2_code 2 none :: ws) ({ frames := 0, cells := 0, slots := 0, locals := 0 } : Room)) (fun a U => a = #[(.ref a1), (.int p2)] ∧ Z.Warmed39 U.vm ∧ U.heap = h0) (fun _ _ _ _ _ => True) (fun _ U o U' => ∃ v L, o = .returned v ∧ Q7 Z a1 p2 b1 k1 w2 i vs h0 n0 v U'.heap L ∧ FrameEnd U o U' L ({ frames := 0, cells := 0, slots := 0, locals := 0 } : Room).cells ({ frames := 0, cells := 0, slots := 0, locals := 0 } : Room).slots) := by
  refine MetFree.of_bodySF (plainFor_of_name pn_1) hisR ?_
  intro p e s m args below meth c s₁ Bd hml0 hP hK
  obtain ⟨rfl, hZ, hh⟩ := hP
  have hx := Bd.exec
  have hby := Bd.bytes
  have hml : c.maxLocals = 2 := hml0
  have hown : s.vm.findClass "com/example/austere_nets/austerenets/minimize/IntList" = some m.cls := findClass_of_methodNamed Bd.named
  have hnm := (name_of_methodNamed Bd.named Bd.method).1
  have hlk : meth.locks = false := Bd.notSynchronized
  have X0 : Stand p l e ({ frames := 0, cells := 0, slots := 0, locals := 0 } : Room) s m #[(.ref a1), (.int p2)] below meth c s₁ [] 0 0 := Stand.of_body Bd
  have e0 : s₁.heap = h0 := by rw [← hh, Bd.state]; rfl
  have NF := Fr.nil n0
  have KP : Keep h0 h0 [a1, b1] := Keep.refl _ _
  refine own_fin (s := s) (Q := Q7 Z a1 p2 b1 k1 w2 i vs h0 n0) (rc := ({ frames := 0, cells := 0, slots := 0, locals := 0 } : Room).cells) (rs := ({ frames := 0, cells := 0, slots := 0, locals := 0 } : Room).slots) ?_
  refine own_go (fun t k => castTop (ef_7 m a1 p2) k) ?_
  show own_R _ _ _ _ (s₁.setTop (mkF m 0 #[.val (.ref a1), .val (.int p2)] []))
  refine own_go (fun _ k => XS.aloadN X0.here hx rfl (hb hby d7_0) rfl rfl k) ?_
  show own_R _ _ _ _ (s₁.setTop (mkF m 1 #[.val (.ref a1), .val (.int p2)] [(.ref a1)]))
  obtain ⟨T8, X8, e8, st8⟩ := getF X0 hx hZ hown (host := "") (Or.inl (hw _ (List.mem_of_getElem? (i := 18) rfl))) Via.refl e0 F_size_a1 (g := (mkF m 1 #[.val (.ref a1), .val (.int p2)] [(.ref a1)])) rfl rfl (hb hby d7_1)
  refine own_go st8 ?_
  show own_R _ _ _ _ (T8.setTop (mkF m 4 #[.val (.ref a1), .val (.int p2)] [(.int w2)]))
  refine own_go (fun _ k => XS.aloadN X8.here hx rfl (hb hby d7_4) rfl rfl k) ?_
  show own_R _ _ _ _ (T8.setTop (mkF m 5 #[.val (.ref a1), .val (.int p2)] [(.ref a1), (.int w2)]))
  obtain ⟨T9, X9, e9, st9⟩ := getF X8 hx hZ hown (host := "") (Or.inl (hw _ (List.mem_of_getElem? (i := 11) rfl))) Via.refl e8 F_values_a1 (g := (mkF m 5 #[.val (.ref a1), .val (.int p2)] [(.ref a1), (.int w2)])) rfl rfl (hb hby d7_5)
  refine own_go st9 ?_
  show own_R _ _ _ _ (T9.setTop (mkF m 8 #[.val (.ref a1), .val (.int p2)] [(.ref b1), (.int w2)]))
  refine own_go (own_len X9 hx hZ e9 V_b1 (g := (mkF m 8 #[.val (.ref a1), .val (.int p2)] [(.ref b1), (.int w2)])) rfl rfl (hb hby d7_8)) ?_
  show own_R _ _ _ _ (T9.setTop (mkF m 9 #[.val (.ref a1), .val (.int p2)] [(.int (16 : Int32)), (.int w2)]))
  refine own_go (fun _ k => XS.icmpYes X9.here hx rfl (pc0 := 9) (pc' := 29) rfl (hb hby d7_9) rfl (feq (fun q => by have z := hw0.2; rw [q] at z; exact absurd z (by decide))).2 (by decide) (by decide) k) ?_
  show own_R _ _ _ _ (T9.setTop (mkF m 29 #[.val (.ref a1), .val (.int p2)] []))
  refine own_go (fun _ k => XS.aloadN X9.here hx rfl (hb hby d7_29) rfl rfl k) ?_
  show own_R _ _ _ _ (T9.setTop (mkF m 30 #[.val (.ref a1), .val (.int p2)] [(.ref a1)]))
  obtain ⟨T10, X10, e10, st10⟩ := getF X9 hx hZ hown (host := "") (Or.inl (hw _ (List.mem_of_getElem? (i := 11) rfl))) Via.refl e9 F_values_a1 (g := (mkF m 30 #[.val (.ref a1), .val (.int p2)] [(.ref a1)])) rfl rfl (hb hby d7_30)
  refine own_go st10 ?_
  show own_R _ _ _ _ (T10.setTop (mkF m 33 #[.val (.ref a1), .val (.int p2)] [(.ref b1)]))
  refine own_go (fun _ k => XS.aloadN X10.here hx rfl (hb hby d7_33) rfl rfl k) ?_
  show own_R _ _ _ _ (T10.setTop (mkF m 34 #[.val (.ref a1), .val (.int p2)] [(.ref a1), (.ref b1)]))
  refine own_go (fun _ k => XS.dup X10.here hx rfl (hb hby d7_34) rfl rfl k) ?_
  show own_R _ _ _ _ (T10.setTop (mkF m 35 #[.val (.ref a1), .val (.int p2)] [(.ref a1), (.ref a1), (.ref b1)]))
  obtain ⟨T11, X11, e11, st11⟩ := getF X10 hx hZ hown (host := "") (Or.inl (hw _ (List.mem_of_getElem? (i := 18) rfl))) Via.refl e10 F_size_a1 (g := (mkF m 35 #[.val (.ref a1), .val (.int p2)] [(.ref a1), (.ref a1), (.ref b1)])) rfl rfl (hb hby d7_35)
  refine own_go st11 ?_
  show own_R _ _ _ _ (T11.setTop (mkF m 38 #[.val (.ref a1), .val (.int p2)] [(.int w2), (.ref a1), (.ref b1)]))
  refine own_go (fun _ k => XS.dupX1 X11.here hx rfl (hb hby d7_38) rfl rfl rfl k) ?_
  show own_R _ _ _ _ (T11.setTop (mkF m 39 #[.val (.ref a1), .val (.int p2)] [(.int w2), (.ref a1), (.int w2), (.ref b1)]))
  refine own_go (fun _ k => XS.iconst X11.here hx rfl (hb hby d7_39) k) ?_
  show own_R _ _ _ _ (T11.setTop (mkF m 40 #[.val (.ref a1), .val (.int p2)] [(.int (1 : Int32)), (.int w2), (.ref a1), (.int w2), (.ref b1)]))
  refine own_go (fun _ k => XS.iadd X11.here hx rfl (hb hby d7_40) rfl k) ?_
  show own_R _ _ _ _ (T11.setTop (mkF m 41 #[.val (.ref a1), .val (.int p2)] [(.int (w2 + (1 : Int32))), (.ref a1), (.int w2), (.ref b1)]))
  obtain ⟨T12, h12, X12, e12, W12, st12⟩ := putF X11 hx hZ hown (host := "") (Or.inl (hw _ (List.mem_of_getElem? (i := 18) rfl))) Via.refl e11 F_size_a1 E_a1 (Or.inl (hw _ (List.mem_of_getElem? (i := 19) rfl))) (hw _ (List.mem_of_getElem? (i := 2) rfl)) (ty := .int) (by decide) rfl rfl (g := (mkF m 41 #[.val (.ref a1), .val (.int p2)] [(.int (w2 + (1 : Int32))), (.ref a1), (.int w2), (.ref b1)])) rfl rfl (hb hby d7_41)
  refine own_go st12 ?_
  have E_a1 := E_a1.wr W12
  have F_values_a1 := F_values_a1.other W12 (Or.inr (slot_ne (Or.inl (hw _ (List.mem_of_getElem? (i := 12) rfl))) (Or.inl (hw _ (List.mem_of_getElem? (i := 19) rfl))) (by decide) (t := (.array .int)) (t' := .int) (by decide) (by decide)))
  have F_size_a1 := F_size_a1.same W12
  have V_b1 := V_b1.other W12 (Ne.symm ne_ab)
  have ZS := Nat.le_trans ZS (Keep.of_wr W12).1
  have KP := KP.wr W12 (Or.inl (List.mem_of_getElem? (i := 0) rfl))
  have NF := Fr.snoc X12 NF g_a1
  show own_R _ _ _ _ (T12.setTop (mkF m 44 #[.val (.ref a1), .val (.int p2)] [(.int w2), (.ref b1)]))
  refine own_go (fun _ k => XS.iloadN X12.here hx rfl (hb hby d7_44) rfl k) ?_
  show own_R _ _ _ _ (T12.setTop (mkF m 45 #[.val (.ref a1), .val (.int p2)] [(.int p2), (.int w2), (.ref b1)]))
  obtain ⟨T13, h13, sl13, X13, e13, W13, V13, st13⟩ := own_stI X12 hx hZ e12 V_b1 (j := w2) (i := i) hw0 hwi hil rfl (g := (mkF m 45 #[.val (.ref a1), .val (.int p2)] [(.int p2), (.int w2), (.ref b1)])) rfl rfl (hb hby d7_45)
  refine own_go st13 ?_
  have E_a1 := E_a1.wr W13
  have F_values_a1 := F_values_a1.other W13 (Or.inl ne_ab)
  have F_size_a1 := F_size_a1.other W13 (Or.inl ne_ab)
  have ZS := Nat.le_trans ZS (Keep.of_wr W13).1
  have KP := KP.wr W13 (Or.inl (List.mem_of_getElem? (i := 1) rfl))
  have NF := Fr.snoc X13 NF g_b1
  have V_b1 := V13
  show own_R _ _ _ _ (T13.setTop (mkF m 46 #[.val (.ref a1), .val (.int p2)] []))
  exact own_ret0 X13 hx Bd.returns (hb hby d7_46) hlk (by rw [e13]; exact ⟨rfl, NF, KP, F_size_a1, F_values_a1, V_b1⟩) (by decide) (by decide)
theorem d3_0 : decode prog_28_method_5_code 0 = .ok (.aload_n 0, 1) := by decide +kernel
theorem d3_1 : decode prog_28_method_5_code 1 = .ok (.getfield 9, 3) := by decide +kernel
theorem d3_4 : decode prog_28_method_5_code 4 = .ok (.aload_n 0, 1) := by decide +kernel
theorem d3_5 : decode prog_28_method_5_code 5 = .ok (.getfield 13, 3) := by decide +kernel
theorem d3_8 : decode prog_28_method_5_code 8 = .ok (.invokestatic 17, 3) := by decide +kernel
theorem d3_11 : decode prog_28_method_5_code 11 = .ok (.areturn, 1) := by decide +kernel
theorem ef_3 (m : MethodId) (x0 : Addr) : entryFrame m #[(.ref x0)] 1 = mkF m 0 #[.val (.ref x0)] [] := by first | (simp [entryFrame, mkF, argsToLocals, Value.category]; done) | rfl
def Q3 (Z : State) (a1 : Addr) (b1 : Addr) (k1 : ClassId) (p2 : Int32) (vs : List Value) (h0 : Heap) (n0 : Nat) (v : Option Value) (h : Heap) (L : List Loc) : Prop := ∃ b : Addr, v = some (.ref b) ∧ Fr n0 L ∧ Keep h0 h [] ∧ h0.size ≤ b ∧ ∃ k : ClassId, Arv Z h b k .int p2 ((List.range p2.toNatClampNeg).map fun i => vs.getD i (.int (0 : Int32))) (.int (0 : Int32))
set_option maxRecDepth 65536 in
set_option maxHeartbeats 40000000 in
theorem rm3 (l : Launch) (Z : State) (a0 : Array Value) (hw : ∀ d ∈ tables_1, d.before a0 Z = true) (ws : List Jvm.Cond) (a1 : Addr) (b1 : Addr) (k1 : ClassId) (p2 : Int32) (vs : List Value) (h0 : Heap) (n0 : Nat) (ZS : n0 ≤ h0.size) (F_values_a1 : Fld Z h0 a1 "com/example/austere_nets/austerenets/minimize/IntList" "values" "[I" (.ref b1)) (F_size_a1 : Fld Z h0 a1 "com/example/austere_nets/austerenets/minimize/IntList" "size" "I" (.int p2)) (V_b1 : Arv Z h0 b1 k1 .int (16 : Int32) vs (.int (0 : Int32))) (hlt : p2 < (16 : Int32)) (hn0 : ¬ p2 < 0) (hcap : p2.toNatClampNeg ≤ 16) :
    MetFree l (⟨"com/example/austere_nets/austerenets/minimize/IntList", "toArray", "()[I"⟩ : MethodName) (head1 (Jvm.Cond.code (⟨"com/example/austere_nets/austerenets/minimize/IntList", "toArray", "()[I"⟩ : MethodName) prog_28_method_5_code 1 (some (.array .int)) :: ws) ({ frames := 2, cells := 1, slots := 16, locals := 32 } : Room)) (fun a U => a = #[(.ref a1)] ∧ Z.Warmed39 U.vm ∧ U.heap = h0) (fun _ _ _ _ _ => True) (fun _ U o U' => ∃ v L, o = .returned v ∧ Q3 Z a1 b1 k1 p2 vs h0 n0 v U'.heap L ∧ FrameEnd U o U' L ({ frames := 2, cells := 1, slots := 16, locals := 32 } : Room).cells ({ frames := 2, cells := 1, slots := 16, locals := 32 } : Room).slots) := by
  refine MetFree.of_bodySF (plainFor_of_name pn_1) hisR ?_
  intro p e s m args below meth c s₁ Bd hml0 hP hK
  obtain ⟨rfl, hZ, hh⟩ := hP
  have hx := Bd.exec
  have hby := Bd.bytes
  have hml : c.maxLocals = 1 := hml0
  have hown : s.vm.findClass "com/example/austere_nets/austerenets/minimize/IntList" = some m.cls := findClass_of_methodNamed Bd.named
  have hnm := (name_of_methodNamed Bd.named Bd.method).1
  have hlk : meth.locks = false := Bd.notSynchronized
  have X0 : Stand p l e ({ frames := 2, cells := 1, slots := 16, locals := 32 } : Room) s m #[(.ref a1)] below meth c s₁ [] 0 0 := Stand.of_body Bd
  have e0 : s₁.heap = h0 := by rw [← hh, Bd.state]; rfl
  have NF := Fr.nil n0
  have KP : Keep h0 h0 [] := Keep.refl _ _
  refine own_fin (s := s) (Q := Q3 Z a1 b1 k1 p2 vs h0 n0) (rc := ({ frames := 2, cells := 1, slots := 16, locals := 32 } : Room).cells) (rs := ({ frames := 2, cells := 1, slots := 16, locals := 32 } : Room).slots) ?_
  refine own_go (fun t k => castTop (ef_3 m a1) k) ?_
  show own_R _ _ _ _ (s₁.setTop (mkF m 0 #[.val (.ref a1)] []))
  refine own_go (fun _ k => XS.aloadN X0.here hx rfl (hb hby d3_0) rfl rfl k) ?_
  show own_R _ _ _ _ (s₁.setTop (mkF m 1 #[.val (.ref a1)] [(.ref a1)]))
  obtain ⟨T14, X14, e14, st14⟩ := getF X0 hx hZ hown (host := "") (Or.inl (hw _ (List.mem_of_getElem? (i := 11) rfl))) Via.refl e0 F_values_a1 (g := (mkF m 1 #[.val (.ref a1)] [(.ref a1)])) rfl rfl (hb hby d3_1)
  refine own_go st14 ?_
  show own_R _ _ _ _ (T14.setTop (mkF m 4 #[.val (.ref a1)] [(.ref b1)]))
  refine own_go (fun _ k => XS.aloadN X14.here hx rfl (hb hby d3_4) rfl rfl k) ?_
  show own_R _ _ _ _ (T14.setTop (mkF m 5 #[.val (.ref a1)] [(.ref a1), (.ref b1)]))
  obtain ⟨T15, X15, e15, st15⟩ := getF X14 hx hZ hown (host := "") (Or.inl (hw _ (List.mem_of_getElem? (i := 18) rfl))) Via.refl e14 F_size_a1 (g := (mkF m 5 #[.val (.ref a1)] [(.ref a1), (.ref b1)])) rfl rfl (hb hby d3_5)
  refine own_go st15 ?_
  show own_R _ _ _ _ (T15.setTop (mkF m 8 #[.val (.ref a1)] [(.int p2), (.ref b1)]))
  obtain ⟨_, _, ⟨T16, L16, k16, n16⟩, -, X16, ⟨Lc16, hQ16, l16, y16, z16⟩, st16⟩ := Jvm.LawKit.callS X15 hx (y := (⟨"java/util/Arrays", "copyOf", "([II)[I"⟩ : MethodName)) hown (mvT hZ (hw _ (List.mem_of_getElem? (i := 20) rfl))) (mvT hZ (hw _ (List.mem_of_getElem? (i := 21) rfl))) (mvT hZ (hw _ (List.mem_of_getElem? (i := 22) rfl))) (mvT hZ (hw _ (List.mem_of_getElem? (i := 23) rfl))) (by decide) (backOf (W := 0) (rm4 l Z a0 hw [] b1 p2 k1 (16 : Int32) vs h0 n0 ZS V_b1 hlt hn0 hcap) hZ (hw _ (List.mem_of_getElem? (i := 23) rfl)) (hw _ (List.mem_of_getElem? (i := 22) rfl)) (by decide) (by decide)) (g := (mkF m 8 #[.val (.ref a1)] [(.int p2), (.ref b1)])) rfl (by rw [hml]; rfl) (argsL := [(.ref b1), (.int p2)]) (rest := []) (lenOf pd_1 rfl) rfl (by show 2 * 0 + _ ≤ _; exact Nat.le_of_eq rfl) (hb hby d3_8) (fun _ _ => ⟨rfl, e15, (by decide : 0 + 1 ≤ _), (by decide : 0 + 16 ≤ _)⟩)
  dsimp only [Pt.U, Pt.locs, Pt.cells, Pt.slots] at X16 l16 y16 z16 st16 hQ16
  subst l16 y16 z16
  obtain ⟨h16, e16'⟩ : ∃ z, z = T16.heap := ⟨_, rfl⟩
  rw [← e16'] at hQ16
  have e16 : T16.heap = h16 := e16'.symm
  obtain ⟨c17, rfl, N16q, K16, hbc17, kc17, Vc17'⟩ := hQ16
  have NF := Fr.app NF N16q
  refine own_go st16 ?_
  have ne_a1_c17 : a1 ≠ c17 := Nat.ne_of_lt (Nat.lt_of_lt_of_le F_values_a1.lt hbc17)
  have ne_b1_c17 : b1 ≠ c17 := Nat.ne_of_lt (Nat.lt_of_lt_of_le V_b1.lt hbc17)
  have g_c17 : n0 ≤ c17 := Nat.le_trans ZS hbc17
  have sz_c17 : h0.size ≤ c17 := Nat.le_trans KP.1 hbc17
  have F_values_a1 := F_values_a1.keep K16 nin0
  have F_size_a1 := F_size_a1.keep K16 nin0
  have V_b1 := V_b1.keep K16 nin0
  have ZS := Nat.le_trans ZS K16.1
  have KP := KP.trans K16 all0
  have V_c17 := Vc17'
  show own_R _ _ _ _ (T16.setTop (mkF m 11 #[.val (.ref a1)] [(.ref c17)]))
  exact own_retA X16 hx rfl rfl Bd.returns (hb hby d3_11) hlk (by rw [e16]; exact ⟨_, rfl, NF, KP, sz_c17, _, V_c17⟩) (by decide) (by decide)
theorem d6_0 : decode method_2_code 0 = .ok (.aload_n 0, 1) := by decide +kernel
theorem d6_1 : decode method_2_code 1 = .ok (.ifnull 9, 3) := by decide +kernel
theorem d6_4 : decode method_2_code 4 = .ok (.aload_n 0, 1) := by decide +kernel
theorem d6_5 : decode method_2_code 5 = .ok (.arraylength, 1) := by decide +kernel
theorem d6_6 : decode method_2_code 6 = .ok (.iload_n 1, 1) := by decide +kernel
theorem d6_7 : decode method_2_code 7 = .ok (.if_icmp .eq 5, 3) := by decide +kernel
theorem d6_10 : decode method_2_code 10 = .ok (.iconst 0, 1) := by decide +kernel
theorem d6_11 : decode method_2_code 11 = .ok (.ireturn, 1) := by decide +kernel
theorem d6_12 : decode method_2_code 12 = .ok (.iload_n 1, 1) := by decide +kernel
theorem d6_13 : decode method_2_code 13 = .ok (.ifCond .le 12, 3) := by decide +kernel
theorem d6_16 : decode method_2_code 16 = .ok (.aload_n 0, 1) := by decide +kernel
theorem d6_17 : decode method_2_code 17 = .ok (.iconst 0, 1) := by decide +kernel
theorem d6_18 : decode method_2_code 18 = .ok (.iaload, 1) := by decide +kernel
theorem d6_19 : decode method_2_code 19 = .ok (.iload_n 2, 1) := by decide +kernel
theorem d6_20 : decode method_2_code 20 = .ok (.if_icmp .eq 5, 3) := by decide +kernel
theorem d6_23 : decode method_2_code 23 = .ok (.iconst 0, 1) := by decide +kernel
theorem d6_24 : decode method_2_code 24 = .ok (.ireturn, 1) := by decide +kernel
theorem d6_25 : decode method_2_code 25 = .ok (.iload_n 1, 1) := by decide +kernel
theorem d6_26 : decode method_2_code 26 = .ok (.iconst 1, 1) := by decide +kernel
theorem d6_27 : decode method_2_code 27 = .ok (.if_icmp .le 12, 3) := by decide +kernel
theorem d6_30 : decode method_2_code 30 = .ok (.aload_n 0, 1) := by decide +kernel
theorem d6_31 : decode method_2_code 31 = .ok (.iconst 1, 1) := by decide +kernel
theorem d6_32 : decode method_2_code 32 = .ok (.iaload, 1) := by decide +kernel
theorem d6_33 : decode method_2_code 33 = .ok (.iload_n 3, 1) := by decide +kernel
theorem d6_34 : decode method_2_code 34 = .ok (.if_icmp .eq 5, 3) := by decide +kernel
theorem d6_37 : decode method_2_code 37 = .ok (.iconst 0, 1) := by decide +kernel
theorem d6_38 : decode method_2_code 38 = .ok (.ireturn, 1) := by decide +kernel
theorem d6_39 : decode method_2_code 39 = .ok (.iload_n 1, 1) := by decide +kernel
theorem d6_40 : decode method_2_code 40 = .ok (.iconst 2, 1) := by decide +kernel
theorem d6_41 : decode method_2_code 41 = .ok (.if_icmp .le 13, 3) := by decide +kernel
theorem d6_44 : decode method_2_code 44 = .ok (.aload_n 0, 1) := by decide +kernel
theorem d6_45 : decode method_2_code 45 = .ok (.iconst 2, 1) := by decide +kernel
theorem d6_46 : decode method_2_code 46 = .ok (.iaload, 1) := by decide +kernel
theorem d6_47 : decode method_2_code 47 = .ok (.iload 4, 2) := by decide +kernel
theorem d6_49 : decode method_2_code 49 = .ok (.if_icmp .eq 5, 3) := by decide +kernel
theorem d6_52 : decode method_2_code 52 = .ok (.iconst 0, 1) := by decide +kernel
theorem d6_53 : decode method_2_code 53 = .ok (.ireturn, 1) := by decide +kernel
theorem d6_54 : decode method_2_code 54 = .ok (.iload_n 1, 1) := by decide +kernel
theorem d6_55 : decode method_2_code 55 = .ok (.iconst 3, 1) := by decide +kernel
theorem d6_56 : decode method_2_code 56 = .ok (.if_icmp .le 13, 3) := by decide +kernel
theorem d6_59 : decode method_2_code 59 = .ok (.aload_n 0, 1) := by decide +kernel
theorem d6_60 : decode method_2_code 60 = .ok (.iconst 3, 1) := by decide +kernel
theorem d6_61 : decode method_2_code 61 = .ok (.iaload, 1) := by decide +kernel
theorem d6_62 : decode method_2_code 62 = .ok (.iload 5, 2) := by decide +kernel
theorem d6_64 : decode method_2_code 64 = .ok (.if_icmp .eq 5, 3) := by decide +kernel
theorem d6_67 : decode method_2_code 67 = .ok (.iconst 0, 1) := by decide +kernel
theorem d6_68 : decode method_2_code 68 = .ok (.ireturn, 1) := by decide +kernel
theorem d6_69 : decode method_2_code 69 = .ok (.iload_n 1, 1) := by decide +kernel
theorem d6_70 : decode method_2_code 70 = .ok (.iconst 4, 1) := by decide +kernel
theorem d6_71 : decode method_2_code 71 = .ok (.if_icmp .le 13, 3) := by decide +kernel
theorem d6_74 : decode method_2_code 74 = .ok (.aload_n 0, 1) := by decide +kernel
theorem d6_75 : decode method_2_code 75 = .ok (.iconst 4, 1) := by decide +kernel
theorem d6_76 : decode method_2_code 76 = .ok (.iaload, 1) := by decide +kernel
theorem d6_77 : decode method_2_code 77 = .ok (.iload 6, 2) := by decide +kernel
theorem d6_79 : decode method_2_code 79 = .ok (.if_icmp .eq 5, 3) := by decide +kernel
theorem d6_82 : decode method_2_code 82 = .ok (.iconst 0, 1) := by decide +kernel
theorem d6_83 : decode method_2_code 83 = .ok (.ireturn, 1) := by decide +kernel
theorem d6_84 : decode method_2_code 84 = .ok (.iconst 1, 1) := by decide +kernel
theorem d6_85 : decode method_2_code 85 = .ok (.ireturn, 1) := by decide +kernel
theorem pn_6 : plainName "com/example/austere_nets/austerenets/minimize/IntListToArrayPinLaw" = true := by first | (simp [plainName, overriddenIn]; done) | decide +kernel
theorem ef_6_0 (m : MethodId) (x0 : Addr) (x1 : Int32) (x2 : Int32) (x3 : Int32) (x4 : Int32) (x5 : Int32) (x6 : Int32) : entryFrame m #[(.ref x0), (.int x1), (.int x2), (.int x3), (.int x4), (.int x5), (.int x6)] 7 = mkF m 0 #[.val (.ref x0), .val (.int x1), .val (.int x2), .val (.int x3), .val (.int x4), .val (.int x5), .val (.int x6)] [] := by first | (simp [entryFrame, mkF, argsToLocals, Value.category]; done) | rfl
def Q6_0 (Z : State) (a1 : Addr) (p2 : Int32) (p3 : Int32) (p4 : Int32) (p5 : Int32) (p6 : Int32) (k1 : ClassId) (h0 : Heap) (n0 : Nat) (v : Option Value) (h : Heap) (L : List Loc) : Prop := v = some (.int 1) ∧ Fr n0 L ∧ h = h0
set_option maxRecDepth 65536 in
set_option maxHeartbeats 40000000 in
theorem rm6_0 (l : Launch) (Z : State) (a0 : Array Value) (hw : ∀ d ∈ tables_1, d.before a0 Z = true) (ws : List Jvm.Cond) (a1 : Addr) (p2 : Int32) (p3 : Int32) (p4 : Int32) (p5 : Int32) (p6 : Int32) (k1 : ClassId) (h0 : Heap) (n0 : Nat) (ZS : n0 ≤ h0.size) (V_a1 : Arv Z h0 a1 k1 .int (0 : Int32) [] (.int (0 : Int32))) :
    MetFree l (⟨"com/example/austere_nets/austerenets/minimize/IntListToArrayPinLaw", "matches", "([IIIIIII)Z"⟩ : MethodName) (head1 (Jvm.Cond.code (⟨"com/example/austere_nets/austerenets/minimize/IntListToArrayPinLaw", "matches", "([IIIIIII)Z"⟩ : MethodName) method_2_code 7 (some .boolean) :: ws) ({ frames := 0, cells := 0, slots := 0, locals := 0 } : Room)) (fun a U => a = #[(.ref a1), (.int (0 : Int32)), (.int p2), (.int p3), (.int p4), (.int p5), (.int p6)] ∧ Z.Warmed39 U.vm ∧ U.heap = h0) (fun _ _ _ _ _ => True) (fun _ U o U' => ∃ v L, o = .returned v ∧ Q6_0 Z a1 p2 p3 p4 p5 p6 k1 h0 n0 v U'.heap L ∧ FrameEnd U o U' L ({ frames := 0, cells := 0, slots := 0, locals := 0 } : Room).cells ({ frames := 0, cells := 0, slots := 0, locals := 0 } : Room).slots) := by
  refine MetFree.of_bodySF (plainFor_of_name pn_6) hisR ?_
  intro p e s m args below meth c s₁ Bd hml0 hP hK
  obtain ⟨rfl, hZ, hh⟩ := hP
  have hx := Bd.exec
  have hby := Bd.bytes
  have hml : c.maxLocals = 7 := hml0
  have hown : s.vm.findClass "com/example/austere_nets/austerenets/minimize/IntListToArrayPinLaw" = some m.cls := findClass_of_methodNamed Bd.named
  have hnm := (name_of_methodNamed Bd.named Bd.method).1
  have hlk : meth.locks = false := Bd.notSynchronized
  have X0 : Stand p l e ({ frames := 0, cells := 0, slots := 0, locals := 0 } : Room) s m #[(.ref a1), (.int (0 : Int32)), (.int p2), (.int p3), (.int p4), (.int p5), (.int p6)] below meth c s₁ [] 0 0 := Stand.of_body Bd
  have e0 : s₁.heap = h0 := by rw [← hh, Bd.state]; rfl
  have NF := Fr.nil n0
  have KP : Keep h0 h0 [] := Keep.refl _ _
  refine own_fin (s := s) (Q := Q6_0 Z a1 p2 p3 p4 p5 p6 k1 h0 n0) (rc := ({ frames := 0, cells := 0, slots := 0, locals := 0 } : Room).cells) (rs := ({ frames := 0, cells := 0, slots := 0, locals := 0 } : Room).slots) ?_
  refine own_go (fun t k => castTop (ef_6_0 m a1 (0 : Int32) p2 p3 p4 p5 p6) k) ?_
  show own_R _ _ _ _ (s₁.setTop (mkF m 0 #[.val (.ref a1), .val (.int (0 : Int32)), .val (.int p2), .val (.int p3), .val (.int p4), .val (.int p5), .val (.int p6)] []))
  refine own_go (fun _ k => XS.aloadN X0.here hx rfl (hb hby d6_0) rfl rfl k) ?_
  show own_R _ _ _ _ (s₁.setTop (mkF m 1 #[.val (.ref a1), .val (.int (0 : Int32)), .val (.int p2), .val (.int p3), .val (.int p4), .val (.int p5), .val (.int p6)] [(.ref a1)]))
  refine own_go (fun _ k => XS.ifnullNo X0.here hx rfl (hb hby d6_1) rfl k) ?_
  show own_R _ _ _ _ (s₁.setTop (mkF m 4 #[.val (.ref a1), .val (.int (0 : Int32)), .val (.int p2), .val (.int p3), .val (.int p4), .val (.int p5), .val (.int p6)] []))
  refine own_go (fun _ k => XS.aloadN X0.here hx rfl (hb hby d6_4) rfl rfl k) ?_
  show own_R _ _ _ _ (s₁.setTop (mkF m 5 #[.val (.ref a1), .val (.int (0 : Int32)), .val (.int p2), .val (.int p3), .val (.int p4), .val (.int p5), .val (.int p6)] [(.ref a1)]))
  refine own_go (own_len X0 hx hZ e0 V_a1 (g := (mkF m 5 #[.val (.ref a1), .val (.int (0 : Int32)), .val (.int p2), .val (.int p3), .val (.int p4), .val (.int p5), .val (.int p6)] [(.ref a1)])) rfl rfl (hb hby d6_5)) ?_
  show own_R _ _ _ _ (s₁.setTop (mkF m 6 #[.val (.ref a1), .val (.int (0 : Int32)), .val (.int p2), .val (.int p3), .val (.int p4), .val (.int p5), .val (.int p6)] [(.int (0 : Int32))]))
  refine own_go (fun _ k => XS.iloadN X0.here hx rfl (hb hby d6_6) rfl k) ?_
  show own_R _ _ _ _ (s₁.setTop (mkF m 7 #[.val (.ref a1), .val (.int (0 : Int32)), .val (.int p2), .val (.int p3), .val (.int p4), .val (.int p5), .val (.int p6)] [(.int (0 : Int32)), (.int (0 : Int32))]))
  refine own_go (fun _ k => XS.icmpYes X0.here hx rfl (pc0 := 7) (pc' := 12) rfl (hb hby d6_7) rfl (teq (by decide : (0 : Int32) = (0 : Int32))).1 (by decide) (by decide) k) ?_
  show own_R _ _ _ _ (s₁.setTop (mkF m 12 #[.val (.ref a1), .val (.int (0 : Int32)), .val (.int p2), .val (.int p3), .val (.int p4), .val (.int p5), .val (.int p6)] []))
  refine own_go (fun _ k => XS.iloadN X0.here hx rfl (hb hby d6_12) rfl k) ?_
  show own_R _ _ _ _ (s₁.setTop (mkF m 13 #[.val (.ref a1), .val (.int (0 : Int32)), .val (.int p2), .val (.int p3), .val (.int p4), .val (.int p5), .val (.int p6)] [(.int (0 : Int32))]))
  refine own_go (fun _ k => XS.ifYes X0.here hx rfl (pc0 := 13) (pc' := 25) rfl (hb hby d6_13) rfl ((if0 _ _).trans (flt (by decide : ¬ ((0 : Int32) < (0 : Int32)))).2.2.2) (by decide) (by decide) k) ?_
  show own_R _ _ _ _ (s₁.setTop (mkF m 25 #[.val (.ref a1), .val (.int (0 : Int32)), .val (.int p2), .val (.int p3), .val (.int p4), .val (.int p5), .val (.int p6)] []))
  refine own_go (fun _ k => XS.iloadN X0.here hx rfl (hb hby d6_25) rfl k) ?_
  show own_R _ _ _ _ (s₁.setTop (mkF m 26 #[.val (.ref a1), .val (.int (0 : Int32)), .val (.int p2), .val (.int p3), .val (.int p4), .val (.int p5), .val (.int p6)] [(.int (0 : Int32))]))
  refine own_go (fun _ k => XS.iconst X0.here hx rfl (hb hby d6_26) k) ?_
  show own_R _ _ _ _ (s₁.setTop (mkF m 27 #[.val (.ref a1), .val (.int (0 : Int32)), .val (.int p2), .val (.int p3), .val (.int p4), .val (.int p5), .val (.int p6)] [(.int (1 : Int32)), (.int (0 : Int32))]))
  refine own_go (fun _ k => XS.icmpYes X0.here hx rfl (pc0 := 27) (pc' := 39) rfl (hb hby d6_27) rfl (flt (by decide : ¬ ((1 : Int32) < (0 : Int32)))).2.2.2 (by decide) (by decide) k) ?_
  show own_R _ _ _ _ (s₁.setTop (mkF m 39 #[.val (.ref a1), .val (.int (0 : Int32)), .val (.int p2), .val (.int p3), .val (.int p4), .val (.int p5), .val (.int p6)] []))
  refine own_go (fun _ k => XS.iloadN X0.here hx rfl (hb hby d6_39) rfl k) ?_
  show own_R _ _ _ _ (s₁.setTop (mkF m 40 #[.val (.ref a1), .val (.int (0 : Int32)), .val (.int p2), .val (.int p3), .val (.int p4), .val (.int p5), .val (.int p6)] [(.int (0 : Int32))]))
  refine own_go (fun _ k => XS.iconst X0.here hx rfl (hb hby d6_40) k) ?_
  show own_R _ _ _ _ (s₁.setTop (mkF m 41 #[.val (.ref a1), .val (.int (0 : Int32)), .val (.int p2), .val (.int p3), .val (.int p4), .val (.int p5), .val (.int p6)] [(.int (2 : Int32)), (.int (0 : Int32))]))
  refine own_go (fun _ k => XS.icmpYes X0.here hx rfl (pc0 := 41) (pc' := 54) rfl (hb hby d6_41) rfl (flt (by decide : ¬ ((2 : Int32) < (0 : Int32)))).2.2.2 (by decide) (by decide) k) ?_
  show own_R _ _ _ _ (s₁.setTop (mkF m 54 #[.val (.ref a1), .val (.int (0 : Int32)), .val (.int p2), .val (.int p3), .val (.int p4), .val (.int p5), .val (.int p6)] []))
  refine own_go (fun _ k => XS.iloadN X0.here hx rfl (hb hby d6_54) rfl k) ?_
  show own_R _ _ _ _ (s₁.setTop (mkF m 55 #[.val (.ref a1), .val (.int (0 : Int32)), .val (.int p2), .val (.int p3), .val (.int p4), .val (.int p5), .val (.int p6)] [(.int (0 : Int32))]))
  refine own_go (fun _ k => XS.iconst X0.here hx rfl (hb hby d6_55) k) ?_
  show own_R _ _ _ _ (s₁.setTop (mkF m 56 #[.val (.ref a1), .val (.int (0 : Int32)), .val (.int p2), .val (.int p3), .val (.int p4), .val (.int p5), .val (.int p6)] [(.int (3 : Int32)), (.int (0 : Int32))]))
  refine own_go (fun _ k => XS.icmpYes X0.here hx rfl (pc0 := 56) (pc' := 69) rfl (hb hby d6_56) rfl (flt (by decide : ¬ ((3 : Int32) < (0 : Int32)))).2.2.2 (by decide) (by decide) k) ?_
  show own_R _ _ _ _ (s₁.setTop (mkF m 69 #[.val (.ref a1), .val (.int (0 : Int32)), .val (.int p2), .val (.int p3), .val (.int p4), .val (.int p5), .val (.int p6)] []))
  refine own_go (fun _ k => XS.iloadN X0.here hx rfl (hb hby d6_69) rfl k) ?_
  show own_R _ _ _ _ (s₁.setTop (mkF m 70 #[.val (.ref a1), .val (.int (0 : Int32)), .val (.int p2), .val (.int p3), .val (.int p4), .val (.int p5), .val (.int p6)] [(.int (0 : Int32))]))
  refine own_go (fun _ k => XS.iconst X0.here hx rfl (hb hby d6_70) k) ?_
  show own_R _ _ _ _ (s₁.setTop (mkF m 71 #[.val (.ref a1), .val (.int (0 : Int32)), .val (.int p2), .val (.int p3), .val (.int p4), .val (.int p5), .val (.int p6)] [(.int (4 : Int32)), (.int (0 : Int32))]))
  refine own_go (fun _ k => XS.icmpYes X0.here hx rfl (pc0 := 71) (pc' := 84) rfl (hb hby d6_71) rfl (flt (by decide : ¬ ((4 : Int32) < (0 : Int32)))).2.2.2 (by decide) (by decide) k) ?_
  show own_R _ _ _ _ (s₁.setTop (mkF m 84 #[.val (.ref a1), .val (.int (0 : Int32)), .val (.int p2), .val (.int p3), .val (.int p4), .val (.int p5), .val (.int p6)] []))
  refine own_go (fun _ k => XS.iconst X0.here hx rfl (hb hby d6_84) k) ?_
  show own_R _ _ _ _ (s₁.setTop (mkF m 85 #[.val (.ref a1), .val (.int (0 : Int32)), .val (.int p2), .val (.int p3), .val (.int p4), .val (.int p5), .val (.int p6)] [(.int (1 : Int32))]))
  exact own_retN X0 hx (t := .boolean) (by simp) Bd.returns (hb hby d6_85) hlk ⟨rfl, NF, e0⟩ (by decide) (by decide)
theorem ef_6_1 (m : MethodId) (x0 : Addr) (x1 : Int32) (x2 : Int32) (x3 : Int32) (x4 : Int32) (x5 : Int32) (x6 : Int32) : entryFrame m #[(.ref x0), (.int x1), (.int x2), (.int x3), (.int x4), (.int x5), (.int x6)] 7 = mkF m 0 #[.val (.ref x0), .val (.int x1), .val (.int x2), .val (.int x3), .val (.int x4), .val (.int x5), .val (.int x6)] [] := by first | (simp [entryFrame, mkF, argsToLocals, Value.category]; done) | rfl
def Q6_1 (Z : State) (a1 : Addr) (p2 : Int32) (p3 : Int32) (p4 : Int32) (p5 : Int32) (p6 : Int32) (k1 : ClassId) (h0 : Heap) (n0 : Nat) (v : Option Value) (h : Heap) (L : List Loc) : Prop := v = some (.int 1) ∧ Fr n0 L ∧ h = h0
set_option maxRecDepth 65536 in
set_option maxHeartbeats 40000000 in
theorem rm6_1 (l : Launch) (Z : State) (a0 : Array Value) (hw : ∀ d ∈ tables_1, d.before a0 Z = true) (ws : List Jvm.Cond) (a1 : Addr) (p2 : Int32) (p3 : Int32) (p4 : Int32) (p5 : Int32) (p6 : Int32) (k1 : ClassId) (h0 : Heap) (n0 : Nat) (ZS : n0 ≤ h0.size) (V_a1 : Arv Z h0 a1 k1 .int (1 : Int32) [(.int p2)] (.int (0 : Int32))) :
    MetFree l (⟨"com/example/austere_nets/austerenets/minimize/IntListToArrayPinLaw", "matches", "([IIIIIII)Z"⟩ : MethodName) (head1 (Jvm.Cond.code (⟨"com/example/austere_nets/austerenets/minimize/IntListToArrayPinLaw", "matches", "([IIIIIII)Z"⟩ : MethodName) method_2_code 7 (some .boolean) :: ws) ({ frames := 0, cells := 0, slots := 0, locals := 0 } : Room)) (fun a U => a = #[(.ref a1), (.int (1 : Int32)), (.int p2), (.int p3), (.int p4), (.int p5), (.int p6)] ∧ Z.Warmed39 U.vm ∧ U.heap = h0) (fun _ _ _ _ _ => True) (fun _ U o U' => ∃ v L, o = .returned v ∧ Q6_1 Z a1 p2 p3 p4 p5 p6 k1 h0 n0 v U'.heap L ∧ FrameEnd U o U' L ({ frames := 0, cells := 0, slots := 0, locals := 0 } : Room).cells ({ frames := 0, cells := 0, slots := 0, locals := 0 } : Room).slots) := by
  refine MetFree.of_bodySF (plainFor_of_name pn_6) hisR ?_
  intro p e s m args below meth c s₁ Bd hml0 hP hK
  obtain ⟨rfl, hZ, hh⟩ := hP
  have hx := Bd.exec
  have hby := Bd.bytes
  have hml : c.maxLocals = 7 := hml0
  have hown : s.vm.findClass "com/example/austere_nets/austerenets/minimize/IntListToArrayPinLaw" = some m.cls := findClass_of_methodNamed Bd.named
  have hnm := (name_of_methodNamed Bd.named Bd.method).1
  have hlk : meth.locks = false := Bd.notSynchronized
  have X0 : Stand p l e ({ frames := 0, cells := 0, slots := 0, locals := 0 } : Room) s m #[(.ref a1), (.int (1 : Int32)), (.int p2), (.int p3), (.int p4), (.int p5), (.int p6)] below meth c s₁ [] 0 0 := Stand.of_body Bd
  have e0 : s₁.heap = h0 := by rw [← hh, Bd.state]; rfl
  have NF := Fr.nil n0
  have KP : Keep h0 h0 [] := Keep.refl _ _
  refine own_fin (s := s) (Q := Q6_1 Z a1 p2 p3 p4 p5 p6 k1 h0 n0) (rc := ({ frames := 0, cells := 0, slots := 0, locals := 0 } : Room).cells) (rs := ({ frames := 0, cells := 0, slots := 0, locals := 0 } : Room).slots) ?_
  refine own_go (fun t k => castTop (ef_6_1 m a1 (1 : Int32) p2 p3 p4 p5 p6) k) ?_
  show own_R _ _ _ _ (s₁.setTop (mkF m 0 #[.val (.ref a1), .val (.int (1 : Int32)), .val (.int p2), .val (.int p3), .val (.int p4), .val (.int p5), .val (.int p6)] []))
  refine own_go (fun _ k => XS.aloadN X0.here hx rfl (hb hby d6_0) rfl rfl k) ?_
  show own_R _ _ _ _ (s₁.setTop (mkF m 1 #[.val (.ref a1), .val (.int (1 : Int32)), .val (.int p2), .val (.int p3), .val (.int p4), .val (.int p5), .val (.int p6)] [(.ref a1)]))
  refine own_go (fun _ k => XS.ifnullNo X0.here hx rfl (hb hby d6_1) rfl k) ?_
  show own_R _ _ _ _ (s₁.setTop (mkF m 4 #[.val (.ref a1), .val (.int (1 : Int32)), .val (.int p2), .val (.int p3), .val (.int p4), .val (.int p5), .val (.int p6)] []))
  refine own_go (fun _ k => XS.aloadN X0.here hx rfl (hb hby d6_4) rfl rfl k) ?_
  show own_R _ _ _ _ (s₁.setTop (mkF m 5 #[.val (.ref a1), .val (.int (1 : Int32)), .val (.int p2), .val (.int p3), .val (.int p4), .val (.int p5), .val (.int p6)] [(.ref a1)]))
  refine own_go (own_len X0 hx hZ e0 V_a1 (g := (mkF m 5 #[.val (.ref a1), .val (.int (1 : Int32)), .val (.int p2), .val (.int p3), .val (.int p4), .val (.int p5), .val (.int p6)] [(.ref a1)])) rfl rfl (hb hby d6_5)) ?_
  show own_R _ _ _ _ (s₁.setTop (mkF m 6 #[.val (.ref a1), .val (.int (1 : Int32)), .val (.int p2), .val (.int p3), .val (.int p4), .val (.int p5), .val (.int p6)] [(.int (1 : Int32))]))
  refine own_go (fun _ k => XS.iloadN X0.here hx rfl (hb hby d6_6) rfl k) ?_
  show own_R _ _ _ _ (s₁.setTop (mkF m 7 #[.val (.ref a1), .val (.int (1 : Int32)), .val (.int p2), .val (.int p3), .val (.int p4), .val (.int p5), .val (.int p6)] [(.int (1 : Int32)), (.int (1 : Int32))]))
  refine own_go (fun _ k => XS.icmpYes X0.here hx rfl (pc0 := 7) (pc' := 12) rfl (hb hby d6_7) rfl (teq (by decide : (1 : Int32) = (1 : Int32))).1 (by decide) (by decide) k) ?_
  show own_R _ _ _ _ (s₁.setTop (mkF m 12 #[.val (.ref a1), .val (.int (1 : Int32)), .val (.int p2), .val (.int p3), .val (.int p4), .val (.int p5), .val (.int p6)] []))
  refine own_go (fun _ k => XS.iloadN X0.here hx rfl (hb hby d6_12) rfl k) ?_
  show own_R _ _ _ _ (s₁.setTop (mkF m 13 #[.val (.ref a1), .val (.int (1 : Int32)), .val (.int p2), .val (.int p3), .val (.int p4), .val (.int p5), .val (.int p6)] [(.int (1 : Int32))]))
  refine own_go (fun _ k => XS.ifNo X0.here hx rfl (hb hby d6_13) rfl ((if0 _ _).trans (tlt (by decide : (0 : Int32) < (1 : Int32))).2.2.2) k) ?_
  show own_R _ _ _ _ (s₁.setTop (mkF m 16 #[.val (.ref a1), .val (.int (1 : Int32)), .val (.int p2), .val (.int p3), .val (.int p4), .val (.int p5), .val (.int p6)] []))
  refine own_go (fun _ k => XS.aloadN X0.here hx rfl (hb hby d6_16) rfl rfl k) ?_
  show own_R _ _ _ _ (s₁.setTop (mkF m 17 #[.val (.ref a1), .val (.int (1 : Int32)), .val (.int p2), .val (.int p3), .val (.int p4), .val (.int p5), .val (.int p6)] [(.ref a1)]))
  refine own_go (fun _ k => XS.iconst X0.here hx rfl (hb hby d6_17) k) ?_
  show own_R _ _ _ _ (s₁.setTop (mkF m 18 #[.val (.ref a1), .val (.int (1 : Int32)), .val (.int p2), .val (.int p3), .val (.int p4), .val (.int p5), .val (.int p6)] [(.int (0 : Int32)), (.ref a1)]))
  refine own_go (own_ldI X0 hx hZ e0 V_a1 (j := (0 : Int32)) (i := 0) ⟨by decide, by decide⟩ rfl (v := (.int p2)) rfl (g := (mkF m 18 #[.val (.ref a1), .val (.int (1 : Int32)), .val (.int p2), .val (.int p3), .val (.int p4), .val (.int p5), .val (.int p6)] [(.int (0 : Int32)), (.ref a1)])) rfl rfl (hb hby d6_18)) ?_
  show own_R _ _ _ _ (s₁.setTop (mkF m 19 #[.val (.ref a1), .val (.int (1 : Int32)), .val (.int p2), .val (.int p3), .val (.int p4), .val (.int p5), .val (.int p6)] [(.int p2)]))
  refine own_go (fun _ k => XS.iloadN X0.here hx rfl (hb hby d6_19) rfl k) ?_
  show own_R _ _ _ _ (s₁.setTop (mkF m 20 #[.val (.ref a1), .val (.int (1 : Int32)), .val (.int p2), .val (.int p3), .val (.int p4), .val (.int p5), .val (.int p6)] [(.int p2), (.int p2)]))
  refine own_go (fun _ k => XS.icmpYes X0.here hx rfl (pc0 := 20) (pc' := 25) rfl (hb hby d6_20) rfl (teq rfl).1 (by decide) (by decide) k) ?_
  show own_R _ _ _ _ (s₁.setTop (mkF m 25 #[.val (.ref a1), .val (.int (1 : Int32)), .val (.int p2), .val (.int p3), .val (.int p4), .val (.int p5), .val (.int p6)] []))
  refine own_go (fun _ k => XS.iloadN X0.here hx rfl (hb hby d6_25) rfl k) ?_
  show own_R _ _ _ _ (s₁.setTop (mkF m 26 #[.val (.ref a1), .val (.int (1 : Int32)), .val (.int p2), .val (.int p3), .val (.int p4), .val (.int p5), .val (.int p6)] [(.int (1 : Int32))]))
  refine own_go (fun _ k => XS.iconst X0.here hx rfl (hb hby d6_26) k) ?_
  show own_R _ _ _ _ (s₁.setTop (mkF m 27 #[.val (.ref a1), .val (.int (1 : Int32)), .val (.int p2), .val (.int p3), .val (.int p4), .val (.int p5), .val (.int p6)] [(.int (1 : Int32)), (.int (1 : Int32))]))
  refine own_go (fun _ k => XS.icmpYes X0.here hx rfl (pc0 := 27) (pc' := 39) rfl (hb hby d6_27) rfl (flt (by decide : ¬ ((1 : Int32) < (1 : Int32)))).2.2.2 (by decide) (by decide) k) ?_
  show own_R _ _ _ _ (s₁.setTop (mkF m 39 #[.val (.ref a1), .val (.int (1 : Int32)), .val (.int p2), .val (.int p3), .val (.int p4), .val (.int p5), .val (.int p6)] []))
  refine own_go (fun _ k => XS.iloadN X0.here hx rfl (hb hby d6_39) rfl k) ?_
  show own_R _ _ _ _ (s₁.setTop (mkF m 40 #[.val (.ref a1), .val (.int (1 : Int32)), .val (.int p2), .val (.int p3), .val (.int p4), .val (.int p5), .val (.int p6)] [(.int (1 : Int32))]))
  refine own_go (fun _ k => XS.iconst X0.here hx rfl (hb hby d6_40) k) ?_
  show own_R _ _ _ _ (s₁.setTop (mkF m 41 #[.val (.ref a1), .val (.int (1 : Int32)), .val (.int p2), .val (.int p3), .val (.int p4), .val (.int p5), .val (.int p6)] [(.int (2 : Int32)), (.int (1 : Int32))]))
  refine own_go (fun _ k => XS.icmpYes X0.here hx rfl (pc0 := 41) (pc' := 54) rfl (hb hby d6_41) rfl (flt (by decide : ¬ ((2 : Int32) < (1 : Int32)))).2.2.2 (by decide) (by decide) k) ?_
  show own_R _ _ _ _ (s₁.setTop (mkF m 54 #[.val (.ref a1), .val (.int (1 : Int32)), .val (.int p2), .val (.int p3), .val (.int p4), .val (.int p5), .val (.int p6)] []))
  refine own_go (fun _ k => XS.iloadN X0.here hx rfl (hb hby d6_54) rfl k) ?_
  show own_R _ _ _ _ (s₁.setTop (mkF m 55 #[.val (.ref a1), .val (.int (1 : Int32)), .val (.int p2), .val (.int p3), .val (.int p4), .val (.int p5), .val (.int p6)] [(.int (1 : Int32))]))
  refine own_go (fun _ k => XS.iconst X0.here hx rfl (hb hby d6_55) k) ?_
  show own_R _ _ _ _ (s₁.setTop (mkF m 56 #[.val (.ref a1), .val (.int (1 : Int32)), .val (.int p2), .val (.int p3), .val (.int p4), .val (.int p5), .val (.int p6)] [(.int (3 : Int32)), (.int (1 : Int32))]))
  refine own_go (fun _ k => XS.icmpYes X0.here hx rfl (pc0 := 56) (pc' := 69) rfl (hb hby d6_56) rfl (flt (by decide : ¬ ((3 : Int32) < (1 : Int32)))).2.2.2 (by decide) (by decide) k) ?_
  show own_R _ _ _ _ (s₁.setTop (mkF m 69 #[.val (.ref a1), .val (.int (1 : Int32)), .val (.int p2), .val (.int p3), .val (.int p4), .val (.int p5), .val (.int p6)] []))
  refine own_go (fun _ k => XS.iloadN X0.here hx rfl (hb hby d6_69) rfl k) ?_
  show own_R _ _ _ _ (s₁.setTop (mkF m 70 #[.val (.ref a1), .val (.int (1 : Int32)), .val (.int p2), .val (.int p3), .val (.int p4), .val (.int p5), .val (.int p6)] [(.int (1 : Int32))]))
  refine own_go (fun _ k => XS.iconst X0.here hx rfl (hb hby d6_70) k) ?_
  show own_R _ _ _ _ (s₁.setTop (mkF m 71 #[.val (.ref a1), .val (.int (1 : Int32)), .val (.int p2), .val (.int p3), .val (.int p4), .val (.int p5), .val (.int p6)] [(.int (4 : Int32)), (.int (1 : Int32))]))
  refine own_go (fun _ k => XS.icmpYes X0.here hx rfl (pc0 := 71) (pc' := 84) rfl (hb hby d6_71) rfl (flt (by decide : ¬ ((4 : Int32) < (1 : Int32)))).2.2.2 (by decide) (by decide) k) ?_
  show own_R _ _ _ _ (s₁.setTop (mkF m 84 #[.val (.ref a1), .val (.int (1 : Int32)), .val (.int p2), .val (.int p3), .val (.int p4), .val (.int p5), .val (.int p6)] []))
  refine own_go (fun _ k => XS.iconst X0.here hx rfl (hb hby d6_84) k) ?_
  show own_R _ _ _ _ (s₁.setTop (mkF m 85 #[.val (.ref a1), .val (.int (1 : Int32)), .val (.int p2), .val (.int p3), .val (.int p4), .val (.int p5), .val (.int p6)] [(.int (1 : Int32))]))
  exact own_retN X0 hx (t := .boolean) (by simp) Bd.returns (hb hby d6_85) hlk ⟨rfl, NF, e0⟩ (by decide) (by decide)
theorem ef_6_2 (m : MethodId) (x0 : Addr) (x1 : Int32) (x2 : Int32) (x3 : Int32) (x4 : Int32) (x5 : Int32) (x6 : Int32) : entryFrame m #[(.ref x0), (.int x1), (.int x2), (.int x3), (.int x4), (.int x5), (.int x6)] 7 = mkF m 0 #[.val (.ref x0), .val (.int x1), .val (.int x2), .val (.int x3), .val (.int x4), .val (.int x5), .val (.int x6)] [] := by first | (simp [entryFrame, mkF, argsToLocals, Value.category]; done) | rfl
def Q6_2 (Z : State) (a1 : Addr) (p2 : Int32) (p3 : Int32) (p4 : Int32) (p5 : Int32) (p6 : Int32) (k1 : ClassId) (h0 : Heap) (n0 : Nat) (v : Option Value) (h : Heap) (L : List Loc) : Prop := v = some (.int 1) ∧ Fr n0 L ∧ h = h0
set_option maxRecDepth 65536 in
set_option maxHeartbeats 40000000 in
theorem rm6_2 (l : Launch) (Z : State) (a0 : Array Value) (hw : ∀ d ∈ tables_1, d.before a0 Z = true) (ws : List Jvm.Cond) (a1 : Addr) (p2 : Int32) (p3 : Int32) (p4 : Int32) (p5 : Int32) (p6 : Int32) (k1 : ClassId) (h0 : Heap) (n0 : Nat) (ZS : n0 ≤ h0.size) (V_a1 : Arv Z h0 a1 k1 .int (2 : Int32) [(.int p2), (.int p3)] (.int (0 : Int32))) :
    MetFree l (⟨"com/example/austere_nets/austerenets/minimize/IntListToArrayPinLaw", "matches", "([IIIIIII)Z"⟩ : MethodName) (head1 (Jvm.Cond.code (⟨"com/example/austere_nets/austerenets/minimize/IntListToArrayPinLaw", "matches", "([IIIIIII)Z"⟩ : MethodName) method_2_code 7 (some .boolean) :: ws) ({ frames := 0, cells := 0, slots := 0, locals := 0 } : Room)) (fun a U => a = #[(.ref a1), (.int (2 : Int32)), (.int p2), (.int p3), (.int p4), (.int p5), (.int p6)] ∧ Z.Warmed39 U.vm ∧ U.heap = h0) (fun _ _ _ _ _ => True) (fun _ U o U' => ∃ v L, o = .returned v ∧ Q6_2 Z a1 p2 p3 p4 p5 p6 k1 h0 n0 v U'.heap L ∧ FrameEnd U o U' L ({ frames := 0, cells := 0, slots := 0, locals := 0 } : Room).cells ({ frames := 0, cells := 0, slots := 0, locals := 0 } : Room).slots) := by
  refine MetFree.of_bodySF (plainFor_of_name pn_6) hisR ?_
  intro p e s m args below meth c s₁ Bd hml0 hP hK
  obtain ⟨rfl, hZ, hh⟩ := hP
  have hx := Bd.exec
  have hby := Bd.bytes
  have hml : c.maxLocals = 7 := hml0
  have hown : s.vm.findClass "com/example/austere_nets/austerenets/minimize/IntListToArrayPinLaw" = some m.cls := findClass_of_methodNamed Bd.named
  have hnm := (name_of_methodNamed Bd.named Bd.method).1
  have hlk : meth.locks = false := Bd.notSynchronized
  have X0 : Stand p l e ({ frames := 0, cells := 0, slots := 0, locals := 0 } : Room) s m #[(.ref a1), (.int (2 : Int32)), (.int p2), (.int p3), (.int p4), (.int p5), (.int p6)] below meth c s₁ [] 0 0 := Stand.of_body Bd
  have e0 : s₁.heap = h0 := by rw [← hh, Bd.state]; rfl
  have NF := Fr.nil n0
  have KP : Keep h0 h0 [] := Keep.refl _ _
  refine own_fin (s := s) (Q := Q6_2 Z a1 p2 p3 p4 p5 p6 k1 h0 n0) (rc := ({ frames := 0, cells := 0, slots := 0, locals := 0 } : Room).cells) (rs := ({ frames := 0, cells := 0, slots := 0, locals := 0 } : Room).slots) ?_
  refine own_go (fun t k => castTop (ef_6_2 m a1 (2 : Int32) p2 p3 p4 p5 p6) k) ?_
  show own_R _ _ _ _ (s₁.setTop (mkF m 0 #[.val (.ref a1), .val (.int (2 : Int32)), .val (.int p2), .val (.int p3), .val (.int p4), .val (.int p5), .val (.int p6)] []))
  refine own_go (fun _ k => XS.aloadN X0.here hx rfl (hb hby d6_0) rfl rfl k) ?_
  show own_R _ _ _ _ (s₁.setTop (mkF m 1 #[.val (.ref a1), .val (.int (2 : Int32)), .val (.int p2), .val (.int p3), .val (.int p4), .val (.int p5), .val (.int p6)] [(.ref a1)]))
  refine own_go (fun _ k => XS.ifnullNo X0.here hx rfl (hb hby d6_1) rfl k) ?_
  show own_R _ _ _ _ (s₁.setTop (mkF m 4 #[.val (.ref a1), .val (.int (2 : Int32)), .val (.int p2), .val (.int p3), .val (.int p4), .val (.int p5), .val (.int p6)] []))
  refine own_go (fun _ k => XS.aloadN X0.here hx rfl (hb hby d6_4) rfl rfl k) ?_
  show own_R _ _ _ _ (s₁.setTop (mkF m 5 #[.val (.ref a1), .val (.int (2 : Int32)), .val (.int p2), .val (.int p3), .val (.int p4), .val (.int p5), .val (.int p6)] [(.ref a1)]))
  refine own_go (own_len X0 hx hZ e0 V_a1 (g := (mkF m 5 #[.val (.ref a1), .val (.int (2 : Int32)), .val (.int p2), .val (.int p3), .val (.int p4), .val (.int p5), .val (.int p6)] [(.ref a1)])) rfl rfl (hb hby d6_5)) ?_
  show own_R _ _ _ _ (s₁.setTop (mkF m 6 #[.val (.ref a1), .val (.int (2 : Int32)), .val (.int p2), .val (.int p3), .val (.int p4), .val (.int p5), .val (.int p6)] [(.int (2 : Int32))]))
  refine own_go (fun _ k => XS.iloadN X0.here hx rfl (hb hby d6_6) rfl k) ?_
  show own_R _ _ _ _ (s₁.setTop (mkF m 7 #[.val (.ref a1), .val (.int (2 : Int32)), .val (.int p2), .val (.int p3), .val (.int p4), .val (.int p5), .val (.int p6)] [(.int (2 : Int32)), (.int (2 : Int32))]))
  refine own_go (fun _ k => XS.icmpYes X0.here hx rfl (pc0 := 7) (pc' := 12) rfl (hb hby d6_7) rfl (teq (by decide : (2 : Int32) = (2 : Int32))).1 (by decide) (by decide) k) ?_
  show own_R _ _ _ _ (s₁.setTop (mkF m 12 #[.val (.ref a1), .val (.int (2 : Int32)), .val (.int p2), .val (.int p3), .val (.int p4), .val (.int p5), .val (.int p6)] []))
  refine own_go (fun _ k => XS.iloadN X0.here hx rfl (hb hby d6_12) rfl k) ?_
  show own_R _ _ _ _ (s₁.setTop (mkF m 13 #[.val (.ref a1), .val (.int (2 : Int32)), .val (.int p2), .val (.int p3), .val (.int p4), .val (.int p5), .val (.int p6)] [(.int (2 : Int32))]))
  refine own_go (fun _ k => XS.ifNo X0.here hx rfl (hb hby d6_13) rfl ((if0 _ _).trans (tlt (by decide : (0 : Int32) < (2 : Int32))).2.2.2) k) ?_
  show own_R _ _ _ _ (s₁.setTop (mkF m 16 #[.val (.ref a1), .val (.int (2 : Int32)), .val (.int p2), .val (.int p3), .val (.int p4), .val (.int p5), .val (.int p6)] []))
  refine own_go (fun _ k => XS.aloadN X0.here hx rfl (hb hby d6_16) rfl rfl k) ?_
  show own_R _ _ _ _ (s₁.setTop (mkF m 17 #[.val (.ref a1), .val (.int (2 : Int32)), .val (.int p2), .val (.int p3), .val (.int p4), .val (.int p5), .val (.int p6)] [(.ref a1)]))
  refine own_go (fun _ k => XS.iconst X0.here hx rfl (hb hby d6_17) k) ?_
  show own_R _ _ _ _ (s₁.setTop (mkF m 18 #[.val (.ref a1), .val (.int (2 : Int32)), .val (.int p2), .val (.int p3), .val (.int p4), .val (.int p5), .val (.int p6)] [(.int (0 : Int32)), (.ref a1)]))
  refine own_go (own_ldI X0 hx hZ e0 V_a1 (j := (0 : Int32)) (i := 0) ⟨by decide, by decide⟩ rfl (v := (.int p2)) rfl (g := (mkF m 18 #[.val (.ref a1), .val (.int (2 : Int32)), .val (.int p2), .val (.int p3), .val (.int p4), .val (.int p5), .val (.int p6)] [(.int (0 : Int32)), (.ref a1)])) rfl rfl (hb hby d6_18)) ?_
  show own_R _ _ _ _ (s₁.setTop (mkF m 19 #[.val (.ref a1), .val (.int (2 : Int32)), .val (.int p2), .val (.int p3), .val (.int p4), .val (.int p5), .val (.int p6)] [(.int p2)]))
  refine own_go (fun _ k => XS.iloadN X0.here hx rfl (hb hby d6_19) rfl k) ?_
  show own_R _ _ _ _ (s₁.setTop (mkF m 20 #[.val (.ref a1), .val (.int (2 : Int32)), .val (.int p2), .val (.int p3), .val (.int p4), .val (.int p5), .val (.int p6)] [(.int p2), (.int p2)]))
  refine own_go (fun _ k => XS.icmpYes X0.here hx rfl (pc0 := 20) (pc' := 25) rfl (hb hby d6_20) rfl (teq rfl).1 (by decide) (by decide) k) ?_
  show own_R _ _ _ _ (s₁.setTop (mkF m 25 #[.val (.ref a1), .val (.int (2 : Int32)), .val (.int p2), .val (.int p3), .val (.int p4), .val (.int p5), .val (.int p6)] []))
  refine own_go (fun _ k => XS.iloadN X0.here hx rfl (hb hby d6_25) rfl k) ?_
  show own_R _ _ _ _ (s₁.setTop (mkF m 26 #[.val (.ref a1), .val (.int (2 : Int32)), .val (.int p2), .val (.int p3), .val (.int p4), .val (.int p5), .val (.int p6)] [(.int (2 : Int32))]))
  refine own_go (fun _ k => XS.iconst X0.here hx rfl (hb hby d6_26) k) ?_
  show own_R _ _ _ _ (s₁.setTop (mkF m 27 #[.val (.ref a1), .val (.int (2 : Int32)), .val (.int p2), .val (.int p3), .val (.int p4), .val (.int p5), .val (.int p6)] [(.int (1 : Int32)), (.int (2 : Int32))]))
  refine own_go (fun _ k => XS.icmpNo X0.here hx rfl (hb hby d6_27) rfl (tlt (by decide : (1 : Int32) < (2 : Int32))).2.2.2 k) ?_
  show own_R _ _ _ _ (s₁.setTop (mkF m 30 #[.val (.ref a1), .val (.int (2 : Int32)), .val (.int p2), .val (.int p3), .val (.int p4), .val (.int p5), .val (.int p6)] []))
  refine own_go (fun _ k => XS.aloadN X0.here hx rfl (hb hby d6_30) rfl rfl k) ?_
  show own_R _ _ _ _ (s₁.setTop (mkF m 31 #[.val (.ref a1), .val (.int (2 : Int32)), .val (.int p2), .val (.int p3), .val (.int p4), .val (.int p5), .val (.int p6)] [(.ref a1)]))
  refine own_go (fun _ k => XS.iconst X0.here hx rfl (hb hby d6_31) k) ?_
  show own_R _ _ _ _ (s₁.setTop (mkF m 32 #[.val (.ref a1), .val (.int (2 : Int32)), .val (.int p2), .val (.int p3), .val (.int p4), .val (.int p5), .val (.int p6)] [(.int (1 : Int32)), (.ref a1)]))
  refine own_go (own_ldI X0 hx hZ e0 V_a1 (j := (1 : Int32)) (i := 1) ⟨by decide, by decide⟩ rfl (v := (.int p3)) rfl (g := (mkF m 32 #[.val (.ref a1), .val (.int (2 : Int32)), .val (.int p2), .val (.int p3), .val (.int p4), .val (.int p5), .val (.int p6)] [(.int (1 : Int32)), (.ref a1)])) rfl rfl (hb hby d6_32)) ?_
  show own_R _ _ _ _ (s₁.setTop (mkF m 33 #[.val (.ref a1), .val (.int (2 : Int32)), .val (.int p2), .val (.int p3), .val (.int p4), .val (.int p5), .val (.int p6)] [(.int p3)]))
  refine own_go (fun _ k => XS.iloadN X0.here hx rfl (hb hby d6_33) rfl k) ?_
  show own_R _ _ _ _ (s₁.setTop (mkF m 34 #[.val (.ref a1), .val (.int (2 : Int32)), .val (.int p2), .val (.int p3), .val (.int p4), .val (.int p5), .val (.int p6)] [(.int p3), (.int p3)]))
  refine own_go (fun _ k => XS.icmpYes X0.here hx rfl (pc0 := 34) (pc' := 39) rfl (hb hby d6_34) rfl (teq rfl).1 (by decide) (by decide) k) ?_
  show own_R _ _ _ _ (s₁.setTop (mkF m 39 #[.val (.ref a1), .val (.int (2 : Int32)), .val (.int p2), .val (.int p3), .val (.int p4), .val (.int p5), .val (.int p6)] []))
  refine own_go (fun _ k => XS.iloadN X0.here hx rfl (hb hby d6_39) rfl k) ?_
  show own_R _ _ _ _ (s₁.setTop (mkF m 40 #[.val (.ref a1), .val (.int (2 : Int32)), .val (.int p2), .val (.int p3), .val (.int p4), .val (.int p5), .val (.int p6)] [(.int (2 : Int32))]))
  refine own_go (fun _ k => XS.iconst X0.here hx rfl (hb hby d6_40) k) ?_
  show own_R _ _ _ _ (s₁.setTop (mkF m 41 #[.val (.ref a1), .val (.int (2 : Int32)), .val (.int p2), .val (.int p3), .val (.int p4), .val (.int p5), .val (.int p6)] [(.int (2 : Int32)), (.int (2 : Int32))]))
  refine own_go (fun _ k => XS.icmpYes X0.here hx rfl (pc0 := 41) (pc' := 54) rfl (hb hby d6_41) rfl (flt (by decide : ¬ ((2 : Int32) < (2 : Int32)))).2.2.2 (by decide) (by decide) k) ?_
  show own_R _ _ _ _ (s₁.setTop (mkF m 54 #[.val (.ref a1), .val (.int (2 : Int32)), .val (.int p2), .val (.int p3), .val (.int p4), .val (.int p5), .val (.int p6)] []))
  refine own_go (fun _ k => XS.iloadN X0.here hx rfl (hb hby d6_54) rfl k) ?_
  show own_R _ _ _ _ (s₁.setTop (mkF m 55 #[.val (.ref a1), .val (.int (2 : Int32)), .val (.int p2), .val (.int p3), .val (.int p4), .val (.int p5), .val (.int p6)] [(.int (2 : Int32))]))
  refine own_go (fun _ k => XS.iconst X0.here hx rfl (hb hby d6_55) k) ?_
  show own_R _ _ _ _ (s₁.setTop (mkF m 56 #[.val (.ref a1), .val (.int (2 : Int32)), .val (.int p2), .val (.int p3), .val (.int p4), .val (.int p5), .val (.int p6)] [(.int (3 : Int32)), (.int (2 : Int32))]))
  refine own_go (fun _ k => XS.icmpYes X0.here hx rfl (pc0 := 56) (pc' := 69) rfl (hb hby d6_56) rfl (flt (by decide : ¬ ((3 : Int32) < (2 : Int32)))).2.2.2 (by decide) (by decide) k) ?_
  show own_R _ _ _ _ (s₁.setTop (mkF m 69 #[.val (.ref a1), .val (.int (2 : Int32)), .val (.int p2), .val (.int p3), .val (.int p4), .val (.int p5), .val (.int p6)] []))
  refine own_go (fun _ k => XS.iloadN X0.here hx rfl (hb hby d6_69) rfl k) ?_
  show own_R _ _ _ _ (s₁.setTop (mkF m 70 #[.val (.ref a1), .val (.int (2 : Int32)), .val (.int p2), .val (.int p3), .val (.int p4), .val (.int p5), .val (.int p6)] [(.int (2 : Int32))]))
  refine own_go (fun _ k => XS.iconst X0.here hx rfl (hb hby d6_70) k) ?_
  show own_R _ _ _ _ (s₁.setTop (mkF m 71 #[.val (.ref a1), .val (.int (2 : Int32)), .val (.int p2), .val (.int p3), .val (.int p4), .val (.int p5), .val (.int p6)] [(.int (4 : Int32)), (.int (2 : Int32))]))
  refine own_go (fun _ k => XS.icmpYes X0.here hx rfl (pc0 := 71) (pc' := 84) rfl (hb hby d6_71) rfl (flt (by decide : ¬ ((4 : Int32) < (2 : Int32)))).2.2.2 (by decide) (by decide) k) ?_
  show own_R _ _ _ _ (s₁.setTop (mkF m 84 #[.val (.ref a1), .val (.int (2 : Int32)), .val (.int p2), .val (.int p3), .val (.int p4), .val (.int p5), .val (.int p6)] []))
  refine own_go (fun _ k => XS.iconst X0.here hx rfl (hb hby d6_84) k) ?_
  show own_R _ _ _ _ (s₁.setTop (mkF m 85 #[.val (.ref a1), .val (.int (2 : Int32)), .val (.int p2), .val (.int p3), .val (.int p4), .val (.int p5), .val (.int p6)] [(.int (1 : Int32))]))
  exact own_retN X0 hx (t := .boolean) (by simp) Bd.returns (hb hby d6_85) hlk ⟨rfl, NF, e0⟩ (by decide) (by decide)
theorem ef_6_3 (m : MethodId) (x0 : Addr) (x1 : Int32) (x2 : Int32) (x3 : Int32) (x4 : Int32) (x5 : Int32) (x6 : Int32) : entryFrame m #[(.ref x0), (.int x1), (.int x2), (.int x3), (.int x4), (.int x5), (.int x6)] 7 = mkF m 0 #[.val (.ref x0), .val (.int x1), .val (.int x2), .val (.int x3), .val (.int x4), .val (.int x5), .val (.int x6)] [] := by first | (simp [entryFrame, mkF, argsToLocals, Value.category]; done) | rfl
def Q6_3 (Z : State) (a1 : Addr) (p2 : Int32) (p3 : Int32) (p4 : Int32) (p5 : Int32) (p6 : Int32) (k1 : ClassId) (h0 : Heap) (n0 : Nat) (v : Option Value) (h : Heap) (L : List Loc) : Prop := v = some (.int 1) ∧ Fr n0 L ∧ h = h0
set_option maxRecDepth 65536 in
set_option maxHeartbeats 40000000 in
theorem rm6_3 (l : Launch) (Z : State) (a0 : Array Value) (hw : ∀ d ∈ tables_1, d.before a0 Z = true) (ws : List Jvm.Cond) (a1 : Addr) (p2 : Int32) (p3 : Int32) (p4 : Int32) (p5 : Int32) (p6 : Int32) (k1 : ClassId) (h0 : Heap) (n0 : Nat) (ZS : n0 ≤ h0.size) (V_a1 : Arv Z h0 a1 k1 .int (3 : Int32) [(.int p2), (.int p3), (.int p4)] (.int (0 : Int32))) :
    MetFree l (⟨"com/example/austere_nets/austerenets/minimize/IntListToArrayPinLaw", "matches", "([IIIIIII)Z"⟩ : MethodName) (head1 (Jvm.Cond.code (⟨"com/example/austere_nets/austerenets/minimize/IntListToArrayPinLaw", "matches", "([IIIIIII)Z"⟩ : MethodName) method_2_code 7 (some .boolean) :: ws) ({ frames := 0, cells := 0, slots := 0, locals := 0 } : Room)) (fun a U => a = #[(.ref a1), (.int (3 : Int32)), (.int p2), (.int p3), (.int p4), (.int p5), (.int p6)] ∧ Z.Warmed39 U.vm ∧ U.heap = h0) (fun _ _ _ _ _ => True) (fun _ U o U' => ∃ v L, o = .returned v ∧ Q6_3 Z a1 p2 p3 p4 p5 p6 k1 h0 n0 v U'.heap L ∧ FrameEnd U o U' L ({ frames := 0, cells := 0, slots := 0, locals := 0 } : Room).cells ({ frames := 0, cells := 0, slots := 0, locals := 0 } : Room).slots) := by
  refine MetFree.of_bodySF (plainFor_of_name pn_6) hisR ?_
  intro p e s m args below meth c s₁ Bd hml0 hP hK
  obtain ⟨rfl, hZ, hh⟩ := hP
  have hx := Bd.exec
  have hby := Bd.bytes
  have hml : c.maxLocals = 7 := hml0
  have hown : s.vm.findClass "com/example/austere_nets/austerenets/minimize/IntListToArrayPinLaw" = some m.cls := findClass_of_methodNamed Bd.named
  have hnm := (name_of_methodNamed Bd.named Bd.method).1
  have hlk : meth.locks = false := Bd.notSynchronized
  have X0 : Stand p l e ({ frames := 0, cells := 0, slots := 0, locals := 0 } : Room) s m #[(.ref a1), (.int (3 : Int32)), (.int p2), (.int p3), (.int p4), (.int p5), (.int p6)] below meth c s₁ [] 0 0 := Stand.of_body Bd
  have e0 : s₁.heap = h0 := by rw [← hh, Bd.state]; rfl
  have NF := Fr.nil n0
  have KP : Keep h0 h0 [] := Keep.refl _ _
  refine own_fin (s := s) (Q := Q6_3 Z a1 p2 p3 p4 p5 p6 k1 h0 n0) (rc := ({ frames := 0, cells := 0, slots := 0, locals := 0 } : Room).cells) (rs := ({ frames := 0, cells := 0, slots := 0, locals := 0 } : Room).slots) ?_
  refine own_go (fun t k => castTop (ef_6_3 m a1 (3 : Int32) p2 p3 p4 p5 p6) k) ?_
  show own_R _ _ _ _ (s₁.setTop (mkF m 0 #[.val (.ref a1), .val (.int (3 : Int32)), .val (.int p2), .val (.int p3), .val (.int p4), .val (.int p5), .val (.int p6)] []))
  refine own_go (fun _ k => XS.aloadN X0.here hx rfl (hb hby d6_0) rfl rfl k) ?_
  show own_R _ _ _ _ (s₁.setTop (mkF m 1 #[.val (.ref a1), .val (.int (3 : Int32)), .val (.int p2), .val (.int p3), .val (.int p4), .val (.int p5), .val (.int p6)] [(.ref a1)]))
  refine own_go (fun _ k => XS.ifnullNo X0.here hx rfl (hb hby d6_1) rfl k) ?_
  show own_R _ _ _ _ (s₁.setTop (mkF m 4 #[.val (.ref a1), .val (.int (3 : Int32)), .val (.int p2), .val (.int p3), .val (.int p4), .val (.int p5), .val (.int p6)] []))
  refine own_go (fun _ k => XS.aloadN X0.here hx rfl (hb hby d6_4) rfl rfl k) ?_
  show own_R _ _ _ _ (s₁.setTop (mkF m 5 #[.val (.ref a1), .val (.int (3 : Int32)), .val (.int p2), .val (.int p3), .val (.int p4), .val (.int p5), .val (.int p6)] [(.ref a1)]))
  refine own_go (own_len X0 hx hZ e0 V_a1 (g := (mkF m 5 #[.val (.ref a1), .val (.int (3 : Int32)), .val (.int p2), .val (.int p3), .val (.int p4), .val (.int p5), .val (.int p6)] [(.ref a1)])) rfl rfl (hb hby d6_5)) ?_
  show own_R _ _ _ _ (s₁.setTop (mkF m 6 #[.val (.ref a1), .val (.int (3 : Int32)), .val (.int p2), .val (.int p3), .val (.int p4), .val (.int p5), .val (.int p6)] [(.int (3 : Int32))]))
  refine own_go (fun _ k => XS.iloadN X0.here hx rfl (hb hby d6_6) rfl k) ?_
  show own_R _ _ _ _ (s₁.setTop (mkF m 7 #[.val (.ref a1), .val (.int (3 : Int32)), .val (.int p2), .val (.int p3), .val (.int p4), .val (.int p5), .val (.int p6)] [(.int (3 : Int32)), (.int (3 : Int32))]))
  refine own_go (fun _ k => XS.icmpYes X0.here hx rfl (pc0 := 7) (pc' := 12) rfl (hb hby d6_7) rfl (teq (by decide : (3 : Int32) = (3 : Int32))).1 (by decide) (by decide) k) ?_
  show own_R _ _ _ _ (s₁.setTop (mkF m 12 #[.val (.ref a1), .val (.int (3 : Int32)), .val (.int p2), .val (.int p3), .val (.int p4), .val (.int p5), .val (.int p6)] []))
  refine own_go (fun _ k => XS.iloadN X0.here hx rfl (hb hby d6_12) rfl k) ?_
  show own_R _ _ _ _ (s₁.setTop (mkF m 13 #[.val (.ref a1), .val (.int (3 : Int32)), .val (.int p2), .val (.int p3), .val (.int p4), .val (.int p5), .val (.int p6)] [(.int (3 : Int32))]))
  refine own_go (fun _ k => XS.ifNo X0.here hx rfl (hb hby d6_13) rfl ((if0 _ _).trans (tlt (by decide : (0 : Int32) < (3 : Int32))).2.2.2) k) ?_
  show own_R _ _ _ _ (s₁.setTop (mkF m 16 #[.val (.ref a1), .val (.int (3 : Int32)), .val (.int p2), .val (.int p3), .val (.int p4), .val (.int p5), .val (.int p6)] []))
  refine own_go (fun _ k => XS.aloadN X0.here hx rfl (hb hby d6_16) rfl rfl k) ?_
  show own_R _ _ _ _ (s₁.setTop (mkF m 17 #[.val (.ref a1), .val (.int (3 : Int32)), .val (.int p2), .val (.int p3), .val (.int p4), .val (.int p5), .val (.int p6)] [(.ref a1)]))
  refine own_go (fun _ k => XS.iconst X0.here hx rfl (hb hby d6_17) k) ?_
  show own_R _ _ _ _ (s₁.setTop (mkF m 18 #[.val (.ref a1), .val (.int (3 : Int32)), .val (.int p2), .val (.int p3), .val (.int p4), .val (.int p5), .val (.int p6)] [(.int (0 : Int32)), (.ref a1)]))
  refine own_go (own_ldI X0 hx hZ e0 V_a1 (j := (0 : Int32)) (i := 0) ⟨by decide, by decide⟩ rfl (v := (.int p2)) rfl (g := (mkF m 18 #[.val (.ref a1), .val (.int (3 : Int32)), .val (.int p2), .val (.int p3), .val (.int p4), .val (.int p5), .val (.int p6)] [(.int (0 : Int32)), (.ref a1)])) rfl rfl (hb hby d6_18)) ?_
  show own_R _ _ _ _ (s₁.setTop (mkF m 19 #[.val (.ref a1), .val (.int (3 : Int32)), .val (.int p2), .val (.int p3), .val (.int p4), .val (.int p5), .val (.int p6)] [(.int p2)]))
  refine own_go (fun _ k => XS.iloadN X0.here hx rfl (hb hby d6_19) rfl k) ?_
  show own_R _ _ _ _ (s₁.setTop (mkF m 20 #[.val (.ref a1), .val (.int (3 : Int32)), .val (.int p2), .val (.int p3), .val (.int p4), .val (.int p5), .val (.int p6)] [(.int p2), (.int p2)]))
  refine own_go (fun _ k => XS.icmpYes X0.here hx rfl (pc0 := 20) (pc' := 25) rfl (hb hby d6_20) rfl (teq rfl).1 (by decide) (by decide) k) ?_
  show own_R _ _ _ _ (s₁.setTop (mkF m 25 #[.val (.ref a1), .val (.int (3 : Int32)), .val (.int p2), .val (.int p3), .val (.int p4), .val (.int p5), .val (.int p6)] []))
  refine own_go (fun _ k => XS.iloadN X0.here hx rfl (hb hby d6_25) rfl k) ?_
  show own_R _ _ _ _ (s₁.setTop (mkF m 26 #[.val (.ref a1), .val (.int (3 : Int32)), .val (.int p2), .val (.int p3), .val (.int p4), .val (.int p5), .val (.int p6)] [(.int (3 : Int32))]))
  refine own_go (fun _ k => XS.iconst X0.here hx rfl (hb hby d6_26) k) ?_
  show own_R _ _ _ _ (s₁.setTop (mkF m 27 #[.val (.ref a1), .val (.int (3 : Int32)), .val (.int p2), .val (.int p3), .val (.int p4), .val (.int p5), .val (.int p6)] [(.int (1 : Int32)), (.int (3 : Int32))]))
  refine own_go (fun _ k => XS.icmpNo X0.here hx rfl (hb hby d6_27) rfl (tlt (by decide : (1 : Int32) < (3 : Int32))).2.2.2 k) ?_
  show own_R _ _ _ _ (s₁.setTop (mkF m 30 #[.val (.ref a1), .val (.int (3 : Int32)), .val (.int p2), .val (.int p3), .val (.int p4), .val (.int p5), .val (.int p6)] []))
  refine own_go (fun _ k => XS.aloadN X0.here hx rfl (hb hby d6_30) rfl rfl k) ?_
  show own_R _ _ _ _ (s₁.setTop (mkF m 31 #[.val (.ref a1), .val (.int (3 : Int32)), .val (.int p2), .val (.int p3), .val (.int p4), .val (.int p5), .val (.int p6)] [(.ref a1)]))
  refine own_go (fun _ k => XS.iconst X0.here hx rfl (hb hby d6_31) k) ?_
  show own_R _ _ _ _ (s₁.setTop (mkF m 32 #[.val (.ref a1), .val (.int (3 : Int32)), .val (.int p2), .val (.int p3), .val (.int p4), .val (.int p5), .val (.int p6)] [(.int (1 : Int32)), (.ref a1)]))
  refine own_go (own_ldI X0 hx hZ e0 V_a1 (j := (1 : Int32)) (i := 1) ⟨by decide, by decide⟩ rfl (v := (.int p3)) rfl (g := (mkF m 32 #[.val (.ref a1), .val (.int (3 : Int32)), .val (.int p2), .val (.int p3), .val (.int p4), .val (.int p5), .val (.int p6)] [(.int (1 : Int32)), (.ref a1)])) rfl rfl (hb hby d6_32)) ?_
  show own_R _ _ _ _ (s₁.setTop (mkF m 33 #[.val (.ref a1), .val (.int (3 : Int32)), .val (.int p2), .val (.int p3), .val (.int p4), .val (.int p5), .val (.int p6)] [(.int p3)]))
  refine own_go (fun _ k => XS.iloadN X0.here hx rfl (hb hby d6_33) rfl k) ?_
  show own_R _ _ _ _ (s₁.setTop (mkF m 34 #[.val (.ref a1), .val (.int (3 : Int32)), .val (.int p2), .val (.int p3), .val (.int p4), .val (.int p5), .val (.int p6)] [(.int p3), (.int p3)]))
  refine own_go (fun _ k => XS.icmpYes X0.here hx rfl (pc0 := 34) (pc' := 39) rfl (hb hby d6_34) rfl (teq rfl).1 (by decide) (by decide) k) ?_
  show own_R _ _ _ _ (s₁.setTop (mkF m 39 #[.val (.ref a1), .val (.int (3 : Int32)), .val (.int p2), .val (.int p3), .val (.int p4), .val (.int p5), .val (.int p6)] []))
  refine own_go (fun _ k => XS.iloadN X0.here hx rfl (hb hby d6_39) rfl k) ?_
  show own_R _ _ _ _ (s₁.setTop (mkF m 40 #[.val (.ref a1), .val (.int (3 : Int32)), .val (.int p2), .val (.int p3), .val (.int p4), .val (.int p5), .val (.int p6)] [(.int (3 : Int32))]))
  refine own_go (fun _ k => XS.iconst X0.here hx rfl (hb hby d6_40) k) ?_
  show own_R _ _ _ _ (s₁.setTop (mkF m 41 #[.val (.ref a1), .val (.int (3 : Int32)), .val (.int p2), .val (.int p3), .val (.int p4), .val (.int p5), .val (.int p6)] [(.int (2 : Int32)), (.int (3 : Int32))]))
  refine own_go (fun _ k => XS.icmpNo X0.here hx rfl (hb hby d6_41) rfl (tlt (by decide : (2 : Int32) < (3 : Int32))).2.2.2 k) ?_
  show own_R _ _ _ _ (s₁.setTop (mkF m 44 #[.val (.ref a1), .val (.int (3 : Int32)), .val (.int p2), .val (.int p3), .val (.int p4), .val (.int p5), .val (.int p6)] []))
  refine own_go (fun _ k => XS.aloadN X0.here hx rfl (hb hby d6_44) rfl rfl k) ?_
  show own_R _ _ _ _ (s₁.setTop (mkF m 45 #[.val (.ref a1), .val (.int (3 : Int32)), .val (.int p2), .val (.int p3), .val (.int p4), .val (.int p5), .val (.int p6)] [(.ref a1)]))
  refine own_go (fun _ k => XS.iconst X0.here hx rfl (hb hby d6_45) k) ?_
  show own_R _ _ _ _ (s₁.setTop (mkF m 46 #[.val (.ref a1), .val (.int (3 : Int32)), .val (.int p2), .val (.int p3), .val (.int p4), .val (.int p5), .val (.int p6)] [(.int (2 : Int32)), (.ref a1)]))
  refine own_go (own_ldI X0 hx hZ e0 V_a1 (j := (2 : Int32)) (i := 2) ⟨by decide, by decide⟩ rfl (v := (.int p4)) rfl (g := (mkF m 46 #[.val (.ref a1), .val (.int (3 : Int32)), .val (.int p2), .val (.int p3), .val (.int p4), .val (.int p5), .val (.int p6)] [(.int (2 : Int32)), (.ref a1)])) rfl rfl (hb hby d6_46)) ?_
  show own_R _ _ _ _ (s₁.setTop (mkF m 47 #[.val (.ref a1), .val (.int (3 : Int32)), .val (.int p2), .val (.int p3), .val (.int p4), .val (.int p5), .val (.int p6)] [(.int p4)]))
  refine own_go (fun _ k => XS.iload X0.here hx rfl (hb hby d6_47) rfl k) ?_
  show own_R _ _ _ _ (s₁.setTop (mkF m 49 #[.val (.ref a1), .val (.int (3 : Int32)), .val (.int p2), .val (.int p3), .val (.int p4), .val (.int p5), .val (.int p6)] [(.int p4), (.int p4)]))
  refine own_go (fun _ k => XS.icmpYes X0.here hx rfl (pc0 := 49) (pc' := 54) rfl (hb hby d6_49) rfl (teq rfl).1 (by decide) (by decide) k) ?_
  show own_R _ _ _ _ (s₁.setTop (mkF m 54 #[.val (.ref a1), .val (.int (3 : Int32)), .val (.int p2), .val (.int p3), .val (.int p4), .val (.int p5), .val (.int p6)] []))
  refine own_go (fun _ k => XS.iloadN X0.here hx rfl (hb hby d6_54) rfl k) ?_
  show own_R _ _ _ _ (s₁.setTop (mkF m 55 #[.val (.ref a1), .val (.int (3 : Int32)), .val (.int p2), .val (.int p3), .val (.int p4), .val (.int p5), .val (.int p6)] [(.int (3 : Int32))]))
  refine own_go (fun _ k => XS.iconst X0.here hx rfl (hb hby d6_55) k) ?_
  show own_R _ _ _ _ (s₁.setTop (mkF m 56 #[.val (.ref a1), .val (.int (3 : Int32)), .val (.int p2), .val (.int p3), .val (.int p4), .val (.int p5), .val (.int p6)] [(.int (3 : Int32)), (.int (3 : Int32))]))
  refine own_go (fun _ k => XS.icmpYes X0.here hx rfl (pc0 := 56) (pc' := 69) rfl (hb hby d6_56) rfl (flt (by decide : ¬ ((3 : Int32) < (3 : Int32)))).2.2.2 (by decide) (by decide) k) ?_
  show own_R _ _ _ _ (s₁.setTop (mkF m 69 #[.val (.ref a1), .val (.int (3 : Int32)), .val (.int p2), .val (.int p3), .val (.int p4), .val (.int p5), .val (.int p6)] []))
  refine own_go (fun _ k => XS.iloadN X0.here hx rfl (hb hby d6_69) rfl k) ?_
  show own_R _ _ _ _ (s₁.setTop (mkF m 70 #[.val (.ref a1), .val (.int (3 : Int32)), .val (.int p2), .val (.int p3), .val (.int p4), .val (.int p5), .val (.int p6)] [(.int (3 : Int32))]))
  refine own_go (fun _ k => XS.iconst X0.here hx rfl (hb hby d6_70) k) ?_
  show own_R _ _ _ _ (s₁.setTop (mkF m 71 #[.val (.ref a1), .val (.int (3 : Int32)), .val (.int p2), .val (.int p3), .val (.int p4), .val (.int p5), .val (.int p6)] [(.int (4 : Int32)), (.int (3 : Int32))]))
  refine own_go (fun _ k => XS.icmpYes X0.here hx rfl (pc0 := 71) (pc' := 84) rfl (hb hby d6_71) rfl (flt (by decide : ¬ ((4 : Int32) < (3 : Int32)))).2.2.2 (by decide) (by decide) k) ?_
  show own_R _ _ _ _ (s₁.setTop (mkF m 84 #[.val (.ref a1), .val (.int (3 : Int32)), .val (.int p2), .val (.int p3), .val (.int p4), .val (.int p5), .val (.int p6)] []))
  refine own_go (fun _ k => XS.iconst X0.here hx rfl (hb hby d6_84) k) ?_
  show own_R _ _ _ _ (s₁.setTop (mkF m 85 #[.val (.ref a1), .val (.int (3 : Int32)), .val (.int p2), .val (.int p3), .val (.int p4), .val (.int p5), .val (.int p6)] [(.int (1 : Int32))]))
  exact own_retN X0 hx (t := .boolean) (by simp) Bd.returns (hb hby d6_85) hlk ⟨rfl, NF, e0⟩ (by decide) (by decide)
theorem ef_6_4 (m : MethodId) (x0 : Addr) (x1 : Int32) (x2 : Int32) (x3 : Int32) (x4 : Int32) (x5 : Int32) (x6 : Int32) : entryFrame m #[(.ref x0), (.int x1), (.int x2), (.int x3), (.int x4), (.int x5), (.int x6)] 7 = mkF m 0 #[.val (.ref x0), .val (.int x1), .val (.int x2), .val (.int x3), .val (.int x4), .val (.int x5), .val (.int x6)] [] := by first | (simp [entryFrame, mkF, argsToLocals, Value.category]; done) | rfl
def Q6_4 (Z : State) (a1 : Addr) (p2 : Int32) (p3 : Int32) (p4 : Int32) (p5 : Int32) (p6 : Int32) (k1 : ClassId) (h0 : Heap) (n0 : Nat) (v : Option Value) (h : Heap) (L : List Loc) : Prop := v = some (.int 1) ∧ Fr n0 L ∧ h = h0
set_option maxRecDepth 65536 in
set_option maxHeartbeats 40000000 in
theorem rm6_4 (l : Launch) (Z : State) (a0 : Array Value) (hw : ∀ d ∈ tables_1, d.before a0 Z = true) (ws : List Jvm.Cond) (a1 : Addr) (p2 : Int32) (p3 : Int32) (p4 : Int32) (p5 : Int32) (p6 : Int32) (k1 : ClassId) (h0 : Heap) (n0 : Nat) (ZS : n0 ≤ h0.size) (V_a1 : Arv Z h0 a1 k1 .int (4 : Int32) [(.int p2), (.int p3), (.int p4), (.int p5)] (.int (0 : Int32))) :
    MetFree l (⟨"com/example/austere_nets/austerenets/minimize/IntListToArrayPinLaw", "matches", "([IIIIIII)Z"⟩ : MethodName) (head1 (Jvm.Cond.code (⟨"com/example/austere_nets/austerenets/minimize/IntListToArrayPinLaw", "matches", "([IIIIIII)Z"⟩ : MethodName) method_2_code 7 (some .boolean) :: ws) ({ frames := 0, cells := 0, slots := 0, locals := 0 } : Room)) (fun a U => a = #[(.ref a1), (.int (4 : Int32)), (.int p2), (.int p3), (.int p4), (.int p5), (.int p6)] ∧ Z.Warmed39 U.vm ∧ U.heap = h0) (fun _ _ _ _ _ => True) (fun _ U o U' => ∃ v L, o = .returned v ∧ Q6_4 Z a1 p2 p3 p4 p5 p6 k1 h0 n0 v U'.heap L ∧ FrameEnd U o U' L ({ frames := 0, cells := 0, slots := 0, locals := 0 } : Room).cells ({ frames := 0, cells := 0, slots := 0, locals := 0 } : Room).slots) := by
  refine MetFree.of_bodySF (plainFor_of_name pn_6) hisR ?_
  intro p e s m args below meth c s₁ Bd hml0 hP hK
  obtain ⟨rfl, hZ, hh⟩ := hP
  have hx := Bd.exec
  have hby := Bd.bytes
  have hml : c.maxLocals = 7 := hml0
  have hown : s.vm.findClass "com/example/austere_nets/austerenets/minimize/IntListToArrayPinLaw" = some m.cls := findClass_of_methodNamed Bd.named
  have hnm := (name_of_methodNamed Bd.named Bd.method).1
  have hlk : meth.locks = false := Bd.notSynchronized
  have X0 : Stand p l e ({ frames := 0, cells := 0, slots := 0, locals := 0 } : Room) s m #[(.ref a1), (.int (4 : Int32)), (.int p2), (.int p3), (.int p4), (.int p5), (.int p6)] below meth c s₁ [] 0 0 := Stand.of_body Bd
  have e0 : s₁.heap = h0 := by rw [← hh, Bd.state]; rfl
  have NF := Fr.nil n0
  have KP : Keep h0 h0 [] := Keep.refl _ _
  refine own_fin (s := s) (Q := Q6_4 Z a1 p2 p3 p4 p5 p6 k1 h0 n0) (rc := ({ frames := 0, cells := 0, slots := 0, locals := 0 } : Room).cells) (rs := ({ frames := 0, cells := 0, slots := 0, locals := 0 } : Room).slots) ?_
  refine own_go (fun t k => castTop (ef_6_4 m a1 (4 : Int32) p2 p3 p4 p5 p6) k) ?_
  show own_R _ _ _ _ (s₁.setTop (mkF m 0 #[.val (.ref a1), .val (.int (4 : Int32)), .val (.int p2), .val (.int p3), .val (.int p4), .val (.int p5), .val (.int p6)] []))
  refine own_go (fun _ k => XS.aloadN X0.here hx rfl (hb hby d6_0) rfl rfl k) ?_
  show own_R _ _ _ _ (s₁.setTop (mkF m 1 #[.val (.ref a1), .val (.int (4 : Int32)), .val (.int p2), .val (.int p3), .val (.int p4), .val (.int p5), .val (.int p6)] [(.ref a1)]))
  refine own_go (fun _ k => XS.ifnullNo X0.here hx rfl (hb hby d6_1) rfl k) ?_
  show own_R _ _ _ _ (s₁.setTop (mkF m 4 #[.val (.ref a1), .val (.int (4 : Int32)), .val (.int p2), .val (.int p3), .val (.int p4), .val (.int p5), .val (.int p6)] []))
  refine own_go (fun _ k => XS.aloadN X0.here hx rfl (hb hby d6_4) rfl rfl k) ?_
  show own_R _ _ _ _ (s₁.setTop (mkF m 5 #[.val (.ref a1), .val (.int (4 : Int32)), .val (.int p2), .val (.int p3), .val (.int p4), .val (.int p5), .val (.int p6)] [(.ref a1)]))
  refine own_go (own_len X0 hx hZ e0 V_a1 (g := (mkF m 5 #[.val (.ref a1), .val (.int (4 : Int32)), .val (.int p2), .val (.int p3), .val (.int p4), .val (.int p5), .val (.int p6)] [(.ref a1)])) rfl rfl (hb hby d6_5)) ?_
  show own_R _ _ _ _ (s₁.setTop (mkF m 6 #[.val (.ref a1), .val (.int (4 : Int32)), .val (.int p2), .val (.int p3), .val (.int p4), .val (.int p5), .val (.int p6)] [(.int (4 : Int32))]))
  refine own_go (fun _ k => XS.iloadN X0.here hx rfl (hb hby d6_6) rfl k) ?_
  show own_R _ _ _ _ (s₁.setTop (mkF m 7 #[.val (.ref a1), .val (.int (4 : Int32)), .val (.int p2), .val (.int p3), .val (.int p4), .val (.int p5), .val (.int p6)] [(.int (4 : Int32)), (.int (4 : Int32))]))
  refine own_go (fun _ k => XS.icmpYes X0.here hx rfl (pc0 := 7) (pc' := 12) rfl (hb hby d6_7) rfl (teq (by decide : (4 : Int32) = (4 : Int32))).1 (by decide) (by decide) k) ?_
  show own_R _ _ _ _ (s₁.setTop (mkF m 12 #[.val (.ref a1), .val (.int (4 : Int32)), .val (.int p2), .val (.int p3), .val (.int p4), .val (.int p5), .val (.int p6)] []))
  refine own_go (fun _ k => XS.iloadN X0.here hx rfl (hb hby d6_12) rfl k) ?_
  show own_R _ _ _ _ (s₁.setTop (mkF m 13 #[.val (.ref a1), .val (.int (4 : Int32)), .val (.int p2), .val (.int p3), .val (.int p4), .val (.int p5), .val (.int p6)] [(.int (4 : Int32))]))
  refine own_go (fun _ k => XS.ifNo X0.here hx rfl (hb hby d6_13) rfl ((if0 _ _).trans (tlt (by decide : (0 : Int32) < (4 : Int32))).2.2.2) k) ?_
  show own_R _ _ _ _ (s₁.setTop (mkF m 16 #[.val (.ref a1), .val (.int (4 : Int32)), .val (.int p2), .val (.int p3), .val (.int p4), .val (.int p5), .val (.int p6)] []))
  refine own_go (fun _ k => XS.aloadN X0.here hx rfl (hb hby d6_16) rfl rfl k) ?_
  show own_R _ _ _ _ (s₁.setTop (mkF m 17 #[.val (.ref a1), .val (.int (4 : Int32)), .val (.int p2), .val (.int p3), .val (.int p4), .val (.int p5), .val (.int p6)] [(.ref a1)]))
  refine own_go (fun _ k => XS.iconst X0.here hx rfl (hb hby d6_17) k) ?_
  show own_R _ _ _ _ (s₁.setTop (mkF m 18 #[.val (.ref a1), .val (.int (4 : Int32)), .val (.int p2), .val (.int p3), .val (.int p4), .val (.int p5), .val (.int p6)] [(.int (0 : Int32)), (.ref a1)]))
  refine own_go (own_ldI X0 hx hZ e0 V_a1 (j := (0 : Int32)) (i := 0) ⟨by decide, by decide⟩ rfl (v := (.int p2)) rfl (g := (mkF m 18 #[.val (.ref a1), .val (.int (4 : Int32)), .val (.int p2), .val (.int p3), .val (.int p4), .val (.int p5), .val (.int p6)] [(.int (0 : Int32)), (.ref a1)])) rfl rfl (hb hby d6_18)) ?_
  show own_R _ _ _ _ (s₁.setTop (mkF m 19 #[.val (.ref a1), .val (.int (4 : Int32)), .val (.int p2), .val (.int p3), .val (.int p4), .val (.int p5), .val (.int p6)] [(.int p2)]))
  refine own_go (fun _ k => XS.iloadN X0.here hx rfl (hb hby d6_19) rfl k) ?_
  show own_R _ _ _ _ (s₁.setTop (mkF m 20 #[.val (.ref a1), .val (.int (4 : Int32)), .val (.int p2), .val (.int p3), .val (.int p4), .val (.int p5), .val (.int p6)] [(.int p2), (.int p2)]))
  refine own_go (fun _ k => XS.icmpYes X0.here hx rfl (pc0 := 20) (pc' := 25) rfl (hb hby d6_20) rfl (teq rfl).1 (by decide) (by decide) k) ?_
  show own_R _ _ _ _ (s₁.setTop (mkF m 25 #[.val (.ref a1), .val (.int (4 : Int32)), .val (.int p2), .val (.int p3), .val (.int p4), .val (.int p5), .val (.int p6)] []))
  refine own_go (fun _ k => XS.iloadN X0.here hx rfl (hb hby d6_25) rfl k) ?_
  show own_R _ _ _ _ (s₁.setTop (mkF m 26 #[.val (.ref a1), .val (.int (4 : Int32)), .val (.int p2), .val (.int p3), .val (.int p4), .val (.int p5), .val (.int p6)] [(.int (4 : Int32))]))
  refine own_go (fun _ k => XS.iconst X0.here hx rfl (hb hby d6_26) k) ?_
  show own_R _ _ _ _ (s₁.setTop (mkF m 27 #[.val (.ref a1), .val (.int (4 : Int32)), .val (.int p2), .val (.int p3), .val (.int p4), .val (.int p5), .val (.int p6)] [(.int (1 : Int32)), (.int (4 : Int32))]))
  refine own_go (fun _ k => XS.icmpNo X0.here hx rfl (hb hby d6_27) rfl (tlt (by decide : (1 : Int32) < (4 : Int32))).2.2.2 k) ?_
  show own_R _ _ _ _ (s₁.setTop (mkF m 30 #[.val (.ref a1), .val (.int (4 : Int32)), .val (.int p2), .val (.int p3), .val (.int p4), .val (.int p5), .val (.int p6)] []))
  refine own_go (fun _ k => XS.aloadN X0.here hx rfl (hb hby d6_30) rfl rfl k) ?_
  show own_R _ _ _ _ (s₁.setTop (mkF m 31 #[.val (.ref a1), .val (.int (4 : Int32)), .val (.int p2), .val (.int p3), .val (.int p4), .val (.int p5), .val (.int p6)] [(.ref a1)]))
  refine own_go (fun _ k => XS.iconst X0.here hx rfl (hb hby d6_31) k) ?_
  show own_R _ _ _ _ (s₁.setTop (mkF m 32 #[.val (.ref a1), .val (.int (4 : Int32)), .val (.int p2), .val (.int p3), .val (.int p4), .val (.int p5), .val (.int p6)] [(.int (1 : Int32)), (.ref a1)]))
  refine own_go (own_ldI X0 hx hZ e0 V_a1 (j := (1 : Int32)) (i := 1) ⟨by decide, by decide⟩ rfl (v := (.int p3)) rfl (g := (mkF m 32 #[.val (.ref a1), .val (.int (4 : Int32)), .val (.int p2), .val (.int p3), .val (.int p4), .val (.int p5), .val (.int p6)] [(.int (1 : Int32)), (.ref a1)])) rfl rfl (hb hby d6_32)) ?_
  show own_R _ _ _ _ (s₁.setTop (mkF m 33 #[.val (.ref a1), .val (.int (4 : Int32)), .val (.int p2), .val (.int p3), .val (.int p4), .val (.int p5), .val (.int p6)] [(.int p3)]))
  refine own_go (fun _ k => XS.iloadN X0.here hx rfl (hb hby d6_33) rfl k) ?_
  show own_R _ _ _ _ (s₁.setTop (mkF m 34 #[.val (.ref a1), .val (.int (4 : Int32)), .val (.int p2), .val (.int p3), .val (.int p4), .val (.int p5), .val (.int p6)] [(.int p3), (.int p3)]))
  refine own_go (fun _ k => XS.icmpYes X0.here hx rfl (pc0 := 34) (pc' := 39) rfl (hb hby d6_34) rfl (teq rfl).1 (by decide) (by decide) k) ?_
  show own_R _ _ _ _ (s₁.setTop (mkF m 39 #[.val (.ref a1), .val (.int (4 : Int32)), .val (.int p2), .val (.int p3), .val (.int p4), .val (.int p5), .val (.int p6)] []))
  refine own_go (fun _ k => XS.iloadN X0.here hx rfl (hb hby d6_39) rfl k) ?_
  show own_R _ _ _ _ (s₁.setTop (mkF m 40 #[.val (.ref a1), .val (.int (4 : Int32)), .val (.int p2), .val (.int p3), .val (.int p4), .val (.int p5), .val (.int p6)] [(.int (4 : Int32))]))
  refine own_go (fun _ k => XS.iconst X0.here hx rfl (hb hby d6_40) k) ?_
  show own_R _ _ _ _ (s₁.setTop (mkF m 41 #[.val (.ref a1), .val (.int (4 : Int32)), .val (.int p2), .val (.int p3), .val (.int p4), .val (.int p5), .val (.int p6)] [(.int (2 : Int32)), (.int (4 : Int32))]))
  refine own_go (fun _ k => XS.icmpNo X0.here hx rfl (hb hby d6_41) rfl (tlt (by decide : (2 : Int32) < (4 : Int32))).2.2.2 k) ?_
  show own_R _ _ _ _ (s₁.setTop (mkF m 44 #[.val (.ref a1), .val (.int (4 : Int32)), .val (.int p2), .val (.int p3), .val (.int p4), .val (.int p5), .val (.int p6)] []))
  refine own_go (fun _ k => XS.aloadN X0.here hx rfl (hb hby d6_44) rfl rfl k) ?_
  show own_R _ _ _ _ (s₁.setTop (mkF m 45 #[.val (.ref a1), .val (.int (4 : Int32)), .val (.int p2), .val (.int p3), .val (.int p4), .val (.int p5), .val (.int p6)] [(.ref a1)]))
  refine own_go (fun _ k => XS.iconst X0.here hx rfl (hb hby d6_45) k) ?_
  show own_R _ _ _ _ (s₁.setTop (mkF m 46 #[.val (.ref a1), .val (.int (4 : Int32)), .val (.int p2), .val (.int p3), .val (.int p4), .val (.int p5), .val (.int p6)] [(.int (2 : Int32)), (.ref a1)]))
  refine own_go (own_ldI X0 hx hZ e0 V_a1 (j := (2 : Int32)) (i := 2) ⟨by decide, by decide⟩ rfl (v := (.int p4)) rfl (g := (mkF m 46 #[.val (.ref a1), .val (.int (4 : Int32)), .val (.int p2), .val (.int p3), .val (.int p4), .val (.int p5), .val (.int p6)] [(.int (2 : Int32)), (.ref a1)])) rfl rfl (hb hby d6_46)) ?_
  show own_R _ _ _ _ (s₁.setTop (mkF m 47 #[.val (.ref a1), .val (.int (4 : Int32)), .val (.int p2), .val (.int p3), .val (.int p4), .val (.int p5), .val (.int p6)] [(.int p4)]))
  refine own_go (fun _ k => XS.iload X0.here hx rfl (hb hby d6_47) rfl k) ?_
  show own_R _ _ _ _ (s₁.setTop (mkF m 49 #[.val (.ref a1), .val (.int (4 : Int32)), .val (.int p2), .val (.int p3), .val (.int p4), .val (.int p5), .val (.int p6)] [(.int p4), (.int p4)]))
  refine own_go (fun _ k => XS.icmpYes X0.here hx rfl (pc0 := 49) (pc' := 54) rfl (hb hby d6_49) rfl (teq rfl).1 (by decide) (by decide) k) ?_
  show own_R _ _ _ _ (s₁.setTop (mkF m 54 #[.val (.ref a1), .val (.int (4 : Int32)), .val (.int p2), .val (.int p3), .val (.int p4), .val (.int p5), .val (.int p6)] []))
  refine own_go (fun _ k => XS.iloadN X0.here hx rfl (hb hby d6_54) rfl k) ?_
  show own_R _ _ _ _ (s₁.setTop (mkF m 55 #[.val (.ref a1), .val (.int (4 : Int32)), .val (.int p2), .val (.int p3), .val (.int p4), .val (.int p5), .val (.int p6)] [(.int (4 : Int32))]))
  refine own_go (fun _ k => XS.iconst X0.here hx rfl (hb hby d6_55) k) ?_
  show own_R _ _ _ _ (s₁.setTop (mkF m 56 #[.val (.ref a1), .val (.int (4 : Int32)), .val (.int p2), .val (.int p3), .val (.int p4), .val (.int p5), .val (.int p6)] [(.int (3 : Int32)), (.int (4 : Int32))]))
  refine own_go (fun _ k => XS.icmpNo X0.here hx rfl (hb hby d6_56) rfl (tlt (by decide : (3 : Int32) < (4 : Int32))).2.2.2 k) ?_
  show own_R _ _ _ _ (s₁.setTop (mkF m 59 #[.val (.ref a1), .val (.int (4 : Int32)), .val (.int p2), .val (.int p3), .val (.int p4), .val (.int p5), .val (.int p6)] []))
  refine own_go (fun _ k => XS.aloadN X0.here hx rfl (hb hby d6_59) rfl rfl k) ?_
  show own_R _ _ _ _ (s₁.setTop (mkF m 60 #[.val (.ref a1), .val (.int (4 : Int32)), .val (.int p2), .val (.int p3), .val (.int p4), .val (.int p5), .val (.int p6)] [(.ref a1)]))
  refine own_go (fun _ k => XS.iconst X0.here hx rfl (hb hby d6_60) k) ?_
  show own_R _ _ _ _ (s₁.setTop (mkF m 61 #[.val (.ref a1), .val (.int (4 : Int32)), .val (.int p2), .val (.int p3), .val (.int p4), .val (.int p5), .val (.int p6)] [(.int (3 : Int32)), (.ref a1)]))
  refine own_go (own_ldI X0 hx hZ e0 V_a1 (j := (3 : Int32)) (i := 3) ⟨by decide, by decide⟩ rfl (v := (.int p5)) rfl (g := (mkF m 61 #[.val (.ref a1), .val (.int (4 : Int32)), .val (.int p2), .val (.int p3), .val (.int p4), .val (.int p5), .val (.int p6)] [(.int (3 : Int32)), (.ref a1)])) rfl rfl (hb hby d6_61)) ?_
  show own_R _ _ _ _ (s₁.setTop (mkF m 62 #[.val (.ref a1), .val (.int (4 : Int32)), .val (.int p2), .val (.int p3), .val (.int p4), .val (.int p5), .val (.int p6)] [(.int p5)]))
  refine own_go (fun _ k => XS.iload X0.here hx rfl (hb hby d6_62) rfl k) ?_
  show own_R _ _ _ _ (s₁.setTop (mkF m 64 #[.val (.ref a1), .val (.int (4 : Int32)), .val (.int p2), .val (.int p3), .val (.int p4), .val (.int p5), .val (.int p6)] [(.int p5), (.int p5)]))
  refine own_go (fun _ k => XS.icmpYes X0.here hx rfl (pc0 := 64) (pc' := 69) rfl (hb hby d6_64) rfl (teq rfl).1 (by decide) (by decide) k) ?_
  show own_R _ _ _ _ (s₁.setTop (mkF m 69 #[.val (.ref a1), .val (.int (4 : Int32)), .val (.int p2), .val (.int p3), .val (.int p4), .val (.int p5), .val (.int p6)] []))
  refine own_go (fun _ k => XS.iloadN X0.here hx rfl (hb hby d6_69) rfl k) ?_
  show own_R _ _ _ _ (s₁.setTop (mkF m 70 #[.val (.ref a1), .val (.int (4 : Int32)), .val (.int p2), .val (.int p3), .val (.int p4), .val (.int p5), .val (.int p6)] [(.int (4 : Int32))]))
  refine own_go (fun _ k => XS.iconst X0.here hx rfl (hb hby d6_70) k) ?_
  show own_R _ _ _ _ (s₁.setTop (mkF m 71 #[.val (.ref a1), .val (.int (4 : Int32)), .val (.int p2), .val (.int p3), .val (.int p4), .val (.int p5), .val (.int p6)] [(.int (4 : Int32)), (.int (4 : Int32))]))
  refine own_go (fun _ k => XS.icmpYes X0.here hx rfl (pc0 := 71) (pc' := 84) rfl (hb hby d6_71) rfl (flt (by decide : ¬ ((4 : Int32) < (4 : Int32)))).2.2.2 (by decide) (by decide) k) ?_
  show own_R _ _ _ _ (s₁.setTop (mkF m 84 #[.val (.ref a1), .val (.int (4 : Int32)), .val (.int p2), .val (.int p3), .val (.int p4), .val (.int p5), .val (.int p6)] []))
  refine own_go (fun _ k => XS.iconst X0.here hx rfl (hb hby d6_84) k) ?_
  show own_R _ _ _ _ (s₁.setTop (mkF m 85 #[.val (.ref a1), .val (.int (4 : Int32)), .val (.int p2), .val (.int p3), .val (.int p4), .val (.int p5), .val (.int p6)] [(.int (1 : Int32))]))
  exact own_retN X0 hx (t := .boolean) (by simp) Bd.returns (hb hby d6_85) hlk ⟨rfl, NF, e0⟩ (by decide) (by decide)
theorem ef_6_5 (m : MethodId) (x0 : Addr) (x1 : Int32) (x2 : Int32) (x3 : Int32) (x4 : Int32) (x5 : Int32) (x6 : Int32) : entryFrame m #[(.ref x0), (.int x1), (.int x2), (.int x3), (.int x4), (.int x5), (.int x6)] 7 = mkF m 0 #[.val (.ref x0), .val (.int x1), .val (.int x2), .val (.int x3), .val (.int x4), .val (.int x5), .val (.int x6)] [] := by first | (simp [entryFrame, mkF, argsToLocals, Value.category]; done) | rfl
def Q6_5 (Z : State) (a1 : Addr) (p2 : Int32) (p3 : Int32) (p4 : Int32) (p5 : Int32) (p6 : Int32) (k1 : ClassId) (h0 : Heap) (n0 : Nat) (v : Option Value) (h : Heap) (L : List Loc) : Prop := v = some (.int 1) ∧ Fr n0 L ∧ h = h0
set_option maxRecDepth 65536 in
set_option maxHeartbeats 40000000 in
theorem rm6_5 (l : Launch) (Z : State) (a0 : Array Value) (hw : ∀ d ∈ tables_1, d.before a0 Z = true) (ws : List Jvm.Cond) (a1 : Addr) (p2 : Int32) (p3 : Int32) (p4 : Int32) (p5 : Int32) (p6 : Int32) (k1 : ClassId) (h0 : Heap) (n0 : Nat) (ZS : n0 ≤ h0.size) (V_a1 : Arv Z h0 a1 k1 .int (5 : Int32) [(.int p2), (.int p3), (.int p4), (.int p5), (.int p6)] (.int (0 : Int32))) :
    MetFree l (⟨"com/example/austere_nets/austerenets/minimize/IntListToArrayPinLaw", "matches", "([IIIIIII)Z"⟩ : MethodName) (head1 (Jvm.Cond.code (⟨"com/example/austere_nets/austerenets/minimize/IntListToArrayPinLaw", "matches", "([IIIIIII)Z"⟩ : MethodName) method_2_code 7 (some .boolean) :: ws) ({ frames := 0, cells := 0, slots := 0, locals := 0 } : Room)) (fun a U => a = #[(.ref a1), (.int (5 : Int32)), (.int p2), (.int p3), (.int p4), (.int p5), (.int p6)] ∧ Z.Warmed39 U.vm ∧ U.heap = h0) (fun _ _ _ _ _ => True) (fun _ U o U' => ∃ v L, o = .returned v ∧ Q6_5 Z a1 p2 p3 p4 p5 p6 k1 h0 n0 v U'.heap L ∧ FrameEnd U o U' L ({ frames := 0, cells := 0, slots := 0, locals := 0 } : Room).cells ({ frames := 0, cells := 0, slots := 0, locals := 0 } : Room).slots) := by
  refine MetFree.of_bodySF (plainFor_of_name pn_6) hisR ?_
  intro p e s m args below meth c s₁ Bd hml0 hP hK
  obtain ⟨rfl, hZ, hh⟩ := hP
  have hx := Bd.exec
  have hby := Bd.bytes
  have hml : c.maxLocals = 7 := hml0
  have hown : s.vm.findClass "com/example/austere_nets/austerenets/minimize/IntListToArrayPinLaw" = some m.cls := findClass_of_methodNamed Bd.named
  have hnm := (name_of_methodNamed Bd.named Bd.method).1
  have hlk : meth.locks = false := Bd.notSynchronized
  have X0 : Stand p l e ({ frames := 0, cells := 0, slots := 0, locals := 0 } : Room) s m #[(.ref a1), (.int (5 : Int32)), (.int p2), (.int p3), (.int p4), (.int p5), (.int p6)] below meth c s₁ [] 0 0 := Stand.of_body Bd
  have e0 : s₁.heap = h0 := by rw [← hh, Bd.state]; rfl
  have NF := Fr.nil n0
  have KP : Keep h0 h0 [] := Keep.refl _ _
  refine own_fin (s := s) (Q := Q6_5 Z a1 p2 p3 p4 p5 p6 k1 h0 n0) (rc := ({ frames := 0, cells := 0, slots := 0, locals := 0 } : Room).cells) (rs := ({ frames := 0, cells := 0, slots := 0, locals := 0 } : Room).slots) ?_
  refine own_go (fun t k => castTop (ef_6_5 m a1 (5 : Int32) p2 p3 p4 p5 p6) k) ?_
  show own_R _ _ _ _ (s₁.setTop (mkF m 0 #[.val (.ref a1), .val (.int (5 : Int32)), .val (.int p2), .val (.int p3), .val (.int p4), .val (.int p5), .val (.int p6)] []))
  refine own_go (fun _ k => XS.aloadN X0.here hx rfl (hb hby d6_0) rfl rfl k) ?_
  show own_R _ _ _ _ (s₁.setTop (mkF m 1 #[.val (.ref a1), .val (.int (5 : Int32)), .val (.int p2), .val (.int p3), .val (.int p4), .val (.int p5), .val (.int p6)] [(.ref a1)]))
  refine own_go (fun _ k => XS.ifnullNo X0.here hx rfl (hb hby d6_1) rfl k) ?_
  show own_R _ _ _ _ (s₁.setTop (mkF m 4 #[.val (.ref a1), .val (.int (5 : Int32)), .val (.int p2), .val (.int p3), .val (.int p4), .val (.int p5), .val (.int p6)] []))
  refine own_go (fun _ k => XS.aloadN X0.here hx rfl (hb hby d6_4) rfl rfl k) ?_
  show own_R _ _ _ _ (s₁.setTop (mkF m 5 #[.val (.ref a1), .val (.int (5 : Int32)), .val (.int p2), .val (.int p3), .val (.int p4), .val (.int p5), .val (.int p6)] [(.ref a1)]))
  refine own_go (own_len X0 hx hZ e0 V_a1 (g := (mkF m 5 #[.val (.ref a1), .val (.int (5 : Int32)), .val (.int p2), .val (.int p3), .val (.int p4), .val (.int p5), .val (.int p6)] [(.ref a1)])) rfl rfl (hb hby d6_5)) ?_
  show own_R _ _ _ _ (s₁.setTop (mkF m 6 #[.val (.ref a1), .val (.int (5 : Int32)), .val (.int p2), .val (.int p3), .val (.int p4), .val (.int p5), .val (.int p6)] [(.int (5 : Int32))]))
  refine own_go (fun _ k => XS.iloadN X0.here hx rfl (hb hby d6_6) rfl k) ?_
  show own_R _ _ _ _ (s₁.setTop (mkF m 7 #[.val (.ref a1), .val (.int (5 : Int32)), .val (.int p2), .val (.int p3), .val (.int p4), .val (.int p5), .val (.int p6)] [(.int (5 : Int32)), (.int (5 : Int32))]))
  refine own_go (fun _ k => XS.icmpYes X0.here hx rfl (pc0 := 7) (pc' := 12) rfl (hb hby d6_7) rfl (teq (by decide : (5 : Int32) = (5 : Int32))).1 (by decide) (by decide) k) ?_
  show own_R _ _ _ _ (s₁.setTop (mkF m 12 #[.val (.ref a1), .val (.int (5 : Int32)), .val (.int p2), .val (.int p3), .val (.int p4), .val (.int p5), .val (.int p6)] []))
  refine own_go (fun _ k => XS.iloadN X0.here hx rfl (hb hby d6_12) rfl k) ?_
  show own_R _ _ _ _ (s₁.setTop (mkF m 13 #[.val (.ref a1), .val (.int (5 : Int32)), .val (.int p2), .val (.int p3), .val (.int p4), .val (.int p5), .val (.int p6)] [(.int (5 : Int32))]))
  refine own_go (fun _ k => XS.ifNo X0.here hx rfl (hb hby d6_13) rfl ((if0 _ _).trans (tlt (by decide : (0 : Int32) < (5 : Int32))).2.2.2) k) ?_
  show own_R _ _ _ _ (s₁.setTop (mkF m 16 #[.val (.ref a1), .val (.int (5 : Int32)), .val (.int p2), .val (.int p3), .val (.int p4), .val (.int p5), .val (.int p6)] []))
  refine own_go (fun _ k => XS.aloadN X0.here hx rfl (hb hby d6_16) rfl rfl k) ?_
  show own_R _ _ _ _ (s₁.setTop (mkF m 17 #[.val (.ref a1), .val (.int (5 : Int32)), .val (.int p2), .val (.int p3), .val (.int p4), .val (.int p5), .val (.int p6)] [(.ref a1)]))
  refine own_go (fun _ k => XS.iconst X0.here hx rfl (hb hby d6_17) k) ?_
  show own_R _ _ _ _ (s₁.setTop (mkF m 18 #[.val (.ref a1), .val (.int (5 : Int32)), .val (.int p2), .val (.int p3), .val (.int p4), .val (.int p5), .val (.int p6)] [(.int (0 : Int32)), (.ref a1)]))
  refine own_go (own_ldI X0 hx hZ e0 V_a1 (j := (0 : Int32)) (i := 0) ⟨by decide, by decide⟩ rfl (v := (.int p2)) rfl (g := (mkF m 18 #[.val (.ref a1), .val (.int (5 : Int32)), .val (.int p2), .val (.int p3), .val (.int p4), .val (.int p5), .val (.int p6)] [(.int (0 : Int32)), (.ref a1)])) rfl rfl (hb hby d6_18)) ?_
  show own_R _ _ _ _ (s₁.setTop (mkF m 19 #[.val (.ref a1), .val (.int (5 : Int32)), .val (.int p2), .val (.int p3), .val (.int p4), .val (.int p5), .val (.int p6)] [(.int p2)]))
  refine own_go (fun _ k => XS.iloadN X0.here hx rfl (hb hby d6_19) rfl k) ?_
  show own_R _ _ _ _ (s₁.setTop (mkF m 20 #[.val (.ref a1), .val (.int (5 : Int32)), .val (.int p2), .val (.int p3), .val (.int p4), .val (.int p5), .val (.int p6)] [(.int p2), (.int p2)]))
  refine own_go (fun _ k => XS.icmpYes X0.here hx rfl (pc0 := 20) (pc' := 25) rfl (hb hby d6_20) rfl (teq rfl).1 (by decide) (by decide) k) ?_
  show own_R _ _ _ _ (s₁.setTop (mkF m 25 #[.val (.ref a1), .val (.int (5 : Int32)), .val (.int p2), .val (.int p3), .val (.int p4), .val (.int p5), .val (.int p6)] []))
  refine own_go (fun _ k => XS.iloadN X0.here hx rfl (hb hby d6_25) rfl k) ?_
  show own_R _ _ _ _ (s₁.setTop (mkF m 26 #[.val (.ref a1), .val (.int (5 : Int32)), .val (.int p2), .val (.int p3), .val (.int p4), .val (.int p5), .val (.int p6)] [(.int (5 : Int32))]))
  refine own_go (fun _ k => XS.iconst X0.here hx rfl (hb hby d6_26) k) ?_
  show own_R _ _ _ _ (s₁.setTop (mkF m 27 #[.val (.ref a1), .val (.int (5 : Int32)), .val (.int p2), .val (.int p3), .val (.int p4), .val (.int p5), .val (.int p6)] [(.int (1 : Int32)), (.int (5 : Int32))]))
  refine own_go (fun _ k => XS.icmpNo X0.here hx rfl (hb hby d6_27) rfl (tlt (by decide : (1 : Int32) < (5 : Int32))).2.2.2 k) ?_
  show own_R _ _ _ _ (s₁.setTop (mkF m 30 #[.val (.ref a1), .val (.int (5 : Int32)), .val (.int p2), .val (.int p3), .val (.int p4), .val (.int p5), .val (.int p6)] []))
  refine own_go (fun _ k => XS.aloadN X0.here hx rfl (hb hby d6_30) rfl rfl k) ?_
  show own_R _ _ _ _ (s₁.setTop (mkF m 31 #[.val (.ref a1), .val (.int (5 : Int32)), .val (.int p2), .val (.int p3), .val (.int p4), .val (.int p5), .val (.int p6)] [(.ref a1)]))
  refine own_go (fun _ k => XS.iconst X0.here hx rfl (hb hby d6_31) k) ?_
  show own_R _ _ _ _ (s₁.setTop (mkF m 32 #[.val (.ref a1), .val (.int (5 : Int32)), .val (.int p2), .val (.int p3), .val (.int p4), .val (.int p5), .val (.int p6)] [(.int (1 : Int32)), (.ref a1)]))
  refine own_go (own_ldI X0 hx hZ e0 V_a1 (j := (1 : Int32)) (i := 1) ⟨by decide, by decide⟩ rfl (v := (.int p3)) rfl (g := (mkF m 32 #[.val (.ref a1), .val (.int (5 : Int32)), .val (.int p2), .val (.int p3), .val (.int p4), .val (.int p5), .val (.int p6)] [(.int (1 : Int32)), (.ref a1)])) rfl rfl (hb hby d6_32)) ?_
  show own_R _ _ _ _ (s₁.setTop (mkF m 33 #[.val (.ref a1), .val (.int (5 : Int32)), .val (.int p2), .val (.int p3), .val (.int p4), .val (.int p5), .val (.int p6)] [(.int p3)]))
  refine own_go (fun _ k => XS.iloadN X0.here hx rfl (hb hby d6_33) rfl k) ?_
  show own_R _ _ _ _ (s₁.setTop (mkF m 34 #[.val (.ref a1), .val (.int (5 : Int32)), .val (.int p2), .val (.int p3), .val (.int p4), .val (.int p5), .val (.int p6)] [(.int p3), (.int p3)]))
  refine own_go (fun _ k => XS.icmpYes X0.here hx rfl (pc0 := 34) (pc' := 39) rfl (hb hby d6_34) rfl (teq rfl).1 (by decide) (by decide) k) ?_
  show own_R _ _ _ _ (s₁.setTop (mkF m 39 #[.val (.ref a1), .val (.int (5 : Int32)), .val (.int p2), .val (.int p3), .val (.int p4), .val (.int p5), .val (.int p6)] []))
  refine own_go (fun _ k => XS.iloadN X0.here hx rfl (hb hby d6_39) rfl k) ?_
  show own_R _ _ _ _ (s₁.setTop (mkF m 40 #[.val (.ref a1), .val (.int (5 : Int32)), .val (.int p2), .val (.int p3), .val (.int p4), .val (.int p5), .val (.int p6)] [(.int (5 : Int32))]))
  refine own_go (fun _ k => XS.iconst X0.here hx rfl (hb hby d6_40) k) ?_
  show own_R _ _ _ _ (s₁.setTop (mkF m 41 #[.val (.ref a1), .val (.int (5 : Int32)), .val (.int p2), .val (.int p3), .val (.int p4), .val (.int p5), .val (.int p6)] [(.int (2 : Int32)), (.int (5 : Int32))]))
  refine own_go (fun _ k => XS.icmpNo X0.here hx rfl (hb hby d6_41) rfl (tlt (by decide : (2 : Int32) < (5 : Int32))).2.2.2 k) ?_
  show own_R _ _ _ _ (s₁.setTop (mkF m 44 #[.val (.ref a1), .val (.int (5 : Int32)), .val (.int p2), .val (.int p3), .val (.int p4), .val (.int p5), .val (.int p6)] []))
  refine own_go (fun _ k => XS.aloadN X0.here hx rfl (hb hby d6_44) rfl rfl k) ?_
  show own_R _ _ _ _ (s₁.setTop (mkF m 45 #[.val (.ref a1), .val (.int (5 : Int32)), .val (.int p2), .val (.int p3), .val (.int p4), .val (.int p5), .val (.int p6)] [(.ref a1)]))
  refine own_go (fun _ k => XS.iconst X0.here hx rfl (hb hby d6_45) k) ?_
  show own_R _ _ _ _ (s₁.setTop (mkF m 46 #[.val (.ref a1), .val (.int (5 : Int32)), .val (.int p2), .val (.int p3), .val (.int p4), .val (.int p5), .val (.int p6)] [(.int (2 : Int32)), (.ref a1)]))
  refine own_go (own_ldI X0 hx hZ e0 V_a1 (j := (2 : Int32)) (i := 2) ⟨by decide, by decide⟩ rfl (v := (.int p4)) rfl (g := (mkF m 46 #[.val (.ref a1), .val (.int (5 : Int32)), .val (.int p2), .val (.int p3), .val (.int p4), .val (.int p5), .val (.int p6)] [(.int (2 : Int32)), (.ref a1)])) rfl rfl (hb hby d6_46)) ?_
  show own_R _ _ _ _ (s₁.setTop (mkF m 47 #[.val (.ref a1), .val (.int (5 : Int32)), .val (.int p2), .val (.int p3), .val (.int p4), .val (.int p5), .val (.int p6)] [(.int p4)]))
  refine own_go (fun _ k => XS.iload X0.here hx rfl (hb hby d6_47) rfl k) ?_
  show own_R _ _ _ _ (s₁.setTop (mkF m 49 #[.val (.ref a1), .val (.int (5 : Int32)), .val (.int p2), .val (.int p3), .val (.int p4), .val (.int p5), .val (.int p6)] [(.int p4), (.int p4)]))
  refine own_go (fun _ k => XS.icmpYes X0.here hx rfl (pc0 := 49) (pc' := 54) rfl (hb hby d6_49) rfl (teq rfl).1 (by decide) (by decide) k) ?_
  show own_R _ _ _ _ (s₁.setTop (mkF m 54 #[.val (.ref a1), .val (.int (5 : Int32)), .val (.int p2), .val (.int p3), .val (.int p4), .val (.int p5), .val (.int p6)] []))
  refine own_go (fun _ k => XS.iloadN X0.here hx rfl (hb hby d6_54) rfl k) ?_
  show own_R _ _ _ _ (s₁.setTop (mkF m 55 #[.val (.ref a1), .val (.int (5 : Int32)), .val (.int p2), .val (.int p3), .val (.int p4), .val (.int p5), .val (.int p6)] [(.int (5 : Int32))]))
  refine own_go (fun _ k => XS.iconst X0.here hx rfl (hb hby d6_55) k) ?_
  show own_R _ _ _ _ (s₁.setTop (mkF m 56 #[.val (.ref a1), .val (.int (5 : Int32)), .val (.int p2), .val (.int p3), .val (.int p4), .val (.int p5), .val (.int p6)] [(.int (3 : Int32)), (.int (5 : Int32))]))
  refine own_go (fun _ k => XS.icmpNo X0.here hx rfl (hb hby d6_56) rfl (tlt (by decide : (3 : Int32) < (5 : Int32))).2.2.2 k) ?_
  show own_R _ _ _ _ (s₁.setTop (mkF m 59 #[.val (.ref a1), .val (.int (5 : Int32)), .val (.int p2), .val (.int p3), .val (.int p4), .val (.int p5), .val (.int p6)] []))
  refine own_go (fun _ k => XS.aloadN X0.here hx rfl (hb hby d6_59) rfl rfl k) ?_
  show own_R _ _ _ _ (s₁.setTop (mkF m 60 #[.val (.ref a1), .val (.int (5 : Int32)), .val (.int p2), .val (.int p3), .val (.int p4), .val (.int p5), .val (.int p6)] [(.ref a1)]))
  refine own_go (fun _ k => XS.iconst X0.here hx rfl (hb hby d6_60) k) ?_
  show own_R _ _ _ _ (s₁.setTop (mkF m 61 #[.val (.ref a1), .val (.int (5 : Int32)), .val (.int p2), .val (.int p3), .val (.int p4), .val (.int p5), .val (.int p6)] [(.int (3 : Int32)), (.ref a1)]))
  refine own_go (own_ldI X0 hx hZ e0 V_a1 (j := (3 : Int32)) (i := 3) ⟨by decide, by decide⟩ rfl (v := (.int p5)) rfl (g := (mkF m 61 #[.val (.ref a1), .val (.int (5 : Int32)), .val (.int p2), .val (.int p3), .val (.int p4), .val (.int p5), .val (.int p6)] [(.int (3 : Int32)), (.ref a1)])) rfl rfl (hb hby d6_61)) ?_
  show own_R _ _ _ _ (s₁.setTop (mkF m 62 #[.val (.ref a1), .val (.int (5 : Int32)), .val (.int p2), .val (.int p3), .val (.int p4), .val (.int p5), .val (.int p6)] [(.int p5)]))
  refine own_go (fun _ k => XS.iload X0.here hx rfl (hb hby d6_62) rfl k) ?_
  show own_R _ _ _ _ (s₁.setTop (mkF m 64 #[.val (.ref a1), .val (.int (5 : Int32)), .val (.int p2), .val (.int p3), .val (.int p4), .val (.int p5), .val (.int p6)] [(.int p5), (.int p5)]))
  refine own_go (fun _ k => XS.icmpYes X0.here hx rfl (pc0 := 64) (pc' := 69) rfl (hb hby d6_64) rfl (teq rfl).1 (by decide) (by decide) k) ?_
  show own_R _ _ _ _ (s₁.setTop (mkF m 69 #[.val (.ref a1), .val (.int (5 : Int32)), .val (.int p2), .val (.int p3), .val (.int p4), .val (.int p5), .val (.int p6)] []))
  refine own_go (fun _ k => XS.iloadN X0.here hx rfl (hb hby d6_69) rfl k) ?_
  show own_R _ _ _ _ (s₁.setTop (mkF m 70 #[.val (.ref a1), .val (.int (5 : Int32)), .val (.int p2), .val (.int p3), .val (.int p4), .val (.int p5), .val (.int p6)] [(.int (5 : Int32))]))
  refine own_go (fun _ k => XS.iconst X0.here hx rfl (hb hby d6_70) k) ?_
  show own_R _ _ _ _ (s₁.setTop (mkF m 71 #[.val (.ref a1), .val (.int (5 : Int32)), .val (.int p2), .val (.int p3), .val (.int p4), .val (.int p5), .val (.int p6)] [(.int (4 : Int32)), (.int (5 : Int32))]))
  refine own_go (fun _ k => XS.icmpNo X0.here hx rfl (hb hby d6_71) rfl (tlt (by decide : (4 : Int32) < (5 : Int32))).2.2.2 k) ?_
  show own_R _ _ _ _ (s₁.setTop (mkF m 74 #[.val (.ref a1), .val (.int (5 : Int32)), .val (.int p2), .val (.int p3), .val (.int p4), .val (.int p5), .val (.int p6)] []))
  refine own_go (fun _ k => XS.aloadN X0.here hx rfl (hb hby d6_74) rfl rfl k) ?_
  show own_R _ _ _ _ (s₁.setTop (mkF m 75 #[.val (.ref a1), .val (.int (5 : Int32)), .val (.int p2), .val (.int p3), .val (.int p4), .val (.int p5), .val (.int p6)] [(.ref a1)]))
  refine own_go (fun _ k => XS.iconst X0.here hx rfl (hb hby d6_75) k) ?_
  show own_R _ _ _ _ (s₁.setTop (mkF m 76 #[.val (.ref a1), .val (.int (5 : Int32)), .val (.int p2), .val (.int p3), .val (.int p4), .val (.int p5), .val (.int p6)] [(.int (4 : Int32)), (.ref a1)]))
  refine own_go (own_ldI X0 hx hZ e0 V_a1 (j := (4 : Int32)) (i := 4) ⟨by decide, by decide⟩ rfl (v := (.int p6)) rfl (g := (mkF m 76 #[.val (.ref a1), .val (.int (5 : Int32)), .val (.int p2), .val (.int p3), .val (.int p4), .val (.int p5), .val (.int p6)] [(.int (4 : Int32)), (.ref a1)])) rfl rfl (hb hby d6_76)) ?_
  show own_R _ _ _ _ (s₁.setTop (mkF m 77 #[.val (.ref a1), .val (.int (5 : Int32)), .val (.int p2), .val (.int p3), .val (.int p4), .val (.int p5), .val (.int p6)] [(.int p6)]))
  refine own_go (fun _ k => XS.iload X0.here hx rfl (hb hby d6_77) rfl k) ?_
  show own_R _ _ _ _ (s₁.setTop (mkF m 79 #[.val (.ref a1), .val (.int (5 : Int32)), .val (.int p2), .val (.int p3), .val (.int p4), .val (.int p5), .val (.int p6)] [(.int p6), (.int p6)]))
  refine own_go (fun _ k => XS.icmpYes X0.here hx rfl (pc0 := 79) (pc' := 84) rfl (hb hby d6_79) rfl (teq rfl).1 (by decide) (by decide) k) ?_
  show own_R _ _ _ _ (s₁.setTop (mkF m 84 #[.val (.ref a1), .val (.int (5 : Int32)), .val (.int p2), .val (.int p3), .val (.int p4), .val (.int p5), .val (.int p6)] []))
  refine own_go (fun _ k => XS.iconst X0.here hx rfl (hb hby d6_84) k) ?_
  show own_R _ _ _ _ (s₁.setTop (mkF m 85 #[.val (.ref a1), .val (.int (5 : Int32)), .val (.int p2), .val (.int p3), .val (.int p4), .val (.int p5), .val (.int p6)] [(.int (1 : Int32))]))
  exact own_retN X0 hx (t := .boolean) (by simp) Bd.returns (hb hby d6_85) hlk ⟨rfl, NF, e0⟩ (by decide) (by decide)
theorem ef_0 (m : MethodId) (x0 : Int32) (x1 : Int32) (x2 : Int32) (x3 : Int32) (x4 : Int32) (x5 : Int32) : entryFrame m #[(.int x0), (.int x1), (.int x2), (.int x3), (.int x4), (.int x5)] maxLocals = mkF m 0 #[.val (.int x0), .val (.int x1), .val (.int x2), .val (.int x3), .val (.int x4), .val (.int x5), .unset, .unset, .unset, .unset] [] := by first | (simp [entryFrame, mkF, argsToLocals, Value.category, maxLocals]; done) | rfl
def Q0 (Z : State) (p1 : Int32) (q2 : Int32) (q3 : Int32) (q4 : Int32) (q5 : Int32) (q6 : Int32) (h0 : Heap) (n0 : Nat) (v : Option Value) (h : Heap) (L : List Loc) : Prop := v = some (.int 1) ∧ Fr n0 L
set_option maxRecDepth 65536 in
set_option maxHeartbeats 40000000 in
theorem rm0 (l : Launch) (Z : State) (a0 : Array Value) (hw : ∀ d ∈ tables_1, d.before a0 Z = true) (ws : List Jvm.Cond) (p1 : Int32) (q2 : Int32) (q3 : Int32) (q4 : Int32) (q5 : Int32) (q6 : Int32) (h0 : Heap) (n0 : Nat) (ZS : n0 ≤ h0.size) :
    MetFree l x (head1 (Jvm.Cond.code x code maxLocals ret :: ws) room_1) (fun a U => a = #[(.int p1), (.int q2), (.int q3), (.int q4), (.int q5), (.int q6)] ∧ Z.Warmed39 U.vm ∧ U.heap = h0) (fun _ _ _ _ _ => True) (fun _ U o U' => ∃ v L, o = .returned v ∧ Q0 Z p1 q2 q3 q4 q5 q6 h0 n0 v U'.heap L ∧ FrameEnd U o U' L 16 128) := by
  refine MetFree.of_bodySF (plainFor_of_name pn_6) hisR ?_
  intro p e s m args below meth c s₁ Bd hml0 hP hK
  obtain ⟨rfl, hZ, hh⟩ := hP
  have hx := Bd.exec
  have hby := Bd.bytes
  have hml : c.maxLocals = 10 := hml0
  have hown : s.vm.findClass "com/example/austere_nets/austerenets/minimize/IntListToArrayPinLaw" = some m.cls := findClass_of_methodNamed Bd.named
  have hnm := (name_of_methodNamed Bd.named Bd.method).1
  have hlk : meth.locks = false := Bd.notSynchronized
  have X0 : Stand p l e room_1 s m #[(.int p1), (.int q2), (.int q3), (.int q4), (.int q5), (.int q6)] below meth c s₁ [] 0 0 := Stand.of_body Bd
  have e0 : s₁.heap = h0 := by rw [← hh, Bd.state]; rfl
  have NF := Fr.nil n0
  have KP : Keep h0 h0 [] := Keep.refl _ _
  refine own_fin (s := s) (Q := Q0 Z p1 q2 q3 q4 q5 q6 h0 n0) (rc := 16) (rs := 128) ?_
  refine own_go (fun t k => castTop (ef_0 m p1 q2 q3 q4 q5 q6) k) ?_
  show own_R _ _ _ _ (s₁.setTop (mkF m 0 #[.val (.int p1), .val (.int q2), .val (.int q3), .val (.int q4), .val (.int q5), .val (.int q6), .unset, .unset, .unset, .unset] []))
  refine own_go (fun _ k => XS.iloadN X0.here hx rfl (hb hby at_0) rfl k) ?_
  show own_R _ _ _ _ (s₁.setTop (mkF m 1 #[.val (.int p1), .val (.int q2), .val (.int q3), .val (.int q4), .val (.int q5), .val (.int q6), .unset, .unset, .unset, .unset] [(.int p1)]))
  refine own_go (X0.ldcInt hx hown (mvT hZ (hw _ (List.mem_of_getElem? (i := 0) rfl))) (g := (mkF m 1 #[.val (.int p1), .val (.int q2), .val (.int q3), .val (.int q4), .val (.int q5), .val (.int q6), .unset, .unset, .unset, .unset] [(.int p1)])) rfl (hb hby at_1)) ?_
  show own_R _ _ _ _ (s₁.setTop (mkF m 3 #[.val (.int p1), .val (.int q2), .val (.int q3), .val (.int q4), .val (.int q5), .val (.int q6), .unset, .unset, .unset, .unset] [(.int (2147483647 : Int32)), (.int p1)]))
  refine own_go (fun _ k => XS.iand X0.here hx rfl (hb hby at_3) rfl k) ?_
  show own_R _ _ _ _ (s₁.setTop (mkF m 4 #[.val (.int p1), .val (.int q2), .val (.int q3), .val (.int q4), .val (.int q5), .val (.int q6), .unset, .unset, .unset, .unset] [(.int (p1 &&& (2147483647 : Int32)))]))
  refine own_go (fun _ k => XS.bipush X0.here hx rfl (hb hby at_4) k) ?_
  show own_R _ _ _ _ (s₁.setTop (mkF m 6 #[.val (.int p1), .val (.int q2), .val (.int q3), .val (.int q4), .val (.int q5), .val (.int q6), .unset, .unset, .unset, .unset] [(.int (6 : Int32)), (.int (p1 &&& (2147483647 : Int32)))]))
  refine own_go (fun _ k => iremM X0 hx rfl (hb hby at_6) rfl (by decide) k) ?_
  show own_R _ _ _ _ (s₁.setTop (mkF m 7 #[.val (.int p1), .val (.int q2), .val (.int q3), .val (.int q4), .val (.int q5), .val (.int q6), .unset, .unset, .unset, .unset] [(.int ((p1 &&& (2147483647 : Int32)) % (6 : Int32)))]))
  refine own_go (fun _ k => XS.istore X0.here hx rfl (hb hby at_7) rfl (l' := #[.val (.int p1), .val (.int q2), .val (.int q3), .val (.int q4), .val (.int q5), .val (.int q6), .val (.int ((p1 &&& (2147483647 : Int32)) % (6 : Int32))), .unset, .unset, .unset]) rfl k) ?_
  show own_R _ _ _ _ (s₁.setTop (mkF m 9 #[.val (.int p1), .val (.int q2), .val (.int q3), .val (.int q4), .val (.int q5), .val (.int q6), .val (.int ((p1 &&& (2147483647 : Int32)) % (6 : Int32))), .unset, .unset, .unset] []))
  generalize hnn : ((p1 &&& (2147483647 : Int32)) % (6 : Int32)) = nn
  show own_R _ _ _ _ (s₁.setTop (mkF m 9 #[.val (.int p1), .val (.int q2), .val (.int q3), .val (.int q4), .val (.int q5), .val (.int q6), .val (.int nn), .unset, .unset, .unset] []))
  obtain ⟨T17, h17, X17, e17, E17, A17, D17, -, st17⟩ := newO X0 hx hZ hown (hw _ (List.mem_of_getElem? (i := 1) rfl)) (hw _ (List.mem_of_getElem? (i := 2) rfl)) (hw _ (List.mem_of_getElem? (i := 3) rfl)) e0 (g := (mkF m 9 #[.val (.int p1), .val (.int q2), .val (.int q3), .val (.int q4), .val (.int q5), .val (.int q6), .val (.int nn), .unset, .unset, .unset] [])) rfl (hb hby at_9) (by decide) (by decide)
  obtain ⟨b17, g17⟩ : ∃ z, z = h0.size := ⟨_, rfl⟩
  rw [← g17] at A17 D17 st17
  refine own_go st17 ?_
  have g_b17 : n0 ≤ b17 := Nat.le_trans ZS (Nat.le_of_eq g17.symm)
  have sz_b17 : h0.size ≤ b17 := Nat.le_trans KP.1 (Nat.le_of_eq g17.symm)
  have ZS := Nat.le_trans ZS E17.1
  have KP := KP.ext E17
  have E_b17 := A17
  have F_values_b17 : Fld Z h17 b17 "com/example/austere_nets/austerenets/minimize/IntList" "values" "[I" .null := D17 (Or.inl (hw _ (List.mem_of_getElem? (i := 12) rfl))) (ty := (.array .int)) (by decide)
  have F_size_b17 : Fld Z h17 b17 "com/example/austere_nets/austerenets/minimize/IntList" "size" "I" (.int (0 : Int32)) := D17 (Or.inl (hw _ (List.mem_of_getElem? (i := 19) rfl))) (ty := .int) (by decide)
  show own_R _ _ _ _ (T17.setTop (mkF m 12 #[.val (.int p1), .val (.int q2), .val (.int q3), .val (.int q4), .val (.int q5), .val (.int q6), .val (.int nn), .unset, .unset, .unset] [(.ref b17)]))
  refine own_go (fun _ k => XS.dup X17.here hx rfl (hb hby at_12) rfl rfl k) ?_
  show own_R _ _ _ _ (T17.setTop (mkF m 13 #[.val (.int p1), .val (.int q2), .val (.int q3), .val (.int q4), .val (.int q5), .val (.int q6), .val (.int nn), .unset, .unset, .unset] [(.ref b17), (.ref b17)]))
  obtain ⟨_, _, ⟨T18, L18, k18, n18⟩, -, X18, ⟨Lc18, hQ18, l18, y18, z18⟩, st18⟩ := X17.specialBack hx (y := (⟨"com/example/austere_nets/austerenets/minimize/IntList", "<init>", "()V"⟩ : MethodName)) rfl hown (mvT hZ (hw _ (List.mem_of_getElem? (i := 4) rfl))) (mvT hZ (hw _ (List.mem_of_getElem? (i := 5) rfl))) (mvT hZ (hw _ (List.mem_of_getElem? (i := 6) rfl))) (by decide) (backOf (W := 1) (rm1 l Z a0 hw [] b17 .null (0 : Int32) h17 n0 ZS E_b17 F_values_b17 F_size_b17 g_b17) hZ (hw _ (List.mem_of_getElem? (i := 6) rfl)) (hw _ (List.mem_of_getElem? (i := 3) rfl)) (by decide) (by decide)) (g := (mkF m 13 #[.val (.int p1), .val (.int q2), .val (.int q3), .val (.int q4), .val (.int q5), .val (.int q6), .val (.int nn), .unset, .unset, .unset] [(.ref b17), (.ref b17)])) rfl (by rw [hml]; rfl) (Steps.refl _) (a := b17) (argsL := []) (rest := [(.ref b17)]) (lenOf pd_2 rfl) rfl (by show 2 * 0 + _ ≤ _; exact Nat.le_of_eq rfl) (hb hby at_13) (fun _ _ => ⟨rfl, e17, (by decide : 1 + 1 ≤ _), (by decide : 2 + 16 ≤ _)⟩)
  dsimp only [Pt.U, Pt.locs, Pt.cells, Pt.slots] at X18 l18 y18 z18 st18 hQ18
  subst l18 y18 z18
  obtain ⟨h18, e18'⟩ : ∃ z, z = T18.heap := ⟨_, rfl⟩
  rw [← e18'] at hQ18
  have e18 : T18.heap = h18 := e18'.symm
  obtain ⟨rfl, N18q, K18, pp1, c19, pp2, hbc19, kc19, Vc19'⟩ := hQ18
  have NF := Fr.app NF N18q
  refine own_go (fun _ k => st18.trans k) ?_
  have ne_b17_c19 : b17 ≠ c19 := Nat.ne_of_lt (Nat.lt_of_lt_of_le E_b17.lt hbc19)
  have g_c19 : n0 ≤ c19 := Nat.le_trans ZS hbc19
  have sz_c19 : h0.size ≤ c19 := Nat.le_trans KP.1 hbc19
  have E_b17 := E_b17.keep K18
  have ZS := Nat.le_trans ZS K18.1
  have KP := KP.trans K18 (allS (Or.inr sz_b17) all0)
  have F_size_b17 := pp1
  have F_values_b17 := pp2
  have V_c19 := Vc19'
  show own_R _ _ _ _ (T18.setTop (mkF m 16 #[.val (.int p1), .val (.int q2), .val (.int q3), .val (.int q4), .val (.int q5), .val (.int q6), .val (.int nn), .unset, .unset, .unset] [(.ref b17)]))
  refine own_go (fun _ k => XS.astore X18.here hx rfl (hb hby at_16) rfl rfl (l' := #[.val (.int p1), .val (.int q2), .val (.int q3), .val (.int q4), .val (.int q5), .val (.int q6), .val (.int nn), .val (.ref b17), .unset, .unset]) rfl k) ?_
  show own_R _ _ _ _ (T18.setTop (mkF m 18 #[.val (.int p1), .val (.int q2), .val (.int q3), .val (.int q4), .val (.int q5), .val (.int q6), .val (.int nn), .val (.ref b17), .unset, .unset] []))
  rcases own_six _ _ hnn with rfl | rfl | rfl | rfl | rfl | rfl
  · show own_R _ _ _ _ (T18.setTop (mkF m 18 #[.val (.int p1), .val (.int q2), .val (.int q3), .val (.int q4), .val (.int q5), .val (.int q6), .val (.int (0 : Int32)), .val (.ref b17), .unset, .unset] []))
    refine own_go (fun _ k => XS.iload X18.here hx rfl (hb hby at_18) rfl k) ?_
    show own_R _ _ _ _ (T18.setTop (mkF m 20 #[.val (.int p1), .val (.int q2), .val (.int q3), .val (.int q4), .val (.int q5), .val (.int q6), .val (.int (0 : Int32)), .val (.ref b17), .unset, .unset] [(.int (0 : Int32))]))
    refine own_go (fun _ k => XS.ifYes X18.here hx rfl (pc0 := 20) (pc' := 29) rfl (hb hby at_20) rfl ((if0 _ _).trans (flt (by decide : ¬ ((0 : Int32) < (0 : Int32)))).2.2.2) (by decide) (by decide) k) ?_
    show own_R _ _ _ _ (T18.setTop (mkF m 29 #[.val (.int p1), .val (.int q2), .val (.int q3), .val (.int q4), .val (.int q5), .val (.int q6), .val (.int (0 : Int32)), .val (.ref b17), .unset, .unset] []))
    refine own_go (fun _ k => XS.iload X18.here hx rfl (hb hby at_29) rfl k) ?_
    show own_R _ _ _ _ (T18.setTop (mkF m 31 #[.val (.int p1), .val (.int q2), .val (.int q3), .val (.int q4), .val (.int q5), .val (.int q6), .val (.int (0 : Int32)), .val (.ref b17), .unset, .unset] [(.int (0 : Int32))]))
    refine own_go (fun _ k => XS.iconst X18.here hx rfl (hb hby at_31) k) ?_
    show own_R _ _ _ _ (T18.setTop (mkF m 32 #[.val (.int p1), .val (.int q2), .val (.int q3), .val (.int q4), .val (.int q5), .val (.int q6), .val (.int (0 : Int32)), .val (.ref b17), .unset, .unset] [(.int (1 : Int32)), (.int (0 : Int32))]))
    refine own_go (fun _ k => XS.icmpYes X18.here hx rfl (pc0 := 32) (pc' := 41) rfl (hb hby at_32) rfl (flt (by decide : ¬ ((1 : Int32) < (0 : Int32)))).2.2.2 (by decide) (by decide) k) ?_
    show own_R _ _ _ _ (T18.setTop (mkF m 41 #[.val (.int p1), .val (.int q2), .val (.int q3), .val (.int q4), .val (.int q5), .val (.int q6), .val (.int (0 : Int32)), .val (.ref b17), .unset, .unset] []))
    refine own_go (fun _ k => XS.iload X18.here hx rfl (hb hby at_41) rfl k) ?_
    show own_R _ _ _ _ (T18.setTop (mkF m 43 #[.val (.int p1), .val (.int q2), .val (.int q3), .val (.int q4), .val (.int q5), .val (.int q6), .val (.int (0 : Int32)), .val (.ref b17), .unset, .unset] [(.int (0 : Int32))]))
    refine own_go (fun _ k => XS.iconst X18.here hx rfl (hb hby at_43) k) ?_
    show own_R _ _ _ _ (T18.setTop (mkF m 44 #[.val (.int p1), .val (.int q2), .val (.int q3), .val (.int q4), .val (.int q5), .val (.int q6), .val (.int (0 : Int32)), .val (.ref b17), .unset, .unset] [(.int (2 : Int32)), (.int (0 : Int32))]))
    refine own_go (fun _ k => XS.icmpYes X18.here hx rfl (pc0 := 44) (pc' := 53) rfl (hb hby at_44) rfl (flt (by decide : ¬ ((2 : Int32) < (0 : Int32)))).2.2.2 (by decide) (by decide) k) ?_
    show own_R _ _ _ _ (T18.setTop (mkF m 53 #[.val (.int p1), .val (.int q2), .val (.int q3), .val (.int q4), .val (.int q5), .val (.int q6), .val (.int (0 : Int32)), .val (.ref b17), .unset, .unset] []))
    refine own_go (fun _ k => XS.iload X18.here hx rfl (hb hby at_53) rfl k) ?_
    show own_R _ _ _ _ (T18.setTop (mkF m 55 #[.val (.int p1), .val (.int q2), .val (.int q3), .val (.int q4), .val (.int q5), .val (.int q6), .val (.int (0 : Int32)), .val (.ref b17), .unset, .unset] [(.int (0 : Int32))]))
    refine own_go (fun _ k => XS.iconst X18.here hx rfl (hb hby at_55) k) ?_
    show own_R _ _ _ _ (T18.setTop (mkF m 56 #[.val (.int p1), .val (.int q2), .val (.int q3), .val (.int q4), .val (.int q5), .val (.int q6), .val (.int (0 : Int32)), .val (.ref b17), .unset, .unset] [(.int (3 : Int32)), (.int (0 : Int32))]))
    refine own_go (fun _ k => XS.icmpYes X18.here hx rfl (pc0 := 56) (pc' := 66) rfl (hb hby at_56) rfl (flt (by decide : ¬ ((3 : Int32) < (0 : Int32)))).2.2.2 (by decide) (by decide) k) ?_
    show own_R _ _ _ _ (T18.setTop (mkF m 66 #[.val (.int p1), .val (.int q2), .val (.int q3), .val (.int q4), .val (.int q5), .val (.int q6), .val (.int (0 : Int32)), .val (.ref b17), .unset, .unset] []))
    refine own_go (fun _ k => XS.iload X18.here hx rfl (hb hby at_66) rfl k) ?_
    show own_R _ _ _ _ (T18.setTop (mkF m 68 #[.val (.int p1), .val (.int q2), .val (.int q3), .val (.int q4), .val (.int q5), .val (.int q6), .val (.int (0 : Int32)), .val (.ref b17), .unset, .unset] [(.int (0 : Int32))]))
    refine own_go (fun _ k => XS.iconst X18.here hx rfl (hb hby at_68) k) ?_
    show own_R _ _ _ _ (T18.setTop (mkF m 69 #[.val (.int p1), .val (.int q2), .val (.int q3), .val (.int q4), .val (.int q5), .val (.int q6), .val (.int (0 : Int32)), .val (.ref b17), .unset, .unset] [(.int (4 : Int32)), (.int (0 : Int32))]))
    refine own_go (fun _ k => XS.icmpYes X18.here hx rfl (pc0 := 69) (pc' := 79) rfl (hb hby at_69) rfl (flt (by decide : ¬ ((4 : Int32) < (0 : Int32)))).2.2.2 (by decide) (by decide) k) ?_
    show own_R _ _ _ _ (T18.setTop (mkF m 79 #[.val (.int p1), .val (.int q2), .val (.int q3), .val (.int q4), .val (.int q5), .val (.int q6), .val (.int (0 : Int32)), .val (.ref b17), .unset, .unset] []))
    refine own_go (fun _ k => XS.aload X18.here hx rfl (hb hby at_79) rfl rfl k) ?_
    show own_R _ _ _ _ (T18.setTop (mkF m 81 #[.val (.int p1), .val (.int q2), .val (.int q3), .val (.int q4), .val (.int q5), .val (.int q6), .val (.int (0 : Int32)), .val (.ref b17), .unset, .unset] [(.ref b17)]))
    obtain ⟨cq19, kq19, q19a, q19b, q19c⟩ := isOf hZ e18 E_b17
    obtain ⟨_, _, ⟨T19, L19, k19, n19⟩, -, X19, ⟨Lc19, hQ19, l19, y19, z19⟩, st19⟩ := X18.virtualBack hx (y := (⟨"com/example/austere_nets/austerenets/minimize/IntList", "toArray", "()[I"⟩ : MethodName)) (z := (⟨"com/example/austere_nets/austerenets/minimize/IntList", "toArray", "()[I"⟩ : MethodName)) hown (mvT hZ (hw _ (List.mem_of_getElem? (i := 13) rfl))) (mvT hZ (hw _ (List.mem_of_getElem? (i := 14) rfl))) (notFace_of_selects (args := #[]) (mvT hZ (hw _ (List.mem_of_getElem? (i := 16) rfl)))) (mvT hZ (hw _ (List.mem_of_getElem? (i := 16) rfl))) (mvT hZ (hw _ (List.mem_of_getElem? (i := 15) rfl))) (by decide) (backOf (W := 0) (rm3 l Z a0 hw [] b17 c19 kc19 (0 : Int32) [(.int (0 : Int32)), (.int (0 : Int32)), (.int (0 : Int32)), (.int (0 : Int32)), (.int (0 : Int32)), (.int (0 : Int32)), (.int (0 : Int32)), (.int (0 : Int32)), (.int (0 : Int32)), (.int (0 : Int32)), (.int (0 : Int32)), (.int (0 : Int32)), (.int (0 : Int32)), (.int (0 : Int32)), (.int (0 : Int32)), (.int (0 : Int32))] h18 n0 ZS F_values_b17 F_size_b17 V_c19 (by decide) (by decide) (by decide)) hZ (hw _ (List.mem_of_getElem? (i := 17) rfl)) (hw _ (List.mem_of_getElem? (i := 3) rfl)) (by decide) (by decide)) q19a q19c (g := (mkF m 81 #[.val (.int p1), .val (.int q2), .val (.int q3), .val (.int q4), .val (.int q5), .val (.int q6), .val (.int (0 : Int32)), .val (.ref b17), .unset, .unset] [(.ref b17)])) rfl (by rw [hml]; rfl) (Steps.refl _) (argsL := []) (rest := []) (lenOf pd_3 rfl) rfl (by show 2 * 0 + _ ≤ _; exact Nat.le_of_eq rfl) (hb hby at_81) (fun _ _ => ⟨rfl, e18, (by decide : 2 + 1 ≤ _), (by decide : 18 + 16 ≤ _)⟩)
    dsimp only [Pt.U, Pt.locs, Pt.cells, Pt.slots] at X19 l19 y19 z19 st19 hQ19
    subst l19 y19 z19
    obtain ⟨h19, e19'⟩ : ∃ z, z = T19.heap := ⟨_, rfl⟩
    rw [← e19'] at hQ19
    have e19 : T19.heap = h19 := e19'.symm
    obtain ⟨c20, rfl, N19q, K19, hbc20, kc20, Vc20'⟩ := hQ19
    have NF := Fr.app NF N19q
    refine own_go (fun _ k => st19.trans k) ?_
    have ne_b17_c20 : b17 ≠ c20 := Nat.ne_of_lt (Nat.lt_of_lt_of_le E_b17.lt hbc20)
    have ne_c19_c20 : c19 ≠ c20 := Nat.ne_of_lt (Nat.lt_of_lt_of_le V_c19.lt hbc20)
    have g_c20 : n0 ≤ c20 := Nat.le_trans ZS hbc20
    have sz_c20 : h0.size ≤ c20 := Nat.le_trans KP.1 hbc20
    have E_b17 := E_b17.keep K19
    have F_size_b17 := F_size_b17.keep K19 nin0
    have F_values_b17 := F_values_b17.keep K19 nin0
    have V_c19 := V_c19.keep K19 nin0
    have ZS := Nat.le_trans ZS K19.1
    have KP := KP.trans K19 all0
    have V_c20 : Arv Z h19 c20 kc20 .int (0 : Int32) [] (.int (0 : Int32)) := Vc20'
    show own_R _ _ _ _ (T19.setTop (mkF m 84 #[.val (.int p1), .val (.int q2), .val (.int q3), .val (.int q4), .val (.int q5), .val (.int q6), .val (.int (0 : Int32)), .val (.ref b17), .unset, .unset] [(.ref c20)]))
    refine own_go (fun _ k => XS.astore X19.here hx rfl (hb hby at_84) rfl rfl (l' := #[.val (.int p1), .val (.int q2), .val (.int q3), .val (.int q4), .val (.int q5), .val (.int q6), .val (.int (0 : Int32)), .val (.ref b17), .val (.ref c20), .unset]) rfl k) ?_
    show own_R _ _ _ _ (T19.setTop (mkF m 86 #[.val (.int p1), .val (.int q2), .val (.int q3), .val (.int q4), .val (.int q5), .val (.int q6), .val (.int (0 : Int32)), .val (.ref b17), .val (.ref c20), .unset] []))
    refine own_go (fun _ k => XS.aload X19.here hx rfl (hb hby at_86) rfl rfl k) ?_
    show own_R _ _ _ _ (T19.setTop (mkF m 88 #[.val (.int p1), .val (.int q2), .val (.int q3), .val (.int q4), .val (.int q5), .val (.int q6), .val (.int (0 : Int32)), .val (.ref b17), .val (.ref c20), .unset] [(.ref c20)]))
    refine own_go (fun _ k => XS.iload X19.here hx rfl (hb hby at_88) rfl k) ?_
    show own_R _ _ _ _ (T19.setTop (mkF m 90 #[.val (.int p1), .val (.int q2), .val (.int q3), .val (.int q4), .val (.int q5), .val (.int q6), .val (.int (0 : Int32)), .val (.ref b17), .val (.ref c20), .unset] [(.int (0 : Int32)), (.ref c20)]))
    refine own_go (fun _ k => XS.iloadN X19.here hx rfl (hb hby at_90) rfl k) ?_
    show own_R _ _ _ _ (T19.setTop (mkF m 91 #[.val (.int p1), .val (.int q2), .val (.int q3), .val (.int q4), .val (.int q5), .val (.int q6), .val (.int (0 : Int32)), .val (.ref b17), .val (.ref c20), .unset] [(.int q2), (.int (0 : Int32)), (.ref c20)]))
    refine own_go (fun _ k => XS.iloadN X19.here hx rfl (hb hby at_91) rfl k) ?_
    show own_R _ _ _ _ (T19.setTop (mkF m 92 #[.val (.int p1), .val (.int q2), .val (.int q3), .val (.int q4), .val (.int q5), .val (.int q6), .val (.int (0 : Int32)), .val (.ref b17), .val (.ref c20), .unset] [(.int q3), (.int q2), (.int (0 : Int32)), (.ref c20)]))
    refine own_go (fun _ k => XS.iloadN X19.here hx rfl (hb hby at_92) rfl k) ?_
    show own_R _ _ _ _ (T19.setTop (mkF m 93 #[.val (.int p1), .val (.int q2), .val (.int q3), .val (.int q4), .val (.int q5), .val (.int q6), .val (.int (0 : Int32)), .val (.ref b17), .val (.ref c20), .unset] [(.int q4), (.int q3), (.int q2), (.int (0 : Int32)), (.ref c20)]))
    refine own_go (fun _ k => XS.iload X19.here hx rfl (hb hby at_93) rfl k) ?_
    show own_R _ _ _ _ (T19.setTop (mkF m 95 #[.val (.int p1), .val (.int q2), .val (.int q3), .val (.int q4), .val (.int q5), .val (.int q6), .val (.int (0 : Int32)), .val (.ref b17), .val (.ref c20), .unset] [(.int q5), (.int q4), (.int q3), (.int q2), (.int (0 : Int32)), (.ref c20)]))
    refine own_go (fun _ k => XS.iload X19.here hx rfl (hb hby at_95) rfl k) ?_
    show own_R _ _ _ _ (T19.setTop (mkF m 97 #[.val (.int p1), .val (.int q2), .val (.int q3), .val (.int q4), .val (.int q5), .val (.int q6), .val (.int (0 : Int32)), .val (.ref b17), .val (.ref c20), .unset] [(.int q6), (.int q5), (.int q4), (.int q3), (.int q2), (.int (0 : Int32)), (.ref c20)]))
    obtain ⟨_, _, ⟨T20, L20, k20, n20⟩, -, X20, ⟨Lc20, hQ20, l20, y20, z20⟩, st20⟩ := Jvm.LawKit.callS X19 hx (y := (⟨"com/example/austere_nets/austerenets/minimize/IntListToArrayPinLaw", "matches", "([IIIIIII)Z"⟩ : MethodName)) hown (mvT hZ (hw _ (List.mem_of_getElem? (i := 32) rfl))) (mvT hZ (hw _ (List.mem_of_getElem? (i := 33) rfl))) (mvT hZ (hw _ (List.mem_of_getElem? (i := 34) rfl))) (mvT hZ (hw _ (List.mem_of_getElem? (i := 35) rfl))) (by decide) (backOf (W := 0) (rm6_0 l Z a0 hw [] c20 q2 q3 q4 q5 q6 kc20 h19 n0 ZS V_c20) hZ (hw _ (List.mem_of_getElem? (i := 35) rfl)) (hw _ (List.mem_of_getElem? (i := 34) rfl)) (by decide) (by decide)) (g := (mkF m 97 #[.val (.int p1), .val (.int q2), .val (.int q3), .val (.int q4), .val (.int q5), .val (.int q6), .val (.int (0 : Int32)), .val (.ref b17), .val (.ref c20), .unset] [(.int q6), (.int q5), (.int q4), (.int q3), (.int q2), (.int (0 : Int32)), (.ref c20)])) rfl (by rw [hml]; rfl) (argsL := [(.ref c20), (.int (0 : Int32)), (.int q2), (.int q3), (.int q4), (.int q5), (.int q6)]) (rest := []) (lenOf pd_4 rfl) rfl (by show 2 * 0 + _ ≤ _; exact Nat.le_of_eq rfl) (hb hby at_97) (fun _ _ => ⟨rfl, e19, (by decide : 3 + 0 ≤ _), (by decide : 34 + 0 ≤ _)⟩)
    dsimp only [Pt.U, Pt.locs, Pt.cells, Pt.slots] at X20 l20 y20 z20 st20 hQ20
    subst l20 y20 z20
    obtain ⟨rfl, N20q, e20⟩ := hQ20
    have NF := Fr.app NF N20q
    refine own_go st20 ?_
    show own_R _ _ _ _ (T20.setTop (mkF m 100 #[.val (.int p1), .val (.int q2), .val (.int q3), .val (.int q4), .val (.int q5), .val (.int q6), .val (.int (0 : Int32)), .val (.ref b17), .val (.ref c20), .unset] [(.int (1 : Int32))]))
    refine own_go (fun _ k => XS.ifYes X20.here hx rfl (pc0 := 100) (pc' := 105) rfl (hb hby at_100) rfl ((if0 _ _).trans (feq (by decide : ¬ ((1 : Int32) = (0 : Int32)))).2) (by decide) (by decide) k) ?_
    show own_R _ _ _ _ (T20.setTop (mkF m 105 #[.val (.int p1), .val (.int q2), .val (.int q3), .val (.int q4), .val (.int q5), .val (.int q6), .val (.int (0 : Int32)), .val (.ref b17), .val (.ref c20), .unset] []))
    refine own_go (fun _ k => XS.iload X20.here hx rfl (hb hby at_105) rfl k) ?_
    show own_R _ _ _ _ (T20.setTop (mkF m 107 #[.val (.int p1), .val (.int q2), .val (.int q3), .val (.int q4), .val (.int q5), .val (.int q6), .val (.int (0 : Int32)), .val (.ref b17), .val (.ref c20), .unset] [(.int (0 : Int32))]))
    refine own_go (fun _ k => XS.ifYes X20.here hx rfl (pc0 := 107) (pc' := 120) rfl (hb hby at_107) rfl ((if0 _ _).trans (flt (by decide : ¬ ((0 : Int32) < (0 : Int32)))).2.2.2) (by decide) (by decide) k) ?_
    show own_R _ _ _ _ (T20.setTop (mkF m 120 #[.val (.int p1), .val (.int q2), .val (.int q3), .val (.int q4), .val (.int q5), .val (.int q6), .val (.int (0 : Int32)), .val (.ref b17), .val (.ref c20), .unset] []))
    refine own_go (fun _ k => XS.aload X20.here hx rfl (hb hby at_120) rfl rfl k) ?_
    show own_R _ _ _ _ (T20.setTop (mkF m 122 #[.val (.int p1), .val (.int q2), .val (.int q3), .val (.int q4), .val (.int q5), .val (.int q6), .val (.int (0 : Int32)), .val (.ref b17), .val (.ref c20), .unset] [(.ref b17)]))
    obtain ⟨cq21, kq21, q21a, q21b, q21c⟩ := isOf hZ e20 E_b17
    obtain ⟨_, _, ⟨T21, L21, k21, n21⟩, -, X21, ⟨Lc21, hQ21, l21, y21, z21⟩, st21⟩ := X20.virtualBack hx (y := (⟨"com/example/austere_nets/austerenets/minimize/IntList", "toArray", "()[I"⟩ : MethodName)) (z := (⟨"com/example/austere_nets/austerenets/minimize/IntList", "toArray", "()[I"⟩ : MethodName)) hown (mvT hZ (hw _ (List.mem_of_getElem? (i := 13) rfl))) (mvT hZ (hw _ (List.mem_of_getElem? (i := 14) rfl))) (notFace_of_selects (args := #[]) (mvT hZ (hw _ (List.mem_of_getElem? (i := 16) rfl)))) (mvT hZ (hw _ (List.mem_of_getElem? (i := 16) rfl))) (mvT hZ (hw _ (List.mem_of_getElem? (i := 15) rfl))) (by decide) (backOf (W := 0) (rm3 l Z a0 hw [] b17 c19 kc19 (0 : Int32) [(.int (0 : Int32)), (.int (0 : Int32)), (.int (0 : Int32)), (.int (0 : Int32)), (.int (0 : Int32)), (.int (0 : Int32)), (.int (0 : Int32)), (.int (0 : Int32)), (.int (0 : Int32)), (.int (0 : Int32)), (.int (0 : Int32)), (.int (0 : Int32)), (.int (0 : Int32)), (.int (0 : Int32)), (.int (0 : Int32)), (.int (0 : Int32))] h19 n0 ZS F_values_b17 F_size_b17 V_c19 (by decide) (by decide) (by decide)) hZ (hw _ (List.mem_of_getElem? (i := 17) rfl)) (hw _ (List.mem_of_getElem? (i := 3) rfl)) (by decide) (by decide)) q21a q21c (g := (mkF m 122 #[.val (.int p1), .val (.int q2), .val (.int q3), .val (.int q4), .val (.int q5), .val (.int q6), .val (.int (0 : Int32)), .val (.ref b17), .val (.ref c20), .unset] [(.ref b17)])) rfl (by rw [hml]; rfl) (Steps.refl _) (argsL := []) (rest := []) (lenOf pd_3 rfl) rfl (by show 2 * 0 + _ ≤ _; exact Nat.le_of_eq rfl) (hb hby at_122) (fun _ _ => ⟨rfl, e20, (by decide : 3 + 1 ≤ _), (by decide : 34 + 16 ≤ _)⟩)
    dsimp only [Pt.U, Pt.locs, Pt.cells, Pt.slots] at X21 l21 y21 z21 st21 hQ21
    subst l21 y21 z21
    obtain ⟨h21, e21'⟩ : ∃ z, z = T21.heap := ⟨_, rfl⟩
    rw [← e21'] at hQ21
    have e21 : T21.heap = h21 := e21'.symm
    obtain ⟨c22, rfl, N21q, K21, hbc22, kc22, Vc22'⟩ := hQ21
    have NF := Fr.app NF N21q
    refine own_go (fun _ k => st21.trans k) ?_
    have ne_b17_c22 : b17 ≠ c22 := Nat.ne_of_lt (Nat.lt_of_lt_of_le E_b17.lt hbc22)
    have ne_c19_c22 : c19 ≠ c22 := Nat.ne_of_lt (Nat.lt_of_lt_of_le V_c19.lt hbc22)
    have ne_c20_c22 : c20 ≠ c22 := Nat.ne_of_lt (Nat.lt_of_lt_of_le V_c20.lt hbc22)
    have g_c22 : n0 ≤ c22 := Nat.le_trans ZS hbc22
    have sz_c22 : h0.size ≤ c22 := Nat.le_trans KP.1 hbc22
    have E_b17 := E_b17.keep K21
    have F_size_b17 := F_size_b17.keep K21 nin0
    have F_values_b17 := F_values_b17.keep K21 nin0
    have V_c19 := V_c19.keep K21 nin0
    have V_c20 := V_c20.keep K21 nin0
    have ZS := Nat.le_trans ZS K21.1
    have KP := KP.trans K21 all0
    have V_c22 : Arv Z h21 c22 kc22 .int (0 : Int32) [] (.int (0 : Int32)) := Vc22'
    show own_R _ _ _ _ (T21.setTop (mkF m 125 #[.val (.int p1), .val (.int q2), .val (.int q3), .val (.int q4), .val (.int q5), .val (.int q6), .val (.int (0 : Int32)), .val (.ref b17), .val (.ref c20), .unset] [(.ref c22)]))
    refine own_go (fun _ k => XS.astore X21.here hx rfl (hb hby at_125) rfl rfl (l' := #[.val (.int p1), .val (.int q2), .val (.int q3), .val (.int q4), .val (.int q5), .val (.int q6), .val (.int (0 : Int32)), .val (.ref b17), .val (.ref c20), .val (.ref c22)]) rfl k) ?_
    show own_R _ _ _ _ (T21.setTop (mkF m 127 #[.val (.int p1), .val (.int q2), .val (.int q3), .val (.int q4), .val (.int q5), .val (.int q6), .val (.int (0 : Int32)), .val (.ref b17), .val (.ref c20), .val (.ref c22)] []))
    refine own_go (fun _ k => XS.aload X21.here hx rfl (hb hby at_127) rfl rfl k) ?_
    show own_R _ _ _ _ (T21.setTop (mkF m 129 #[.val (.int p1), .val (.int q2), .val (.int q3), .val (.int q4), .val (.int q5), .val (.int q6), .val (.int (0 : Int32)), .val (.ref b17), .val (.ref c20), .val (.ref c22)] [(.ref c22)]))
    refine own_go (fun _ k => XS.aload X21.here hx rfl (hb hby at_129) rfl rfl k) ?_
    show own_R _ _ _ _ (T21.setTop (mkF m 131 #[.val (.int p1), .val (.int q2), .val (.int q3), .val (.int q4), .val (.int q5), .val (.int q6), .val (.int (0 : Int32)), .val (.ref b17), .val (.ref c20), .val (.ref c22)] [(.ref c20), (.ref c22)]))
    refine own_go (fun _ k => Jvm.RoadKit.acmp (g := (mkF m 131 #[.val (.int p1), .val (.int q2), .val (.int q3), .val (.int q4), .val (.int q5), .val (.int q6), .val (.int (0 : Int32)), .val (.ref b17), .val (.ref c20), .val (.ref c22)] [(.ref c20), (.ref c22)])) X21 hx rfl rfl rfl (pc0 := 131) (pc' := 136) (same := false) rfl (hb hby at_131) rfl (decide_eq_false fun q => (Ne.symm ne_c20_c22) (Value.ref.inj q)) (by decide) (by decide) k) ?_
    show own_R _ _ _ _ (T21.setTop (mkF m 136 #[.val (.int p1), .val (.int q2), .val (.int q3), .val (.int q4), .val (.int q5), .val (.int q6), .val (.int (0 : Int32)), .val (.ref b17), .val (.ref c20), .val (.ref c22)] []))
    refine own_go (fun _ k => XS.aload X21.here hx rfl (hb hby at_136) rfl rfl k) ?_
    show own_R _ _ _ _ (T21.setTop (mkF m 138 #[.val (.int p1), .val (.int q2), .val (.int q3), .val (.int q4), .val (.int q5), .val (.int q6), .val (.int (0 : Int32)), .val (.ref b17), .val (.ref c20), .val (.ref c22)] [(.ref c22)]))
    refine own_go (fun _ k => XS.iload X21.here hx rfl (hb hby at_138) rfl k) ?_
    show own_R _ _ _ _ (T21.setTop (mkF m 140 #[.val (.int p1), .val (.int q2), .val (.int q3), .val (.int q4), .val (.int q5), .val (.int q6), .val (.int (0 : Int32)), .val (.ref b17), .val (.ref c20), .val (.ref c22)] [(.int (0 : Int32)), (.ref c22)]))
    refine own_go (fun _ k => XS.iloadN X21.here hx rfl (hb hby at_140) rfl k) ?_
    show own_R _ _ _ _ (T21.setTop (mkF m 141 #[.val (.int p1), .val (.int q2), .val (.int q3), .val (.int q4), .val (.int q5), .val (.int q6), .val (.int (0 : Int32)), .val (.ref b17), .val (.ref c20), .val (.ref c22)] [(.int q2), (.int (0 : Int32)), (.ref c22)]))
    refine own_go (fun _ k => XS.iloadN X21.here hx rfl (hb hby at_141) rfl k) ?_
    show own_R _ _ _ _ (T21.setTop (mkF m 142 #[.val (.int p1), .val (.int q2), .val (.int q3), .val (.int q4), .val (.int q5), .val (.int q6), .val (.int (0 : Int32)), .val (.ref b17), .val (.ref c20), .val (.ref c22)] [(.int q3), (.int q2), (.int (0 : Int32)), (.ref c22)]))
    refine own_go (fun _ k => XS.iloadN X21.here hx rfl (hb hby at_142) rfl k) ?_
    show own_R _ _ _ _ (T21.setTop (mkF m 143 #[.val (.int p1), .val (.int q2), .val (.int q3), .val (.int q4), .val (.int q5), .val (.int q6), .val (.int (0 : Int32)), .val (.ref b17), .val (.ref c20), .val (.ref c22)] [(.int q4), (.int q3), (.int q2), (.int (0 : Int32)), (.ref c22)]))
    refine own_go (fun _ k => XS.iload X21.here hx rfl (hb hby at_143) rfl k) ?_
    show own_R _ _ _ _ (T21.setTop (mkF m 145 #[.val (.int p1), .val (.int q2), .val (.int q3), .val (.int q4), .val (.int q5), .val (.int q6), .val (.int (0 : Int32)), .val (.ref b17), .val (.ref c20), .val (.ref c22)] [(.int q5), (.int q4), (.int q3), (.int q2), (.int (0 : Int32)), (.ref c22)]))
    refine own_go (fun _ k => XS.iload X21.here hx rfl (hb hby at_145) rfl k) ?_
    show own_R _ _ _ _ (T21.setTop (mkF m 147 #[.val (.int p1), .val (.int q2), .val (.int q3), .val (.int q4), .val (.int q5), .val (.int q6), .val (.int (0 : Int32)), .val (.ref b17), .val (.ref c20), .val (.ref c22)] [(.int q6), (.int q5), (.int q4), (.int q3), (.int q2), (.int (0 : Int32)), (.ref c22)]))
    obtain ⟨_, _, ⟨T22, L22, k22, n22⟩, -, X22, ⟨Lc22, hQ22, l22, y22, z22⟩, st22⟩ := Jvm.LawKit.callS X21 hx (y := (⟨"com/example/austere_nets/austerenets/minimize/IntListToArrayPinLaw", "matches", "([IIIIIII)Z"⟩ : MethodName)) hown (mvT hZ (hw _ (List.mem_of_getElem? (i := 32) rfl))) (mvT hZ (hw _ (List.mem_of_getElem? (i := 33) rfl))) (mvT hZ (hw _ (List.mem_of_getElem? (i := 34) rfl))) (mvT hZ (hw _ (List.mem_of_getElem? (i := 35) rfl))) (by decide) (backOf (W := 0) (rm6_0 l Z a0 hw [] c22 q2 q3 q4 q5 q6 kc22 h21 n0 ZS V_c22) hZ (hw _ (List.mem_of_getElem? (i := 35) rfl)) (hw _ (List.mem_of_getElem? (i := 34) rfl)) (by decide) (by decide)) (g := (mkF m 147 #[.val (.int p1), .val (.int q2), .val (.int q3), .val (.int q4), .val (.int q5), .val (.int q6), .val (.int (0 : Int32)), .val (.ref b17), .val (.ref c20), .val (.ref c22)] [(.int q6), (.int q5), (.int q4), (.int q3), (.int q2), (.int (0 : Int32)), (.ref c22)])) rfl (by rw [hml]; rfl) (argsL := [(.ref c22), (.int (0 : Int32)), (.int q2), (.int q3), (.int q4), (.int q5), (.int q6)]) (rest := []) (lenOf pd_4 rfl) rfl (by show 2 * 0 + _ ≤ _; exact Nat.le_of_eq rfl) (hb hby at_147) (fun _ _ => ⟨rfl, e21, (by decide : 4 + 0 ≤ _), (by decide : 50 + 0 ≤ _)⟩)
    dsimp only [Pt.U, Pt.locs, Pt.cells, Pt.slots] at X22 l22 y22 z22 st22 hQ22
    subst l22 y22 z22
    obtain ⟨rfl, N22q, e22⟩ := hQ22
    have NF := Fr.app NF N22q
    refine own_go st22 ?_
    show own_R _ _ _ _ (T22.setTop (mkF m 150 #[.val (.int p1), .val (.int q2), .val (.int q3), .val (.int q4), .val (.int q5), .val (.int q6), .val (.int (0 : Int32)), .val (.ref b17), .val (.ref c20), .val (.ref c22)] [(.int (1 : Int32))]))
    exact own_retN X22 hx (t := .boolean) (by simp) Bd.returns (hb hby at_150) hlk ⟨rfl, NF⟩ (by decide) (by decide)
  · show own_R _ _ _ _ (T18.setTop (mkF m 18 #[.val (.int p1), .val (.int q2), .val (.int q3), .val (.int q4), .val (.int q5), .val (.int q6), .val (.int (1 : Int32)), .val (.ref b17), .unset, .unset] []))
    refine own_go (fun _ k => XS.iload X18.here hx rfl (hb hby at_18) rfl k) ?_
    show own_R _ _ _ _ (T18.setTop (mkF m 20 #[.val (.int p1), .val (.int q2), .val (.int q3), .val (.int q4), .val (.int q5), .val (.int q6), .val (.int (1 : Int32)), .val (.ref b17), .unset, .unset] [(.int (1 : Int32))]))
    refine own_go (fun _ k => XS.ifNo X18.here hx rfl (hb hby at_20) rfl ((if0 _ _).trans (tlt (by decide : (0 : Int32) < (1 : Int32))).2.2.2) k) ?_
    show own_R _ _ _ _ (T18.setTop (mkF m 23 #[.val (.int p1), .val (.int q2), .val (.int q3), .val (.int q4), .val (.int q5), .val (.int q6), .val (.int (1 : Int32)), .val (.ref b17), .unset, .unset] []))
    refine own_go (fun _ k => XS.aload X18.here hx rfl (hb hby at_23) rfl rfl k) ?_
    show own_R _ _ _ _ (T18.setTop (mkF m 25 #[.val (.int p1), .val (.int q2), .val (.int q3), .val (.int q4), .val (.int q5), .val (.int q6), .val (.int (1 : Int32)), .val (.ref b17), .unset, .unset] [(.ref b17)]))
    refine own_go (fun _ k => XS.iloadN X18.here hx rfl (hb hby at_25) rfl k) ?_
    show own_R _ _ _ _ (T18.setTop (mkF m 26 #[.val (.int p1), .val (.int q2), .val (.int q3), .val (.int q4), .val (.int q5), .val (.int q6), .val (.int (1 : Int32)), .val (.ref b17), .unset, .unset] [(.int q2), (.ref b17)]))
    obtain ⟨cq23, kq23, q23a, q23b, q23c⟩ := isOf hZ e18 E_b17
    obtain ⟨_, _, ⟨T23, L23, k23, n23⟩, -, X23, ⟨Lc23, hQ23, l23, y23, z23⟩, st23⟩ := X18.virtualBack hx (y := (⟨"com/example/austere_nets/austerenets/minimize/IntList", "add", "(I)V"⟩ : MethodName)) (z := (⟨"com/example/austere_nets/austerenets/minimize/IntList", "add", "(I)V"⟩ : MethodName)) hown (mvT hZ (hw _ (List.mem_of_getElem? (i := 36) rfl))) (mvT hZ (hw _ (List.mem_of_getElem? (i := 37) rfl))) (notFace_of_selects (args := #[]) (mvT hZ (hw _ (List.mem_of_getElem? (i := 39) rfl)))) (mvT hZ (hw _ (List.mem_of_getElem? (i := 39) rfl))) (mvT hZ (hw _ (List.mem_of_getElem? (i := 38) rfl))) (by decide) (backOf (W := 0) (rm7 l Z a0 hw [] b17 q2 c19 kc19 (0 : Int32) 0 [(.int (0 : Int32)), (.int (0 : Int32)), (.int (0 : Int32)), (.int (0 : Int32)), (.int (0 : Int32)), (.int (0 : Int32)), (.int (0 : Int32)), (.int (0 : Int32)), (.int (0 : Int32)), (.int (0 : Int32)), (.int (0 : Int32)), (.int (0 : Int32)), (.int (0 : Int32)), (.int (0 : Int32)), (.int (0 : Int32)), (.int (0 : Int32))] h18 n0 ZS E_b17 F_values_b17 F_size_b17 g_b17 V_c19 g_c19 ne_b17_c19 ⟨by decide, by decide⟩ rfl (Nat.le_of_ble_eq_true rfl)) hZ (hw _ (List.mem_of_getElem? (i := 40) rfl)) (hw _ (List.mem_of_getElem? (i := 3) rfl)) (by decide) (by decide)) q23a q23c (g := (mkF m 26 #[.val (.int p1), .val (.int q2), .val (.int q3), .val (.int q4), .val (.int q5), .val (.int q6), .val (.int (1 : Int32)), .val (.ref b17), .unset, .unset] [(.int q2), (.ref b17)])) rfl (by rw [hml]; rfl) (Steps.refl _) (argsL := [(.int q2)]) (rest := []) (lenOf pd_5 rfl) rfl (by show 2 * 0 + _ ≤ _; exact Nat.le_of_eq rfl) (hb hby at_26) (fun _ _ => ⟨rfl, e18, (by decide : 2 + 0 ≤ _), (by decide : 18 + 0 ≤ _)⟩)
    dsimp only [Pt.U, Pt.locs, Pt.cells, Pt.slots] at X23 l23 y23 z23 st23 hQ23
    subst l23 y23 z23
    obtain ⟨h23, e23'⟩ : ∃ z, z = T23.heap := ⟨_, rfl⟩
    rw [← e23'] at hQ23
    have e23 : T23.heap = h23 := e23'.symm
    obtain ⟨rfl, N23q, K23, pp1, pp2, pp3⟩ := hQ23
    have NF := Fr.app NF N23q
    refine own_go (fun _ k => st23.trans k) ?_
    have E_b17 := E_b17.keep K23
    have ZS := Nat.le_trans ZS K23.1
    have KP := KP.trans K23 (allS (Or.inr sz_b17) (allS (Or.inr sz_c19) all0))
    have F_size_b17 := pp1
    have F_values_b17 := pp2
    have V_c19 : Arv Z h23 c19 kc19 .int (16 : Int32) [(.int q2), (.int (0 : Int32)), (.int (0 : Int32)), (.int (0 : Int32)), (.int (0 : Int32)), (.int (0 : Int32)), (.int (0 : Int32)), (.int (0 : Int32)), (.int (0 : Int32)), (.int (0 : Int32)), (.int (0 : Int32)), (.int (0 : Int32)), (.int (0 : Int32)), (.int (0 : Int32)), (.int (0 : Int32)), (.int (0 : Int32))] (.int (0 : Int32)) := pp3
    show own_R _ _ _ _ (T23.setTop (mkF m 29 #[.val (.int p1), .val (.int q2), .val (.int q3), .val (.int q4), .val (.int q5), .val (.int q6), .val (.int (1 : Int32)), .val (.ref b17), .unset, .unset] []))
    refine own_go (fun _ k => XS.iload X23.here hx rfl (hb hby at_29) rfl k) ?_
    show own_R _ _ _ _ (T23.setTop (mkF m 31 #[.val (.int p1), .val (.int q2), .val (.int q3), .val (.int q4), .val (.int q5), .val (.int q6), .val (.int (1 : Int32)), .val (.ref b17), .unset, .unset] [(.int (1 : Int32))]))
    refine own_go (fun _ k => XS.iconst X23.here hx rfl (hb hby at_31) k) ?_
    show own_R _ _ _ _ (T23.setTop (mkF m 32 #[.val (.int p1), .val (.int q2), .val (.int q3), .val (.int q4), .val (.int q5), .val (.int q6), .val (.int (1 : Int32)), .val (.ref b17), .unset, .unset] [(.int (1 : Int32)), (.int (1 : Int32))]))
    refine own_go (fun _ k => XS.icmpYes X23.here hx rfl (pc0 := 32) (pc' := 41) rfl (hb hby at_32) rfl (flt (by decide : ¬ ((1 : Int32) < (1 : Int32)))).2.2.2 (by decide) (by decide) k) ?_
    show own_R _ _ _ _ (T23.setTop (mkF m 41 #[.val (.int p1), .val (.int q2), .val (.int q3), .val (.int q4), .val (.int q5), .val (.int q6), .val (.int (1 : Int32)), .val (.ref b17), .unset, .unset] []))
    refine own_go (fun _ k => XS.iload X23.here hx rfl (hb hby at_41) rfl k) ?_
    show own_R _ _ _ _ (T23.setTop (mkF m 43 #[.val (.int p1), .val (.int q2), .val (.int q3), .val (.int q4), .val (.int q5), .val (.int q6), .val (.int (1 : Int32)), .val (.ref b17), .unset, .unset] [(.int (1 : Int32))]))
    refine own_go (fun _ k => XS.iconst X23.here hx rfl (hb hby at_43) k) ?_
    show own_R _ _ _ _ (T23.setTop (mkF m 44 #[.val (.int p1), .val (.int q2), .val (.int q3), .val (.int q4), .val (.int q5), .val (.int q6), .val (.int (1 : Int32)), .val (.ref b17), .unset, .unset] [(.int (2 : Int32)), (.int (1 : Int32))]))
    refine own_go (fun _ k => XS.icmpYes X23.here hx rfl (pc0 := 44) (pc' := 53) rfl (hb hby at_44) rfl (flt (by decide : ¬ ((2 : Int32) < (1 : Int32)))).2.2.2 (by decide) (by decide) k) ?_
    show own_R _ _ _ _ (T23.setTop (mkF m 53 #[.val (.int p1), .val (.int q2), .val (.int q3), .val (.int q4), .val (.int q5), .val (.int q6), .val (.int (1 : Int32)), .val (.ref b17), .unset, .unset] []))
    refine own_go (fun _ k => XS.iload X23.here hx rfl (hb hby at_53) rfl k) ?_
    show own_R _ _ _ _ (T23.setTop (mkF m 55 #[.val (.int p1), .val (.int q2), .val (.int q3), .val (.int q4), .val (.int q5), .val (.int q6), .val (.int (1 : Int32)), .val (.ref b17), .unset, .unset] [(.int (1 : Int32))]))
    refine own_go (fun _ k => XS.iconst X23.here hx rfl (hb hby at_55) k) ?_
    show own_R _ _ _ _ (T23.setTop (mkF m 56 #[.val (.int p1), .val (.int q2), .val (.int q3), .val (.int q4), .val (.int q5), .val (.int q6), .val (.int (1 : Int32)), .val (.ref b17), .unset, .unset] [(.int (3 : Int32)), (.int (1 : Int32))]))
    refine own_go (fun _ k => XS.icmpYes X23.here hx rfl (pc0 := 56) (pc' := 66) rfl (hb hby at_56) rfl (flt (by decide : ¬ ((3 : Int32) < (1 : Int32)))).2.2.2 (by decide) (by decide) k) ?_
    show own_R _ _ _ _ (T23.setTop (mkF m 66 #[.val (.int p1), .val (.int q2), .val (.int q3), .val (.int q4), .val (.int q5), .val (.int q6), .val (.int (1 : Int32)), .val (.ref b17), .unset, .unset] []))
    refine own_go (fun _ k => XS.iload X23.here hx rfl (hb hby at_66) rfl k) ?_
    show own_R _ _ _ _ (T23.setTop (mkF m 68 #[.val (.int p1), .val (.int q2), .val (.int q3), .val (.int q4), .val (.int q5), .val (.int q6), .val (.int (1 : Int32)), .val (.ref b17), .unset, .unset] [(.int (1 : Int32))]))
    refine own_go (fun _ k => XS.iconst X23.here hx rfl (hb hby at_68) k) ?_
    show own_R _ _ _ _ (T23.setTop (mkF m 69 #[.val (.int p1), .val (.int q2), .val (.int q3), .val (.int q4), .val (.int q5), .val (.int q6), .val (.int (1 : Int32)), .val (.ref b17), .unset, .unset] [(.int (4 : Int32)), (.int (1 : Int32))]))
    refine own_go (fun _ k => XS.icmpYes X23.here hx rfl (pc0 := 69) (pc' := 79) rfl (hb hby at_69) rfl (flt (by decide : ¬ ((4 : Int32) < (1 : Int32)))).2.2.2 (by decide) (by decide) k) ?_
    show own_R _ _ _ _ (T23.setTop (mkF m 79 #[.val (.int p1), .val (.int q2), .val (.int q3), .val (.int q4), .val (.int q5), .val (.int q6), .val (.int (1 : Int32)), .val (.ref b17), .unset, .unset] []))
    refine own_go (fun _ k => XS.aload X23.here hx rfl (hb hby at_79) rfl rfl k) ?_
    show own_R _ _ _ _ (T23.setTop (mkF m 81 #[.val (.int p1), .val (.int q2), .val (.int q3), .val (.int q4), .val (.int q5), .val (.int q6), .val (.int (1 : Int32)), .val (.ref b17), .unset, .unset] [(.ref b17)]))
    obtain ⟨cq24, kq24, q24a, q24b, q24c⟩ := isOf hZ e23 E_b17
    obtain ⟨_, _, ⟨T24, L24, k24, n24⟩, -, X24, ⟨Lc24, hQ24, l24, y24, z24⟩, st24⟩ := X23.virtualBack hx (y := (⟨"com/example/austere_nets/austerenets/minimize/IntList", "toArray", "()[I"⟩ : MethodName)) (z := (⟨"com/example/austere_nets/austerenets/minimize/IntList", "toArray", "()[I"⟩ : MethodName)) hown (mvT hZ (hw _ (List.mem_of_getElem? (i := 13) rfl))) (mvT hZ (hw _ (List.mem_of_getElem? (i := 14) rfl))) (notFace_of_selects (args := #[]) (mvT hZ (hw _ (List.mem_of_getElem? (i := 16) rfl)))) (mvT hZ (hw _ (List.mem_of_getElem? (i := 16) rfl))) (mvT hZ (hw _ (List.mem_of_getElem? (i := 15) rfl))) (by decide) (backOf (W := 0) (rm3 l Z a0 hw [] b17 c19 kc19 (1 : Int32) [(.int q2), (.int (0 : Int32)), (.int (0 : Int32)), (.int (0 : Int32)), (.int (0 : Int32)), (.int (0 : Int32)), (.int (0 : Int32)), (.int (0 : Int32)), (.int (0 : Int32)), (.int (0 : Int32)), (.int (0 : Int32)), (.int (0 : Int32)), (.int (0 : Int32)), (.int (0 : Int32)), (.int (0 : Int32)), (.int (0 : Int32))] h23 n0 ZS F_values_b17 F_size_b17 V_c19 (by decide) (by decide) (by decide)) hZ (hw _ (List.mem_of_getElem? (i := 17) rfl)) (hw _ (List.mem_of_getElem? (i := 3) rfl)) (by decide) (by decide)) q24a q24c (g := (mkF m 81 #[.val (.int p1), .val (.int q2), .val (.int q3), .val (.int q4), .val (.int q5), .val (.int q6), .val (.int (1 : Int32)), .val (.ref b17), .unset, .unset] [(.ref b17)])) rfl (by rw [hml]; rfl) (Steps.refl _) (argsL := []) (rest := []) (lenOf pd_3 rfl) rfl (by show 2 * 0 + _ ≤ _; exact Nat.le_of_eq rfl) (hb hby at_81) (fun _ _ => ⟨rfl, e23, (by decide : 2 + 1 ≤ _), (by decide : 18 + 16 ≤ _)⟩)
    dsimp only [Pt.U, Pt.locs, Pt.cells, Pt.slots] at X24 l24 y24 z24 st24 hQ24
    subst l24 y24 z24
    obtain ⟨h24, e24'⟩ : ∃ z, z = T24.heap := ⟨_, rfl⟩
    rw [← e24'] at hQ24
    have e24 : T24.heap = h24 := e24'.symm
    obtain ⟨c25, rfl, N24q, K24, hbc25, kc25, Vc25'⟩ := hQ24
    have NF := Fr.app NF N24q
    refine own_go (fun _ k => st24.trans k) ?_
    have ne_b17_c25 : b17 ≠ c25 := Nat.ne_of_lt (Nat.lt_of_lt_of_le E_b17.lt hbc25)
    have ne_c19_c25 : c19 ≠ c25 := Nat.ne_of_lt (Nat.lt_of_lt_of_le V_c19.lt hbc25)
    have g_c25 : n0 ≤ c25 := Nat.le_trans ZS hbc25
    have sz_c25 : h0.size ≤ c25 := Nat.le_trans KP.1 hbc25
    have E_b17 := E_b17.keep K24
    have F_size_b17 := F_size_b17.keep K24 nin0
    have F_values_b17 := F_values_b17.keep K24 nin0
    have V_c19 := V_c19.keep K24 nin0
    have ZS := Nat.le_trans ZS K24.1
    have KP := KP.trans K24 all0
    have V_c25 : Arv Z h24 c25 kc25 .int (1 : Int32) [(.int q2)] (.int (0 : Int32)) := Vc25'
    show own_R _ _ _ _ (T24.setTop (mkF m 84 #[.val (.int p1), .val (.int q2), .val (.int q3), .val (.int q4), .val (.int q5), .val (.int q6), .val (.int (1 : Int32)), .val (.ref b17), .unset, .unset] [(.ref c25)]))
    refine own_go (fun _ k => XS.astore X24.here hx rfl (hb hby at_84) rfl rfl (l' := #[.val (.int p1), .val (.int q2), .val (.int q3), .val (.int q4), .val (.int q5), .val (.int q6), .val (.int (1 : Int32)), .val (.ref b17), .val (.ref c25), .unset]) rfl k) ?_
    show own_R _ _ _ _ (T24.setTop (mkF m 86 #[.val (.int p1), .val (.int q2), .val (.int q3), .val (.int q4), .val (.int q5), .val (.int q6), .val (.int (1 : Int32)), .val (.ref b17), .val (.ref c25), .unset] []))
    refine own_go (fun _ k => XS.aload X24.here hx rfl (hb hby at_86) rfl rfl k) ?_
    show own_R _ _ _ _ (T24.setTop (mkF m 88 #[.val (.int p1), .val (.int q2), .val (.int q3), .val (.int q4), .val (.int q5), .val (.int q6), .val (.int (1 : Int32)), .val (.ref b17), .val (.ref c25), .unset] [(.ref c25)]))
    refine own_go (fun _ k => XS.iload X24.here hx rfl (hb hby at_88) rfl k) ?_
    show own_R _ _ _ _ (T24.setTop (mkF m 90 #[.val (.int p1), .val (.int q2), .val (.int q3), .val (.int q4), .val (.int q5), .val (.int q6), .val (.int (1 : Int32)), .val (.ref b17), .val (.ref c25), .unset] [(.int (1 : Int32)), (.ref c25)]))
    refine own_go (fun _ k => XS.iloadN X24.here hx rfl (hb hby at_90) rfl k) ?_
    show own_R _ _ _ _ (T24.setTop (mkF m 91 #[.val (.int p1), .val (.int q2), .val (.int q3), .val (.int q4), .val (.int q5), .val (.int q6), .val (.int (1 : Int32)), .val (.ref b17), .val (.ref c25), .unset] [(.int q2), (.int (1 : Int32)), (.ref c25)]))
    refine own_go (fun _ k => XS.iloadN X24.here hx rfl (hb hby at_91) rfl k) ?_
    show own_R _ _ _ _ (T24.setTop (mkF m 92 #[.val (.int p1), .val (.int q2), .val (.int q3), .val (.int q4), .val (.int q5), .val (.int q6), .val (.int (1 : Int32)), .val (.ref b17), .val (.ref c25), .unset] [(.int q3), (.int q2), (.int (1 : Int32)), (.ref c25)]))
    refine own_go (fun _ k => XS.iloadN X24.here hx rfl (hb hby at_92) rfl k) ?_
    show own_R _ _ _ _ (T24.setTop (mkF m 93 #[.val (.int p1), .val (.int q2), .val (.int q3), .val (.int q4), .val (.int q5), .val (.int q6), .val (.int (1 : Int32)), .val (.ref b17), .val (.ref c25), .unset] [(.int q4), (.int q3), (.int q2), (.int (1 : Int32)), (.ref c25)]))
    refine own_go (fun _ k => XS.iload X24.here hx rfl (hb hby at_93) rfl k) ?_
    show own_R _ _ _ _ (T24.setTop (mkF m 95 #[.val (.int p1), .val (.int q2), .val (.int q3), .val (.int q4), .val (.int q5), .val (.int q6), .val (.int (1 : Int32)), .val (.ref b17), .val (.ref c25), .unset] [(.int q5), (.int q4), (.int q3), (.int q2), (.int (1 : Int32)), (.ref c25)]))
    refine own_go (fun _ k => XS.iload X24.here hx rfl (hb hby at_95) rfl k) ?_
    show own_R _ _ _ _ (T24.setTop (mkF m 97 #[.val (.int p1), .val (.int q2), .val (.int q3), .val (.int q4), .val (.int q5), .val (.int q6), .val (.int (1 : Int32)), .val (.ref b17), .val (.ref c25), .unset] [(.int q6), (.int q5), (.int q4), (.int q3), (.int q2), (.int (1 : Int32)), (.ref c25)]))
    obtain ⟨_, _, ⟨T25, L25, k25, n25⟩, -, X25, ⟨Lc25, hQ25, l25, y25, z25⟩, st25⟩ := Jvm.LawKit.callS X24 hx (y := (⟨"com/example/austere_nets/austerenets/minimize/IntListToArrayPinLaw", "matches", "([IIIIIII)Z"⟩ : MethodName)) hown (mvT hZ (hw _ (List.mem_of_getElem? (i := 32) rfl))) (mvT hZ (hw _ (List.mem_of_getElem? (i := 33) rfl))) (mvT hZ (hw _ (List.mem_of_getElem? (i := 34) rfl))) (mvT hZ (hw _ (List.mem_of_getElem? (i := 35) rfl))) (by decide) (backOf (W := 0) (rm6_1 l Z a0 hw [] c25 q2 q3 q4 q5 q6 kc25 h24 n0 ZS V_c25) hZ (hw _ (List.mem_of_getElem? (i := 35) rfl)) (hw _ (List.mem_of_getElem? (i := 34) rfl)) (by decide) (by decide)) (g := (mkF m 97 #[.val (.int p1), .val (.int q2), .val (.int q3), .val (.int q4), .val (.int q5), .val (.int q6), .val (.int (1 : Int32)), .val (.ref b17), .val (.ref c25), .unset] [(.int q6), (.int q5), (.int q4), (.int q3), (.int q2), (.int (1 : Int32)), (.ref c25)])) rfl (by rw [hml]; rfl) (argsL := [(.ref c25), (.int (1 : Int32)), (.int q2), (.int q3), (.int q4), (.int q5), (.int q6)]) (rest := []) (lenOf pd_4 rfl) rfl (by show 2 * 0 + _ ≤ _; exact Nat.le_of_eq rfl) (hb hby at_97) (fun _ _ => ⟨rfl, e24, (by decide : 3 + 0 ≤ _), (by decide : 34 + 0 ≤ _)⟩)
    dsimp only [Pt.U, Pt.locs, Pt.cells, Pt.slots] at X25 l25 y25 z25 st25 hQ25
    subst l25 y25 z25
    obtain ⟨rfl, N25q, e25⟩ := hQ25
    have NF := Fr.app NF N25q
    refine own_go st25 ?_
    show own_R _ _ _ _ (T25.setTop (mkF m 100 #[.val (.int p1), .val (.int q2), .val (.int q3), .val (.int q4), .val (.int q5), .val (.int q6), .val (.int (1 : Int32)), .val (.ref b17), .val (.ref c25), .unset] [(.int (1 : Int32))]))
    refine own_go (fun _ k => XS.ifYes X25.here hx rfl (pc0 := 100) (pc' := 105) rfl (hb hby at_100) rfl ((if0 _ _).trans (feq (by decide : ¬ ((1 : Int32) = (0 : Int32)))).2) (by decide) (by decide) k) ?_
    show own_R _ _ _ _ (T25.setTop (mkF m 105 #[.val (.int p1), .val (.int q2), .val (.int q3), .val (.int q4), .val (.int q5), .val (.int q6), .val (.int (1 : Int32)), .val (.ref b17), .val (.ref c25), .unset] []))
    refine own_go (fun _ k => XS.iload X25.here hx rfl (hb hby at_105) rfl k) ?_
    show own_R _ _ _ _ (T25.setTop (mkF m 107 #[.val (.int p1), .val (.int q2), .val (.int q3), .val (.int q4), .val (.int q5), .val (.int q6), .val (.int (1 : Int32)), .val (.ref b17), .val (.ref c25), .unset] [(.int (1 : Int32))]))
    refine own_go (fun _ k => XS.ifNo X25.here hx rfl (hb hby at_107) rfl ((if0 _ _).trans (tlt (by decide : (0 : Int32) < (1 : Int32))).2.2.2) k) ?_
    show own_R _ _ _ _ (T25.setTop (mkF m 110 #[.val (.int p1), .val (.int q2), .val (.int q3), .val (.int q4), .val (.int q5), .val (.int q6), .val (.int (1 : Int32)), .val (.ref b17), .val (.ref c25), .unset] []))
    refine own_go (fun _ k => XS.aload X25.here hx rfl (hb hby at_110) rfl rfl k) ?_
    show own_R _ _ _ _ (T25.setTop (mkF m 112 #[.val (.int p1), .val (.int q2), .val (.int q3), .val (.int q4), .val (.int q5), .val (.int q6), .val (.int (1 : Int32)), .val (.ref b17), .val (.ref c25), .unset] [(.ref c25)]))
    refine own_go (fun _ k => XS.iconst X25.here hx rfl (hb hby at_112) k) ?_
    show own_R _ _ _ _ (T25.setTop (mkF m 113 #[.val (.int p1), .val (.int q2), .val (.int q3), .val (.int q4), .val (.int q5), .val (.int q6), .val (.int (1 : Int32)), .val (.ref b17), .val (.ref c25), .unset] [(.int (0 : Int32)), (.ref c25)]))
    refine own_go (fun _ k => XS.aload X25.here hx rfl (hb hby at_113) rfl rfl k) ?_
    show own_R _ _ _ _ (T25.setTop (mkF m 115 #[.val (.int p1), .val (.int q2), .val (.int q3), .val (.int q4), .val (.int q5), .val (.int q6), .val (.int (1 : Int32)), .val (.ref b17), .val (.ref c25), .unset] [(.ref c25), (.int (0 : Int32)), (.ref c25)]))
    refine own_go (fun _ k => XS.iconst X25.here hx rfl (hb hby at_115) k) ?_
    show own_R _ _ _ _ (T25.setTop (mkF m 116 #[.val (.int p1), .val (.int q2), .val (.int q3), .val (.int q4), .val (.int q5), .val (.int q6), .val (.int (1 : Int32)), .val (.ref b17), .val (.ref c25), .unset] [(.int (0 : Int32)), (.ref c25), (.int (0 : Int32)), (.ref c25)]))
    refine own_go (own_ldI X25 hx hZ e25 V_c25 (j := (0 : Int32)) (i := 0) ⟨by decide, by decide⟩ rfl (v := (.int q2)) rfl (g := (mkF m 116 #[.val (.int p1), .val (.int q2), .val (.int q3), .val (.int q4), .val (.int q5), .val (.int q6), .val (.int (1 : Int32)), .val (.ref b17), .val (.ref c25), .unset] [(.int (0 : Int32)), (.ref c25), (.int (0 : Int32)), (.ref c25)])) rfl rfl (hb hby at_116)) ?_
    show own_R _ _ _ _ (T25.setTop (mkF m 117 #[.val (.int p1), .val (.int q2), .val (.int q3), .val (.int q4), .val (.int q5), .val (.int q6), .val (.int (1 : Int32)), .val (.ref b17), .val (.ref c25), .unset] [(.int q2), (.int (0 : Int32)), (.ref c25)]))
    refine own_go (fun _ k => XS.iconst X25.here hx rfl (hb hby at_117) k) ?_
    show own_R _ _ _ _ (T25.setTop (mkF m 118 #[.val (.int p1), .val (.int q2), .val (.int q3), .val (.int q4), .val (.int q5), .val (.int q6), .val (.int (1 : Int32)), .val (.ref b17), .val (.ref c25), .unset] [(.int (-1 : Int32)), (.int q2), (.int (0 : Int32)), (.ref c25)]))
    refine own_go (fun _ k => XS.ixor X25.here hx rfl (hb hby at_118) rfl k) ?_
    show own_R _ _ _ _ (T25.setTop (mkF m 119 #[.val (.int p1), .val (.int q2), .val (.int q3), .val (.int q4), .val (.int q5), .val (.int q6), .val (.int (1 : Int32)), .val (.ref b17), .val (.ref c25), .unset] [(.int (q2 ^^^ (-1 : Int32))), (.int (0 : Int32)), (.ref c25)]))
    obtain ⟨T26, h26, sl26, X26, e26, W26, V26, st26⟩ := own_stI X25 hx hZ e25 V_c25 (j := (0 : Int32)) (i := 0) ⟨by decide, by decide⟩ rfl (Nat.le_of_ble_eq_true rfl) rfl (g := (mkF m 119 #[.val (.int p1), .val (.int q2), .val (.int q3), .val (.int q4), .val (.int q5), .val (.int q6), .val (.int (1 : Int32)), .val (.ref b17), .val (.ref c25), .unset] [(.int (q2 ^^^ (-1 : Int32))), (.int (0 : Int32)), (.ref c25)])) rfl rfl (hb hby at_119)
    refine own_go st26 ?_
    have E_b17 := E_b17.wr W26
    have F_size_b17 := F_size_b17.other W26 (Or.inl ne_b17_c25)
    have F_values_b17 := F_values_b17.other W26 (Or.inl ne_b17_c25)
    have V_c19 := V_c19.other W26 ne_c19_c25
    have ZS := Nat.le_trans ZS (Keep.of_wr W26).1
    have KP := KP.wr W26 (Or.inr sz_c25)
    have NF := Fr.snoc X26 NF g_c25
    have V_c25 : Arv Z h26 c25 kc25 .int (1 : Int32) [(.int (q2 ^^^ (-1 : Int32)))] (.int (0 : Int32)) := V26
    show own_R _ _ _ _ (T26.setTop (mkF m 120 #[.val (.int p1), .val (.int q2), .val (.int q3), .val (.int q4), .val (.int q5), .val (.int q6), .val (.int (1 : Int32)), .val (.ref b17), .val (.ref c25), .unset] []))
    refine own_go (fun _ k => XS.aload X26.here hx rfl (hb hby at_120) rfl rfl k) ?_
    show own_R _ _ _ _ (T26.setTop (mkF m 122 #[.val (.int p1), .val (.int q2), .val (.int q3), .val (.int q4), .val (.int q5), .val (.int q6), .val (.int (1 : Int32)), .val (.ref b17), .val (.ref c25), .unset] [(.ref b17)]))
    obtain ⟨cq27, kq27, q27a, q27b, q27c⟩ := isOf hZ e26 E_b17
    obtain ⟨_, _, ⟨T27, L27, k27, n27⟩, -, X27, ⟨Lc27, hQ27, l27, y27, z27⟩, st27⟩ := X26.virtualBack hx (y := (⟨"com/example/austere_nets/austerenets/minimize/IntList", "toArray", "()[I"⟩ : MethodName)) (z := (⟨"com/example/austere_nets/austerenets/minimize/IntList", "toArray", "()[I"⟩ : MethodName)) hown (mvT hZ (hw _ (List.mem_of_getElem? (i := 13) rfl))) (mvT hZ (hw _ (List.mem_of_getElem? (i := 14) rfl))) (notFace_of_selects (args := #[]) (mvT hZ (hw _ (List.mem_of_getElem? (i := 16) rfl)))) (mvT hZ (hw _ (List.mem_of_getElem? (i := 16) rfl))) (mvT hZ (hw _ (List.mem_of_getElem? (i := 15) rfl))) (by decide) (backOf (W := 0) (rm3 l Z a0 hw [] b17 c19 kc19 (1 : Int32) [(.int q2), (.int (0 : Int32)), (.int (0 : Int32)), (.int (0 : Int32)), (.int (0 : Int32)), (.int (0 : Int32)), (.int (0 : Int32)), (.int (0 : Int32)), (.int (0 : Int32)), (.int (0 : Int32)), (.int (0 : Int32)), (.int (0 : Int32)), (.int (0 : Int32)), (.int (0 : Int32)), (.int (0 : Int32)), (.int (0 : Int32))] h26 n0 ZS F_values_b17 F_size_b17 V_c19 (by decide) (by decide) (by decide)) hZ (hw _ (List.mem_of_getElem? (i := 17) rfl)) (hw _ (List.mem_of_getElem? (i := 3) rfl)) (by decide) (by decide)) q27a q27c (g := (mkF m 122 #[.val (.int p1), .val (.int q2), .val (.int q3), .val (.int q4), .val (.int q5), .val (.int q6), .val (.int (1 : Int32)), .val (.ref b17), .val (.ref c25), .unset] [(.ref b17)])) rfl (by rw [hml]; rfl) (Steps.refl _) (argsL := []) (rest := []) (lenOf pd_3 rfl) rfl (by show 2 * 0 + _ ≤ _; exact Nat.le_of_eq rfl) (hb hby at_122) (fun _ _ => ⟨rfl, e26, (by decide : 3 + 1 ≤ _), (by decide : 34 + 16 ≤ _)⟩)
    dsimp only [Pt.U, Pt.locs, Pt.cells, Pt.slots] at X27 l27 y27 z27 st27 hQ27
    subst l27 y27 z27
    obtain ⟨h27, e27'⟩ : ∃ z, z = T27.heap := ⟨_, rfl⟩
    rw [← e27'] at hQ27
    have e27 : T27.heap = h27 := e27'.symm
    obtain ⟨c28, rfl, N27q, K27, hbc28, kc28, Vc28'⟩ := hQ27
    have NF := Fr.app NF N27q
    refine own_go (fun _ k => st27.trans k) ?_
    have ne_b17_c28 : b17 ≠ c28 := Nat.ne_of_lt (Nat.lt_of_lt_of_le E_b17.lt hbc28)
    have ne_c19_c28 : c19 ≠ c28 := Nat.ne_of_lt (Nat.lt_of_lt_of_le V_c19.lt hbc28)
    have ne_c25_c28 : c25 ≠ c28 := Nat.ne_of_lt (Nat.lt_of_lt_of_le V_c25.lt hbc28)
    have g_c28 : n0 ≤ c28 := Nat.le_trans ZS hbc28
    have sz_c28 : h0.size ≤ c28 := Nat.le_trans KP.1 hbc28
    have E_b17 := E_b17.keep K27
    have F_size_b17 := F_size_b17.keep K27 nin0
    have F_values_b17 := F_values_b17.keep K27 nin0
    have V_c19 := V_c19.keep K27 nin0
    have V_c25 := V_c25.keep K27 nin0
    have ZS := Nat.le_trans ZS K27.1
    have KP := KP.trans K27 all0
    have V_c28 : Arv Z h27 c28 kc28 .int (1 : Int32) [(.int q2)] (.int (0 : Int32)) := Vc28'
    show own_R _ _ _ _ (T27.setTop (mkF m 125 #[.val (.int p1), .val (.int q2), .val (.int q3), .val (.int q4), .val (.int q5), .val (.int q6), .val (.int (1 : Int32)), .val (.ref b17), .val (.ref c25), .unset] [(.ref c28)]))
    refine own_go (fun _ k => XS.astore X27.here hx rfl (hb hby at_125) rfl rfl (l' := #[.val (.int p1), .val (.int q2), .val (.int q3), .val (.int q4), .val (.int q5), .val (.int q6), .val (.int (1 : Int32)), .val (.ref b17), .val (.ref c25), .val (.ref c28)]) rfl k) ?_
    show own_R _ _ _ _ (T27.setTop (mkF m 127 #[.val (.int p1), .val (.int q2), .val (.int q3), .val (.int q4), .val (.int q5), .val (.int q6), .val (.int (1 : Int32)), .val (.ref b17), .val (.ref c25), .val (.ref c28)] []))
    refine own_go (fun _ k => XS.aload X27.here hx rfl (hb hby at_127) rfl rfl k) ?_
    show own_R _ _ _ _ (T27.setTop (mkF m 129 #[.val (.int p1), .val (.int q2), .val (.int q3), .val (.int q4), .val (.int q5), .val (.int q6), .val (.int (1 : Int32)), .val (.ref b17), .val (.ref c25), .val (.ref c28)] [(.ref c28)]))
    refine own_go (fun _ k => XS.aload X27.here hx rfl (hb hby at_129) rfl rfl k) ?_
    show own_R _ _ _ _ (T27.setTop (mkF m 131 #[.val (.int p1), .val (.int q2), .val (.int q3), .val (.int q4), .val (.int q5), .val (.int q6), .val (.int (1 : Int32)), .val (.ref b17), .val (.ref c25), .val (.ref c28)] [(.ref c25), (.ref c28)]))
    refine own_go (fun _ k => Jvm.RoadKit.acmp (g := (mkF m 131 #[.val (.int p1), .val (.int q2), .val (.int q3), .val (.int q4), .val (.int q5), .val (.int q6), .val (.int (1 : Int32)), .val (.ref b17), .val (.ref c25), .val (.ref c28)] [(.ref c25), (.ref c28)])) X27 hx rfl rfl rfl (pc0 := 131) (pc' := 136) (same := false) rfl (hb hby at_131) rfl (decide_eq_false fun q => (Ne.symm ne_c25_c28) (Value.ref.inj q)) (by decide) (by decide) k) ?_
    show own_R _ _ _ _ (T27.setTop (mkF m 136 #[.val (.int p1), .val (.int q2), .val (.int q3), .val (.int q4), .val (.int q5), .val (.int q6), .val (.int (1 : Int32)), .val (.ref b17), .val (.ref c25), .val (.ref c28)] []))
    refine own_go (fun _ k => XS.aload X27.here hx rfl (hb hby at_136) rfl rfl k) ?_
    show own_R _ _ _ _ (T27.setTop (mkF m 138 #[.val (.int p1), .val (.int q2), .val (.int q3), .val (.int q4), .val (.int q5), .val (.int q6), .val (.int (1 : Int32)), .val (.ref b17), .val (.ref c25), .val (.ref c28)] [(.ref c28)]))
    refine own_go (fun _ k => XS.iload X27.here hx rfl (hb hby at_138) rfl k) ?_
    show own_R _ _ _ _ (T27.setTop (mkF m 140 #[.val (.int p1), .val (.int q2), .val (.int q3), .val (.int q4), .val (.int q5), .val (.int q6), .val (.int (1 : Int32)), .val (.ref b17), .val (.ref c25), .val (.ref c28)] [(.int (1 : Int32)), (.ref c28)]))
    refine own_go (fun _ k => XS.iloadN X27.here hx rfl (hb hby at_140) rfl k) ?_
    show own_R _ _ _ _ (T27.setTop (mkF m 141 #[.val (.int p1), .val (.int q2), .val (.int q3), .val (.int q4), .val (.int q5), .val (.int q6), .val (.int (1 : Int32)), .val (.ref b17), .val (.ref c25), .val (.ref c28)] [(.int q2), (.int (1 : Int32)), (.ref c28)]))
    refine own_go (fun _ k => XS.iloadN X27.here hx rfl (hb hby at_141) rfl k) ?_
    show own_R _ _ _ _ (T27.setTop (mkF m 142 #[.val (.int p1), .val (.int q2), .val (.int q3), .val (.int q4), .val (.int q5), .val (.int q6), .val (.int (1 : Int32)), .val (.ref b17), .val (.ref c25), .val (.ref c28)] [(.int q3), (.int q2), (.int (1 : Int32)), (.ref c28)]))
    refine own_go (fun _ k => XS.iloadN X27.here hx rfl (hb hby at_142) rfl k) ?_
    show own_R _ _ _ _ (T27.setTop (mkF m 143 #[.val (.int p1), .val (.int q2), .val (.int q3), .val (.int q4), .val (.int q5), .val (.int q6), .val (.int (1 : Int32)), .val (.ref b17), .val (.ref c25), .val (.ref c28)] [(.int q4), (.int q3), (.int q2), (.int (1 : Int32)), (.ref c28)]))
    refine own_go (fun _ k => XS.iload X27.here hx rfl (hb hby at_143) rfl k) ?_
    show own_R _ _ _ _ (T27.setTop (mkF m 145 #[.val (.int p1), .val (.int q2), .val (.int q3), .val (.int q4), .val (.int q5), .val (.int q6), .val (.int (1 : Int32)), .val (.ref b17), .val (.ref c25), .val (.ref c28)] [(.int q5), (.int q4), (.int q3), (.int q2), (.int (1 : Int32)), (.ref c28)]))
    refine own_go (fun _ k => XS.iload X27.here hx rfl (hb hby at_145) rfl k) ?_
    show own_R _ _ _ _ (T27.setTop (mkF m 147 #[.val (.int p1), .val (.int q2), .val (.int q3), .val (.int q4), .val (.int q5), .val (.int q6), .val (.int (1 : Int32)), .val (.ref b17), .val (.ref c25), .val (.ref c28)] [(.int q6), (.int q5), (.int q4), (.int q3), (.int q2), (.int (1 : Int32)), (.ref c28)]))
    obtain ⟨_, _, ⟨T28, L28, k28, n28⟩, -, X28, ⟨Lc28, hQ28, l28, y28, z28⟩, st28⟩ := Jvm.LawKit.callS X27 hx (y := (⟨"com/example/austere_nets/austerenets/minimize/IntListToArrayPinLaw", "matches", "([IIIIIII)Z"⟩ : MethodName)) hown (mvT hZ (hw _ (List.mem_of_getElem? (i := 32) rfl))) (mvT hZ (hw _ (List.mem_of_getElem? (i := 33) rfl))) (mvT hZ (hw _ (List.mem_of_getElem? (i := 34) rfl))) (mvT hZ (hw _ (List.mem_of_getElem? (i := 35) rfl))) (by decide) (backOf (W := 0) (rm6_1 l Z a0 hw [] c28 q2 q3 q4 q5 q6 kc28 h27 n0 ZS V_c28) hZ (hw _ (List.mem_of_getElem? (i := 35) rfl)) (hw _ (List.mem_of_getElem? (i := 34) rfl)) (by decide) (by decide)) (g := (mkF m 147 #[.val (.int p1), .val (.int q2), .val (.int q3), .val (.int q4), .val (.int q5), .val (.int q6), .val (.int (1 : Int32)), .val (.ref b17), .val (.ref c25), .val (.ref c28)] [(.int q6), (.int q5), (.int q4), (.int q3), (.int q2), (.int (1 : Int32)), (.ref c28)])) rfl (by rw [hml]; rfl) (argsL := [(.ref c28), (.int (1 : Int32)), (.int q2), (.int q3), (.int q4), (.int q5), (.int q6)]) (rest := []) (lenOf pd_4 rfl) rfl (by show 2 * 0 + _ ≤ _; exact Nat.le_of_eq rfl) (hb hby at_147) (fun _ _ => ⟨rfl, e27, (by decide : 4 + 0 ≤ _), (by decide : 50 + 0 ≤ _)⟩)
    dsimp only [Pt.U, Pt.locs, Pt.cells, Pt.slots] at X28 l28 y28 z28 st28 hQ28
    subst l28 y28 z28
    obtain ⟨rfl, N28q, e28⟩ := hQ28
    have NF := Fr.app NF N28q
    refine own_go st28 ?_
    show own_R _ _ _ _ (T28.setTop (mkF m 150 #[.val (.int p1), .val (.int q2), .val (.int q3), .val (.int q4), .val (.int q5), .val (.int q6), .val (.int (1 : Int32)), .val (.ref b17), .val (.ref c25), .val (.ref c28)] [(.int (1 : Int32))]))
    exact own_retN X28 hx (t := .boolean) (by simp) Bd.returns (hb hby at_150) hlk ⟨rfl, NF⟩ (by decide) (by decide)
  · show own_R _ _ _ _ (T18.setTop (mkF m 18 #[.val (.int p1), .val (.int q2), .val (.int q3), .val (.int q4), .val (.int q5), .val (.int q6), .val (.int (2 : Int32)), .val (.ref b17), .unset, .unset] []))
    refine own_go (fun _ k => XS.iload X18.here hx rfl (hb hby at_18) rfl k) ?_
    show own_R _ _ _ _ (T18.setTop (mkF m 20 #[.val (.int p1), .val (.int q2), .val (.int q3), .val (.int q4), .val (.int q5), .val (.int q6), .val (.int (2 : Int32)), .val (.ref b17), .unset, .unset] [(.int (2 : Int32))]))
    refine own_go (fun _ k => XS.ifNo X18.here hx rfl (hb hby at_20) rfl ((if0 _ _).trans (tlt (by decide : (0 : Int32) < (2 : Int32))).2.2.2) k) ?_
    show own_R _ _ _ _ (T18.setTop (mkF m 23 #[.val (.int p1), .val (.int q2), .val (.int q3), .val (.int q4), .val (.int q5), .val (.int q6), .val (.int (2 : Int32)), .val (.ref b17), .unset, .unset] []))
    refine own_go (fun _ k => XS.aload X18.here hx rfl (hb hby at_23) rfl rfl k) ?_
    show own_R _ _ _ _ (T18.setTop (mkF m 25 #[.val (.int p1), .val (.int q2), .val (.int q3), .val (.int q4), .val (.int q5), .val (.int q6), .val (.int (2 : Int32)), .val (.ref b17), .unset, .unset] [(.ref b17)]))
    refine own_go (fun _ k => XS.iloadN X18.here hx rfl (hb hby at_25) rfl k) ?_
    show own_R _ _ _ _ (T18.setTop (mkF m 26 #[.val (.int p1), .val (.int q2), .val (.int q3), .val (.int q4), .val (.int q5), .val (.int q6), .val (.int (2 : Int32)), .val (.ref b17), .unset, .unset] [(.int q2), (.ref b17)]))
    obtain ⟨cq29, kq29, q29a, q29b, q29c⟩ := isOf hZ e18 E_b17
    obtain ⟨_, _, ⟨T29, L29, k29, n29⟩, -, X29, ⟨Lc29, hQ29, l29, y29, z29⟩, st29⟩ := X18.virtualBack hx (y := (⟨"com/example/austere_nets/austerenets/minimize/IntList", "add", "(I)V"⟩ : MethodName)) (z := (⟨"com/example/austere_nets/austerenets/minimize/IntList", "add", "(I)V"⟩ : MethodName)) hown (mvT hZ (hw _ (List.mem_of_getElem? (i := 36) rfl))) (mvT hZ (hw _ (List.mem_of_getElem? (i := 37) rfl))) (notFace_of_selects (args := #[]) (mvT hZ (hw _ (List.mem_of_getElem? (i := 39) rfl)))) (mvT hZ (hw _ (List.mem_of_getElem? (i := 39) rfl))) (mvT hZ (hw _ (List.mem_of_getElem? (i := 38) rfl))) (by decide) (backOf (W := 0) (rm7 l Z a0 hw [] b17 q2 c19 kc19 (0 : Int32) 0 [(.int (0 : Int32)), (.int (0 : Int32)), (.int (0 : Int32)), (.int (0 : Int32)), (.int (0 : Int32)), (.int (0 : Int32)), (.int (0 : Int32)), (.int (0 : Int32)), (.int (0 : Int32)), (.int (0 : Int32)), (.int (0 : Int32)), (.int (0 : Int32)), (.int (0 : Int32)), (.int (0 : Int32)), (.int (0 : Int32)), (.int (0 : Int32))] h18 n0 ZS E_b17 F_values_b17 F_size_b17 g_b17 V_c19 g_c19 ne_b17_c19 ⟨by decide, by decide⟩ rfl (Nat.le_of_ble_eq_true rfl)) hZ (hw _ (List.mem_of_getElem? (i := 40) rfl)) (hw _ (List.mem_of_getElem? (i := 3) rfl)) (by decide) (by decide)) q29a q29c (g := (mkF m 26 #[.val (.int p1), .val (.int q2), .val (.int q3), .val (.int q4), .val (.int q5), .val (.int q6), .val (.int (2 : Int32)), .val (.ref b17), .unset, .unset] [(.int q2), (.ref b17)])) rfl (by rw [hml]; rfl) (Steps.refl _) (argsL := [(.int q2)]) (rest := []) (lenOf pd_5 rfl) rfl (by show 2 * 0 + _ ≤ _; exact Nat.le_of_eq rfl) (hb hby at_26) (fun _ _ => ⟨rfl, e18, (by decide : 2 + 0 ≤ _), (by decide : 18 + 0 ≤ _)⟩)
    dsimp only [Pt.U, Pt.locs, Pt.cells, Pt.slots] at X29 l29 y29 z29 st29 hQ29
    subst l29 y29 z29
    obtain ⟨h29, e29'⟩ : ∃ z, z = T29.heap := ⟨_, rfl⟩
    rw [← e29'] at hQ29
    have e29 : T29.heap = h29 := e29'.symm
    obtain ⟨rfl, N29q, K29, pp1, pp2, pp3⟩ := hQ29
    have NF := Fr.app NF N29q
    refine own_go (fun _ k => st29.trans k) ?_
    have E_b17 := E_b17.keep K29
    have ZS := Nat.le_trans ZS K29.1
    have KP := KP.trans K29 (allS (Or.inr sz_b17) (allS (Or.inr sz_c19) all0))
    have F_size_b17 := pp1
    have F_values_b17 := pp2
    have V_c19 : Arv Z h29 c19 kc19 .int (16 : Int32) [(.int q2), (.int (0 : Int32)), (.int (0 : Int32)), (.int (0 : Int32)), (.int (0 : Int32)), (.int (0 : Int32)), (.int (0 : Int32)), (.int (0 : Int32)), (.int (0 : Int32)), (.int (0 : Int32)), (.int (0 : Int32)), (.int (0 : Int32)), (.int (0 : Int32)), (.int (0 : Int32)), (.int (0 : Int32)), (.int (0 : Int32))] (.int (0 : Int32)) := pp3
    show own_R _ _ _ _ (T29.setTop (mkF m 29 #[.val (.int p1), .val (.int q2), .val (.int q3), .val (.int q4), .val (.int q5), .val (.int q6), .val (.int (2 : Int32)), .val (.ref b17), .unset, .unset] []))
    refine own_go (fun _ k => XS.iload X29.here hx rfl (hb hby at_29) rfl k) ?_
    show own_R _ _ _ _ (T29.setTop (mkF m 31 #[.val (.int p1), .val (.int q2), .val (.int q3), .val (.int q4), .val (.int q5), .val (.int q6), .val (.int (2 : Int32)), .val (.ref b17), .unset, .unset] [(.int (2 : Int32))]))
    refine own_go (fun _ k => XS.iconst X29.here hx rfl (hb hby at_31) k) ?_
    show own_R _ _ _ _ (T29.setTop (mkF m 32 #[.val (.int p1), .val (.int q2), .val (.int q3), .val (.int q4), .val (.int q5), .val (.int q6), .val (.int (2 : Int32)), .val (.ref b17), .unset, .unset] [(.int (1 : Int32)), (.int (2 : Int32))]))
    refine own_go (fun _ k => XS.icmpNo X29.here hx rfl (hb hby at_32) rfl (tlt (by decide : (1 : Int32) < (2 : Int32))).2.2.2 k) ?_
    show own_R _ _ _ _ (T29.setTop (mkF m 35 #[.val (.int p1), .val (.int q2), .val (.int q3), .val (.int q4), .val (.int q5), .val (.int q6), .val (.int (2 : Int32)), .val (.ref b17), .unset, .unset] []))
    refine own_go (fun _ k => XS.aload X29.here hx rfl (hb hby at_35) rfl rfl k) ?_
    show own_R _ _ _ _ (T29.setTop (mkF m 37 #[.val (.int p1), .val (.int q2), .val (.int q3), .val (.int q4), .val (.int q5), .val (.int q6), .val (.int (2 : Int32)), .val (.ref b17), .unset, .unset] [(.ref b17)]))
    refine own_go (fun _ k => XS.iloadN X29.here hx rfl (hb hby at_37) rfl k) ?_
    show own_R _ _ _ _ (T29.setTop (mkF m 38 #[.val (.int p1), .val (.int q2), .val (.int q3), .val (.int q4), .val (.int q5), .val (.int q6), .val (.int (2 : Int32)), .val (.ref b17), .unset, .unset] [(.int q3), (.ref b17)]))
    obtain ⟨cq30, kq30, q30a, q30b, q30c⟩ := isOf hZ e29 E_b17
    obtain ⟨_, _, ⟨T30, L30, k30, n30⟩, -, X30, ⟨Lc30, hQ30, l30, y30, z30⟩, st30⟩ := X29.virtualBack hx (y := (⟨"com/example/austere_nets/austerenets/minimize/IntList", "add", "(I)V"⟩ : MethodName)) (z := (⟨"com/example/austere_nets/austerenets/minimize/IntList", "add", "(I)V"⟩ : MethodName)) hown (mvT hZ (hw _ (List.mem_of_getElem? (i := 36) rfl))) (mvT hZ (hw _ (List.mem_of_getElem? (i := 37) rfl))) (notFace_of_selects (args := #[]) (mvT hZ (hw _ (List.mem_of_getElem? (i := 39) rfl)))) (mvT hZ (hw _ (List.mem_of_getElem? (i := 39) rfl))) (mvT hZ (hw _ (List.mem_of_getElem? (i := 38) rfl))) (by decide) (backOf (W := 0) (rm7 l Z a0 hw [] b17 q3 c19 kc19 (1 : Int32) 1 [(.int q2), (.int (0 : Int32)), (.int (0 : Int32)), (.int (0 : Int32)), (.int (0 : Int32)), (.int (0 : Int32)), (.int (0 : Int32)), (.int (0 : Int32)), (.int (0 : Int32)), (.int (0 : Int32)), (.int (0 : Int32)), (.int (0 : Int32)), (.int (0 : Int32)), (.int (0 : Int32)), (.int (0 : Int32)), (.int (0 : Int32))] h29 n0 ZS E_b17 F_values_b17 F_size_b17 g_b17 V_c19 g_c19 ne_b17_c19 ⟨by decide, by decide⟩ rfl (Nat.le_of_ble_eq_true rfl)) hZ (hw _ (List.mem_of_getElem? (i := 40) rfl)) (hw _ (List.mem_of_getElem? (i := 3) rfl)) (by decide) (by decide)) q30a q30c (g := (mkF m 38 #[.val (.int p1), .val (.int q2), .val (.int q3), .val (.int q4), .val (.int q5), .val (.int q6), .val (.int (2 : Int32)), .val (.ref b17), .unset, .unset] [(.int q3), (.ref b17)])) rfl (by rw [hml]; rfl) (Steps.refl _) (argsL := [(.int q3)]) (rest := []) (lenOf pd_5 rfl) rfl (by show 2 * 0 + _ ≤ _; exact Nat.le_of_eq rfl) (hb hby at_38) (fun _ _ => ⟨rfl, e29, (by decide : 2 + 0 ≤ _), (by decide : 18 + 0 ≤ _)⟩)
    dsimp only [Pt.U, Pt.locs, Pt.cells, Pt.slots] at X30 l30 y30 z30 st30 hQ30
    subst l30 y30 z30
    obtain ⟨h30, e30'⟩ : ∃ z, z = T30.heap := ⟨_, rfl⟩
    rw [← e30'] at hQ30
    have e30 : T30.heap = h30 := e30'.symm
    obtain ⟨rfl, N30q, K30, pp1, pp2, pp3⟩ := hQ30
    have NF := Fr.app NF N30q
    refine own_go (fun _ k => st30.trans k) ?_
    have E_b17 := E_b17.keep K30
    have ZS := Nat.le_trans ZS K30.1
    have KP := KP.trans K30 (allS (Or.inr sz_b17) (allS (Or.inr sz_c19) all0))
    have F_size_b17 := pp1
    have F_values_b17 := pp2
    have V_c19 : Arv Z h30 c19 kc19 .int (16 : Int32) [(.int q2), (.int q3), (.int (0 : Int32)), (.int (0 : Int32)), (.int (0 : Int32)), (.int (0 : Int32)), (.int (0 : Int32)), (.int (0 : Int32)), (.int (0 : Int32)), (.int (0 : Int32)), (.int (0 : Int32)), (.int (0 : Int32)), (.int (0 : Int32)), (.int (0 : Int32)), (.int (0 : Int32)), (.int (0 : Int32))] (.int (0 : Int32)) := pp3
    show own_R _ _ _ _ (T30.setTop (mkF m 41 #[.val (.int p1), .val (.int q2), .val (.int q3), .val (.int q4), .val (.int q5), .val (.int q6), .val (.int (2 : Int32)), .val (.ref b17), .unset, .unset] []))
    refine own_go (fun _ k => XS.iload X30.here hx rfl (hb hby at_41) rfl k) ?_
    show own_R _ _ _ _ (T30.setTop (mkF m 43 #[.val (.int p1), .val (.int q2), .val (.int q3), .val (.int q4), .val (.int q5), .val (.int q6), .val (.int (2 : Int32)), .val (.ref b17), .unset, .unset] [(.int (2 : Int32))]))
    refine own_go (fun _ k => XS.iconst X30.here hx rfl (hb hby at_43) k) ?_
    show own_R _ _ _ _ (T30.setTop (mkF m 44 #[.val (.int p1), .val (.int q2), .val (.int q3), .val (.int q4), .val (.int q5), .val (.int q6), .val (.int (2 : Int32)), .val (.ref b17), .unset, .unset] [(.int (2 : Int32)), (.int (2 : Int32))]))
    refine own_go (fun _ k => XS.icmpYes X30.here hx rfl (pc0 := 44) (pc' := 53) rfl (hb hby at_44) rfl (flt (by decide : ¬ ((2 : Int32) < (2 : Int32)))).2.2.2 (by decide) (by decide) k) ?_
    show own_R _ _ _ _ (T30.setTop (mkF m 53 #[.val (.int p1), .val (.int q2), .val (.int q3), .val (.int q4), .val (.int q5), .val (.int q6), .val (.int (2 : Int32)), .val (.ref b17), .unset, .unset] []))
    refine own_go (fun _ k => XS.iload X30.here hx rfl (hb hby at_53) rfl k) ?_
    show own_R _ _ _ _ (T30.setTop (mkF m 55 #[.val (.int p1), .val (.int q2), .val (.int q3), .val (.int q4), .val (.int q5), .val (.int q6), .val (.int (2 : Int32)), .val (.ref b17), .unset, .unset] [(.int (2 : Int32))]))
    refine own_go (fun _ k => XS.iconst X30.here hx rfl (hb hby at_55) k) ?_
    show own_R _ _ _ _ (T30.setTop (mkF m 56 #[.val (.int p1), .val (.int q2), .val (.int q3), .val (.int q4), .val (.int q5), .val (.int q6), .val (.int (2 : Int32)), .val (.ref b17), .unset, .unset] [(.int (3 : Int32)), (.int (2 : Int32))]))
    refine own_go (fun _ k => XS.icmpYes X30.here hx rfl (pc0 := 56) (pc' := 66) rfl (hb hby at_56) rfl (flt (by decide : ¬ ((3 : Int32) < (2 : Int32)))).2.2.2 (by decide) (by decide) k) ?_
    show own_R _ _ _ _ (T30.setTop (mkF m 66 #[.val (.int p1), .val (.int q2), .val (.int q3), .val (.int q4), .val (.int q5), .val (.int q6), .val (.int (2 : Int32)), .val (.ref b17), .unset, .unset] []))
    refine own_go (fun _ k => XS.iload X30.here hx rfl (hb hby at_66) rfl k) ?_
    show own_R _ _ _ _ (T30.setTop (mkF m 68 #[.val (.int p1), .val (.int q2), .val (.int q3), .val (.int q4), .val (.int q5), .val (.int q6), .val (.int (2 : Int32)), .val (.ref b17), .unset, .unset] [(.int (2 : Int32))]))
    refine own_go (fun _ k => XS.iconst X30.here hx rfl (hb hby at_68) k) ?_
    show own_R _ _ _ _ (T30.setTop (mkF m 69 #[.val (.int p1), .val (.int q2), .val (.int q3), .val (.int q4), .val (.int q5), .val (.int q6), .val (.int (2 : Int32)), .val (.ref b17), .unset, .unset] [(.int (4 : Int32)), (.int (2 : Int32))]))
    refine own_go (fun _ k => XS.icmpYes X30.here hx rfl (pc0 := 69) (pc' := 79) rfl (hb hby at_69) rfl (flt (by decide : ¬ ((4 : Int32) < (2 : Int32)))).2.2.2 (by decide) (by decide) k) ?_
    show own_R _ _ _ _ (T30.setTop (mkF m 79 #[.val (.int p1), .val (.int q2), .val (.int q3), .val (.int q4), .val (.int q5), .val (.int q6), .val (.int (2 : Int32)), .val (.ref b17), .unset, .unset] []))
    refine own_go (fun _ k => XS.aload X30.here hx rfl (hb hby at_79) rfl rfl k) ?_
    show own_R _ _ _ _ (T30.setTop (mkF m 81 #[.val (.int p1), .val (.int q2), .val (.int q3), .val (.int q4), .val (.int q5), .val (.int q6), .val (.int (2 : Int32)), .val (.ref b17), .unset, .unset] [(.ref b17)]))
    obtain ⟨cq31, kq31, q31a, q31b, q31c⟩ := isOf hZ e30 E_b17
    obtain ⟨_, _, ⟨T31, L31, k31, n31⟩, -, X31, ⟨Lc31, hQ31, l31, y31, z31⟩, st31⟩ := X30.virtualBack hx (y := (⟨"com/example/austere_nets/austerenets/minimize/IntList", "toArray", "()[I"⟩ : MethodName)) (z := (⟨"com/example/austere_nets/austerenets/minimize/IntList", "toArray", "()[I"⟩ : MethodName)) hown (mvT hZ (hw _ (List.mem_of_getElem? (i := 13) rfl))) (mvT hZ (hw _ (List.mem_of_getElem? (i := 14) rfl))) (notFace_of_selects (args := #[]) (mvT hZ (hw _ (List.mem_of_getElem? (i := 16) rfl)))) (mvT hZ (hw _ (List.mem_of_getElem? (i := 16) rfl))) (mvT hZ (hw _ (List.mem_of_getElem? (i := 15) rfl))) (by decide) (backOf (W := 0) (rm3 l Z a0 hw [] b17 c19 kc19 (2 : Int32) [(.int q2), (.int q3), (.int (0 : Int32)), (.int (0 : Int32)), (.int (0 : Int32)), (.int (0 : Int32)), (.int (0 : Int32)), (.int (0 : Int32)), (.int (0 : Int32)), (.int (0 : Int32)), (.int (0 : Int32)), (.int (0 : Int32)), (.int (0 : Int32)), (.int (0 : Int32)), (.int (0 : Int32)), (.int (0 : Int32))] h30 n0 ZS F_values_b17 F_size_b17 V_c19 (by decide) (by decide) (by decide)) hZ (hw _ (List.mem_of_getElem? (i := 17) rfl)) (hw _ (List.mem_of_getElem? (i := 3) rfl)) (by decide) (by decide)) q31a q31c (g := (mkF m 81 #[.val (.int p1), .val (.int q2), .val (.int q3), .val (.int q4), .val (.int q5), .val (.int q6), .val (.int (2 : Int32)), .val (.ref b17), .unset, .unset] [(.ref b17)])) rfl (by rw [hml]; rfl) (Steps.refl _) (argsL := []) (rest := []) (lenOf pd_3 rfl) rfl (by show 2 * 0 + _ ≤ _; exact Nat.le_of_eq rfl) (hb hby at_81) (fun _ _ => ⟨rfl, e30, (by decide : 2 + 1 ≤ _), (by decide : 18 + 16 ≤ _)⟩)
    dsimp only [Pt.U, Pt.locs, Pt.cells, Pt.slots] at X31 l31 y31 z31 st31 hQ31
    subst l31 y31 z31
    obtain ⟨h31, e31'⟩ : ∃ z, z = T31.heap := ⟨_, rfl⟩
    rw [← e31'] at hQ31
    have e31 : T31.heap = h31 := e31'.symm
    obtain ⟨c32, rfl, N31q, K31, hbc32, kc32, Vc32'⟩ := hQ31
    have NF := Fr.app NF N31q
    refine own_go (fun _ k => st31.trans k) ?_
    have ne_b17_c32 : b17 ≠ c32 := Nat.ne_of_lt (Nat.lt_of_lt_of_le E_b17.lt hbc32)
    have ne_c19_c32 : c19 ≠ c32 := Nat.ne_of_lt (Nat.lt_of_lt_of_le V_c19.lt hbc32)
    have g_c32 : n0 ≤ c32 := Nat.le_trans ZS hbc32
    have sz_c32 : h0.size ≤ c32 := Nat.le_trans KP.1 hbc32
    have E_b17 := E_b17.keep K31
    have F_size_b17 := F_size_b17.keep K31 nin0
    have F_values_b17 := F_values_b17.keep K31 nin0
    have V_c19 := V_c19.keep K31 nin0
    have ZS := Nat.le_trans ZS K31.1
    have KP := KP.trans K31 all0
    have V_c32 : Arv Z h31 c32 kc32 .int (2 : Int32) [(.int q2), (.int q3)] (.int (0 : Int32)) := Vc32'
    show own_R _ _ _ _ (T31.setTop (mkF m 84 #[.val (.int p1), .val (.int q2), .val (.int q3), .val (.int q4), .val (.int q5), .val (.int q6), .val (.int (2 : Int32)), .val (.ref b17), .unset, .unset] [(.ref c32)]))
    refine own_go (fun _ k => XS.astore X31.here hx rfl (hb hby at_84) rfl rfl (l' := #[.val (.int p1), .val (.int q2), .val (.int q3), .val (.int q4), .val (.int q5), .val (.int q6), .val (.int (2 : Int32)), .val (.ref b17), .val (.ref c32), .unset]) rfl k) ?_
    show own_R _ _ _ _ (T31.setTop (mkF m 86 #[.val (.int p1), .val (.int q2), .val (.int q3), .val (.int q4), .val (.int q5), .val (.int q6), .val (.int (2 : Int32)), .val (.ref b17), .val (.ref c32), .unset] []))
    refine own_go (fun _ k => XS.aload X31.here hx rfl (hb hby at_86) rfl rfl k) ?_
    show own_R _ _ _ _ (T31.setTop (mkF m 88 #[.val (.int p1), .val (.int q2), .val (.int q3), .val (.int q4), .val (.int q5), .val (.int q6), .val (.int (2 : Int32)), .val (.ref b17), .val (.ref c32), .unset] [(.ref c32)]))
    refine own_go (fun _ k => XS.iload X31.here hx rfl (hb hby at_88) rfl k) ?_
    show own_R _ _ _ _ (T31.setTop (mkF m 90 #[.val (.int p1), .val (.int q2), .val (.int q3), .val (.int q4), .val (.int q5), .val (.int q6), .val (.int (2 : Int32)), .val (.ref b17), .val (.ref c32), .unset] [(.int (2 : Int32)), (.ref c32)]))
    refine own_go (fun _ k => XS.iloadN X31.here hx rfl (hb hby at_90) rfl k) ?_
    show own_R _ _ _ _ (T31.setTop (mkF m 91 #[.val (.int p1), .val (.int q2), .val (.int q3), .val (.int q4), .val (.int q5), .val (.int q6), .val (.int (2 : Int32)), .val (.ref b17), .val (.ref c32), .unset] [(.int q2), (.int (2 : Int32)), (.ref c32)]))
    refine own_go (fun _ k => XS.iloadN X31.here hx rfl (hb hby at_91) rfl k) ?_
    show own_R _ _ _ _ (T31.setTop (mkF m 92 #[.val (.int p1), .val (.int q2), .val (.int q3), .val (.int q4), .val (.int q5), .val (.int q6), .val (.int (2 : Int32)), .val (.ref b17), .val (.ref c32), .unset] [(.int q3), (.int q2), (.int (2 : Int32)), (.ref c32)]))
    refine own_go (fun _ k => XS.iloadN X31.here hx rfl (hb hby at_92) rfl k) ?_
    show own_R _ _ _ _ (T31.setTop (mkF m 93 #[.val (.int p1), .val (.int q2), .val (.int q3), .val (.int q4), .val (.int q5), .val (.int q6), .val (.int (2 : Int32)), .val (.ref b17), .val (.ref c32), .unset] [(.int q4), (.int q3), (.int q2), (.int (2 : Int32)), (.ref c32)]))
    refine own_go (fun _ k => XS.iload X31.here hx rfl (hb hby at_93) rfl k) ?_
    show own_R _ _ _ _ (T31.setTop (mkF m 95 #[.val (.int p1), .val (.int q2), .val (.int q3), .val (.int q4), .val (.int q5), .val (.int q6), .val (.int (2 : Int32)), .val (.ref b17), .val (.ref c32), .unset] [(.int q5), (.int q4), (.int q3), (.int q2), (.int (2 : Int32)), (.ref c32)]))
    refine own_go (fun _ k => XS.iload X31.here hx rfl (hb hby at_95) rfl k) ?_
    show own_R _ _ _ _ (T31.setTop (mkF m 97 #[.val (.int p1), .val (.int q2), .val (.int q3), .val (.int q4), .val (.int q5), .val (.int q6), .val (.int (2 : Int32)), .val (.ref b17), .val (.ref c32), .unset] [(.int q6), (.int q5), (.int q4), (.int q3), (.int q2), (.int (2 : Int32)), (.ref c32)]))
    obtain ⟨_, _, ⟨T32, L32, k32, n32⟩, -, X32, ⟨Lc32, hQ32, l32, y32, z32⟩, st32⟩ := Jvm.LawKit.callS X31 hx (y := (⟨"com/example/austere_nets/austerenets/minimize/IntListToArrayPinLaw", "matches", "([IIIIIII)Z"⟩ : MethodName)) hown (mvT hZ (hw _ (List.mem_of_getElem? (i := 32) rfl))) (mvT hZ (hw _ (List.mem_of_getElem? (i := 33) rfl))) (mvT hZ (hw _ (List.mem_of_getElem? (i := 34) rfl))) (mvT hZ (hw _ (List.mem_of_getElem? (i := 35) rfl))) (by decide) (backOf (W := 0) (rm6_2 l Z a0 hw [] c32 q2 q3 q4 q5 q6 kc32 h31 n0 ZS V_c32) hZ (hw _ (List.mem_of_getElem? (i := 35) rfl)) (hw _ (List.mem_of_getElem? (i := 34) rfl)) (by decide) (by decide)) (g := (mkF m 97 #[.val (.int p1), .val (.int q2), .val (.int q3), .val (.int q4), .val (.int q5), .val (.int q6), .val (.int (2 : Int32)), .val (.ref b17), .val (.ref c32), .unset] [(.int q6), (.int q5), (.int q4), (.int q3), (.int q2), (.int (2 : Int32)), (.ref c32)])) rfl (by rw [hml]; rfl) (argsL := [(.ref c32), (.int (2 : Int32)), (.int q2), (.int q3), (.int q4), (.int q5), (.int q6)]) (rest := []) (lenOf pd_4 rfl) rfl (by show 2 * 0 + _ ≤ _; exact Nat.le_of_eq rfl) (hb hby at_97) (fun _ _ => ⟨rfl, e31, (by decide : 3 + 0 ≤ _), (by decide : 34 + 0 ≤ _)⟩)
    dsimp only [Pt.U, Pt.locs, Pt.cells, Pt.slots] at X32 l32 y32 z32 st32 hQ32
    subst l32 y32 z32
    obtain ⟨rfl, N32q, e32⟩ := hQ32
    have NF := Fr.app NF N32q
    refine own_go st32 ?_
    show own_R _ _ _ _ (T32.setTop (mkF m 100 #[.val (.int p1), .val (.int q2), .val (.int q3), .val (.int q4), .val (.int q5), .val (.int q6), .val (.int (2 : Int32)), .val (.ref b17), .val (.ref c32), .unset] [(.int (1 : Int32))]))
    refine own_go (fun _ k => XS.ifYes X32.here hx rfl (pc0 := 100) (pc' := 105) rfl (hb hby at_100) rfl ((if0 _ _).trans (feq (by decide : ¬ ((1 : Int32) = (0 : Int32)))).2) (by decide) (by decide) k) ?_
    show own_R _ _ _ _ (T32.setTop (mkF m 105 #[.val (.int p1), .val (.int q2), .val (.int q3), .val (.int q4), .val (.int q5), .val (.int q6), .val (.int (2 : Int32)), .val (.ref b17), .val (.ref c32), .unset] []))
    refine own_go (fun _ k => XS.iload X32.here hx rfl (hb hby at_105) rfl k) ?_
    show own_R _ _ _ _ (T32.setTop (mkF m 107 #[.val (.int p1), .val (.int q2), .val (.int q3), .val (.int q4), .val (.int q5), .val (.int q6), .val (.int (2 : Int32)), .val (.ref b17), .val (.ref c32), .unset] [(.int (2 : Int32))]))
    refine own_go (fun _ k => XS.ifNo X32.here hx rfl (hb hby at_107) rfl ((if0 _ _).trans (tlt (by decide : (0 : Int32) < (2 : Int32))).2.2.2) k) ?_
    show own_R _ _ _ _ (T32.setTop (mkF m 110 #[.val (.int p1), .val (.int q2), .val (.int q3), .val (.int q4), .val (.int q5), .val (.int q6), .val (.int (2 : Int32)), .val (.ref b17), .val (.ref c32), .unset] []))
    refine own_go (fun _ k => XS.aload X32.here hx rfl (hb hby at_110) rfl rfl k) ?_
    show own_R _ _ _ _ (T32.setTop (mkF m 112 #[.val (.int p1), .val (.int q2), .val (.int q3), .val (.int q4), .val (.int q5), .val (.int q6), .val (.int (2 : Int32)), .val (.ref b17), .val (.ref c32), .unset] [(.ref c32)]))
    refine own_go (fun _ k => XS.iconst X32.here hx rfl (hb hby at_112) k) ?_
    show own_R _ _ _ _ (T32.setTop (mkF m 113 #[.val (.int p1), .val (.int q2), .val (.int q3), .val (.int q4), .val (.int q5), .val (.int q6), .val (.int (2 : Int32)), .val (.ref b17), .val (.ref c32), .unset] [(.int (0 : Int32)), (.ref c32)]))
    refine own_go (fun _ k => XS.aload X32.here hx rfl (hb hby at_113) rfl rfl k) ?_
    show own_R _ _ _ _ (T32.setTop (mkF m 115 #[.val (.int p1), .val (.int q2), .val (.int q3), .val (.int q4), .val (.int q5), .val (.int q6), .val (.int (2 : Int32)), .val (.ref b17), .val (.ref c32), .unset] [(.ref c32), (.int (0 : Int32)), (.ref c32)]))
    refine own_go (fun _ k => XS.iconst X32.here hx rfl (hb hby at_115) k) ?_
    show own_R _ _ _ _ (T32.setTop (mkF m 116 #[.val (.int p1), .val (.int q2), .val (.int q3), .val (.int q4), .val (.int q5), .val (.int q6), .val (.int (2 : Int32)), .val (.ref b17), .val (.ref c32), .unset] [(.int (0 : Int32)), (.ref c32), (.int (0 : Int32)), (.ref c32)]))
    refine own_go (own_ldI X32 hx hZ e32 V_c32 (j := (0 : Int32)) (i := 0) ⟨by decide, by decide⟩ rfl (v := (.int q2)) rfl (g := (mkF m 116 #[.val (.int p1), .val (.int q2), .val (.int q3), .val (.int q4), .val (.int q5), .val (.int q6), .val (.int (2 : Int32)), .val (.ref b17), .val (.ref c32), .unset] [(.int (0 : Int32)), (.ref c32), (.int (0 : Int32)), (.ref c32)])) rfl rfl (hb hby at_116)) ?_
    show own_R _ _ _ _ (T32.setTop (mkF m 117 #[.val (.int p1), .val (.int q2), .val (.int q3), .val (.int q4), .val (.int q5), .val (.int q6), .val (.int (2 : Int32)), .val (.ref b17), .val (.ref c32), .unset] [(.int q2), (.int (0 : Int32)), (.ref c32)]))
    refine own_go (fun _ k => XS.iconst X32.here hx rfl (hb hby at_117) k) ?_
    show own_R _ _ _ _ (T32.setTop (mkF m 118 #[.val (.int p1), .val (.int q2), .val (.int q3), .val (.int q4), .val (.int q5), .val (.int q6), .val (.int (2 : Int32)), .val (.ref b17), .val (.ref c32), .unset] [(.int (-1 : Int32)), (.int q2), (.int (0 : Int32)), (.ref c32)]))
    refine own_go (fun _ k => XS.ixor X32.here hx rfl (hb hby at_118) rfl k) ?_
    show own_R _ _ _ _ (T32.setTop (mkF m 119 #[.val (.int p1), .val (.int q2), .val (.int q3), .val (.int q4), .val (.int q5), .val (.int q6), .val (.int (2 : Int32)), .val (.ref b17), .val (.ref c32), .unset] [(.int (q2 ^^^ (-1 : Int32))), (.int (0 : Int32)), (.ref c32)]))
    obtain ⟨T33, h33, sl33, X33, e33, W33, V33, st33⟩ := own_stI X32 hx hZ e32 V_c32 (j := (0 : Int32)) (i := 0) ⟨by decide, by decide⟩ rfl (Nat.le_of_ble_eq_true rfl) rfl (g := (mkF m 119 #[.val (.int p1), .val (.int q2), .val (.int q3), .val (.int q4), .val (.int q5), .val (.int q6), .val (.int (2 : Int32)), .val (.ref b17), .val (.ref c32), .unset] [(.int (q2 ^^^ (-1 : Int32))), (.int (0 : Int32)), (.ref c32)])) rfl rfl (hb hby at_119)
    refine own_go st33 ?_
    have E_b17 := E_b17.wr W33
    have F_size_b17 := F_size_b17.other W33 (Or.inl ne_b17_c32)
    have F_values_b17 := F_values_b17.other W33 (Or.inl ne_b17_c32)
    have V_c19 := V_c19.other W33 ne_c19_c32
    have ZS := Nat.le_trans ZS (Keep.of_wr W33).1
    have KP := KP.wr W33 (Or.inr sz_c32)
    have NF := Fr.snoc X33 NF g_c32
    have V_c32 : Arv Z h33 c32 kc32 .int (2 : Int32) [(.int (q2 ^^^ (-1 : Int32))), (.int q3)] (.int (0 : Int32)) := V33
    show own_R _ _ _ _ (T33.setTop (mkF m 120 #[.val (.int p1), .val (.int q2), .val (.int q3), .val (.int q4), .val (.int q5), .val (.int q6), .val (.int (2 : Int32)), .val (.ref b17), .val (.ref c32), .unset] []))
    refine own_go (fun _ k => XS.aload X33.here hx rfl (hb hby at_120) rfl rfl k) ?_
    show own_R _ _ _ _ (T33.setTop (mkF m 122 #[.val (.int p1), .val (.int q2), .val (.int q3), .val (.int q4), .val (.int q5), .val (.int q6), .val (.int (2 : Int32)), .val (.ref b17), .val (.ref c32), .unset] [(.ref b17)]))
    obtain ⟨cq34, kq34, q34a, q34b, q34c⟩ := isOf hZ e33 E_b17
    obtain ⟨_, _, ⟨T34, L34, k34, n34⟩, -, X34, ⟨Lc34, hQ34, l34, y34, z34⟩, st34⟩ := X33.virtualBack hx (y := (⟨"com/example/austere_nets/austerenets/minimize/IntList", "toArray", "()[I"⟩ : MethodName)) (z := (⟨"com/example/austere_nets/austerenets/minimize/IntList", "toArray", "()[I"⟩ : MethodName)) hown (mvT hZ (hw _ (List.mem_of_getElem? (i := 13) rfl))) (mvT hZ (hw _ (List.mem_of_getElem? (i := 14) rfl))) (notFace_of_selects (args := #[]) (mvT hZ (hw _ (List.mem_of_getElem? (i := 16) rfl)))) (mvT hZ (hw _ (List.mem_of_getElem? (i := 16) rfl))) (mvT hZ (hw _ (List.mem_of_getElem? (i := 15) rfl))) (by decide) (backOf (W := 0) (rm3 l Z a0 hw [] b17 c19 kc19 (2 : Int32) [(.int q2), (.int q3), (.int (0 : Int32)), (.int (0 : Int32)), (.int (0 : Int32)), (.int (0 : Int32)), (.int (0 : Int32)), (.int (0 : Int32)), (.int (0 : Int32)), (.int (0 : Int32)), (.int (0 : Int32)), (.int (0 : Int32)), (.int (0 : Int32)), (.int (0 : Int32)), (.int (0 : Int32)), (.int (0 : Int32))] h33 n0 ZS F_values_b17 F_size_b17 V_c19 (by decide) (by decide) (by decide)) hZ (hw _ (List.mem_of_getElem? (i := 17) rfl)) (hw _ (List.mem_of_getElem? (i := 3) rfl)) (by decide) (by decide)) q34a q34c (g := (mkF m 122 #[.val (.int p1), .val (.int q2), .val (.int q3), .val (.int q4), .val (.int q5), .val (.int q6), .val (.int (2 : Int32)), .val (.ref b17), .val (.ref c32), .unset] [(.ref b17)])) rfl (by rw [hml]; rfl) (Steps.refl _) (argsL := []) (rest := []) (lenOf pd_3 rfl) rfl (by show 2 * 0 + _ ≤ _; exact Nat.le_of_eq rfl) (hb hby at_122) (fun _ _ => ⟨rfl, e33, (by decide : 3 + 1 ≤ _), (by decide : 34 + 16 ≤ _)⟩)
    dsimp only [Pt.U, Pt.locs, Pt.cells, Pt.slots] at X34 l34 y34 z34 st34 hQ34
    subst l34 y34 z34
    obtain ⟨h34, e34'⟩ : ∃ z, z = T34.heap := ⟨_, rfl⟩
    rw [← e34'] at hQ34
    have e34 : T34.heap = h34 := e34'.symm
    obtain ⟨c35, rfl, N34q, K34, hbc35, kc35, Vc35'⟩ := hQ34
    have NF := Fr.app NF N34q
    refine own_go (fun _ k => st34.trans k) ?_
    have ne_b17_c35 : b17 ≠ c35 := Nat.ne_of_lt (Nat.lt_of_lt_of_le E_b17.lt hbc35)
    have ne_c19_c35 : c19 ≠ c35 := Nat.ne_of_lt (Nat.lt_of_lt_of_le V_c19.lt hbc35)
    have ne_c32_c35 : c32 ≠ c35 := Nat.ne_of_lt (Nat.lt_of_lt_of_le V_c32.lt hbc35)
    have g_c35 : n0 ≤ c35 := Nat.le_trans ZS hbc35
    have sz_c35 : h0.size ≤ c35 := Nat.le_trans KP.1 hbc35
    have E_b17 := E_b17.keep K34
    have F_size_b17 := F_size_b17.keep K34 nin0
    have F_values_b17 := F_values_b17.keep K34 nin0
    have V_c19 := V_c19.keep K34 nin0
    have V_c32 := V_c32.keep K34 nin0
    have ZS := Nat.le_trans ZS K34.1
    have KP := KP.trans K34 all0
    have V_c35 : Arv Z h34 c35 kc35 .int (2 : Int32) [(.int q2), (.int q3)] (.int (0 : Int32)) := Vc35'
    show own_R _ _ _ _ (T34.setTop (mkF m 125 #[.val (.int p1), .val (.int q2), .val (.int q3), .val (.int q4), .val (.int q5), .val (.int q6), .val (.int (2 : Int32)), .val (.ref b17), .val (.ref c32), .unset] [(.ref c35)]))
    refine own_go (fun _ k => XS.astore X34.here hx rfl (hb hby at_125) rfl rfl (l' := #[.val (.int p1), .val (.int q2), .val (.int q3), .val (.int q4), .val (.int q5), .val (.int q6), .val (.int (2 : Int32)), .val (.ref b17), .val (.ref c32), .val (.ref c35)]) rfl k) ?_
    show own_R _ _ _ _ (T34.setTop (mkF m 127 #[.val (.int p1), .val (.int q2), .val (.int q3), .val (.int q4), .val (.int q5), .val (.int q6), .val (.int (2 : Int32)), .val (.ref b17), .val (.ref c32), .val (.ref c35)] []))
    refine own_go (fun _ k => XS.aload X34.here hx rfl (hb hby at_127) rfl rfl k) ?_
    show own_R _ _ _ _ (T34.setTop (mkF m 129 #[.val (.int p1), .val (.int q2), .val (.int q3), .val (.int q4), .val (.int q5), .val (.int q6), .val (.int (2 : Int32)), .val (.ref b17), .val (.ref c32), .val (.ref c35)] [(.ref c35)]))
    refine own_go (fun _ k => XS.aload X34.here hx rfl (hb hby at_129) rfl rfl k) ?_
    show own_R _ _ _ _ (T34.setTop (mkF m 131 #[.val (.int p1), .val (.int q2), .val (.int q3), .val (.int q4), .val (.int q5), .val (.int q6), .val (.int (2 : Int32)), .val (.ref b17), .val (.ref c32), .val (.ref c35)] [(.ref c32), (.ref c35)]))
    refine own_go (fun _ k => Jvm.RoadKit.acmp (g := (mkF m 131 #[.val (.int p1), .val (.int q2), .val (.int q3), .val (.int q4), .val (.int q5), .val (.int q6), .val (.int (2 : Int32)), .val (.ref b17), .val (.ref c32), .val (.ref c35)] [(.ref c32), (.ref c35)])) X34 hx rfl rfl rfl (pc0 := 131) (pc' := 136) (same := false) rfl (hb hby at_131) rfl (decide_eq_false fun q => (Ne.symm ne_c32_c35) (Value.ref.inj q)) (by decide) (by decide) k) ?_
    show own_R _ _ _ _ (T34.setTop (mkF m 136 #[.val (.int p1), .val (.int q2), .val (.int q3), .val (.int q4), .val (.int q5), .val (.int q6), .val (.int (2 : Int32)), .val (.ref b17), .val (.ref c32), .val (.ref c35)] []))
    refine own_go (fun _ k => XS.aload X34.here hx rfl (hb hby at_136) rfl rfl k) ?_
    show own_R _ _ _ _ (T34.setTop (mkF m 138 #[.val (.int p1), .val (.int q2), .val (.int q3), .val (.int q4), .val (.int q5), .val (.int q6), .val (.int (2 : Int32)), .val (.ref b17), .val (.ref c32), .val (.ref c35)] [(.ref c35)]))
    refine own_go (fun _ k => XS.iload X34.here hx rfl (hb hby at_138) rfl k) ?_
    show own_R _ _ _ _ (T34.setTop (mkF m 140 #[.val (.int p1), .val (.int q2), .val (.int q3), .val (.int q4), .val (.int q5), .val (.int q6), .val (.int (2 : Int32)), .val (.ref b17), .val (.ref c32), .val (.ref c35)] [(.int (2 : Int32)), (.ref c35)]))
    refine own_go (fun _ k => XS.iloadN X34.here hx rfl (hb hby at_140) rfl k) ?_
    show own_R _ _ _ _ (T34.setTop (mkF m 141 #[.val (.int p1), .val (.int q2), .val (.int q3), .val (.int q4), .val (.int q5), .val (.int q6), .val (.int (2 : Int32)), .val (.ref b17), .val (.ref c32), .val (.ref c35)] [(.int q2), (.int (2 : Int32)), (.ref c35)]))
    refine own_go (fun _ k => XS.iloadN X34.here hx rfl (hb hby at_141) rfl k) ?_
    show own_R _ _ _ _ (T34.setTop (mkF m 142 #[.val (.int p1), .val (.int q2), .val (.int q3), .val (.int q4), .val (.int q5), .val (.int q6), .val (.int (2 : Int32)), .val (.ref b17), .val (.ref c32), .val (.ref c35)] [(.int q3), (.int q2), (.int (2 : Int32)), (.ref c35)]))
    refine own_go (fun _ k => XS.iloadN X34.here hx rfl (hb hby at_142) rfl k) ?_
    show own_R _ _ _ _ (T34.setTop (mkF m 143 #[.val (.int p1), .val (.int q2), .val (.int q3), .val (.int q4), .val (.int q5), .val (.int q6), .val (.int (2 : Int32)), .val (.ref b17), .val (.ref c32), .val (.ref c35)] [(.int q4), (.int q3), (.int q2), (.int (2 : Int32)), (.ref c35)]))
    refine own_go (fun _ k => XS.iload X34.here hx rfl (hb hby at_143) rfl k) ?_
    show own_R _ _ _ _ (T34.setTop (mkF m 145 #[.val (.int p1), .val (.int q2), .val (.int q3), .val (.int q4), .val (.int q5), .val (.int q6), .val (.int (2 : Int32)), .val (.ref b17), .val (.ref c32), .val (.ref c35)] [(.int q5), (.int q4), (.int q3), (.int q2), (.int (2 : Int32)), (.ref c35)]))
    refine own_go (fun _ k => XS.iload X34.here hx rfl (hb hby at_145) rfl k) ?_
    show own_R _ _ _ _ (T34.setTop (mkF m 147 #[.val (.int p1), .val (.int q2), .val (.int q3), .val (.int q4), .val (.int q5), .val (.int q6), .val (.int (2 : Int32)), .val (.ref b17), .val (.ref c32), .val (.ref c35)] [(.int q6), (.int q5), (.int q4), (.int q3), (.int q2), (.int (2 : Int32)), (.ref c35)]))
    obtain ⟨_, _, ⟨T35, L35, k35, n35⟩, -, X35, ⟨Lc35, hQ35, l35, y35, z35⟩, st35⟩ := Jvm.LawKit.callS X34 hx (y := (⟨"com/example/austere_nets/austerenets/minimize/IntListToArrayPinLaw", "matches", "([IIIIIII)Z"⟩ : MethodName)) hown (mvT hZ (hw _ (List.mem_of_getElem? (i := 32) rfl))) (mvT hZ (hw _ (List.mem_of_getElem? (i := 33) rfl))) (mvT hZ (hw _ (List.mem_of_getElem? (i := 34) rfl))) (mvT hZ (hw _ (List.mem_of_getElem? (i := 35) rfl))) (by decide) (backOf (W := 0) (rm6_2 l Z a0 hw [] c35 q2 q3 q4 q5 q6 kc35 h34 n0 ZS V_c35) hZ (hw _ (List.mem_of_getElem? (i := 35) rfl)) (hw _ (List.mem_of_getElem? (i := 34) rfl)) (by decide) (by decide)) (g := (mkF m 147 #[.val (.int p1), .val (.int q2), .val (.int q3), .val (.int q4), .val (.int q5), .val (.int q6), .val (.int (2 : Int32)), .val (.ref b17), .val (.ref c32), .val (.ref c35)] [(.int q6), (.int q5), (.int q4), (.int q3), (.int q2), (.int (2 : Int32)), (.ref c35)])) rfl (by rw [hml]; rfl) (argsL := [(.ref c35), (.int (2 : Int32)), (.int q2), (.int q3), (.int q4), (.int q5), (.int q6)]) (rest := []) (lenOf pd_4 rfl) rfl (by show 2 * 0 + _ ≤ _; exact Nat.le_of_eq rfl) (hb hby at_147) (fun _ _ => ⟨rfl, e34, (by decide : 4 + 0 ≤ _), (by decide : 50 + 0 ≤ _)⟩)
    dsimp only [Pt.U, Pt.locs, Pt.cells, Pt.slots] at X35 l35 y35 z35 st35 hQ35
    subst l35 y35 z35
    obtain ⟨rfl, N35q, e35⟩ := hQ35
    have NF := Fr.app NF N35q
    refine own_go st35 ?_
    show own_R _ _ _ _ (T35.setTop (mkF m 150 #[.val (.int p1), .val (.int q2), .val (.int q3), .val (.int q4), .val (.int q5), .val (.int q6), .val (.int (2 : Int32)), .val (.ref b17), .val (.ref c32), .val (.ref c35)] [(.int (1 : Int32))]))
    exact own_retN X35 hx (t := .boolean) (by simp) Bd.returns (hb hby at_150) hlk ⟨rfl, NF⟩ (by decide) (by decide)
  · show own_R _ _ _ _ (T18.setTop (mkF m 18 #[.val (.int p1), .val (.int q2), .val (.int q3), .val (.int q4), .val (.int q5), .val (.int q6), .val (.int (3 : Int32)), .val (.ref b17), .unset, .unset] []))
    refine own_go (fun _ k => XS.iload X18.here hx rfl (hb hby at_18) rfl k) ?_
    show own_R _ _ _ _ (T18.setTop (mkF m 20 #[.val (.int p1), .val (.int q2), .val (.int q3), .val (.int q4), .val (.int q5), .val (.int q6), .val (.int (3 : Int32)), .val (.ref b17), .unset, .unset] [(.int (3 : Int32))]))
    refine own_go (fun _ k => XS.ifNo X18.here hx rfl (hb hby at_20) rfl ((if0 _ _).trans (tlt (by decide : (0 : Int32) < (3 : Int32))).2.2.2) k) ?_
    show own_R _ _ _ _ (T18.setTop (mkF m 23 #[.val (.int p1), .val (.int q2), .val (.int q3), .val (.int q4), .val (.int q5), .val (.int q6), .val (.int (3 : Int32)), .val (.ref b17), .unset, .unset] []))
    refine own_go (fun _ k => XS.aload X18.here hx rfl (hb hby at_23) rfl rfl k) ?_
    show own_R _ _ _ _ (T18.setTop (mkF m 25 #[.val (.int p1), .val (.int q2), .val (.int q3), .val (.int q4), .val (.int q5), .val (.int q6), .val (.int (3 : Int32)), .val (.ref b17), .unset, .unset] [(.ref b17)]))
    refine own_go (fun _ k => XS.iloadN X18.here hx rfl (hb hby at_25) rfl k) ?_
    show own_R _ _ _ _ (T18.setTop (mkF m 26 #[.val (.int p1), .val (.int q2), .val (.int q3), .val (.int q4), .val (.int q5), .val (.int q6), .val (.int (3 : Int32)), .val (.ref b17), .unset, .unset] [(.int q2), (.ref b17)]))
    obtain ⟨cq36, kq36, q36a, q36b, q36c⟩ := isOf hZ e18 E_b17
    obtain ⟨_, _, ⟨T36, L36, k36, n36⟩, -, X36, ⟨Lc36, hQ36, l36, y36, z36⟩, st36⟩ := X18.virtualBack hx (y := (⟨"com/example/austere_nets/austerenets/minimize/IntList", "add", "(I)V"⟩ : MethodName)) (z := (⟨"com/example/austere_nets/austerenets/minimize/IntList", "add", "(I)V"⟩ : MethodName)) hown (mvT hZ (hw _ (List.mem_of_getElem? (i := 36) rfl))) (mvT hZ (hw _ (List.mem_of_getElem? (i := 37) rfl))) (notFace_of_selects (args := #[]) (mvT hZ (hw _ (List.mem_of_getElem? (i := 39) rfl)))) (mvT hZ (hw _ (List.mem_of_getElem? (i := 39) rfl))) (mvT hZ (hw _ (List.mem_of_getElem? (i := 38) rfl))) (by decide) (backOf (W := 0) (rm7 l Z a0 hw [] b17 q2 c19 kc19 (0 : Int32) 0 [(.int (0 : Int32)), (.int (0 : Int32)), (.int (0 : Int32)), (.int (0 : Int32)), (.int (0 : Int32)), (.int (0 : Int32)), (.int (0 : Int32)), (.int (0 : Int32)), (.int (0 : Int32)), (.int (0 : Int32)), (.int (0 : Int32)), (.int (0 : Int32)), (.int (0 : Int32)), (.int (0 : Int32)), (.int (0 : Int32)), (.int (0 : Int32))] h18 n0 ZS E_b17 F_values_b17 F_size_b17 g_b17 V_c19 g_c19 ne_b17_c19 ⟨by decide, by decide⟩ rfl (Nat.le_of_ble_eq_true rfl)) hZ (hw _ (List.mem_of_getElem? (i := 40) rfl)) (hw _ (List.mem_of_getElem? (i := 3) rfl)) (by decide) (by decide)) q36a q36c (g := (mkF m 26 #[.val (.int p1), .val (.int q2), .val (.int q3), .val (.int q4), .val (.int q5), .val (.int q6), .val (.int (3 : Int32)), .val (.ref b17), .unset, .unset] [(.int q2), (.ref b17)])) rfl (by rw [hml]; rfl) (Steps.refl _) (argsL := [(.int q2)]) (rest := []) (lenOf pd_5 rfl) rfl (by show 2 * 0 + _ ≤ _; exact Nat.le_of_eq rfl) (hb hby at_26) (fun _ _ => ⟨rfl, e18, (by decide : 2 + 0 ≤ _), (by decide : 18 + 0 ≤ _)⟩)
    dsimp only [Pt.U, Pt.locs, Pt.cells, Pt.slots] at X36 l36 y36 z36 st36 hQ36
    subst l36 y36 z36
    obtain ⟨h36, e36'⟩ : ∃ z, z = T36.heap := ⟨_, rfl⟩
    rw [← e36'] at hQ36
    have e36 : T36.heap = h36 := e36'.symm
    obtain ⟨rfl, N36q, K36, pp1, pp2, pp3⟩ := hQ36
    have NF := Fr.app NF N36q
    refine own_go (fun _ k => st36.trans k) ?_
    have E_b17 := E_b17.keep K36
    have ZS := Nat.le_trans ZS K36.1
    have KP := KP.trans K36 (allS (Or.inr sz_b17) (allS (Or.inr sz_c19) all0))
    have F_size_b17 := pp1
    have F_values_b17 := pp2
    have V_c19 : Arv Z h36 c19 kc19 .int (16 : Int32) [(.int q2), (.int (0 : Int32)), (.int (0 : Int32)), (.int (0 : Int32)), (.int (0 : Int32)), (.int (0 : Int32)), (.int (0 : Int32)), (.int (0 : Int32)), (.int (0 : Int32)), (.int (0 : Int32)), (.int (0 : Int32)), (.int (0 : Int32)), (.int (0 : Int32)), (.int (0 : Int32)), (.int (0 : Int32)), (.int (0 : Int32))] (.int (0 : Int32)) := pp3
    show own_R _ _ _ _ (T36.setTop (mkF m 29 #[.val (.int p1), .val (.int q2), .val (.int q3), .val (.int q4), .val (.int q5), .val (.int q6), .val (.int (3 : Int32)), .val (.ref b17), .unset, .unset] []))
    refine own_go (fun _ k => XS.iload X36.here hx rfl (hb hby at_29) rfl k) ?_
    show own_R _ _ _ _ (T36.setTop (mkF m 31 #[.val (.int p1), .val (.int q2), .val (.int q3), .val (.int q4), .val (.int q5), .val (.int q6), .val (.int (3 : Int32)), .val (.ref b17), .unset, .unset] [(.int (3 : Int32))]))
    refine own_go (fun _ k => XS.iconst X36.here hx rfl (hb hby at_31) k) ?_
    show own_R _ _ _ _ (T36.setTop (mkF m 32 #[.val (.int p1), .val (.int q2), .val (.int q3), .val (.int q4), .val (.int q5), .val (.int q6), .val (.int (3 : Int32)), .val (.ref b17), .unset, .unset] [(.int (1 : Int32)), (.int (3 : Int32))]))
    refine own_go (fun _ k => XS.icmpNo X36.here hx rfl (hb hby at_32) rfl (tlt (by decide : (1 : Int32) < (3 : Int32))).2.2.2 k) ?_
    show own_R _ _ _ _ (T36.setTop (mkF m 35 #[.val (.int p1), .val (.int q2), .val (.int q3), .val (.int q4), .val (.int q5), .val (.int q6), .val (.int (3 : Int32)), .val (.ref b17), .unset, .unset] []))
    refine own_go (fun _ k => XS.aload X36.here hx rfl (hb hby at_35) rfl rfl k) ?_
    show own_R _ _ _ _ (T36.setTop (mkF m 37 #[.val (.int p1), .val (.int q2), .val (.int q3), .val (.int q4), .val (.int q5), .val (.int q6), .val (.int (3 : Int32)), .val (.ref b17), .unset, .unset] [(.ref b17)]))
    refine own_go (fun _ k => XS.iloadN X36.here hx rfl (hb hby at_37) rfl k) ?_
    show own_R _ _ _ _ (T36.setTop (mkF m 38 #[.val (.int p1), .val (.int q2), .val (.int q3), .val (.int q4), .val (.int q5), .val (.int q6), .val (.int (3 : Int32)), .val (.ref b17), .unset, .unset] [(.int q3), (.ref b17)]))
    obtain ⟨cq37, kq37, q37a, q37b, q37c⟩ := isOf hZ e36 E_b17
    obtain ⟨_, _, ⟨T37, L37, k37, n37⟩, -, X37, ⟨Lc37, hQ37, l37, y37, z37⟩, st37⟩ := X36.virtualBack hx (y := (⟨"com/example/austere_nets/austerenets/minimize/IntList", "add", "(I)V"⟩ : MethodName)) (z := (⟨"com/example/austere_nets/austerenets/minimize/IntList", "add", "(I)V"⟩ : MethodName)) hown (mvT hZ (hw _ (List.mem_of_getElem? (i := 36) rfl))) (mvT hZ (hw _ (List.mem_of_getElem? (i := 37) rfl))) (notFace_of_selects (args := #[]) (mvT hZ (hw _ (List.mem_of_getElem? (i := 39) rfl)))) (mvT hZ (hw _ (List.mem_of_getElem? (i := 39) rfl))) (mvT hZ (hw _ (List.mem_of_getElem? (i := 38) rfl))) (by decide) (backOf (W := 0) (rm7 l Z a0 hw [] b17 q3 c19 kc19 (1 : Int32) 1 [(.int q2), (.int (0 : Int32)), (.int (0 : Int32)), (.int (0 : Int32)), (.int (0 : Int32)), (.int (0 : Int32)), (.int (0 : Int32)), (.int (0 : Int32)), (.int (0 : Int32)), (.int (0 : Int32)), (.int (0 : Int32)), (.int (0 : Int32)), (.int (0 : Int32)), (.int (0 : Int32)), (.int (0 : Int32)), (.int (0 : Int32))] h36 n0 ZS E_b17 F_values_b17 F_size_b17 g_b17 V_c19 g_c19 ne_b17_c19 ⟨by decide, by decide⟩ rfl (Nat.le_of_ble_eq_true rfl)) hZ (hw _ (List.mem_of_getElem? (i := 40) rfl)) (hw _ (List.mem_of_getElem? (i := 3) rfl)) (by decide) (by decide)) q37a q37c (g := (mkF m 38 #[.val (.int p1), .val (.int q2), .val (.int q3), .val (.int q4), .val (.int q5), .val (.int q6), .val (.int (3 : Int32)), .val (.ref b17), .unset, .unset] [(.int q3), (.ref b17)])) rfl (by rw [hml]; rfl) (Steps.refl _) (argsL := [(.int q3)]) (rest := []) (lenOf pd_5 rfl) rfl (by show 2 * 0 + _ ≤ _; exact Nat.le_of_eq rfl) (hb hby at_38) (fun _ _ => ⟨rfl, e36, (by decide : 2 + 0 ≤ _), (by decide : 18 + 0 ≤ _)⟩)
    dsimp only [Pt.U, Pt.locs, Pt.cells, Pt.slots] at X37 l37 y37 z37 st37 hQ37
    subst l37 y37 z37
    obtain ⟨h37, e37'⟩ : ∃ z, z = T37.heap := ⟨_, rfl⟩
    rw [← e37'] at hQ37
    have e37 : T37.heap = h37 := e37'.symm
    obtain ⟨rfl, N37q, K37, pp1, pp2, pp3⟩ := hQ37
    have NF := Fr.app NF N37q
    refine own_go (fun _ k => st37.trans k) ?_
    have E_b17 := E_b17.keep K37
    have ZS := Nat.le_trans ZS K37.1
    have KP := KP.trans K37 (allS (Or.inr sz_b17) (allS (Or.inr sz_c19) all0))
    have F_size_b17 := pp1
    have F_values_b17 := pp2
    have V_c19 : Arv Z h37 c19 kc19 .int (16 : Int32) [(.int q2), (.int q3), (.int (0 : Int32)), (.int (0 : Int32)), (.int (0 : Int32)), (.int (0 : Int32)), (.int (0 : Int32)), (.int (0 : Int32)), (.int (0 : Int32)), (.int (0 : Int32)), (.int (0 : Int32)), (.int (0 : Int32)), (.int (0 : Int32)), (.int (0 : Int32)), (.int (0 : Int32)), (.int (0 : Int32))] (.int (0 : Int32)) := pp3
    show own_R _ _ _ _ (T37.setTop (mkF m 41 #[.val (.int p1), .val (.int q2), .val (.int q3), .val (.int q4), .val (.int q5), .val (.int q6), .val (.int (3 : Int32)), .val (.ref b17), .unset, .unset] []))
    refine own_go (fun _ k => XS.iload X37.here hx rfl (hb hby at_41) rfl k) ?_
    show own_R _ _ _ _ (T37.setTop (mkF m 43 #[.val (.int p1), .val (.int q2), .val (.int q3), .val (.int q4), .val (.int q5), .val (.int q6), .val (.int (3 : Int32)), .val (.ref b17), .unset, .unset] [(.int (3 : Int32))]))
    refine own_go (fun _ k => XS.iconst X37.here hx rfl (hb hby at_43) k) ?_
    show own_R _ _ _ _ (T37.setTop (mkF m 44 #[.val (.int p1), .val (.int q2), .val (.int q3), .val (.int q4), .val (.int q5), .val (.int q6), .val (.int (3 : Int32)), .val (.ref b17), .unset, .unset] [(.int (2 : Int32)), (.int (3 : Int32))]))
    refine own_go (fun _ k => XS.icmpNo X37.here hx rfl (hb hby at_44) rfl (tlt (by decide : (2 : Int32) < (3 : Int32))).2.2.2 k) ?_
    show own_R _ _ _ _ (T37.setTop (mkF m 47 #[.val (.int p1), .val (.int q2), .val (.int q3), .val (.int q4), .val (.int q5), .val (.int q6), .val (.int (3 : Int32)), .val (.ref b17), .unset, .unset] []))
    refine own_go (fun _ k => XS.aload X37.here hx rfl (hb hby at_47) rfl rfl k) ?_
    show own_R _ _ _ _ (T37.setTop (mkF m 49 #[.val (.int p1), .val (.int q2), .val (.int q3), .val (.int q4), .val (.int q5), .val (.int q6), .val (.int (3 : Int32)), .val (.ref b17), .unset, .unset] [(.ref b17)]))
    refine own_go (fun _ k => XS.iloadN X37.here hx rfl (hb hby at_49) rfl k) ?_
    show own_R _ _ _ _ (T37.setTop (mkF m 50 #[.val (.int p1), .val (.int q2), .val (.int q3), .val (.int q4), .val (.int q5), .val (.int q6), .val (.int (3 : Int32)), .val (.ref b17), .unset, .unset] [(.int q4), (.ref b17)]))
    obtain ⟨cq38, kq38, q38a, q38b, q38c⟩ := isOf hZ e37 E_b17
    obtain ⟨_, _, ⟨T38, L38, k38, n38⟩, -, X38, ⟨Lc38, hQ38, l38, y38, z38⟩, st38⟩ := X37.virtualBack hx (y := (⟨"com/example/austere_nets/austerenets/minimize/IntList", "add", "(I)V"⟩ : MethodName)) (z := (⟨"com/example/austere_nets/austerenets/minimize/IntList", "add", "(I)V"⟩ : MethodName)) hown (mvT hZ (hw _ (List.mem_of_getElem? (i := 36) rfl))) (mvT hZ (hw _ (List.mem_of_getElem? (i := 37) rfl))) (notFace_of_selects (args := #[]) (mvT hZ (hw _ (List.mem_of_getElem? (i := 39) rfl)))) (mvT hZ (hw _ (List.mem_of_getElem? (i := 39) rfl))) (mvT hZ (hw _ (List.mem_of_getElem? (i := 38) rfl))) (by decide) (backOf (W := 0) (rm7 l Z a0 hw [] b17 q4 c19 kc19 (2 : Int32) 2 [(.int q2), (.int q3), (.int (0 : Int32)), (.int (0 : Int32)), (.int (0 : Int32)), (.int (0 : Int32)), (.int (0 : Int32)), (.int (0 : Int32)), (.int (0 : Int32)), (.int (0 : Int32)), (.int (0 : Int32)), (.int (0 : Int32)), (.int (0 : Int32)), (.int (0 : Int32)), (.int (0 : Int32)), (.int (0 : Int32))] h37 n0 ZS E_b17 F_values_b17 F_size_b17 g_b17 V_c19 g_c19 ne_b17_c19 ⟨by decide, by decide⟩ rfl (Nat.le_of_ble_eq_true rfl)) hZ (hw _ (List.mem_of_getElem? (i := 40) rfl)) (hw _ (List.mem_of_getElem? (i := 3) rfl)) (by decide) (by decide)) q38a q38c (g := (mkF m 50 #[.val (.int p1), .val (.int q2), .val (.int q3), .val (.int q4), .val (.int q5), .val (.int q6), .val (.int (3 : Int32)), .val (.ref b17), .unset, .unset] [(.int q4), (.ref b17)])) rfl (by rw [hml]; rfl) (Steps.refl _) (argsL := [(.int q4)]) (rest := []) (lenOf pd_5 rfl) rfl (by show 2 * 0 + _ ≤ _; exact Nat.le_of_eq rfl) (hb hby at_50) (fun _ _ => ⟨rfl, e37, (by decide : 2 + 0 ≤ _), (by decide : 18 + 0 ≤ _)⟩)
    dsimp only [Pt.U, Pt.locs, Pt.cells, Pt.slots] at X38 l38 y38 z38 st38 hQ38
    subst l38 y38 z38
    obtain ⟨h38, e38'⟩ : ∃ z, z = T38.heap := ⟨_, rfl⟩
    rw [← e38'] at hQ38
    have e38 : T38.heap = h38 := e38'.symm
    obtain ⟨rfl, N38q, K38, pp1, pp2, pp3⟩ := hQ38
    have NF := Fr.app NF N38q
    refine own_go (fun _ k => st38.trans k) ?_
    have E_b17 := E_b17.keep K38
    have ZS := Nat.le_trans ZS K38.1
    have KP := KP.trans K38 (allS (Or.inr sz_b17) (allS (Or.inr sz_c19) all0))
    have F_size_b17 := pp1
    have F_values_b17 := pp2
    have V_c19 : Arv Z h38 c19 kc19 .int (16 : Int32) [(.int q2), (.int q3), (.int q4), (.int (0 : Int32)), (.int (0 : Int32)), (.int (0 : Int32)), (.int (0 : Int32)), (.int (0 : Int32)), (.int (0 : Int32)), (.int (0 : Int32)), (.int (0 : Int32)), (.int (0 : Int32)), (.int (0 : Int32)), (.int (0 : Int32)), (.int (0 : Int32)), (.int (0 : Int32))] (.int (0 : Int32)) := pp3
    show own_R _ _ _ _ (T38.setTop (mkF m 53 #[.val (.int p1), .val (.int q2), .val (.int q3), .val (.int q4), .val (.int q5), .val (.int q6), .val (.int (3 : Int32)), .val (.ref b17), .unset, .unset] []))
    refine own_go (fun _ k => XS.iload X38.here hx rfl (hb hby at_53) rfl k) ?_
    show own_R _ _ _ _ (T38.setTop (mkF m 55 #[.val (.int p1), .val (.int q2), .val (.int q3), .val (.int q4), .val (.int q5), .val (.int q6), .val (.int (3 : Int32)), .val (.ref b17), .unset, .unset] [(.int (3 : Int32))]))
    refine own_go (fun _ k => XS.iconst X38.here hx rfl (hb hby at_55) k) ?_
    show own_R _ _ _ _ (T38.setTop (mkF m 56 #[.val (.int p1), .val (.int q2), .val (.int q3), .val (.int q4), .val (.int q5), .val (.int q6), .val (.int (3 : Int32)), .val (.ref b17), .unset, .unset] [(.int (3 : Int32)), (.int (3 : Int32))]))
    refine own_go (fun _ k => XS.icmpYes X38.here hx rfl (pc0 := 56) (pc' := 66) rfl (hb hby at_56) rfl (flt (by decide : ¬ ((3 : Int32) < (3 : Int32)))).2.2.2 (by decide) (by decide) k) ?_
    show own_R _ _ _ _ (T38.setTop (mkF m 66 #[.val (.int p1), .val (.int q2), .val (.int q3), .val (.int q4), .val (.int q5), .val (.int q6), .val (.int (3 : Int32)), .val (.ref b17), .unset, .unset] []))
    refine own_go (fun _ k => XS.iload X38.here hx rfl (hb hby at_66) rfl k) ?_
    show own_R _ _ _ _ (T38.setTop (mkF m 68 #[.val (.int p1), .val (.int q2), .val (.int q3), .val (.int q4), .val (.int q5), .val (.int q6), .val (.int (3 : Int32)), .val (.ref b17), .unset, .unset] [(.int (3 : Int32))]))
    refine own_go (fun _ k => XS.iconst X38.here hx rfl (hb hby at_68) k) ?_
    show own_R _ _ _ _ (T38.setTop (mkF m 69 #[.val (.int p1), .val (.int q2), .val (.int q3), .val (.int q4), .val (.int q5), .val (.int q6), .val (.int (3 : Int32)), .val (.ref b17), .unset, .unset] [(.int (4 : Int32)), (.int (3 : Int32))]))
    refine own_go (fun _ k => XS.icmpYes X38.here hx rfl (pc0 := 69) (pc' := 79) rfl (hb hby at_69) rfl (flt (by decide : ¬ ((4 : Int32) < (3 : Int32)))).2.2.2 (by decide) (by decide) k) ?_
    show own_R _ _ _ _ (T38.setTop (mkF m 79 #[.val (.int p1), .val (.int q2), .val (.int q3), .val (.int q4), .val (.int q5), .val (.int q6), .val (.int (3 : Int32)), .val (.ref b17), .unset, .unset] []))
    refine own_go (fun _ k => XS.aload X38.here hx rfl (hb hby at_79) rfl rfl k) ?_
    show own_R _ _ _ _ (T38.setTop (mkF m 81 #[.val (.int p1), .val (.int q2), .val (.int q3), .val (.int q4), .val (.int q5), .val (.int q6), .val (.int (3 : Int32)), .val (.ref b17), .unset, .unset] [(.ref b17)]))
    obtain ⟨cq39, kq39, q39a, q39b, q39c⟩ := isOf hZ e38 E_b17
    obtain ⟨_, _, ⟨T39, L39, k39, n39⟩, -, X39, ⟨Lc39, hQ39, l39, y39, z39⟩, st39⟩ := X38.virtualBack hx (y := (⟨"com/example/austere_nets/austerenets/minimize/IntList", "toArray", "()[I"⟩ : MethodName)) (z := (⟨"com/example/austere_nets/austerenets/minimize/IntList", "toArray", "()[I"⟩ : MethodName)) hown (mvT hZ (hw _ (List.mem_of_getElem? (i := 13) rfl))) (mvT hZ (hw _ (List.mem_of_getElem? (i := 14) rfl))) (notFace_of_selects (args := #[]) (mvT hZ (hw _ (List.mem_of_getElem? (i := 16) rfl)))) (mvT hZ (hw _ (List.mem_of_getElem? (i := 16) rfl))) (mvT hZ (hw _ (List.mem_of_getElem? (i := 15) rfl))) (by decide) (backOf (W := 0) (rm3 l Z a0 hw [] b17 c19 kc19 (3 : Int32) [(.int q2), (.int q3), (.int q4), (.int (0 : Int32)), (.int (0 : Int32)), (.int (0 : Int32)), (.int (0 : Int32)), (.int (0 : Int32)), (.int (0 : Int32)), (.int (0 : Int32)), (.int (0 : Int32)), (.int (0 : Int32)), (.int (0 : Int32)), (.int (0 : Int32)), (.int (0 : Int32)), (.int (0 : Int32))] h38 n0 ZS F_values_b17 F_size_b17 V_c19 (by decide) (by decide) (by decide)) hZ (hw _ (List.mem_of_getElem? (i := 17) rfl)) (hw _ (List.mem_of_getElem? (i := 3) rfl)) (by decide) (by decide)) q39a q39c (g := (mkF m 81 #[.val (.int p1), .val (.int q2), .val (.int q3), .val (.int q4), .val (.int q5), .val (.int q6), .val (.int (3 : Int32)), .val (.ref b17), .unset, .unset] [(.ref b17)])) rfl (by rw [hml]; rfl) (Steps.refl _) (argsL := []) (rest := []) (lenOf pd_3 rfl) rfl (by show 2 * 0 + _ ≤ _; exact Nat.le_of_eq rfl) (hb hby at_81) (fun _ _ => ⟨rfl, e38, (by decide : 2 + 1 ≤ _), (by decide : 18 + 16 ≤ _)⟩)
    dsimp only [Pt.U, Pt.locs, Pt.cells, Pt.slots] at X39 l39 y39 z39 st39 hQ39
    subst l39 y39 z39
    obtain ⟨h39, e39'⟩ : ∃ z, z = T39.heap := ⟨_, rfl⟩
    rw [← e39'] at hQ39
    have e39 : T39.heap = h39 := e39'.symm
    obtain ⟨c40, rfl, N39q, K39, hbc40, kc40, Vc40'⟩ := hQ39
    have NF := Fr.app NF N39q
    refine own_go (fun _ k => st39.trans k) ?_
    have ne_b17_c40 : b17 ≠ c40 := Nat.ne_of_lt (Nat.lt_of_lt_of_le E_b17.lt hbc40)
    have ne_c19_c40 : c19 ≠ c40 := Nat.ne_of_lt (Nat.lt_of_lt_of_le V_c19.lt hbc40)
    have g_c40 : n0 ≤ c40 := Nat.le_trans ZS hbc40
    have sz_c40 : h0.size ≤ c40 := Nat.le_trans KP.1 hbc40
    have E_b17 := E_b17.keep K39
    have F_size_b17 := F_size_b17.keep K39 nin0
    have F_values_b17 := F_values_b17.keep K39 nin0
    have V_c19 := V_c19.keep K39 nin0
    have ZS := Nat.le_trans ZS K39.1
    have KP := KP.trans K39 all0
    have V_c40 : Arv Z h39 c40 kc40 .int (3 : Int32) [(.int q2), (.int q3), (.int q4)] (.int (0 : Int32)) := Vc40'
    show own_R _ _ _ _ (T39.setTop (mkF m 84 #[.val (.int p1), .val (.int q2), .val (.int q3), .val (.int q4), .val (.int q5), .val (.int q6), .val (.int (3 : Int32)), .val (.ref b17), .unset, .unset] [(.ref c40)]))
    refine own_go (fun _ k => XS.astore X39.here hx rfl (hb hby at_84) rfl rfl (l' := #[.val (.int p1), .val (.int q2), .val (.int q3), .val (.int q4), .val (.int q5), .val (.int q6), .val (.int (3 : Int32)), .val (.ref b17), .val (.ref c40), .unset]) rfl k) ?_
    show own_R _ _ _ _ (T39.setTop (mkF m 86 #[.val (.int p1), .val (.int q2), .val (.int q3), .val (.int q4), .val (.int q5), .val (.int q6), .val (.int (3 : Int32)), .val (.ref b17), .val (.ref c40), .unset] []))
    refine own_go (fun _ k => XS.aload X39.here hx rfl (hb hby at_86) rfl rfl k) ?_
    show own_R _ _ _ _ (T39.setTop (mkF m 88 #[.val (.int p1), .val (.int q2), .val (.int q3), .val (.int q4), .val (.int q5), .val (.int q6), .val (.int (3 : Int32)), .val (.ref b17), .val (.ref c40), .unset] [(.ref c40)]))
    refine own_go (fun _ k => XS.iload X39.here hx rfl (hb hby at_88) rfl k) ?_
    show own_R _ _ _ _ (T39.setTop (mkF m 90 #[.val (.int p1), .val (.int q2), .val (.int q3), .val (.int q4), .val (.int q5), .val (.int q6), .val (.int (3 : Int32)), .val (.ref b17), .val (.ref c40), .unset] [(.int (3 : Int32)), (.ref c40)]))
    refine own_go (fun _ k => XS.iloadN X39.here hx rfl (hb hby at_90) rfl k) ?_
    show own_R _ _ _ _ (T39.setTop (mkF m 91 #[.val (.int p1), .val (.int q2), .val (.int q3), .val (.int q4), .val (.int q5), .val (.int q6), .val (.int (3 : Int32)), .val (.ref b17), .val (.ref c40), .unset] [(.int q2), (.int (3 : Int32)), (.ref c40)]))
    refine own_go (fun _ k => XS.iloadN X39.here hx rfl (hb hby at_91) rfl k) ?_
    show own_R _ _ _ _ (T39.setTop (mkF m 92 #[.val (.int p1), .val (.int q2), .val (.int q3), .val (.int q4), .val (.int q5), .val (.int q6), .val (.int (3 : Int32)), .val (.ref b17), .val (.ref c40), .unset] [(.int q3), (.int q2), (.int (3 : Int32)), (.ref c40)]))
    refine own_go (fun _ k => XS.iloadN X39.here hx rfl (hb hby at_92) rfl k) ?_
    show own_R _ _ _ _ (T39.setTop (mkF m 93 #[.val (.int p1), .val (.int q2), .val (.int q3), .val (.int q4), .val (.int q5), .val (.int q6), .val (.int (3 : Int32)), .val (.ref b17), .val (.ref c40), .unset] [(.int q4), (.int q3), (.int q2), (.int (3 : Int32)), (.ref c40)]))
    refine own_go (fun _ k => XS.iload X39.here hx rfl (hb hby at_93) rfl k) ?_
    show own_R _ _ _ _ (T39.setTop (mkF m 95 #[.val (.int p1), .val (.int q2), .val (.int q3), .val (.int q4), .val (.int q5), .val (.int q6), .val (.int (3 : Int32)), .val (.ref b17), .val (.ref c40), .unset] [(.int q5), (.int q4), (.int q3), (.int q2), (.int (3 : Int32)), (.ref c40)]))
    refine own_go (fun _ k => XS.iload X39.here hx rfl (hb hby at_95) rfl k) ?_
    show own_R _ _ _ _ (T39.setTop (mkF m 97 #[.val (.int p1), .val (.int q2), .val (.int q3), .val (.int q4), .val (.int q5), .val (.int q6), .val (.int (3 : Int32)), .val (.ref b17), .val (.ref c40), .unset] [(.int q6), (.int q5), (.int q4), (.int q3), (.int q2), (.int (3 : Int32)), (.ref c40)]))
    obtain ⟨_, _, ⟨T40, L40, k40, n40⟩, -, X40, ⟨Lc40, hQ40, l40, y40, z40⟩, st40⟩ := Jvm.LawKit.callS X39 hx (y := (⟨"com/example/austere_nets/austerenets/minimize/IntListToArrayPinLaw", "matches", "([IIIIIII)Z"⟩ : MethodName)) hown (mvT hZ (hw _ (List.mem_of_getElem? (i := 32) rfl))) (mvT hZ (hw _ (List.mem_of_getElem? (i := 33) rfl))) (mvT hZ (hw _ (List.mem_of_getElem? (i := 34) rfl))) (mvT hZ (hw _ (List.mem_of_getElem? (i := 35) rfl))) (by decide) (backOf (W := 0) (rm6_3 l Z a0 hw [] c40 q2 q3 q4 q5 q6 kc40 h39 n0 ZS V_c40) hZ (hw _ (List.mem_of_getElem? (i := 35) rfl)) (hw _ (List.mem_of_getElem? (i := 34) rfl)) (by decide) (by decide)) (g := (mkF m 97 #[.val (.int p1), .val (.int q2), .val (.int q3), .val (.int q4), .val (.int q5), .val (.int q6), .val (.int (3 : Int32)), .val (.ref b17), .val (.ref c40), .unset] [(.int q6), (.int q5), (.int q4), (.int q3), (.int q2), (.int (3 : Int32)), (.ref c40)])) rfl (by rw [hml]; rfl) (argsL := [(.ref c40), (.int (3 : Int32)), (.int q2), (.int q3), (.int q4), (.int q5), (.int q6)]) (rest := []) (lenOf pd_4 rfl) rfl (by show 2 * 0 + _ ≤ _; exact Nat.le_of_eq rfl) (hb hby at_97) (fun _ _ => ⟨rfl, e39, (by decide : 3 + 0 ≤ _), (by decide : 34 + 0 ≤ _)⟩)
    dsimp only [Pt.U, Pt.locs, Pt.cells, Pt.slots] at X40 l40 y40 z40 st40 hQ40
    subst l40 y40 z40
    obtain ⟨rfl, N40q, e40⟩ := hQ40
    have NF := Fr.app NF N40q
    refine own_go st40 ?_
    show own_R _ _ _ _ (T40.setTop (mkF m 100 #[.val (.int p1), .val (.int q2), .val (.int q3), .val (.int q4), .val (.int q5), .val (.int q6), .val (.int (3 : Int32)), .val (.ref b17), .val (.ref c40), .unset] [(.int (1 : Int32))]))
    refine own_go (fun _ k => XS.ifYes X40.here hx rfl (pc0 := 100) (pc' := 105) rfl (hb hby at_100) rfl ((if0 _ _).trans (feq (by decide : ¬ ((1 : Int32) = (0 : Int32)))).2) (by decide) (by decide) k) ?_
    show own_R _ _ _ _ (T40.setTop (mkF m 105 #[.val (.int p1), .val (.int q2), .val (.int q3), .val (.int q4), .val (.int q5), .val (.int q6), .val (.int (3 : Int32)), .val (.ref b17), .val (.ref c40), .unset] []))
    refine own_go (fun _ k => XS.iload X40.here hx rfl (hb hby at_105) rfl k) ?_
    show own_R _ _ _ _ (T40.setTop (mkF m 107 #[.val (.int p1), .val (.int q2), .val (.int q3), .val (.int q4), .val (.int q5), .val (.int q6), .val (.int (3 : Int32)), .val (.ref b17), .val (.ref c40), .unset] [(.int (3 : Int32))]))
    refine own_go (fun _ k => XS.ifNo X40.here hx rfl (hb hby at_107) rfl ((if0 _ _).trans (tlt (by decide : (0 : Int32) < (3 : Int32))).2.2.2) k) ?_
    show own_R _ _ _ _ (T40.setTop (mkF m 110 #[.val (.int p1), .val (.int q2), .val (.int q3), .val (.int q4), .val (.int q5), .val (.int q6), .val (.int (3 : Int32)), .val (.ref b17), .val (.ref c40), .unset] []))
    refine own_go (fun _ k => XS.aload X40.here hx rfl (hb hby at_110) rfl rfl k) ?_
    show own_R _ _ _ _ (T40.setTop (mkF m 112 #[.val (.int p1), .val (.int q2), .val (.int q3), .val (.int q4), .val (.int q5), .val (.int q6), .val (.int (3 : Int32)), .val (.ref b17), .val (.ref c40), .unset] [(.ref c40)]))
    refine own_go (fun _ k => XS.iconst X40.here hx rfl (hb hby at_112) k) ?_
    show own_R _ _ _ _ (T40.setTop (mkF m 113 #[.val (.int p1), .val (.int q2), .val (.int q3), .val (.int q4), .val (.int q5), .val (.int q6), .val (.int (3 : Int32)), .val (.ref b17), .val (.ref c40), .unset] [(.int (0 : Int32)), (.ref c40)]))
    refine own_go (fun _ k => XS.aload X40.here hx rfl (hb hby at_113) rfl rfl k) ?_
    show own_R _ _ _ _ (T40.setTop (mkF m 115 #[.val (.int p1), .val (.int q2), .val (.int q3), .val (.int q4), .val (.int q5), .val (.int q6), .val (.int (3 : Int32)), .val (.ref b17), .val (.ref c40), .unset] [(.ref c40), (.int (0 : Int32)), (.ref c40)]))
    refine own_go (fun _ k => XS.iconst X40.here hx rfl (hb hby at_115) k) ?_
    show own_R _ _ _ _ (T40.setTop (mkF m 116 #[.val (.int p1), .val (.int q2), .val (.int q3), .val (.int q4), .val (.int q5), .val (.int q6), .val (.int (3 : Int32)), .val (.ref b17), .val (.ref c40), .unset] [(.int (0 : Int32)), (.ref c40), (.int (0 : Int32)), (.ref c40)]))
    refine own_go (own_ldI X40 hx hZ e40 V_c40 (j := (0 : Int32)) (i := 0) ⟨by decide, by decide⟩ rfl (v := (.int q2)) rfl (g := (mkF m 116 #[.val (.int p1), .val (.int q2), .val (.int q3), .val (.int q4), .val (.int q5), .val (.int q6), .val (.int (3 : Int32)), .val (.ref b17), .val (.ref c40), .unset] [(.int (0 : Int32)), (.ref c40), (.int (0 : Int32)), (.ref c40)])) rfl rfl (hb hby at_116)) ?_
    show own_R _ _ _ _ (T40.setTop (mkF m 117 #[.val (.int p1), .val (.int q2), .val (.int q3), .val (.int q4), .val (.int q5), .val (.int q6), .val (.int (3 : Int32)), .val (.ref b17), .val (.ref c40), .unset] [(.int q2), (.int (0 : Int32)), (.ref c40)]))
    refine own_go (fun _ k => XS.iconst X40.here hx rfl (hb hby at_117) k) ?_
    show own_R _ _ _ _ (T40.setTop (mkF m 118 #[.val (.int p1), .val (.int q2), .val (.int q3), .val (.int q4), .val (.int q5), .val (.int q6), .val (.int (3 : Int32)), .val (.ref b17), .val (.ref c40), .unset] [(.int (-1 : Int32)), (.int q2), (.int (0 : Int32)), (.ref c40)]))
    refine own_go (fun _ k => XS.ixor X40.here hx rfl (hb hby at_118) rfl k) ?_
    show own_R _ _ _ _ (T40.setTop (mkF m 119 #[.val (.int p1), .val (.int q2), .val (.int q3), .val (.int q4), .val (.int q5), .val (.int q6), .val (.int (3 : Int32)), .val (.ref b17), .val (.ref c40), .unset] [(.int (q2 ^^^ (-1 : Int32))), (.int (0 : Int32)), (.ref c40)]))
    obtain ⟨T41, h41, sl41, X41, e41, W41, V41, st41⟩ := own_stI X40 hx hZ e40 V_c40 (j := (0 : Int32)) (i := 0) ⟨by decide, by decide⟩ rfl (Nat.le_of_ble_eq_true rfl) rfl (g := (mkF m 119 #[.val (.int p1), .val (.int q2), .val (.int q3), .val (.int q4), .val (.int q5), .val (.int q6), .val (.int (3 : Int32)), .val (.ref b17), .val (.ref c40), .unset] [(.int (q2 ^^^ (-1 : Int32))), (.int (0 : Int32)), (.ref c40)])) rfl rfl (hb hby at_119)
    refine own_go st41 ?_
    have E_b17 := E_b17.wr W41
    have F_size_b17 := F_size_b17.other W41 (Or.inl ne_b17_c40)
    have F_values_b17 := F_values_b17.other W41 (Or.inl ne_b17_c40)
    have V_c19 := V_c19.other W41 ne_c19_c40
    have ZS := Nat.le_trans ZS (Keep.of_wr W41).1
    have KP := KP.wr W41 (Or.inr sz_c40)
    have NF := Fr.snoc X41 NF g_c40
    have V_c40 : Arv Z h41 c40 kc40 .int (3 : Int32) [(.int (q2 ^^^ (-1 : Int32))), (.int q3), (.int q4)] (.int (0 : Int32)) := V41
    show own_R _ _ _ _ (T41.setTop (mkF m 120 #[.val (.int p1), .val (.int q2), .val (.int q3), .val (.int q4), .val (.int q5), .val (.int q6), .val (.int (3 : Int32)), .val (.ref b17), .val (.ref c40), .unset] []))
    refine own_go (fun _ k => XS.aload X41.here hx rfl (hb hby at_120) rfl rfl k) ?_
    show own_R _ _ _ _ (T41.setTop (mkF m 122 #[.val (.int p1), .val (.int q2), .val (.int q3), .val (.int q4), .val (.int q5), .val (.int q6), .val (.int (3 : Int32)), .val (.ref b17), .val (.ref c40), .unset] [(.ref b17)]))
    obtain ⟨cq42, kq42, q42a, q42b, q42c⟩ := isOf hZ e41 E_b17
    obtain ⟨_, _, ⟨T42, L42, k42, n42⟩, -, X42, ⟨Lc42, hQ42, l42, y42, z42⟩, st42⟩ := X41.virtualBack hx (y := (⟨"com/example/austere_nets/austerenets/minimize/IntList", "toArray", "()[I"⟩ : MethodName)) (z := (⟨"com/example/austere_nets/austerenets/minimize/IntList", "toArray", "()[I"⟩ : MethodName)) hown (mvT hZ (hw _ (List.mem_of_getElem? (i := 13) rfl))) (mvT hZ (hw _ (List.mem_of_getElem? (i := 14) rfl))) (notFace_of_selects (args := #[]) (mvT hZ (hw _ (List.mem_of_getElem? (i := 16) rfl)))) (mvT hZ (hw _ (List.mem_of_getElem? (i := 16) rfl))) (mvT hZ (hw _ (List.mem_of_getElem? (i := 15) rfl))) (by decide) (backOf (W := 0) (rm3 l Z a0 hw [] b17 c19 kc19 (3 : Int32) [(.int q2), (.int q3), (.int q4), (.int (0 : Int32)), (.int (0 : Int32)), (.int (0 : Int32)), (.int (0 : Int32)), (.int (0 : Int32)), (.int (0 : Int32)), (.int (0 : Int32)), (.int (0 : Int32)), (.int (0 : Int32)), (.int (0 : Int32)), (.int (0 : Int32)), (.int (0 : Int32)), (.int (0 : Int32))] h41 n0 ZS F_values_b17 F_size_b17 V_c19 (by decide) (by decide) (by decide)) hZ (hw _ (List.mem_of_getElem? (i := 17) rfl)) (hw _ (List.mem_of_getElem? (i := 3) rfl)) (by decide) (by decide)) q42a q42c (g := (mkF m 122 #[.val (.int p1), .val (.int q2), .val (.int q3), .val (.int q4), .val (.int q5), .val (.int q6), .val (.int (3 : Int32)), .val (.ref b17), .val (.ref c40), .unset] [(.ref b17)])) rfl (by rw [hml]; rfl) (Steps.refl _) (argsL := []) (rest := []) (lenOf pd_3 rfl) rfl (by show 2 * 0 + _ ≤ _; exact Nat.le_of_eq rfl) (hb hby at_122) (fun _ _ => ⟨rfl, e41, (by decide : 3 + 1 ≤ _), (by decide : 34 + 16 ≤ _)⟩)
    dsimp only [Pt.U, Pt.locs, Pt.cells, Pt.slots] at X42 l42 y42 z42 st42 hQ42
    subst l42 y42 z42
    obtain ⟨h42, e42'⟩ : ∃ z, z = T42.heap := ⟨_, rfl⟩
    rw [← e42'] at hQ42
    have e42 : T42.heap = h42 := e42'.symm
    obtain ⟨c43, rfl, N42q, K42, hbc43, kc43, Vc43'⟩ := hQ42
    have NF := Fr.app NF N42q
    refine own_go (fun _ k => st42.trans k) ?_
    have ne_b17_c43 : b17 ≠ c43 := Nat.ne_of_lt (Nat.lt_of_lt_of_le E_b17.lt hbc43)
    have ne_c19_c43 : c19 ≠ c43 := Nat.ne_of_lt (Nat.lt_of_lt_of_le V_c19.lt hbc43)
    have ne_c40_c43 : c40 ≠ c43 := Nat.ne_of_lt (Nat.lt_of_lt_of_le V_c40.lt hbc43)
    have g_c43 : n0 ≤ c43 := Nat.le_trans ZS hbc43
    have sz_c43 : h0.size ≤ c43 := Nat.le_trans KP.1 hbc43
    have E_b17 := E_b17.keep K42
    have F_size_b17 := F_size_b17.keep K42 nin0
    have F_values_b17 := F_values_b17.keep K42 nin0
    have V_c19 := V_c19.keep K42 nin0
    have V_c40 := V_c40.keep K42 nin0
    have ZS := Nat.le_trans ZS K42.1
    have KP := KP.trans K42 all0
    have V_c43 : Arv Z h42 c43 kc43 .int (3 : Int32) [(.int q2), (.int q3), (.int q4)] (.int (0 : Int32)) := Vc43'
    show own_R _ _ _ _ (T42.setTop (mkF m 125 #[.val (.int p1), .val (.int q2), .val (.int q3), .val (.int q4), .val (.int q5), .val (.int q6), .val (.int (3 : Int32)), .val (.ref b17), .val (.ref c40), .unset] [(.ref c43)]))
    refine own_go (fun _ k => XS.astore X42.here hx rfl (hb hby at_125) rfl rfl (l' := #[.val (.int p1), .val (.int q2), .val (.int q3), .val (.int q4), .val (.int q5), .val (.int q6), .val (.int (3 : Int32)), .val (.ref b17), .val (.ref c40), .val (.ref c43)]) rfl k) ?_
    show own_R _ _ _ _ (T42.setTop (mkF m 127 #[.val (.int p1), .val (.int q2), .val (.int q3), .val (.int q4), .val (.int q5), .val (.int q6), .val (.int (3 : Int32)), .val (.ref b17), .val (.ref c40), .val (.ref c43)] []))
    refine own_go (fun _ k => XS.aload X42.here hx rfl (hb hby at_127) rfl rfl k) ?_
    show own_R _ _ _ _ (T42.setTop (mkF m 129 #[.val (.int p1), .val (.int q2), .val (.int q3), .val (.int q4), .val (.int q5), .val (.int q6), .val (.int (3 : Int32)), .val (.ref b17), .val (.ref c40), .val (.ref c43)] [(.ref c43)]))
    refine own_go (fun _ k => XS.aload X42.here hx rfl (hb hby at_129) rfl rfl k) ?_
    show own_R _ _ _ _ (T42.setTop (mkF m 131 #[.val (.int p1), .val (.int q2), .val (.int q3), .val (.int q4), .val (.int q5), .val (.int q6), .val (.int (3 : Int32)), .val (.ref b17), .val (.ref c40), .val (.ref c43)] [(.ref c40), (.ref c43)]))
    refine own_go (fun _ k => Jvm.RoadKit.acmp (g := (mkF m 131 #[.val (.int p1), .val (.int q2), .val (.int q3), .val (.int q4), .val (.int q5), .val (.int q6), .val (.int (3 : Int32)), .val (.ref b17), .val (.ref c40), .val (.ref c43)] [(.ref c40), (.ref c43)])) X42 hx rfl rfl rfl (pc0 := 131) (pc' := 136) (same := false) rfl (hb hby at_131) rfl (decide_eq_false fun q => (Ne.symm ne_c40_c43) (Value.ref.inj q)) (by decide) (by decide) k) ?_
    show own_R _ _ _ _ (T42.setTop (mkF m 136 #[.val (.int p1), .val (.int q2), .val (.int q3), .val (.int q4), .val (.int q5), .val (.int q6), .val (.int (3 : Int32)), .val (.ref b17), .val (.ref c40), .val (.ref c43)] []))
    refine own_go (fun _ k => XS.aload X42.here hx rfl (hb hby at_136) rfl rfl k) ?_
    show own_R _ _ _ _ (T42.setTop (mkF m 138 #[.val (.int p1), .val (.int q2), .val (.int q3), .val (.int q4), .val (.int q5), .val (.int q6), .val (.int (3 : Int32)), .val (.ref b17), .val (.ref c40), .val (.ref c43)] [(.ref c43)]))
    refine own_go (fun _ k => XS.iload X42.here hx rfl (hb hby at_138) rfl k) ?_
    show own_R _ _ _ _ (T42.setTop (mkF m 140 #[.val (.int p1), .val (.int q2), .val (.int q3), .val (.int q4), .val (.int q5), .val (.int q6), .val (.int (3 : Int32)), .val (.ref b17), .val (.ref c40), .val (.ref c43)] [(.int (3 : Int32)), (.ref c43)]))
    refine own_go (fun _ k => XS.iloadN X42.here hx rfl (hb hby at_140) rfl k) ?_
    show own_R _ _ _ _ (T42.setTop (mkF m 141 #[.val (.int p1), .val (.int q2), .val (.int q3), .val (.int q4), .val (.int q5), .val (.int q6), .val (.int (3 : Int32)), .val (.ref b17), .val (.ref c40), .val (.ref c43)] [(.int q2), (.int (3 : Int32)), (.ref c43)]))
    refine own_go (fun _ k => XS.iloadN X42.here hx rfl (hb hby at_141) rfl k) ?_
    show own_R _ _ _ _ (T42.setTop (mkF m 142 #[.val (.int p1), .val (.int q2), .val (.int q3), .val (.int q4), .val (.int q5), .val (.int q6), .val (.int (3 : Int32)), .val (.ref b17), .val (.ref c40), .val (.ref c43)] [(.int q3), (.int q2), (.int (3 : Int32)), (.ref c43)]))
    refine own_go (fun _ k => XS.iloadN X42.here hx rfl (hb hby at_142) rfl k) ?_
    show own_R _ _ _ _ (T42.setTop (mkF m 143 #[.val (.int p1), .val (.int q2), .val (.int q3), .val (.int q4), .val (.int q5), .val (.int q6), .val (.int (3 : Int32)), .val (.ref b17), .val (.ref c40), .val (.ref c43)] [(.int q4), (.int q3), (.int q2), (.int (3 : Int32)), (.ref c43)]))
    refine own_go (fun _ k => XS.iload X42.here hx rfl (hb hby at_143) rfl k) ?_
    show own_R _ _ _ _ (T42.setTop (mkF m 145 #[.val (.int p1), .val (.int q2), .val (.int q3), .val (.int q4), .val (.int q5), .val (.int q6), .val (.int (3 : Int32)), .val (.ref b17), .val (.ref c40), .val (.ref c43)] [(.int q5), (.int q4), (.int q3), (.int q2), (.int (3 : Int32)), (.ref c43)]))
    refine own_go (fun _ k => XS.iload X42.here hx rfl (hb hby at_145) rfl k) ?_
    show own_R _ _ _ _ (T42.setTop (mkF m 147 #[.val (.int p1), .val (.int q2), .val (.int q3), .val (.int q4), .val (.int q5), .val (.int q6), .val (.int (3 : Int32)), .val (.ref b17), .val (.ref c40), .val (.ref c43)] [(.int q6), (.int q5), (.int q4), (.int q3), (.int q2), (.int (3 : Int32)), (.ref c43)]))
    obtain ⟨_, _, ⟨T43, L43, k43, n43⟩, -, X43, ⟨Lc43, hQ43, l43, y43, z43⟩, st43⟩ := Jvm.LawKit.callS X42 hx (y := (⟨"com/example/austere_nets/austerenets/minimize/IntListToArrayPinLaw", "matches", "([IIIIIII)Z"⟩ : MethodName)) hown (mvT hZ (hw _ (List.mem_of_getElem? (i := 32) rfl))) (mvT hZ (hw _ (List.mem_of_getElem? (i := 33) rfl))) (mvT hZ (hw _ (List.mem_of_getElem? (i := 34) rfl))) (mvT hZ (hw _ (List.mem_of_getElem? (i := 35) rfl))) (by decide) (backOf (W := 0) (rm6_3 l Z a0 hw [] c43 q2 q3 q4 q5 q6 kc43 h42 n0 ZS V_c43) hZ (hw _ (List.mem_of_getElem? (i := 35) rfl)) (hw _ (List.mem_of_getElem? (i := 34) rfl)) (by decide) (by decide)) (g := (mkF m 147 #[.val (.int p1), .val (.int q2), .val (.int q3), .val (.int q4), .val (.int q5), .val (.int q6), .val (.int (3 : Int32)), .val (.ref b17), .val (.ref c40), .val (.ref c43)] [(.int q6), (.int q5), (.int q4), (.int q3), (.int q2), (.int (3 : Int32)), (.ref c43)])) rfl (by rw [hml]; rfl) (argsL := [(.ref c43), (.int (3 : Int32)), (.int q2), (.int q3), (.int q4), (.int q5), (.int q6)]) (rest := []) (lenOf pd_4 rfl) rfl (by show 2 * 0 + _ ≤ _; exact Nat.le_of_eq rfl) (hb hby at_147) (fun _ _ => ⟨rfl, e42, (by decide : 4 + 0 ≤ _), (by decide : 50 + 0 ≤ _)⟩)
    dsimp only [Pt.U, Pt.locs, Pt.cells, Pt.slots] at X43 l43 y43 z43 st43 hQ43
    subst l43 y43 z43
    obtain ⟨rfl, N43q, e43⟩ := hQ43
    have NF := Fr.app NF N43q
    refine own_go st43 ?_
    show own_R _ _ _ _ (T43.setTop (mkF m 150 #[.val (.int p1), .val (.int q2), .val (.int q3), .val (.int q4), .val (.int q5), .val (.int q6), .val (.int (3 : Int32)), .val (.ref b17), .val (.ref c40), .val (.ref c43)] [(.int (1 : Int32))]))
    exact own_retN X43 hx (t := .boolean) (by simp) Bd.returns (hb hby at_150) hlk ⟨rfl, NF⟩ (by decide) (by decide)
  · show own_R _ _ _ _ (T18.setTop (mkF m 18 #[.val (.int p1), .val (.int q2), .val (.int q3), .val (.int q4), .val (.int q5), .val (.int q6), .val (.int (4 : Int32)), .val (.ref b17), .unset, .unset] []))
    refine own_go (fun _ k => XS.iload X18.here hx rfl (hb hby at_18) rfl k) ?_
    show own_R _ _ _ _ (T18.setTop (mkF m 20 #[.val (.int p1), .val (.int q2), .val (.int q3), .val (.int q4), .val (.int q5), .val (.int q6), .val (.int (4 : Int32)), .val (.ref b17), .unset, .unset] [(.int (4 : Int32))]))
    refine own_go (fun _ k => XS.ifNo X18.here hx rfl (hb hby at_20) rfl ((if0 _ _).trans (tlt (by decide : (0 : Int32) < (4 : Int32))).2.2.2) k) ?_
    show own_R _ _ _ _ (T18.setTop (mkF m 23 #[.val (.int p1), .val (.int q2), .val (.int q3), .val (.int q4), .val (.int q5), .val (.int q6), .val (.int (4 : Int32)), .val (.ref b17), .unset, .unset] []))
    refine own_go (fun _ k => XS.aload X18.here hx rfl (hb hby at_23) rfl rfl k) ?_
    show own_R _ _ _ _ (T18.setTop (mkF m 25 #[.val (.int p1), .val (.int q2), .val (.int q3), .val (.int q4), .val (.int q5), .val (.int q6), .val (.int (4 : Int32)), .val (.ref b17), .unset, .unset] [(.ref b17)]))
    refine own_go (fun _ k => XS.iloadN X18.here hx rfl (hb hby at_25) rfl k) ?_
    show own_R _ _ _ _ (T18.setTop (mkF m 26 #[.val (.int p1), .val (.int q2), .val (.int q3), .val (.int q4), .val (.int q5), .val (.int q6), .val (.int (4 : Int32)), .val (.ref b17), .unset, .unset] [(.int q2), (.ref b17)]))
    obtain ⟨cq44, kq44, q44a, q44b, q44c⟩ := isOf hZ e18 E_b17
    obtain ⟨_, _, ⟨T44, L44, k44, n44⟩, -, X44, ⟨Lc44, hQ44, l44, y44, z44⟩, st44⟩ := X18.virtualBack hx (y := (⟨"com/example/austere_nets/austerenets/minimize/IntList", "add", "(I)V"⟩ : MethodName)) (z := (⟨"com/example/austere_nets/austerenets/minimize/IntList", "add", "(I)V"⟩ : MethodName)) hown (mvT hZ (hw _ (List.mem_of_getElem? (i := 36) rfl))) (mvT hZ (hw _ (List.mem_of_getElem? (i := 37) rfl))) (notFace_of_selects (args := #[]) (mvT hZ (hw _ (List.mem_of_getElem? (i := 39) rfl)))) (mvT hZ (hw _ (List.mem_of_getElem? (i := 39) rfl))) (mvT hZ (hw _ (List.mem_of_getElem? (i := 38) rfl))) (by decide) (backOf (W := 0) (rm7 l Z a0 hw [] b17 q2 c19 kc19 (0 : Int32) 0 [(.int (0 : Int32)), (.int (0 : Int32)), (.int (0 : Int32)), (.int (0 : Int32)), (.int (0 : Int32)), (.int (0 : Int32)), (.int (0 : Int32)), (.int (0 : Int32)), (.int (0 : Int32)), (.int (0 : Int32)), (.int (0 : Int32)), (.int (0 : Int32)), (.int (0 : Int32)), (.int (0 : Int32)), (.int (0 : Int32)), (.int (0 : Int32))] h18 n0 ZS E_b17 F_values_b17 F_size_b17 g_b17 V_c19 g_c19 ne_b17_c19 ⟨by decide, by decide⟩ rfl (Nat.le_of_ble_eq_true rfl)) hZ (hw _ (List.mem_of_getElem? (i := 40) rfl)) (hw _ (List.mem_of_getElem? (i := 3) rfl)) (by decide) (by decide)) q44a q44c (g := (mkF m 26 #[.val (.int p1), .val (.int q2), .val (.int q3), .val (.int q4), .val (.int q5), .val (.int q6), .val (.int (4 : Int32)), .val (.ref b17), .unset, .unset] [(.int q2), (.ref b17)])) rfl (by rw [hml]; rfl) (Steps.refl _) (argsL := [(.int q2)]) (rest := []) (lenOf pd_5 rfl) rfl (by show 2 * 0 + _ ≤ _; exact Nat.le_of_eq rfl) (hb hby at_26) (fun _ _ => ⟨rfl, e18, (by decide : 2 + 0 ≤ _), (by decide : 18 + 0 ≤ _)⟩)
    dsimp only [Pt.U, Pt.locs, Pt.cells, Pt.slots] at X44 l44 y44 z44 st44 hQ44
    subst l44 y44 z44
    obtain ⟨h44, e44'⟩ : ∃ z, z = T44.heap := ⟨_, rfl⟩
    rw [← e44'] at hQ44
    have e44 : T44.heap = h44 := e44'.symm
    obtain ⟨rfl, N44q, K44, pp1, pp2, pp3⟩ := hQ44
    have NF := Fr.app NF N44q
    refine own_go (fun _ k => st44.trans k) ?_
    have E_b17 := E_b17.keep K44
    have ZS := Nat.le_trans ZS K44.1
    have KP := KP.trans K44 (allS (Or.inr sz_b17) (allS (Or.inr sz_c19) all0))
    have F_size_b17 := pp1
    have F_values_b17 := pp2
    have V_c19 : Arv Z h44 c19 kc19 .int (16 : Int32) [(.int q2), (.int (0 : Int32)), (.int (0 : Int32)), (.int (0 : Int32)), (.int (0 : Int32)), (.int (0 : Int32)), (.int (0 : Int32)), (.int (0 : Int32)), (.int (0 : Int32)), (.int (0 : Int32)), (.int (0 : Int32)), (.int (0 : Int32)), (.int (0 : Int32)), (.int (0 : Int32)), (.int (0 : Int32)), (.int (0 : Int32))] (.int (0 : Int32)) := pp3
    show own_R _ _ _ _ (T44.setTop (mkF m 29 #[.val (.int p1), .val (.int q2), .val (.int q3), .val (.int q4), .val (.int q5), .val (.int q6), .val (.int (4 : Int32)), .val (.ref b17), .unset, .unset] []))
    refine own_go (fun _ k => XS.iload X44.here hx rfl (hb hby at_29) rfl k) ?_
    show own_R _ _ _ _ (T44.setTop (mkF m 31 #[.val (.int p1), .val (.int q2), .val (.int q3), .val (.int q4), .val (.int q5), .val (.int q6), .val (.int (4 : Int32)), .val (.ref b17), .unset, .unset] [(.int (4 : Int32))]))
    refine own_go (fun _ k => XS.iconst X44.here hx rfl (hb hby at_31) k) ?_
    show own_R _ _ _ _ (T44.setTop (mkF m 32 #[.val (.int p1), .val (.int q2), .val (.int q3), .val (.int q4), .val (.int q5), .val (.int q6), .val (.int (4 : Int32)), .val (.ref b17), .unset, .unset] [(.int (1 : Int32)), (.int (4 : Int32))]))
    refine own_go (fun _ k => XS.icmpNo X44.here hx rfl (hb hby at_32) rfl (tlt (by decide : (1 : Int32) < (4 : Int32))).2.2.2 k) ?_
    show own_R _ _ _ _ (T44.setTop (mkF m 35 #[.val (.int p1), .val (.int q2), .val (.int q3), .val (.int q4), .val (.int q5), .val (.int q6), .val (.int (4 : Int32)), .val (.ref b17), .unset, .unset] []))
    refine own_go (fun _ k => XS.aload X44.here hx rfl (hb hby at_35) rfl rfl k) ?_
    show own_R _ _ _ _ (T44.setTop (mkF m 37 #[.val (.int p1), .val (.int q2), .val (.int q3), .val (.int q4), .val (.int q5), .val (.int q6), .val (.int (4 : Int32)), .val (.ref b17), .unset, .unset] [(.ref b17)]))
    refine own_go (fun _ k => XS.iloadN X44.here hx rfl (hb hby at_37) rfl k) ?_
    show own_R _ _ _ _ (T44.setTop (mkF m 38 #[.val (.int p1), .val (.int q2), .val (.int q3), .val (.int q4), .val (.int q5), .val (.int q6), .val (.int (4 : Int32)), .val (.ref b17), .unset, .unset] [(.int q3), (.ref b17)]))
    obtain ⟨cq45, kq45, q45a, q45b, q45c⟩ := isOf hZ e44 E_b17
    obtain ⟨_, _, ⟨T45, L45, k45, n45⟩, -, X45, ⟨Lc45, hQ45, l45, y45, z45⟩, st45⟩ := X44.virtualBack hx (y := (⟨"com/example/austere_nets/austerenets/minimize/IntList", "add", "(I)V"⟩ : MethodName)) (z := (⟨"com/example/austere_nets/austerenets/minimize/IntList", "add", "(I)V"⟩ : MethodName)) hown (mvT hZ (hw _ (List.mem_of_getElem? (i := 36) rfl))) (mvT hZ (hw _ (List.mem_of_getElem? (i := 37) rfl))) (notFace_of_selects (args := #[]) (mvT hZ (hw _ (List.mem_of_getElem? (i := 39) rfl)))) (mvT hZ (hw _ (List.mem_of_getElem? (i := 39) rfl))) (mvT hZ (hw _ (List.mem_of_getElem? (i := 38) rfl))) (by decide) (backOf (W := 0) (rm7 l Z a0 hw [] b17 q3 c19 kc19 (1 : Int32) 1 [(.int q2), (.int (0 : Int32)), (.int (0 : Int32)), (.int (0 : Int32)), (.int (0 : Int32)), (.int (0 : Int32)), (.int (0 : Int32)), (.int (0 : Int32)), (.int (0 : Int32)), (.int (0 : Int32)), (.int (0 : Int32)), (.int (0 : Int32)), (.int (0 : Int32)), (.int (0 : Int32)), (.int (0 : Int32)), (.int (0 : Int32))] h44 n0 ZS E_b17 F_values_b17 F_size_b17 g_b17 V_c19 g_c19 ne_b17_c19 ⟨by decide, by decide⟩ rfl (Nat.le_of_ble_eq_true rfl)) hZ (hw _ (List.mem_of_getElem? (i := 40) rfl)) (hw _ (List.mem_of_getElem? (i := 3) rfl)) (by decide) (by decide)) q45a q45c (g := (mkF m 38 #[.val (.int p1), .val (.int q2), .val (.int q3), .val (.int q4), .val (.int q5), .val (.int q6), .val (.int (4 : Int32)), .val (.ref b17), .unset, .unset] [(.int q3), (.ref b17)])) rfl (by rw [hml]; rfl) (Steps.refl _) (argsL := [(.int q3)]) (rest := []) (lenOf pd_5 rfl) rfl (by show 2 * 0 + _ ≤ _; exact Nat.le_of_eq rfl) (hb hby at_38) (fun _ _ => ⟨rfl, e44, (by decide : 2 + 0 ≤ _), (by decide : 18 + 0 ≤ _)⟩)
    dsimp only [Pt.U, Pt.locs, Pt.cells, Pt.slots] at X45 l45 y45 z45 st45 hQ45
    subst l45 y45 z45
    obtain ⟨h45, e45'⟩ : ∃ z, z = T45.heap := ⟨_, rfl⟩
    rw [← e45'] at hQ45
    have e45 : T45.heap = h45 := e45'.symm
    obtain ⟨rfl, N45q, K45, pp1, pp2, pp3⟩ := hQ45
    have NF := Fr.app NF N45q
    refine own_go (fun _ k => st45.trans k) ?_
    have E_b17 := E_b17.keep K45
    have ZS := Nat.le_trans ZS K45.1
    have KP := KP.trans K45 (allS (Or.inr sz_b17) (allS (Or.inr sz_c19) all0))
    have F_size_b17 := pp1
    have F_values_b17 := pp2
    have V_c19 : Arv Z h45 c19 kc19 .int (16 : Int32) [(.int q2), (.int q3), (.int (0 : Int32)), (.int (0 : Int32)), (.int (0 : Int32)), (.int (0 : Int32)), (.int (0 : Int32)), (.int (0 : Int32)), (.int (0 : Int32)), (.int (0 : Int32)), (.int (0 : Int32)), (.int (0 : Int32)), (.int (0 : Int32)), (.int (0 : Int32)), (.int (0 : Int32)), (.int (0 : Int32))] (.int (0 : Int32)) := pp3
    show own_R _ _ _ _ (T45.setTop (mkF m 41 #[.val (.int p1), .val (.int q2), .val (.int q3), .val (.int q4), .val (.int q5), .val (.int q6), .val (.int (4 : Int32)), .val (.ref b17), .unset, .unset] []))
    refine own_go (fun _ k => XS.iload X45.here hx rfl (hb hby at_41) rfl k) ?_
    show own_R _ _ _ _ (T45.setTop (mkF m 43 #[.val (.int p1), .val (.int q2), .val (.int q3), .val (.int q4), .val (.int q5), .val (.int q6), .val (.int (4 : Int32)), .val (.ref b17), .unset, .unset] [(.int (4 : Int32))]))
    refine own_go (fun _ k => XS.iconst X45.here hx rfl (hb hby at_43) k) ?_
    show own_R _ _ _ _ (T45.setTop (mkF m 44 #[.val (.int p1), .val (.int q2), .val (.int q3), .val (.int q4), .val (.int q5), .val (.int q6), .val (.int (4 : Int32)), .val (.ref b17), .unset, .unset] [(.int (2 : Int32)), (.int (4 : Int32))]))
    refine own_go (fun _ k => XS.icmpNo X45.here hx rfl (hb hby at_44) rfl (tlt (by decide : (2 : Int32) < (4 : Int32))).2.2.2 k) ?_
    show own_R _ _ _ _ (T45.setTop (mkF m 47 #[.val (.int p1), .val (.int q2), .val (.int q3), .val (.int q4), .val (.int q5), .val (.int q6), .val (.int (4 : Int32)), .val (.ref b17), .unset, .unset] []))
    refine own_go (fun _ k => XS.aload X45.here hx rfl (hb hby at_47) rfl rfl k) ?_
    show own_R _ _ _ _ (T45.setTop (mkF m 49 #[.val (.int p1), .val (.int q2), .val (.int q3), .val (.int q4), .val (.int q5), .val (.int q6), .val (.int (4 : Int32)), .val (.ref b17), .unset, .unset] [(.ref b17)]))
    refine own_go (fun _ k => XS.iloadN X45.here hx rfl (hb hby at_49) rfl k) ?_
    show own_R _ _ _ _ (T45.setTop (mkF m 50 #[.val (.int p1), .val (.int q2), .val (.int q3), .val (.int q4), .val (.int q5), .val (.int q6), .val (.int (4 : Int32)), .val (.ref b17), .unset, .unset] [(.int q4), (.ref b17)]))
    obtain ⟨cq46, kq46, q46a, q46b, q46c⟩ := isOf hZ e45 E_b17
    obtain ⟨_, _, ⟨T46, L46, k46, n46⟩, -, X46, ⟨Lc46, hQ46, l46, y46, z46⟩, st46⟩ := X45.virtualBack hx (y := (⟨"com/example/austere_nets/austerenets/minimize/IntList", "add", "(I)V"⟩ : MethodName)) (z := (⟨"com/example/austere_nets/austerenets/minimize/IntList", "add", "(I)V"⟩ : MethodName)) hown (mvT hZ (hw _ (List.mem_of_getElem? (i := 36) rfl))) (mvT hZ (hw _ (List.mem_of_getElem? (i := 37) rfl))) (notFace_of_selects (args := #[]) (mvT hZ (hw _ (List.mem_of_getElem? (i := 39) rfl)))) (mvT hZ (hw _ (List.mem_of_getElem? (i := 39) rfl))) (mvT hZ (hw _ (List.mem_of_getElem? (i := 38) rfl))) (by decide) (backOf (W := 0) (rm7 l Z a0 hw [] b17 q4 c19 kc19 (2 : Int32) 2 [(.int q2), (.int q3), (.int (0 : Int32)), (.int (0 : Int32)), (.int (0 : Int32)), (.int (0 : Int32)), (.int (0 : Int32)), (.int (0 : Int32)), (.int (0 : Int32)), (.int (0 : Int32)), (.int (0 : Int32)), (.int (0 : Int32)), (.int (0 : Int32)), (.int (0 : Int32)), (.int (0 : Int32)), (.int (0 : Int32))] h45 n0 ZS E_b17 F_values_b17 F_size_b17 g_b17 V_c19 g_c19 ne_b17_c19 ⟨by decide, by decide⟩ rfl (Nat.le_of_ble_eq_true rfl)) hZ (hw _ (List.mem_of_getElem? (i := 40) rfl)) (hw _ (List.mem_of_getElem? (i := 3) rfl)) (by decide) (by decide)) q46a q46c (g := (mkF m 50 #[.val (.int p1), .val (.int q2), .val (.int q3), .val (.int q4), .val (.int q5), .val (.int q6), .val (.int (4 : Int32)), .val (.ref b17), .unset, .unset] [(.int q4), (.ref b17)])) rfl (by rw [hml]; rfl) (Steps.refl _) (argsL := [(.int q4)]) (rest := []) (lenOf pd_5 rfl) rfl (by show 2 * 0 + _ ≤ _; exact Nat.le_of_eq rfl) (hb hby at_50) (fun _ _ => ⟨rfl, e45, (by decide : 2 + 0 ≤ _), (by decide : 18 + 0 ≤ _)⟩)
    dsimp only [Pt.U, Pt.locs, Pt.cells, Pt.slots] at X46 l46 y46 z46 st46 hQ46
    subst l46 y46 z46
    obtain ⟨h46, e46'⟩ : ∃ z, z = T46.heap := ⟨_, rfl⟩
    rw [← e46'] at hQ46
    have e46 : T46.heap = h46 := e46'.symm
    obtain ⟨rfl, N46q, K46, pp1, pp2, pp3⟩ := hQ46
    have NF := Fr.app NF N46q
    refine own_go (fun _ k => st46.trans k) ?_
    have E_b17 := E_b17.keep K46
    have ZS := Nat.le_trans ZS K46.1
    have KP := KP.trans K46 (allS (Or.inr sz_b17) (allS (Or.inr sz_c19) all0))
    have F_size_b17 := pp1
    have F_values_b17 := pp2
    have V_c19 : Arv Z h46 c19 kc19 .int (16 : Int32) [(.int q2), (.int q3), (.int q4), (.int (0 : Int32)), (.int (0 : Int32)), (.int (0 : Int32)), (.int (0 : Int32)), (.int (0 : Int32)), (.int (0 : Int32)), (.int (0 : Int32)), (.int (0 : Int32)), (.int (0 : Int32)), (.int (0 : Int32)), (.int (0 : Int32)), (.int (0 : Int32)), (.int (0 : Int32))] (.int (0 : Int32)) := pp3
    show own_R _ _ _ _ (T46.setTop (mkF m 53 #[.val (.int p1), .val (.int q2), .val (.int q3), .val (.int q4), .val (.int q5), .val (.int q6), .val (.int (4 : Int32)), .val (.ref b17), .unset, .unset] []))
    refine own_go (fun _ k => XS.iload X46.here hx rfl (hb hby at_53) rfl k) ?_
    show own_R _ _ _ _ (T46.setTop (mkF m 55 #[.val (.int p1), .val (.int q2), .val (.int q3), .val (.int q4), .val (.int q5), .val (.int q6), .val (.int (4 : Int32)), .val (.ref b17), .unset, .unset] [(.int (4 : Int32))]))
    refine own_go (fun _ k => XS.iconst X46.here hx rfl (hb hby at_55) k) ?_
    show own_R _ _ _ _ (T46.setTop (mkF m 56 #[.val (.int p1), .val (.int q2), .val (.int q3), .val (.int q4), .val (.int q5), .val (.int q6), .val (.int (4 : Int32)), .val (.ref b17), .unset, .unset] [(.int (3 : Int32)), (.int (4 : Int32))]))
    refine own_go (fun _ k => XS.icmpNo X46.here hx rfl (hb hby at_56) rfl (tlt (by decide : (3 : Int32) < (4 : Int32))).2.2.2 k) ?_
    show own_R _ _ _ _ (T46.setTop (mkF m 59 #[.val (.int p1), .val (.int q2), .val (.int q3), .val (.int q4), .val (.int q5), .val (.int q6), .val (.int (4 : Int32)), .val (.ref b17), .unset, .unset] []))
    refine own_go (fun _ k => XS.aload X46.here hx rfl (hb hby at_59) rfl rfl k) ?_
    show own_R _ _ _ _ (T46.setTop (mkF m 61 #[.val (.int p1), .val (.int q2), .val (.int q3), .val (.int q4), .val (.int q5), .val (.int q6), .val (.int (4 : Int32)), .val (.ref b17), .unset, .unset] [(.ref b17)]))
    refine own_go (fun _ k => XS.iload X46.here hx rfl (hb hby at_61) rfl k) ?_
    show own_R _ _ _ _ (T46.setTop (mkF m 63 #[.val (.int p1), .val (.int q2), .val (.int q3), .val (.int q4), .val (.int q5), .val (.int q6), .val (.int (4 : Int32)), .val (.ref b17), .unset, .unset] [(.int q5), (.ref b17)]))
    obtain ⟨cq47, kq47, q47a, q47b, q47c⟩ := isOf hZ e46 E_b17
    obtain ⟨_, _, ⟨T47, L47, k47, n47⟩, -, X47, ⟨Lc47, hQ47, l47, y47, z47⟩, st47⟩ := X46.virtualBack hx (y := (⟨"com/example/austere_nets/austerenets/minimize/IntList", "add", "(I)V"⟩ : MethodName)) (z := (⟨"com/example/austere_nets/austerenets/minimize/IntList", "add", "(I)V"⟩ : MethodName)) hown (mvT hZ (hw _ (List.mem_of_getElem? (i := 36) rfl))) (mvT hZ (hw _ (List.mem_of_getElem? (i := 37) rfl))) (notFace_of_selects (args := #[]) (mvT hZ (hw _ (List.mem_of_getElem? (i := 39) rfl)))) (mvT hZ (hw _ (List.mem_of_getElem? (i := 39) rfl))) (mvT hZ (hw _ (List.mem_of_getElem? (i := 38) rfl))) (by decide) (backOf (W := 0) (rm7 l Z a0 hw [] b17 q5 c19 kc19 (3 : Int32) 3 [(.int q2), (.int q3), (.int q4), (.int (0 : Int32)), (.int (0 : Int32)), (.int (0 : Int32)), (.int (0 : Int32)), (.int (0 : Int32)), (.int (0 : Int32)), (.int (0 : Int32)), (.int (0 : Int32)), (.int (0 : Int32)), (.int (0 : Int32)), (.int (0 : Int32)), (.int (0 : Int32)), (.int (0 : Int32))] h46 n0 ZS E_b17 F_values_b17 F_size_b17 g_b17 V_c19 g_c19 ne_b17_c19 ⟨by decide, by decide⟩ rfl (Nat.le_of_ble_eq_true rfl)) hZ (hw _ (List.mem_of_getElem? (i := 40) rfl)) (hw _ (List.mem_of_getElem? (i := 3) rfl)) (by decide) (by decide)) q47a q47c (g := (mkF m 63 #[.val (.int p1), .val (.int q2), .val (.int q3), .val (.int q4), .val (.int q5), .val (.int q6), .val (.int (4 : Int32)), .val (.ref b17), .unset, .unset] [(.int q5), (.ref b17)])) rfl (by rw [hml]; rfl) (Steps.refl _) (argsL := [(.int q5)]) (rest := []) (lenOf pd_5 rfl) rfl (by show 2 * 0 + _ ≤ _; exact Nat.le_of_eq rfl) (hb hby at_63) (fun _ _ => ⟨rfl, e46, (by decide : 2 + 0 ≤ _), (by decide : 18 + 0 ≤ _)⟩)
    dsimp only [Pt.U, Pt.locs, Pt.cells, Pt.slots] at X47 l47 y47 z47 st47 hQ47
    subst l47 y47 z47
    obtain ⟨h47, e47'⟩ : ∃ z, z = T47.heap := ⟨_, rfl⟩
    rw [← e47'] at hQ47
    have e47 : T47.heap = h47 := e47'.symm
    obtain ⟨rfl, N47q, K47, pp1, pp2, pp3⟩ := hQ47
    have NF := Fr.app NF N47q
    refine own_go (fun _ k => st47.trans k) ?_
    have E_b17 := E_b17.keep K47
    have ZS := Nat.le_trans ZS K47.1
    have KP := KP.trans K47 (allS (Or.inr sz_b17) (allS (Or.inr sz_c19) all0))
    have F_size_b17 := pp1
    have F_values_b17 := pp2
    have V_c19 : Arv Z h47 c19 kc19 .int (16 : Int32) [(.int q2), (.int q3), (.int q4), (.int q5), (.int (0 : Int32)), (.int (0 : Int32)), (.int (0 : Int32)), (.int (0 : Int32)), (.int (0 : Int32)), (.int (0 : Int32)), (.int (0 : Int32)), (.int (0 : Int32)), (.int (0 : Int32)), (.int (0 : Int32)), (.int (0 : Int32)), (.int (0 : Int32))] (.int (0 : Int32)) := pp3
    show own_R _ _ _ _ (T47.setTop (mkF m 66 #[.val (.int p1), .val (.int q2), .val (.int q3), .val (.int q4), .val (.int q5), .val (.int q6), .val (.int (4 : Int32)), .val (.ref b17), .unset, .unset] []))
    refine own_go (fun _ k => XS.iload X47.here hx rfl (hb hby at_66) rfl k) ?_
    show own_R _ _ _ _ (T47.setTop (mkF m 68 #[.val (.int p1), .val (.int q2), .val (.int q3), .val (.int q4), .val (.int q5), .val (.int q6), .val (.int (4 : Int32)), .val (.ref b17), .unset, .unset] [(.int (4 : Int32))]))
    refine own_go (fun _ k => XS.iconst X47.here hx rfl (hb hby at_68) k) ?_
    show own_R _ _ _ _ (T47.setTop (mkF m 69 #[.val (.int p1), .val (.int q2), .val (.int q3), .val (.int q4), .val (.int q5), .val (.int q6), .val (.int (4 : Int32)), .val (.ref b17), .unset, .unset] [(.int (4 : Int32)), (.int (4 : Int32))]))
    refine own_go (fun _ k => XS.icmpYes X47.here hx rfl (pc0 := 69) (pc' := 79) rfl (hb hby at_69) rfl (flt (by decide : ¬ ((4 : Int32) < (4 : Int32)))).2.2.2 (by decide) (by decide) k) ?_
    show own_R _ _ _ _ (T47.setTop (mkF m 79 #[.val (.int p1), .val (.int q2), .val (.int q3), .val (.int q4), .val (.int q5), .val (.int q6), .val (.int (4 : Int32)), .val (.ref b17), .unset, .unset] []))
    refine own_go (fun _ k => XS.aload X47.here hx rfl (hb hby at_79) rfl rfl k) ?_
    show own_R _ _ _ _ (T47.setTop (mkF m 81 #[.val (.int p1), .val (.int q2), .val (.int q3), .val (.int q4), .val (.int q5), .val (.int q6), .val (.int (4 : Int32)), .val (.ref b17), .unset, .unset] [(.ref b17)]))
    obtain ⟨cq48, kq48, q48a, q48b, q48c⟩ := isOf hZ e47 E_b17
    obtain ⟨_, _, ⟨T48, L48, k48, n48⟩, -, X48, ⟨Lc48, hQ48, l48, y48, z48⟩, st48⟩ := X47.virtualBack hx (y := (⟨"com/example/austere_nets/austerenets/minimize/IntList", "toArray", "()[I"⟩ : MethodName)) (z := (⟨"com/example/austere_nets/austerenets/minimize/IntList", "toArray", "()[I"⟩ : MethodName)) hown (mvT hZ (hw _ (List.mem_of_getElem? (i := 13) rfl))) (mvT hZ (hw _ (List.mem_of_getElem? (i := 14) rfl))) (notFace_of_selects (args := #[]) (mvT hZ (hw _ (List.mem_of_getElem? (i := 16) rfl)))) (mvT hZ (hw _ (List.mem_of_getElem? (i := 16) rfl))) (mvT hZ (hw _ (List.mem_of_getElem? (i := 15) rfl))) (by decide) (backOf (W := 0) (rm3 l Z a0 hw [] b17 c19 kc19 (4 : Int32) [(.int q2), (.int q3), (.int q4), (.int q5), (.int (0 : Int32)), (.int (0 : Int32)), (.int (0 : Int32)), (.int (0 : Int32)), (.int (0 : Int32)), (.int (0 : Int32)), (.int (0 : Int32)), (.int (0 : Int32)), (.int (0 : Int32)), (.int (0 : Int32)), (.int (0 : Int32)), (.int (0 : Int32))] h47 n0 ZS F_values_b17 F_size_b17 V_c19 (by decide) (by decide) (by decide)) hZ (hw _ (List.mem_of_getElem? (i := 17) rfl)) (hw _ (List.mem_of_getElem? (i := 3) rfl)) (by decide) (by decide)) q48a q48c (g := (mkF m 81 #[.val (.int p1), .val (.int q2), .val (.int q3), .val (.int q4), .val (.int q5), .val (.int q6), .val (.int (4 : Int32)), .val (.ref b17), .unset, .unset] [(.ref b17)])) rfl (by rw [hml]; rfl) (Steps.refl _) (argsL := []) (rest := []) (lenOf pd_3 rfl) rfl (by show 2 * 0 + _ ≤ _; exact Nat.le_of_eq rfl) (hb hby at_81) (fun _ _ => ⟨rfl, e47, (by decide : 2 + 1 ≤ _), (by decide : 18 + 16 ≤ _)⟩)
    dsimp only [Pt.U, Pt.locs, Pt.cells, Pt.slots] at X48 l48 y48 z48 st48 hQ48
    subst l48 y48 z48
    obtain ⟨h48, e48'⟩ : ∃ z, z = T48.heap := ⟨_, rfl⟩
    rw [← e48'] at hQ48
    have e48 : T48.heap = h48 := e48'.symm
    obtain ⟨c49, rfl, N48q, K48, hbc49, kc49, Vc49'⟩ := hQ48
    have NF := Fr.app NF N48q
    refine own_go (fun _ k => st48.trans k) ?_
    have ne_b17_c49 : b17 ≠ c49 := Nat.ne_of_lt (Nat.lt_of_lt_of_le E_b17.lt hbc49)
    have ne_c19_c49 : c19 ≠ c49 := Nat.ne_of_lt (Nat.lt_of_lt_of_le V_c19.lt hbc49)
    have g_c49 : n0 ≤ c49 := Nat.le_trans ZS hbc49
    have sz_c49 : h0.size ≤ c49 := Nat.le_trans KP.1 hbc49
    have E_b17 := E_b17.keep K48
    have F_size_b17 := F_size_b17.keep K48 nin0
    have F_values_b17 := F_values_b17.keep K48 nin0
    have V_c19 := V_c19.keep K48 nin0
    have ZS := Nat.le_trans ZS K48.1
    have KP := KP.trans K48 all0
    have V_c49 : Arv Z h48 c49 kc49 .int (4 : Int32) [(.int q2), (.int q3), (.int q4), (.int q5)] (.int (0 : Int32)) := Vc49'
    show own_R _ _ _ _ (T48.setTop (mkF m 84 #[.val (.int p1), .val (.int q2), .val (.int q3), .val (.int q4), .val (.int q5), .val (.int q6), .val (.int (4 : Int32)), .val (.ref b17), .unset, .unset] [(.ref c49)]))
    refine own_go (fun _ k => XS.astore X48.here hx rfl (hb hby at_84) rfl rfl (l' := #[.val (.int p1), .val (.int q2), .val (.int q3), .val (.int q4), .val (.int q5), .val (.int q6), .val (.int (4 : Int32)), .val (.ref b17), .val (.ref c49), .unset]) rfl k) ?_
    show own_R _ _ _ _ (T48.setTop (mkF m 86 #[.val (.int p1), .val (.int q2), .val (.int q3), .val (.int q4), .val (.int q5), .val (.int q6), .val (.int (4 : Int32)), .val (.ref b17), .val (.ref c49), .unset] []))
    refine own_go (fun _ k => XS.aload X48.here hx rfl (hb hby at_86) rfl rfl k) ?_
    show own_R _ _ _ _ (T48.setTop (mkF m 88 #[.val (.int p1), .val (.int q2), .val (.int q3), .val (.int q4), .val (.int q5), .val (.int q6), .val (.int (4 : Int32)), .val (.ref b17), .val (.ref c49), .unset] [(.ref c49)]))
    refine own_go (fun _ k => XS.iload X48.here hx rfl (hb hby at_88) rfl k) ?_
    show own_R _ _ _ _ (T48.setTop (mkF m 90 #[.val (.int p1), .val (.int q2), .val (.int q3), .val (.int q4), .val (.int q5), .val (.int q6), .val (.int (4 : Int32)), .val (.ref b17), .val (.ref c49), .unset] [(.int (4 : Int32)), (.ref c49)]))
    refine own_go (fun _ k => XS.iloadN X48.here hx rfl (hb hby at_90) rfl k) ?_
    show own_R _ _ _ _ (T48.setTop (mkF m 91 #[.val (.int p1), .val (.int q2), .val (.int q3), .val (.int q4), .val (.int q5), .val (.int q6), .val (.int (4 : Int32)), .val (.ref b17), .val (.ref c49), .unset] [(.int q2), (.int (4 : Int32)), (.ref c49)]))
    refine own_go (fun _ k => XS.iloadN X48.here hx rfl (hb hby at_91) rfl k) ?_
    show own_R _ _ _ _ (T48.setTop (mkF m 92 #[.val (.int p1), .val (.int q2), .val (.int q3), .val (.int q4), .val (.int q5), .val (.int q6), .val (.int (4 : Int32)), .val (.ref b17), .val (.ref c49), .unset] [(.int q3), (.int q2), (.int (4 : Int32)), (.ref c49)]))
    refine own_go (fun _ k => XS.iloadN X48.here hx rfl (hb hby at_92) rfl k) ?_
    show own_R _ _ _ _ (T48.setTop (mkF m 93 #[.val (.int p1), .val (.int q2), .val (.int q3), .val (.int q4), .val (.int q5), .val (.int q6), .val (.int (4 : Int32)), .val (.ref b17), .val (.ref c49), .unset] [(.int q4), (.int q3), (.int q2), (.int (4 : Int32)), (.ref c49)]))
    refine own_go (fun _ k => XS.iload X48.here hx rfl (hb hby at_93) rfl k) ?_
    show own_R _ _ _ _ (T48.setTop (mkF m 95 #[.val (.int p1), .val (.int q2), .val (.int q3), .val (.int q4), .val (.int q5), .val (.int q6), .val (.int (4 : Int32)), .val (.ref b17), .val (.ref c49), .unset] [(.int q5), (.int q4), (.int q3), (.int q2), (.int (4 : Int32)), (.ref c49)]))
    refine own_go (fun _ k => XS.iload X48.here hx rfl (hb hby at_95) rfl k) ?_
    show own_R _ _ _ _ (T48.setTop (mkF m 97 #[.val (.int p1), .val (.int q2), .val (.int q3), .val (.int q4), .val (.int q5), .val (.int q6), .val (.int (4 : Int32)), .val (.ref b17), .val (.ref c49), .unset] [(.int q6), (.int q5), (.int q4), (.int q3), (.int q2), (.int (4 : Int32)), (.ref c49)]))
    obtain ⟨_, _, ⟨T49, L49, k49, n49⟩, -, X49, ⟨Lc49, hQ49, l49, y49, z49⟩, st49⟩ := Jvm.LawKit.callS X48 hx (y := (⟨"com/example/austere_nets/austerenets/minimize/IntListToArrayPinLaw", "matches", "([IIIIIII)Z"⟩ : MethodName)) hown (mvT hZ (hw _ (List.mem_of_getElem? (i := 32) rfl))) (mvT hZ (hw _ (List.mem_of_getElem? (i := 33) rfl))) (mvT hZ (hw _ (List.mem_of_getElem? (i := 34) rfl))) (mvT hZ (hw _ (List.mem_of_getElem? (i := 35) rfl))) (by decide) (backOf (W := 0) (rm6_4 l Z a0 hw [] c49 q2 q3 q4 q5 q6 kc49 h48 n0 ZS V_c49) hZ (hw _ (List.mem_of_getElem? (i := 35) rfl)) (hw _ (List.mem_of_getElem? (i := 34) rfl)) (by decide) (by decide)) (g := (mkF m 97 #[.val (.int p1), .val (.int q2), .val (.int q3), .val (.int q4), .val (.int q5), .val (.int q6), .val (.int (4 : Int32)), .val (.ref b17), .val (.ref c49), .unset] [(.int q6), (.int q5), (.int q4), (.int q3), (.int q2), (.int (4 : Int32)), (.ref c49)])) rfl (by rw [hml]; rfl) (argsL := [(.ref c49), (.int (4 : Int32)), (.int q2), (.int q3), (.int q4), (.int q5), (.int q6)]) (rest := []) (lenOf pd_4 rfl) rfl (by show 2 * 0 + _ ≤ _; exact Nat.le_of_eq rfl) (hb hby at_97) (fun _ _ => ⟨rfl, e48, (by decide : 3 + 0 ≤ _), (by decide : 34 + 0 ≤ _)⟩)
    dsimp only [Pt.U, Pt.locs, Pt.cells, Pt.slots] at X49 l49 y49 z49 st49 hQ49
    subst l49 y49 z49
    obtain ⟨rfl, N49q, e49⟩ := hQ49
    have NF := Fr.app NF N49q
    refine own_go st49 ?_
    show own_R _ _ _ _ (T49.setTop (mkF m 100 #[.val (.int p1), .val (.int q2), .val (.int q3), .val (.int q4), .val (.int q5), .val (.int q6), .val (.int (4 : Int32)), .val (.ref b17), .val (.ref c49), .unset] [(.int (1 : Int32))]))
    refine own_go (fun _ k => XS.ifYes X49.here hx rfl (pc0 := 100) (pc' := 105) rfl (hb hby at_100) rfl ((if0 _ _).trans (feq (by decide : ¬ ((1 : Int32) = (0 : Int32)))).2) (by decide) (by decide) k) ?_
    show own_R _ _ _ _ (T49.setTop (mkF m 105 #[.val (.int p1), .val (.int q2), .val (.int q3), .val (.int q4), .val (.int q5), .val (.int q6), .val (.int (4 : Int32)), .val (.ref b17), .val (.ref c49), .unset] []))
    refine own_go (fun _ k => XS.iload X49.here hx rfl (hb hby at_105) rfl k) ?_
    show own_R _ _ _ _ (T49.setTop (mkF m 107 #[.val (.int p1), .val (.int q2), .val (.int q3), .val (.int q4), .val (.int q5), .val (.int q6), .val (.int (4 : Int32)), .val (.ref b17), .val (.ref c49), .unset] [(.int (4 : Int32))]))
    refine own_go (fun _ k => XS.ifNo X49.here hx rfl (hb hby at_107) rfl ((if0 _ _).trans (tlt (by decide : (0 : Int32) < (4 : Int32))).2.2.2) k) ?_
    show own_R _ _ _ _ (T49.setTop (mkF m 110 #[.val (.int p1), .val (.int q2), .val (.int q3), .val (.int q4), .val (.int q5), .val (.int q6), .val (.int (4 : Int32)), .val (.ref b17), .val (.ref c49), .unset] []))
    refine own_go (fun _ k => XS.aload X49.here hx rfl (hb hby at_110) rfl rfl k) ?_
    show own_R _ _ _ _ (T49.setTop (mkF m 112 #[.val (.int p1), .val (.int q2), .val (.int q3), .val (.int q4), .val (.int q5), .val (.int q6), .val (.int (4 : Int32)), .val (.ref b17), .val (.ref c49), .unset] [(.ref c49)]))
    refine own_go (fun _ k => XS.iconst X49.here hx rfl (hb hby at_112) k) ?_
    show own_R _ _ _ _ (T49.setTop (mkF m 113 #[.val (.int p1), .val (.int q2), .val (.int q3), .val (.int q4), .val (.int q5), .val (.int q6), .val (.int (4 : Int32)), .val (.ref b17), .val (.ref c49), .unset] [(.int (0 : Int32)), (.ref c49)]))
    refine own_go (fun _ k => XS.aload X49.here hx rfl (hb hby at_113) rfl rfl k) ?_
    show own_R _ _ _ _ (T49.setTop (mkF m 115 #[.val (.int p1), .val (.int q2), .val (.int q3), .val (.int q4), .val (.int q5), .val (.int q6), .val (.int (4 : Int32)), .val (.ref b17), .val (.ref c49), .unset] [(.ref c49), (.int (0 : Int32)), (.ref c49)]))
    refine own_go (fun _ k => XS.iconst X49.here hx rfl (hb hby at_115) k) ?_
    show own_R _ _ _ _ (T49.setTop (mkF m 116 #[.val (.int p1), .val (.int q2), .val (.int q3), .val (.int q4), .val (.int q5), .val (.int q6), .val (.int (4 : Int32)), .val (.ref b17), .val (.ref c49), .unset] [(.int (0 : Int32)), (.ref c49), (.int (0 : Int32)), (.ref c49)]))
    refine own_go (own_ldI X49 hx hZ e49 V_c49 (j := (0 : Int32)) (i := 0) ⟨by decide, by decide⟩ rfl (v := (.int q2)) rfl (g := (mkF m 116 #[.val (.int p1), .val (.int q2), .val (.int q3), .val (.int q4), .val (.int q5), .val (.int q6), .val (.int (4 : Int32)), .val (.ref b17), .val (.ref c49), .unset] [(.int (0 : Int32)), (.ref c49), (.int (0 : Int32)), (.ref c49)])) rfl rfl (hb hby at_116)) ?_
    show own_R _ _ _ _ (T49.setTop (mkF m 117 #[.val (.int p1), .val (.int q2), .val (.int q3), .val (.int q4), .val (.int q5), .val (.int q6), .val (.int (4 : Int32)), .val (.ref b17), .val (.ref c49), .unset] [(.int q2), (.int (0 : Int32)), (.ref c49)]))
    refine own_go (fun _ k => XS.iconst X49.here hx rfl (hb hby at_117) k) ?_
    show own_R _ _ _ _ (T49.setTop (mkF m 118 #[.val (.int p1), .val (.int q2), .val (.int q3), .val (.int q4), .val (.int q5), .val (.int q6), .val (.int (4 : Int32)), .val (.ref b17), .val (.ref c49), .unset] [(.int (-1 : Int32)), (.int q2), (.int (0 : Int32)), (.ref c49)]))
    refine own_go (fun _ k => XS.ixor X49.here hx rfl (hb hby at_118) rfl k) ?_
    show own_R _ _ _ _ (T49.setTop (mkF m 119 #[.val (.int p1), .val (.int q2), .val (.int q3), .val (.int q4), .val (.int q5), .val (.int q6), .val (.int (4 : Int32)), .val (.ref b17), .val (.ref c49), .unset] [(.int (q2 ^^^ (-1 : Int32))), (.int (0 : Int32)), (.ref c49)]))
    obtain ⟨T50, h50, sl50, X50, e50, W50, V50, st50⟩ := own_stI X49 hx hZ e49 V_c49 (j := (0 : Int32)) (i := 0) ⟨by decide, by decide⟩ rfl (Nat.le_of_ble_eq_true rfl) rfl (g := (mkF m 119 #[.val (.int p1), .val (.int q2), .val (.int q3), .val (.int q4), .val (.int q5), .val (.int q6), .val (.int (4 : Int32)), .val (.ref b17), .val (.ref c49), .unset] [(.int (q2 ^^^ (-1 : Int32))), (.int (0 : Int32)), (.ref c49)])) rfl rfl (hb hby at_119)
    refine own_go st50 ?_
    have E_b17 := E_b17.wr W50
    have F_size_b17 := F_size_b17.other W50 (Or.inl ne_b17_c49)
    have F_values_b17 := F_values_b17.other W50 (Or.inl ne_b17_c49)
    have V_c19 := V_c19.other W50 ne_c19_c49
    have ZS := Nat.le_trans ZS (Keep.of_wr W50).1
    have KP := KP.wr W50 (Or.inr sz_c49)
    have NF := Fr.snoc X50 NF g_c49
    have V_c49 : Arv Z h50 c49 kc49 .int (4 : Int32) [(.int (q2 ^^^ (-1 : Int32))), (.int q3), (.int q4), (.int q5)] (.int (0 : Int32)) := V50
    show own_R _ _ _ _ (T50.setTop (mkF m 120 #[.val (.int p1), .val (.int q2), .val (.int q3), .val (.int q4), .val (.int q5), .val (.int q6), .val (.int (4 : Int32)), .val (.ref b17), .val (.ref c49), .unset] []))
    refine own_go (fun _ k => XS.aload X50.here hx rfl (hb hby at_120) rfl rfl k) ?_
    show own_R _ _ _ _ (T50.setTop (mkF m 122 #[.val (.int p1), .val (.int q2), .val (.int q3), .val (.int q4), .val (.int q5), .val (.int q6), .val (.int (4 : Int32)), .val (.ref b17), .val (.ref c49), .unset] [(.ref b17)]))
    obtain ⟨cq51, kq51, q51a, q51b, q51c⟩ := isOf hZ e50 E_b17
    obtain ⟨_, _, ⟨T51, L51, k51, n51⟩, -, X51, ⟨Lc51, hQ51, l51, y51, z51⟩, st51⟩ := X50.virtualBack hx (y := (⟨"com/example/austere_nets/austerenets/minimize/IntList", "toArray", "()[I"⟩ : MethodName)) (z := (⟨"com/example/austere_nets/austerenets/minimize/IntList", "toArray", "()[I"⟩ : MethodName)) hown (mvT hZ (hw _ (List.mem_of_getElem? (i := 13) rfl))) (mvT hZ (hw _ (List.mem_of_getElem? (i := 14) rfl))) (notFace_of_selects (args := #[]) (mvT hZ (hw _ (List.mem_of_getElem? (i := 16) rfl)))) (mvT hZ (hw _ (List.mem_of_getElem? (i := 16) rfl))) (mvT hZ (hw _ (List.mem_of_getElem? (i := 15) rfl))) (by decide) (backOf (W := 0) (rm3 l Z a0 hw [] b17 c19 kc19 (4 : Int32) [(.int q2), (.int q3), (.int q4), (.int q5), (.int (0 : Int32)), (.int (0 : Int32)), (.int (0 : Int32)), (.int (0 : Int32)), (.int (0 : Int32)), (.int (0 : Int32)), (.int (0 : Int32)), (.int (0 : Int32)), (.int (0 : Int32)), (.int (0 : Int32)), (.int (0 : Int32)), (.int (0 : Int32))] h50 n0 ZS F_values_b17 F_size_b17 V_c19 (by decide) (by decide) (by decide)) hZ (hw _ (List.mem_of_getElem? (i := 17) rfl)) (hw _ (List.mem_of_getElem? (i := 3) rfl)) (by decide) (by decide)) q51a q51c (g := (mkF m 122 #[.val (.int p1), .val (.int q2), .val (.int q3), .val (.int q4), .val (.int q5), .val (.int q6), .val (.int (4 : Int32)), .val (.ref b17), .val (.ref c49), .unset] [(.ref b17)])) rfl (by rw [hml]; rfl) (Steps.refl _) (argsL := []) (rest := []) (lenOf pd_3 rfl) rfl (by show 2 * 0 + _ ≤ _; exact Nat.le_of_eq rfl) (hb hby at_122) (fun _ _ => ⟨rfl, e50, (by decide : 3 + 1 ≤ _), (by decide : 34 + 16 ≤ _)⟩)
    dsimp only [Pt.U, Pt.locs, Pt.cells, Pt.slots] at X51 l51 y51 z51 st51 hQ51
    subst l51 y51 z51
    obtain ⟨h51, e51'⟩ : ∃ z, z = T51.heap := ⟨_, rfl⟩
    rw [← e51'] at hQ51
    have e51 : T51.heap = h51 := e51'.symm
    obtain ⟨c52, rfl, N51q, K51, hbc52, kc52, Vc52'⟩ := hQ51
    have NF := Fr.app NF N51q
    refine own_go (fun _ k => st51.trans k) ?_
    have ne_b17_c52 : b17 ≠ c52 := Nat.ne_of_lt (Nat.lt_of_lt_of_le E_b17.lt hbc52)
    have ne_c19_c52 : c19 ≠ c52 := Nat.ne_of_lt (Nat.lt_of_lt_of_le V_c19.lt hbc52)
    have ne_c49_c52 : c49 ≠ c52 := Nat.ne_of_lt (Nat.lt_of_lt_of_le V_c49.lt hbc52)
    have g_c52 : n0 ≤ c52 := Nat.le_trans ZS hbc52
    have sz_c52 : h0.size ≤ c52 := Nat.le_trans KP.1 hbc52
    have E_b17 := E_b17.keep K51
    have F_size_b17 := F_size_b17.keep K51 nin0
    have F_values_b17 := F_values_b17.keep K51 nin0
    have V_c19 := V_c19.keep K51 nin0
    have V_c49 := V_c49.keep K51 nin0
    have ZS := Nat.le_trans ZS K51.1
    have KP := KP.trans K51 all0
    have V_c52 : Arv Z h51 c52 kc52 .int (4 : Int32) [(.int q2), (.int q3), (.int q4), (.int q5)] (.int (0 : Int32)) := Vc52'
    show own_R _ _ _ _ (T51.setTop (mkF m 125 #[.val (.int p1), .val (.int q2), .val (.int q3), .val (.int q4), .val (.int q5), .val (.int q6), .val (.int (4 : Int32)), .val (.ref b17), .val (.ref c49), .unset] [(.ref c52)]))
    refine own_go (fun _ k => XS.astore X51.here hx rfl (hb hby at_125) rfl rfl (l' := #[.val (.int p1), .val (.int q2), .val (.int q3), .val (.int q4), .val (.int q5), .val (.int q6), .val (.int (4 : Int32)), .val (.ref b17), .val (.ref c49), .val (.ref c52)]) rfl k) ?_
    show own_R _ _ _ _ (T51.setTop (mkF m 127 #[.val (.int p1), .val (.int q2), .val (.int q3), .val (.int q4), .val (.int q5), .val (.int q6), .val (.int (4 : Int32)), .val (.ref b17), .val (.ref c49), .val (.ref c52)] []))
    refine own_go (fun _ k => XS.aload X51.here hx rfl (hb hby at_127) rfl rfl k) ?_
    show own_R _ _ _ _ (T51.setTop (mkF m 129 #[.val (.int p1), .val (.int q2), .val (.int q3), .val (.int q4), .val (.int q5), .val (.int q6), .val (.int (4 : Int32)), .val (.ref b17), .val (.ref c49), .val (.ref c52)] [(.ref c52)]))
    refine own_go (fun _ k => XS.aload X51.here hx rfl (hb hby at_129) rfl rfl k) ?_
    show own_R _ _ _ _ (T51.setTop (mkF m 131 #[.val (.int p1), .val (.int q2), .val (.int q3), .val (.int q4), .val (.int q5), .val (.int q6), .val (.int (4 : Int32)), .val (.ref b17), .val (.ref c49), .val (.ref c52)] [(.ref c49), (.ref c52)]))
    refine own_go (fun _ k => Jvm.RoadKit.acmp (g := (mkF m 131 #[.val (.int p1), .val (.int q2), .val (.int q3), .val (.int q4), .val (.int q5), .val (.int q6), .val (.int (4 : Int32)), .val (.ref b17), .val (.ref c49), .val (.ref c52)] [(.ref c49), (.ref c52)])) X51 hx rfl rfl rfl (pc0 := 131) (pc' := 136) (same := false) rfl (hb hby at_131) rfl (decide_eq_false fun q => (Ne.symm ne_c49_c52) (Value.ref.inj q)) (by decide) (by decide) k) ?_
    show own_R _ _ _ _ (T51.setTop (mkF m 136 #[.val (.int p1), .val (.int q2), .val (.int q3), .val (.int q4), .val (.int q5), .val (.int q6), .val (.int (4 : Int32)), .val (.ref b17), .val (.ref c49), .val (.ref c52)] []))
    refine own_go (fun _ k => XS.aload X51.here hx rfl (hb hby at_136) rfl rfl k) ?_
    show own_R _ _ _ _ (T51.setTop (mkF m 138 #[.val (.int p1), .val (.int q2), .val (.int q3), .val (.int q4), .val (.int q5), .val (.int q6), .val (.int (4 : Int32)), .val (.ref b17), .val (.ref c49), .val (.ref c52)] [(.ref c52)]))
    refine own_go (fun _ k => XS.iload X51.here hx rfl (hb hby at_138) rfl k) ?_
    show own_R _ _ _ _ (T51.setTop (mkF m 140 #[.val (.int p1), .val (.int q2), .val (.int q3), .val (.int q4), .val (.int q5), .val (.int q6), .val (.int (4 : Int32)), .val (.ref b17), .val (.ref c49), .val (.ref c52)] [(.int (4 : Int32)), (.ref c52)]))
    refine own_go (fun _ k => XS.iloadN X51.here hx rfl (hb hby at_140) rfl k) ?_
    show own_R _ _ _ _ (T51.setTop (mkF m 141 #[.val (.int p1), .val (.int q2), .val (.int q3), .val (.int q4), .val (.int q5), .val (.int q6), .val (.int (4 : Int32)), .val (.ref b17), .val (.ref c49), .val (.ref c52)] [(.int q2), (.int (4 : Int32)), (.ref c52)]))
    refine own_go (fun _ k => XS.iloadN X51.here hx rfl (hb hby at_141) rfl k) ?_
    show own_R _ _ _ _ (T51.setTop (mkF m 142 #[.val (.int p1), .val (.int q2), .val (.int q3), .val (.int q4), .val (.int q5), .val (.int q6), .val (.int (4 : Int32)), .val (.ref b17), .val (.ref c49), .val (.ref c52)] [(.int q3), (.int q2), (.int (4 : Int32)), (.ref c52)]))
    refine own_go (fun _ k => XS.iloadN X51.here hx rfl (hb hby at_142) rfl k) ?_
    show own_R _ _ _ _ (T51.setTop (mkF m 143 #[.val (.int p1), .val (.int q2), .val (.int q3), .val (.int q4), .val (.int q5), .val (.int q6), .val (.int (4 : Int32)), .val (.ref b17), .val (.ref c49), .val (.ref c52)] [(.int q4), (.int q3), (.int q2), (.int (4 : Int32)), (.ref c52)]))
    refine own_go (fun _ k => XS.iload X51.here hx rfl (hb hby at_143) rfl k) ?_
    show own_R _ _ _ _ (T51.setTop (mkF m 145 #[.val (.int p1), .val (.int q2), .val (.int q3), .val (.int q4), .val (.int q5), .val (.int q6), .val (.int (4 : Int32)), .val (.ref b17), .val (.ref c49), .val (.ref c52)] [(.int q5), (.int q4), (.int q3), (.int q2), (.int (4 : Int32)), (.ref c52)]))
    refine own_go (fun _ k => XS.iload X51.here hx rfl (hb hby at_145) rfl k) ?_
    show own_R _ _ _ _ (T51.setTop (mkF m 147 #[.val (.int p1), .val (.int q2), .val (.int q3), .val (.int q4), .val (.int q5), .val (.int q6), .val (.int (4 : Int32)), .val (.ref b17), .val (.ref c49), .val (.ref c52)] [(.int q6), (.int q5), (.int q4), (.int q3), (.int q2), (.int (4 : Int32)), (.ref c52)]))
    obtain ⟨_, _, ⟨T52, L52, k52, n52⟩, -, X52, ⟨Lc52, hQ52, l52, y52, z52⟩, st52⟩ := Jvm.LawKit.callS X51 hx (y := (⟨"com/example/austere_nets/austerenets/minimize/IntListToArrayPinLaw", "matches", "([IIIIIII)Z"⟩ : MethodName)) hown (mvT hZ (hw _ (List.mem_of_getElem? (i := 32) rfl))) (mvT hZ (hw _ (List.mem_of_getElem? (i := 33) rfl))) (mvT hZ (hw _ (List.mem_of_getElem? (i := 34) rfl))) (mvT hZ (hw _ (List.mem_of_getElem? (i := 35) rfl))) (by decide) (backOf (W := 0) (rm6_4 l Z a0 hw [] c52 q2 q3 q4 q5 q6 kc52 h51 n0 ZS V_c52) hZ (hw _ (List.mem_of_getElem? (i := 35) rfl)) (hw _ (List.mem_of_getElem? (i := 34) rfl)) (by decide) (by decide)) (g := (mkF m 147 #[.val (.int p1), .val (.int q2), .val (.int q3), .val (.int q4), .val (.int q5), .val (.int q6), .val (.int (4 : Int32)), .val (.ref b17), .val (.ref c49), .val (.ref c52)] [(.int q6), (.int q5), (.int q4), (.int q3), (.int q2), (.int (4 : Int32)), (.ref c52)])) rfl (by rw [hml]; rfl) (argsL := [(.ref c52), (.int (4 : Int32)), (.int q2), (.int q3), (.int q4), (.int q5), (.int q6)]) (rest := []) (lenOf pd_4 rfl) rfl (by show 2 * 0 + _ ≤ _; exact Nat.le_of_eq rfl) (hb hby at_147) (fun _ _ => ⟨rfl, e51, (by decide : 4 + 0 ≤ _), (by decide : 50 + 0 ≤ _)⟩)
    dsimp only [Pt.U, Pt.locs, Pt.cells, Pt.slots] at X52 l52 y52 z52 st52 hQ52
    subst l52 y52 z52
    obtain ⟨rfl, N52q, e52⟩ := hQ52
    have NF := Fr.app NF N52q
    refine own_go st52 ?_
    show own_R _ _ _ _ (T52.setTop (mkF m 150 #[.val (.int p1), .val (.int q2), .val (.int q3), .val (.int q4), .val (.int q5), .val (.int q6), .val (.int (4 : Int32)), .val (.ref b17), .val (.ref c49), .val (.ref c52)] [(.int (1 : Int32))]))
    exact own_retN X52 hx (t := .boolean) (by simp) Bd.returns (hb hby at_150) hlk ⟨rfl, NF⟩ (by decide) (by decide)
  · show own_R _ _ _ _ (T18.setTop (mkF m 18 #[.val (.int p1), .val (.int q2), .val (.int q3), .val (.int q4), .val (.int q5), .val (.int q6), .val (.int (5 : Int32)), .val (.ref b17), .unset, .unset] []))
    refine own_go (fun _ k => XS.iload X18.here hx rfl (hb hby at_18) rfl k) ?_
    show own_R _ _ _ _ (T18.setTop (mkF m 20 #[.val (.int p1), .val (.int q2), .val (.int q3), .val (.int q4), .val (.int q5), .val (.int q6), .val (.int (5 : Int32)), .val (.ref b17), .unset, .unset] [(.int (5 : Int32))]))
    refine own_go (fun _ k => XS.ifNo X18.here hx rfl (hb hby at_20) rfl ((if0 _ _).trans (tlt (by decide : (0 : Int32) < (5 : Int32))).2.2.2) k) ?_
    show own_R _ _ _ _ (T18.setTop (mkF m 23 #[.val (.int p1), .val (.int q2), .val (.int q3), .val (.int q4), .val (.int q5), .val (.int q6), .val (.int (5 : Int32)), .val (.ref b17), .unset, .unset] []))
    refine own_go (fun _ k => XS.aload X18.here hx rfl (hb hby at_23) rfl rfl k) ?_
    show own_R _ _ _ _ (T18.setTop (mkF m 25 #[.val (.int p1), .val (.int q2), .val (.int q3), .val (.int q4), .val (.int q5), .val (.int q6), .val (.int (5 : Int32)), .val (.ref b17), .unset, .unset] [(.ref b17)]))
    refine own_go (fun _ k => XS.iloadN X18.here hx rfl (hb hby at_25) rfl k) ?_
    show own_R _ _ _ _ (T18.setTop (mkF m 26 #[.val (.int p1), .val (.int q2), .val (.int q3), .val (.int q4), .val (.int q5), .val (.int q6), .val (.int (5 : Int32)), .val (.ref b17), .unset, .unset] [(.int q2), (.ref b17)]))
    obtain ⟨cq53, kq53, q53a, q53b, q53c⟩ := isOf hZ e18 E_b17
    obtain ⟨_, _, ⟨T53, L53, k53, n53⟩, -, X53, ⟨Lc53, hQ53, l53, y53, z53⟩, st53⟩ := X18.virtualBack hx (y := (⟨"com/example/austere_nets/austerenets/minimize/IntList", "add", "(I)V"⟩ : MethodName)) (z := (⟨"com/example/austere_nets/austerenets/minimize/IntList", "add", "(I)V"⟩ : MethodName)) hown (mvT hZ (hw _ (List.mem_of_getElem? (i := 36) rfl))) (mvT hZ (hw _ (List.mem_of_getElem? (i := 37) rfl))) (notFace_of_selects (args := #[]) (mvT hZ (hw _ (List.mem_of_getElem? (i := 39) rfl)))) (mvT hZ (hw _ (List.mem_of_getElem? (i := 39) rfl))) (mvT hZ (hw _ (List.mem_of_getElem? (i := 38) rfl))) (by decide) (backOf (W := 0) (rm7 l Z a0 hw [] b17 q2 c19 kc19 (0 : Int32) 0 [(.int (0 : Int32)), (.int (0 : Int32)), (.int (0 : Int32)), (.int (0 : Int32)), (.int (0 : Int32)), (.int (0 : Int32)), (.int (0 : Int32)), (.int (0 : Int32)), (.int (0 : Int32)), (.int (0 : Int32)), (.int (0 : Int32)), (.int (0 : Int32)), (.int (0 : Int32)), (.int (0 : Int32)), (.int (0 : Int32)), (.int (0 : Int32))] h18 n0 ZS E_b17 F_values_b17 F_size_b17 g_b17 V_c19 g_c19 ne_b17_c19 ⟨by decide, by decide⟩ rfl (Nat.le_of_ble_eq_true rfl)) hZ (hw _ (List.mem_of_getElem? (i := 40) rfl)) (hw _ (List.mem_of_getElem? (i := 3) rfl)) (by decide) (by decide)) q53a q53c (g := (mkF m 26 #[.val (.int p1), .val (.int q2), .val (.int q3), .val (.int q4), .val (.int q5), .val (.int q6), .val (.int (5 : Int32)), .val (.ref b17), .unset, .unset] [(.int q2), (.ref b17)])) rfl (by rw [hml]; rfl) (Steps.refl _) (argsL := [(.int q2)]) (rest := []) (lenOf pd_5 rfl) rfl (by show 2 * 0 + _ ≤ _; exact Nat.le_of_eq rfl) (hb hby at_26) (fun _ _ => ⟨rfl, e18, (by decide : 2 + 0 ≤ _), (by decide : 18 + 0 ≤ _)⟩)
    dsimp only [Pt.U, Pt.locs, Pt.cells, Pt.slots] at X53 l53 y53 z53 st53 hQ53
    subst l53 y53 z53
    obtain ⟨h53, e53'⟩ : ∃ z, z = T53.heap := ⟨_, rfl⟩
    rw [← e53'] at hQ53
    have e53 : T53.heap = h53 := e53'.symm
    obtain ⟨rfl, N53q, K53, pp1, pp2, pp3⟩ := hQ53
    have NF := Fr.app NF N53q
    refine own_go (fun _ k => st53.trans k) ?_
    have E_b17 := E_b17.keep K53
    have ZS := Nat.le_trans ZS K53.1
    have KP := KP.trans K53 (allS (Or.inr sz_b17) (allS (Or.inr sz_c19) all0))
    have F_size_b17 := pp1
    have F_values_b17 := pp2
    have V_c19 : Arv Z h53 c19 kc19 .int (16 : Int32) [(.int q2), (.int (0 : Int32)), (.int (0 : Int32)), (.int (0 : Int32)), (.int (0 : Int32)), (.int (0 : Int32)), (.int (0 : Int32)), (.int (0 : Int32)), (.int (0 : Int32)), (.int (0 : Int32)), (.int (0 : Int32)), (.int (0 : Int32)), (.int (0 : Int32)), (.int (0 : Int32)), (.int (0 : Int32)), (.int (0 : Int32))] (.int (0 : Int32)) := pp3
    show own_R _ _ _ _ (T53.setTop (mkF m 29 #[.val (.int p1), .val (.int q2), .val (.int q3), .val (.int q4), .val (.int q5), .val (.int q6), .val (.int (5 : Int32)), .val (.ref b17), .unset, .unset] []))
    refine own_go (fun _ k => XS.iload X53.here hx rfl (hb hby at_29) rfl k) ?_
    show own_R _ _ _ _ (T53.setTop (mkF m 31 #[.val (.int p1), .val (.int q2), .val (.int q3), .val (.int q4), .val (.int q5), .val (.int q6), .val (.int (5 : Int32)), .val (.ref b17), .unset, .unset] [(.int (5 : Int32))]))
    refine own_go (fun _ k => XS.iconst X53.here hx rfl (hb hby at_31) k) ?_
    show own_R _ _ _ _ (T53.setTop (mkF m 32 #[.val (.int p1), .val (.int q2), .val (.int q3), .val (.int q4), .val (.int q5), .val (.int q6), .val (.int (5 : Int32)), .val (.ref b17), .unset, .unset] [(.int (1 : Int32)), (.int (5 : Int32))]))
    refine own_go (fun _ k => XS.icmpNo X53.here hx rfl (hb hby at_32) rfl (tlt (by decide : (1 : Int32) < (5 : Int32))).2.2.2 k) ?_
    show own_R _ _ _ _ (T53.setTop (mkF m 35 #[.val (.int p1), .val (.int q2), .val (.int q3), .val (.int q4), .val (.int q5), .val (.int q6), .val (.int (5 : Int32)), .val (.ref b17), .unset, .unset] []))
    refine own_go (fun _ k => XS.aload X53.here hx rfl (hb hby at_35) rfl rfl k) ?_
    show own_R _ _ _ _ (T53.setTop (mkF m 37 #[.val (.int p1), .val (.int q2), .val (.int q3), .val (.int q4), .val (.int q5), .val (.int q6), .val (.int (5 : Int32)), .val (.ref b17), .unset, .unset] [(.ref b17)]))
    refine own_go (fun _ k => XS.iloadN X53.here hx rfl (hb hby at_37) rfl k) ?_
    show own_R _ _ _ _ (T53.setTop (mkF m 38 #[.val (.int p1), .val (.int q2), .val (.int q3), .val (.int q4), .val (.int q5), .val (.int q6), .val (.int (5 : Int32)), .val (.ref b17), .unset, .unset] [(.int q3), (.ref b17)]))
    obtain ⟨cq54, kq54, q54a, q54b, q54c⟩ := isOf hZ e53 E_b17
    obtain ⟨_, _, ⟨T54, L54, k54, n54⟩, -, X54, ⟨Lc54, hQ54, l54, y54, z54⟩, st54⟩ := X53.virtualBack hx (y := (⟨"com/example/austere_nets/austerenets/minimize/IntList", "add", "(I)V"⟩ : MethodName)) (z := (⟨"com/example/austere_nets/austerenets/minimize/IntList", "add", "(I)V"⟩ : MethodName)) hown (mvT hZ (hw _ (List.mem_of_getElem? (i := 36) rfl))) (mvT hZ (hw _ (List.mem_of_getElem? (i := 37) rfl))) (notFace_of_selects (args := #[]) (mvT hZ (hw _ (List.mem_of_getElem? (i := 39) rfl)))) (mvT hZ (hw _ (List.mem_of_getElem? (i := 39) rfl))) (mvT hZ (hw _ (List.mem_of_getElem? (i := 38) rfl))) (by decide) (backOf (W := 0) (rm7 l Z a0 hw [] b17 q3 c19 kc19 (1 : Int32) 1 [(.int q2), (.int (0 : Int32)), (.int (0 : Int32)), (.int (0 : Int32)), (.int (0 : Int32)), (.int (0 : Int32)), (.int (0 : Int32)), (.int (0 : Int32)), (.int (0 : Int32)), (.int (0 : Int32)), (.int (0 : Int32)), (.int (0 : Int32)), (.int (0 : Int32)), (.int (0 : Int32)), (.int (0 : Int32)), (.int (0 : Int32))] h53 n0 ZS E_b17 F_values_b17 F_size_b17 g_b17 V_c19 g_c19 ne_b17_c19 ⟨by decide, by decide⟩ rfl (Nat.le_of_ble_eq_true rfl)) hZ (hw _ (List.mem_of_getElem? (i := 40) rfl)) (hw _ (List.mem_of_getElem? (i := 3) rfl)) (by decide) (by decide)) q54a q54c (g := (mkF m 38 #[.val (.int p1), .val (.int q2), .val (.int q3), .val (.int q4), .val (.int q5), .val (.int q6), .val (.int (5 : Int32)), .val (.ref b17), .unset, .unset] [(.int q3), (.ref b17)])) rfl (by rw [hml]; rfl) (Steps.refl _) (argsL := [(.int q3)]) (rest := []) (lenOf pd_5 rfl) rfl (by show 2 * 0 + _ ≤ _; exact Nat.le_of_eq rfl) (hb hby at_38) (fun _ _ => ⟨rfl, e53, (by decide : 2 + 0 ≤ _), (by decide : 18 + 0 ≤ _)⟩)
    dsimp only [Pt.U, Pt.locs, Pt.cells, Pt.slots] at X54 l54 y54 z54 st54 hQ54
    subst l54 y54 z54
    obtain ⟨h54, e54'⟩ : ∃ z, z = T54.heap := ⟨_, rfl⟩
    rw [← e54'] at hQ54
    have e54 : T54.heap = h54 := e54'.symm
    obtain ⟨rfl, N54q, K54, pp1, pp2, pp3⟩ := hQ54
    have NF := Fr.app NF N54q
    refine own_go (fun _ k => st54.trans k) ?_
    have E_b17 := E_b17.keep K54
    have ZS := Nat.le_trans ZS K54.1
    have KP := KP.trans K54 (allS (Or.inr sz_b17) (allS (Or.inr sz_c19) all0))
    have F_size_b17 := pp1
    have F_values_b17 := pp2
    have V_c19 : Arv Z h54 c19 kc19 .int (16 : Int32) [(.int q2), (.int q3), (.int (0 : Int32)), (.int (0 : Int32)), (.int (0 : Int32)), (.int (0 : Int32)), (.int (0 : Int32)), (.int (0 : Int32)), (.int (0 : Int32)), (.int (0 : Int32)), (.int (0 : Int32)), (.int (0 : Int32)), (.int (0 : Int32)), (.int (0 : Int32)), (.int (0 : Int32)), (.int (0 : Int32))] (.int (0 : Int32)) := pp3
    show own_R _ _ _ _ (T54.setTop (mkF m 41 #[.val (.int p1), .val (.int q2), .val (.int q3), .val (.int q4), .val (.int q5), .val (.int q6), .val (.int (5 : Int32)), .val (.ref b17), .unset, .unset] []))
    refine own_go (fun _ k => XS.iload X54.here hx rfl (hb hby at_41) rfl k) ?_
    show own_R _ _ _ _ (T54.setTop (mkF m 43 #[.val (.int p1), .val (.int q2), .val (.int q3), .val (.int q4), .val (.int q5), .val (.int q6), .val (.int (5 : Int32)), .val (.ref b17), .unset, .unset] [(.int (5 : Int32))]))
    refine own_go (fun _ k => XS.iconst X54.here hx rfl (hb hby at_43) k) ?_
    show own_R _ _ _ _ (T54.setTop (mkF m 44 #[.val (.int p1), .val (.int q2), .val (.int q3), .val (.int q4), .val (.int q5), .val (.int q6), .val (.int (5 : Int32)), .val (.ref b17), .unset, .unset] [(.int (2 : Int32)), (.int (5 : Int32))]))
    refine own_go (fun _ k => XS.icmpNo X54.here hx rfl (hb hby at_44) rfl (tlt (by decide : (2 : Int32) < (5 : Int32))).2.2.2 k) ?_
    show own_R _ _ _ _ (T54.setTop (mkF m 47 #[.val (.int p1), .val (.int q2), .val (.int q3), .val (.int q4), .val (.int q5), .val (.int q6), .val (.int (5 : Int32)), .val (.ref b17), .unset, .unset] []))
    refine own_go (fun _ k => XS.aload X54.here hx rfl (hb hby at_47) rfl rfl k) ?_
    show own_R _ _ _ _ (T54.setTop (mkF m 49 #[.val (.int p1), .val (.int q2), .val (.int q3), .val (.int q4), .val (.int q5), .val (.int q6), .val (.int (5 : Int32)), .val (.ref b17), .unset, .unset] [(.ref b17)]))
    refine own_go (fun _ k => XS.iloadN X54.here hx rfl (hb hby at_49) rfl k) ?_
    show own_R _ _ _ _ (T54.setTop (mkF m 50 #[.val (.int p1), .val (.int q2), .val (.int q3), .val (.int q4), .val (.int q5), .val (.int q6), .val (.int (5 : Int32)), .val (.ref b17), .unset, .unset] [(.int q4), (.ref b17)]))
    obtain ⟨cq55, kq55, q55a, q55b, q55c⟩ := isOf hZ e54 E_b17
    obtain ⟨_, _, ⟨T55, L55, k55, n55⟩, -, X55, ⟨Lc55, hQ55, l55, y55, z55⟩, st55⟩ := X54.virtualBack hx (y := (⟨"com/example/austere_nets/austerenets/minimize/IntList", "add", "(I)V"⟩ : MethodName)) (z := (⟨"com/example/austere_nets/austerenets/minimize/IntList", "add", "(I)V"⟩ : MethodName)) hown (mvT hZ (hw _ (List.mem_of_getElem? (i := 36) rfl))) (mvT hZ (hw _ (List.mem_of_getElem? (i := 37) rfl))) (notFace_of_selects (args := #[]) (mvT hZ (hw _ (List.mem_of_getElem? (i := 39) rfl)))) (mvT hZ (hw _ (List.mem_of_getElem? (i := 39) rfl))) (mvT hZ (hw _ (List.mem_of_getElem? (i := 38) rfl))) (by decide) (backOf (W := 0) (rm7 l Z a0 hw [] b17 q4 c19 kc19 (2 : Int32) 2 [(.int q2), (.int q3), (.int (0 : Int32)), (.int (0 : Int32)), (.int (0 : Int32)), (.int (0 : Int32)), (.int (0 : Int32)), (.int (0 : Int32)), (.int (0 : Int32)), (.int (0 : Int32)), (.int (0 : Int32)), (.int (0 : Int32)), (.int (0 : Int32)), (.int (0 : Int32)), (.int (0 : Int32)), (.int (0 : Int32))] h54 n0 ZS E_b17 F_values_b17 F_size_b17 g_b17 V_c19 g_c19 ne_b17_c19 ⟨by decide, by decide⟩ rfl (Nat.le_of_ble_eq_true rfl)) hZ (hw _ (List.mem_of_getElem? (i := 40) rfl)) (hw _ (List.mem_of_getElem? (i := 3) rfl)) (by decide) (by decide)) q55a q55c (g := (mkF m 50 #[.val (.int p1), .val (.int q2), .val (.int q3), .val (.int q4), .val (.int q5), .val (.int q6), .val (.int (5 : Int32)), .val (.ref b17), .unset, .unset] [(.int q4), (.ref b17)])) rfl (by rw [hml]; rfl) (Steps.refl _) (argsL := [(.int q4)]) (rest := []) (lenOf pd_5 rfl) rfl (by show 2 * 0 + _ ≤ _; exact Nat.le_of_eq rfl) (hb hby at_50) (fun _ _ => ⟨rfl, e54, (by decide : 2 + 0 ≤ _), (by decide : 18 + 0 ≤ _)⟩)
    dsimp only [Pt.U, Pt.locs, Pt.cells, Pt.slots] at X55 l55 y55 z55 st55 hQ55
    subst l55 y55 z55
    obtain ⟨h55, e55'⟩ : ∃ z, z = T55.heap := ⟨_, rfl⟩
    rw [← e55'] at hQ55
    have e55 : T55.heap = h55 := e55'.symm
    obtain ⟨rfl, N55q, K55, pp1, pp2, pp3⟩ := hQ55
    have NF := Fr.app NF N55q
    refine own_go (fun _ k => st55.trans k) ?_
    have E_b17 := E_b17.keep K55
    have ZS := Nat.le_trans ZS K55.1
    have KP := KP.trans K55 (allS (Or.inr sz_b17) (allS (Or.inr sz_c19) all0))
    have F_size_b17 := pp1
    have F_values_b17 := pp2
    have V_c19 : Arv Z h55 c19 kc19 .int (16 : Int32) [(.int q2), (.int q3), (.int q4), (.int (0 : Int32)), (.int (0 : Int32)), (.int (0 : Int32)), (.int (0 : Int32)), (.int (0 : Int32)), (.int (0 : Int32)), (.int (0 : Int32)), (.int (0 : Int32)), (.int (0 : Int32)), (.int (0 : Int32)), (.int (0 : Int32)), (.int (0 : Int32)), (.int (0 : Int32))] (.int (0 : Int32)) := pp3
    show own_R _ _ _ _ (T55.setTop (mkF m 53 #[.val (.int p1), .val (.int q2), .val (.int q3), .val (.int q4), .val (.int q5), .val (.int q6), .val (.int (5 : Int32)), .val (.ref b17), .unset, .unset] []))
    refine own_go (fun _ k => XS.iload X55.here hx rfl (hb hby at_53) rfl k) ?_
    show own_R _ _ _ _ (T55.setTop (mkF m 55 #[.val (.int p1), .val (.int q2), .val (.int q3), .val (.int q4), .val (.int q5), .val (.int q6), .val (.int (5 : Int32)), .val (.ref b17), .unset, .unset] [(.int (5 : Int32))]))
    refine own_go (fun _ k => XS.iconst X55.here hx rfl (hb hby at_55) k) ?_
    show own_R _ _ _ _ (T55.setTop (mkF m 56 #[.val (.int p1), .val (.int q2), .val (.int q3), .val (.int q4), .val (.int q5), .val (.int q6), .val (.int (5 : Int32)), .val (.ref b17), .unset, .unset] [(.int (3 : Int32)), (.int (5 : Int32))]))
    refine own_go (fun _ k => XS.icmpNo X55.here hx rfl (hb hby at_56) rfl (tlt (by decide : (3 : Int32) < (5 : Int32))).2.2.2 k) ?_
    show own_R _ _ _ _ (T55.setTop (mkF m 59 #[.val (.int p1), .val (.int q2), .val (.int q3), .val (.int q4), .val (.int q5), .val (.int q6), .val (.int (5 : Int32)), .val (.ref b17), .unset, .unset] []))
    refine own_go (fun _ k => XS.aload X55.here hx rfl (hb hby at_59) rfl rfl k) ?_
    show own_R _ _ _ _ (T55.setTop (mkF m 61 #[.val (.int p1), .val (.int q2), .val (.int q3), .val (.int q4), .val (.int q5), .val (.int q6), .val (.int (5 : Int32)), .val (.ref b17), .unset, .unset] [(.ref b17)]))
    refine own_go (fun _ k => XS.iload X55.here hx rfl (hb hby at_61) rfl k) ?_
    show own_R _ _ _ _ (T55.setTop (mkF m 63 #[.val (.int p1), .val (.int q2), .val (.int q3), .val (.int q4), .val (.int q5), .val (.int q6), .val (.int (5 : Int32)), .val (.ref b17), .unset, .unset] [(.int q5), (.ref b17)]))
    obtain ⟨cq56, kq56, q56a, q56b, q56c⟩ := isOf hZ e55 E_b17
    obtain ⟨_, _, ⟨T56, L56, k56, n56⟩, -, X56, ⟨Lc56, hQ56, l56, y56, z56⟩, st56⟩ := X55.virtualBack hx (y := (⟨"com/example/austere_nets/austerenets/minimize/IntList", "add", "(I)V"⟩ : MethodName)) (z := (⟨"com/example/austere_nets/austerenets/minimize/IntList", "add", "(I)V"⟩ : MethodName)) hown (mvT hZ (hw _ (List.mem_of_getElem? (i := 36) rfl))) (mvT hZ (hw _ (List.mem_of_getElem? (i := 37) rfl))) (notFace_of_selects (args := #[]) (mvT hZ (hw _ (List.mem_of_getElem? (i := 39) rfl)))) (mvT hZ (hw _ (List.mem_of_getElem? (i := 39) rfl))) (mvT hZ (hw _ (List.mem_of_getElem? (i := 38) rfl))) (by decide) (backOf (W := 0) (rm7 l Z a0 hw [] b17 q5 c19 kc19 (3 : Int32) 3 [(.int q2), (.int q3), (.int q4), (.int (0 : Int32)), (.int (0 : Int32)), (.int (0 : Int32)), (.int (0 : Int32)), (.int (0 : Int32)), (.int (0 : Int32)), (.int (0 : Int32)), (.int (0 : Int32)), (.int (0 : Int32)), (.int (0 : Int32)), (.int (0 : Int32)), (.int (0 : Int32)), (.int (0 : Int32))] h55 n0 ZS E_b17 F_values_b17 F_size_b17 g_b17 V_c19 g_c19 ne_b17_c19 ⟨by decide, by decide⟩ rfl (Nat.le_of_ble_eq_true rfl)) hZ (hw _ (List.mem_of_getElem? (i := 40) rfl)) (hw _ (List.mem_of_getElem? (i := 3) rfl)) (by decide) (by decide)) q56a q56c (g := (mkF m 63 #[.val (.int p1), .val (.int q2), .val (.int q3), .val (.int q4), .val (.int q5), .val (.int q6), .val (.int (5 : Int32)), .val (.ref b17), .unset, .unset] [(.int q5), (.ref b17)])) rfl (by rw [hml]; rfl) (Steps.refl _) (argsL := [(.int q5)]) (rest := []) (lenOf pd_5 rfl) rfl (by show 2 * 0 + _ ≤ _; exact Nat.le_of_eq rfl) (hb hby at_63) (fun _ _ => ⟨rfl, e55, (by decide : 2 + 0 ≤ _), (by decide : 18 + 0 ≤ _)⟩)
    dsimp only [Pt.U, Pt.locs, Pt.cells, Pt.slots] at X56 l56 y56 z56 st56 hQ56
    subst l56 y56 z56
    obtain ⟨h56, e56'⟩ : ∃ z, z = T56.heap := ⟨_, rfl⟩
    rw [← e56'] at hQ56
    have e56 : T56.heap = h56 := e56'.symm
    obtain ⟨rfl, N56q, K56, pp1, pp2, pp3⟩ := hQ56
    have NF := Fr.app NF N56q
    refine own_go (fun _ k => st56.trans k) ?_
    have E_b17 := E_b17.keep K56
    have ZS := Nat.le_trans ZS K56.1
    have KP := KP.trans K56 (allS (Or.inr sz_b17) (allS (Or.inr sz_c19) all0))
    have F_size_b17 := pp1
    have F_values_b17 := pp2
    have V_c19 : Arv Z h56 c19 kc19 .int (16 : Int32) [(.int q2), (.int q3), (.int q4), (.int q5), (.int (0 : Int32)), (.int (0 : Int32)), (.int (0 : Int32)), (.int (0 : Int32)), (.int (0 : Int32)), (.int (0 : Int32)), (.int (0 : Int32)), (.int (0 : Int32)), (.int (0 : Int32)), (.int (0 : Int32)), (.int (0 : Int32)), (.int (0 : Int32))] (.int (0 : Int32)) := pp3
    show own_R _ _ _ _ (T56.setTop (mkF m 66 #[.val (.int p1), .val (.int q2), .val (.int q3), .val (.int q4), .val (.int q5), .val (.int q6), .val (.int (5 : Int32)), .val (.ref b17), .unset, .unset] []))
    refine own_go (fun _ k => XS.iload X56.here hx rfl (hb hby at_66) rfl k) ?_
    show own_R _ _ _ _ (T56.setTop (mkF m 68 #[.val (.int p1), .val (.int q2), .val (.int q3), .val (.int q4), .val (.int q5), .val (.int q6), .val (.int (5 : Int32)), .val (.ref b17), .unset, .unset] [(.int (5 : Int32))]))
    refine own_go (fun _ k => XS.iconst X56.here hx rfl (hb hby at_68) k) ?_
    show own_R _ _ _ _ (T56.setTop (mkF m 69 #[.val (.int p1), .val (.int q2), .val (.int q3), .val (.int q4), .val (.int q5), .val (.int q6), .val (.int (5 : Int32)), .val (.ref b17), .unset, .unset] [(.int (4 : Int32)), (.int (5 : Int32))]))
    refine own_go (fun _ k => XS.icmpNo X56.here hx rfl (hb hby at_69) rfl (tlt (by decide : (4 : Int32) < (5 : Int32))).2.2.2 k) ?_
    show own_R _ _ _ _ (T56.setTop (mkF m 72 #[.val (.int p1), .val (.int q2), .val (.int q3), .val (.int q4), .val (.int q5), .val (.int q6), .val (.int (5 : Int32)), .val (.ref b17), .unset, .unset] []))
    refine own_go (fun _ k => XS.aload X56.here hx rfl (hb hby at_72) rfl rfl k) ?_
    show own_R _ _ _ _ (T56.setTop (mkF m 74 #[.val (.int p1), .val (.int q2), .val (.int q3), .val (.int q4), .val (.int q5), .val (.int q6), .val (.int (5 : Int32)), .val (.ref b17), .unset, .unset] [(.ref b17)]))
    refine own_go (fun _ k => XS.iload X56.here hx rfl (hb hby at_74) rfl k) ?_
    show own_R _ _ _ _ (T56.setTop (mkF m 76 #[.val (.int p1), .val (.int q2), .val (.int q3), .val (.int q4), .val (.int q5), .val (.int q6), .val (.int (5 : Int32)), .val (.ref b17), .unset, .unset] [(.int q6), (.ref b17)]))
    obtain ⟨cq57, kq57, q57a, q57b, q57c⟩ := isOf hZ e56 E_b17
    obtain ⟨_, _, ⟨T57, L57, k57, n57⟩, -, X57, ⟨Lc57, hQ57, l57, y57, z57⟩, st57⟩ := X56.virtualBack hx (y := (⟨"com/example/austere_nets/austerenets/minimize/IntList", "add", "(I)V"⟩ : MethodName)) (z := (⟨"com/example/austere_nets/austerenets/minimize/IntList", "add", "(I)V"⟩ : MethodName)) hown (mvT hZ (hw _ (List.mem_of_getElem? (i := 36) rfl))) (mvT hZ (hw _ (List.mem_of_getElem? (i := 37) rfl))) (notFace_of_selects (args := #[]) (mvT hZ (hw _ (List.mem_of_getElem? (i := 39) rfl)))) (mvT hZ (hw _ (List.mem_of_getElem? (i := 39) rfl))) (mvT hZ (hw _ (List.mem_of_getElem? (i := 38) rfl))) (by decide) (backOf (W := 0) (rm7 l Z a0 hw [] b17 q6 c19 kc19 (4 : Int32) 4 [(.int q2), (.int q3), (.int q4), (.int q5), (.int (0 : Int32)), (.int (0 : Int32)), (.int (0 : Int32)), (.int (0 : Int32)), (.int (0 : Int32)), (.int (0 : Int32)), (.int (0 : Int32)), (.int (0 : Int32)), (.int (0 : Int32)), (.int (0 : Int32)), (.int (0 : Int32)), (.int (0 : Int32))] h56 n0 ZS E_b17 F_values_b17 F_size_b17 g_b17 V_c19 g_c19 ne_b17_c19 ⟨by decide, by decide⟩ rfl (Nat.le_of_ble_eq_true rfl)) hZ (hw _ (List.mem_of_getElem? (i := 40) rfl)) (hw _ (List.mem_of_getElem? (i := 3) rfl)) (by decide) (by decide)) q57a q57c (g := (mkF m 76 #[.val (.int p1), .val (.int q2), .val (.int q3), .val (.int q4), .val (.int q5), .val (.int q6), .val (.int (5 : Int32)), .val (.ref b17), .unset, .unset] [(.int q6), (.ref b17)])) rfl (by rw [hml]; rfl) (Steps.refl _) (argsL := [(.int q6)]) (rest := []) (lenOf pd_5 rfl) rfl (by show 2 * 0 + _ ≤ _; exact Nat.le_of_eq rfl) (hb hby at_76) (fun _ _ => ⟨rfl, e56, (by decide : 2 + 0 ≤ _), (by decide : 18 + 0 ≤ _)⟩)
    dsimp only [Pt.U, Pt.locs, Pt.cells, Pt.slots] at X57 l57 y57 z57 st57 hQ57
    subst l57 y57 z57
    obtain ⟨h57, e57'⟩ : ∃ z, z = T57.heap := ⟨_, rfl⟩
    rw [← e57'] at hQ57
    have e57 : T57.heap = h57 := e57'.symm
    obtain ⟨rfl, N57q, K57, pp1, pp2, pp3⟩ := hQ57
    have NF := Fr.app NF N57q
    refine own_go (fun _ k => st57.trans k) ?_
    have E_b17 := E_b17.keep K57
    have ZS := Nat.le_trans ZS K57.1
    have KP := KP.trans K57 (allS (Or.inr sz_b17) (allS (Or.inr sz_c19) all0))
    have F_size_b17 := pp1
    have F_values_b17 := pp2
    have V_c19 : Arv Z h57 c19 kc19 .int (16 : Int32) [(.int q2), (.int q3), (.int q4), (.int q5), (.int q6), (.int (0 : Int32)), (.int (0 : Int32)), (.int (0 : Int32)), (.int (0 : Int32)), (.int (0 : Int32)), (.int (0 : Int32)), (.int (0 : Int32)), (.int (0 : Int32)), (.int (0 : Int32)), (.int (0 : Int32)), (.int (0 : Int32))] (.int (0 : Int32)) := pp3
    show own_R _ _ _ _ (T57.setTop (mkF m 79 #[.val (.int p1), .val (.int q2), .val (.int q3), .val (.int q4), .val (.int q5), .val (.int q6), .val (.int (5 : Int32)), .val (.ref b17), .unset, .unset] []))
    refine own_go (fun _ k => XS.aload X57.here hx rfl (hb hby at_79) rfl rfl k) ?_
    show own_R _ _ _ _ (T57.setTop (mkF m 81 #[.val (.int p1), .val (.int q2), .val (.int q3), .val (.int q4), .val (.int q5), .val (.int q6), .val (.int (5 : Int32)), .val (.ref b17), .unset, .unset] [(.ref b17)]))
    obtain ⟨cq58, kq58, q58a, q58b, q58c⟩ := isOf hZ e57 E_b17
    obtain ⟨_, _, ⟨T58, L58, k58, n58⟩, -, X58, ⟨Lc58, hQ58, l58, y58, z58⟩, st58⟩ := X57.virtualBack hx (y := (⟨"com/example/austere_nets/austerenets/minimize/IntList", "toArray", "()[I"⟩ : MethodName)) (z := (⟨"com/example/austere_nets/austerenets/minimize/IntList", "toArray", "()[I"⟩ : MethodName)) hown (mvT hZ (hw _ (List.mem_of_getElem? (i := 13) rfl))) (mvT hZ (hw _ (List.mem_of_getElem? (i := 14) rfl))) (notFace_of_selects (args := #[]) (mvT hZ (hw _ (List.mem_of_getElem? (i := 16) rfl)))) (mvT hZ (hw _ (List.mem_of_getElem? (i := 16) rfl))) (mvT hZ (hw _ (List.mem_of_getElem? (i := 15) rfl))) (by decide) (backOf (W := 0) (rm3 l Z a0 hw [] b17 c19 kc19 (5 : Int32) [(.int q2), (.int q3), (.int q4), (.int q5), (.int q6), (.int (0 : Int32)), (.int (0 : Int32)), (.int (0 : Int32)), (.int (0 : Int32)), (.int (0 : Int32)), (.int (0 : Int32)), (.int (0 : Int32)), (.int (0 : Int32)), (.int (0 : Int32)), (.int (0 : Int32)), (.int (0 : Int32))] h57 n0 ZS F_values_b17 F_size_b17 V_c19 (by decide) (by decide) (by decide)) hZ (hw _ (List.mem_of_getElem? (i := 17) rfl)) (hw _ (List.mem_of_getElem? (i := 3) rfl)) (by decide) (by decide)) q58a q58c (g := (mkF m 81 #[.val (.int p1), .val (.int q2), .val (.int q3), .val (.int q4), .val (.int q5), .val (.int q6), .val (.int (5 : Int32)), .val (.ref b17), .unset, .unset] [(.ref b17)])) rfl (by rw [hml]; rfl) (Steps.refl _) (argsL := []) (rest := []) (lenOf pd_3 rfl) rfl (by show 2 * 0 + _ ≤ _; exact Nat.le_of_eq rfl) (hb hby at_81) (fun _ _ => ⟨rfl, e57, (by decide : 2 + 1 ≤ _), (by decide : 18 + 16 ≤ _)⟩)
    dsimp only [Pt.U, Pt.locs, Pt.cells, Pt.slots] at X58 l58 y58 z58 st58 hQ58
    subst l58 y58 z58
    obtain ⟨h58, e58'⟩ : ∃ z, z = T58.heap := ⟨_, rfl⟩
    rw [← e58'] at hQ58
    have e58 : T58.heap = h58 := e58'.symm
    obtain ⟨c59, rfl, N58q, K58, hbc59, kc59, Vc59'⟩ := hQ58
    have NF := Fr.app NF N58q
    refine own_go (fun _ k => st58.trans k) ?_
    have ne_b17_c59 : b17 ≠ c59 := Nat.ne_of_lt (Nat.lt_of_lt_of_le E_b17.lt hbc59)
    have ne_c19_c59 : c19 ≠ c59 := Nat.ne_of_lt (Nat.lt_of_lt_of_le V_c19.lt hbc59)
    have g_c59 : n0 ≤ c59 := Nat.le_trans ZS hbc59
    have sz_c59 : h0.size ≤ c59 := Nat.le_trans KP.1 hbc59
    have E_b17 := E_b17.keep K58
    have F_size_b17 := F_size_b17.keep K58 nin0
    have F_values_b17 := F_values_b17.keep K58 nin0
    have V_c19 := V_c19.keep K58 nin0
    have ZS := Nat.le_trans ZS K58.1
    have KP := KP.trans K58 all0
    have V_c59 : Arv Z h58 c59 kc59 .int (5 : Int32) [(.int q2), (.int q3), (.int q4), (.int q5), (.int q6)] (.int (0 : Int32)) := Vc59'
    show own_R _ _ _ _ (T58.setTop (mkF m 84 #[.val (.int p1), .val (.int q2), .val (.int q3), .val (.int q4), .val (.int q5), .val (.int q6), .val (.int (5 : Int32)), .val (.ref b17), .unset, .unset] [(.ref c59)]))
    refine own_go (fun _ k => XS.astore X58.here hx rfl (hb hby at_84) rfl rfl (l' := #[.val (.int p1), .val (.int q2), .val (.int q3), .val (.int q4), .val (.int q5), .val (.int q6), .val (.int (5 : Int32)), .val (.ref b17), .val (.ref c59), .unset]) rfl k) ?_
    show own_R _ _ _ _ (T58.setTop (mkF m 86 #[.val (.int p1), .val (.int q2), .val (.int q3), .val (.int q4), .val (.int q5), .val (.int q6), .val (.int (5 : Int32)), .val (.ref b17), .val (.ref c59), .unset] []))
    refine own_go (fun _ k => XS.aload X58.here hx rfl (hb hby at_86) rfl rfl k) ?_
    show own_R _ _ _ _ (T58.setTop (mkF m 88 #[.val (.int p1), .val (.int q2), .val (.int q3), .val (.int q4), .val (.int q5), .val (.int q6), .val (.int (5 : Int32)), .val (.ref b17), .val (.ref c59), .unset] [(.ref c59)]))
    refine own_go (fun _ k => XS.iload X58.here hx rfl (hb hby at_88) rfl k) ?_
    show own_R _ _ _ _ (T58.setTop (mkF m 90 #[.val (.int p1), .val (.int q2), .val (.int q3), .val (.int q4), .val (.int q5), .val (.int q6), .val (.int (5 : Int32)), .val (.ref b17), .val (.ref c59), .unset] [(.int (5 : Int32)), (.ref c59)]))
    refine own_go (fun _ k => XS.iloadN X58.here hx rfl (hb hby at_90) rfl k) ?_
    show own_R _ _ _ _ (T58.setTop (mkF m 91 #[.val (.int p1), .val (.int q2), .val (.int q3), .val (.int q4), .val (.int q5), .val (.int q6), .val (.int (5 : Int32)), .val (.ref b17), .val (.ref c59), .unset] [(.int q2), (.int (5 : Int32)), (.ref c59)]))
    refine own_go (fun _ k => XS.iloadN X58.here hx rfl (hb hby at_91) rfl k) ?_
    show own_R _ _ _ _ (T58.setTop (mkF m 92 #[.val (.int p1), .val (.int q2), .val (.int q3), .val (.int q4), .val (.int q5), .val (.int q6), .val (.int (5 : Int32)), .val (.ref b17), .val (.ref c59), .unset] [(.int q3), (.int q2), (.int (5 : Int32)), (.ref c59)]))
    refine own_go (fun _ k => XS.iloadN X58.here hx rfl (hb hby at_92) rfl k) ?_
    show own_R _ _ _ _ (T58.setTop (mkF m 93 #[.val (.int p1), .val (.int q2), .val (.int q3), .val (.int q4), .val (.int q5), .val (.int q6), .val (.int (5 : Int32)), .val (.ref b17), .val (.ref c59), .unset] [(.int q4), (.int q3), (.int q2), (.int (5 : Int32)), (.ref c59)]))
    refine own_go (fun _ k => XS.iload X58.here hx rfl (hb hby at_93) rfl k) ?_
    show own_R _ _ _ _ (T58.setTop (mkF m 95 #[.val (.int p1), .val (.int q2), .val (.int q3), .val (.int q4), .val (.int q5), .val (.int q6), .val (.int (5 : Int32)), .val (.ref b17), .val (.ref c59), .unset] [(.int q5), (.int q4), (.int q3), (.int q2), (.int (5 : Int32)), (.ref c59)]))
    refine own_go (fun _ k => XS.iload X58.here hx rfl (hb hby at_95) rfl k) ?_
    show own_R _ _ _ _ (T58.setTop (mkF m 97 #[.val (.int p1), .val (.int q2), .val (.int q3), .val (.int q4), .val (.int q5), .val (.int q6), .val (.int (5 : Int32)), .val (.ref b17), .val (.ref c59), .unset] [(.int q6), (.int q5), (.int q4), (.int q3), (.int q2), (.int (5 : Int32)), (.ref c59)]))
    obtain ⟨_, _, ⟨T59, L59, k59, n59⟩, -, X59, ⟨Lc59, hQ59, l59, y59, z59⟩, st59⟩ := Jvm.LawKit.callS X58 hx (y := (⟨"com/example/austere_nets/austerenets/minimize/IntListToArrayPinLaw", "matches", "([IIIIIII)Z"⟩ : MethodName)) hown (mvT hZ (hw _ (List.mem_of_getElem? (i := 32) rfl))) (mvT hZ (hw _ (List.mem_of_getElem? (i := 33) rfl))) (mvT hZ (hw _ (List.mem_of_getElem? (i := 34) rfl))) (mvT hZ (hw _ (List.mem_of_getElem? (i := 35) rfl))) (by decide) (backOf (W := 0) (rm6_5 l Z a0 hw [] c59 q2 q3 q4 q5 q6 kc59 h58 n0 ZS V_c59) hZ (hw _ (List.mem_of_getElem? (i := 35) rfl)) (hw _ (List.mem_of_getElem? (i := 34) rfl)) (by decide) (by decide)) (g := (mkF m 97 #[.val (.int p1), .val (.int q2), .val (.int q3), .val (.int q4), .val (.int q5), .val (.int q6), .val (.int (5 : Int32)), .val (.ref b17), .val (.ref c59), .unset] [(.int q6), (.int q5), (.int q4), (.int q3), (.int q2), (.int (5 : Int32)), (.ref c59)])) rfl (by rw [hml]; rfl) (argsL := [(.ref c59), (.int (5 : Int32)), (.int q2), (.int q3), (.int q4), (.int q5), (.int q6)]) (rest := []) (lenOf pd_4 rfl) rfl (by show 2 * 0 + _ ≤ _; exact Nat.le_of_eq rfl) (hb hby at_97) (fun _ _ => ⟨rfl, e58, (by decide : 3 + 0 ≤ _), (by decide : 34 + 0 ≤ _)⟩)
    dsimp only [Pt.U, Pt.locs, Pt.cells, Pt.slots] at X59 l59 y59 z59 st59 hQ59
    subst l59 y59 z59
    obtain ⟨rfl, N59q, e59⟩ := hQ59
    have NF := Fr.app NF N59q
    refine own_go st59 ?_
    show own_R _ _ _ _ (T59.setTop (mkF m 100 #[.val (.int p1), .val (.int q2), .val (.int q3), .val (.int q4), .val (.int q5), .val (.int q6), .val (.int (5 : Int32)), .val (.ref b17), .val (.ref c59), .unset] [(.int (1 : Int32))]))
    refine own_go (fun _ k => XS.ifYes X59.here hx rfl (pc0 := 100) (pc' := 105) rfl (hb hby at_100) rfl ((if0 _ _).trans (feq (by decide : ¬ ((1 : Int32) = (0 : Int32)))).2) (by decide) (by decide) k) ?_
    show own_R _ _ _ _ (T59.setTop (mkF m 105 #[.val (.int p1), .val (.int q2), .val (.int q3), .val (.int q4), .val (.int q5), .val (.int q6), .val (.int (5 : Int32)), .val (.ref b17), .val (.ref c59), .unset] []))
    refine own_go (fun _ k => XS.iload X59.here hx rfl (hb hby at_105) rfl k) ?_
    show own_R _ _ _ _ (T59.setTop (mkF m 107 #[.val (.int p1), .val (.int q2), .val (.int q3), .val (.int q4), .val (.int q5), .val (.int q6), .val (.int (5 : Int32)), .val (.ref b17), .val (.ref c59), .unset] [(.int (5 : Int32))]))
    refine own_go (fun _ k => XS.ifNo X59.here hx rfl (hb hby at_107) rfl ((if0 _ _).trans (tlt (by decide : (0 : Int32) < (5 : Int32))).2.2.2) k) ?_
    show own_R _ _ _ _ (T59.setTop (mkF m 110 #[.val (.int p1), .val (.int q2), .val (.int q3), .val (.int q4), .val (.int q5), .val (.int q6), .val (.int (5 : Int32)), .val (.ref b17), .val (.ref c59), .unset] []))
    refine own_go (fun _ k => XS.aload X59.here hx rfl (hb hby at_110) rfl rfl k) ?_
    show own_R _ _ _ _ (T59.setTop (mkF m 112 #[.val (.int p1), .val (.int q2), .val (.int q3), .val (.int q4), .val (.int q5), .val (.int q6), .val (.int (5 : Int32)), .val (.ref b17), .val (.ref c59), .unset] [(.ref c59)]))
    refine own_go (fun _ k => XS.iconst X59.here hx rfl (hb hby at_112) k) ?_
    show own_R _ _ _ _ (T59.setTop (mkF m 113 #[.val (.int p1), .val (.int q2), .val (.int q3), .val (.int q4), .val (.int q5), .val (.int q6), .val (.int (5 : Int32)), .val (.ref b17), .val (.ref c59), .unset] [(.int (0 : Int32)), (.ref c59)]))
    refine own_go (fun _ k => XS.aload X59.here hx rfl (hb hby at_113) rfl rfl k) ?_
    show own_R _ _ _ _ (T59.setTop (mkF m 115 #[.val (.int p1), .val (.int q2), .val (.int q3), .val (.int q4), .val (.int q5), .val (.int q6), .val (.int (5 : Int32)), .val (.ref b17), .val (.ref c59), .unset] [(.ref c59), (.int (0 : Int32)), (.ref c59)]))
    refine own_go (fun _ k => XS.iconst X59.here hx rfl (hb hby at_115) k) ?_
    show own_R _ _ _ _ (T59.setTop (mkF m 116 #[.val (.int p1), .val (.int q2), .val (.int q3), .val (.int q4), .val (.int q5), .val (.int q6), .val (.int (5 : Int32)), .val (.ref b17), .val (.ref c59), .unset] [(.int (0 : Int32)), (.ref c59), (.int (0 : Int32)), (.ref c59)]))
    refine own_go (own_ldI X59 hx hZ e59 V_c59 (j := (0 : Int32)) (i := 0) ⟨by decide, by decide⟩ rfl (v := (.int q2)) rfl (g := (mkF m 116 #[.val (.int p1), .val (.int q2), .val (.int q3), .val (.int q4), .val (.int q5), .val (.int q6), .val (.int (5 : Int32)), .val (.ref b17), .val (.ref c59), .unset] [(.int (0 : Int32)), (.ref c59), (.int (0 : Int32)), (.ref c59)])) rfl rfl (hb hby at_116)) ?_
    show own_R _ _ _ _ (T59.setTop (mkF m 117 #[.val (.int p1), .val (.int q2), .val (.int q3), .val (.int q4), .val (.int q5), .val (.int q6), .val (.int (5 : Int32)), .val (.ref b17), .val (.ref c59), .unset] [(.int q2), (.int (0 : Int32)), (.ref c59)]))
    refine own_go (fun _ k => XS.iconst X59.here hx rfl (hb hby at_117) k) ?_
    show own_R _ _ _ _ (T59.setTop (mkF m 118 #[.val (.int p1), .val (.int q2), .val (.int q3), .val (.int q4), .val (.int q5), .val (.int q6), .val (.int (5 : Int32)), .val (.ref b17), .val (.ref c59), .unset] [(.int (-1 : Int32)), (.int q2), (.int (0 : Int32)), (.ref c59)]))
    refine own_go (fun _ k => XS.ixor X59.here hx rfl (hb hby at_118) rfl k) ?_
    show own_R _ _ _ _ (T59.setTop (mkF m 119 #[.val (.int p1), .val (.int q2), .val (.int q3), .val (.int q4), .val (.int q5), .val (.int q6), .val (.int (5 : Int32)), .val (.ref b17), .val (.ref c59), .unset] [(.int (q2 ^^^ (-1 : Int32))), (.int (0 : Int32)), (.ref c59)]))
    obtain ⟨T60, h60, sl60, X60, e60, W60, V60, st60⟩ := own_stI X59 hx hZ e59 V_c59 (j := (0 : Int32)) (i := 0) ⟨by decide, by decide⟩ rfl (Nat.le_of_ble_eq_true rfl) rfl (g := (mkF m 119 #[.val (.int p1), .val (.int q2), .val (.int q3), .val (.int q4), .val (.int q5), .val (.int q6), .val (.int (5 : Int32)), .val (.ref b17), .val (.ref c59), .unset] [(.int (q2 ^^^ (-1 : Int32))), (.int (0 : Int32)), (.ref c59)])) rfl rfl (hb hby at_119)
    refine own_go st60 ?_
    have E_b17 := E_b17.wr W60
    have F_size_b17 := F_size_b17.other W60 (Or.inl ne_b17_c59)
    have F_values_b17 := F_values_b17.other W60 (Or.inl ne_b17_c59)
    have V_c19 := V_c19.other W60 ne_c19_c59
    have ZS := Nat.le_trans ZS (Keep.of_wr W60).1
    have KP := KP.wr W60 (Or.inr sz_c59)
    have NF := Fr.snoc X60 NF g_c59
    have V_c59 : Arv Z h60 c59 kc59 .int (5 : Int32) [(.int (q2 ^^^ (-1 : Int32))), (.int q3), (.int q4), (.int q5), (.int q6)] (.int (0 : Int32)) := V60
    show own_R _ _ _ _ (T60.setTop (mkF m 120 #[.val (.int p1), .val (.int q2), .val (.int q3), .val (.int q4), .val (.int q5), .val (.int q6), .val (.int (5 : Int32)), .val (.ref b17), .val (.ref c59), .unset] []))
    refine own_go (fun _ k => XS.aload X60.here hx rfl (hb hby at_120) rfl rfl k) ?_
    show own_R _ _ _ _ (T60.setTop (mkF m 122 #[.val (.int p1), .val (.int q2), .val (.int q3), .val (.int q4), .val (.int q5), .val (.int q6), .val (.int (5 : Int32)), .val (.ref b17), .val (.ref c59), .unset] [(.ref b17)]))
    obtain ⟨cq61, kq61, q61a, q61b, q61c⟩ := isOf hZ e60 E_b17
    obtain ⟨_, _, ⟨T61, L61, k61, n61⟩, -, X61, ⟨Lc61, hQ61, l61, y61, z61⟩, st61⟩ := X60.virtualBack hx (y := (⟨"com/example/austere_nets/austerenets/minimize/IntList", "toArray", "()[I"⟩ : MethodName)) (z := (⟨"com/example/austere_nets/austerenets/minimize/IntList", "toArray", "()[I"⟩ : MethodName)) hown (mvT hZ (hw _ (List.mem_of_getElem? (i := 13) rfl))) (mvT hZ (hw _ (List.mem_of_getElem? (i := 14) rfl))) (notFace_of_selects (args := #[]) (mvT hZ (hw _ (List.mem_of_getElem? (i := 16) rfl)))) (mvT hZ (hw _ (List.mem_of_getElem? (i := 16) rfl))) (mvT hZ (hw _ (List.mem_of_getElem? (i := 15) rfl))) (by decide) (backOf (W := 0) (rm3 l Z a0 hw [] b17 c19 kc19 (5 : Int32) [(.int q2), (.int q3), (.int q4), (.int q5), (.int q6), (.int (0 : Int32)), (.int (0 : Int32)), (.int (0 : Int32)), (.int (0 : Int32)), (.int (0 : Int32)), (.int (0 : Int32)), (.int (0 : Int32)), (.int (0 : Int32)), (.int (0 : Int32)), (.int (0 : Int32)), (.int (0 : Int32))] h60 n0 ZS F_values_b17 F_size_b17 V_c19 (by decide) (by decide) (by decide)) hZ (hw _ (List.mem_of_getElem? (i := 17) rfl)) (hw _ (List.mem_of_getElem? (i := 3) rfl)) (by decide) (by decide)) q61a q61c (g := (mkF m 122 #[.val (.int p1), .val (.int q2), .val (.int q3), .val (.int q4), .val (.int q5), .val (.int q6), .val (.int (5 : Int32)), .val (.ref b17), .val (.ref c59), .unset] [(.ref b17)])) rfl (by rw [hml]; rfl) (Steps.refl _) (argsL := []) (rest := []) (lenOf pd_3 rfl) rfl (by show 2 * 0 + _ ≤ _; exact Nat.le_of_eq rfl) (hb hby at_122) (fun _ _ => ⟨rfl, e60, (by decide : 3 + 1 ≤ _), (by decide : 34 + 16 ≤ _)⟩)
    dsimp only [Pt.U, Pt.locs, Pt.cells, Pt.slots] at X61 l61 y61 z61 st61 hQ61
    subst l61 y61 z61
    obtain ⟨h61, e61'⟩ : ∃ z, z = T61.heap := ⟨_, rfl⟩
    rw [← e61'] at hQ61
    have e61 : T61.heap = h61 := e61'.symm
    obtain ⟨c62, rfl, N61q, K61, hbc62, kc62, Vc62'⟩ := hQ61
    have NF := Fr.app NF N61q
    refine own_go (fun _ k => st61.trans k) ?_
    have ne_b17_c62 : b17 ≠ c62 := Nat.ne_of_lt (Nat.lt_of_lt_of_le E_b17.lt hbc62)
    have ne_c19_c62 : c19 ≠ c62 := Nat.ne_of_lt (Nat.lt_of_lt_of_le V_c19.lt hbc62)
    have ne_c59_c62 : c59 ≠ c62 := Nat.ne_of_lt (Nat.lt_of_lt_of_le V_c59.lt hbc62)
    have g_c62 : n0 ≤ c62 := Nat.le_trans ZS hbc62
    have sz_c62 : h0.size ≤ c62 := Nat.le_trans KP.1 hbc62
    have E_b17 := E_b17.keep K61
    have F_size_b17 := F_size_b17.keep K61 nin0
    have F_values_b17 := F_values_b17.keep K61 nin0
    have V_c19 := V_c19.keep K61 nin0
    have V_c59 := V_c59.keep K61 nin0
    have ZS := Nat.le_trans ZS K61.1
    have KP := KP.trans K61 all0
    have V_c62 : Arv Z h61 c62 kc62 .int (5 : Int32) [(.int q2), (.int q3), (.int q4), (.int q5), (.int q6)] (.int (0 : Int32)) := Vc62'
    show own_R _ _ _ _ (T61.setTop (mkF m 125 #[.val (.int p1), .val (.int q2), .val (.int q3), .val (.int q4), .val (.int q5), .val (.int q6), .val (.int (5 : Int32)), .val (.ref b17), .val (.ref c59), .unset] [(.ref c62)]))
    refine own_go (fun _ k => XS.astore X61.here hx rfl (hb hby at_125) rfl rfl (l' := #[.val (.int p1), .val (.int q2), .val (.int q3), .val (.int q4), .val (.int q5), .val (.int q6), .val (.int (5 : Int32)), .val (.ref b17), .val (.ref c59), .val (.ref c62)]) rfl k) ?_
    show own_R _ _ _ _ (T61.setTop (mkF m 127 #[.val (.int p1), .val (.int q2), .val (.int q3), .val (.int q4), .val (.int q5), .val (.int q6), .val (.int (5 : Int32)), .val (.ref b17), .val (.ref c59), .val (.ref c62)] []))
    refine own_go (fun _ k => XS.aload X61.here hx rfl (hb hby at_127) rfl rfl k) ?_
    show own_R _ _ _ _ (T61.setTop (mkF m 129 #[.val (.int p1), .val (.int q2), .val (.int q3), .val (.int q4), .val (.int q5), .val (.int q6), .val (.int (5 : Int32)), .val (.ref b17), .val (.ref c59), .val (.ref c62)] [(.ref c62)]))
    refine own_go (fun _ k => XS.aload X61.here hx rfl (hb hby at_129) rfl rfl k) ?_
    show own_R _ _ _ _ (T61.setTop (mkF m 131 #[.val (.int p1), .val (.int q2), .val (.int q3), .val (.int q4), .val (.int q5), .val (.int q6), .val (.int (5 : Int32)), .val (.ref b17), .val (.ref c59), .val (.ref c62)] [(.ref c59), (.ref c62)]))
    refine own_go (fun _ k => Jvm.RoadKit.acmp (g := (mkF m 131 #[.val (.int p1), .val (.int q2), .val (.int q3), .val (.int q4), .val (.int q5), .val (.int q6), .val (.int (5 : Int32)), .val (.ref b17), .val (.ref c59), .val (.ref c62)] [(.ref c59), (.ref c62)])) X61 hx rfl rfl rfl (pc0 := 131) (pc' := 136) (same := false) rfl (hb hby at_131) rfl (decide_eq_false fun q => (Ne.symm ne_c59_c62) (Value.ref.inj q)) (by decide) (by decide) k) ?_
    show own_R _ _ _ _ (T61.setTop (mkF m 136 #[.val (.int p1), .val (.int q2), .val (.int q3), .val (.int q4), .val (.int q5), .val (.int q6), .val (.int (5 : Int32)), .val (.ref b17), .val (.ref c59), .val (.ref c62)] []))
    refine own_go (fun _ k => XS.aload X61.here hx rfl (hb hby at_136) rfl rfl k) ?_
    show own_R _ _ _ _ (T61.setTop (mkF m 138 #[.val (.int p1), .val (.int q2), .val (.int q3), .val (.int q4), .val (.int q5), .val (.int q6), .val (.int (5 : Int32)), .val (.ref b17), .val (.ref c59), .val (.ref c62)] [(.ref c62)]))
    refine own_go (fun _ k => XS.iload X61.here hx rfl (hb hby at_138) rfl k) ?_
    show own_R _ _ _ _ (T61.setTop (mkF m 140 #[.val (.int p1), .val (.int q2), .val (.int q3), .val (.int q4), .val (.int q5), .val (.int q6), .val (.int (5 : Int32)), .val (.ref b17), .val (.ref c59), .val (.ref c62)] [(.int (5 : Int32)), (.ref c62)]))
    refine own_go (fun _ k => XS.iloadN X61.here hx rfl (hb hby at_140) rfl k) ?_
    show own_R _ _ _ _ (T61.setTop (mkF m 141 #[.val (.int p1), .val (.int q2), .val (.int q3), .val (.int q4), .val (.int q5), .val (.int q6), .val (.int (5 : Int32)), .val (.ref b17), .val (.ref c59), .val (.ref c62)] [(.int q2), (.int (5 : Int32)), (.ref c62)]))
    refine own_go (fun _ k => XS.iloadN X61.here hx rfl (hb hby at_141) rfl k) ?_
    show own_R _ _ _ _ (T61.setTop (mkF m 142 #[.val (.int p1), .val (.int q2), .val (.int q3), .val (.int q4), .val (.int q5), .val (.int q6), .val (.int (5 : Int32)), .val (.ref b17), .val (.ref c59), .val (.ref c62)] [(.int q3), (.int q2), (.int (5 : Int32)), (.ref c62)]))
    refine own_go (fun _ k => XS.iloadN X61.here hx rfl (hb hby at_142) rfl k) ?_
    show own_R _ _ _ _ (T61.setTop (mkF m 143 #[.val (.int p1), .val (.int q2), .val (.int q3), .val (.int q4), .val (.int q5), .val (.int q6), .val (.int (5 : Int32)), .val (.ref b17), .val (.ref c59), .val (.ref c62)] [(.int q4), (.int q3), (.int q2), (.int (5 : Int32)), (.ref c62)]))
    refine own_go (fun _ k => XS.iload X61.here hx rfl (hb hby at_143) rfl k) ?_
    show own_R _ _ _ _ (T61.setTop (mkF m 145 #[.val (.int p1), .val (.int q2), .val (.int q3), .val (.int q4), .val (.int q5), .val (.int q6), .val (.int (5 : Int32)), .val (.ref b17), .val (.ref c59), .val (.ref c62)] [(.int q5), (.int q4), (.int q3), (.int q2), (.int (5 : Int32)), (.ref c62)]))
    refine own_go (fun _ k => XS.iload X61.here hx rfl (hb hby at_145) rfl k) ?_
    show own_R _ _ _ _ (T61.setTop (mkF m 147 #[.val (.int p1), .val (.int q2), .val (.int q3), .val (.int q4), .val (.int q5), .val (.int q6), .val (.int (5 : Int32)), .val (.ref b17), .val (.ref c59), .val (.ref c62)] [(.int q6), (.int q5), (.int q4), (.int q3), (.int q2), (.int (5 : Int32)), (.ref c62)]))
    obtain ⟨_, _, ⟨T62, L62, k62, n62⟩, -, X62, ⟨Lc62, hQ62, l62, y62, z62⟩, st62⟩ := Jvm.LawKit.callS X61 hx (y := (⟨"com/example/austere_nets/austerenets/minimize/IntListToArrayPinLaw", "matches", "([IIIIIII)Z"⟩ : MethodName)) hown (mvT hZ (hw _ (List.mem_of_getElem? (i := 32) rfl))) (mvT hZ (hw _ (List.mem_of_getElem? (i := 33) rfl))) (mvT hZ (hw _ (List.mem_of_getElem? (i := 34) rfl))) (mvT hZ (hw _ (List.mem_of_getElem? (i := 35) rfl))) (by decide) (backOf (W := 0) (rm6_5 l Z a0 hw [] c62 q2 q3 q4 q5 q6 kc62 h61 n0 ZS V_c62) hZ (hw _ (List.mem_of_getElem? (i := 35) rfl)) (hw _ (List.mem_of_getElem? (i := 34) rfl)) (by decide) (by decide)) (g := (mkF m 147 #[.val (.int p1), .val (.int q2), .val (.int q3), .val (.int q4), .val (.int q5), .val (.int q6), .val (.int (5 : Int32)), .val (.ref b17), .val (.ref c59), .val (.ref c62)] [(.int q6), (.int q5), (.int q4), (.int q3), (.int q2), (.int (5 : Int32)), (.ref c62)])) rfl (by rw [hml]; rfl) (argsL := [(.ref c62), (.int (5 : Int32)), (.int q2), (.int q3), (.int q4), (.int q5), (.int q6)]) (rest := []) (lenOf pd_4 rfl) rfl (by show 2 * 0 + _ ≤ _; exact Nat.le_of_eq rfl) (hb hby at_147) (fun _ _ => ⟨rfl, e61, (by decide : 4 + 0 ≤ _), (by decide : 50 + 0 ≤ _)⟩)
    dsimp only [Pt.U, Pt.locs, Pt.cells, Pt.slots] at X62 l62 y62 z62 st62 hQ62
    subst l62 y62 z62
    obtain ⟨rfl, N62q, e62⟩ := hQ62
    have NF := Fr.app NF N62q
    refine own_go st62 ?_
    show own_R _ _ _ _ (T62.setTop (mkF m 150 #[.val (.int p1), .val (.int q2), .val (.int q3), .val (.int q4), .val (.int q5), .val (.int q6), .val (.int (5 : Int32)), .val (.ref b17), .val (.ref c59), .val (.ref c62)] [(.int (1 : Int32))]))
    exact own_retN X62 hx (t := .boolean) (by simp) Bd.returns (hb hby at_150) hlk ⟨rfl, NF⟩ (by decide) (by decide)
set_option maxRecDepth 65536 in
set_option maxHeartbeats 40000000 in
theorem comes_1 {Post : Tables → Env → Array Value → State → Outcome → State → Prop} (hpost : ∀ tb e args s v u, (limb_1_1.after args s (.returned v) u = true ∧ limb_1_2.after args s (.returned v) u = true ∧ True) → FrameEnd s (.returned v) u (Jvm.fieldLocs frame_1_writes args s ++ Jvm.arrayLocs frame_1_arrays args s ++ Jvm.staticLocs frame_1_statics s) 16 128 → Post tb e args s (.returned v) u) :
    ArmFor flags0 classFile x code maxLocals ret World_1 tables_1 room_1 Calls_1 rest_1 Pre_1 Post := by
  intro l hfl _ _ p e ha hc hk s m args below hf hA hF happ hP
  obtain ⟨hcalls, hrest, hpre⟩ := hP
  obtain ⟨-, -, -, hnamed, -, -, -, hat⟩ := (Spec.applies_iff hf).mp happ
  obtain ⟨hg, hn⟩ := and_e (Cond.before_iff.mp (show (Jvm.Cond.and given_1 narrow_1).before args s = true from hpre))
  obtain ⟨g1, g2⟩ := and_e hg
  obtain ⟨g3, g4⟩ := and_e g2
  obtain ⟨g5, g6⟩ := and_e g4
  obtain ⟨g7, g8⟩ := and_e g6
  obtain ⟨g9, g10⟩ := and_e g8
  obtain ⟨g11, g12⟩ := and_e g10
  obtain ⟨w0, w1, w2, w3, w4, w5, rfl⟩ : ∃ w0 w1 w2 w3 w4 w5 : Value, args = #[w0, w1, w2, w3, w4, w5] := by
    have hs : args.size = 6 := by simpa [Cond.value, given_1] using g1
    obtain ⟨L⟩ := args
    match L, hs with
    | [w0, w1, w2, w3, w4, w5], _ => exact ⟨w0, w1, w2, w3, w4, w5, rfl⟩
  have hw := fun d (hd : d ∈ tables_1) => atoms_spec (ws := Jvm.Cond.code x code maxLocals ret :: tables_1) hat d (List.mem_cons_of_mem _ hd)
  have hfit : Fit s := fun {y c} hc i hi => by
    obtain ⟨ha, rfl⟩ := Array.getElem?_eq_some_iff.mp hc
    have q := List.all_eq_true.mp ((Array.all_eq_true_iff_forall_mem.mp hF) _ (Array.getElem_mem ha)) i (List.mem_range.mpr hi)
    simpa [Array.getElem?_eq_getElem hi] using q
  obtain ⟨i0, ei0⟩ := is_v g3
  obtain rfl : w0 = (.int i0) := Option.some.inj ei0
  obtain ⟨i1, ei1⟩ := is_v g5
  obtain rfl : w1 = (.int i1) := Option.some.inj ei1
  obtain ⟨i2, ei2⟩ := is_v g7
  obtain rfl : w2 = (.int i2) := Option.some.inj ei2
  obtain ⟨i3, ei3⟩ := is_v g9
  obtain rfl : w3 = (.int i3) := Option.some.inj ei3
  obtain ⟨i4, ei4⟩ := is_v g11
  obtain rfl : w4 = (.int i4) := Option.some.inj ei4
  obtain ⟨i5, ei5⟩ := is_v g12
  obtain rfl : w5 = (.int i5) := Option.some.inj ei5
  obtain ⟨n, o, h1, h2, h3, _, L, rfl, ⟨rfl, N⟩, hq⟩ := rm0 l s _ hw tables_1 i0 i1 i2 i3 i4 i5 s.heap s.heap.size (Nat.le_refl _) p e ha hc hk s m _ below hf ((Spec.applies_iff_loose hf).mp happ).1 ⟨rfl, State.Warmed39.refl s, rfl⟩ trivial
  refine ⟨n, _, h1, h2, h3, hpost _ _ _ _ _ _ ⟨Cond.after_iff.mpr rfl, Cond.after_iff.mpr (eq_i res_at (Term.int_eval (1)) rfl), trivial⟩ ⟨hq.1, hq.2.1, (hq.2.2.sift fun y hy => Or.inr (N y hy)).mono (by decide) (by decide)⟩⟩
theorem main_1_1 : Claimed_1_1 := comes_1 fun _ _ _ _ _ _ h hF => ⟨h.1, hF⟩
theorem main_1_2 : Claimed_1_2 := comes_1 fun _ _ _ _ _ _ h hF => ⟨h.2.1, hF⟩
end Jvm.Pilot.@@N@@
namespace Jvm.Pilot.@@N@@
open Jvm Jvm.ClassFile Sem Op Lib Jvm.Free Jvm.Stand Jvm.Pilot.@@N@@.Jvm.D
/-! MADE BY PROGRAM (witnessworld.py) out of the Statement's table words and the real class files: 12 classes; the members and pool entries that the words name. The judged class is class 1, her method 2. -/
namespace start1
open Jvm.ClassFile
def u (s : String) : CpInfo := .utf8 (stringToUtf16 s)
/-- a pool by its gaps: so many unusable entries, then the entry; so many at the end -/
def gap : Nat → List CpInfo → List CpInfo
  | 0, r => r
  | n + 1, r => .unusable :: gap n r
def poolList (es : List (Nat × CpInfo)) (last : Nat) : List CpInfo := es.foldr (fun e r => gap e.1 (e.2 :: r)) (gap last [])
def pool (es : List (Nat × CpInfo)) (last : Nat) : Array CpInfo := ⟨poolList es last⟩
def fileOf (pool : Array CpInfo) (this : Nat) (attrs : Array Attribute := #[]) (ms : Array MethodInfo := #[]) (fl : Nat := 33) (sup : Nat := 0) (ifs : Array Nat := #[]) (fds : Array FieldInfo := #[]) : ClassFile where
  minorVersion := 0
  majorVersion := 65
  constantPool := pool
  accessFlags := fl
  thisClass := this
  superClass := sup
  interfaces := ifs
  fields := fds
  methods := ms
  attributes := attrs
def plain (name : String) (sup : Option ClassId) : Class where
  name := name
  kind := .ordinary
  loader := none
  accessFlags := 33
  super := sup
  interfaces := #[]
  cf := none
  fields := #[]
  methods := #[]
  instanceTypes := #[]
  staticTypes := #[]
  resolved := #[]
  callSites := []
  init := .initialized
  statics := none
  mirror := none

def pool0 : Array CpInfo := pool [(5, u "<init>"), (0, u "()V"), (1, .class_ 10), (1, u "java/lang/Object")] 113

def k0c0 : Code := { maxStack := 0, maxLocals := 1, code := object_method_1_code, exceptionTable := #[], attributes := #[] }
def k0m0 : Method := { name := "<init>", desc := "()V", sig := { parameters := [], returnType := none }, accessFlags := 1, code := some k0c0 }
/-- java/lang/Object -/
def k0 : Class := { plain "java/lang/Object" none with
  accessFlags := 33
  interfaces := #[]
  cf := some (fileOf pool0 8 #[] #[{ accessFlags := 1, nameIndex := 5, descriptorIndex := 6, attributes := #[] }] 33 0 #[] #[])
  fields := #[]
  methods := #[k0m0]
  instanceTypes := #[]
  staticTypes := #[]
  resolved := Array.replicate 124 none
  statics := none }

def pool1 : Array CpInfo := pool [(2, .class_ 4), (0, .nameAndType 5 6), (0, u "java/lang/Object"), (0, u "<init>"), (0, u "()V"), (0, .integer 2147483647), (0, .class_ 9), (0, u "com/example/austere_nets/austerenets/minimize/IntList"), (0, .methodref 8 3), (0, .methodref 8 12), (0, .nameAndType 13 14), (0, u "add"), (0, u "(I)V"), (0, .methodref 8 16), (0, .nameAndType 17 18), (0, u "toArray"), (0, u "()[I"), (0, .methodref 20 21), (0, .class_ 22), (0, .nameAndType 23 24), (0, u "com/example/austere_nets/austerenets/minimize/IntListToArrayPinLaw"), (0, u "matches"), (0, u "([IIIIIII)Z"), (3, u "law"), (0, u "(IIIIII)Z")] 4

def k1m0 : Method := { name := "<init>", desc := "()V", sig := { parameters := [], returnType := none }, accessFlags := 2, code := none }
def k1c1 : Code := { maxStack := 2, maxLocals := 7, code := method_2_code, exceptionTable := #[], attributes := #[] }
def k1m1 : Method := { name := "matches", desc := "([IIIIIII)Z", sig := { parameters := [(.array .int), .int, .int, .int, .int, .int, .int], returnType := some .boolean }, accessFlags := 10, code := some k1c1 }
def k1c2 : Code := { maxStack := 7, maxLocals := 10, code := code, exceptionTable := #[], attributes := #[] }
def k1m2 : Method := { name := "law", desc := "(IIIIII)Z", sig := { parameters := [.int, .int, .int, .int, .int, .int], returnType := some .boolean }, accessFlags := 9, code := some k1c2 }
/-- com/example/austere_nets/austerenets/minimize/IntListToArrayPinLaw -/
def k1 : Class := { plain "com/example/austere_nets/austerenets/minimize/IntListToArrayPinLaw" (some 0) with
  accessFlags := 49
  interfaces := #[]
  cf := some (fileOf pool1 20 #[] #[{ accessFlags := 2, nameIndex := 5, descriptorIndex := 6, attributes := #[] }, { accessFlags := 10, nameIndex := 23, descriptorIndex := 24, attributes := #[] }, { accessFlags := 9, nameIndex := 28, descriptorIndex := 29, attributes := #[] }] 49 2 #[] #[])
  fields := #[]
  methods := #[k1m0, k1m1, k1m2]
  instanceTypes := #[]
  staticTypes := #[]
  resolved := Array.replicate 34 none
  statics := none }

def pool2 : Array CpInfo := pool [(1, .methodref 2 3), (0, .class_ 4), (0, .nameAndType 5 6), (0, u "java/lang/Object"), (0, u "<init>"), (0, u "()V"), (0, .class_ 8), (0, u "com/example/austere_nets/austerenets/minimize/IntList"), (0, .fieldref 7 10), (0, .nameAndType 11 12), (0, u "values"), (0, u "[I"), (0, .fieldref 7 14), (0, .nameAndType 15 16), (0, u "size"), (0, u "I"), (0, .methodref 18 19), (0, .class_ 20), (0, .nameAndType 21 22), (0, u "java/util/Arrays"), (0, u "copyOf"), (0, u "([II)[I"), (0, u "INITIAL_CAPACITY"), (4, u "add"), (0, u "(I)V"), (4, u "toArray"), (0, u "()[I")] 2

def k2c0 : Code := { maxStack := 2, maxLocals := 1, code := prog_28_method_1_code, exceptionTable := #[], attributes := #[] }
def k2m0 : Method := { name := "<init>", desc := "()V", sig := { parameters := [], returnType := none }, accessFlags := 0, code := some k2c0 }
def k2c1 : Code := { maxStack := 5, maxLocals := 2, code := prog_28_method_2_code, exceptionTable := #[], attributes := #[] }
def k2m1 : Method := { name := "add", desc := "(I)V", sig := { parameters := [.int], returnType := none }, accessFlags := 0, code := some k2c1 }
def k2c2 : Code := { maxStack := 2, maxLocals := 1, code := prog_28_method_5_code, exceptionTable := #[], attributes := #[] }
def k2m2 : Method := { name := "toArray", desc := "()[I", sig := { parameters := [], returnType := some (.array .int) }, accessFlags := 0, code := some k2c2 }
/-- com/example/austere_nets/austerenets/minimize/IntList -/
def k2 : Class := { plain "com/example/austere_nets/austerenets/minimize/IntList" (some 0) with
  accessFlags := 48
  interfaces := #[]
  cf := some (fileOf pool2 7 #[] #[{ accessFlags := 0, nameIndex := 5, descriptorIndex := 6, attributes := #[] }, { accessFlags := 0, nameIndex := 28, descriptorIndex := 29, attributes := #[] }, { accessFlags := 0, nameIndex := 34, descriptorIndex := 35, attributes := #[] }] 48 2 #[] #[{ accessFlags := 26, nameIndex := 23, descriptorIndex := 16, attributes := #[] }, { accessFlags := 2, nameIndex := 11, descriptorIndex := 12, attributes := #[] }, { accessFlags := 2, nameIndex := 15, descriptorIndex := 16, attributes := #[] }])
  fields := #[{ name := "INITIAL_CAPACITY", type := .int, accessFlags := 26, slot := 0, constantValue := 0 }, { name := "values", type := (.array .int), accessFlags := 2, slot := 0, constantValue := 0 }, { name := "size", type := .int, accessFlags := 2, slot := 1, constantValue := 0 }]
  methods := #[k2m0, k2m1, k2m2]
  instanceTypes := #[(.array .int), .int]
  staticTypes := #[.int]
  resolved := Array.replicate 38 none
  statics := none }

def pool3 : Array CpInfo := pool [(2, .class_ 4), (1, u "java/lang/Object"), (0, u "<init>"), (0, u "()V"), (7, .class_ 16), (1, u "java/util/Arrays"), (57, .class_ 76), (1, u "java/util/Arrays$NaturalOrder"), (36, .class_ 115), (1, u "java/util/Arrays$LegacyMergeSort"), (1, u "Z"), (32, .methodref 151 152), (0, .class_ 153), (0, .nameAndType 154 155), (0, u "java/lang/System"), (0, u "arraycopy"), (0, u "(Ljava/lang/Object;ILjava/lang/Object;II)V"), (146, u "copyOf"), (1, .methodref 305 306), (0, .class_ 307), (0, .nameAndType 308 309), (0, u "java/lang/Math"), (0, u "min"), (0, u "(II)I"), (65, .class_ 376), (0, u "java/util/Arrays$ArrayList"), (68, u "$assertionsDisabled"), (269, u "MIN_ARRAY_SORT_GRAN"), (0, u "I"), (2, u "INSERTIONSORT_THRESHOLD"), (151, u "([II)[I"), (103, .class_ 976), (0, u "java/util/Arrays$ArrayItr")] 52

def k3m0 : Method := { name := "<init>", desc := "()V", sig := { parameters := [], returnType := none }, accessFlags := 2, code := none }
def k3c1 : Code := { maxStack := 6, maxLocals := 3, code := jdk_65_method_123_code, exceptionTable := #[], attributes := #[] }
def k3m1 : Method := { name := "copyOf", desc := "([II)[I", sig := { parameters := [(.array .int), .int], returnType := some (.array .int) }, accessFlags := 9, code := some k3c1 }
/-- java/util/Arrays -/
def k3 : Class := { plain "java/util/Arrays" (some 0) with
  accessFlags := 49
  interfaces := #[]
  cf := some (fileOf pool3 14 #[.nestMembers #[975, 375, 113, 74]] #[{ accessFlags := 2, nameIndex := 5, descriptorIndex := 6, attributes := #[] }, { accessFlags := 9, nameIndex := 302, descriptorIndex := 871, attributes := #[] }] 49 2 #[] #[{ accessFlags := 26, nameIndex := 715, descriptorIndex := 716, attributes := #[] }, { accessFlags := 26, nameIndex := 719, descriptorIndex := 716, attributes := #[] }, { accessFlags := 4120, nameIndex := 445, descriptorIndex := 117, attributes := #[] }])
  fields := #[{ name := "MIN_ARRAY_SORT_GRAN", type := .int, accessFlags := 26, slot := 0, constantValue := 0 }, { name := "INSERTIONSORT_THRESHOLD", type := .int, accessFlags := 26, slot := 1, constantValue := 0 }, { name := "$assertionsDisabled", type := .boolean, accessFlags := 4120, slot := 2, constantValue := 0 }]
  methods := #[k3m0, k3m1]
  instanceTypes := #[]
  staticTypes := #[.int, .int, .boolean]
  resolved := Array.replicate 1029 none
  statics := none }

def pool4 : Array CpInfo := pool [(1, .class_ 2), (0, u "java/lang/Math"), (1, .class_ 6), (1, u "java/lang/Object"), (0, u "<init>"), (0, u "()V"), (89, .class_ 100), (1, u "java/lang/Math$RandomNumberGeneratorHolder"), (71, u "negativeZeroFloatBits"), (0, u "J"), (2, u "negativeZeroDoubleBits"), (24, u "min"), (43, u "$assertionsDisabled"), (0, u "Z"), (88, u "(II)I"), (2, u "twoToTheDoubleScaleDown"), (0, u "D"), (4, u "twoToTheDoubleScaleUp"), (9, u "E"), (3, u "PI"), (2, u "TAU"), (2, u "DEGREES_TO_RADIANS"), (0, u "RADIANS_TO_DEGREES")] 94

def k4m0 : Method := { name := "<init>", desc := "()V", sig := { parameters := [], returnType := none }, accessFlags := 2, code := none }
def k4c1 : Code := { maxStack := 2, maxLocals := 2, code := jdk_29_method_69_code, exceptionTable := #[], attributes := #[] }
def k4m1 : Method := { name := "min", desc := "(II)I", sig := { parameters := [.int, .int], returnType := some .int }, accessFlags := 9, code := some k4c1 }
/-- java/lang/Math -/
def k4 : Class := { plain "java/lang/Math" (some 0) with
  accessFlags := 49
  interfaces := #[]
  cf := some (fileOf pool4 1 #[.nestMembers #[98]] #[{ accessFlags := 2, nameIndex := 7, descriptorIndex := 8, attributes := #[] }, { accessFlags := 9, nameIndex := 201, descriptorIndex := 335, attributes := #[] }] 49 4 #[] #[{ accessFlags := 25, nameIndex := 354, descriptorIndex := 339, attributes := #[] }, { accessFlags := 25, nameIndex := 358, descriptorIndex := 339, attributes := #[] }, { accessFlags := 25, nameIndex := 361, descriptorIndex := 339, attributes := #[] }, { accessFlags := 26, nameIndex := 364, descriptorIndex := 339, attributes := #[] }, { accessFlags := 26, nameIndex := 365, descriptorIndex := 339, attributes := #[] }, { accessFlags := 26, nameIndex := 172, descriptorIndex := 173, attributes := #[] }, { accessFlags := 26, nameIndex := 176, descriptorIndex := 173, attributes := #[] }, { accessFlags := 8, nameIndex := 344, descriptorIndex := 339, attributes := #[] }, { accessFlags := 8, nameIndex := 338, descriptorIndex := 339, attributes := #[] }, { accessFlags := 4120, nameIndex := 245, descriptorIndex := 246, attributes := #[] }])
  fields := #[{ name := "E", type := .double, accessFlags := 25, slot := 0, constantValue := 0 }, { name := "PI", type := .double, accessFlags := 25, slot := 1, constantValue := 0 }, { name := "TAU", type := .double, accessFlags := 25, slot := 2, constantValue := 0 }, { name := "DEGREES_TO_RADIANS", type := .double, accessFlags := 26, slot := 3, constantValue := 0 }, { name := "RADIANS_TO_DEGREES", type := .double, accessFlags := 26, slot := 4, constantValue := 0 }, { name := "negativeZeroFloatBits", type := .long, accessFlags := 26, slot := 5, constantValue := 0 }, { name := "negativeZeroDoubleBits", type := .long, accessFlags := 26, slot := 6, constantValue := 0 }, { name := "twoToTheDoubleScaleUp", type := .double, accessFlags := 8, slot := 7, constantValue := 0 }, { name := "twoToTheDoubleScaleDown", type := .double, accessFlags := 8, slot := 8, constantValue := 0 }, { name := "$assertionsDisabled", type := .boolean, accessFlags := 4120, slot := 9, constantValue := 0 }]
  methods := #[k4m0, k4m1]
  instanceTypes := #[]
  staticTypes := #[.double, .double, .double, .double, .double, .long, .long, .double, .double, .boolean]
  resolved := Array.replicate 460 none
  statics := none }

def pool5 : Array CpInfo := pool [(2, .class_ 4), (1, u "java/lang/Object"), (0, u "<init>"), (0, u "()V"), (1, .class_ 10), (1, u "java/lang/System"), (0, u "allowSecurityManager"), (0, u "I"), (16, u "cons"), (0, u "Ljava/io/Console;"), (77, .class_ 110), (1, u "java/lang/System$CallersHolder"), (43, u "initialErrStream"), (0, u "Ljava/io/PrintStream;"), (19, u "security"), (0, u "Ljava/lang/SecurityManager;"), (31, .class_ 209), (0, u "java/lang/System$1"), (7, u "props"), (0, u "Ljava/util/Properties;"), (2, u "lineSeparator"), (0, u "Ljava/lang/String;"), (96, .class_ 321), (1, u "java/lang/System$LoggerFinder"), (5, .class_ 328), (0, u "java/lang/System$Logger"), (67, u "err"), (2, u "out"), (91, u "notSupportedJnuEncoding"), (15, u "in"), (17, u "initialIn"), (0, u "Ljava/io/InputStream;"), (35, u "bootLayer"), (0, u "Ljava/lang/ModuleLayer;"), (99, .class_ 664), (0, u "java/lang/System$2"), (9, u "NEVER"), (2, u "MAYBE"), (49, u "arraycopy"), (0, u "(Ljava/lang/Object;ILjava/lang/Object;II)V"), (72, .class_ 802), (0, u "java/lang/System$Logger$Level")] 31

def k5m0 : Method := { name := "<init>", desc := "()V", sig := { parameters := [], returnType := none }, accessFlags := 2, code := none }
def k5m1 : Method := { name := "arraycopy", desc := "(Ljava/lang/Object;ILjava/lang/Object;II)V", sig := { parameters := [(.object "java/lang/Object"), .int, (.object "java/lang/Object"), .int, .int], returnType := none }, accessFlags := 265, code := none }
/-- java/lang/System -/
def k5 : Class := { plain "java/lang/System" (some 0) with
  accessFlags := 49
  interfaces := #[]
  cf := some (fileOf pool5 8 #[.nestMembers #[319, 327, 801, 108, 663, 208]] #[{ accessFlags := 2, nameIndex := 5, descriptorIndex := 6, attributes := #[] }, { accessFlags := 265, nameIndex := 727, descriptorIndex := 728, attributes := #[] }] 49 2 #[] #[{ accessFlags := 25, nameIndex := 507, descriptorIndex := 526, attributes := #[] }, { accessFlags := 25, nameIndex := 399, descriptorIndex := 155, attributes := #[] }, { accessFlags := 25, nameIndex := 396, descriptorIndex := 155, attributes := #[] }, { accessFlags := 10, nameIndex := 525, descriptorIndex := 526, attributes := #[] }, { accessFlags := 26, nameIndex := 674, descriptorIndex := 12, attributes := #[] }, { accessFlags := 26, nameIndex := 677, descriptorIndex := 12, attributes := #[] }, { accessFlags := 10, nameIndex := 11, descriptorIndex := 12, attributes := #[] }, { accessFlags := 74, nameIndex := 175, descriptorIndex := 176, attributes := #[] }, { accessFlags := 10, nameIndex := 491, descriptorIndex := 222, attributes := #[] }, { accessFlags := 74, nameIndex := 29, descriptorIndex := 30, attributes := #[] }, { accessFlags := 74, nameIndex := 154, descriptorIndex := 155, attributes := #[] }, { accessFlags := 10, nameIndex := 217, descriptorIndex := 218, attributes := #[] }, { accessFlags := 10, nameIndex := 221, descriptorIndex := 222, attributes := #[] }, { accessFlags := 8, nameIndex := 562, descriptorIndex := 563, attributes := #[] }])
  fields := #[{ name := "in", type := (.object "java/io/InputStream"), accessFlags := 25, slot := 0, constantValue := 0 }, { name := "out", type := (.object "java/io/PrintStream"), accessFlags := 25, slot := 1, constantValue := 0 }, { name := "err", type := (.object "java/io/PrintStream"), accessFlags := 25, slot := 2, constantValue := 0 }, { name := "initialIn", type := (.object "java/io/InputStream"), accessFlags := 10, slot := 3, constantValue := 0 }, { name := "NEVER", type := .int, accessFlags := 26, slot := 4, constantValue := 0 }, { name := "MAYBE", type := .int, accessFlags := 26, slot := 5, constantValue := 0 }, { name := "allowSecurityManager", type := .int, accessFlags := 10, slot := 6, constantValue := 0 }, { name := "security", type := (.object "java/lang/SecurityManager"), accessFlags := 74, slot := 7, constantValue := 0 }, { name := "notSupportedJnuEncoding", type := (.object "java/lang/String"), accessFlags := 10, slot := 8, constantValue := 0 }, { name := "cons", type := (.object "java/io/Console"), accessFlags := 74, slot := 9, constantValue := 0 }, { name := "initialErrStream", type := (.object "java/io/PrintStream"), accessFlags := 74, slot := 10, constantValue := 0 }, { name := "props", type := (.object "java/util/Properties"), accessFlags := 10, slot := 11, constantValue := 0 }, { name := "lineSeparator", type := (.object "java/lang/String"), accessFlags := 10, slot := 12, constantValue := 0 }, { name := "bootLayer", type := (.object "java/lang/ModuleLayer"), accessFlags := 8, slot := 13, constantValue := 0 }]
  methods := #[k5m0, k5m1]
  instanceTypes := #[]
  staticTypes := #[(.object "java/io/InputStream"), (.object "java/io/PrintStream"), (.object "java/io/PrintStream"), (.object "java/io/InputStream"), .int, .int, .int, (.object "java/lang/SecurityManager"), (.object "java/lang/String"), (.object "java/io/Console"), (.object "java/io/PrintStream"), (.object "java/util/Properties"), (.object "java/lang/String"), (.object "java/lang/ModuleLayer")]
  resolved := Array.replicate 834 none
  statics := none }

def pool6 : Array CpInfo := pool [(1, u "java/lang/Cloneable"), (0, .class_ 1), (0, u "java/lang/Object"), (0, .class_ 3)] 3

/-- java/lang/Cloneable -/
def k6 : Class := { plain "java/lang/Cloneable" (some 0) with
  accessFlags := 1537
  interfaces := #[]
  cf := some (fileOf pool6 2 #[] #[] 1537 4 #[] #[])
  fields := #[]
  methods := #[]
  instanceTypes := #[]
  staticTypes := #[]
  resolved := Array.replicate 8 none
  statics := none }

def pool7 : Array CpInfo := pool [(1, u "java/io/Serializable"), (0, .class_ 1), (0, u "java/lang/Object"), (0, .class_ 3)] 3

/-- java/io/Serializable -/
def k7 : Class := { plain "java/io/Serializable" (some 0) with
  accessFlags := 1537
  interfaces := #[]
  cf := some (fileOf pool7 2 #[] #[] 1537 4 #[] #[])
  fields := #[]
  methods := #[]
  instanceTypes := #[]
  staticTypes := #[]
  resolved := Array.replicate 8 none
  statics := none }

/-- the primitive byte -/
def k8 : Class := { plain "byte" none with kind := .primitive 'B', accessFlags := 0x411 }
/-- [B -/
def k9 : Class := { plain "[B" (some 0) with kind := .array 8 .byte, interfaces := #[6, 7], accessFlags := 1041 }

/-- the primitive int -/
def k10 : Class := { plain "int" none with kind := .primitive 'I', accessFlags := 0x411 }
/-- [I -/
def k11 : Class := { plain "[I" (some 0) with kind := .array 10 .int, interfaces := #[6, 7], accessFlags := 1041 }

def heap : Heap := #[]
def classes : Array Class := #[k0, k1, k2, k3, k4, k5, k6, k7, k8, k9, k10, k11]
def interned : List (Array UInt16 × Addr) := []
def slotsUsed : Nat := 0
def theMethod : MethodId := ⟨1, 2⟩
def args0 : Array Value := #[.int 5, .int 5, .int 5, .int 5, .int 5, .int 5]
def aboutOver (below : List Frame) : State where
  vm := { classes := classes, interned := interned.toArray }
  heap := heap
  slotsUsed := slotsUsed
  threads := #[{ frames := .invoking theMethod args0 :: below }]
def below0 : List Frame := [.native { method := ⟨0, 0⟩, args := #[] }]
def about1 : State := aboutOver below0
def p0 : Program := .bare "" "" ""
def e0 : Env := launch0.env 0 0 0
theorem w_frames : about1.frames = Frame.invoking theMethod args0 :: below0 := rfl
set_option maxRecDepth 65536 in
theorem w_args : argsFit about1.vm theMethod args0 = true := by decide +kernel
set_option maxRecDepth 65536 in
theorem w_heap : heapFits about1 = true := by decide +kernel
set_option maxRecDepth 65536 in
theorem w_runnable : about1.curStatus? = some .runnable := by decide +kernel
set_option maxRecDepth 65536 in
theorem w_alone : about1.alone = true := by decide +kernel
set_option maxRecDepth 65536 in
theorem w_named : about1.methodNamed? x = some theMethod := by decide +kernel
set_option maxRecDepth 65536 in
theorem w_hears : about1.hears theMethod below0 = true := by decide +kernel
set_option maxRecDepth 65536 in
theorem w_ripe : about1.ripe theMethod args0 below0 = true := by decide +kernel
theorem w_running : about1.status = .running := rfl
set_option maxRecDepth 65536 in
theorem w_room : about1.hasRoom e0.platform room_1 = true :=
  launch0.hasRoom_least _ room_1 (by decide +kernel) (by decide +kernel) (by decide +kernel) (by decide +kernel) (by decide +kernel) (by decide +kernel)
theorem allAtoms_all (ts : List Jvm.Cond) (a : Array Jvm.Value) (st : Jvm.State) : (allAtoms ts).before a st = ts.all (fun c => c.before a st) := by
  induction ts with
  | nil => rfl
  | cons c t ih =>
    show (Jvm.Cond.and c (allAtoms t)).before a st = _
    rw [Jvm.Cond.before_and, ih, List.all_cons]
def words1 : List Jvm.Cond := Jvm.Cond.code x code maxLocals ret :: tables_1
/-- a 'code' word, met by the world's own term for the bytes: nothing is compared byte by byte -/
theorem code_word {y : MethodName} {bytes : ByteArray} {mx : Nat} {rt : Option FieldType} {a : Array Value} {s : State} {m : MethodId} {meth : Method} {c : Code} (h1 : s.methodNamed? y = some m) (h2 : s.vm.method? m = some meth) (h3 : meth.code = some c) (h4 : c.code = bytes)
    (h5 : (c.maxLocals == mx && c.exceptionTable.isEmpty && decide (c.maxStack ≤ mostOperands) && decide (meth.sig.returnType = rt) && !meth.locks && decide (parseMethodDescriptor y.desc = some meth.sig)) = true) : (Jvm.Cond.code y bytes mx rt).before a s = true := by
  simp only [Bool.and_eq_true, beq_iff_eq, Bool.not_eq_true', decide_eq_true_eq] at h5
  obtain ⟨⟨⟨⟨⟨g1, g2⟩, g3⟩, g4⟩, g5⟩, g6⟩ := h5
  simp [Cond.before, Cond.holds, Cond.value, h1, h2, h3, h4, g1, g2, g3, g4, g5, g6]
def isCode : Jvm.Cond → Bool
  | .code _ _ _ _ => true
  | _ => false
theorem all_split {L : List Jvm.Cond} {P : Jvm.Cond → Bool} (h1 : L.all (fun c => isCode c || P c) = true) (h2 : ∀ c ∈ L.filter isCode, P c = true) : L.all P = true := by
  refine List.all_eq_true.mpr fun c hc => ?_
  have h := List.all_eq_true.mp h1 c hc
  rcases Bool.eq_false_or_eq_true (isCode c) with hi | hi
  · exact h2 c (List.mem_filter.mpr ⟨hc, hi⟩)
  · simpa [hi] using h
set_option maxRecDepth 65536 in
theorem w_c0 : (Jvm.Cond.code x code maxLocals ret).before args0 about1 = true := code_word (m := ⟨1, 2⟩) (meth := k1m2) (c := k1c2) (by decide +kernel) rfl rfl rfl (by decide +kernel)
set_option maxRecDepth 65536 in
theorem w_c1 : (Jvm.Cond.code ({ cls := "com/example/austere_nets/austerenets/minimize/IntList", name := "<init>", desc := "()V" } : Jvm.MethodName) prog_28_method_1_code (1 : Nat) (Option.none : Option Jvm.ClassFile.FieldType)).before args0 about1 = true := code_word (m := ⟨2, 0⟩) (meth := k2m0) (c := k2c0) (by decide +kernel) rfl rfl rfl (by decide +kernel)
set_option maxRecDepth 65536 in
theorem w_c2 : (Jvm.Cond.code ({ cls := "java/lang/Object", name := "<init>", desc := "()V" } : Jvm.MethodName) object_method_1_code (1 : Nat) (Option.none : Option Jvm.ClassFile.FieldType)).before args0 about1 = true := code_word (m := ⟨0, 0⟩) (meth := k0m0) (c := k0c0) (by decide +kernel) rfl rfl rfl (by decide +kernel)
set_option maxRecDepth 65536 in
theorem w_c3 : (Jvm.Cond.code ({ cls := "com/example/austere_nets/austerenets/minimize/IntList", name := "toArray", desc := "()[I" } : Jvm.MethodName) prog_28_method_5_code (1 : Nat) (Option.some (Jvm.ClassFile.FieldType.array Jvm.ClassFile.FieldType.int))).before args0 about1 = true := code_word (m := ⟨2, 2⟩) (meth := k2m2) (c := k2c2) (by decide +kernel) rfl rfl rfl (by decide +kernel)
set_option maxRecDepth 65536 in
theorem w_c4 : (Jvm.Cond.code ({ cls := "java/util/Arrays", name := "copyOf", desc := "([II)[I" } : Jvm.MethodName) jdk_65_method_123_code (3 : Nat) (Option.some (Jvm.ClassFile.FieldType.array Jvm.ClassFile.FieldType.int))).before args0 about1 = true := code_word (m := ⟨3, 1⟩) (meth := k3m1) (c := k3c1) (by decide +kernel) rfl rfl rfl (by decide +kernel)
set_option maxRecDepth 65536 in
theorem w_c5 : (Jvm.Cond.code ({ cls := "java/lang/Math", name := "min", desc := "(II)I" } : Jvm.MethodName) jdk_29_method_69_code (2 : Nat) (Option.some Jvm.ClassFile.FieldType.int)).before args0 about1 = true := code_word (m := ⟨4, 1⟩) (meth := k4m1) (c := k4c1) (by decide +kernel) rfl rfl rfl (by decide +kernel)
set_option maxRecDepth 65536 in
theorem w_c6 : (Jvm.Cond.code ({ cls := "com/example/austere_nets/austerenets/minimize/IntListToArrayPinLaw", name := "matches", desc := "([IIIIIII)Z" } : Jvm.MethodName) method_2_code (7 : Nat) (Option.some Jvm.ClassFile.FieldType.boolean)).before args0 about1 = true := code_word (m := ⟨1, 1⟩) (meth := k1m1) (c := k1c1) (by decide +kernel) rfl rfl rfl (by decide +kernel)
set_option maxRecDepth 65536 in
theorem w_c7 : (Jvm.Cond.code ({ cls := "com/example/austere_nets/austerenets/minimize/IntList", name := "add", desc := "(I)V" } : Jvm.MethodName) prog_28_method_2_code (2 : Nat) (Option.none : Option Jvm.ClassFile.FieldType)).before args0 about1 = true := code_word (m := ⟨2, 1⟩) (meth := k2m1) (c := k2c1) (by decide +kernel) rfl rfl rfl (by decide +kernel)
def codes1 : List Jvm.Cond := [Jvm.Cond.code x code maxLocals ret, Jvm.Cond.code ({ cls := "com/example/austere_nets/austerenets/minimize/IntList", name := "<init>", desc := "()V" } : Jvm.MethodName) prog_28_method_1_code (1 : Nat) (Option.none : Option Jvm.ClassFile.FieldType), Jvm.Cond.code ({ cls := "java/lang/Object", name := "<init>", desc := "()V" } : Jvm.MethodName) object_method_1_code (1 : Nat) (Option.none : Option Jvm.ClassFile.FieldType), Jvm.Cond.code ({ cls := "com/example/austere_nets/austerenets/minimize/IntList", name := "toArray", desc := "()[I" } : Jvm.MethodName) prog_28_method_5_code (1 : Nat) (Option.some (Jvm.ClassFile.FieldType.array Jvm.ClassFile.FieldType.int)), Jvm.Cond.code ({ cls := "java/util/Arrays", name := "copyOf", desc := "([II)[I" } : Jvm.MethodName) jdk_65_method_123_code (3 : Nat) (Option.some (Jvm.ClassFile.FieldType.array Jvm.ClassFile.FieldType.int)), Jvm.Cond.code ({ cls := "java/lang/Math", name := "min", desc := "(II)I" } : Jvm.MethodName) jdk_29_method_69_code (2 : Nat) (Option.some Jvm.ClassFile.FieldType.int), Jvm.Cond.code ({ cls := "com/example/austere_nets/austerenets/minimize/IntListToArrayPinLaw", name := "matches", desc := "([IIIIIII)Z" } : Jvm.MethodName) method_2_code (7 : Nat) (Option.some Jvm.ClassFile.FieldType.boolean), Jvm.Cond.code ({ cls := "com/example/austere_nets/austerenets/minimize/IntList", name := "add", desc := "(I)V" } : Jvm.MethodName) prog_28_method_2_code (2 : Nat) (Option.none : Option Jvm.ClassFile.FieldType)]
set_option maxRecDepth 65536 in
theorem codes_eq : words1.filter isCode = codes1 := rfl
theorem w_codes : ∀ c ∈ words1.filter isCode, c.before args0 about1 = true := by
  rw [codes_eq]
  intro c hc
  simp only [codes1, List.mem_cons, List.not_mem_nil, or_false] at hc
  rcases hc with rfl | rfl | rfl | rfl | rfl | rfl | rfl | rfl
  · exact w_c0
  · exact w_c1
  · exact w_c2
  · exact w_c3
  · exact w_c4
  · exact w_c5
  · exact w_c6
  · exact w_c7
set_option maxRecDepth 65536 in
theorem w_t1 : (words1.take 24).all (fun c => isCode c || c.before args0 about1) = true := by decide +kernel
set_option maxRecDepth 65536 in
theorem w_t2 : (words1.drop 24).all (fun c => isCode c || c.before args0 about1) = true := by decide +kernel
theorem w_tables : (allAtoms (Jvm.Cond.code x code maxLocals ret :: tables_1)).before args0 about1 = true := by
  rw [allAtoms_all]
  show words1.all (fun c => c.before args0 about1) = true
  refine all_split ?_ w_codes
  rw [← List.take_append_drop 24 words1, List.all_append, w_t1, w_t2]
  rfl
set_option maxRecDepth 65536 in
theorem w_case : (Jvm.Cond.and given_1 narrow_1).before args0 about1 = true := by decide +kernel
theorem w_applies : (headSpec (Jvm.Cond.code x code maxLocals ret :: tables_1) room_1).applies x e0.platform about1 = true :=
  (Spec.applies_iff w_frames).mpr ⟨w_running, w_runnable, w_alone, w_named, w_hears, w_ripe, w_room, w_tables⟩
theorem atStart : AtStart classFile x code maxLocals ret World_1 tables_1 room_1 Calls_1 rest_1 Pre_1 launch0 p0 e0 about1 theMethod args0 below0 :=
  ⟨lists_1, trivial, launch0.admits_env _ _ _, launch0.least_env, fairChoices_fair.cas, fairChoices_fair.clock, w_frames, w_args, w_heap, w_applies, trivial, trivial, w_case⟩
end start1
theorem witness_1 : WitnessClaimed_1 := ⟨start1.p0, start1.e0, start1.about1, start1.theMethod, start1.args0, start1.below0, start1.atStart⟩
end Jvm.Pilot.@@N@@
