import JvmDerived
import JvmDerived.Pilot.@@N@@Statement
import JvmDerived.Pilot.@@N@@Code
set_option linter.unusedVariables false
set_option linter.unusedSimpArgs false
namespace Jvm.RoadKit
open Sem ClassFile Op Lib Jvm.Stand Jvm.Free Jvm.LawKit
/-- from T the run comes to a state of which Φ holds -/
def own_R (tb : Tables) (e : Env) (below : List Frame) (Φ : State → Prop) (T : State) : Prop := ∃ T', Φ T' ∧ ∀ t, Steps tb e below T' t → Steps tb e below T t
theorem own_leaf {tb : Tables} {e : Env} {below : List Frame} {Φ : State → Prop} {T : State} (h : Φ T) : own_R tb e below Φ T := ⟨T, h, fun _ k => k⟩
theorem own_go {tb : Tables} {e : Env} {below : List Frame} {Φ : State → Prop} {T T1 : State} (h : ∀ t, Steps tb e below T1 t → Steps tb e below T t) (g : own_R tb e below Φ T1) : own_R tb e below Φ T := by
  obtain ⟨T', h1, h2⟩ := g
  exact ⟨T', h1, fun t k => h t (h2 t k)⟩
theorem own_to {tb : Tables} {e : Env} {below : List Frame} {Φ Ψ : State → Prop} {T : State} (h : own_R tb e below Φ T) (g : ∀ U, Φ U → own_R tb e below Ψ U) : own_R tb e below Ψ T := by
  obtain ⟨T', h1, h2⟩ := h
  exact own_go h2 (g T' h1)
/-- the call has come to its end: what it returns and leaves -/
def own_F (below : List Frame) (s : State) (Q : Option Value → Heap → List Loc → Prop) (rc rs : Nat) (U : State) : Prop := U.status = .running ∧ ∃ v L, Ended U below (.returned v) ∧ Q v U.heap L ∧ FrameEnd s (.returned v) U L rc rs
theorem own_fin {tb : Tables} {e : Env} {below : List Frame} {s : State} {Q : Option Value → Heap → List Loc → Prop} {rc rs : Nat} {T : State} (h : own_R tb e below (own_F below s Q rc rs) T) :
    ∃ s₂ o, Steps tb e below T s₂ ∧ s₂.status = .running ∧ Ended s₂ below o ∧ ∃ v L, o = .returned v ∧ Q v s₂.heap L ∧ FrameEnd s o s₂ L rc rs := by
  obtain ⟨T', ⟨h1, v, L, h2, h3, h4⟩, h5⟩ := h
  exact ⟨T', .returned v, h5 _ (Steps.refl _), h1, h2, v, L, rfl, h3, h4⟩
section New
variable {p : Program} {l : Launch} {e : Env} {R : Room} {s : State} {m : MethodId} {args : Array Value} {below : List Frame} {meth : Method} {c : Code} {T : State} {locs : List Loc} {cells slots : Nat}
theorem retI (X : Stand p l e R s m args below meth c T locs cells slots) (hx : p.tables.exec = Jvm.exec) {pc : Nat} {Ls : Array Slot} {z : Int32} {rest : List Value} (hret : meth.sig.returnType = some .int) (hd : decode c.code pc = .ok (.ireturn, 1)) {fs : List Frame}
    (hl : ∀ (f : JFrame) (acts : List Action), f.method = m → f.locked = none → f.entered = [] → (doReturn e (T.setTop f) acts (some (.int z))).1 = T.setFrames fs) : Steps p.tables e below (T.setTop (mkF m pc Ls (.int z :: rest))) (T.setFrames fs) := by
  have hm' : T.vm.method? m = some meth := X.method'
  have hn : narrow .int (.int z) = .int z := rfl
  show Steps p.tables e below (T.setTop { method := m, pc := pc, locals := Ls, stack := _ :: rest, locked := none }) _
  jvm_step X.here [X.here.top, hx, hd, hm', hret, hn]
  first | (intro acts; rw [hl _ acts rfl rfl rfl]) | rw [hl _ _ rfl rfl rfl]
  exact Steps.refl _
variable {Q : Option Value → Heap → List Loc → Prop} {rc rs : Nat}
theorem own_end (X : Stand p l e R s m args below meth c T locs cells slots) (hlk : meth.locks = false) {v : Option Value} (hv : meth.sig.returnType = none → v = none) (hQ : Q v T.heap locs) (hc : cells ≤ rc) (hs : slots ≤ rs) {g : JFrame}
    (hst : ∀ fs, (∀ (f : JFrame) (acts : List Action), f.method = m → f.locked = none → f.entered = [] → (doReturn e (T.setTop f) acts v).1 = T.setFrames fs) → Steps p.tables e below (T.setTop g) (T.setFrames fs)) : own_R p.tables e below (own_F below s Q rc rs) (T.setTop g) := by
  obtain ⟨fs, hr, hrun, hended, hW, hsame⟩ := X.leave hv hlk
  exact ⟨T.setFrames fs, ⟨hrun, v, locs, hended, hQ, ⟨_, rfl⟩, hW, hsame.mono hc hs⟩, fun t k => (hst fs hr).trans k⟩
theorem own_ret0 (X : Stand p l e R s m args below meth c T locs cells slots) (hx : p.tables.exec = Jvm.exec) {pc : Nat} {Ls : Array Slot} (hret : meth.sig.returnType = none) (hd : decode c.code pc = .ok (.return_, 1)) (hlk : meth.locks = false) (hQ : Q none T.heap locs) (hc : cells ≤ rc) (hs : slots ≤ rs) :
    own_R p.tables e below (own_F below s Q rc rs) (T.setTop (mkF m pc Ls [])) := own_end X hlk (fun _ => rfl) hQ hc hs fun _ hr => X.returnOut hx hret hd hr
theorem own_retI (X : Stand p l e R s m args below meth c T locs cells slots) (hx : p.tables.exec = Jvm.exec) {pc : Nat} {Ls : Array Slot} {z : Int32} {rest : List Value} (hret : meth.sig.returnType = some .int) (hd : decode c.code pc = .ok (.ireturn, 1)) (hlk : meth.locks = false) (hQ : Q (some (.int z)) T.heap locs) (hc : cells ≤ rc) (hs : slots ≤ rs) :
    own_R p.tables e below (own_F below s Q rc rs) (T.setTop (mkF m pc Ls (.int z :: rest))) := own_end X hlk (fun h => by rw [hret] at h; cases h) hQ hc hs fun _ hr => retI X hx hret hd hr
theorem own_retN (X : Stand p l e R s m args below meth c T locs cells slots) (hx : p.tables.exec = Jvm.exec) {t : FieldType} (ht : t = .boolean ∨ t = .byte ∨ t = .char ∨ t = .short) {pc : Nat} {Ls : Array Slot} {z : Int32} {rest : List Value} (hret : meth.sig.returnType = some t) (hd : decode c.code pc = .ok (.ireturn, 1)) (hlk : meth.locks = false) (hQ : Q (some (.int (nar t z))) T.heap locs) (hc : cells ≤ rc) (hs : slots ≤ rs) :
    own_R p.tables e below (own_F below s Q rc rs) (T.setTop (mkF m pc Ls (.int z :: rest))) := own_end X hlk (fun h => by rw [hret] at h; cases h) hQ hc hs fun _ hr => retN X hx hret ht hd hr
theorem own_retL (X : Stand p l e R s m args below meth c T locs cells slots) (hx : p.tables.exec = Jvm.exec) {pc : Nat} {Ls : Array Slot} {z : Int64} {rest : List Value} (hret : meth.sig.returnType = some .long) (hd : decode c.code pc = .ok (.lreturn, 1)) (hlk : meth.locks = false) (hQ : Q (some (.long z)) T.heap locs) (hc : cells ≤ rc) (hs : slots ≤ rs) :
    own_R p.tables e below (own_F below s Q rc rs) (T.setTop (mkF m pc Ls (.long z :: rest))) := own_end X hlk (fun h => by rw [hret] at h; cases h) hQ hc hs fun _ hr => retOut X hx hret rfl (Or.inr (Or.inl ⟨rfl, rfl, z, rfl⟩)) hd hr
theorem own_retA (X : Stand p l e R s m args below meth c T locs cells slots) (hx : p.tables.exec = Jvm.exec) {t : FieldType} {pc : Nat} {Ls : Array Slot} {w : Value} {rest : List Value} (ht : t.isReference = true) (hw : w.isRef = true) (hret : meth.sig.returnType = some t) (hd : decode c.code pc = .ok (.areturn, 1)) (hlk : meth.locks = false) (hQ : Q (some w) T.heap locs) (hc : cells ≤ rc) (hs : slots ≤ rs) :
    own_R p.tables e below (own_F below s Q rc rs) (T.setTop (mkF m pc Ls (w :: rest))) := own_end X hlk (fun h => by rw [hret] at h; cases h) hQ hc hs fun _ hr => retOut X hx hret (by cases t <;> first | rfl | cases ht) (Or.inr (Or.inr (Or.inr (Or.inr ⟨rfl, ht, hw⟩)))) hd hr
variable {Z : State} {h : Heap} {a : Addr} {k : ClassId} {n : Int32} {vs : List Value} {dv : Value}
theorem own_len (X : Stand p l e R s m args below meth c T locs cells slots) (hx : p.tables.exec = Jvm.exec) (hZ : Z.Warmed39 s.vm) (eT : T.heap = h) {ty : FieldType} (V : Arv Z h a k ty n vs dv) {g : JFrame} (hg : g.method = m) {rest : List Value} (hs : g.stack = .ref a :: rest) (hd : decode c.code g.pc = .ok (.arraylength, 1)) :
    ∀ target, Steps p.tables e below (T.setTop { g with pc := g.pc + 1, stack := .int n :: rest }) target → Steps p.tables e below (T.setTop g) target := by
  obtain ⟨cl, A, -, S, N, -, -⟩ := V
  intro t kt
  refine X.arraylength hx (by rw [eT]; exact A.1) (State.isArrayOf_alike hZ.alike A.2.1) hg hs hd t ?_
  rw [len_of S N]; exact kt
theorem own_ldI (X : Stand p l e R s m args below meth c T locs cells slots) (hx : p.tables.exec = Jvm.exec) (hZ : Z.Warmed39 s.vm) (eT : T.heap = h) (V : Arv Z h a k .int n vs dv) {j : Int32} {i : Nat} (hj : ¬ j < 0 ∧ j < n) (hi : j.toNatClampNeg = i) {v : Value} (hv : vs.getD i dv = v) {g : JFrame} (hg : g.method = m) {rest : List Value} (hs : g.stack = .int j :: .ref a :: rest) (hd : decode c.code g.pc = .ok (.iaload, 1)) :
    ∀ target, Steps p.tables e below (T.setTop { g with pc := g.pc + 1, stack := v :: rest }) target → Steps p.tables e below (T.setTop g) target := by
  obtain ⟨cl, A, -, S, N, H, -⟩ := V
  subst hi
  intro t kt
  exact X.iaload hx (by rw [eT]; exact A.1) (State.isArrayOf_alike hZ.alike A.2.1) A.2.2 (inb_of S hj) (H.at (inb_of S hj) hv) hg hs hd t kt
theorem own_ldJ (X : Stand p l e R s m args below meth c T locs cells slots) (hx : p.tables.exec = Jvm.exec) (hZ : Z.Warmed39 s.vm) (eT : T.heap = h) (V : Arv Z h a k .long n vs dv) {j : Int32} {i : Nat} (hj : ¬ j < 0 ∧ j < n) (hi : j.toNatClampNeg = i) {v : Value} (hv : vs.getD i dv = v) {g : JFrame} (hg : g.method = m) {rest : List Value} (hs : g.stack = .int j :: .ref a :: rest) (hd : decode c.code g.pc = .ok (.laload, 1)) :
    ∀ target, Steps p.tables e below (T.setTop { g with pc := g.pc + 1, stack := v :: rest }) target → Steps p.tables e below (T.setTop g) target := by
  obtain ⟨cl, A, -, S, N, H, -⟩ := V
  subst hi
  intro t kt
  exact X.laload hx (by rw [eT]; exact A.1) (State.isArrayOf_alike hZ.alike A.2.1) A.2.2 (inb_of S hj) (H.at (inb_of S hj) hv) hg hs hd t kt
theorem own_ldB (X : Stand p l e R s m args below meth c T locs cells slots) (hx : p.tables.exec = Jvm.exec) (hZ : Z.Warmed39 s.vm) (eT : T.heap = h) (V : Arv Z h a k .byte n vs dv) {j : Int32} {i : Nat} (hj : ¬ j < 0 ∧ j < n) (hi : j.toNatClampNeg = i) {v : Value} (hv : vs.getD i dv = v) {g : JFrame} (hg : g.method = m) {rest : List Value} (hs : g.stack = .int j :: .ref a :: rest) (hd : decode c.code g.pc = .ok (.baload, 1)) :
    ∀ target, Steps p.tables e below (T.setTop { g with pc := g.pc + 1, stack := v :: rest }) target → Steps p.tables e below (T.setTop g) target := by
  obtain ⟨cl, A, -, S, N, H, -⟩ := V
  subst hi
  intro t kt
  exact X.baloadBytes hx (by rw [eT]; exact A.1) (State.isArrayOf_alike hZ.alike A.2.1) A.2.2 (inb_of S hj) (H.at (inb_of S hj) hv) hg hs hd t kt
theorem own_stI (X : Stand p l e R s m args below meth c T locs cells slots) (hx : p.tables.exec = Jvm.exec) (hZ : Z.Warmed39 s.vm) (eT : T.heap = h) (V : Arv Z h a k .int n vs dv) {j : Int32} {i : Nat} (hj : ¬ j < 0 ∧ j < n) (hi : j.toNatClampNeg = i) (hlen : i < vs.length) {x : Int32} {w : Value} (hw : w = .int x) {g : JFrame} (hg : g.method = m) {rest : List Value} (hs : g.stack = .int x :: .int j :: .ref a :: rest) (hd : decode c.code g.pc = .ok (.iastore, 1)) :
    ∃ T' h' sl, Stand p l e R s m args below meth c T' (locs ++ [⟨a, sl⟩]) cells slots ∧ T'.heap = h' ∧ Wr h h' a sl w ∧ Arv Z h' a k .int n (vs.set i w) dv ∧ ∀ target, Steps p.tables e below (T'.setTop { g with pc := g.pc + 1, stack := rest }) target → Steps p.tables e below (T.setTop g) target := by
  obtain ⟨cl, A, q1, S, N, H, G⟩ := V
  subst hw
  obtain ⟨T', h', X', e', W', st⟩ := stI X hx hZ eT A (j := j) (inb_of S hj) hg hs hd
  exact ⟨T', h', _, X', e', W', Arv.set A q1 S N H G rfl W' i hi hlen, st⟩
theorem own_stJ (X : Stand p l e R s m args below meth c T locs cells slots) (hx : p.tables.exec = Jvm.exec) (hZ : Z.Warmed39 s.vm) (eT : T.heap = h) (V : Arv Z h a k .long n vs dv) {j : Int32} {i : Nat} (hj : ¬ j < 0 ∧ j < n) (hi : j.toNatClampNeg = i) (hlen : i < vs.length) {x : Int64} {w : Value} (hw : w = .long x) {g : JFrame} (hg : g.method = m) {rest : List Value} (hs : g.stack = .long x :: .int j :: .ref a :: rest) (hd : decode c.code g.pc = .ok (.lastore, 1)) :
    ∃ T' h' sl, Stand p l e R s m args below meth c T' (locs ++ [⟨a, sl⟩]) cells slots ∧ T'.heap = h' ∧ Wr h h' a sl w ∧ Arv Z h' a k .long n (vs.set i w) dv ∧ ∀ target, Steps p.tables e below (T'.setTop { g with pc := g.pc + 1, stack := rest }) target → Steps p.tables e below (T.setTop g) target := by
  obtain ⟨cl, A, q1, S, N, H, G⟩ := V
  subst hw
  obtain ⟨T', h', X', e', W', st⟩ := stJ X hx hZ eT A (j := j) (inb_of S hj) hg hs hd
  exact ⟨T', h', _, X', e', W', Arv.set A q1 S N H G rfl W' i hi hlen, st⟩
end New
end Jvm.RoadKit
namespace Jvm.Pilot.@@N@@
open Jvm Jvm.ClassFile Sem Op Lib Jvm.Free Jvm.Stand Jvm.LawKit Jvm.RoadKit Bundle Jvm.Pilot.@@N@@.Jvm.D
theorem pd_0 : parseMethodDescriptor "(II)I" = some ⟨[.int, .int], some .int⟩ := by decide +kernel
theorem pd_1 : parseMethodDescriptor "([II)I" = some ⟨[(.array .int), .int], some .int⟩ := by decide +kernel

def own_min (a b : Int32) : Int32 := if b < a then b else a
def own_max (a b : Int32) : Int32 := if a < b then b else a
def own_blw (a b : Int32) : Int32 := if a < b then 1 else 0
def own_out (f : Int32) : List Int32 → Int32
  | [] => 0
  | x :: r => if x < f then own_out f r + 1 else 0
theorem own_five (x n : Int32) (h : (x &&& (2147483647 : Int32)) % (5 : Int32) = n) : n = (0 : Int32) ∨ n = (1 : Int32) ∨ n = (2 : Int32) ∨ n = (3 : Int32) ∨ n = (4 : Int32) := by
  have h1 := (c_and x 2147483647 (by decide)).1
  have h2 := (c_irem (x &&& 2147483647) 5 5 rfl).1 h1
  rw [h] at h2
  simp only [← Int32.toInt_inj, show (0 : Int32).toInt = 0 from rfl, show (1 : Int32).toInt = 1 from rfl, show (2 : Int32).toInt = 2 from rfl, show (3 : Int32).toInt = 3 from rfl, show (4 : Int32).toInt = 4 from rfl]
  omega
theorem own_min_i (a b : Int32) : (own_min a b).toInt = min a.toInt b.toInt := by
  rw [own_min]; split <;> rename_i h <;> rw [Int32.lt_iff_toInt_lt] at h <;> omega
theorem own_max_i (a b : Int32) : (own_max a b).toInt = max a.toInt b.toInt := by
  rw [own_max]; split <;> rename_i h <;> rw [Int32.lt_iff_toInt_lt] at h <;> omega
theorem own_sorted4 (x0 x1 x2 x3 : Int32) (h : x0.toInt ≤ x1.toInt) (g : x2.toInt ≤ x3.toInt) :
    ¬ own_min (own_min x1 x3) (own_max x0 x2) < own_min x0 x2 ∧ ¬ own_max (own_min x1 x3) (own_max x0 x2) < own_min (own_min x1 x3) (own_max x0 x2) ∧ ¬ own_max x1 x3 < own_max (own_min x1 x3) (own_max x0 x2) := by
  simp only [Int32.lt_iff_toInt_lt, own_min_i, own_max_i]
  refine ⟨?_, ?_, ?_⟩ <;> omega
theorem own_sorted {a b c d x0 x1 x2 x3 y0 y1 y2 y3 s1 s2 : Int32} (h0 : own_min a b = x0) (h1 : own_max a b = x1) (h2 : own_min c d = x2) (h3 : own_max c d = x3) (g0 : own_min x0 x2 = y0) (g2 : own_max x0 x2 = y2) (g1 : own_min x1 x3 = y1) (g3 : own_max x1 x3 = y3) (k1 : own_min y1 y2 = s1) (k2 : own_max y1 y2 = s2) :
    ¬ s1 < y0 ∧ ¬ s2 < s1 ∧ ¬ y3 < s2 := by
  subst k1 k2 g0 g1 g2 g3 h0 h1 h2 h3
  exact own_sorted4 _ _ _ _ (by rw [own_min_i, own_max_i]; omega) (by rw [own_min_i, own_max_i]; omega)
theorem own_lt_of {a b f : Int32} (h : ¬ b < a) (q : b < f) : a < f := by
  rw [Int32.lt_iff_toInt_lt] at *; omega
theorem d1_0 : decode jdk_29_method_69_code 0 = .ok (.iload_n 0, 1) := by decide +kernel
theorem d1_1 : decode jdk_29_method_69_code 1 = .ok (.iload_n 1, 1) := by decide +kernel
theorem d1_2 : decode jdk_29_method_69_code 2 = .ok (.if_icmp .gt 7, 3) := by decide +kernel
theorem d1_5 : decode jdk_29_method_69_code 5 = .ok (.iload_n 0, 1) := by decide +kernel
theorem d1_6 : decode jdk_29_method_69_code 6 = .ok (.goto 4, 3) := by decide +kernel
theorem d1_9 : decode jdk_29_method_69_code 9 = .ok (.iload_n 1, 1) := by decide +kernel
theorem d1_10 : decode jdk_29_method_69_code 10 = .ok (.ireturn, 1) := by decide +kernel
theorem ef_1 (m : MethodId) (x0 : Int32) (x1 : Int32) : entryFrame m #[(.int x0), (.int x1)] 2 = mkF m 0 #[.val (.int x0), .val (.int x1)] [] := by first | (simp [entryFrame, mkF, argsToLocals, Value.category]; done) | rfl
def Q1 (Z : State) (p1 : Int32) (p2 : Int32) (h0 : Heap) (n0 : Nat) (v : Option Value) (h : Heap) (L : List Loc) : Prop := v = some (.int (own_min p1 p2)) ∧ Fr n0 L ∧ h = h0
set_option maxRecDepth 65536 in
set_option maxHeartbeats 40000000 in
theorem rm1 (l : Launch) (Z : State) (a0 : Array Value) (hw : ∀ d ∈ tables_1, d.before a0 Z = true) (ws : List Jvm.Cond) (p1 : Int32) (p2 : Int32) (h0 : Heap) (n0 : Nat) (ZS : n0 ≤ h0.size) :
    MetFree l (⟨"java/lang/Math", "min", "(II)I"⟩ : MethodName) (head1 (Jvm.Cond.code (⟨"java/lang/Math", "min", "(II)I"⟩ : MethodName) jdk_29_method_69_code 2 (some .int) :: ws) ({ frames := 0, cells := 0, slots := 0, locals := 0 } : Room)) (fun a U => a = #[(.int p1), (.int p2)] ∧ Z.Warmed39 U.vm ∧ U.heap = h0) (fun _ _ _ _ _ => True) (fun _ U o U' => ∃ v L, o = .returned v ∧ Q1 Z p1 p2 h0 n0 v U'.heap L ∧ FrameEnd U o U' L ({ frames := 0, cells := 0, slots := 0, locals := 0 } : Room).cells ({ frames := 0, cells := 0, slots := 0, locals := 0 } : Room).slots) := by
  refine MetFree.of_bodySF (Jvm.Free.JP.mathPlain rfl (by decide +kernel)) hisR ?_
  intro p e s m args below meth c s₁ Bd hml0 hP hK
  obtain ⟨rfl, hZ, hh⟩ := hP
  have hx := Bd.exec
  have hby := Bd.bytes
  have hml : c.maxLocals = 2 := hml0
  have hown : s.vm.findClass "java/lang/Math" = some m.cls := findClass_of_methodNamed Bd.named
  have hnm := (name_of_methodNamed Bd.named Bd.method).1
  have hlk : meth.locks = false := Bd.notSynchronized
  have X0 : Stand p l e ({ frames := 0, cells := 0, slots := 0, locals := 0 } : Room) s m #[(.int p1), (.int p2)] below meth c s₁ [] 0 0 := Stand.of_body Bd
  have e0 : s₁.heap = h0 := by rw [← hh, Bd.state]; rfl
  have NF := Fr.nil n0
  have KP : Keep h0 h0 [] := Keep.refl _ _
  refine own_fin (s := s) (Q := Q1 Z p1 p2 h0 n0) (rc := ({ frames := 0, cells := 0, slots := 0, locals := 0 } : Room).cells) (rs := ({ frames := 0, cells := 0, slots := 0, locals := 0 } : Room).slots) ?_
  refine own_go (fun _ kt => castTop (ef_1 m p1 p2) kt) ?_
  show own_R _ _ _ _ (s₁.setTop (mkF m 0 #[.val (.int p1), .val (.int p2)] []))
  refine own_go (fun _ kt => XS.iloadN X0.here hx rfl (hb hby d1_0) rfl kt) ?_
  show own_R _ _ _ _ (s₁.setTop (mkF m 1 #[.val (.int p1), .val (.int p2)] [(.int p1)]))
  refine own_go (fun _ kt => XS.iloadN X0.here hx rfl (hb hby d1_1) rfl kt) ?_
  show own_R _ _ _ _ (s₁.setTop (mkF m 2 #[.val (.int p1), .val (.int p2)] [(.int p2), (.int p1)]))
  by_cases hc1 : p2 < p1
  · refine own_go (fun _ kt => XS.icmpYes X0.here hx rfl (pc0 := 2) (pc' := 9) rfl (hb hby d1_2) rfl (tlt hc1).2.2.1 (by decide) (by decide) kt) ?_
    show own_R _ _ _ _ (s₁.setTop (mkF m 9 #[.val (.int p1), .val (.int p2)] []))
    refine own_go (fun _ kt => XS.iloadN X0.here hx rfl (hb hby d1_9) rfl kt) ?_
    show own_R _ _ _ _ (s₁.setTop (mkF m 10 #[.val (.int p1), .val (.int p2)] [(.int p2)]))
    exact own_retI X0 hx Bd.returns (hb hby d1_10) hlk ⟨by rw [own_min, if_pos hc1], NF, e0⟩ (by decide) (by decide)
  · refine own_go (fun _ kt => XS.icmpNo X0.here hx rfl (hb hby d1_2) rfl (flt hc1).2.2.1 kt) ?_
    show own_R _ _ _ _ (s₁.setTop (mkF m 5 #[.val (.int p1), .val (.int p2)] []))
    refine own_go (fun _ kt => XS.iloadN X0.here hx rfl (hb hby d1_5) rfl kt) ?_
    show own_R _ _ _ _ (s₁.setTop (mkF m 6 #[.val (.int p1), .val (.int p2)] [(.int p1)]))
    refine own_go (fun _ kt => XS.goto X0.here hx rfl (pc0 := 6) (pc' := 10) rfl (hb hby d1_6) (by decide) (by decide) kt) ?_
    show own_R _ _ _ _ (s₁.setTop (mkF m 10 #[.val (.int p1), .val (.int p2)] [(.int p1)]))
    exact own_retI X0 hx Bd.returns (hb hby d1_10) hlk ⟨by rw [own_min, if_neg hc1], NF, e0⟩ (by decide) (by decide)
theorem d2_0 : decode jdk_29_method_65_code 0 = .ok (.iload_n 0, 1) := by decide +kernel
theorem d2_1 : decode jdk_29_method_65_code 1 = .ok (.iload_n 1, 1) := by decide +kernel
theorem d2_2 : decode jdk_29_method_65_code 2 = .ok (.if_icmp .lt 7, 3) := by decide +kernel
theorem d2_5 : decode jdk_29_method_65_code 5 = .ok (.iload_n 0, 1) := by decide +kernel
theorem d2_6 : decode jdk_29_method_65_code 6 = .ok (.goto 4, 3) := by decide +kernel
theorem d2_9 : decode jdk_29_method_65_code 9 = .ok (.iload_n 1, 1) := by decide +kernel
theorem d2_10 : decode jdk_29_method_65_code 10 = .ok (.ireturn, 1) := by decide +kernel
theorem ef_2 (m : MethodId) (x0 : Int32) (x1 : Int32) : entryFrame m #[(.int x0), (.int x1)] 2 = mkF m 0 #[.val (.int x0), .val (.int x1)] [] := by first | (simp [entryFrame, mkF, argsToLocals, Value.category]; done) | rfl
def Q2 (Z : State) (p1 : Int32) (p2 : Int32) (h0 : Heap) (n0 : Nat) (v : Option Value) (h : Heap) (L : List Loc) : Prop := v = some (.int (own_max p1 p2)) ∧ Fr n0 L ∧ h = h0
set_option maxRecDepth 65536 in
set_option maxHeartbeats 40000000 in
theorem rm2 (l : Launch) (Z : State) (a0 : Array Value) (hw : ∀ d ∈ tables_1, d.before a0 Z = true) (ws : List Jvm.Cond) (p1 : Int32) (p2 : Int32) (h0 : Heap) (n0 : Nat) (ZS : n0 ≤ h0.size) :
    MetFree l (⟨"java/lang/Math", "max", "(II)I"⟩ : MethodName) (head1 (Jvm.Cond.code (⟨"java/lang/Math", "max", "(II)I"⟩ : MethodName) jdk_29_method_65_code 2 (some .int) :: ws) ({ frames := 0, cells := 0, slots := 0, locals := 0 } : Room)) (fun a U => a = #[(.int p1), (.int p2)] ∧ Z.Warmed39 U.vm ∧ U.heap = h0) (fun _ _ _ _ _ => True) (fun _ U o U' => ∃ v L, o = .returned v ∧ Q2 Z p1 p2 h0 n0 v U'.heap L ∧ FrameEnd U o U' L ({ frames := 0, cells := 0, slots := 0, locals := 0 } : Room).cells ({ frames := 0, cells := 0, slots := 0, locals := 0 } : Room).slots) := by
  refine MetFree.of_bodySF (Jvm.Free.JP.mathPlain rfl (by decide +kernel)) hisR ?_
  intro p e s m args below meth c s₁ Bd hml0 hP hK
  obtain ⟨rfl, hZ, hh⟩ := hP
  have hx := Bd.exec
  have hby := Bd.bytes
  have hml : c.maxLocals = 2 := hml0
  have hown : s.vm.findClass "java/lang/Math" = some m.cls := findClass_of_methodNamed Bd.named
  have hnm := (name_of_methodNamed Bd.named Bd.method).1
  have hlk : meth.locks = false := Bd.notSynchronized
  have X0 : Stand p l e ({ frames := 0, cells := 0, slots := 0, locals := 0 } : Room) s m #[(.int p1), (.int p2)] below meth c s₁ [] 0 0 := Stand.of_body Bd
  have e0 : s₁.heap = h0 := by rw [← hh, Bd.state]; rfl
  have NF := Fr.nil n0
  have KP : Keep h0 h0 [] := Keep.refl _ _
  refine own_fin (s := s) (Q := Q2 Z p1 p2 h0 n0) (rc := ({ frames := 0, cells := 0, slots := 0, locals := 0 } : Room).cells) (rs := ({ frames := 0, cells := 0, slots := 0, locals := 0 } : Room).slots) ?_
  refine own_go (fun _ kt => castTop (ef_2 m p1 p2) kt) ?_
  show own_R _ _ _ _ (s₁.setTop (mkF m 0 #[.val (.int p1), .val (.int p2)] []))
  refine own_go (fun _ kt => XS.iloadN X0.here hx rfl (hb hby d2_0) rfl kt) ?_
  show own_R _ _ _ _ (s₁.setTop (mkF m 1 #[.val (.int p1), .val (.int p2)] [(.int p1)]))
  refine own_go (fun _ kt => XS.iloadN X0.here hx rfl (hb hby d2_1) rfl kt) ?_
  show own_R _ _ _ _ (s₁.setTop (mkF m 2 #[.val (.int p1), .val (.int p2)] [(.int p2), (.int p1)]))
  by_cases hc2 : p1 < p2
  · refine own_go (fun _ kt => XS.icmpYes X0.here hx rfl (pc0 := 2) (pc' := 9) rfl (hb hby d2_2) rfl (tlt hc2).1 (by decide) (by decide) kt) ?_
    show own_R _ _ _ _ (s₁.setTop (mkF m 9 #[.val (.int p1), .val (.int p2)] []))
    refine own_go (fun _ kt => XS.iloadN X0.here hx rfl (hb hby d2_9) rfl kt) ?_
    show own_R _ _ _ _ (s₁.setTop (mkF m 10 #[.val (.int p1), .val (.int p2)] [(.int p2)]))
    exact own_retI X0 hx Bd.returns (hb hby d2_10) hlk ⟨by rw [own_max, if_pos hc2], NF, e0⟩ (by decide) (by decide)
  · refine own_go (fun _ kt => XS.icmpNo X0.here hx rfl (hb hby d2_2) rfl (flt hc2).1 kt) ?_
    show own_R _ _ _ _ (s₁.setTop (mkF m 5 #[.val (.int p1), .val (.int p2)] []))
    refine own_go (fun _ kt => XS.iloadN X0.here hx rfl (hb hby d2_5) rfl kt) ?_
    show own_R _ _ _ _ (s₁.setTop (mkF m 6 #[.val (.int p1), .val (.int p2)] [(.int p1)]))
    refine own_go (fun _ kt => XS.goto X0.here hx rfl (pc0 := 6) (pc' := 10) rfl (hb hby d2_6) (by decide) (by decide) kt) ?_
    show own_R _ _ _ _ (s₁.setTop (mkF m 10 #[.val (.int p1), .val (.int p2)] [(.int p1)]))
    exact own_retI X0 hx Bd.returns (hb hby d2_10) hlk ⟨by rw [own_max, if_neg hc2], NF, e0⟩ (by decide) (by decide)
theorem d4_0 : decode method_2_code 0 = .ok (.iload_n 0, 1) := by decide +kernel
theorem d4_1 : decode method_2_code 1 = .ok (.iload_n 1, 1) := by decide +kernel
theorem d4_2 : decode method_2_code 2 = .ok (.if_icmp .ge 7, 3) := by decide +kernel
theorem d4_5 : decode method_2_code 5 = .ok (.iconst 1, 1) := by decide +kernel
theorem d4_6 : decode method_2_code 6 = .ok (.goto 4, 3) := by decide +kernel
theorem d4_9 : decode method_2_code 9 = .ok (.iconst 0, 1) := by decide +kernel
theorem d4_10 : decode method_2_code 10 = .ok (.ireturn, 1) := by decide +kernel
theorem pn_4 : plainName "com/example/parametree/parametree/ExpressionOuterPinLaw" = true := by first | (simp [plainName, overriddenIn]; done) | decide +kernel
theorem ef_4 (m : MethodId) (x0 : Int32) (x1 : Int32) : entryFrame m #[(.int x0), (.int x1)] 2 = mkF m 0 #[.val (.int x0), .val (.int x1)] [] := by first | (simp [entryFrame, mkF, argsToLocals, Value.category]; done) | rfl
def Q4 (Z : State) (p1 : Int32) (p2 : Int32) (h0 : Heap) (n0 : Nat) (v : Option Value) (h : Heap) (L : List Loc) : Prop := v = some (.int (own_blw p1 p2)) ∧ Fr n0 L ∧ h = h0
set_option maxRecDepth 65536 in
set_option maxHeartbeats 40000000 in
theorem rm4 (l : Launch) (Z : State) (a0 : Array Value) (hw : ∀ d ∈ tables_1, d.before a0 Z = true) (ws : List Jvm.Cond) (p1 : Int32) (p2 : Int32) (h0 : Heap) (n0 : Nat) (ZS : n0 ≤ h0.size) :
    MetFree l (⟨"com/example/parametree/parametree/ExpressionOuterPinLaw", "below", "(II)I"⟩ : MethodName) (head1 (Jvm.Cond.code (⟨"com/example/parametree/parametree/ExpressionOuterPinLaw", "below", "(II)I"⟩ : MethodName) method_2_code 2 (some .int) :: ws) ({ frames := 0, cells := 0, slots := 0, locals := 0 } : Room)) (fun a U => a = #[(.int p1), (.int p2)] ∧ Z.Warmed39 U.vm ∧ U.heap = h0) (fun _ _ _ _ _ => True) (fun _ U o U' => ∃ v L, o = .returned v ∧ Q4 Z p1 p2 h0 n0 v U'.heap L ∧ FrameEnd U o U' L ({ frames := 0, cells := 0, slots := 0, locals := 0 } : Room).cells ({ frames := 0, cells := 0, slots := 0, locals := 0 } : Room).slots) := by
  refine MetFree.of_bodySF (plainFor_of_name pn_4) hisR ?_
  intro p e s m args below meth c s₁ Bd hml0 hP hK
  obtain ⟨rfl, hZ, hh⟩ := hP
  have hx := Bd.exec
  have hby := Bd.bytes
  have hml : c.maxLocals = 2 := hml0
  have hown : s.vm.findClass "com/example/parametree/parametree/ExpressionOuterPinLaw" = some m.cls := findClass_of_methodNamed Bd.named
  have hnm := (name_of_methodNamed Bd.named Bd.method).1
  have hlk : meth.locks = false := Bd.notSynchronized
  have X0 : Stand p l e ({ frames := 0, cells := 0, slots := 0, locals := 0 } : Room) s m #[(.int p1), (.int p2)] below meth c s₁ [] 0 0 := Stand.of_body Bd
  have e0 : s₁.heap = h0 := by rw [← hh, Bd.state]; rfl
  have NF := Fr.nil n0
  have KP : Keep h0 h0 [] := Keep.refl _ _
  refine own_fin (s := s) (Q := Q4 Z p1 p2 h0 n0) (rc := ({ frames := 0, cells := 0, slots := 0, locals := 0 } : Room).cells) (rs := ({ frames := 0, cells := 0, slots := 0, locals := 0 } : Room).slots) ?_
  refine own_go (fun _ kt => castTop (ef_4 m p1 p2) kt) ?_
  show own_R _ _ _ _ (s₁.setTop (mkF m 0 #[.val (.int p1), .val (.int p2)] []))
  refine own_go (fun _ kt => XS.iloadN X0.here hx rfl (hb hby d4_0) rfl kt) ?_
  show own_R _ _ _ _ (s₁.setTop (mkF m 1 #[.val (.int p1), .val (.int p2)] [(.int p1)]))
  refine own_go (fun _ kt => XS.iloadN X0.here hx rfl (hb hby d4_1) rfl kt) ?_
  show own_R _ _ _ _ (s₁.setTop (mkF m 2 #[.val (.int p1), .val (.int p2)] [(.int p2), (.int p1)]))
  by_cases hc3 : p1 < p2
  · refine own_go (fun _ kt => XS.icmpNo X0.here hx rfl (hb hby d4_2) rfl (tlt hc3).2.1 kt) ?_
    show own_R _ _ _ _ (s₁.setTop (mkF m 5 #[.val (.int p1), .val (.int p2)] []))
    refine own_go (fun _ kt => XS.iconst X0.here hx rfl (hb hby d4_5) kt) ?_
    show own_R _ _ _ _ (s₁.setTop (mkF m 6 #[.val (.int p1), .val (.int p2)] [(.int (1 : Int32))]))
    refine own_go (fun _ kt => XS.goto X0.here hx rfl (pc0 := 6) (pc' := 10) rfl (hb hby d4_6) (by decide) (by decide) kt) ?_
    show own_R _ _ _ _ (s₁.setTop (mkF m 10 #[.val (.int p1), .val (.int p2)] [(.int (1 : Int32))]))
    exact own_retI X0 hx Bd.returns (hb hby d4_10) hlk ⟨by rw [own_blw, if_pos hc3], NF, e0⟩ (by decide) (by decide)
  · refine own_go (fun _ kt => XS.icmpYes X0.here hx rfl (pc0 := 2) (pc' := 9) rfl (hb hby d4_2) rfl (flt hc3).2.1 (by decide) (by decide) kt) ?_
    show own_R _ _ _ _ (s₁.setTop (mkF m 9 #[.val (.int p1), .val (.int p2)] []))
    refine own_go (fun _ kt => XS.iconst X0.here hx rfl (hb hby d4_9) kt) ?_
    show own_R _ _ _ _ (s₁.setTop (mkF m 10 #[.val (.int p1), .val (.int p2)] [(.int (0 : Int32))]))
    exact own_retI X0 hx Bd.returns (hb hby d4_10) hlk ⟨by rw [own_blw, if_neg hc3], NF, e0⟩ (by decide) (by decide)
theorem d3_0 : decode prog_40_method_3_code 0 = .ok (.iconst 0, 1) := by decide +kernel
theorem d3_1 : decode prog_40_method_3_code 1 = .ok (.istore_n 2, 1) := by decide +kernel
theorem d3_2 : decode prog_40_method_3_code 2 = .ok (.iload_n 2, 1) := by decide +kernel
theorem d3_3 : decode prog_40_method_3_code 3 = .ok (.aload_n 0, 1) := by decide +kernel
theorem d3_4 : decode prog_40_method_3_code 4 = .ok (.arraylength, 1) := by decide +kernel
theorem d3_5 : decode prog_40_method_3_code 5 = .ok (.if_icmp .ge 16, 3) := by decide +kernel
theorem d3_8 : decode prog_40_method_3_code 8 = .ok (.aload_n 0, 1) := by decide +kernel
theorem d3_9 : decode prog_40_method_3_code 9 = .ok (.iload_n 2, 1) := by decide +kernel
theorem d3_10 : decode prog_40_method_3_code 10 = .ok (.iaload, 1) := by decide +kernel
theorem d3_11 : decode prog_40_method_3_code 11 = .ok (.iload_n 1, 1) := by decide +kernel
theorem d3_12 : decode prog_40_method_3_code 12 = .ok (.if_icmp .ge 9, 3) := by decide +kernel
theorem d3_15 : decode prog_40_method_3_code 15 = .ok (.iinc 2 1, 3) := by decide +kernel
theorem d3_18 : decode prog_40_method_3_code 18 = .ok (.goto (-16), 3) := by decide +kernel
theorem d3_21 : decode prog_40_method_3_code 21 = .ok (.iload_n 2, 1) := by decide +kernel
theorem d3_22 : decode prog_40_method_3_code 22 = .ok (.ireturn, 1) := by decide +kernel
theorem pn_3 : plainName "com/example/parametree/parametree/Expression" = true := by first | (simp [plainName, overriddenIn]; done) | decide +kernel
theorem ef_3_0 (m : MethodId) (x0 : Addr) (x1 : Int32) : entryFrame m #[(.ref x0), (.int x1)] 3 = mkF m 0 #[.val (.ref x0), .val (.int x1), .unset] [] := by first | (simp [entryFrame, mkF, argsToLocals, Value.category]; done) | rfl
def Q3_0 (Z : State) (a1 : Addr) (p2 : Int32) (k1 : ClassId) (h0 : Heap) (n0 : Nat) (v : Option Value) (h : Heap) (L : List Loc) : Prop := v = some (.int (own_out p2 [])) ∧ Fr n0 L ∧ h = h0
set_option maxRecDepth 65536 in
set_option maxHeartbeats 40000000 in
theorem rm3_0 (l : Launch) (Z : State) (a0 : Array Value) (hw : ∀ d ∈ tables_1, d.before a0 Z = true) (ws : List Jvm.Cond) (a1 : Addr) (p2 : Int32) (k1 : ClassId) (h0 : Heap) (n0 : Nat) (ZS : n0 ≤ h0.size) (V_a1 : Arv Z h0 a1 k1 .int (0 : Int32) [] (.int (0 : Int32))) :
    MetFree l (⟨"com/example/parametree/parametree/Expression", "outer", "([II)I"⟩ : MethodName) (head1 (Jvm.Cond.code (⟨"com/example/parametree/parametree/Expression", "outer", "([II)I"⟩ : MethodName) prog_40_method_3_code 3 (some .int) :: ws) ({ frames := 0, cells := 0, slots := 0, locals := 0 } : Room)) (fun a U => a = #[(.ref a1), (.int p2)] ∧ Z.Warmed39 U.vm ∧ U.heap = h0) (fun _ _ _ _ _ => True) (fun _ U o U' => ∃ v L, o = .returned v ∧ Q3_0 Z a1 p2 k1 h0 n0 v U'.heap L ∧ FrameEnd U o U' L ({ frames := 0, cells := 0, slots := 0, locals := 0 } : Room).cells ({ frames := 0, cells := 0, slots := 0, locals := 0 } : Room).slots) := by
  refine MetFree.of_bodySF (plainFor_of_name pn_3) hisR ?_
  intro p e s m args below meth c s₁ Bd hml0 hP hK
  obtain ⟨rfl, hZ, hh⟩ := hP
  have hx := Bd.exec
  have hby := Bd.bytes
  have hml : c.maxLocals = 3 := hml0
  have hown : s.vm.findClass "com/example/parametree/parametree/Expression" = some m.cls := findClass_of_methodNamed Bd.named
  have hnm := (name_of_methodNamed Bd.named Bd.method).1
  have hlk : meth.locks = false := Bd.notSynchronized
  have X0 : Stand p l e ({ frames := 0, cells := 0, slots := 0, locals := 0 } : Room) s m #[(.ref a1), (.int p2)] below meth c s₁ [] 0 0 := Stand.of_body Bd
  have e0 : s₁.heap = h0 := by rw [← hh, Bd.state]; rfl
  have NF := Fr.nil n0
  have KP : Keep h0 h0 [] := Keep.refl _ _
  refine own_fin (s := s) (Q := Q3_0 Z a1 p2 k1 h0 n0) (rc := ({ frames := 0, cells := 0, slots := 0, locals := 0 } : Room).cells) (rs := ({ frames := 0, cells := 0, slots := 0, locals := 0 } : Room).slots) ?_
  refine own_go (fun _ kt => castTop (ef_3_0 m a1 p2) kt) ?_
  show own_R _ _ _ _ (s₁.setTop (mkF m 0 #[.val (.ref a1), .val (.int p2), .unset] []))
  refine own_go (fun _ kt => XS.iconst X0.here hx rfl (hb hby d3_0) kt) ?_
  show own_R _ _ _ _ (s₁.setTop (mkF m 1 #[.val (.ref a1), .val (.int p2), .unset] [(.int (0 : Int32))]))
  refine own_go (fun _ kt => XS.istoreN X0.here hx rfl (hb hby d3_1) rfl (l' := #[.val (.ref a1), .val (.int p2), .val (.int (0 : Int32))]) rfl kt) ?_
  show own_R _ _ _ _ (s₁.setTop (mkF m 2 #[.val (.ref a1), .val (.int p2), .val (.int (0 : Int32))] []))
  refine own_go (fun _ kt => XS.iloadN X0.here hx rfl (hb hby d3_2) rfl kt) ?_
  show own_R _ _ _ _ (s₁.setTop (mkF m 3 #[.val (.ref a1), .val (.int p2), .val (.int (0 : Int32))] [(.int (0 : Int32))]))
  refine own_go (fun _ kt => XS.aloadN X0.here hx rfl (hb hby d3_3) rfl rfl kt) ?_
  show own_R _ _ _ _ (s₁.setTop (mkF m 4 #[.val (.ref a1), .val (.int p2), .val (.int (0 : Int32))] [(.ref a1), (.int (0 : Int32))]))
  refine own_go (own_len X0 hx hZ e0 V_a1 (g := (mkF m 4 #[.val (.ref a1), .val (.int p2), .val (.int (0 : Int32))] [(.ref a1), (.int (0 : Int32))])) rfl rfl (hb hby d3_4)) ?_
  show own_R _ _ _ _ (s₁.setTop (mkF m 5 #[.val (.ref a1), .val (.int p2), .val (.int (0 : Int32))] [(.int (0 : Int32)), (.int (0 : Int32))]))
  refine own_go (fun _ kt => XS.icmpYes X0.here hx rfl (pc0 := 5) (pc' := 21) rfl (hb hby d3_5) rfl (flt (by decide : ¬ ((0 : Int32) < (0 : Int32)))).2.1 (by decide) (by decide) kt) ?_
  show own_R _ _ _ _ (s₁.setTop (mkF m 21 #[.val (.ref a1), .val (.int p2), .val (.int (0 : Int32))] []))
  refine own_go (fun _ kt => XS.iloadN X0.here hx rfl (hb hby d3_21) rfl kt) ?_
  show own_R _ _ _ _ (s₁.setTop (mkF m 22 #[.val (.ref a1), .val (.int p2), .val (.int (0 : Int32))] [(.int (0 : Int32))]))
  exact own_retI X0 hx Bd.returns (hb hby d3_22) hlk ⟨by rw [show own_out p2 [] = (0 : Int32) from by simp only [own_out, if_true, if_false]], NF, e0⟩ (by decide) (by decide)
theorem ef_3_1 (m : MethodId) (x0 : Addr) (x1 : Int32) : entryFrame m #[(.ref x0), (.int x1)] 3 = mkF m 0 #[.val (.ref x0), .val (.int x1), .unset] [] := by first | (simp [entryFrame, mkF, argsToLocals, Value.category]; done) | rfl
def Q3_1 (Z : State) (a1 : Addr) (p2 : Int32) (k1 : ClassId) (x0 : Int32) (h0 : Heap) (n0 : Nat) (v : Option Value) (h : Heap) (L : List Loc) : Prop := v = some (.int (own_out p2 [x0])) ∧ Fr n0 L ∧ h = h0
set_option maxRecDepth 65536 in
set_option maxHeartbeats 40000000 in
theorem rm3_1 (l : Launch) (Z : State) (a0 : Array Value) (hw : ∀ d ∈ tables_1, d.before a0 Z = true) (ws : List Jvm.Cond) (a1 : Addr) (p2 : Int32) (k1 : ClassId) (x0 : Int32) (h0 : Heap) (n0 : Nat) (ZS : n0 ≤ h0.size) (V_a1 : Arv Z h0 a1 k1 .int (1 : Int32) [(.int x0)] (.int (0 : Int32))) :
    MetFree l (⟨"com/example/parametree/parametree/Expression", "outer", "([II)I"⟩ : MethodName) (head1 (Jvm.Cond.code (⟨"com/example/parametree/parametree/Expression", "outer", "([II)I"⟩ : MethodName) prog_40_method_3_code 3 (some .int) :: ws) ({ frames := 0, cells := 0, slots := 0, locals := 0 } : Room)) (fun a U => a = #[(.ref a1), (.int p2)] ∧ Z.Warmed39 U.vm ∧ U.heap = h0) (fun _ _ _ _ _ => True) (fun _ U o U' => ∃ v L, o = .returned v ∧ Q3_1 Z a1 p2 k1 x0 h0 n0 v U'.heap L ∧ FrameEnd U o U' L ({ frames := 0, cells := 0, slots := 0, locals := 0 } : Room).cells ({ frames := 0, cells := 0, slots := 0, locals := 0 } : Room).slots) := by
  refine MetFree.of_bodySF (plainFor_of_name pn_3) hisR ?_
  intro p e s m args below meth c s₁ Bd hml0 hP hK
  obtain ⟨rfl, hZ, hh⟩ := hP
  have hx := Bd.exec
  have hby := Bd.bytes
  have hml : c.maxLocals = 3 := hml0
  have hown : s.vm.findClass "com/example/parametree/parametree/Expression" = some m.cls := findClass_of_methodNamed Bd.named
  have hnm := (name_of_methodNamed Bd.named Bd.method).1
  have hlk : meth.locks = false := Bd.notSynchronized
  have X0 : Stand p l e ({ frames := 0, cells := 0, slots := 0, locals := 0 } : Room) s m #[(.ref a1), (.int p2)] below meth c s₁ [] 0 0 := Stand.of_body Bd
  have e0 : s₁.heap = h0 := by rw [← hh, Bd.state]; rfl
  have NF := Fr.nil n0
  have KP : Keep h0 h0 [] := Keep.refl _ _
  refine own_fin (s := s) (Q := Q3_1 Z a1 p2 k1 x0 h0 n0) (rc := ({ frames := 0, cells := 0, slots := 0, locals := 0 } : Room).cells) (rs := ({ frames := 0, cells := 0, slots := 0, locals := 0 } : Room).slots) ?_
  refine own_go (fun _ kt => castTop (ef_3_1 m a1 p2) kt) ?_
  show own_R _ _ _ _ (s₁.setTop (mkF m 0 #[.val (.ref a1), .val (.int p2), .unset] []))
  refine own_go (fun _ kt => XS.iconst X0.here hx rfl (hb hby d3_0) kt) ?_
  show own_R _ _ _ _ (s₁.setTop (mkF m 1 #[.val (.ref a1), .val (.int p2), .unset] [(.int (0 : Int32))]))
  refine own_go (fun _ kt => XS.istoreN X0.here hx rfl (hb hby d3_1) rfl (l' := #[.val (.ref a1), .val (.int p2), .val (.int (0 : Int32))]) rfl kt) ?_
  show own_R _ _ _ _ (s₁.setTop (mkF m 2 #[.val (.ref a1), .val (.int p2), .val (.int (0 : Int32))] []))
  refine own_go (fun _ kt => XS.iloadN X0.here hx rfl (hb hby d3_2) rfl kt) ?_
  show own_R _ _ _ _ (s₁.setTop (mkF m 3 #[.val (.ref a1), .val (.int p2), .val (.int (0 : Int32))] [(.int (0 : Int32))]))
  refine own_go (fun _ kt => XS.aloadN X0.here hx rfl (hb hby d3_3) rfl rfl kt) ?_
  show own_R _ _ _ _ (s₁.setTop (mkF m 4 #[.val (.ref a1), .val (.int p2), .val (.int (0 : Int32))] [(.ref a1), (.int (0 : Int32))]))
  refine own_go (own_len X0 hx hZ e0 V_a1 (g := (mkF m 4 #[.val (.ref a1), .val (.int p2), .val (.int (0 : Int32))] [(.ref a1), (.int (0 : Int32))])) rfl rfl (hb hby d3_4)) ?_
  show own_R _ _ _ _ (s₁.setTop (mkF m 5 #[.val (.ref a1), .val (.int p2), .val (.int (0 : Int32))] [(.int (1 : Int32)), (.int (0 : Int32))]))
  refine own_go (fun _ kt => XS.icmpNo X0.here hx rfl (hb hby d3_5) rfl (tlt (by decide : (0 : Int32) < (1 : Int32))).2.1 kt) ?_
  show own_R _ _ _ _ (s₁.setTop (mkF m 8 #[.val (.ref a1), .val (.int p2), .val (.int (0 : Int32))] []))
  refine own_go (fun _ kt => XS.aloadN X0.here hx rfl (hb hby d3_8) rfl rfl kt) ?_
  show own_R _ _ _ _ (s₁.setTop (mkF m 9 #[.val (.ref a1), .val (.int p2), .val (.int (0 : Int32))] [(.ref a1)]))
  refine own_go (fun _ kt => XS.iloadN X0.here hx rfl (hb hby d3_9) rfl kt) ?_
  show own_R _ _ _ _ (s₁.setTop (mkF m 10 #[.val (.ref a1), .val (.int p2), .val (.int (0 : Int32))] [(.int (0 : Int32)), (.ref a1)]))
  refine own_go (own_ldI X0 hx hZ e0 V_a1 (j := (0 : Int32)) (i := 0) ⟨by decide, by decide⟩ rfl (v := (.int x0)) rfl (g := (mkF m 10 #[.val (.ref a1), .val (.int p2), .val (.int (0 : Int32))] [(.int (0 : Int32)), (.ref a1)])) rfl rfl (hb hby d3_10)) ?_
  show own_R _ _ _ _ (s₁.setTop (mkF m 11 #[.val (.ref a1), .val (.int p2), .val (.int (0 : Int32))] [(.int x0)]))
  refine own_go (fun _ kt => XS.iloadN X0.here hx rfl (hb hby d3_11) rfl kt) ?_
  show own_R _ _ _ _ (s₁.setTop (mkF m 12 #[.val (.ref a1), .val (.int p2), .val (.int (0 : Int32))] [(.int p2), (.int x0)]))
  by_cases hc4 : x0 < p2
  · refine own_go (fun _ kt => XS.icmpNo X0.here hx rfl (hb hby d3_12) rfl (tlt hc4).2.1 kt) ?_
    show own_R _ _ _ _ (s₁.setTop (mkF m 15 #[.val (.ref a1), .val (.int p2), .val (.int (0 : Int32))] []))
    refine own_go (fun _ kt => XS.iinc X0.here hx rfl (hb hby d3_15) rfl (l' := #[.val (.ref a1), .val (.int p2), .val (.int (1 : Int32))]) rfl kt) ?_
    show own_R _ _ _ _ (s₁.setTop (mkF m 18 #[.val (.ref a1), .val (.int p2), .val (.int (1 : Int32))] []))
    refine own_go (fun _ kt => XS.goto X0.here hx rfl (pc0 := 18) (pc' := 2) rfl (hb hby d3_18) (by decide) (by decide) kt) ?_
    show own_R _ _ _ _ (s₁.setTop (mkF m 2 #[.val (.ref a1), .val (.int p2), .val (.int (1 : Int32))] []))
    refine own_go (fun _ kt => XS.iloadN X0.here hx rfl (hb hby d3_2) rfl kt) ?_
    show own_R _ _ _ _ (s₁.setTop (mkF m 3 #[.val (.ref a1), .val (.int p2), .val (.int (1 : Int32))] [(.int (1 : Int32))]))
    refine own_go (fun _ kt => XS.aloadN X0.here hx rfl (hb hby d3_3) rfl rfl kt) ?_
    show own_R _ _ _ _ (s₁.setTop (mkF m 4 #[.val (.ref a1), .val (.int p2), .val (.int (1 : Int32))] [(.ref a1), (.int (1 : Int32))]))
    refine own_go (own_len X0 hx hZ e0 V_a1 (g := (mkF m 4 #[.val (.ref a1), .val (.int p2), .val (.int (1 : Int32))] [(.ref a1), (.int (1 : Int32))])) rfl rfl (hb hby d3_4)) ?_
    show own_R _ _ _ _ (s₁.setTop (mkF m 5 #[.val (.ref a1), .val (.int p2), .val (.int (1 : Int32))] [(.int (1 : Int32)), (.int (1 : Int32))]))
    refine own_go (fun _ kt => XS.icmpYes X0.here hx rfl (pc0 := 5) (pc' := 21) rfl (hb hby d3_5) rfl (flt (by decide : ¬ ((1 : Int32) < (1 : Int32)))).2.1 (by decide) (by decide) kt) ?_
    show own_R _ _ _ _ (s₁.setTop (mkF m 21 #[.val (.ref a1), .val (.int p2), .val (.int (1 : Int32))] []))
    refine own_go (fun _ kt => XS.iloadN X0.here hx rfl (hb hby d3_21) rfl kt) ?_
    show own_R _ _ _ _ (s₁.setTop (mkF m 22 #[.val (.ref a1), .val (.int p2), .val (.int (1 : Int32))] [(.int (1 : Int32))]))
    exact own_retI X0 hx Bd.returns (hb hby d3_22) hlk ⟨by rw [show own_out p2 [x0] = (1 : Int32) from by simp only [own_out, hc4, if_true, if_false]; rfl], NF, e0⟩ (by decide) (by decide)
  · refine own_go (fun _ kt => XS.icmpYes X0.here hx rfl (pc0 := 12) (pc' := 21) rfl (hb hby d3_12) rfl (flt hc4).2.1 (by decide) (by decide) kt) ?_
    show own_R _ _ _ _ (s₁.setTop (mkF m 21 #[.val (.ref a1), .val (.int p2), .val (.int (0 : Int32))] []))
    refine own_go (fun _ kt => XS.iloadN X0.here hx rfl (hb hby d3_21) rfl kt) ?_
    show own_R _ _ _ _ (s₁.setTop (mkF m 22 #[.val (.ref a1), .val (.int p2), .val (.int (0 : Int32))] [(.int (0 : Int32))]))
    exact own_retI X0 hx Bd.returns (hb hby d3_22) hlk ⟨by rw [show own_out p2 [x0] = (0 : Int32) from by simp only [own_out, hc4, if_true, if_false]], NF, e0⟩ (by decide) (by decide)
theorem ef_3_2 (m : MethodId) (x0 : Addr) (x1 : Int32) : entryFrame m #[(.ref x0), (.int x1)] 3 = mkF m 0 #[.val (.ref x0), .val (.int x1), .unset] [] := by first | (simp [entryFrame, mkF, argsToLocals, Value.category]; done) | rfl
def Q3_2 (Z : State) (a1 : Addr) (p2 : Int32) (k1 : ClassId) (x0 : Int32) (x1 : Int32) (h0 : Heap) (n0 : Nat) (v : Option Value) (h : Heap) (L : List Loc) : Prop := v = some (.int (own_out p2 [x0, x1])) ∧ Fr n0 L ∧ h = h0
set_option maxRecDepth 65536 in
set_option maxHeartbeats 40000000 in
theorem rm3_2 (l : Launch) (Z : State) (a0 : Array Value) (hw : ∀ d ∈ tables_1, d.before a0 Z = true) (ws : List Jvm.Cond) (a1 : Addr) (p2 : Int32) (k1 : ClassId) (x0 : Int32) (x1 : Int32) (h0 : Heap) (n0 : Nat) (ZS : n0 ≤ h0.size) (V_a1 : Arv Z h0 a1 k1 .int (2 : Int32) [(.int x0), (.int x1)] (.int (0 : Int32))) :
    MetFree l (⟨"com/example/parametree/parametree/Expression", "outer", "([II)I"⟩ : MethodName) (head1 (Jvm.Cond.code (⟨"com/example/parametree/parametree/Expression", "outer", "([II)I"⟩ : MethodName) prog_40_method_3_code 3 (some .int) :: ws) ({ frames := 0, cells := 0, slots := 0, locals := 0 } : Room)) (fun a U => a = #[(.ref a1), (.int p2)] ∧ Z.Warmed39 U.vm ∧ U.heap = h0) (fun _ _ _ _ _ => True) (fun _ U o U' => ∃ v L, o = .returned v ∧ Q3_2 Z a1 p2 k1 x0 x1 h0 n0 v U'.heap L ∧ FrameEnd U o U' L ({ frames := 0, cells := 0, slots := 0, locals := 0 } : Room).cells ({ frames := 0, cells := 0, slots := 0, locals := 0 } : Room).slots) := by
  refine MetFree.of_bodySF (plainFor_of_name pn_3) hisR ?_
  intro p e s m args below meth c s₁ Bd hml0 hP hK
  obtain ⟨rfl, hZ, hh⟩ := hP
  have hx := Bd.exec
  have hby := Bd.bytes
  have hml : c.maxLocals = 3 := hml0
  have hown : s.vm.findClass "com/example/parametree/parametree/Expression" = some m.cls := findClass_of_methodNamed Bd.named
  have hnm := (name_of_methodNamed Bd.named Bd.method).1
  have hlk : meth.locks = false := Bd.notSynchronized
  have X0 : Stand p l e ({ frames := 0, cells := 0, slots := 0, locals := 0 } : Room) s m #[(.ref a1), (.int p2)] below meth c s₁ [] 0 0 := Stand.of_body Bd
  have e0 : s₁.heap = h0 := by rw [← hh, Bd.state]; rfl
  have NF := Fr.nil n0
  have KP : Keep h0 h0 [] := Keep.refl _ _
  refine own_fin (s := s) (Q := Q3_2 Z a1 p2 k1 x0 x1 h0 n0) (rc := ({ frames := 0, cells := 0, slots := 0, locals := 0 } : Room).cells) (rs := ({ frames := 0, cells := 0, slots := 0, locals := 0 } : Room).slots) ?_
  refine own_go (fun _ kt => castTop (ef_3_2 m a1 p2) kt) ?_
  show own_R _ _ _ _ (s₁.setTop (mkF m 0 #[.val (.ref a1), .val (.int p2), .unset] []))
  refine own_go (fun _ kt => XS.iconst X0.here hx rfl (hb hby d3_0) kt) ?_
  show own_R _ _ _ _ (s₁.setTop (mkF m 1 #[.val (.ref a1), .val (.int p2), .unset] [(.int (0 : Int32))]))
  refine own_go (fun _ kt => XS.istoreN X0.here hx rfl (hb hby d3_1) rfl (l' := #[.val (.ref a1), .val (.int p2), .val (.int (0 : Int32))]) rfl kt) ?_
  show own_R _ _ _ _ (s₁.setTop (mkF m 2 #[.val (.ref a1), .val (.int p2), .val (.int (0 : Int32))] []))
  refine own_go (fun _ kt => XS.iloadN X0.here hx rfl (hb hby d3_2) rfl kt) ?_
  show own_R _ _ _ _ (s₁.setTop (mkF m 3 #[.val (.ref a1), .val (.int p2), .val (.int (0 : Int32))] [(.int (0 : Int32))]))
  refine own_go (fun _ kt => XS.aloadN X0.here hx rfl (hb hby d3_3) rfl rfl kt) ?_
  show own_R _ _ _ _ (s₁.setTop (mkF m 4 #[.val (.ref a1), .val (.int p2), .val (.int (0 : Int32))] [(.ref a1), (.int (0 : Int32))]))
  refine own_go (own_len X0 hx hZ e0 V_a1 (g := (mkF m 4 #[.val (.ref a1), .val (.int p2), .val (.int (0 : Int32))] [(.ref a1), (.int (0 : Int32))])) rfl rfl (hb hby d3_4)) ?_
  show own_R _ _ _ _ (s₁.setTop (mkF m 5 #[.val (.ref a1), .val (.int p2), .val (.int (0 : Int32))] [(.int (2 : Int32)), (.int (0 : Int32))]))
  refine own_go (fun _ kt => XS.icmpNo X0.here hx rfl (hb hby d3_5) rfl (tlt (by decide : (0 : Int32) < (2 : Int32))).2.1 kt) ?_
  show own_R _ _ _ _ (s₁.setTop (mkF m 8 #[.val (.ref a1), .val (.int p2), .val (.int (0 : Int32))] []))
  refine own_go (fun _ kt => XS.aloadN X0.here hx rfl (hb hby d3_8) rfl rfl kt) ?_
  show own_R _ _ _ _ (s₁.setTop (mkF m 9 #[.val (.ref a1), .val (.int p2), .val (.int (0 : Int32))] [(.ref a1)]))
  refine own_go (fun _ kt => XS.iloadN X0.here hx rfl (hb hby d3_9) rfl kt) ?_
  show own_R _ _ _ _ (s₁.setTop (mkF m 10 #[.val (.ref a1), .val (.int p2), .val (.int (0 : Int32))] [(.int (0 : Int32)), (.ref a1)]))
  refine own_go (own_ldI X0 hx hZ e0 V_a1 (j := (0 : Int32)) (i := 0) ⟨by decide, by decide⟩ rfl (v := (.int x0)) rfl (g := (mkF m 10 #[.val (.ref a1), .val (.int p2), .val (.int (0 : Int32))] [(.int (0 : Int32)), (.ref a1)])) rfl rfl (hb hby d3_10)) ?_
  show own_R _ _ _ _ (s₁.setTop (mkF m 11 #[.val (.ref a1), .val (.int p2), .val (.int (0 : Int32))] [(.int x0)]))
  refine own_go (fun _ kt => XS.iloadN X0.here hx rfl (hb hby d3_11) rfl kt) ?_
  show own_R _ _ _ _ (s₁.setTop (mkF m 12 #[.val (.ref a1), .val (.int p2), .val (.int (0 : Int32))] [(.int p2), (.int x0)]))
  by_cases hc5 : x0 < p2
  · refine own_go (fun _ kt => XS.icmpNo X0.here hx rfl (hb hby d3_12) rfl (tlt hc5).2.1 kt) ?_
    show own_R _ _ _ _ (s₁.setTop (mkF m 15 #[.val (.ref a1), .val (.int p2), .val (.int (0 : Int32))] []))
    refine own_go (fun _ kt => XS.iinc X0.here hx rfl (hb hby d3_15) rfl (l' := #[.val (.ref a1), .val (.int p2), .val (.int (1 : Int32))]) rfl kt) ?_
    show own_R _ _ _ _ (s₁.setTop (mkF m 18 #[.val (.ref a1), .val (.int p2), .val (.int (1 : Int32))] []))
    refine own_go (fun _ kt => XS.goto X0.here hx rfl (pc0 := 18) (pc' := 2) rfl (hb hby d3_18) (by decide) (by decide) kt) ?_
    show own_R _ _ _ _ (s₁.setTop (mkF m 2 #[.val (.ref a1), .val (.int p2), .val (.int (1 : Int32))] []))
    refine own_go (fun _ kt => XS.iloadN X0.here hx rfl (hb hby d3_2) rfl kt) ?_
    show own_R _ _ _ _ (s₁.setTop (mkF m 3 #[.val (.ref a1), .val (.int p2), .val (.int (1 : Int32))] [(.int (1 : Int32))]))
    refine own_go (fun _ kt => XS.aloadN X0.here hx rfl (hb hby d3_3) rfl rfl kt) ?_
    show own_R _ _ _ _ (s₁.setTop (mkF m 4 #[.val (.ref a1), .val (.int p2), .val (.int (1 : Int32))] [(.ref a1), (.int (1 : Int32))]))
    refine own_go (own_len X0 hx hZ e0 V_a1 (g := (mkF m 4 #[.val (.ref a1), .val (.int p2), .val (.int (1 : Int32))] [(.ref a1), (.int (1 : Int32))])) rfl rfl (hb hby d3_4)) ?_
    show own_R _ _ _ _ (s₁.setTop (mkF m 5 #[.val (.ref a1), .val (.int p2), .val (.int (1 : Int32))] [(.int (2 : Int32)), (.int (1 : Int32))]))
    refine own_go (fun _ kt => XS.icmpNo X0.here hx rfl (hb hby d3_5) rfl (tlt (by decide : (1 : Int32) < (2 : Int32))).2.1 kt) ?_
    show own_R _ _ _ _ (s₁.setTop (mkF m 8 #[.val (.ref a1), .val (.int p2), .val (.int (1 : Int32))] []))
    refine own_go (fun _ kt => XS.aloadN X0.here hx rfl (hb hby d3_8) rfl rfl kt) ?_
    show own_R _ _ _ _ (s₁.setTop (mkF m 9 #[.val (.ref a1), .val (.int p2), .val (.int (1 : Int32))] [(.ref a1)]))
    refine own_go (fun _ kt => XS.iloadN X0.here hx rfl (hb hby d3_9) rfl kt) ?_
    show own_R _ _ _ _ (s₁.setTop (mkF m 10 #[.val (.ref a1), .val (.int p2), .val (.int (1 : Int32))] [(.int (1 : Int32)), (.ref a1)]))
    refine own_go (own_ldI X0 hx hZ e0 V_a1 (j := (1 : Int32)) (i := 1) ⟨by decide, by decide⟩ rfl (v := (.int x1)) rfl (g := (mkF m 10 #[.val (.ref a1), .val (.int p2), .val (.int (1 : Int32))] [(.int (1 : Int32)), (.ref a1)])) rfl rfl (hb hby d3_10)) ?_
    show own_R _ _ _ _ (s₁.setTop (mkF m 11 #[.val (.ref a1), .val (.int p2), .val (.int (1 : Int32))] [(.int x1)]))
    refine own_go (fun _ kt => XS.iloadN X0.here hx rfl (hb hby d3_11) rfl kt) ?_
    show own_R _ _ _ _ (s₁.setTop (mkF m 12 #[.val (.ref a1), .val (.int p2), .val (.int (1 : Int32))] [(.int p2), (.int x1)]))
    by_cases hc6 : x1 < p2
    · refine own_go (fun _ kt => XS.icmpNo X0.here hx rfl (hb hby d3_12) rfl (tlt hc6).2.1 kt) ?_
      show own_R _ _ _ _ (s₁.setTop (mkF m 15 #[.val (.ref a1), .val (.int p2), .val (.int (1 : Int32))] []))
      refine own_go (fun _ kt => XS.iinc X0.here hx rfl (hb hby d3_15) rfl (l' := #[.val (.ref a1), .val (.int p2), .val (.int (2 : Int32))]) rfl kt) ?_
      show own_R _ _ _ _ (s₁.setTop (mkF m 18 #[.val (.ref a1), .val (.int p2), .val (.int (2 : Int32))] []))
      refine own_go (fun _ kt => XS.goto X0.here hx rfl (pc0 := 18) (pc' := 2) rfl (hb hby d3_18) (by decide) (by decide) kt) ?_
      show own_R _ _ _ _ (s₁.setTop (mkF m 2 #[.val (.ref a1), .val (.int p2), .val (.int (2 : Int32))] []))
      refine own_go (fun _ kt => XS.iloadN X0.here hx rfl (hb hby d3_2) rfl kt) ?_
      show own_R _ _ _ _ (s₁.setTop (mkF m 3 #[.val (.ref a1), .val (.int p2), .val (.int (2 : Int32))] [(.int (2 : Int32))]))
      refine own_go (fun _ kt => XS.aloadN X0.here hx rfl (hb hby d3_3) rfl rfl kt) ?_
      show own_R _ _ _ _ (s₁.setTop (mkF m 4 #[.val (.ref a1), .val (.int p2), .val (.int (2 : Int32))] [(.ref a1), (.int (2 : Int32))]))
      refine own_go (own_len X0 hx hZ e0 V_a1 (g := (mkF m 4 #[.val (.ref a1), .val (.int p2), .val (.int (2 : Int32))] [(.ref a1), (.int (2 : Int32))])) rfl rfl (hb hby d3_4)) ?_
      show own_R _ _ _ _ (s₁.setTop (mkF m 5 #[.val (.ref a1), .val (.int p2), .val (.int (2 : Int32))] [(.int (2 : Int32)), (.int (2 : Int32))]))
      refine own_go (fun _ kt => XS.icmpYes X0.here hx rfl (pc0 := 5) (pc' := 21) rfl (hb hby d3_5) rfl (flt (by decide : ¬ ((2 : Int32) < (2 : Int32)))).2.1 (by decide) (by decide) kt) ?_
      show own_R _ _ _ _ (s₁.setTop (mkF m 21 #[.val (.ref a1), .val (.int p2), .val (.int (2 : Int32))] []))
      refine own_go (fun _ kt => XS.iloadN X0.here hx rfl (hb hby d3_21) rfl kt) ?_
      show own_R _ _ _ _ (s₁.setTop (mkF m 22 #[.val (.ref a1), .val (.int p2), .val (.int (2 : Int32))] [(.int (2 : Int32))]))
      exact own_retI X0 hx Bd.returns (hb hby d3_22) hlk ⟨by rw [show own_out p2 [x0, x1] = (2 : Int32) from by simp only [own_out, hc5, hc6, if_true, if_false]; rfl], NF, e0⟩ (by decide) (by decide)
    · refine own_go (fun _ kt => XS.icmpYes X0.here hx rfl (pc0 := 12) (pc' := 21) rfl (hb hby d3_12) rfl (flt hc6).2.1 (by decide) (by decide) kt) ?_
      show own_R _ _ _ _ (s₁.setTop (mkF m 21 #[.val (.ref a1), .val (.int p2), .val (.int (1 : Int32))] []))
      refine own_go (fun _ kt => XS.iloadN X0.here hx rfl (hb hby d3_21) rfl kt) ?_
      show own_R _ _ _ _ (s₁.setTop (mkF m 22 #[.val (.ref a1), .val (.int p2), .val (.int (1 : Int32))] [(.int (1 : Int32))]))
      exact own_retI X0 hx Bd.returns (hb hby d3_22) hlk ⟨by rw [show own_out p2 [x0, x1] = (1 : Int32) from by simp only [own_out, hc5, hc6, if_true, if_false]; rfl], NF, e0⟩ (by decide) (by decide)
  · refine own_go (fun _ kt => XS.icmpYes X0.here hx rfl (pc0 := 12) (pc' := 21) rfl (hb hby d3_12) rfl (flt hc5).2.1 (by decide) (by decide) kt) ?_
    show own_R _ _ _ _ (s₁.setTop (mkF m 21 #[.val (.ref a1), .val (.int p2), .val (.int (0 : Int32))] []))
    refine own_go (fun _ kt => XS.iloadN X0.here hx rfl (hb hby d3_21) rfl kt) ?_
    show own_R _ _ _ _ (s₁.setTop (mkF m 22 #[.val (.ref a1), .val (.int p2), .val (.int (0 : Int32))] [(.int (0 : Int32))]))
    exact own_retI X0 hx Bd.returns (hb hby d3_22) hlk ⟨by rw [show own_out p2 [x0, x1] = (0 : Int32) from by simp only [own_out, hc5, if_true, if_false]], NF, e0⟩ (by decide) (by decide)
theorem ef_3_3 (m : MethodId) (x0 : Addr) (x1 : Int32) : entryFrame m #[(.ref x0), (.int x1)] 3 = mkF m 0 #[.val (.ref x0), .val (.int x1), .unset] [] := by first | (simp [entryFrame, mkF, argsToLocals, Value.category]; done) | rfl
def Q3_3 (Z : State) (a1 : Addr) (p2 : Int32) (k1 : ClassId) (x0 : Int32) (x1 : Int32) (x2 : Int32) (h0 : Heap) (n0 : Nat) (v : Option Value) (h : Heap) (L : List Loc) : Prop := v = some (.int (own_out p2 [x0, x1, x2])) ∧ Fr n0 L ∧ h = h0
set_option maxRecDepth 65536 in
set_option maxHeartbeats 40000000 in
theorem rm3_3 (l : Launch) (Z : State) (a0 : Array Value) (hw : ∀ d ∈ tables_1, d.before a0 Z = true) (ws : List Jvm.Cond) (a1 : Addr) (p2 : Int32) (k1 : ClassId) (x0 : Int32) (x1 : Int32) (x2 : Int32) (h0 : Heap) (n0 : Nat) (ZS : n0 ≤ h0.size) (V_a1 : Arv Z h0 a1 k1 .int (3 : Int32) [(.int x0), (.int x1), (.int x2)] (.int (0 : Int32))) :
    MetFree l (⟨"com/example/parametree/parametree/Expression", "outer", "([II)I"⟩ : MethodName) (head1 (Jvm.Cond.code (⟨"com/example/parametree/parametree/Expression", "outer", "([II)I"⟩ : MethodName) prog_40_method_3_code 3 (some .int) :: ws) ({ frames := 0, cells := 0, slots := 0, locals := 0 } : Room)) (fun a U => a = #[(.ref a1), (.int p2)] ∧ Z.Warmed39 U.vm ∧ U.heap = h0) (fun _ _ _ _ _ => True) (fun _ U o U' => ∃ v L, o = .returned v ∧ Q3_3 Z a1 p2 k1 x0 x1 x2 h0 n0 v U'.heap L ∧ FrameEnd U o U' L ({ frames := 0, cells := 0, slots := 0, locals := 0 } : Room).cells ({ frames := 0, cells := 0, slots := 0, locals := 0 } : Room).slots) := by
  refine MetFree.of_bodySF (plainFor_of_name pn_3) hisR ?_
  intro p e s m args below meth c s₁ Bd hml0 hP hK
  obtain ⟨rfl, hZ, hh⟩ := hP
  have hx := Bd.exec
  have hby := Bd.bytes
  have hml : c.maxLocals = 3 := hml0
  have hown : s.vm.findClass "com/example/parametree/parametree/Expression" = some m.cls := findClass_of_methodNamed Bd.named
  have hnm := (name_of_methodNamed Bd.named Bd.method).1
  have hlk : meth.locks = false := Bd.notSynchronized
  have X0 : Stand p l e ({ frames := 0, cells := 0, slots := 0, locals := 0 } : Room) s m #[(.ref a1), (.int p2)] below meth c s₁ [] 0 0 := Stand.of_body Bd
  have e0 : s₁.heap = h0 := by rw [← hh, Bd.state]; rfl
  have NF := Fr.nil n0
  have KP : Keep h0 h0 [] := Keep.refl _ _
  refine own_fin (s := s) (Q := Q3_3 Z a1 p2 k1 x0 x1 x2 h0 n0) (rc := ({ frames := 0, cells := 0, slots := 0, locals := 0 } : Room).cells) (rs := ({ frames := 0, cells := 0, slots := 0, locals := 0 } : Room).slots) ?_
  refine own_go (fun _ kt => castTop (ef_3_3 m a1 p2) kt) ?_
  show own_R _ _ _ _ (s₁.setTop (mkF m 0 #[.val (.ref a1), .val (.int p2), .unset] []))
  refine own_go (fun _ kt => XS.iconst X0.here hx rfl (hb hby d3_0) kt) ?_
  show own_R _ _ _ _ (s₁.setTop (mkF m 1 #[.val (.ref a1), .val (.int p2), .unset] [(.int (0 : Int32))]))
  refine own_go (fun _ kt => XS.istoreN X0.here hx rfl (hb hby d3_1) rfl (l' := #[.val (.ref a1), .val (.int p2), .val (.int (0 : Int32))]) rfl kt) ?_
  show own_R _ _ _ _ (s₁.setTop (mkF m 2 #[.val (.ref a1), .val (.int p2), .val (.int (0 : Int32))] []))
  refine own_go (fun _ kt => XS.iloadN X0.here hx rfl (hb hby d3_2) rfl kt) ?_
  show own_R _ _ _ _ (s₁.setTop (mkF m 3 #[.val (.ref a1), .val (.int p2), .val (.int (0 : Int32))] [(.int (0 : Int32))]))
  refine own_go (fun _ kt => XS.aloadN X0.here hx rfl (hb hby d3_3) rfl rfl kt) ?_
  show own_R _ _ _ _ (s₁.setTop (mkF m 4 #[.val (.ref a1), .val (.int p2), .val (.int (0 : Int32))] [(.ref a1), (.int (0 : Int32))]))
  refine own_go (own_len X0 hx hZ e0 V_a1 (g := (mkF m 4 #[.val (.ref a1), .val (.int p2), .val (.int (0 : Int32))] [(.ref a1), (.int (0 : Int32))])) rfl rfl (hb hby d3_4)) ?_
  show own_R _ _ _ _ (s₁.setTop (mkF m 5 #[.val (.ref a1), .val (.int p2), .val (.int (0 : Int32))] [(.int (3 : Int32)), (.int (0 : Int32))]))
  refine own_go (fun _ kt => XS.icmpNo X0.here hx rfl (hb hby d3_5) rfl (tlt (by decide : (0 : Int32) < (3 : Int32))).2.1 kt) ?_
  show own_R _ _ _ _ (s₁.setTop (mkF m 8 #[.val (.ref a1), .val (.int p2), .val (.int (0 : Int32))] []))
  refine own_go (fun _ kt => XS.aloadN X0.here hx rfl (hb hby d3_8) rfl rfl kt) ?_
  show own_R _ _ _ _ (s₁.setTop (mkF m 9 #[.val (.ref a1), .val (.int p2), .val (.int (0 : Int32))] [(.ref a1)]))
  refine own_go (fun _ kt => XS.iloadN X0.here hx rfl (hb hby d3_9) rfl kt) ?_
  show own_R _ _ _ _ (s₁.setTop (mkF m 10 #[.val (.ref a1), .val (.int p2), .val (.int (0 : Int32))] [(.int (0 : Int32)), (.ref a1)]))
  refine own_go (own_ldI X0 hx hZ e0 V_a1 (j := (0 : Int32)) (i := 0) ⟨by decide, by decide⟩ rfl (v := (.int x0)) rfl (g := (mkF m 10 #[.val (.ref a1), .val (.int p2), .val (.int (0 : Int32))] [(.int (0 : Int32)), (.ref a1)])) rfl rfl (hb hby d3_10)) ?_
  show own_R _ _ _ _ (s₁.setTop (mkF m 11 #[.val (.ref a1), .val (.int p2), .val (.int (0 : Int32))] [(.int x0)]))
  refine own_go (fun _ kt => XS.iloadN X0.here hx rfl (hb hby d3_11) rfl kt) ?_
  show own_R _ _ _ _ (s₁.setTop (mkF m 12 #[.val (.ref a1), .val (.int p2), .val (.int (0 : Int32))] [(.int p2), (.int x0)]))
  by_cases hc7 : x0 < p2
  · refine own_go (fun _ kt => XS.icmpNo X0.here hx rfl (hb hby d3_12) rfl (tlt hc7).2.1 kt) ?_
    show own_R _ _ _ _ (s₁.setTop (mkF m 15 #[.val (.ref a1), .val (.int p2), .val (.int (0 : Int32))] []))
    refine own_go (fun _ kt => XS.iinc X0.here hx rfl (hb hby d3_15) rfl (l' := #[.val (.ref a1), .val (.int p2), .val (.int (1 : Int32))]) rfl kt) ?_
    show own_R _ _ _ _ (s₁.setTop (mkF m 18 #[.val (.ref a1), .val (.int p2), .val (.int (1 : Int32))] []))
    refine own_go (fun _ kt => XS.goto X0.here hx rfl (pc0 := 18) (pc' := 2) rfl (hb hby d3_18) (by decide) (by decide) kt) ?_
    show own_R _ _ _ _ (s₁.setTop (mkF m 2 #[.val (.ref a1), .val (.int p2), .val (.int (1 : Int32))] []))
    refine own_go (fun _ kt => XS.iloadN X0.here hx rfl (hb hby d3_2) rfl kt) ?_
    show own_R _ _ _ _ (s₁.setTop (mkF m 3 #[.val (.ref a1), .val (.int p2), .val (.int (1 : Int32))] [(.int (1 : Int32))]))
    refine own_go (fun _ kt => XS.aloadN X0.here hx rfl (hb hby d3_3) rfl rfl kt) ?_
    show own_R _ _ _ _ (s₁.setTop (mkF m 4 #[.val (.ref a1), .val (.int p2), .val (.int (1 : Int32))] [(.ref a1), (.int (1 : Int32))]))
    refine own_go (own_len X0 hx hZ e0 V_a1 (g := (mkF m 4 #[.val (.ref a1), .val (.int p2), .val (.int (1 : Int32))] [(.ref a1), (.int (1 : Int32))])) rfl rfl (hb hby d3_4)) ?_
    show own_R _ _ _ _ (s₁.setTop (mkF m 5 #[.val (.ref a1), .val (.int p2), .val (.int (1 : Int32))] [(.int (3 : Int32)), (.int (1 : Int32))]))
    refine own_go (fun _ kt => XS.icmpNo X0.here hx rfl (hb hby d3_5) rfl (tlt (by decide : (1 : Int32) < (3 : Int32))).2.1 kt) ?_
    show own_R _ _ _ _ (s₁.setTop (mkF m 8 #[.val (.ref a1), .val (.int p2), .val (.int (1 : Int32))] []))
    refine own_go (fun _ kt => XS.aloadN X0.here hx rfl (hb hby d3_8) rfl rfl kt) ?_
    show own_R _ _ _ _ (s₁.setTop (mkF m 9 #[.val (.ref a1), .val (.int p2), .val (.int (1 : Int32))] [(.ref a1)]))
    refine own_go (fun _ kt => XS.iloadN X0.here hx rfl (hb hby d3_9) rfl kt) ?_
    show own_R _ _ _ _ (s₁.setTop (mkF m 10 #[.val (.ref a1), .val (.int p2), .val (.int (1 : Int32))] [(.int (1 : Int32)), (.ref a1)]))
    refine own_go (own_ldI X0 hx hZ e0 V_a1 (j := (1 : Int32)) (i := 1) ⟨by decide, by decide⟩ rfl (v := (.int x1)) rfl (g := (mkF m 10 #[.val (.ref a1), .val (.int p2), .val (.int (1 : Int32))] [(.int (1 : Int32)), (.ref a1)])) rfl rfl (hb hby d3_10)) ?_
    show own_R _ _ _ _ (s₁.setTop (mkF m 11 #[.val (.ref a1), .val (.int p2), .val (.int (1 : Int32))] [(.int x1)]))
    refine own_go (fun _ kt => XS.iloadN X0.here hx rfl (hb hby d3_11) rfl kt) ?_
    show own_R _ _ _ _ (s₁.setTop (mkF m 12 #[.val (.ref a1), .val (.int p2), .val (.int (1 : Int32))] [(.int p2), (.int x1)]))
    by_cases hc8 : x1 < p2
    · refine own_go (fun _ kt => XS.icmpNo X0.here hx rfl (hb hby d3_12) rfl (tlt hc8).2.1 kt) ?_
      show own_R _ _ _ _ (s₁.setTop (mkF m 15 #[.val (.ref a1), .val (.int p2), .val (.int (1 : Int32))] []))
      refine own_go (fun _ kt => XS.iinc X0.here hx rfl (hb hby d3_15) rfl (l' := #[.val (.ref a1), .val (.int p2), .val (.int (2 : Int32))]) rfl kt) ?_
      show own_R _ _ _ _ (s₁.setTop (mkF m 18 #[.val (.ref a1), .val (.int p2), .val (.int (2 : Int32))] []))
      refine own_go (fun _ kt => XS.goto X0.here hx rfl (pc0 := 18) (pc' := 2) rfl (hb hby d3_18) (by decide) (by decide) kt) ?_
      show own_R _ _ _ _ (s₁.setTop (mkF m 2 #[.val (.ref a1), .val (.int p2), .val (.int (2 : Int32))] []))
      refine own_go (fun _ kt => XS.iloadN X0.here hx rfl (hb hby d3_2) rfl kt) ?_
      show own_R _ _ _ _ (s₁.setTop (mkF m 3 #[.val (.ref a1), .val (.int p2), .val (.int (2 : Int32))] [(.int (2 : Int32))]))
      refine own_go (fun _ kt => XS.aloadN X0.here hx rfl (hb hby d3_3) rfl rfl kt) ?_
      show own_R _ _ _ _ (s₁.setTop (mkF m 4 #[.val (.ref a1), .val (.int p2), .val (.int (2 : Int32))] [(.ref a1), (.int (2 : Int32))]))
      refine own_go (own_len X0 hx hZ e0 V_a1 (g := (mkF m 4 #[.val (.ref a1), .val (.int p2), .val (.int (2 : Int32))] [(.ref a1), (.int (2 : Int32))])) rfl rfl (hb hby d3_4)) ?_
      show own_R _ _ _ _ (s₁.setTop (mkF m 5 #[.val (.ref a1), .val (.int p2), .val (.int (2 : Int32))] [(.int (3 : Int32)), (.int (2 : Int32))]))
      refine own_go (fun _ kt => XS.icmpNo X0.here hx rfl (hb hby d3_5) rfl (tlt (by decide : (2 : Int32) < (3 : Int32))).2.1 kt) ?_
      show own_R _ _ _ _ (s₁.setTop (mkF m 8 #[.val (.ref a1), .val (.int p2), .val (.int (2 : Int32))] []))
      refine own_go (fun _ kt => XS.aloadN X0.here hx rfl (hb hby d3_8) rfl rfl kt) ?_
      show own_R _ _ _ _ (s₁.setTop (mkF m 9 #[.val (.ref a1), .val (.int p2), .val (.int (2 : Int32))] [(.ref a1)]))
      refine own_go (fun _ kt => XS.iloadN X0.here hx rfl (hb hby d3_9) rfl kt) ?_
      show own_R _ _ _ _ (s₁.setTop (mkF m 10 #[.val (.ref a1), .val (.int p2), .val (.int (2 : Int32))] [(.int (2 : Int32)), (.ref a1)]))
      refine own_go (own_ldI X0 hx hZ e0 V_a1 (j := (2 : Int32)) (i := 2) ⟨by decide, by decide⟩ rfl (v := (.int x2)) rfl (g := (mkF m 10 #[.val (.ref a1), .val (.int p2), .val (.int (2 : Int32))] [(.int (2 : Int32)), (.ref a1)])) rfl rfl (hb hby d3_10)) ?_
      show own_R _ _ _ _ (s₁.setTop (mkF m 11 #[.val (.ref a1), .val (.int p2), .val (.int (2 : Int32))] [(.int x2)]))
      refine own_go (fun _ kt => XS.iloadN X0.here hx rfl (hb hby d3_11) rfl kt) ?_
      show own_R _ _ _ _ (s₁.setTop (mkF m 12 #[.val (.ref a1), .val (.int p2), .val (.int (2 : Int32))] [(.int p2), (.int x2)]))
      by_cases hc9 : x2 < p2
      · refine own_go (fun _ kt => XS.icmpNo X0.here hx rfl (hb hby d3_12) rfl (tlt hc9).2.1 kt) ?_
        show own_R _ _ _ _ (s₁.setTop (mkF m 15 #[.val (.ref a1), .val (.int p2), .val (.int (2 : Int32))] []))
        refine own_go (fun _ kt => XS.iinc X0.here hx rfl (hb hby d3_15) rfl (l' := #[.val (.ref a1), .val (.int p2), .val (.int (3 : Int32))]) rfl kt) ?_
        show own_R _ _ _ _ (s₁.setTop (mkF m 18 #[.val (.ref a1), .val (.int p2), .val (.int (3 : Int32))] []))
        refine own_go (fun _ kt => XS.goto X0.here hx rfl (pc0 := 18) (pc' := 2) rfl (hb hby d3_18) (by decide) (by decide) kt) ?_
        show own_R _ _ _ _ (s₁.setTop (mkF m 2 #[.val (.ref a1), .val (.int p2), .val (.int (3 : Int32))] []))
        refine own_go (fun _ kt => XS.iloadN X0.here hx rfl (hb hby d3_2) rfl kt) ?_
        show own_R _ _ _ _ (s₁.setTop (mkF m 3 #[.val (.ref a1), .val (.int p2), .val (.int (3 : Int32))] [(.int (3 : Int32))]))
        refine own_go (fun _ kt => XS.aloadN X0.here hx rfl (hb hby d3_3) rfl rfl kt) ?_
        show own_R _ _ _ _ (s₁.setTop (mkF m 4 #[.val (.ref a1), .val (.int p2), .val (.int (3 : Int32))] [(.ref a1), (.int (3 : Int32))]))
        refine own_go (own_len X0 hx hZ e0 V_a1 (g := (mkF m 4 #[.val (.ref a1), .val (.int p2), .val (.int (3 : Int32))] [(.ref a1), (.int (3 : Int32))])) rfl rfl (hb hby d3_4)) ?_
        show own_R _ _ _ _ (s₁.setTop (mkF m 5 #[.val (.ref a1), .val (.int p2), .val (.int (3 : Int32))] [(.int (3 : Int32)), (.int (3 : Int32))]))
        refine own_go (fun _ kt => XS.icmpYes X0.here hx rfl (pc0 := 5) (pc' := 21) rfl (hb hby d3_5) rfl (flt (by decide : ¬ ((3 : Int32) < (3 : Int32)))).2.1 (by decide) (by decide) kt) ?_
        show own_R _ _ _ _ (s₁.setTop (mkF m 21 #[.val (.ref a1), .val (.int p2), .val (.int (3 : Int32))] []))
        refine own_go (fun _ kt => XS.iloadN X0.here hx rfl (hb hby d3_21) rfl kt) ?_
        show own_R _ _ _ _ (s₁.setTop (mkF m 22 #[.val (.ref a1), .val (.int p2), .val (.int (3 : Int32))] [(.int (3 : Int32))]))
        exact own_retI X0 hx Bd.returns (hb hby d3_22) hlk ⟨by rw [show own_out p2 [x0, x1, x2] = (3 : Int32) from by simp only [own_out, hc7, hc8, hc9, if_true, if_false]; rfl], NF, e0⟩ (by decide) (by decide)
      · refine own_go (fun _ kt => XS.icmpYes X0.here hx rfl (pc0 := 12) (pc' := 21) rfl (hb hby d3_12) rfl (flt hc9).2.1 (by decide) (by decide) kt) ?_
        show own_R _ _ _ _ (s₁.setTop (mkF m 21 #[.val (.ref a1), .val (.int p2), .val (.int (2 : Int32))] []))
        refine own_go (fun _ kt => XS.iloadN X0.here hx rfl (hb hby d3_21) rfl kt) ?_
        show own_R _ _ _ _ (s₁.setTop (mkF m 22 #[.val (.ref a1), .val (.int p2), .val (.int (2 : Int32))] [(.int (2 : Int32))]))
        exact own_retI X0 hx Bd.returns (hb hby d3_22) hlk ⟨by rw [show own_out p2 [x0, x1, x2] = (2 : Int32) from by simp only [own_out, hc7, hc8, hc9, if_true, if_false]; rfl], NF, e0⟩ (by decide) (by decide)
    · refine own_go (fun _ kt => XS.icmpYes X0.here hx rfl (pc0 := 12) (pc' := 21) rfl (hb hby d3_12) rfl (flt hc8).2.1 (by decide) (by decide) kt) ?_
      show own_R _ _ _ _ (s₁.setTop (mkF m 21 #[.val (.ref a1), .val (.int p2), .val (.int (1 : Int32))] []))
      refine own_go (fun _ kt => XS.iloadN X0.here hx rfl (hb hby d3_21) rfl kt) ?_
      show own_R _ _ _ _ (s₁.setTop (mkF m 22 #[.val (.ref a1), .val (.int p2), .val (.int (1 : Int32))] [(.int (1 : Int32))]))
      exact own_retI X0 hx Bd.returns (hb hby d3_22) hlk ⟨by rw [show own_out p2 [x0, x1, x2] = (1 : Int32) from by simp only [own_out, hc7, hc8, if_true, if_false]; rfl], NF, e0⟩ (by decide) (by decide)
  · refine own_go (fun _ kt => XS.icmpYes X0.here hx rfl (pc0 := 12) (pc' := 21) rfl (hb hby d3_12) rfl (flt hc7).2.1 (by decide) (by decide) kt) ?_
    show own_R _ _ _ _ (s₁.setTop (mkF m 21 #[.val (.ref a1), .val (.int p2), .val (.int (0 : Int32))] []))
    refine own_go (fun _ kt => XS.iloadN X0.here hx rfl (hb hby d3_21) rfl kt) ?_
    show own_R _ _ _ _ (s₁.setTop (mkF m 22 #[.val (.ref a1), .val (.int p2), .val (.int (0 : Int32))] [(.int (0 : Int32))]))
    exact own_retI X0 hx Bd.returns (hb hby d3_22) hlk ⟨by rw [show own_out p2 [x0, x1, x2] = (0 : Int32) from by simp only [own_out, hc7, if_true, if_false]], NF, e0⟩ (by decide) (by decide)
theorem ef_3_4 (m : MethodId) (x0 : Addr) (x1 : Int32) : entryFrame m #[(.ref x0), (.int x1)] 3 = mkF m 0 #[.val (.ref x0), .val (.int x1), .unset] [] := by first | (simp [entryFrame, mkF, argsToLocals, Value.category]; done) | rfl
def Q3_4 (Z : State) (a1 : Addr) (p2 : Int32) (k1 : ClassId) (x0 : Int32) (x1 : Int32) (x2 : Int32) (x3 : Int32) (h0 : Heap) (n0 : Nat) (v : Option Value) (h : Heap) (L : List Loc) : Prop := v = some (.int (own_out p2 [x0, x1, x2, x3])) ∧ Fr n0 L ∧ h = h0
set_option maxRecDepth 65536 in
set_option maxHeartbeats 40000000 in
theorem rm3_4 (l : Launch) (Z : State) (a0 : Array Value) (hw : ∀ d ∈ tables_1, d.before a0 Z = true) (ws : List Jvm.Cond) (a1 : Addr) (p2 : Int32) (k1 : ClassId) (x0 : Int32) (x1 : Int32) (x2 : Int32) (x3 : Int32) (h0 : Heap) (n0 : Nat) (ZS : n0 ≤ h0.size) (V_a1 : Arv Z h0 a1 k1 .int (4 : Int32) [(.int x0), (.int x1), (.int x2), (.int x3)] (.int (0 : Int32))) :
    MetFree l (⟨"com/example/parametree/parametree/Expression", "outer", "([II)I"⟩ : MethodName) (head1 (Jvm.Cond.code (⟨"com/example/parametree/parametree/Expression", "outer", "([II)I"⟩ : MethodName) prog_40_method_3_code 3 (some .int) :: ws) ({ frames := 0, cells := 0, slots := 0, locals := 0 } : Room)) (fun a U => a = #[(.ref a1), (.int p2)] ∧ Z.Warmed39 U.vm ∧ U.heap = h0) (fun _ _ _ _ _ => True) (fun _ U o U' => ∃ v L, o = .returned v ∧ Q3_4 Z a1 p2 k1 x0 x1 x2 x3 h0 n0 v U'.heap L ∧ FrameEnd U o U' L ({ frames := 0, cells := 0, slots := 0, locals := 0 } : Room).cells ({ frames := 0, cells := 0, slots := 0, locals := 0 } : Room).slots) := by
  refine MetFree.of_bodySF (plainFor_of_name pn_3) hisR ?_
  intro p e s m args below meth c s₁ Bd hml0 hP hK
  obtain ⟨rfl, hZ, hh⟩ := hP
  have hx := Bd.exec
  have hby := Bd.bytes
  have hml : c.maxLocals = 3 := hml0
  have hown : s.vm.findClass "com/example/parametree/parametree/Expression" = some m.cls := findClass_of_methodNamed Bd.named
  have hnm := (name_of_methodNamed Bd.named Bd.method).1
  have hlk : meth.locks = false := Bd.notSynchronized
  have X0 : Stand p l e ({ frames := 0, cells := 0, slots := 0, locals := 0 } : Room) s m #[(.ref a1), (.int p2)] below meth c s₁ [] 0 0 := Stand.of_body Bd
  have e0 : s₁.heap = h0 := by rw [← hh, Bd.state]; rfl
  have NF := Fr.nil n0
  have KP : Keep h0 h0 [] := Keep.refl _ _
  refine own_fin (s := s) (Q := Q3_4 Z a1 p2 k1 x0 x1 x2 x3 h0 n0) (rc := ({ frames := 0, cells := 0, slots := 0, locals := 0 } : Room).cells) (rs := ({ frames := 0, cells := 0, slots := 0, locals := 0 } : Room).slots) ?_
  refine own_go (fun _ kt => castTop (ef_3_4 m a1 p2) kt) ?_
  show own_R _ _ _ _ (s₁.setTop (mkF m 0 #[.val (.ref a1), .val (.int p2), .unset] []))
  refine own_go (fun _ kt => XS.iconst X0.here hx rfl (hb hby d3_0) kt) ?_
  show own_R _ _ _ _ (s₁.setTop (mkF m 1 #[.val (.ref a1), .val (.int p2), .unset] [(.int (0 : Int32))]))
  refine own_go (fun _ kt => XS.istoreN X0.here hx rfl (hb hby d3_1) rfl (l' := #[.val (.ref a1), .val (.int p2), .val (.int (0 : Int32))]) rfl kt) ?_
  show own_R _ _ _ _ (s₁.setTop (mkF m 2 #[.val (.ref a1), .val (.int p2), .val (.int (0 : Int32))] []))
  refine own_go (fun _ kt => XS.iloadN X0.here hx rfl (hb hby d3_2) rfl kt) ?_
  show own_R _ _ _ _ (s₁.setTop (mkF m 3 #[.val (.ref a1), .val (.int p2), .val (.int (0 : Int32))] [(.int (0 : Int32))]))
  refine own_go (fun _ kt => XS.aloadN X0.here hx rfl (hb hby d3_3) rfl rfl kt) ?_
  show own_R _ _ _ _ (s₁.setTop (mkF m 4 #[.val (.ref a1), .val (.int p2), .val (.int (0 : Int32))] [(.ref a1), (.int (0 : Int32))]))
  refine own_go (own_len X0 hx hZ e0 V_a1 (g := (mkF m 4 #[.val (.ref a1), .val (.int p2), .val (.int (0 : Int32))] [(.ref a1), (.int (0 : Int32))])) rfl rfl (hb hby d3_4)) ?_
  show own_R _ _ _ _ (s₁.setTop (mkF m 5 #[.val (.ref a1), .val (.int p2), .val (.int (0 : Int32))] [(.int (4 : Int32)), (.int (0 : Int32))]))
  refine own_go (fun _ kt => XS.icmpNo X0.here hx rfl (hb hby d3_5) rfl (tlt (by decide : (0 : Int32) < (4 : Int32))).2.1 kt) ?_
  show own_R _ _ _ _ (s₁.setTop (mkF m 8 #[.val (.ref a1), .val (.int p2), .val (.int (0 : Int32))] []))
  refine own_go (fun _ kt => XS.aloadN X0.here hx rfl (hb hby d3_8) rfl rfl kt) ?_
  show own_R _ _ _ _ (s₁.setTop (mkF m 9 #[.val (.ref a1), .val (.int p2), .val (.int (0 : Int32))] [(.ref a1)]))
  refine own_go (fun _ kt => XS.iloadN X0.here hx rfl (hb hby d3_9) rfl kt) ?_
  show own_R _ _ _ _ (s₁.setTop (mkF m 10 #[.val (.ref a1), .val (.int p2), .val (.int (0 : Int32))] [(.int (0 : Int32)), (.ref a1)]))
  refine own_go (own_ldI X0 hx hZ e0 V_a1 (j := (0 : Int32)) (i := 0) ⟨by decide, by decide⟩ rfl (v := (.int x0)) rfl (g := (mkF m 10 #[.val (.ref a1), .val (.int p2), .val (.int (0 : Int32))] [(.int (0 : Int32)), (.ref a1)])) rfl rfl (hb hby d3_10)) ?_
  show own_R _ _ _ _ (s₁.setTop (mkF m 11 #[.val (.ref a1), .val (.int p2), .val (.int (0 : Int32))] [(.int x0)]))
  refine own_go (fun _ kt => XS.iloadN X0.here hx rfl (hb hby d3_11) rfl kt) ?_
  show own_R _ _ _ _ (s₁.setTop (mkF m 12 #[.val (.ref a1), .val (.int p2), .val (.int (0 : Int32))] [(.int p2), (.int x0)]))
  by_cases hc10 : x0 < p2
  · refine own_go (fun _ kt => XS.icmpNo X0.here hx rfl (hb hby d3_12) rfl (tlt hc10).2.1 kt) ?_
    show own_R _ _ _ _ (s₁.setTop (mkF m 15 #[.val (.ref a1), .val (.int p2), .val (.int (0 : Int32))] []))
    refine own_go (fun _ kt => XS.iinc X0.here hx rfl (hb hby d3_15) rfl (l' := #[.val (.ref a1), .val (.int p2), .val (.int (1 : Int32))]) rfl kt) ?_
    show own_R _ _ _ _ (s₁.setTop (mkF m 18 #[.val (.ref a1), .val (.int p2), .val (.int (1 : Int32))] []))
    refine own_go (fun _ kt => XS.goto X0.here hx rfl (pc0 := 18) (pc' := 2) rfl (hb hby d3_18) (by decide) (by decide) kt) ?_
    show own_R _ _ _ _ (s₁.setTop (mkF m 2 #[.val (.ref a1), .val (.int p2), .val (.int (1 : Int32))] []))
    refine own_go (fun _ kt => XS.iloadN X0.here hx rfl (hb hby d3_2) rfl kt) ?_
    show own_R _ _ _ _ (s₁.setTop (mkF m 3 #[.val (.ref a1), .val (.int p2), .val (.int (1 : Int32))] [(.int (1 : Int32))]))
    refine own_go (fun _ kt => XS.aloadN X0.here hx rfl (hb hby d3_3) rfl rfl kt) ?_
    show own_R _ _ _ _ (s₁.setTop (mkF m 4 #[.val (.ref a1), .val (.int p2), .val (.int (1 : Int32))] [(.ref a1), (.int (1 : Int32))]))
    refine own_go (own_len X0 hx hZ e0 V_a1 (g := (mkF m 4 #[.val (.ref a1), .val (.int p2), .val (.int (1 : Int32))] [(.ref a1), (.int (1 : Int32))])) rfl rfl (hb hby d3_4)) ?_
    show own_R _ _ _ _ (s₁.setTop (mkF m 5 #[.val (.ref a1), .val (.int p2), .val (.int (1 : Int32))] [(.int (4 : Int32)), (.int (1 : Int32))]))
    refine own_go (fun _ kt => XS.icmpNo X0.here hx rfl (hb hby d3_5) rfl (tlt (by decide : (1 : Int32) < (4 : Int32))).2.1 kt) ?_
    show own_R _ _ _ _ (s₁.setTop (mkF m 8 #[.val (.ref a1), .val (.int p2), .val (.int (1 : Int32))] []))
    refine own_go (fun _ kt => XS.aloadN X0.here hx rfl (hb hby d3_8) rfl rfl kt) ?_
    show own_R _ _ _ _ (s₁.setTop (mkF m 9 #[.val (.ref a1), .val (.int p2), .val (.int (1 : Int32))] [(.ref a1)]))
    refine own_go (fun _ kt => XS.iloadN X0.here hx rfl (hb hby d3_9) rfl kt) ?_
    show own_R _ _ _ _ (s₁.setTop (mkF m 10 #[.val (.ref a1), .val (.int p2), .val (.int (1 : Int32))] [(.int (1 : Int32)), (.ref a1)]))
    refine own_go (own_ldI X0 hx hZ e0 V_a1 (j := (1 : Int32)) (i := 1) ⟨by decide, by decide⟩ rfl (v := (.int x1)) rfl (g := (mkF m 10 #[.val (.ref a1), .val (.int p2), .val (.int (1 : Int32))] [(.int (1 : Int32)), (.ref a1)])) rfl rfl (hb hby d3_10)) ?_
    show own_R _ _ _ _ (s₁.setTop (mkF m 11 #[.val (.ref a1), .val (.int p2), .val (.int (1 : Int32))] [(.int x1)]))
    refine own_go (fun _ kt => XS.iloadN X0.here hx rfl (hb hby d3_11) rfl kt) ?_
    show own_R _ _ _ _ (s₁.setTop (mkF m 12 #[.val (.ref a1), .val (.int p2), .val (.int (1 : Int32))] [(.int p2), (.int x1)]))
    by_cases hc11 : x1 < p2
    · refine own_go (fun _ kt => XS.icmpNo X0.here hx rfl (hb hby d3_12) rfl (tlt hc11).2.1 kt) ?_
      show own_R _ _ _ _ (s₁.setTop (mkF m 15 #[.val (.ref a1), .val (.int p2), .val (.int (1 : Int32))] []))
      refine own_go (fun _ kt => XS.iinc X0.here hx rfl (hb hby d3_15) rfl (l' := #[.val (.ref a1), .val (.int p2), .val (.int (2 : Int32))]) rfl kt) ?_
      show own_R _ _ _ _ (s₁.setTop (mkF m 18 #[.val (.ref a1), .val (.int p2), .val (.int (2 : Int32))] []))
      refine own_go (fun _ kt => XS.goto X0.here hx rfl (pc0 := 18) (pc' := 2) rfl (hb hby d3_18) (by decide) (by decide) kt) ?_
      show own_R _ _ _ _ (s₁.setTop (mkF m 2 #[.val (.ref a1), .val (.int p2), .val (.int (2 : Int32))] []))
      refine own_go (fun _ kt => XS.iloadN X0.here hx rfl (hb hby d3_2) rfl kt) ?_
      show own_R _ _ _ _ (s₁.setTop (mkF m 3 #[.val (.ref a1), .val (.int p2), .val (.int (2 : Int32))] [(.int (2 : Int32))]))
      refine own_go (fun _ kt => XS.aloadN X0.here hx rfl (hb hby d3_3) rfl rfl kt) ?_
      show own_R _ _ _ _ (s₁.setTop (mkF m 4 #[.val (.ref a1), .val (.int p2), .val (.int (2 : Int32))] [(.ref a1), (.int (2 : Int32))]))
      refine own_go (own_len X0 hx hZ e0 V_a1 (g := (mkF m 4 #[.val (.ref a1), .val (.int p2), .val (.int (2 : Int32))] [(.ref a1), (.int (2 : Int32))])) rfl rfl (hb hby d3_4)) ?_
      show own_R _ _ _ _ (s₁.setTop (mkF m 5 #[.val (.ref a1), .val (.int p2), .val (.int (2 : Int32))] [(.int (4 : Int32)), (.int (2 : Int32))]))
      refine own_go (fun _ kt => XS.icmpNo X0.here hx rfl (hb hby d3_5) rfl (tlt (by decide : (2 : Int32) < (4 : Int32))).2.1 kt) ?_
      show own_R _ _ _ _ (s₁.setTop (mkF m 8 #[.val (.ref a1), .val (.int p2), .val (.int (2 : Int32))] []))
      refine own_go (fun _ kt => XS.aloadN X0.here hx rfl (hb hby d3_8) rfl rfl kt) ?_
      show own_R _ _ _ _ (s₁.setTop (mkF m 9 #[.val (.ref a1), .val (.int p2), .val (.int (2 : Int32))] [(.ref a1)]))
      refine own_go (fun _ kt => XS.iloadN X0.here hx rfl (hb hby d3_9) rfl kt) ?_
      show own_R _ _ _ _ (s₁.setTop (mkF m 10 #[.val (.ref a1), .val (.int p2), .val (.int (2 : Int32))] [(.int (2 : Int32)), (.ref a1)]))
      refine own_go (own_ldI X0 hx hZ e0 V_a1 (j := (2 : Int32)) (i := 2) ⟨by decide, by decide⟩ rfl (v := (.int x2)) rfl (g := (mkF m 10 #[.val (.ref a1), .val (.int p2), .val (.int (2 : Int32))] [(.int (2 : Int32)), (.ref a1)])) rfl rfl (hb hby d3_10)) ?_
      show own_R _ _ _ _ (s₁.setTop (mkF m 11 #[.val (.ref a1), .val (.int p2), .val (.int (2 : Int32))] [(.int x2)]))
      refine own_go (fun _ kt => XS.iloadN X0.here hx rfl (hb hby d3_11) rfl kt) ?_
      show own_R _ _ _ _ (s₁.setTop (mkF m 12 #[.val (.ref a1), .val (.int p2), .val (.int (2 : Int32))] [(.int p2), (.int x2)]))
      by_cases hc12 : x2 < p2
      · refine own_go (fun _ kt => XS.icmpNo X0.here hx rfl (hb hby d3_12) rfl (tlt hc12).2.1 kt) ?_
        show own_R _ _ _ _ (s₁.setTop (mkF m 15 #[.val (.ref a1), .val (.int p2), .val (.int (2 : Int32))] []))
        refine own_go (fun _ kt => XS.iinc X0.here hx rfl (hb hby d3_15) rfl (l' := #[.val (.ref a1), .val (.int p2), .val (.int (3 : Int32))]) rfl kt) ?_
        show own_R _ _ _ _ (s₁.setTop (mkF m 18 #[.val (.ref a1), .val (.int p2), .val (.int (3 : Int32))] []))
        refine own_go (fun _ kt => XS.goto X0.here hx rfl (pc0 := 18) (pc' := 2) rfl (hb hby d3_18) (by decide) (by decide) kt) ?_
        show own_R _ _ _ _ (s₁.setTop (mkF m 2 #[.val (.ref a1), .val (.int p2), .val (.int (3 : Int32))] []))
        refine own_go (fun _ kt => XS.iloadN X0.here hx rfl (hb hby d3_2) rfl kt) ?_
        show own_R _ _ _ _ (s₁.setTop (mkF m 3 #[.val (.ref a1), .val (.int p2), .val (.int (3 : Int32))] [(.int (3 : Int32))]))
        refine own_go (fun _ kt => XS.aloadN X0.here hx rfl (hb hby d3_3) rfl rfl kt) ?_
        show own_R _ _ _ _ (s₁.setTop (mkF m 4 #[.val (.ref a1), .val (.int p2), .val (.int (3 : Int32))] [(.ref a1), (.int (3 : Int32))]))
        refine own_go (own_len X0 hx hZ e0 V_a1 (g := (mkF m 4 #[.val (.ref a1), .val (.int p2), .val (.int (3 : Int32))] [(.ref a1), (.int (3 : Int32))])) rfl rfl (hb hby d3_4)) ?_
        show own_R _ _ _ _ (s₁.setTop (mkF m 5 #[.val (.ref a1), .val (.int p2), .val (.int (3 : Int32))] [(.int (4 : Int32)), (.int (3 : Int32))]))
        refine own_go (fun _ kt => XS.icmpNo X0.here hx rfl (hb hby d3_5) rfl (tlt (by decide : (3 : Int32) < (4 : Int32))).2.1 kt) ?_
        show own_R _ _ _ _ (s₁.setTop (mkF m 8 #[.val (.ref a1), .val (.int p2), .val (.int (3 : Int32))] []))
        refine own_go (fun _ kt => XS.aloadN X0.here hx rfl (hb hby d3_8) rfl rfl kt) ?_
        show own_R _ _ _ _ (s₁.setTop (mkF m 9 #[.val (.ref a1), .val (.int p2), .val (.int (3 : Int32))] [(.ref a1)]))
        refine own_go (fun _ kt => XS.iloadN X0.here hx rfl (hb hby d3_9) rfl kt) ?_
        show own_R _ _ _ _ (s₁.setTop (mkF m 10 #[.val (.ref a1), .val (.int p2), .val (.int (3 : Int32))] [(.int (3 : Int32)), (.ref a1)]))
        refine own_go (own_ldI X0 hx hZ e0 V_a1 (j := (3 : Int32)) (i := 3) ⟨by decide, by decide⟩ rfl (v := (.int x3)) rfl (g := (mkF m 10 #[.val (.ref a1), .val (.int p2), .val (.int (3 : Int32))] [(.int (3 : Int32)), (.ref a1)])) rfl rfl (hb hby d3_10)) ?_
        show own_R _ _ _ _ (s₁.setTop (mkF m 11 #[.val (.ref a1), .val (.int p2), .val (.int (3 : Int32))] [(.int x3)]))
        refine own_go (fun _ kt => XS.iloadN X0.here hx rfl (hb hby d3_11) rfl kt) ?_
        show own_R _ _ _ _ (s₁.setTop (mkF m 12 #[.val (.ref a1), .val (.int p2), .val (.int (3 : Int32))] [(.int p2), (.int x3)]))
        by_cases hc13 : x3 < p2
        · refine own_go (fun _ kt => XS.icmpNo X0.here hx rfl (hb hby d3_12) rfl (tlt hc13).2.1 kt) ?_
          show own_R _ _ _ _ (s₁.setTop (mkF m 15 #[.val (.ref a1), .val (.int p2), .val (.int (3 : Int32))] []))
          refine own_go (fun _ kt => XS.iinc X0.here hx rfl (hb hby d3_15) rfl (l' := #[.val (.ref a1), .val (.int p2), .val (.int (4 : Int32))]) rfl kt) ?_
          show own_R _ _ _ _ (s₁.setTop (mkF m 18 #[.val (.ref a1), .val (.int p2), .val (.int (4 : Int32))] []))
          refine own_go (fun _ kt => XS.goto X0.here hx rfl (pc0 := 18) (pc' := 2) rfl (hb hby d3_18) (by decide) (by decide) kt) ?_
          show own_R _ _ _ _ (s₁.setTop (mkF m 2 #[.val (.ref a1), .val (.int p2), .val (.int (4 : Int32))] []))
          refine own_go (fun _ kt => XS.iloadN X0.here hx rfl (hb hby d3_2) rfl kt) ?_
          show own_R _ _ _ _ (s₁.setTop (mkF m 3 #[.val (.ref a1), .val (.int p2), .val (.int (4 : Int32))] [(.int (4 : Int32))]))
          refine own_go (fun _ kt => XS.aloadN X0.here hx rfl (hb hby d3_3) rfl rfl kt) ?_
          show own_R _ _ _ _ (s₁.setTop (mkF m 4 #[.val (.ref a1), .val (.int p2), .val (.int (4 : Int32))] [(.ref a1), (.int (4 : Int32))]))
          refine own_go (own_len X0 hx hZ e0 V_a1 (g := (mkF m 4 #[.val (.ref a1), .val (.int p2), .val (.int (4 : Int32))] [(.ref a1), (.int (4 : Int32))])) rfl rfl (hb hby d3_4)) ?_
          show own_R _ _ _ _ (s₁.setTop (mkF m 5 #[.val (.ref a1), .val (.int p2), .val (.int (4 : Int32))] [(.int (4 : Int32)), (.int (4 : Int32))]))
          refine own_go (fun _ kt => XS.icmpYes X0.here hx rfl (pc0 := 5) (pc' := 21) rfl (hb hby d3_5) rfl (flt (by decide : ¬ ((4 : Int32) < (4 : Int32)))).2.1 (by decide) (by decide) kt) ?_
          show own_R _ _ _ _ (s₁.setTop (mkF m 21 #[.val (.ref a1), .val (.int p2), .val (.int (4 : Int32))] []))
          refine own_go (fun _ kt => XS.iloadN X0.here hx rfl (hb hby d3_21) rfl kt) ?_
          show own_R _ _ _ _ (s₁.setTop (mkF m 22 #[.val (.ref a1), .val (.int p2), .val (.int (4 : Int32))] [(.int (4 : Int32))]))
          exact own_retI X0 hx Bd.returns (hb hby d3_22) hlk ⟨by rw [show own_out p2 [x0, x1, x2, x3] = (4 : Int32) from by simp only [own_out, hc10, hc11, hc12, hc13, if_true, if_false]; rfl], NF, e0⟩ (by decide) (by decide)
        · refine own_go (fun _ kt => XS.icmpYes X0.here hx rfl (pc0 := 12) (pc' := 21) rfl (hb hby d3_12) rfl (flt hc13).2.1 (by decide) (by decide) kt) ?_
          show own_R _ _ _ _ (s₁.setTop (mkF m 21 #[.val (.ref a1), .val (.int p2), .val (.int (3 : Int32))] []))
          refine own_go (fun _ kt => XS.iloadN X0.here hx rfl (hb hby d3_21) rfl kt) ?_
          show own_R _ _ _ _ (s₁.setTop (mkF m 22 #[.val (.ref a1), .val (.int p2), .val (.int (3 : Int32))] [(.int (3 : Int32))]))
          exact own_retI X0 hx Bd.returns (hb hby d3_22) hlk ⟨by rw [show own_out p2 [x0, x1, x2, x3] = (3 : Int32) from by simp only [own_out, hc10, hc11, hc12, hc13, if_true, if_false]; rfl], NF, e0⟩ (by decide) (by decide)
      · refine own_go (fun _ kt => XS.icmpYes X0.here hx rfl (pc0 := 12) (pc' := 21) rfl (hb hby d3_12) rfl (flt hc12).2.1 (by decide) (by decide) kt) ?_
        show own_R _ _ _ _ (s₁.setTop (mkF m 21 #[.val (.ref a1), .val (.int p2), .val (.int (2 : Int32))] []))
        refine own_go (fun _ kt => XS.iloadN X0.here hx rfl (hb hby d3_21) rfl kt) ?_
        show own_R _ _ _ _ (s₁.setTop (mkF m 22 #[.val (.ref a1), .val (.int p2), .val (.int (2 : Int32))] [(.int (2 : Int32))]))
        exact own_retI X0 hx Bd.returns (hb hby d3_22) hlk ⟨by rw [show own_out p2 [x0, x1, x2, x3] = (2 : Int32) from by simp only [own_out, hc10, hc11, hc12, if_true, if_false]; rfl], NF, e0⟩ (by decide) (by decide)
    · refine own_go (fun _ kt => XS.icmpYes X0.here hx rfl (pc0 := 12) (pc' := 21) rfl (hb hby d3_12) rfl (flt hc11).2.1 (by decide) (by decide) kt) ?_
      show own_R _ _ _ _ (s₁.setTop (mkF m 21 #[.val (.ref a1), .val (.int p2), .val (.int (1 : Int32))] []))
      refine own_go (fun _ kt => XS.iloadN X0.here hx rfl (hb hby d3_21) rfl kt) ?_
      show own_R _ _ _ _ (s₁.setTop (mkF m 22 #[.val (.ref a1), .val (.int p2), .val (.int (1 : Int32))] [(.int (1 : Int32))]))
      exact own_retI X0 hx Bd.returns (hb hby d3_22) hlk ⟨by rw [show own_out p2 [x0, x1, x2, x3] = (1 : Int32) from by simp only [own_out, hc10, hc11, if_true, if_false]; rfl], NF, e0⟩ (by decide) (by decide)
  · refine own_go (fun _ kt => XS.icmpYes X0.here hx rfl (pc0 := 12) (pc' := 21) rfl (hb hby d3_12) rfl (flt hc10).2.1 (by decide) (by decide) kt) ?_
    show own_R _ _ _ _ (s₁.setTop (mkF m 21 #[.val (.ref a1), .val (.int p2), .val (.int (0 : Int32))] []))
    refine own_go (fun _ kt => XS.iloadN X0.here hx rfl (hb hby d3_21) rfl kt) ?_
    show own_R _ _ _ _ (s₁.setTop (mkF m 22 #[.val (.ref a1), .val (.int p2), .val (.int (0 : Int32))] [(.int (0 : Int32))]))
    exact own_retI X0 hx Bd.returns (hb hby d3_22) hlk ⟨by rw [show own_out p2 [x0, x1, x2, x3] = (0 : Int32) from by simp only [own_out, hc10, if_true, if_false]], NF, e0⟩ (by decide) (by decide)
theorem own_law0 (f  : Int32)  : own_out f [] = (0 : Int32) := by
  rfl
theorem own_law1 (f s0 : Int32)  : own_out f [s0] = ((0 : Int32) + (own_blw s0 f)) := by
  simp only [own_out, own_blw]
  by_cases c0 : s0 < f <;> (simp only [c0, if_true, if_false]; try rfl)
theorem own_law2 (f s0 s1 : Int32) (h0 : ¬ s1 < s0) : own_out f [s0, s1] = (((0 : Int32) + (own_blw s0 f)) + (own_blw s1 f)) := by
  simp only [own_out, own_blw]
  have i0 : s1 < f → s0 < f := own_lt_of h0
  by_cases c0 : s0 < f <;> by_cases c1 : s1 < f <;> first | (exfalso; first | exact c0 (i0 c1) ) | (simp only [c0, c1, if_true, if_false]; try rfl)
theorem own_law3 (f s0 s1 s2 : Int32) (h0 : ¬ s1 < s0) (h1 : ¬ s2 < s1) : own_out f [s0, s1, s2] = ((((0 : Int32) + (own_blw s0 f)) + (own_blw s1 f)) + (own_blw s2 f)) := by
  simp only [own_out, own_blw]
  have i0 : s1 < f → s0 < f := own_lt_of h0
  have i1 : s2 < f → s1 < f := own_lt_of h1
  by_cases c0 : s0 < f <;> by_cases c1 : s1 < f <;> by_cases c2 : s2 < f <;> first | (exfalso; first | exact c0 (i0 c1) | exact c1 (i1 c2) ) | (simp only [c0, c1, c2, if_true, if_false]; try rfl)
theorem own_law4 (f s0 s1 s2 s3 : Int32) (h0 : ¬ s1 < s0) (h1 : ¬ s2 < s1) (h2 : ¬ s3 < s2) : own_out f [s0, s1, s2, s3] = (((((0 : Int32) + (own_blw s0 f)) + (own_blw s1 f)) + (own_blw s2 f)) + (own_blw s3 f)) := by
  simp only [own_out, own_blw]
  have i0 : s1 < f → s0 < f := own_lt_of h0
  have i1 : s2 < f → s1 < f := own_lt_of h1
  have i2 : s3 < f → s2 < f := own_lt_of h2
  by_cases c0 : s0 < f <;> by_cases c1 : s1 < f <;> by_cases c2 : s2 < f <;> by_cases c3 : s3 < f <;> first | (exfalso; first | exact c0 (i0 c1) | exact c1 (i1 c2) | exact c2 (i2 c3) ) | (simp only [c0, c1, c2, c3, if_true, if_false]; try rfl)
theorem ef_0 (m : MethodId) (x0 : Int32) (x1 : Int32) (x2 : Int32) (x3 : Int32) (x4 : Int32) (x5 : Int32) : entryFrame m #[(.int x0), (.int x1), (.int x2), (.int x3), (.int x4), (.int x5)] maxLocals = mkF m 0 #[.val (.int x0), .val (.int x1), .val (.int x2), .val (.int x3), .val (.int x4), .val (.int x5), .unset, .unset, .unset, .unset, .unset, .unset, .unset, .unset, .unset, .unset, .unset, .unset, .unset, .unset, .unset, .unset] [] := by first | (simp [entryFrame, mkF, argsToLocals, Value.category, maxLocals]; done) | rfl
def Q0 (Z : State) (p1 : Int32) (ff : Int32) (q3 : Int32) (q4 : Int32) (q5 : Int32) (q6 : Int32) (h0 : Heap) (n0 : Nat) (v : Option Value) (h : Heap) (L : List Loc) : Prop := v = some (.int 1) ∧ Fr n0 L
set_option maxRecDepth 65536 in
set_option maxHeartbeats 40000000 in
theorem rm0 (l : Launch) (Z : State) (a0 : Array Value) (hw : ∀ d ∈ tables_1, d.before a0 Z = true) (ws : List Jvm.Cond) (p1 : Int32) (ff : Int32) (q3 : Int32) (q4 : Int32) (q5 : Int32) (q6 : Int32) (h0 : Heap) (n0 : Nat) (ZS : n0 ≤ h0.size) :
    MetFree l x (head1 (Jvm.Cond.code x code maxLocals ret :: ws) room_1) (fun a U => a = #[(.int p1), (.int ff), (.int q3), (.int q4), (.int q5), (.int q6)] ∧ Z.Warmed39 U.vm ∧ U.heap = h0) (fun _ _ _ _ _ => True) (fun _ U o U' => ∃ v L, o = .returned v ∧ Q0 Z p1 ff q3 q4 q5 q6 h0 n0 v U'.heap L ∧ FrameEnd U o U' L 16 128) := by
  refine MetFree.of_bodySF (plainFor_of_name pn_4) hisR ?_
  intro p e s m args below meth c s₁ Bd hml0 hP hK
  obtain ⟨rfl, hZ, hh⟩ := hP
  have hx := Bd.exec
  have hby := Bd.bytes
  have hml : c.maxLocals = 22 := hml0
  have hown : s.vm.findClass "com/example/parametree/parametree/ExpressionOuterPinLaw" = some m.cls := findClass_of_methodNamed Bd.named
  have hnm := (name_of_methodNamed Bd.named Bd.method).1
  have hlk : meth.locks = false := Bd.notSynchronized
  have X0 : Stand p l e room_1 s m #[(.int p1), (.int ff), (.int q3), (.int q4), (.int q5), (.int q6)] below meth c s₁ [] 0 0 := Stand.of_body Bd
  have e0 : s₁.heap = h0 := by rw [← hh, Bd.state]; rfl
  have NF := Fr.nil n0
  have KP : Keep h0 h0 [] := Keep.refl _ _
  refine own_fin (s := s) (Q := Q0 Z p1 ff q3 q4 q5 q6 h0 n0) (rc := 16) (rs := 128) ?_
  refine own_go (fun _ kt => castTop (ef_0 m p1 ff q3 q4 q5 q6) kt) ?_
  show own_R _ _ _ _ (s₁.setTop (mkF m 0 #[.val (.int p1), .val (.int ff), .val (.int q3), .val (.int q4), .val (.int q5), .val (.int q6), .unset, .unset, .unset, .unset, .unset, .unset, .unset, .unset, .unset, .unset, .unset, .unset, .unset, .unset, .unset, .unset] []))
  refine own_go (fun _ kt => XS.iloadN X0.here hx rfl (hb hby at_0) rfl kt) ?_
  show own_R _ _ _ _ (s₁.setTop (mkF m 1 #[.val (.int p1), .val (.int ff), .val (.int q3), .val (.int q4), .val (.int q5), .val (.int q6), .unset, .unset, .unset, .unset, .unset, .unset, .unset, .unset, .unset, .unset, .unset, .unset, .unset, .unset, .unset, .unset] [(.int p1)]))
  refine own_go (X0.ldcInt hx hown (mvT hZ (hw _ (List.mem_of_getElem? (i := 0) rfl))) (g := (mkF m 1 #[.val (.int p1), .val (.int ff), .val (.int q3), .val (.int q4), .val (.int q5), .val (.int q6), .unset, .unset, .unset, .unset, .unset, .unset, .unset, .unset, .unset, .unset, .unset, .unset, .unset, .unset, .unset, .unset] [(.int p1)])) rfl (hb hby at_1)) ?_
  show own_R _ _ _ _ (s₁.setTop (mkF m 3 #[.val (.int p1), .val (.int ff), .val (.int q3), .val (.int q4), .val (.int q5), .val (.int q6), .unset, .unset, .unset, .unset, .unset, .unset, .unset, .unset, .unset, .unset, .unset, .unset, .unset, .unset, .unset, .unset] [(.int (2147483647 : Int32)), (.int p1)]))
  refine own_go (fun _ kt => XS.iand X0.here hx rfl (hb hby at_3) rfl kt) ?_
  show own_R _ _ _ _ (s₁.setTop (mkF m 4 #[.val (.int p1), .val (.int ff), .val (.int q3), .val (.int q4), .val (.int q5), .val (.int q6), .unset, .unset, .unset, .unset, .unset, .unset, .unset, .unset, .unset, .unset, .unset, .unset, .unset, .unset, .unset, .unset] [(.int (p1 &&& (2147483647 : Int32)))]))
  refine own_go (fun _ kt => XS.iconst X0.here hx rfl (hb hby at_4) kt) ?_
  show own_R _ _ _ _ (s₁.setTop (mkF m 5 #[.val (.int p1), .val (.int ff), .val (.int q3), .val (.int q4), .val (.int q5), .val (.int q6), .unset, .unset, .unset, .unset, .unset, .unset, .unset, .unset, .unset, .unset, .unset, .unset, .unset, .unset, .unset, .unset] [(.int (5 : Int32)), (.int (p1 &&& (2147483647 : Int32)))]))
  refine own_go (fun _ kt => iremM X0 hx rfl (hb hby at_5) rfl (by decide) kt) ?_
  show own_R _ _ _ _ (s₁.setTop (mkF m 6 #[.val (.int p1), .val (.int ff), .val (.int q3), .val (.int q4), .val (.int q5), .val (.int q6), .unset, .unset, .unset, .unset, .unset, .unset, .unset, .unset, .unset, .unset, .unset, .unset, .unset, .unset, .unset, .unset] [(.int ((p1 &&& (2147483647 : Int32)) % (5 : Int32)))]))
  refine own_go (fun _ kt => XS.istore X0.here hx rfl (hb hby at_6) rfl (l' := #[.val (.int p1), .val (.int ff), .val (.int q3), .val (.int q4), .val (.int q5), .val (.int q6), .val (.int ((p1 &&& (2147483647 : Int32)) % (5 : Int32))), .unset, .unset, .unset, .unset, .unset, .unset, .unset, .unset, .unset, .unset, .unset, .unset, .unset, .unset, .unset]) rfl kt) ?_
  show own_R _ _ _ _ (s₁.setTop (mkF m 8 #[.val (.int p1), .val (.int ff), .val (.int q3), .val (.int q4), .val (.int q5), .val (.int q6), .val (.int ((p1 &&& (2147483647 : Int32)) % (5 : Int32))), .unset, .unset, .unset, .unset, .unset, .unset, .unset, .unset, .unset, .unset, .unset, .unset, .unset, .unset, .unset] []))
  generalize hnn : ((p1 &&& (2147483647 : Int32)) % (5 : Int32)) = nn
  show own_R _ _ _ _ (s₁.setTop (mkF m 8 #[.val (.int p1), .val (.int ff), .val (.int q3), .val (.int q4), .val (.int q5), .val (.int q6), .val (.int nn), .unset, .unset, .unset, .unset, .unset, .unset, .unset, .unset, .unset, .unset, .unset, .unset, .unset, .unset, .unset] []))
  refine own_go (fun _ kt => XS.iloadN X0.here hx rfl (hb hby at_8) rfl kt) ?_
  show own_R _ _ _ _ (s₁.setTop (mkF m 9 #[.val (.int p1), .val (.int ff), .val (.int q3), .val (.int q4), .val (.int q5), .val (.int q6), .val (.int nn), .unset, .unset, .unset, .unset, .unset, .unset, .unset, .unset, .unset, .unset, .unset, .unset, .unset, .unset, .unset] [(.int q3)]))
  refine own_go (fun _ kt => XS.iloadN X0.here hx rfl (hb hby at_9) rfl kt) ?_
  show own_R _ _ _ _ (s₁.setTop (mkF m 10 #[.val (.int p1), .val (.int ff), .val (.int q3), .val (.int q4), .val (.int q5), .val (.int q6), .val (.int nn), .unset, .unset, .unset, .unset, .unset, .unset, .unset, .unset, .unset, .unset, .unset, .unset, .unset, .unset, .unset] [(.int q4), (.int q3)]))
  obtain ⟨_, _, ⟨T14, L14, k14, n14⟩, -, X14, ⟨Lc14, hQ14, l14, y14, z14⟩, st14⟩ := Jvm.LawKit.callS X0 hx (y := (⟨"java/lang/Math", "min", "(II)I"⟩ : MethodName)) hown (mvT hZ (hw _ (List.mem_of_getElem? (i := 1) rfl))) (mvT hZ (hw _ (List.mem_of_getElem? (i := 2) rfl))) (mvT hZ (hw _ (List.mem_of_getElem? (i := 3) rfl))) (mvT hZ (hw _ (List.mem_of_getElem? (i := 4) rfl))) (by decide) (backOf (W := 0) (rm1 l Z a0 hw [] q3 q4 h0 n0 ZS) hZ (hw _ (List.mem_of_getElem? (i := 4) rfl)) (hw _ (List.mem_of_getElem? (i := 3) rfl)) (by decide) (by decide)) (g := (mkF m 10 #[.val (.int p1), .val (.int ff), .val (.int q3), .val (.int q4), .val (.int q5), .val (.int q6), .val (.int nn), .unset, .unset, .unset, .unset, .unset, .unset, .unset, .unset, .unset, .unset, .unset, .unset, .unset, .unset, .unset] [(.int q4), (.int q3)])) rfl (by rw [hml]; rfl) (argsL := [(.int q3), (.int q4)]) (rest := []) (lenOf pd_0 rfl) rfl (by show 2 * 0 + _ ≤ _; exact Nat.le_of_eq rfl) (hb hby at_10) (fun _ _ => ⟨rfl, e0, (by decide : 0 + 0 ≤ _), (by decide : 0 + 0 ≤ _)⟩)
  dsimp only [Pt.U, Pt.locs, Pt.cells, Pt.slots] at X14 l14 y14 z14 st14 hQ14
  subst l14 y14 z14
  obtain ⟨rfl, N14q, e14⟩ := hQ14
  have NF := Fr.app NF N14q
  refine own_go st14 ?_
  show own_R _ _ _ _ (T14.setTop (mkF m 13 #[.val (.int p1), .val (.int ff), .val (.int q3), .val (.int q4), .val (.int q5), .val (.int q6), .val (.int nn), .unset, .unset, .unset, .unset, .unset, .unset, .unset, .unset, .unset, .unset, .unset, .unset, .unset, .unset, .unset] [(.int (own_min q3 q4))]))
  refine own_go (fun _ kt => XS.istore X14.here hx rfl (hb hby at_13) rfl (l' := #[.val (.int p1), .val (.int ff), .val (.int q3), .val (.int q4), .val (.int q5), .val (.int q6), .val (.int nn), .val (.int (own_min q3 q4)), .unset, .unset, .unset, .unset, .unset, .unset, .unset, .unset, .unset, .unset, .unset, .unset, .unset, .unset]) rfl kt) ?_
  show own_R _ _ _ _ (T14.setTop (mkF m 15 #[.val (.int p1), .val (.int ff), .val (.int q3), .val (.int q4), .val (.int q5), .val (.int q6), .val (.int nn), .val (.int (own_min q3 q4)), .unset, .unset, .unset, .unset, .unset, .unset, .unset, .unset, .unset, .unset, .unset, .unset, .unset, .unset] []))
  generalize hx0 : (own_min q3 q4) = x0
  show own_R _ _ _ _ (T14.setTop (mkF m 15 #[.val (.int p1), .val (.int ff), .val (.int q3), .val (.int q4), .val (.int q5), .val (.int q6), .val (.int nn), .val (.int x0), .unset, .unset, .unset, .unset, .unset, .unset, .unset, .unset, .unset, .unset, .unset, .unset, .unset, .unset] []))
  refine own_go (fun _ kt => XS.iloadN X14.here hx rfl (hb hby at_15) rfl kt) ?_
  show own_R _ _ _ _ (T14.setTop (mkF m 16 #[.val (.int p1), .val (.int ff), .val (.int q3), .val (.int q4), .val (.int q5), .val (.int q6), .val (.int nn), .val (.int x0), .unset, .unset, .unset, .unset, .unset, .unset, .unset, .unset, .unset, .unset, .unset, .unset, .unset, .unset] [(.int q3)]))
  refine own_go (fun _ kt => XS.iloadN X14.here hx rfl (hb hby at_16) rfl kt) ?_
  show own_R _ _ _ _ (T14.setTop (mkF m 17 #[.val (.int p1), .val (.int ff), .val (.int q3), .val (.int q4), .val (.int q5), .val (.int q6), .val (.int nn), .val (.int x0), .unset, .unset, .unset, .unset, .unset, .unset, .unset, .unset, .unset, .unset, .unset, .unset, .unset, .unset] [(.int q4), (.int q3)]))
  obtain ⟨_, _, ⟨T15, L15, k15, n15⟩, -, X15, ⟨Lc15, hQ15, l15, y15, z15⟩, st15⟩ := Jvm.LawKit.callS X14 hx (y := (⟨"java/lang/Math", "max", "(II)I"⟩ : MethodName)) hown (mvT hZ (hw _ (List.mem_of_getElem? (i := 5) rfl))) (mvT hZ (hw _ (List.mem_of_getElem? (i := 6) rfl))) (mvT hZ (hw _ (List.mem_of_getElem? (i := 3) rfl))) (mvT hZ (hw _ (List.mem_of_getElem? (i := 7) rfl))) (by decide) (backOf (W := 0) (rm2 l Z a0 hw [] q3 q4 h0 n0 ZS) hZ (hw _ (List.mem_of_getElem? (i := 7) rfl)) (hw _ (List.mem_of_getElem? (i := 3) rfl)) (by decide) (by decide)) (g := (mkF m 17 #[.val (.int p1), .val (.int ff), .val (.int q3), .val (.int q4), .val (.int q5), .val (.int q6), .val (.int nn), .val (.int x0), .unset, .unset, .unset, .unset, .unset, .unset, .unset, .unset, .unset, .unset, .unset, .unset, .unset, .unset] [(.int q4), (.int q3)])) rfl (by rw [hml]; rfl) (argsL := [(.int q3), (.int q4)]) (rest := []) (lenOf pd_0 rfl) rfl (by show 2 * 0 + _ ≤ _; exact Nat.le_of_eq rfl) (hb hby at_17) (fun _ _ => ⟨rfl, e14, (by decide : 0 + 0 ≤ _), (by decide : 0 + 0 ≤ _)⟩)
  dsimp only [Pt.U, Pt.locs, Pt.cells, Pt.slots] at X15 l15 y15 z15 st15 hQ15
  subst l15 y15 z15
  obtain ⟨rfl, N15q, e15⟩ := hQ15
  have NF := Fr.app NF N15q
  refine own_go st15 ?_
  show own_R _ _ _ _ (T15.setTop (mkF m 20 #[.val (.int p1), .val (.int ff), .val (.int q3), .val (.int q4), .val (.int q5), .val (.int q6), .val (.int nn), .val (.int x0), .unset, .unset, .unset, .unset, .unset, .unset, .unset, .unset, .unset, .unset, .unset, .unset, .unset, .unset] [(.int (own_max q3 q4))]))
  refine own_go (fun _ kt => XS.istore X15.here hx rfl (hb hby at_20) rfl (l' := #[.val (.int p1), .val (.int ff), .val (.int q3), .val (.int q4), .val (.int q5), .val (.int q6), .val (.int nn), .val (.int x0), .val (.int (own_max q3 q4)), .unset, .unset, .unset, .unset, .unset, .unset, .unset, .unset, .unset, .unset, .unset, .unset, .unset]) rfl kt) ?_
  show own_R _ _ _ _ (T15.setTop (mkF m 22 #[.val (.int p1), .val (.int ff), .val (.int q3), .val (.int q4), .val (.int q5), .val (.int q6), .val (.int nn), .val (.int x0), .val (.int (own_max q3 q4)), .unset, .unset, .unset, .unset, .unset, .unset, .unset, .unset, .unset, .unset, .unset, .unset, .unset] []))
  generalize hx1 : (own_max q3 q4) = x1
  show own_R _ _ _ _ (T15.setTop (mkF m 22 #[.val (.int p1), .val (.int ff), .val (.int q3), .val (.int q4), .val (.int q5), .val (.int q6), .val (.int nn), .val (.int x0), .val (.int x1), .unset, .unset, .unset, .unset, .unset, .unset, .unset, .unset, .unset, .unset, .unset, .unset, .unset] []))
  refine own_go (fun _ kt => XS.iload X15.here hx rfl (hb hby at_22) rfl kt) ?_
  show own_R _ _ _ _ (T15.setTop (mkF m 24 #[.val (.int p1), .val (.int ff), .val (.int q3), .val (.int q4), .val (.int q5), .val (.int q6), .val (.int nn), .val (.int x0), .val (.int x1), .unset, .unset, .unset, .unset, .unset, .unset, .unset, .unset, .unset, .unset, .unset, .unset, .unset] [(.int q5)]))
  refine own_go (fun _ kt => XS.iload X15.here hx rfl (hb hby at_24) rfl kt) ?_
  show own_R _ _ _ _ (T15.setTop (mkF m 26 #[.val (.int p1), .val (.int ff), .val (.int q3), .val (.int q4), .val (.int q5), .val (.int q6), .val (.int nn), .val (.int x0), .val (.int x1), .unset, .unset, .unset, .unset, .unset, .unset, .unset, .unset, .unset, .unset, .unset, .unset, .unset] [(.int q6), (.int q5)]))
  obtain ⟨_, _, ⟨T16, L16, k16, n16⟩, -, X16, ⟨Lc16, hQ16, l16, y16, z16⟩, st16⟩ := Jvm.LawKit.callS X15 hx (y := (⟨"java/lang/Math", "min", "(II)I"⟩ : MethodName)) hown (mvT hZ (hw _ (List.mem_of_getElem? (i := 1) rfl))) (mvT hZ (hw _ (List.mem_of_getElem? (i := 2) rfl))) (mvT hZ (hw _ (List.mem_of_getElem? (i := 3) rfl))) (mvT hZ (hw _ (List.mem_of_getElem? (i := 4) rfl))) (by decide) (backOf (W := 0) (rm1 l Z a0 hw [] q5 q6 h0 n0 ZS) hZ (hw _ (List.mem_of_getElem? (i := 4) rfl)) (hw _ (List.mem_of_getElem? (i := 3) rfl)) (by decide) (by decide)) (g := (mkF m 26 #[.val (.int p1), .val (.int ff), .val (.int q3), .val (.int q4), .val (.int q5), .val (.int q6), .val (.int nn), .val (.int x0), .val (.int x1), .unset, .unset, .unset, .unset, .unset, .unset, .unset, .unset, .unset, .unset, .unset, .unset, .unset] [(.int q6), (.int q5)])) rfl (by rw [hml]; rfl) (argsL := [(.int q5), (.int q6)]) (rest := []) (lenOf pd_0 rfl) rfl (by show 2 * 0 + _ ≤ _; exact Nat.le_of_eq rfl) (hb hby at_26) (fun _ _ => ⟨rfl, e15, (by decide : 0 + 0 ≤ _), (by decide : 0 + 0 ≤ _)⟩)
  dsimp only [Pt.U, Pt.locs, Pt.cells, Pt.slots] at X16 l16 y16 z16 st16 hQ16
  subst l16 y16 z16
  obtain ⟨rfl, N16q, e16⟩ := hQ16
  have NF := Fr.app NF N16q
  refine own_go st16 ?_
  show own_R _ _ _ _ (T16.setTop (mkF m 29 #[.val (.int p1), .val (.int ff), .val (.int q3), .val (.int q4), .val (.int q5), .val (.int q6), .val (.int nn), .val (.int x0), .val (.int x1), .unset, .unset, .unset, .unset, .unset, .unset, .unset, .unset, .unset, .unset, .unset, .unset, .unset] [(.int (own_min q5 q6))]))
  refine own_go (fun _ kt => XS.istore X16.here hx rfl (hb hby at_29) rfl (l' := #[.val (.int p1), .val (.int ff), .val (.int q3), .val (.int q4), .val (.int q5), .val (.int q6), .val (.int nn), .val (.int x0), .val (.int x1), .val (.int (own_min q5 q6)), .unset, .unset, .unset, .unset, .unset, .unset, .unset, .unset, .unset, .unset, .unset, .unset]) rfl kt) ?_
  show own_R _ _ _ _ (T16.setTop (mkF m 31 #[.val (.int p1), .val (.int ff), .val (.int q3), .val (.int q4), .val (.int q5), .val (.int q6), .val (.int nn), .val (.int x0), .val (.int x1), .val (.int (own_min q5 q6)), .unset, .unset, .unset, .unset, .unset, .unset, .unset, .unset, .unset, .unset, .unset, .unset] []))
  generalize hx2 : (own_min q5 q6) = x2
  show own_R _ _ _ _ (T16.setTop (mkF m 31 #[.val (.int p1), .val (.int ff), .val (.int q3), .val (.int q4), .val (.int q5), .val (.int q6), .val (.int nn), .val (.int x0), .val (.int x1), .val (.int x2), .unset, .unset, .unset, .unset, .unset, .unset, .unset, .unset, .unset, .unset, .unset, .unset] []))
  refine own_go (fun _ kt => XS.iload X16.here hx rfl (hb hby at_31) rfl kt) ?_
  show own_R _ _ _ _ (T16.setTop (mkF m 33 #[.val (.int p1), .val (.int ff), .val (.int q3), .val (.int q4), .val (.int q5), .val (.int q6), .val (.int nn), .val (.int x0), .val (.int x1), .val (.int x2), .unset, .unset, .unset, .unset, .unset, .unset, .unset, .unset, .unset, .unset, .unset, .unset] [(.int q5)]))
  refine own_go (fun _ kt => XS.iload X16.here hx rfl (hb hby at_33) rfl kt) ?_
  show own_R _ _ _ _ (T16.setTop (mkF m 35 #[.val (.int p1), .val (.int ff), .val (.int q3), .val (.int q4), .val (.int q5), .val (.int q6), .val (.int nn), .val (.int x0), .val (.int x1), .val (.int x2), .unset, .unset, .unset, .unset, .unset, .unset, .unset, .unset, .unset, .unset, .unset, .unset] [(.int q6), (.int q5)]))
  obtain ⟨_, _, ⟨T17, L17, k17, n17⟩, -, X17, ⟨Lc17, hQ17, l17, y17, z17⟩, st17⟩ := Jvm.LawKit.callS X16 hx (y := (⟨"java/lang/Math", "max", "(II)I"⟩ : MethodName)) hown (mvT hZ (hw _ (List.mem_of_getElem? (i := 5) rfl))) (mvT hZ (hw _ (List.mem_of_getElem? (i := 6) rfl))) (mvT hZ (hw _ (List.mem_of_getElem? (i := 3) rfl))) (mvT hZ (hw _ (List.mem_of_getElem? (i := 7) rfl))) (by decide) (backOf (W := 0) (rm2 l Z a0 hw [] q5 q6 h0 n0 ZS) hZ (hw _ (List.mem_of_getElem? (i := 7) rfl)) (hw _ (List.mem_of_getElem? (i := 3) rfl)) (by decide) (by decide)) (g := (mkF m 35 #[.val (.int p1), .val (.int ff), .val (.int q3), .val (.int q4), .val (.int q5), .val (.int q6), .val (.int nn), .val (.int x0), .val (.int x1), .val (.int x2), .unset, .unset, .unset, .unset, .unset, .unset, .unset, .unset, .unset, .unset, .unset, .unset] [(.int q6), (.int q5)])) rfl (by rw [hml]; rfl) (argsL := [(.int q5), (.int q6)]) (rest := []) (lenOf pd_0 rfl) rfl (by show 2 * 0 + _ ≤ _; exact Nat.le_of_eq rfl) (hb hby at_35) (fun _ _ => ⟨rfl, e16, (by decide : 0 + 0 ≤ _), (by decide : 0 + 0 ≤ _)⟩)
  dsimp only [Pt.U, Pt.locs, Pt.cells, Pt.slots] at X17 l17 y17 z17 st17 hQ17
  subst l17 y17 z17
  obtain ⟨rfl, N17q, e17⟩ := hQ17
  have NF := Fr.app NF N17q
  refine own_go st17 ?_
  show own_R _ _ _ _ (T17.setTop (mkF m 38 #[.val (.int p1), .val (.int ff), .val (.int q3), .val (.int q4), .val (.int q5), .val (.int q6), .val (.int nn), .val (.int x0), .val (.int x1), .val (.int x2), .unset, .unset, .unset, .unset, .unset, .unset, .unset, .unset, .unset, .unset, .unset, .unset] [(.int (own_max q5 q6))]))
  refine own_go (fun _ kt => XS.istore X17.here hx rfl (hb hby at_38) rfl (l' := #[.val (.int p1), .val (.int ff), .val (.int q3), .val (.int q4), .val (.int q5), .val (.int q6), .val (.int nn), .val (.int x0), .val (.int x1), .val (.int x2), .val (.int (own_max q5 q6)), .unset, .unset, .unset, .unset, .unset, .unset, .unset, .unset, .unset, .unset, .unset]) rfl kt) ?_
  show own_R _ _ _ _ (T17.setTop (mkF m 40 #[.val (.int p1), .val (.int ff), .val (.int q3), .val (.int q4), .val (.int q5), .val (.int q6), .val (.int nn), .val (.int x0), .val (.int x1), .val (.int x2), .val (.int (own_max q5 q6)), .unset, .unset, .unset, .unset, .unset, .unset, .unset, .unset, .unset, .unset, .unset] []))
  generalize hx3 : (own_max q5 q6) = x3
  show own_R _ _ _ _ (T17.setTop (mkF m 40 #[.val (.int p1), .val (.int ff), .val (.int q3), .val (.int q4), .val (.int q5), .val (.int q6), .val (.int nn), .val (.int x0), .val (.int x1), .val (.int x2), .val (.int x3), .unset, .unset, .unset, .unset, .unset, .unset, .unset, .unset, .unset, .unset, .unset] []))
  refine own_go (fun _ kt => XS.iload X17.here hx rfl (hb hby at_40) rfl kt) ?_
  show own_R _ _ _ _ (T17.setTop (mkF m 42 #[.val (.int p1), .val (.int ff), .val (.int q3), .val (.int q4), .val (.int q5), .val (.int q6), .val (.int nn), .val (.int x0), .val (.int x1), .val (.int x2), .val (.int x3), .unset, .unset, .unset, .unset, .unset, .unset, .unset, .unset, .unset, .unset, .unset] [(.int x0)]))
  refine own_go (fun _ kt => XS.iload X17.here hx rfl (hb hby at_42) rfl kt) ?_
  show own_R _ _ _ _ (T17.setTop (mkF m 44 #[.val (.int p1), .val (.int ff), .val (.int q3), .val (.int q4), .val (.int q5), .val (.int q6), .val (.int nn), .val (.int x0), .val (.int x1), .val (.int x2), .val (.int x3), .unset, .unset, .unset, .unset, .unset, .unset, .unset, .unset, .unset, .unset, .unset] [(.int x2), (.int x0)]))
  obtain ⟨_, _, ⟨T18, L18, k18, n18⟩, -, X18, ⟨Lc18, hQ18, l18, y18, z18⟩, st18⟩ := Jvm.LawKit.callS X17 hx (y := (⟨"java/lang/Math", "min", "(II)I"⟩ : MethodName)) hown (mvT hZ (hw _ (List.mem_of_getElem? (i := 1) rfl))) (mvT hZ (hw _ (List.mem_of_getElem? (i := 2) rfl))) (mvT hZ (hw _ (List.mem_of_getElem? (i := 3) rfl))) (mvT hZ (hw _ (List.mem_of_getElem? (i := 4) rfl))) (by decide) (backOf (W := 0) (rm1 l Z a0 hw [] x0 x2 h0 n0 ZS) hZ (hw _ (List.mem_of_getElem? (i := 4) rfl)) (hw _ (List.mem_of_getElem? (i := 3) rfl)) (by decide) (by decide)) (g := (mkF m 44 #[.val (.int p1), .val (.int ff), .val (.int q3), .val (.int q4), .val (.int q5), .val (.int q6), .val (.int nn), .val (.int x0), .val (.int x1), .val (.int x2), .val (.int x3), .unset, .unset, .unset, .unset, .unset, .unset, .unset, .unset, .unset, .unset, .unset] [(.int x2), (.int x0)])) rfl (by rw [hml]; rfl) (argsL := [(.int x0), (.int x2)]) (rest := []) (lenOf pd_0 rfl) rfl (by show 2 * 0 + _ ≤ _; exact Nat.le_of_eq rfl) (hb hby at_44) (fun _ _ => ⟨rfl, e17, (by decide : 0 + 0 ≤ _), (by decide : 0 + 0 ≤ _)⟩)
  dsimp only [Pt.U, Pt.locs, Pt.cells, Pt.slots] at X18 l18 y18 z18 st18 hQ18
  subst l18 y18 z18
  obtain ⟨rfl, N18q, e18⟩ := hQ18
  have NF := Fr.app NF N18q
  refine own_go st18 ?_
  show own_R _ _ _ _ (T18.setTop (mkF m 47 #[.val (.int p1), .val (.int ff), .val (.int q3), .val (.int q4), .val (.int q5), .val (.int q6), .val (.int nn), .val (.int x0), .val (.int x1), .val (.int x2), .val (.int x3), .unset, .unset, .unset, .unset, .unset, .unset, .unset, .unset, .unset, .unset, .unset] [(.int (own_min x0 x2))]))
  refine own_go (fun _ kt => XS.istore X18.here hx rfl (hb hby at_47) rfl (l' := #[.val (.int p1), .val (.int ff), .val (.int q3), .val (.int q4), .val (.int q5), .val (.int q6), .val (.int nn), .val (.int x0), .val (.int x1), .val (.int x2), .val (.int x3), .val (.int (own_min x0 x2)), .unset, .unset, .unset, .unset, .unset, .unset, .unset, .unset, .unset, .unset]) rfl kt) ?_
  show own_R _ _ _ _ (T18.setTop (mkF m 49 #[.val (.int p1), .val (.int ff), .val (.int q3), .val (.int q4), .val (.int q5), .val (.int q6), .val (.int nn), .val (.int x0), .val (.int x1), .val (.int x2), .val (.int x3), .val (.int (own_min x0 x2)), .unset, .unset, .unset, .unset, .unset, .unset, .unset, .unset, .unset, .unset] []))
  generalize hy0 : (own_min x0 x2) = y0
  show own_R _ _ _ _ (T18.setTop (mkF m 49 #[.val (.int p1), .val (.int ff), .val (.int q3), .val (.int q4), .val (.int q5), .val (.int q6), .val (.int nn), .val (.int x0), .val (.int x1), .val (.int x2), .val (.int x3), .val (.int y0), .unset, .unset, .unset, .unset, .unset, .unset, .unset, .unset, .unset, .unset] []))
  refine own_go (fun _ kt => XS.iload X18.here hx rfl (hb hby at_49) rfl kt) ?_
  show own_R _ _ _ _ (T18.setTop (mkF m 51 #[.val (.int p1), .val (.int ff), .val (.int q3), .val (.int q4), .val (.int q5), .val (.int q6), .val (.int nn), .val (.int x0), .val (.int x1), .val (.int x2), .val (.int x3), .val (.int y0), .unset, .unset, .unset, .unset, .unset, .unset, .unset, .unset, .unset, .unset] [(.int x0)]))
  refine own_go (fun _ kt => XS.iload X18.here hx rfl (hb hby at_51) rfl kt) ?_
  show own_R _ _ _ _ (T18.setTop (mkF m 53 #[.val (.int p1), .val (.int ff), .val (.int q3), .val (.int q4), .val (.int q5), .val (.int q6), .val (.int nn), .val (.int x0), .val (.int x1), .val (.int x2), .val (.int x3), .val (.int y0), .unset, .unset, .unset, .unset, .unset, .unset, .unset, .unset, .unset, .unset] [(.int x2), (.int x0)]))
  obtain ⟨_, _, ⟨T19, L19, k19, n19⟩, -, X19, ⟨Lc19, hQ19, l19, y19, z19⟩, st19⟩ := Jvm.LawKit.callS X18 hx (y := (⟨"java/lang/Math", "max", "(II)I"⟩ : MethodName)) hown (mvT hZ (hw _ (List.mem_of_getElem? (i := 5) rfl))) (mvT hZ (hw _ (List.mem_of_getElem? (i := 6) rfl))) (mvT hZ (hw _ (List.mem_of_getElem? (i := 3) rfl))) (mvT hZ (hw _ (List.mem_of_getElem? (i := 7) rfl))) (by decide) (backOf (W := 0) (rm2 l Z a0 hw [] x0 x2 h0 n0 ZS) hZ (hw _ (List.mem_of_getElem? (i := 7) rfl)) (hw _ (List.mem_of_getElem? (i := 3) rfl)) (by decide) (by decide)) (g := (mkF m 53 #[.val (.int p1), .val (.int ff), .val (.int q3), .val (.int q4), .val (.int q5), .val (.int q6), .val (.int nn), .val (.int x0), .val (.int x1), .val (.int x2), .val (.int x3), .val (.int y0), .unset, .unset, .unset, .unset, .unset, .unset, .unset, .unset, .unset, .unset] [(.int x2), (.int x0)])) rfl (by rw [hml]; rfl) (argsL := [(.int x0), (.int x2)]) (rest := []) (lenOf pd_0 rfl) rfl (by show 2 * 0 + _ ≤ _; exact Nat.le_of_eq rfl) (hb hby at_53) (fun _ _ => ⟨rfl, e18, (by decide : 0 + 0 ≤ _), (by decide : 0 + 0 ≤ _)⟩)
  dsimp only [Pt.U, Pt.locs, Pt.cells, Pt.slots] at X19 l19 y19 z19 st19 hQ19
  subst l19 y19 z19
  obtain ⟨rfl, N19q, e19⟩ := hQ19
  have NF := Fr.app NF N19q
  refine own_go st19 ?_
  show own_R _ _ _ _ (T19.setTop (mkF m 56 #[.val (.int p1), .val (.int ff), .val (.int q3), .val (.int q4), .val (.int q5), .val (.int q6), .val (.int nn), .val (.int x0), .val (.int x1), .val (.int x2), .val (.int x3), .val (.int y0), .unset, .unset, .unset, .unset, .unset, .unset, .unset, .unset, .unset, .unset] [(.int (own_max x0 x2))]))
  refine own_go (fun _ kt => XS.istore X19.here hx rfl (hb hby at_56) rfl (l' := #[.val (.int p1), .val (.int ff), .val (.int q3), .val (.int q4), .val (.int q5), .val (.int q6), .val (.int nn), .val (.int x0), .val (.int x1), .val (.int x2), .val (.int x3), .val (.int y0), .val (.int (own_max x0 x2)), .unset, .unset, .unset, .unset, .unset, .unset, .unset, .unset, .unset]) rfl kt) ?_
  show own_R _ _ _ _ (T19.setTop (mkF m 58 #[.val (.int p1), .val (.int ff), .val (.int q3), .val (.int q4), .val (.int q5), .val (.int q6), .val (.int nn), .val (.int x0), .val (.int x1), .val (.int x2), .val (.int x3), .val (.int y0), .val (.int (own_max x0 x2)), .unset, .unset, .unset, .unset, .unset, .unset, .unset, .unset, .unset] []))
  generalize hy2 : (own_max x0 x2) = y2
  show own_R _ _ _ _ (T19.setTop (mkF m 58 #[.val (.int p1), .val (.int ff), .val (.int q3), .val (.int q4), .val (.int q5), .val (.int q6), .val (.int nn), .val (.int x0), .val (.int x1), .val (.int x2), .val (.int x3), .val (.int y0), .val (.int y2), .unset, .unset, .unset, .unset, .unset, .unset, .unset, .unset, .unset] []))
  refine own_go (fun _ kt => XS.iload X19.here hx rfl (hb hby at_58) rfl kt) ?_
  show own_R _ _ _ _ (T19.setTop (mkF m 60 #[.val (.int p1), .val (.int ff), .val (.int q3), .val (.int q4), .val (.int q5), .val (.int q6), .val (.int nn), .val (.int x0), .val (.int x1), .val (.int x2), .val (.int x3), .val (.int y0), .val (.int y2), .unset, .unset, .unset, .unset, .unset, .unset, .unset, .unset, .unset] [(.int x1)]))
  refine own_go (fun _ kt => XS.iload X19.here hx rfl (hb hby at_60) rfl kt) ?_
  show own_R _ _ _ _ (T19.setTop (mkF m 62 #[.val (.int p1), .val (.int ff), .val (.int q3), .val (.int q4), .val (.int q5), .val (.int q6), .val (.int nn), .val (.int x0), .val (.int x1), .val (.int x2), .val (.int x3), .val (.int y0), .val (.int y2), .unset, .unset, .unset, .unset, .unset, .unset, .unset, .unset, .unset] [(.int x3), (.int x1)]))
  obtain ⟨_, _, ⟨T20, L20, k20, n20⟩, -, X20, ⟨Lc20, hQ20, l20, y20, z20⟩, st20⟩ := Jvm.LawKit.callS X19 hx (y := (⟨"java/lang/Math", "min", "(II)I"⟩ : MethodName)) hown (mvT hZ (hw _ (List.mem_of_getElem? (i := 1) rfl))) (mvT hZ (hw _ (List.mem_of_getElem? (i := 2) rfl))) (mvT hZ (hw _ (List.mem_of_getElem? (i := 3) rfl))) (mvT hZ (hw _ (List.mem_of_getElem? (i := 4) rfl))) (by decide) (backOf (W := 0) (rm1 l Z a0 hw [] x1 x3 h0 n0 ZS) hZ (hw _ (List.mem_of_getElem? (i := 4) rfl)) (hw _ (List.mem_of_getElem? (i := 3) rfl)) (by decide) (by decide)) (g := (mkF m 62 #[.val (.int p1), .val (.int ff), .val (.int q3), .val (.int q4), .val (.int q5), .val (.int q6), .val (.int nn), .val (.int x0), .val (.int x1), .val (.int x2), .val (.int x3), .val (.int y0), .val (.int y2), .unset, .unset, .unset, .unset, .unset, .unset, .unset, .unset, .unset] [(.int x3), (.int x1)])) rfl (by rw [hml]; rfl) (argsL := [(.int x1), (.int x3)]) (rest := []) (lenOf pd_0 rfl) rfl (by show 2 * 0 + _ ≤ _; exact Nat.le_of_eq rfl) (hb hby at_62) (fun _ _ => ⟨rfl, e19, (by decide : 0 + 0 ≤ _), (by decide : 0 + 0 ≤ _)⟩)
  dsimp only [Pt.U, Pt.locs, Pt.cells, Pt.slots] at X20 l20 y20 z20 st20 hQ20
  subst l20 y20 z20
  obtain ⟨rfl, N20q, e20⟩ := hQ20
  have NF := Fr.app NF N20q
  refine own_go st20 ?_
  show own_R _ _ _ _ (T20.setTop (mkF m 65 #[.val (.int p1), .val (.int ff), .val (.int q3), .val (.int q4), .val (.int q5), .val (.int q6), .val (.int nn), .val (.int x0), .val (.int x1), .val (.int x2), .val (.int x3), .val (.int y0), .val (.int y2), .unset, .unset, .unset, .unset, .unset, .unset, .unset, .unset, .unset] [(.int (own_min x1 x3))]))
  refine own_go (fun _ kt => XS.istore X20.here hx rfl (hb hby at_65) rfl (l' := #[.val (.int p1), .val (.int ff), .val (.int q3), .val (.int q4), .val (.int q5), .val (.int q6), .val (.int nn), .val (.int x0), .val (.int x1), .val (.int x2), .val (.int x3), .val (.int y0), .val (.int y2), .val (.int (own_min x1 x3)), .unset, .unset, .unset, .unset, .unset, .unset, .unset, .unset]) rfl kt) ?_
  show own_R _ _ _ _ (T20.setTop (mkF m 67 #[.val (.int p1), .val (.int ff), .val (.int q3), .val (.int q4), .val (.int q5), .val (.int q6), .val (.int nn), .val (.int x0), .val (.int x1), .val (.int x2), .val (.int x3), .val (.int y0), .val (.int y2), .val (.int (own_min x1 x3)), .unset, .unset, .unset, .unset, .unset, .unset, .unset, .unset] []))
  generalize hy1 : (own_min x1 x3) = y1
  show own_R _ _ _ _ (T20.setTop (mkF m 67 #[.val (.int p1), .val (.int ff), .val (.int q3), .val (.int q4), .val (.int q5), .val (.int q6), .val (.int nn), .val (.int x0), .val (.int x1), .val (.int x2), .val (.int x3), .val (.int y0), .val (.int y2), .val (.int y1), .unset, .unset, .unset, .unset, .unset, .unset, .unset, .unset] []))
  refine own_go (fun _ kt => XS.iload X20.here hx rfl (hb hby at_67) rfl kt) ?_
  show own_R _ _ _ _ (T20.setTop (mkF m 69 #[.val (.int p1), .val (.int ff), .val (.int q3), .val (.int q4), .val (.int q5), .val (.int q6), .val (.int nn), .val (.int x0), .val (.int x1), .val (.int x2), .val (.int x3), .val (.int y0), .val (.int y2), .val (.int y1), .unset, .unset, .unset, .unset, .unset, .unset, .unset, .unset] [(.int x1)]))
  refine own_go (fun _ kt => XS.iload X20.here hx rfl (hb hby at_69) rfl kt) ?_
  show own_R _ _ _ _ (T20.setTop (mkF m 71 #[.val (.int p1), .val (.int ff), .val (.int q3), .val (.int q4), .val (.int q5), .val (.int q6), .val (.int nn), .val (.int x0), .val (.int x1), .val (.int x2), .val (.int x3), .val (.int y0), .val (.int y2), .val (.int y1), .unset, .unset, .unset, .unset, .unset, .unset, .unset, .unset] [(.int x3), (.int x1)]))
  obtain ⟨_, _, ⟨T21, L21, k21, n21⟩, -, X21, ⟨Lc21, hQ21, l21, y21, z21⟩, st21⟩ := Jvm.LawKit.callS X20 hx (y := (⟨"java/lang/Math", "max", "(II)I"⟩ : MethodName)) hown (mvT hZ (hw _ (List.mem_of_getElem? (i := 5) rfl))) (mvT hZ (hw _ (List.mem_of_getElem? (i := 6) rfl))) (mvT hZ (hw _ (List.mem_of_getElem? (i := 3) rfl))) (mvT hZ (hw _ (List.mem_of_getElem? (i := 7) rfl))) (by decide) (backOf (W := 0) (rm2 l Z a0 hw [] x1 x3 h0 n0 ZS) hZ (hw _ (List.mem_of_getElem? (i := 7) rfl)) (hw _ (List.mem_of_getElem? (i := 3) rfl)) (by decide) (by decide)) (g := (mkF m 71 #[.val (.int p1), .val (.int ff), .val (.int q3), .val (.int q4), .val (.int q5), .val (.int q6), .val (.int nn), .val (.int x0), .val (.int x1), .val (.int x2), .val (.int x3), .val (.int y0), .val (.int y2), .val (.int y1), .unset, .unset, .unset, .unset, .unset, .unset, .unset, .unset] [(.int x3), (.int x1)])) rfl (by rw [hml]; rfl) (argsL := [(.int x1), (.int x3)]) (rest := []) (lenOf pd_0 rfl) rfl (by show 2 * 0 + _ ≤ _; exact Nat.le_of_eq rfl) (hb hby at_71) (fun _ _ => ⟨rfl, e20, (by decide : 0 + 0 ≤ _), (by decide : 0 + 0 ≤ _)⟩)
  dsimp only [Pt.U, Pt.locs, Pt.cells, Pt.slots] at X21 l21 y21 z21 st21 hQ21
  subst l21 y21 z21
  obtain ⟨rfl, N21q, e21⟩ := hQ21
  have NF := Fr.app NF N21q
  refine own_go st21 ?_
  show own_R _ _ _ _ (T21.setTop (mkF m 74 #[.val (.int p1), .val (.int ff), .val (.int q3), .val (.int q4), .val (.int q5), .val (.int q6), .val (.int nn), .val (.int x0), .val (.int x1), .val (.int x2), .val (.int x3), .val (.int y0), .val (.int y2), .val (.int y1), .unset, .unset, .unset, .unset, .unset, .unset, .unset, .unset] [(.int (own_max x1 x3))]))
  refine own_go (fun _ kt => XS.istore X21.here hx rfl (hb hby at_74) rfl (l' := #[.val (.int p1), .val (.int ff), .val (.int q3), .val (.int q4), .val (.int q5), .val (.int q6), .val (.int nn), .val (.int x0), .val (.int x1), .val (.int x2), .val (.int x3), .val (.int y0), .val (.int y2), .val (.int y1), .val (.int (own_max x1 x3)), .unset, .unset, .unset, .unset, .unset, .unset, .unset]) rfl kt) ?_
  show own_R _ _ _ _ (T21.setTop (mkF m 76 #[.val (.int p1), .val (.int ff), .val (.int q3), .val (.int q4), .val (.int q5), .val (.int q6), .val (.int nn), .val (.int x0), .val (.int x1), .val (.int x2), .val (.int x3), .val (.int y0), .val (.int y2), .val (.int y1), .val (.int (own_max x1 x3)), .unset, .unset, .unset, .unset, .unset, .unset, .unset] []))
  generalize hy3 : (own_max x1 x3) = y3
  show own_R _ _ _ _ (T21.setTop (mkF m 76 #[.val (.int p1), .val (.int ff), .val (.int q3), .val (.int q4), .val (.int q5), .val (.int q6), .val (.int nn), .val (.int x0), .val (.int x1), .val (.int x2), .val (.int x3), .val (.int y0), .val (.int y2), .val (.int y1), .val (.int y3), .unset, .unset, .unset, .unset, .unset, .unset, .unset] []))
  refine own_go (fun _ kt => XS.iload X21.here hx rfl (hb hby at_76) rfl kt) ?_
  show own_R _ _ _ _ (T21.setTop (mkF m 78 #[.val (.int p1), .val (.int ff), .val (.int q3), .val (.int q4), .val (.int q5), .val (.int q6), .val (.int nn), .val (.int x0), .val (.int x1), .val (.int x2), .val (.int x3), .val (.int y0), .val (.int y2), .val (.int y1), .val (.int y3), .unset, .unset, .unset, .unset, .unset, .unset, .unset] [(.int y0)]))
  refine own_go (fun _ kt => XS.istore X21.here hx rfl (hb hby at_78) rfl (l' := #[.val (.int p1), .val (.int ff), .val (.int q3), .val (.int q4), .val (.int q5), .val (.int q6), .val (.int nn), .val (.int x0), .val (.int x1), .val (.int x2), .val (.int x3), .val (.int y0), .val (.int y2), .val (.int y1), .val (.int y3), .val (.int y0), .unset, .unset, .unset, .unset, .unset, .unset]) rfl kt) ?_
  show own_R _ _ _ _ (T21.setTop (mkF m 80 #[.val (.int p1), .val (.int ff), .val (.int q3), .val (.int q4), .val (.int q5), .val (.int q6), .val (.int nn), .val (.int x0), .val (.int x1), .val (.int x2), .val (.int x3), .val (.int y0), .val (.int y2), .val (.int y1), .val (.int y3), .val (.int y0), .unset, .unset, .unset, .unset, .unset, .unset] []))
  refine own_go (fun _ kt => XS.iload X21.here hx rfl (hb hby at_80) rfl kt) ?_
  show own_R _ _ _ _ (T21.setTop (mkF m 82 #[.val (.int p1), .val (.int ff), .val (.int q3), .val (.int q4), .val (.int q5), .val (.int q6), .val (.int nn), .val (.int x0), .val (.int x1), .val (.int x2), .val (.int x3), .val (.int y0), .val (.int y2), .val (.int y1), .val (.int y3), .val (.int y0), .unset, .unset, .unset, .unset, .unset, .unset] [(.int y1)]))
  refine own_go (fun _ kt => XS.iload X21.here hx rfl (hb hby at_82) rfl kt) ?_
  show own_R _ _ _ _ (T21.setTop (mkF m 84 #[.val (.int p1), .val (.int ff), .val (.int q3), .val (.int q4), .val (.int q5), .val (.int q6), .val (.int nn), .val (.int x0), .val (.int x1), .val (.int x2), .val (.int x3), .val (.int y0), .val (.int y2), .val (.int y1), .val (.int y3), .val (.int y0), .unset, .unset, .unset, .unset, .unset, .unset] [(.int y2), (.int y1)]))
  obtain ⟨_, _, ⟨T22, L22, k22, n22⟩, -, X22, ⟨Lc22, hQ22, l22, y22, z22⟩, st22⟩ := Jvm.LawKit.callS X21 hx (y := (⟨"java/lang/Math", "min", "(II)I"⟩ : MethodName)) hown (mvT hZ (hw _ (List.mem_of_getElem? (i := 1) rfl))) (mvT hZ (hw _ (List.mem_of_getElem? (i := 2) rfl))) (mvT hZ (hw _ (List.mem_of_getElem? (i := 3) rfl))) (mvT hZ (hw _ (List.mem_of_getElem? (i := 4) rfl))) (by decide) (backOf (W := 0) (rm1 l Z a0 hw [] y1 y2 h0 n0 ZS) hZ (hw _ (List.mem_of_getElem? (i := 4) rfl)) (hw _ (List.mem_of_getElem? (i := 3) rfl)) (by decide) (by decide)) (g := (mkF m 84 #[.val (.int p1), .val (.int ff), .val (.int q3), .val (.int q4), .val (.int q5), .val (.int q6), .val (.int nn), .val (.int x0), .val (.int x1), .val (.int x2), .val (.int x3), .val (.int y0), .val (.int y2), .val (.int y1), .val (.int y3), .val (.int y0), .unset, .unset, .unset, .unset, .unset, .unset] [(.int y2), (.int y1)])) rfl (by rw [hml]; rfl) (argsL := [(.int y1), (.int y2)]) (rest := []) (lenOf pd_0 rfl) rfl (by show 2 * 0 + _ ≤ _; exact Nat.le_of_eq rfl) (hb hby at_84) (fun _ _ => ⟨rfl, e21, (by decide : 0 + 0 ≤ _), (by decide : 0 + 0 ≤ _)⟩)
  dsimp only [Pt.U, Pt.locs, Pt.cells, Pt.slots] at X22 l22 y22 z22 st22 hQ22
  subst l22 y22 z22
  obtain ⟨rfl, N22q, e22⟩ := hQ22
  have NF := Fr.app NF N22q
  refine own_go st22 ?_
  show own_R _ _ _ _ (T22.setTop (mkF m 87 #[.val (.int p1), .val (.int ff), .val (.int q3), .val (.int q4), .val (.int q5), .val (.int q6), .val (.int nn), .val (.int x0), .val (.int x1), .val (.int x2), .val (.int x3), .val (.int y0), .val (.int y2), .val (.int y1), .val (.int y3), .val (.int y0), .unset, .unset, .unset, .unset, .unset, .unset] [(.int (own_min y1 y2))]))
  refine own_go (fun _ kt => XS.istore X22.here hx rfl (hb hby at_87) rfl (l' := #[.val (.int p1), .val (.int ff), .val (.int q3), .val (.int q4), .val (.int q5), .val (.int q6), .val (.int nn), .val (.int x0), .val (.int x1), .val (.int x2), .val (.int x3), .val (.int y0), .val (.int y2), .val (.int y1), .val (.int y3), .val (.int y0), .val (.int (own_min y1 y2)), .unset, .unset, .unset, .unset, .unset]) rfl kt) ?_
  show own_R _ _ _ _ (T22.setTop (mkF m 89 #[.val (.int p1), .val (.int ff), .val (.int q3), .val (.int q4), .val (.int q5), .val (.int q6), .val (.int nn), .val (.int x0), .val (.int x1), .val (.int x2), .val (.int x3), .val (.int y0), .val (.int y2), .val (.int y1), .val (.int y3), .val (.int y0), .val (.int (own_min y1 y2)), .unset, .unset, .unset, .unset, .unset] []))
  generalize hs1 : (own_min y1 y2) = s1
  show own_R _ _ _ _ (T22.setTop (mkF m 89 #[.val (.int p1), .val (.int ff), .val (.int q3), .val (.int q4), .val (.int q5), .val (.int q6), .val (.int nn), .val (.int x0), .val (.int x1), .val (.int x2), .val (.int x3), .val (.int y0), .val (.int y2), .val (.int y1), .val (.int y3), .val (.int y0), .val (.int s1), .unset, .unset, .unset, .unset, .unset] []))
  refine own_go (fun _ kt => XS.iload X22.here hx rfl (hb hby at_89) rfl kt) ?_
  show own_R _ _ _ _ (T22.setTop (mkF m 91 #[.val (.int p1), .val (.int ff), .val (.int q3), .val (.int q4), .val (.int q5), .val (.int q6), .val (.int nn), .val (.int x0), .val (.int x1), .val (.int x2), .val (.int x3), .val (.int y0), .val (.int y2), .val (.int y1), .val (.int y3), .val (.int y0), .val (.int s1), .unset, .unset, .unset, .unset, .unset] [(.int y1)]))
  refine own_go (fun _ kt => XS.iload X22.here hx rfl (hb hby at_91) rfl kt) ?_
  show own_R _ _ _ _ (T22.setTop (mkF m 93 #[.val (.int p1), .val (.int ff), .val (.int q3), .val (.int q4), .val (.int q5), .val (.int q6), .val (.int nn), .val (.int x0), .val (.int x1), .val (.int x2), .val (.int x3), .val (.int y0), .val (.int y2), .val (.int y1), .val (.int y3), .val (.int y0), .val (.int s1), .unset, .unset, .unset, .unset, .unset] [(.int y2), (.int y1)]))
  obtain ⟨_, _, ⟨T23, L23, k23, n23⟩, -, X23, ⟨Lc23, hQ23, l23, y23, z23⟩, st23⟩ := Jvm.LawKit.callS X22 hx (y := (⟨"java/lang/Math", "max", "(II)I"⟩ : MethodName)) hown (mvT hZ (hw _ (List.mem_of_getElem? (i := 5) rfl))) (mvT hZ (hw _ (List.mem_of_getElem? (i := 6) rfl))) (mvT hZ (hw _ (List.mem_of_getElem? (i := 3) rfl))) (mvT hZ (hw _ (List.mem_of_getElem? (i := 7) rfl))) (by decide) (backOf (W := 0) (rm2 l Z a0 hw [] y1 y2 h0 n0 ZS) hZ (hw _ (List.mem_of_getElem? (i := 7) rfl)) (hw _ (List.mem_of_getElem? (i := 3) rfl)) (by decide) (by decide)) (g := (mkF m 93 #[.val (.int p1), .val (.int ff), .val (.int q3), .val (.int q4), .val (.int q5), .val (.int q6), .val (.int nn), .val (.int x0), .val (.int x1), .val (.int x2), .val (.int x3), .val (.int y0), .val (.int y2), .val (.int y1), .val (.int y3), .val (.int y0), .val (.int s1), .unset, .unset, .unset, .unset, .unset] [(.int y2), (.int y1)])) rfl (by rw [hml]; rfl) (argsL := [(.int y1), (.int y2)]) (rest := []) (lenOf pd_0 rfl) rfl (by show 2 * 0 + _ ≤ _; exact Nat.le_of_eq rfl) (hb hby at_93) (fun _ _ => ⟨rfl, e22, (by decide : 0 + 0 ≤ _), (by decide : 0 + 0 ≤ _)⟩)
  dsimp only [Pt.U, Pt.locs, Pt.cells, Pt.slots] at X23 l23 y23 z23 st23 hQ23
  subst l23 y23 z23
  obtain ⟨rfl, N23q, e23⟩ := hQ23
  have NF := Fr.app NF N23q
  refine own_go st23 ?_
  show own_R _ _ _ _ (T23.setTop (mkF m 96 #[.val (.int p1), .val (.int ff), .val (.int q3), .val (.int q4), .val (.int q5), .val (.int q6), .val (.int nn), .val (.int x0), .val (.int x1), .val (.int x2), .val (.int x3), .val (.int y0), .val (.int y2), .val (.int y1), .val (.int y3), .val (.int y0), .val (.int s1), .unset, .unset, .unset, .unset, .unset] [(.int (own_max y1 y2))]))
  refine own_go (fun _ kt => XS.istore X23.here hx rfl (hb hby at_96) rfl (l' := #[.val (.int p1), .val (.int ff), .val (.int q3), .val (.int q4), .val (.int q5), .val (.int q6), .val (.int nn), .val (.int x0), .val (.int x1), .val (.int x2), .val (.int x3), .val (.int y0), .val (.int y2), .val (.int y1), .val (.int y3), .val (.int y0), .val (.int s1), .val (.int (own_max y1 y2)), .unset, .unset, .unset, .unset]) rfl kt) ?_
  show own_R _ _ _ _ (T23.setTop (mkF m 98 #[.val (.int p1), .val (.int ff), .val (.int q3), .val (.int q4), .val (.int q5), .val (.int q6), .val (.int nn), .val (.int x0), .val (.int x1), .val (.int x2), .val (.int x3), .val (.int y0), .val (.int y2), .val (.int y1), .val (.int y3), .val (.int y0), .val (.int s1), .val (.int (own_max y1 y2)), .unset, .unset, .unset, .unset] []))
  generalize hs2 : (own_max y1 y2) = s2
  show own_R _ _ _ _ (T23.setTop (mkF m 98 #[.val (.int p1), .val (.int ff), .val (.int q3), .val (.int q4), .val (.int q5), .val (.int q6), .val (.int nn), .val (.int x0), .val (.int x1), .val (.int x2), .val (.int x3), .val (.int y0), .val (.int y2), .val (.int y1), .val (.int y3), .val (.int y0), .val (.int s1), .val (.int s2), .unset, .unset, .unset, .unset] []))
  refine own_go (fun _ kt => XS.iload X23.here hx rfl (hb hby at_98) rfl kt) ?_
  show own_R _ _ _ _ (T23.setTop (mkF m 100 #[.val (.int p1), .val (.int ff), .val (.int q3), .val (.int q4), .val (.int q5), .val (.int q6), .val (.int nn), .val (.int x0), .val (.int x1), .val (.int x2), .val (.int x3), .val (.int y0), .val (.int y2), .val (.int y1), .val (.int y3), .val (.int y0), .val (.int s1), .val (.int s2), .unset, .unset, .unset, .unset] [(.int y3)]))
  refine own_go (fun _ kt => XS.istore X23.here hx rfl (hb hby at_100) rfl (l' := #[.val (.int p1), .val (.int ff), .val (.int q3), .val (.int q4), .val (.int q5), .val (.int q6), .val (.int nn), .val (.int x0), .val (.int x1), .val (.int x2), .val (.int x3), .val (.int y0), .val (.int y2), .val (.int y1), .val (.int y3), .val (.int y0), .val (.int s1), .val (.int s2), .val (.int y3), .unset, .unset, .unset]) rfl kt) ?_
  show own_R _ _ _ _ (T23.setTop (mkF m 102 #[.val (.int p1), .val (.int ff), .val (.int q3), .val (.int q4), .val (.int q5), .val (.int q6), .val (.int nn), .val (.int x0), .val (.int x1), .val (.int x2), .val (.int x3), .val (.int y0), .val (.int y2), .val (.int y1), .val (.int y3), .val (.int y0), .val (.int s1), .val (.int s2), .val (.int y3), .unset, .unset, .unset] []))
  obtain ⟨so1, so2, so3⟩ := own_sorted hx0 hx1 hx2 hx3 hy0 hy2 hy1 hy3 hs1 hs2
  rcases own_five _ _ hnn with rfl | rfl | rfl | rfl | rfl
  · show own_R _ _ _ _ (T23.setTop (mkF m 102 #[.val (.int p1), .val (.int ff), .val (.int q3), .val (.int q4), .val (.int q5), .val (.int q6), .val (.int (0 : Int32)), .val (.int x0), .val (.int x1), .val (.int x2), .val (.int x3), .val (.int y0), .val (.int y2), .val (.int y1), .val (.int y3), .val (.int y0), .val (.int s1), .val (.int s2), .val (.int y3), .unset, .unset, .unset] []))
    refine own_go (fun _ kt => XS.iload X23.here hx rfl (hb hby at_102) rfl kt) ?_
    show own_R _ _ _ _ (T23.setTop (mkF m 104 #[.val (.int p1), .val (.int ff), .val (.int q3), .val (.int q4), .val (.int q5), .val (.int q6), .val (.int (0 : Int32)), .val (.int x0), .val (.int x1), .val (.int x2), .val (.int x3), .val (.int y0), .val (.int y2), .val (.int y1), .val (.int y3), .val (.int y0), .val (.int s1), .val (.int s2), .val (.int y3), .unset, .unset, .unset] [(.int (0 : Int32))]))
    refine own_go (fun _ kt => XS.ifNo X23.here hx rfl (hb hby at_104) rfl ((if0 _ _).trans (teq (by decide : (0 : Int32) = (0 : Int32))).2) kt) ?_
    show own_R _ _ _ _ (T23.setTop (mkF m 107 #[.val (.int p1), .val (.int ff), .val (.int q3), .val (.int q4), .val (.int q5), .val (.int q6), .val (.int (0 : Int32)), .val (.int x0), .val (.int x1), .val (.int x2), .val (.int x3), .val (.int y0), .val (.int y2), .val (.int y1), .val (.int y3), .val (.int y0), .val (.int s1), .val (.int s2), .val (.int y3), .unset, .unset, .unset] []))
    refine own_go (fun _ kt => XS.iconst X23.here hx rfl (hb hby at_107) kt) ?_
    show own_R _ _ _ _ (T23.setTop (mkF m 108 #[.val (.int p1), .val (.int ff), .val (.int q3), .val (.int q4), .val (.int q5), .val (.int q6), .val (.int (0 : Int32)), .val (.int x0), .val (.int x1), .val (.int x2), .val (.int x3), .val (.int y0), .val (.int y2), .val (.int y1), .val (.int y3), .val (.int y0), .val (.int s1), .val (.int s2), .val (.int y3), .unset, .unset, .unset] [(.int (0 : Int32))]))
    obtain ⟨T24, h24, k24, X24, e24, E24, A24, st24⟩ := newP X23 hx hZ (hw _ (List.mem_of_getElem? (i := 8) rfl)) e23 (g := (mkF m 108 #[.val (.int p1), .val (.int ff), .val (.int q3), .val (.int q4), .val (.int q5), .val (.int q6), .val (.int (0 : Int32)), .val (.int x0), .val (.int x1), .val (.int x2), .val (.int x3), .val (.int y0), .val (.int y2), .val (.int y1), .val (.int y3), .val (.int y0), .val (.int s1), .val (.int s2), .val (.int y3), .unset, .unset, .unset] [(.int (0 : Int32))])) rfl (hb hby at_108) rfl (by decide) (cap := 0) (by decide) (by decide) (by decide) (by decide)
    obtain ⟨b24, g24⟩ : ∃ z, z = h0.size := ⟨_, rfl⟩
    rw [← g24] at A24 st24
    refine own_go st24 ?_
    have g_b24 : n0 ≤ b24 := Nat.le_trans ZS (Nat.le_of_eq g24.symm)
    have sz_b24 : h0.size ≤ b24 := Nat.le_trans KP.1 (Nat.le_of_eq g24.symm)
    have ZS := Nat.le_trans ZS E24.1
    have KP := KP.ext E24
    have V_b24 : Arv Z h24 b24 k24 .int (0 : Int32) [] (.int (0 : Int32)) := (Arv.new A24 (by decide)).pad (pad_rep [] (.int (0 : Int32)) 0)
    show own_R _ _ _ _ (T24.setTop (mkF m 110 #[.val (.int p1), .val (.int ff), .val (.int q3), .val (.int q4), .val (.int q5), .val (.int q6), .val (.int (0 : Int32)), .val (.int x0), .val (.int x1), .val (.int x2), .val (.int x3), .val (.int y0), .val (.int y2), .val (.int y1), .val (.int y3), .val (.int y0), .val (.int s1), .val (.int s2), .val (.int y3), .unset, .unset, .unset] [(.ref b24)]))
    refine own_go (fun _ kt => XS.goto X24.here hx rfl (pc0 := 110) (pc' := 202) rfl (hb hby at_110) (by decide) (by decide) kt) ?_
    show own_R _ _ _ _ (T24.setTop (mkF m 202 #[.val (.int p1), .val (.int ff), .val (.int q3), .val (.int q4), .val (.int q5), .val (.int q6), .val (.int (0 : Int32)), .val (.int x0), .val (.int x1), .val (.int x2), .val (.int x3), .val (.int y0), .val (.int y2), .val (.int y1), .val (.int y3), .val (.int y0), .val (.int s1), .val (.int s2), .val (.int y3), .unset, .unset, .unset] [(.ref b24)]))
    refine own_go (fun _ kt => XS.astore X24.here hx rfl (hb hby at_202) rfl rfl (l' := #[.val (.int p1), .val (.int ff), .val (.int q3), .val (.int q4), .val (.int q5), .val (.int q6), .val (.int (0 : Int32)), .val (.int x0), .val (.int x1), .val (.int x2), .val (.int x3), .val (.int y0), .val (.int y2), .val (.int y1), .val (.int y3), .val (.int y0), .val (.int s1), .val (.int s2), .val (.int y3), .val (.ref b24), .unset, .unset]) rfl kt) ?_
    show own_R _ _ _ _ (T24.setTop (mkF m 204 #[.val (.int p1), .val (.int ff), .val (.int q3), .val (.int q4), .val (.int q5), .val (.int q6), .val (.int (0 : Int32)), .val (.int x0), .val (.int x1), .val (.int x2), .val (.int x3), .val (.int y0), .val (.int y2), .val (.int y1), .val (.int y3), .val (.int y0), .val (.int s1), .val (.int s2), .val (.int y3), .val (.ref b24), .unset, .unset] []))
    refine own_go (fun _ kt => XS.iconst X24.here hx rfl (hb hby at_204) kt) ?_
    show own_R _ _ _ _ (T24.setTop (mkF m 205 #[.val (.int p1), .val (.int ff), .val (.int q3), .val (.int q4), .val (.int q5), .val (.int q6), .val (.int (0 : Int32)), .val (.int x0), .val (.int x1), .val (.int x2), .val (.int x3), .val (.int y0), .val (.int y2), .val (.int y1), .val (.int y3), .val (.int y0), .val (.int s1), .val (.int s2), .val (.int y3), .val (.ref b24), .unset, .unset] [(.int (0 : Int32))]))
    refine own_go (fun _ kt => XS.istore X24.here hx rfl (hb hby at_205) rfl (l' := #[.val (.int p1), .val (.int ff), .val (.int q3), .val (.int q4), .val (.int q5), .val (.int q6), .val (.int (0 : Int32)), .val (.int x0), .val (.int x1), .val (.int x2), .val (.int x3), .val (.int y0), .val (.int y2), .val (.int y1), .val (.int y3), .val (.int y0), .val (.int s1), .val (.int s2), .val (.int y3), .val (.ref b24), .val (.int (0 : Int32)), .unset]) rfl kt) ?_
    show own_R _ _ _ _ (T24.setTop (mkF m 207 #[.val (.int p1), .val (.int ff), .val (.int q3), .val (.int q4), .val (.int q5), .val (.int q6), .val (.int (0 : Int32)), .val (.int x0), .val (.int x1), .val (.int x2), .val (.int x3), .val (.int y0), .val (.int y2), .val (.int y1), .val (.int y3), .val (.int y0), .val (.int s1), .val (.int s2), .val (.int y3), .val (.ref b24), .val (.int (0 : Int32)), .unset] []))
    refine own_go (fun _ kt => XS.iload X24.here hx rfl (hb hby at_207) rfl kt) ?_
    show own_R _ _ _ _ (T24.setTop (mkF m 209 #[.val (.int p1), .val (.int ff), .val (.int q3), .val (.int q4), .val (.int q5), .val (.int q6), .val (.int (0 : Int32)), .val (.int x0), .val (.int x1), .val (.int x2), .val (.int x3), .val (.int y0), .val (.int y2), .val (.int y1), .val (.int y3), .val (.int y0), .val (.int s1), .val (.int s2), .val (.int y3), .val (.ref b24), .val (.int (0 : Int32)), .unset] [(.int (0 : Int32))]))
    refine own_go (fun _ kt => XS.ifYes X24.here hx rfl (pc0 := 209) (pc' := 223) rfl (hb hby at_209) rfl ((if0 _ _).trans (flt (by decide : ¬ ((0 : Int32) < (0 : Int32)))).2.2.2) (by decide) (by decide) kt) ?_
    show own_R _ _ _ _ (T24.setTop (mkF m 223 #[.val (.int p1), .val (.int ff), .val (.int q3), .val (.int q4), .val (.int q5), .val (.int q6), .val (.int (0 : Int32)), .val (.int x0), .val (.int x1), .val (.int x2), .val (.int x3), .val (.int y0), .val (.int y2), .val (.int y1), .val (.int y3), .val (.int y0), .val (.int s1), .val (.int s2), .val (.int y3), .val (.ref b24), .val (.int (0 : Int32)), .unset] []))
    refine own_go (fun _ kt => XS.iload X24.here hx rfl (hb hby at_223) rfl kt) ?_
    show own_R _ _ _ _ (T24.setTop (mkF m 225 #[.val (.int p1), .val (.int ff), .val (.int q3), .val (.int q4), .val (.int q5), .val (.int q6), .val (.int (0 : Int32)), .val (.int x0), .val (.int x1), .val (.int x2), .val (.int x3), .val (.int y0), .val (.int y2), .val (.int y1), .val (.int y3), .val (.int y0), .val (.int s1), .val (.int s2), .val (.int y3), .val (.ref b24), .val (.int (0 : Int32)), .unset] [(.int (0 : Int32))]))
    refine own_go (fun _ kt => XS.iconst X24.here hx rfl (hb hby at_225) kt) ?_
    show own_R _ _ _ _ (T24.setTop (mkF m 226 #[.val (.int p1), .val (.int ff), .val (.int q3), .val (.int q4), .val (.int q5), .val (.int q6), .val (.int (0 : Int32)), .val (.int x0), .val (.int x1), .val (.int x2), .val (.int x3), .val (.int y0), .val (.int y2), .val (.int y1), .val (.int y3), .val (.int y0), .val (.int s1), .val (.int s2), .val (.int y3), .val (.ref b24), .val (.int (0 : Int32)), .unset] [(.int (1 : Int32)), (.int (0 : Int32))]))
    refine own_go (fun _ kt => XS.icmpYes X24.here hx rfl (pc0 := 226) (pc' := 240) rfl (hb hby at_226) rfl (flt (by decide : ¬ ((1 : Int32) < (0 : Int32)))).2.2.2 (by decide) (by decide) kt) ?_
    show own_R _ _ _ _ (T24.setTop (mkF m 240 #[.val (.int p1), .val (.int ff), .val (.int q3), .val (.int q4), .val (.int q5), .val (.int q6), .val (.int (0 : Int32)), .val (.int x0), .val (.int x1), .val (.int x2), .val (.int x3), .val (.int y0), .val (.int y2), .val (.int y1), .val (.int y3), .val (.int y0), .val (.int s1), .val (.int s2), .val (.int y3), .val (.ref b24), .val (.int (0 : Int32)), .unset] []))
    refine own_go (fun _ kt => XS.iload X24.here hx rfl (hb hby at_240) rfl kt) ?_
    show own_R _ _ _ _ (T24.setTop (mkF m 242 #[.val (.int p1), .val (.int ff), .val (.int q3), .val (.int q4), .val (.int q5), .val (.int q6), .val (.int (0 : Int32)), .val (.int x0), .val (.int x1), .val (.int x2), .val (.int x3), .val (.int y0), .val (.int y2), .val (.int y1), .val (.int y3), .val (.int y0), .val (.int s1), .val (.int s2), .val (.int y3), .val (.ref b24), .val (.int (0 : Int32)), .unset] [(.int (0 : Int32))]))
    refine own_go (fun _ kt => XS.iconst X24.here hx rfl (hb hby at_242) kt) ?_
    show own_R _ _ _ _ (T24.setTop (mkF m 243 #[.val (.int p1), .val (.int ff), .val (.int q3), .val (.int q4), .val (.int q5), .val (.int q6), .val (.int (0 : Int32)), .val (.int x0), .val (.int x1), .val (.int x2), .val (.int x3), .val (.int y0), .val (.int y2), .val (.int y1), .val (.int y3), .val (.int y0), .val (.int s1), .val (.int s2), .val (.int y3), .val (.ref b24), .val (.int (0 : Int32)), .unset] [(.int (2 : Int32)), (.int (0 : Int32))]))
    refine own_go (fun _ kt => XS.icmpYes X24.here hx rfl (pc0 := 243) (pc' := 257) rfl (hb hby at_243) rfl (flt (by decide : ¬ ((2 : Int32) < (0 : Int32)))).2.2.2 (by decide) (by decide) kt) ?_
    show own_R _ _ _ _ (T24.setTop (mkF m 257 #[.val (.int p1), .val (.int ff), .val (.int q3), .val (.int q4), .val (.int q5), .val (.int q6), .val (.int (0 : Int32)), .val (.int x0), .val (.int x1), .val (.int x2), .val (.int x3), .val (.int y0), .val (.int y2), .val (.int y1), .val (.int y3), .val (.int y0), .val (.int s1), .val (.int s2), .val (.int y3), .val (.ref b24), .val (.int (0 : Int32)), .unset] []))
    refine own_go (fun _ kt => XS.iload X24.here hx rfl (hb hby at_257) rfl kt) ?_
    show own_R _ _ _ _ (T24.setTop (mkF m 259 #[.val (.int p1), .val (.int ff), .val (.int q3), .val (.int q4), .val (.int q5), .val (.int q6), .val (.int (0 : Int32)), .val (.int x0), .val (.int x1), .val (.int x2), .val (.int x3), .val (.int y0), .val (.int y2), .val (.int y1), .val (.int y3), .val (.int y0), .val (.int s1), .val (.int s2), .val (.int y3), .val (.ref b24), .val (.int (0 : Int32)), .unset] [(.int (0 : Int32))]))
    refine own_go (fun _ kt => XS.iconst X24.here hx rfl (hb hby at_259) kt) ?_
    show own_R _ _ _ _ (T24.setTop (mkF m 260 #[.val (.int p1), .val (.int ff), .val (.int q3), .val (.int q4), .val (.int q5), .val (.int q6), .val (.int (0 : Int32)), .val (.int x0), .val (.int x1), .val (.int x2), .val (.int x3), .val (.int y0), .val (.int y2), .val (.int y1), .val (.int y3), .val (.int y0), .val (.int s1), .val (.int s2), .val (.int y3), .val (.ref b24), .val (.int (0 : Int32)), .unset] [(.int (3 : Int32)), (.int (0 : Int32))]))
    refine own_go (fun _ kt => XS.icmpYes X24.here hx rfl (pc0 := 260) (pc' := 274) rfl (hb hby at_260) rfl (flt (by decide : ¬ ((3 : Int32) < (0 : Int32)))).2.2.2 (by decide) (by decide) kt) ?_
    show own_R _ _ _ _ (T24.setTop (mkF m 274 #[.val (.int p1), .val (.int ff), .val (.int q3), .val (.int q4), .val (.int q5), .val (.int q6), .val (.int (0 : Int32)), .val (.int x0), .val (.int x1), .val (.int x2), .val (.int x3), .val (.int y0), .val (.int y2), .val (.int y1), .val (.int y3), .val (.int y0), .val (.int s1), .val (.int s2), .val (.int y3), .val (.ref b24), .val (.int (0 : Int32)), .unset] []))
    refine own_go (fun _ kt => XS.aload X24.here hx rfl (hb hby at_274) rfl rfl kt) ?_
    show own_R _ _ _ _ (T24.setTop (mkF m 276 #[.val (.int p1), .val (.int ff), .val (.int q3), .val (.int q4), .val (.int q5), .val (.int q6), .val (.int (0 : Int32)), .val (.int x0), .val (.int x1), .val (.int x2), .val (.int x3), .val (.int y0), .val (.int y2), .val (.int y1), .val (.int y3), .val (.int y0), .val (.int s1), .val (.int s2), .val (.int y3), .val (.ref b24), .val (.int (0 : Int32)), .unset] [(.ref b24)]))
    refine own_go (fun _ kt => XS.iloadN X24.here hx rfl (hb hby at_276) rfl kt) ?_
    show own_R _ _ _ _ (T24.setTop (mkF m 277 #[.val (.int p1), .val (.int ff), .val (.int q3), .val (.int q4), .val (.int q5), .val (.int q6), .val (.int (0 : Int32)), .val (.int x0), .val (.int x1), .val (.int x2), .val (.int x3), .val (.int y0), .val (.int y2), .val (.int y1), .val (.int y3), .val (.int y0), .val (.int s1), .val (.int s2), .val (.int y3), .val (.ref b24), .val (.int (0 : Int32)), .unset] [(.int ff), (.ref b24)]))
    obtain ⟨_, _, ⟨T25, L25, k25, n25⟩, -, X25, ⟨Lc25, hQ25, l25, y25, z25⟩, st25⟩ := Jvm.LawKit.callS X24 hx (y := (⟨"com/example/parametree/parametree/Expression", "outer", "([II)I"⟩ : MethodName)) hown (mvT hZ (hw _ (List.mem_of_getElem? (i := 9) rfl))) (mvT hZ (hw _ (List.mem_of_getElem? (i := 10) rfl))) (mvT hZ (hw _ (List.mem_of_getElem? (i := 11) rfl))) (mvT hZ (hw _ (List.mem_of_getElem? (i := 12) rfl))) (by decide) (backOf (W := 0) (rm3_0 l Z a0 hw [] b24 ff k24  h24 n0 ZS V_b24) hZ (hw _ (List.mem_of_getElem? (i := 12) rfl)) (hw _ (List.mem_of_getElem? (i := 11) rfl)) (by decide) (by decide)) (g := (mkF m 277 #[.val (.int p1), .val (.int ff), .val (.int q3), .val (.int q4), .val (.int q5), .val (.int q6), .val (.int (0 : Int32)), .val (.int x0), .val (.int x1), .val (.int x2), .val (.int x3), .val (.int y0), .val (.int y2), .val (.int y1), .val (.int y3), .val (.int y0), .val (.int s1), .val (.int s2), .val (.int y3), .val (.ref b24), .val (.int (0 : Int32)), .unset] [(.int ff), (.ref b24)])) rfl (by rw [hml]; rfl) (argsL := [(.ref b24), (.int ff)]) (rest := []) (lenOf pd_1 rfl) rfl (by show 2 * 0 + _ ≤ _; exact Nat.le_of_eq rfl) (hb hby at_277) (fun _ _ => ⟨rfl, e24, (by decide : 1 + 0 ≤ _), (by decide : 0 + 0 ≤ _)⟩)
    dsimp only [Pt.U, Pt.locs, Pt.cells, Pt.slots] at X25 l25 y25 z25 st25 hQ25
    subst l25 y25 z25
    obtain ⟨rfl, N25q, e25⟩ := hQ25
    have NF := Fr.app NF N25q
    refine own_go st25 ?_
    show own_R _ _ _ _ (T25.setTop (mkF m 280 #[.val (.int p1), .val (.int ff), .val (.int q3), .val (.int q4), .val (.int q5), .val (.int q6), .val (.int (0 : Int32)), .val (.int x0), .val (.int x1), .val (.int x2), .val (.int x3), .val (.int y0), .val (.int y2), .val (.int y1), .val (.int y3), .val (.int y0), .val (.int s1), .val (.int s2), .val (.int y3), .val (.ref b24), .val (.int (0 : Int32)), .unset] [(.int (own_out ff []))]))
    refine own_go (fun _ kt => XS.istore X25.here hx rfl (hb hby at_280) rfl (l' := #[.val (.int p1), .val (.int ff), .val (.int q3), .val (.int q4), .val (.int q5), .val (.int q6), .val (.int (0 : Int32)), .val (.int x0), .val (.int x1), .val (.int x2), .val (.int x3), .val (.int y0), .val (.int y2), .val (.int y1), .val (.int y3), .val (.int y0), .val (.int s1), .val (.int s2), .val (.int y3), .val (.ref b24), .val (.int (0 : Int32)), .val (.int (own_out ff []))]) rfl kt) ?_
    show own_R _ _ _ _ (T25.setTop (mkF m 282 #[.val (.int p1), .val (.int ff), .val (.int q3), .val (.int q4), .val (.int q5), .val (.int q6), .val (.int (0 : Int32)), .val (.int x0), .val (.int x1), .val (.int x2), .val (.int x3), .val (.int y0), .val (.int y2), .val (.int y1), .val (.int y3), .val (.int y0), .val (.int s1), .val (.int s2), .val (.int y3), .val (.ref b24), .val (.int (0 : Int32)), .val (.int (own_out ff []))] []))
    refine own_go (fun _ kt => XS.iload X25.here hx rfl (hb hby at_282) rfl kt) ?_
    show own_R _ _ _ _ (T25.setTop (mkF m 284 #[.val (.int p1), .val (.int ff), .val (.int q3), .val (.int q4), .val (.int q5), .val (.int q6), .val (.int (0 : Int32)), .val (.int x0), .val (.int x1), .val (.int x2), .val (.int x3), .val (.int y0), .val (.int y2), .val (.int y1), .val (.int y3), .val (.int y0), .val (.int s1), .val (.int s2), .val (.int y3), .val (.ref b24), .val (.int (0 : Int32)), .val (.int (own_out ff []))] [(.int (own_out ff []))]))
    refine own_go (fun _ kt => XS.iload X25.here hx rfl (hb hby at_284) rfl kt) ?_
    show own_R _ _ _ _ (T25.setTop (mkF m 286 #[.val (.int p1), .val (.int ff), .val (.int q3), .val (.int q4), .val (.int q5), .val (.int q6), .val (.int (0 : Int32)), .val (.int x0), .val (.int x1), .val (.int x2), .val (.int x3), .val (.int y0), .val (.int y2), .val (.int y1), .val (.int y3), .val (.int y0), .val (.int s1), .val (.int s2), .val (.int y3), .val (.ref b24), .val (.int (0 : Int32)), .val (.int (own_out ff []))] [(.int (0 : Int32)), (.int (own_out ff []))]))
    refine own_go (fun _ kt => XS.icmpNo X25.here hx rfl (hb hby at_286) rfl (teq (own_law0 _)).2 kt) ?_
    show own_R _ _ _ _ (T25.setTop (mkF m 289 #[.val (.int p1), .val (.int ff), .val (.int q3), .val (.int q4), .val (.int q5), .val (.int q6), .val (.int (0 : Int32)), .val (.int x0), .val (.int x1), .val (.int x2), .val (.int x3), .val (.int y0), .val (.int y2), .val (.int y1), .val (.int y3), .val (.int y0), .val (.int s1), .val (.int s2), .val (.int y3), .val (.ref b24), .val (.int (0 : Int32)), .val (.int (own_out ff []))] []))
    refine own_go (fun _ kt => XS.iconst X25.here hx rfl (hb hby at_289) kt) ?_
    show own_R _ _ _ _ (T25.setTop (mkF m 290 #[.val (.int p1), .val (.int ff), .val (.int q3), .val (.int q4), .val (.int q5), .val (.int q6), .val (.int (0 : Int32)), .val (.int x0), .val (.int x1), .val (.int x2), .val (.int x3), .val (.int y0), .val (.int y2), .val (.int y1), .val (.int y3), .val (.int y0), .val (.int s1), .val (.int s2), .val (.int y3), .val (.ref b24), .val (.int (0 : Int32)), .val (.int (own_out ff []))] [(.int (1 : Int32))]))
    refine own_go (fun _ kt => XS.goto X25.here hx rfl (pc0 := 290) (pc' := 294) rfl (hb hby at_290) (by decide) (by decide) kt) ?_
    show own_R _ _ _ _ (T25.setTop (mkF m 294 #[.val (.int p1), .val (.int ff), .val (.int q3), .val (.int q4), .val (.int q5), .val (.int q6), .val (.int (0 : Int32)), .val (.int x0), .val (.int x1), .val (.int x2), .val (.int x3), .val (.int y0), .val (.int y2), .val (.int y1), .val (.int y3), .val (.int y0), .val (.int s1), .val (.int s2), .val (.int y3), .val (.ref b24), .val (.int (0 : Int32)), .val (.int (own_out ff []))] [(.int (1 : Int32))]))
    exact own_retN X25 hx (t := .boolean) (by simp) Bd.returns (hb hby at_294) hlk ⟨rfl, NF⟩ (by decide) (by decide)
  · show own_R _ _ _ _ (T23.setTop (mkF m 102 #[.val (.int p1), .val (.int ff), .val (.int q3), .val (.int q4), .val (.int q5), .val (.int q6), .val (.int (1 : Int32)), .val (.int x0), .val (.int x1), .val (.int x2), .val (.int x3), .val (.int y0), .val (.int y2), .val (.int y1), .val (.int y3), .val (.int y0), .val (.int s1), .val (.int s2), .val (.int y3), .unset, .unset, .unset] []))
    refine own_go (fun _ kt => XS.iload X23.here hx rfl (hb hby at_102) rfl kt) ?_
    show own_R _ _ _ _ (T23.setTop (mkF m 104 #[.val (.int p1), .val (.int ff), .val (.int q3), .val (.int q4), .val (.int q5), .val (.int q6), .val (.int (1 : Int32)), .val (.int x0), .val (.int x1), .val (.int x2), .val (.int x3), .val (.int y0), .val (.int y2), .val (.int y1), .val (.int y3), .val (.int y0), .val (.int s1), .val (.int s2), .val (.int y3), .unset, .unset, .unset] [(.int (1 : Int32))]))
    refine own_go (fun _ kt => XS.ifYes X23.here hx rfl (pc0 := 104) (pc' := 113) rfl (hb hby at_104) rfl ((if0 _ _).trans (feq (by decide : ¬ ((1 : Int32) = (0 : Int32)))).2) (by decide) (by decide) kt) ?_
    show own_R _ _ _ _ (T23.setTop (mkF m 113 #[.val (.int p1), .val (.int ff), .val (.int q3), .val (.int q4), .val (.int q5), .val (.int q6), .val (.int (1 : Int32)), .val (.int x0), .val (.int x1), .val (.int x2), .val (.int x3), .val (.int y0), .val (.int y2), .val (.int y1), .val (.int y3), .val (.int y0), .val (.int s1), .val (.int s2), .val (.int y3), .unset, .unset, .unset] []))
    refine own_go (fun _ kt => XS.iload X23.here hx rfl (hb hby at_113) rfl kt) ?_
    show own_R _ _ _ _ (T23.setTop (mkF m 115 #[.val (.int p1), .val (.int ff), .val (.int q3), .val (.int q4), .val (.int q5), .val (.int q6), .val (.int (1 : Int32)), .val (.int x0), .val (.int x1), .val (.int x2), .val (.int x3), .val (.int y0), .val (.int y2), .val (.int y1), .val (.int y3), .val (.int y0), .val (.int s1), .val (.int s2), .val (.int y3), .unset, .unset, .unset] [(.int (1 : Int32))]))
    refine own_go (fun _ kt => XS.iconst X23.here hx rfl (hb hby at_115) kt) ?_
    show own_R _ _ _ _ (T23.setTop (mkF m 116 #[.val (.int p1), .val (.int ff), .val (.int q3), .val (.int q4), .val (.int q5), .val (.int q6), .val (.int (1 : Int32)), .val (.int x0), .val (.int x1), .val (.int x2), .val (.int x3), .val (.int y0), .val (.int y2), .val (.int y1), .val (.int y3), .val (.int y0), .val (.int s1), .val (.int s2), .val (.int y3), .unset, .unset, .unset] [(.int (1 : Int32)), (.int (1 : Int32))]))
    refine own_go (fun _ kt => XS.icmpNo X23.here hx rfl (hb hby at_116) rfl (teq (by decide : (1 : Int32) = (1 : Int32))).2 kt) ?_
    show own_R _ _ _ _ (T23.setTop (mkF m 119 #[.val (.int p1), .val (.int ff), .val (.int q3), .val (.int q4), .val (.int q5), .val (.int q6), .val (.int (1 : Int32)), .val (.int x0), .val (.int x1), .val (.int x2), .val (.int x3), .val (.int y0), .val (.int y2), .val (.int y1), .val (.int y3), .val (.int y0), .val (.int s1), .val (.int s2), .val (.int y3), .unset, .unset, .unset] []))
    refine own_go (fun _ kt => XS.iconst X23.here hx rfl (hb hby at_119) kt) ?_
    show own_R _ _ _ _ (T23.setTop (mkF m 120 #[.val (.int p1), .val (.int ff), .val (.int q3), .val (.int q4), .val (.int q5), .val (.int q6), .val (.int (1 : Int32)), .val (.int x0), .val (.int x1), .val (.int x2), .val (.int x3), .val (.int y0), .val (.int y2), .val (.int y1), .val (.int y3), .val (.int y0), .val (.int s1), .val (.int s2), .val (.int y3), .unset, .unset, .unset] [(.int (1 : Int32))]))
    obtain ⟨T26, h26, k26, X26, e26, E26, A26, st26⟩ := newP X23 hx hZ (hw _ (List.mem_of_getElem? (i := 8) rfl)) e23 (g := (mkF m 120 #[.val (.int p1), .val (.int ff), .val (.int q3), .val (.int q4), .val (.int q5), .val (.int q6), .val (.int (1 : Int32)), .val (.int x0), .val (.int x1), .val (.int x2), .val (.int x3), .val (.int y0), .val (.int y2), .val (.int y1), .val (.int y3), .val (.int y0), .val (.int s1), .val (.int s2), .val (.int y3), .unset, .unset, .unset] [(.int (1 : Int32))])) rfl (hb hby at_120) rfl (by decide) (cap := 1) (by decide) (by decide) (by decide) (by decide)
    obtain ⟨b26, g26⟩ : ∃ z, z = h0.size := ⟨_, rfl⟩
    rw [← g26] at A26 st26
    refine own_go st26 ?_
    have g_b26 : n0 ≤ b26 := Nat.le_trans ZS (Nat.le_of_eq g26.symm)
    have sz_b26 : h0.size ≤ b26 := Nat.le_trans KP.1 (Nat.le_of_eq g26.symm)
    have ZS := Nat.le_trans ZS E26.1
    have KP := KP.ext E26
    have V_b26 : Arv Z h26 b26 k26 .int (1 : Int32) [(.int (0 : Int32))] (.int (0 : Int32)) := (Arv.new A26 (by decide)).pad (pad_rep [] (.int (0 : Int32)) 1)
    show own_R _ _ _ _ (T26.setTop (mkF m 122 #[.val (.int p1), .val (.int ff), .val (.int q3), .val (.int q4), .val (.int q5), .val (.int q6), .val (.int (1 : Int32)), .val (.int x0), .val (.int x1), .val (.int x2), .val (.int x3), .val (.int y0), .val (.int y2), .val (.int y1), .val (.int y3), .val (.int y0), .val (.int s1), .val (.int s2), .val (.int y3), .unset, .unset, .unset] [(.ref b26)]))
    refine own_go (fun _ kt => XS.dup X26.here hx rfl (hb hby at_122) rfl rfl kt) ?_
    show own_R _ _ _ _ (T26.setTop (mkF m 123 #[.val (.int p1), .val (.int ff), .val (.int q3), .val (.int q4), .val (.int q5), .val (.int q6), .val (.int (1 : Int32)), .val (.int x0), .val (.int x1), .val (.int x2), .val (.int x3), .val (.int y0), .val (.int y2), .val (.int y1), .val (.int y3), .val (.int y0), .val (.int s1), .val (.int s2), .val (.int y3), .unset, .unset, .unset] [(.ref b26), (.ref b26)]))
    refine own_go (fun _ kt => XS.iconst X26.here hx rfl (hb hby at_123) kt) ?_
    show own_R _ _ _ _ (T26.setTop (mkF m 124 #[.val (.int p1), .val (.int ff), .val (.int q3), .val (.int q4), .val (.int q5), .val (.int q6), .val (.int (1 : Int32)), .val (.int x0), .val (.int x1), .val (.int x2), .val (.int x3), .val (.int y0), .val (.int y2), .val (.int y1), .val (.int y3), .val (.int y0), .val (.int s1), .val (.int s2), .val (.int y3), .unset, .unset, .unset] [(.int (0 : Int32)), (.ref b26), (.ref b26)]))
    refine own_go (fun _ kt => XS.iload X26.here hx rfl (hb hby at_124) rfl kt) ?_
    show own_R _ _ _ _ (T26.setTop (mkF m 126 #[.val (.int p1), .val (.int ff), .val (.int q3), .val (.int q4), .val (.int q5), .val (.int q6), .val (.int (1 : Int32)), .val (.int x0), .val (.int x1), .val (.int x2), .val (.int x3), .val (.int y0), .val (.int y2), .val (.int y1), .val (.int y3), .val (.int y0), .val (.int s1), .val (.int s2), .val (.int y3), .unset, .unset, .unset] [(.int y0), (.int (0 : Int32)), (.ref b26), (.ref b26)]))
    obtain ⟨T27, h27, sl27, X27, e27, W27, V27, st27⟩ := own_stI X26 hx hZ e26 V_b26 (j := (0 : Int32)) (i := 0) ⟨by decide, by decide⟩ rfl (Nat.le_of_ble_eq_true rfl) rfl (g := (mkF m 126 #[.val (.int p1), .val (.int ff), .val (.int q3), .val (.int q4), .val (.int q5), .val (.int q6), .val (.int (1 : Int32)), .val (.int x0), .val (.int x1), .val (.int x2), .val (.int x3), .val (.int y0), .val (.int y2), .val (.int y1), .val (.int y3), .val (.int y0), .val (.int s1), .val (.int s2), .val (.int y3), .unset, .unset, .unset] [(.int y0), (.int (0 : Int32)), (.ref b26), (.ref b26)])) rfl rfl (hb hby at_126)
    refine own_go st27 ?_
    have ZS := Nat.le_trans ZS (Keep.of_wr W27).1
    have KP := KP.wr W27 (Or.inr sz_b26)
    have NF := Fr.snoc X27 NF g_b26
    have V_b26 : Arv Z h27 b26 k26 .int (1 : Int32) [(.int y0)] (.int (0 : Int32)) := V27
    show own_R _ _ _ _ (T27.setTop (mkF m 127 #[.val (.int p1), .val (.int ff), .val (.int q3), .val (.int q4), .val (.int q5), .val (.int q6), .val (.int (1 : Int32)), .val (.int x0), .val (.int x1), .val (.int x2), .val (.int x3), .val (.int y0), .val (.int y2), .val (.int y1), .val (.int y3), .val (.int y0), .val (.int s1), .val (.int s2), .val (.int y3), .unset, .unset, .unset] [(.ref b26)]))
    refine own_go (fun _ kt => XS.goto X27.here hx rfl (pc0 := 127) (pc' := 202) rfl (hb hby at_127) (by decide) (by decide) kt) ?_
    show own_R _ _ _ _ (T27.setTop (mkF m 202 #[.val (.int p1), .val (.int ff), .val (.int q3), .val (.int q4), .val (.int q5), .val (.int q6), .val (.int (1 : Int32)), .val (.int x0), .val (.int x1), .val (.int x2), .val (.int x3), .val (.int y0), .val (.int y2), .val (.int y1), .val (.int y3), .val (.int y0), .val (.int s1), .val (.int s2), .val (.int y3), .unset, .unset, .unset] [(.ref b26)]))
    refine own_go (fun _ kt => XS.astore X27.here hx rfl (hb hby at_202) rfl rfl (l' := #[.val (.int p1), .val (.int ff), .val (.int q3), .val (.int q4), .val (.int q5), .val (.int q6), .val (.int (1 : Int32)), .val (.int x0), .val (.int x1), .val (.int x2), .val (.int x3), .val (.int y0), .val (.int y2), .val (.int y1), .val (.int y3), .val (.int y0), .val (.int s1), .val (.int s2), .val (.int y3), .val (.ref b26), .unset, .unset]) rfl kt) ?_
    show own_R _ _ _ _ (T27.setTop (mkF m 204 #[.val (.int p1), .val (.int ff), .val (.int q3), .val (.int q4), .val (.int q5), .val (.int q6), .val (.int (1 : Int32)), .val (.int x0), .val (.int x1), .val (.int x2), .val (.int x3), .val (.int y0), .val (.int y2), .val (.int y1), .val (.int y3), .val (.int y0), .val (.int s1), .val (.int s2), .val (.int y3), .val (.ref b26), .unset, .unset] []))
    refine own_go (fun _ kt => XS.iconst X27.here hx rfl (hb hby at_204) kt) ?_
    show own_R _ _ _ _ (T27.setTop (mkF m 205 #[.val (.int p1), .val (.int ff), .val (.int q3), .val (.int q4), .val (.int q5), .val (.int q6), .val (.int (1 : Int32)), .val (.int x0), .val (.int x1), .val (.int x2), .val (.int x3), .val (.int y0), .val (.int y2), .val (.int y1), .val (.int y3), .val (.int y0), .val (.int s1), .val (.int s2), .val (.int y3), .val (.ref b26), .unset, .unset] [(.int (0 : Int32))]))
    refine own_go (fun _ kt => XS.istore X27.here hx rfl (hb hby at_205) rfl (l' := #[.val (.int p1), .val (.int ff), .val (.int q3), .val (.int q4), .val (.int q5), .val (.int q6), .val (.int (1 : Int32)), .val (.int x0), .val (.int x1), .val (.int x2), .val (.int x3), .val (.int y0), .val (.int y2), .val (.int y1), .val (.int y3), .val (.int y0), .val (.int s1), .val (.int s2), .val (.int y3), .val (.ref b26), .val (.int (0 : Int32)), .unset]) rfl kt) ?_
    show own_R _ _ _ _ (T27.setTop (mkF m 207 #[.val (.int p1), .val (.int ff), .val (.int q3), .val (.int q4), .val (.int q5), .val (.int q6), .val (.int (1 : Int32)), .val (.int x0), .val (.int x1), .val (.int x2), .val (.int x3), .val (.int y0), .val (.int y2), .val (.int y1), .val (.int y3), .val (.int y0), .val (.int s1), .val (.int s2), .val (.int y3), .val (.ref b26), .val (.int (0 : Int32)), .unset] []))
    refine own_go (fun _ kt => XS.iload X27.here hx rfl (hb hby at_207) rfl kt) ?_
    show own_R _ _ _ _ (T27.setTop (mkF m 209 #[.val (.int p1), .val (.int ff), .val (.int q3), .val (.int q4), .val (.int q5), .val (.int q6), .val (.int (1 : Int32)), .val (.int x0), .val (.int x1), .val (.int x2), .val (.int x3), .val (.int y0), .val (.int y2), .val (.int y1), .val (.int y3), .val (.int y0), .val (.int s1), .val (.int s2), .val (.int y3), .val (.ref b26), .val (.int (0 : Int32)), .unset] [(.int (1 : Int32))]))
    refine own_go (fun _ kt => XS.ifNo X27.here hx rfl (hb hby at_209) rfl ((if0 _ _).trans (tlt (by decide : (0 : Int32) < (1 : Int32))).2.2.2) kt) ?_
    show own_R _ _ _ _ (T27.setTop (mkF m 212 #[.val (.int p1), .val (.int ff), .val (.int q3), .val (.int q4), .val (.int q5), .val (.int q6), .val (.int (1 : Int32)), .val (.int x0), .val (.int x1), .val (.int x2), .val (.int x3), .val (.int y0), .val (.int y2), .val (.int y1), .val (.int y3), .val (.int y0), .val (.int s1), .val (.int s2), .val (.int y3), .val (.ref b26), .val (.int (0 : Int32)), .unset] []))
    refine own_go (fun _ kt => XS.iload X27.here hx rfl (hb hby at_212) rfl kt) ?_
    show own_R _ _ _ _ (T27.setTop (mkF m 214 #[.val (.int p1), .val (.int ff), .val (.int q3), .val (.int q4), .val (.int q5), .val (.int q6), .val (.int (1 : Int32)), .val (.int x0), .val (.int x1), .val (.int x2), .val (.int x3), .val (.int y0), .val (.int y2), .val (.int y1), .val (.int y3), .val (.int y0), .val (.int s1), .val (.int s2), .val (.int y3), .val (.ref b26), .val (.int (0 : Int32)), .unset] [(.int (0 : Int32))]))
    refine own_go (fun _ kt => XS.iload X27.here hx rfl (hb hby at_214) rfl kt) ?_
    show own_R _ _ _ _ (T27.setTop (mkF m 216 #[.val (.int p1), .val (.int ff), .val (.int q3), .val (.int q4), .val (.int q5), .val (.int q6), .val (.int (1 : Int32)), .val (.int x0), .val (.int x1), .val (.int x2), .val (.int x3), .val (.int y0), .val (.int y2), .val (.int y1), .val (.int y3), .val (.int y0), .val (.int s1), .val (.int s2), .val (.int y3), .val (.ref b26), .val (.int (0 : Int32)), .unset] [(.int y0), (.int (0 : Int32))]))
    refine own_go (fun _ kt => XS.iloadN X27.here hx rfl (hb hby at_216) rfl kt) ?_
    show own_R _ _ _ _ (T27.setTop (mkF m 217 #[.val (.int p1), .val (.int ff), .val (.int q3), .val (.int q4), .val (.int q5), .val (.int q6), .val (.int (1 : Int32)), .val (.int x0), .val (.int x1), .val (.int x2), .val (.int x3), .val (.int y0), .val (.int y2), .val (.int y1), .val (.int y3), .val (.int y0), .val (.int s1), .val (.int s2), .val (.int y3), .val (.ref b26), .val (.int (0 : Int32)), .unset] [(.int ff), (.int y0), (.int (0 : Int32))]))
    obtain ⟨_, _, ⟨T28, L28, k28, n28⟩, -, X28, ⟨Lc28, hQ28, l28, y28, z28⟩, st28⟩ := Jvm.LawKit.callS X27 hx (y := (⟨"com/example/parametree/parametree/ExpressionOuterPinLaw", "below", "(II)I"⟩ : MethodName)) hown (mvT hZ (hw _ (List.mem_of_getElem? (i := 13) rfl))) (mvT hZ (hw _ (List.mem_of_getElem? (i := 14) rfl))) (mvT hZ (hw _ (List.mem_of_getElem? (i := 15) rfl))) (mvT hZ (hw _ (List.mem_of_getElem? (i := 16) rfl))) (by decide) (backOf (W := 1) (rm4 l Z a0 hw [] y0 ff h27 n0 ZS) hZ (hw _ (List.mem_of_getElem? (i := 16) rfl)) (hw _ (List.mem_of_getElem? (i := 15) rfl)) (by decide) (by decide)) (g := (mkF m 217 #[.val (.int p1), .val (.int ff), .val (.int q3), .val (.int q4), .val (.int q5), .val (.int q6), .val (.int (1 : Int32)), .val (.int x0), .val (.int x1), .val (.int x2), .val (.int x3), .val (.int y0), .val (.int y2), .val (.int y1), .val (.int y3), .val (.int y0), .val (.int s1), .val (.int s2), .val (.int y3), .val (.ref b26), .val (.int (0 : Int32)), .unset] [(.int ff), (.int y0), (.int (0 : Int32))])) rfl (by rw [hml]; rfl) (argsL := [(.int y0), (.int ff)]) (rest := [(.int (0 : Int32))]) (lenOf pd_0 rfl) rfl (by show 2 * 0 + _ ≤ _; exact Nat.le_of_eq rfl) (hb hby at_217) (fun _ _ => ⟨rfl, e27, (by decide : 1 + 0 ≤ _), (by decide : 1 + 0 ≤ _)⟩)
    dsimp only [Pt.U, Pt.locs, Pt.cells, Pt.slots] at X28 l28 y28 z28 st28 hQ28
    subst l28 y28 z28
    obtain ⟨rfl, N28q, e28⟩ := hQ28
    have NF := Fr.app NF N28q
    refine own_go st28 ?_
    show own_R _ _ _ _ (T28.setTop (mkF m 220 #[.val (.int p1), .val (.int ff), .val (.int q3), .val (.int q4), .val (.int q5), .val (.int q6), .val (.int (1 : Int32)), .val (.int x0), .val (.int x1), .val (.int x2), .val (.int x3), .val (.int y0), .val (.int y2), .val (.int y1), .val (.int y3), .val (.int y0), .val (.int s1), .val (.int s2), .val (.int y3), .val (.ref b26), .val (.int (0 : Int32)), .unset] [(.int (own_blw y0 ff)), (.int (0 : Int32))]))
    refine own_go (fun _ kt => XS.iadd X28.here hx rfl (hb hby at_220) rfl kt) ?_
    show own_R _ _ _ _ (T28.setTop (mkF m 221 #[.val (.int p1), .val (.int ff), .val (.int q3), .val (.int q4), .val (.int q5), .val (.int q6), .val (.int (1 : Int32)), .val (.int x0), .val (.int x1), .val (.int x2), .val (.int x3), .val (.int y0), .val (.int y2), .val (.int y1), .val (.int y3), .val (.int y0), .val (.int s1), .val (.int s2), .val (.int y3), .val (.ref b26), .val (.int (0 : Int32)), .unset] [(.int ((0 : Int32) + (own_blw y0 ff)))]))
    refine own_go (fun _ kt => XS.istore X28.here hx rfl (hb hby at_221) rfl (l' := #[.val (.int p1), .val (.int ff), .val (.int q3), .val (.int q4), .val (.int q5), .val (.int q6), .val (.int (1 : Int32)), .val (.int x0), .val (.int x1), .val (.int x2), .val (.int x3), .val (.int y0), .val (.int y2), .val (.int y1), .val (.int y3), .val (.int y0), .val (.int s1), .val (.int s2), .val (.int y3), .val (.ref b26), .val (.int ((0 : Int32) + (own_blw y0 ff))), .unset]) rfl kt) ?_
    show own_R _ _ _ _ (T28.setTop (mkF m 223 #[.val (.int p1), .val (.int ff), .val (.int q3), .val (.int q4), .val (.int q5), .val (.int q6), .val (.int (1 : Int32)), .val (.int x0), .val (.int x1), .val (.int x2), .val (.int x3), .val (.int y0), .val (.int y2), .val (.int y1), .val (.int y3), .val (.int y0), .val (.int s1), .val (.int s2), .val (.int y3), .val (.ref b26), .val (.int ((0 : Int32) + (own_blw y0 ff))), .unset] []))
    refine own_go (fun _ kt => XS.iload X28.here hx rfl (hb hby at_223) rfl kt) ?_
    show own_R _ _ _ _ (T28.setTop (mkF m 225 #[.val (.int p1), .val (.int ff), .val (.int q3), .val (.int q4), .val (.int q5), .val (.int q6), .val (.int (1 : Int32)), .val (.int x0), .val (.int x1), .val (.int x2), .val (.int x3), .val (.int y0), .val (.int y2), .val (.int y1), .val (.int y3), .val (.int y0), .val (.int s1), .val (.int s2), .val (.int y3), .val (.ref b26), .val (.int ((0 : Int32) + (own_blw y0 ff))), .unset] [(.int (1 : Int32))]))
    refine own_go (fun _ kt => XS.iconst X28.here hx rfl (hb hby at_225) kt) ?_
    show own_R _ _ _ _ (T28.setTop (mkF m 226 #[.val (.int p1), .val (.int ff), .val (.int q3), .val (.int q4), .val (.int q5), .val (.int q6), .val (.int (1 : Int32)), .val (.int x0), .val (.int x1), .val (.int x2), .val (.int x3), .val (.int y0), .val (.int y2), .val (.int y1), .val (.int y3), .val (.int y0), .val (.int s1), .val (.int s2), .val (.int y3), .val (.ref b26), .val (.int ((0 : Int32) + (own_blw y0 ff))), .unset] [(.int (1 : Int32)), (.int (1 : Int32))]))
    refine own_go (fun _ kt => XS.icmpYes X28.here hx rfl (pc0 := 226) (pc' := 240) rfl (hb hby at_226) rfl (flt (by decide : ¬ ((1 : Int32) < (1 : Int32)))).2.2.2 (by decide) (by decide) kt) ?_
    show own_R _ _ _ _ (T28.setTop (mkF m 240 #[.val (.int p1), .val (.int ff), .val (.int q3), .val (.int q4), .val (.int q5), .val (.int q6), .val (.int (1 : Int32)), .val (.int x0), .val (.int x1), .val (.int x2), .val (.int x3), .val (.int y0), .val (.int y2), .val (.int y1), .val (.int y3), .val (.int y0), .val (.int s1), .val (.int s2), .val (.int y3), .val (.ref b26), .val (.int ((0 : Int32) + (own_blw y0 ff))), .unset] []))
    refine own_go (fun _ kt => XS.iload X28.here hx rfl (hb hby at_240) rfl kt) ?_
    show own_R _ _ _ _ (T28.setTop (mkF m 242 #[.val (.int p1), .val (.int ff), .val (.int q3), .val (.int q4), .val (.int q5), .val (.int q6), .val (.int (1 : Int32)), .val (.int x0), .val (.int x1), .val (.int x2), .val (.int x3), .val (.int y0), .val (.int y2), .val (.int y1), .val (.int y3), .val (.int y0), .val (.int s1), .val (.int s2), .val (.int y3), .val (.ref b26), .val (.int ((0 : Int32) + (own_blw y0 ff))), .unset] [(.int (1 : Int32))]))
    refine own_go (fun _ kt => XS.iconst X28.here hx rfl (hb hby at_242) kt) ?_
    show own_R _ _ _ _ (T28.setTop (mkF m 243 #[.val (.int p1), .val (.int ff), .val (.int q3), .val (.int q4), .val (.int q5), .val (.int q6), .val (.int (1 : Int32)), .val (.int x0), .val (.int x1), .val (.int x2), .val (.int x3), .val (.int y0), .val (.int y2), .val (.int y1), .val (.int y3), .val (.int y0), .val (.int s1), .val (.int s2), .val (.int y3), .val (.ref b26), .val (.int ((0 : Int32) + (own_blw y0 ff))), .unset] [(.int (2 : Int32)), (.int (1 : Int32))]))
    refine own_go (fun _ kt => XS.icmpYes X28.here hx rfl (pc0 := 243) (pc' := 257) rfl (hb hby at_243) rfl (flt (by decide : ¬ ((2 : Int32) < (1 : Int32)))).2.2.2 (by decide) (by decide) kt) ?_
    show own_R _ _ _ _ (T28.setTop (mkF m 257 #[.val (.int p1), .val (.int ff), .val (.int q3), .val (.int q4), .val (.int q5), .val (.int q6), .val (.int (1 : Int32)), .val (.int x0), .val (.int x1), .val (.int x2), .val (.int x3), .val (.int y0), .val (.int y2), .val (.int y1), .val (.int y3), .val (.int y0), .val (.int s1), .val (.int s2), .val (.int y3), .val (.ref b26), .val (.int ((0 : Int32) + (own_blw y0 ff))), .unset] []))
    refine own_go (fun _ kt => XS.iload X28.here hx rfl (hb hby at_257) rfl kt) ?_
    show own_R _ _ _ _ (T28.setTop (mkF m 259 #[.val (.int p1), .val (.int ff), .val (.int q3), .val (.int q4), .val (.int q5), .val (.int q6), .val (.int (1 : Int32)), .val (.int x0), .val (.int x1), .val (.int x2), .val (.int x3), .val (.int y0), .val (.int y2), .val (.int y1), .val (.int y3), .val (.int y0), .val (.int s1), .val (.int s2), .val (.int y3), .val (.ref b26), .val (.int ((0 : Int32) + (own_blw y0 ff))), .unset] [(.int (1 : Int32))]))
    refine own_go (fun _ kt => XS.iconst X28.here hx rfl (hb hby at_259) kt) ?_
    show own_R _ _ _ _ (T28.setTop (mkF m 260 #[.val (.int p1), .val (.int ff), .val (.int q3), .val (.int q4), .val (.int q5), .val (.int q6), .val (.int (1 : Int32)), .val (.int x0), .val (.int x1), .val (.int x2), .val (.int x3), .val (.int y0), .val (.int y2), .val (.int y1), .val (.int y3), .val (.int y0), .val (.int s1), .val (.int s2), .val (.int y3), .val (.ref b26), .val (.int ((0 : Int32) + (own_blw y0 ff))), .unset] [(.int (3 : Int32)), (.int (1 : Int32))]))
    refine own_go (fun _ kt => XS.icmpYes X28.here hx rfl (pc0 := 260) (pc' := 274) rfl (hb hby at_260) rfl (flt (by decide : ¬ ((3 : Int32) < (1 : Int32)))).2.2.2 (by decide) (by decide) kt) ?_
    show own_R _ _ _ _ (T28.setTop (mkF m 274 #[.val (.int p1), .val (.int ff), .val (.int q3), .val (.int q4), .val (.int q5), .val (.int q6), .val (.int (1 : Int32)), .val (.int x0), .val (.int x1), .val (.int x2), .val (.int x3), .val (.int y0), .val (.int y2), .val (.int y1), .val (.int y3), .val (.int y0), .val (.int s1), .val (.int s2), .val (.int y3), .val (.ref b26), .val (.int ((0 : Int32) + (own_blw y0 ff))), .unset] []))
    refine own_go (fun _ kt => XS.aload X28.here hx rfl (hb hby at_274) rfl rfl kt) ?_
    show own_R _ _ _ _ (T28.setTop (mkF m 276 #[.val (.int p1), .val (.int ff), .val (.int q3), .val (.int q4), .val (.int q5), .val (.int q6), .val (.int (1 : Int32)), .val (.int x0), .val (.int x1), .val (.int x2), .val (.int x3), .val (.int y0), .val (.int y2), .val (.int y1), .val (.int y3), .val (.int y0), .val (.int s1), .val (.int s2), .val (.int y3), .val (.ref b26), .val (.int ((0 : Int32) + (own_blw y0 ff))), .unset] [(.ref b26)]))
    refine own_go (fun _ kt => XS.iloadN X28.here hx rfl (hb hby at_276) rfl kt) ?_
    show own_R _ _ _ _ (T28.setTop (mkF m 277 #[.val (.int p1), .val (.int ff), .val (.int q3), .val (.int q4), .val (.int q5), .val (.int q6), .val (.int (1 : Int32)), .val (.int x0), .val (.int x1), .val (.int x2), .val (.int x3), .val (.int y0), .val (.int y2), .val (.int y1), .val (.int y3), .val (.int y0), .val (.int s1), .val (.int s2), .val (.int y3), .val (.ref b26), .val (.int ((0 : Int32) + (own_blw y0 ff))), .unset] [(.int ff), (.ref b26)]))
    obtain ⟨_, _, ⟨T29, L29, k29, n29⟩, -, X29, ⟨Lc29, hQ29, l29, y29, z29⟩, st29⟩ := Jvm.LawKit.callS X28 hx (y := (⟨"com/example/parametree/parametree/Expression", "outer", "([II)I"⟩ : MethodName)) hown (mvT hZ (hw _ (List.mem_of_getElem? (i := 9) rfl))) (mvT hZ (hw _ (List.mem_of_getElem? (i := 10) rfl))) (mvT hZ (hw _ (List.mem_of_getElem? (i := 11) rfl))) (mvT hZ (hw _ (List.mem_of_getElem? (i := 12) rfl))) (by decide) (backOf (W := 0) (rm3_1 l Z a0 hw [] b26 ff k26 y0 h27 n0 ZS V_b26) hZ (hw _ (List.mem_of_getElem? (i := 12) rfl)) (hw _ (List.mem_of_getElem? (i := 11) rfl)) (by decide) (by decide)) (g := (mkF m 277 #[.val (.int p1), .val (.int ff), .val (.int q3), .val (.int q4), .val (.int q5), .val (.int q6), .val (.int (1 : Int32)), .val (.int x0), .val (.int x1), .val (.int x2), .val (.int x3), .val (.int y0), .val (.int y2), .val (.int y1), .val (.int y3), .val (.int y0), .val (.int s1), .val (.int s2), .val (.int y3), .val (.ref b26), .val (.int ((0 : Int32) + (own_blw y0 ff))), .unset] [(.int ff), (.ref b26)])) rfl (by rw [hml]; rfl) (argsL := [(.ref b26), (.int ff)]) (rest := []) (lenOf pd_1 rfl) rfl (by show 2 * 0 + _ ≤ _; exact Nat.le_of_eq rfl) (hb hby at_277) (fun _ _ => ⟨rfl, e28, (by decide : 1 + 0 ≤ _), (by decide : 1 + 0 ≤ _)⟩)
    dsimp only [Pt.U, Pt.locs, Pt.cells, Pt.slots] at X29 l29 y29 z29 st29 hQ29
    subst l29 y29 z29
    obtain ⟨rfl, N29q, e29⟩ := hQ29
    have NF := Fr.app NF N29q
    refine own_go st29 ?_
    show own_R _ _ _ _ (T29.setTop (mkF m 280 #[.val (.int p1), .val (.int ff), .val (.int q3), .val (.int q4), .val (.int q5), .val (.int q6), .val (.int (1 : Int32)), .val (.int x0), .val (.int x1), .val (.int x2), .val (.int x3), .val (.int y0), .val (.int y2), .val (.int y1), .val (.int y3), .val (.int y0), .val (.int s1), .val (.int s2), .val (.int y3), .val (.ref b26), .val (.int ((0 : Int32) + (own_blw y0 ff))), .unset] [(.int (own_out ff [y0]))]))
    refine own_go (fun _ kt => XS.istore X29.here hx rfl (hb hby at_280) rfl (l' := #[.val (.int p1), .val (.int ff), .val (.int q3), .val (.int q4), .val (.int q5), .val (.int q6), .val (.int (1 : Int32)), .val (.int x0), .val (.int x1), .val (.int x2), .val (.int x3), .val (.int y0), .val (.int y2), .val (.int y1), .val (.int y3), .val (.int y0), .val (.int s1), .val (.int s2), .val (.int y3), .val (.ref b26), .val (.int ((0 : Int32) + (own_blw y0 ff))), .val (.int (own_out ff [y0]))]) rfl kt) ?_
    show own_R _ _ _ _ (T29.setTop (mkF m 282 #[.val (.int p1), .val (.int ff), .val (.int q3), .val (.int q4), .val (.int q5), .val (.int q6), .val (.int (1 : Int32)), .val (.int x0), .val (.int x1), .val (.int x2), .val (.int x3), .val (.int y0), .val (.int y2), .val (.int y1), .val (.int y3), .val (.int y0), .val (.int s1), .val (.int s2), .val (.int y3), .val (.ref b26), .val (.int ((0 : Int32) + (own_blw y0 ff))), .val (.int (own_out ff [y0]))] []))
    refine own_go (fun _ kt => XS.iload X29.here hx rfl (hb hby at_282) rfl kt) ?_
    show own_R _ _ _ _ (T29.setTop (mkF m 284 #[.val (.int p1), .val (.int ff), .val (.int q3), .val (.int q4), .val (.int q5), .val (.int q6), .val (.int (1 : Int32)), .val (.int x0), .val (.int x1), .val (.int x2), .val (.int x3), .val (.int y0), .val (.int y2), .val (.int y1), .val (.int y3), .val (.int y0), .val (.int s1), .val (.int s2), .val (.int y3), .val (.ref b26), .val (.int ((0 : Int32) + (own_blw y0 ff))), .val (.int (own_out ff [y0]))] [(.int (own_out ff [y0]))]))
    refine own_go (fun _ kt => XS.iload X29.here hx rfl (hb hby at_284) rfl kt) ?_
    show own_R _ _ _ _ (T29.setTop (mkF m 286 #[.val (.int p1), .val (.int ff), .val (.int q3), .val (.int q4), .val (.int q5), .val (.int q6), .val (.int (1 : Int32)), .val (.int x0), .val (.int x1), .val (.int x2), .val (.int x3), .val (.int y0), .val (.int y2), .val (.int y1), .val (.int y3), .val (.int y0), .val (.int s1), .val (.int s2), .val (.int y3), .val (.ref b26), .val (.int ((0 : Int32) + (own_blw y0 ff))), .val (.int (own_out ff [y0]))] [(.int ((0 : Int32) + (own_blw y0 ff))), (.int (own_out ff [y0]))]))
    refine own_go (fun _ kt => XS.icmpNo X29.here hx rfl (hb hby at_286) rfl (teq (own_law1 _ _)).2 kt) ?_
    show own_R _ _ _ _ (T29.setTop (mkF m 289 #[.val (.int p1), .val (.int ff), .val (.int q3), .val (.int q4), .val (.int q5), .val (.int q6), .val (.int (1 : Int32)), .val (.int x0), .val (.int x1), .val (.int x2), .val (.int x3), .val (.int y0), .val (.int y2), .val (.int y1), .val (.int y3), .val (.int y0), .val (.int s1), .val (.int s2), .val (.int y3), .val (.ref b26), .val (.int ((0 : Int32) + (own_blw y0 ff))), .val (.int (own_out ff [y0]))] []))
    refine own_go (fun _ kt => XS.iconst X29.here hx rfl (hb hby at_289) kt) ?_
    show own_R _ _ _ _ (T29.setTop (mkF m 290 #[.val (.int p1), .val (.int ff), .val (.int q3), .val (.int q4), .val (.int q5), .val (.int q6), .val (.int (1 : Int32)), .val (.int x0), .val (.int x1), .val (.int x2), .val (.int x3), .val (.int y0), .val (.int y2), .val (.int y1), .val (.int y3), .val (.int y0), .val (.int s1), .val (.int s2), .val (.int y3), .val (.ref b26), .val (.int ((0 : Int32) + (own_blw y0 ff))), .val (.int (own_out ff [y0]))] [(.int (1 : Int32))]))
    refine own_go (fun _ kt => XS.goto X29.here hx rfl (pc0 := 290) (pc' := 294) rfl (hb hby at_290) (by decide) (by decide) kt) ?_
    show own_R _ _ _ _ (T29.setTop (mkF m 294 #[.val (.int p1), .val (.int ff), .val (.int q3), .val (.int q4), .val (.int q5), .val (.int q6), .val (.int (1 : Int32)), .val (.int x0), .val (.int x1), .val (.int x2), .val (.int x3), .val (.int y0), .val (.int y2), .val (.int y1), .val (.int y3), .val (.int y0), .val (.int s1), .val (.int s2), .val (.int y3), .val (.ref b26), .val (.int ((0 : Int32) + (own_blw y0 ff))), .val (.int (own_out ff [y0]))] [(.int (1 : Int32))]))
    exact own_retN X29 hx (t := .boolean) (by simp) Bd.returns (hb hby at_294) hlk ⟨rfl, NF⟩ (by decide) (by decide)
  · show own_R _ _ _ _ (T23.setTop (mkF m 102 #[.val (.int p1), .val (.int ff), .val (.int q3), .val (.int q4), .val (.int q5), .val (.int q6), .val (.int (2 : Int32)), .val (.int x0), .val (.int x1), .val (.int x2), .val (.int x3), .val (.int y0), .val (.int y2), .val (.int y1), .val (.int y3), .val (.int y0), .val (.int s1), .val (.int s2), .val (.int y3), .unset, .unset, .unset] []))
    refine own_go (fun _ kt => XS.iload X23.here hx rfl (hb hby at_102) rfl kt) ?_
    show own_R _ _ _ _ (T23.setTop (mkF m 104 #[.val (.int p1), .val (.int ff), .val (.int q3), .val (.int q4), .val (.int q5), .val (.int q6), .val (.int (2 : Int32)), .val (.int x0), .val (.int x1), .val (.int x2), .val (.int x3), .val (.int y0), .val (.int y2), .val (.int y1), .val (.int y3), .val (.int y0), .val (.int s1), .val (.int s2), .val (.int y3), .unset, .unset, .unset] [(.int (2 : Int32))]))
    refine own_go (fun _ kt => XS.ifYes X23.here hx rfl (pc0 := 104) (pc' := 113) rfl (hb hby at_104) rfl ((if0 _ _).trans (feq (by decide : ¬ ((2 : Int32) = (0 : Int32)))).2) (by decide) (by decide) kt) ?_
    show own_R _ _ _ _ (T23.setTop (mkF m 113 #[.val (.int p1), .val (.int ff), .val (.int q3), .val (.int q4), .val (.int q5), .val (.int q6), .val (.int (2 : Int32)), .val (.int x0), .val (.int x1), .val (.int x2), .val (.int x3), .val (.int y0), .val (.int y2), .val (.int y1), .val (.int y3), .val (.int y0), .val (.int s1), .val (.int s2), .val (.int y3), .unset, .unset, .unset] []))
    refine own_go (fun _ kt => XS.iload X23.here hx rfl (hb hby at_113) rfl kt) ?_
    show own_R _ _ _ _ (T23.setTop (mkF m 115 #[.val (.int p1), .val (.int ff), .val (.int q3), .val (.int q4), .val (.int q5), .val (.int q6), .val (.int (2 : Int32)), .val (.int x0), .val (.int x1), .val (.int x2), .val (.int x3), .val (.int y0), .val (.int y2), .val (.int y1), .val (.int y3), .val (.int y0), .val (.int s1), .val (.int s2), .val (.int y3), .unset, .unset, .unset] [(.int (2 : Int32))]))
    refine own_go (fun _ kt => XS.iconst X23.here hx rfl (hb hby at_115) kt) ?_
    show own_R _ _ _ _ (T23.setTop (mkF m 116 #[.val (.int p1), .val (.int ff), .val (.int q3), .val (.int q4), .val (.int q5), .val (.int q6), .val (.int (2 : Int32)), .val (.int x0), .val (.int x1), .val (.int x2), .val (.int x3), .val (.int y0), .val (.int y2), .val (.int y1), .val (.int y3), .val (.int y0), .val (.int s1), .val (.int s2), .val (.int y3), .unset, .unset, .unset] [(.int (1 : Int32)), (.int (2 : Int32))]))
    refine own_go (fun _ kt => XS.icmpYes X23.here hx rfl (pc0 := 116) (pc' := 130) rfl (hb hby at_116) rfl (feq (by decide : ¬ ((2 : Int32) = (1 : Int32)))).2 (by decide) (by decide) kt) ?_
    show own_R _ _ _ _ (T23.setTop (mkF m 130 #[.val (.int p1), .val (.int ff), .val (.int q3), .val (.int q4), .val (.int q5), .val (.int q6), .val (.int (2 : Int32)), .val (.int x0), .val (.int x1), .val (.int x2), .val (.int x3), .val (.int y0), .val (.int y2), .val (.int y1), .val (.int y3), .val (.int y0), .val (.int s1), .val (.int s2), .val (.int y3), .unset, .unset, .unset] []))
    refine own_go (fun _ kt => XS.iload X23.here hx rfl (hb hby at_130) rfl kt) ?_
    show own_R _ _ _ _ (T23.setTop (mkF m 132 #[.val (.int p1), .val (.int ff), .val (.int q3), .val (.int q4), .val (.int q5), .val (.int q6), .val (.int (2 : Int32)), .val (.int x0), .val (.int x1), .val (.int x2), .val (.int x3), .val (.int y0), .val (.int y2), .val (.int y1), .val (.int y3), .val (.int y0), .val (.int s1), .val (.int s2), .val (.int y3), .unset, .unset, .unset] [(.int (2 : Int32))]))
    refine own_go (fun _ kt => XS.iconst X23.here hx rfl (hb hby at_132) kt) ?_
    show own_R _ _ _ _ (T23.setTop (mkF m 133 #[.val (.int p1), .val (.int ff), .val (.int q3), .val (.int q4), .val (.int q5), .val (.int q6), .val (.int (2 : Int32)), .val (.int x0), .val (.int x1), .val (.int x2), .val (.int x3), .val (.int y0), .val (.int y2), .val (.int y1), .val (.int y3), .val (.int y0), .val (.int s1), .val (.int s2), .val (.int y3), .unset, .unset, .unset] [(.int (2 : Int32)), (.int (2 : Int32))]))
    refine own_go (fun _ kt => XS.icmpNo X23.here hx rfl (hb hby at_133) rfl (teq (by decide : (2 : Int32) = (2 : Int32))).2 kt) ?_
    show own_R _ _ _ _ (T23.setTop (mkF m 136 #[.val (.int p1), .val (.int ff), .val (.int q3), .val (.int q4), .val (.int q5), .val (.int q6), .val (.int (2 : Int32)), .val (.int x0), .val (.int x1), .val (.int x2), .val (.int x3), .val (.int y0), .val (.int y2), .val (.int y1), .val (.int y3), .val (.int y0), .val (.int s1), .val (.int s2), .val (.int y3), .unset, .unset, .unset] []))
    refine own_go (fun _ kt => XS.iconst X23.here hx rfl (hb hby at_136) kt) ?_
    show own_R _ _ _ _ (T23.setTop (mkF m 137 #[.val (.int p1), .val (.int ff), .val (.int q3), .val (.int q4), .val (.int q5), .val (.int q6), .val (.int (2 : Int32)), .val (.int x0), .val (.int x1), .val (.int x2), .val (.int x3), .val (.int y0), .val (.int y2), .val (.int y1), .val (.int y3), .val (.int y0), .val (.int s1), .val (.int s2), .val (.int y3), .unset, .unset, .unset] [(.int (2 : Int32))]))
    obtain ⟨T30, h30, k30, X30, e30, E30, A30, st30⟩ := newP X23 hx hZ (hw _ (List.mem_of_getElem? (i := 8) rfl)) e23 (g := (mkF m 137 #[.val (.int p1), .val (.int ff), .val (.int q3), .val (.int q4), .val (.int q5), .val (.int q6), .val (.int (2 : Int32)), .val (.int x0), .val (.int x1), .val (.int x2), .val (.int x3), .val (.int y0), .val (.int y2), .val (.int y1), .val (.int y3), .val (.int y0), .val (.int s1), .val (.int s2), .val (.int y3), .unset, .unset, .unset] [(.int (2 : Int32))])) rfl (hb hby at_137) rfl (by decide) (cap := 2) (by decide) (by decide) (by decide) (by decide)
    obtain ⟨b30, g30⟩ : ∃ z, z = h0.size := ⟨_, rfl⟩
    rw [← g30] at A30 st30
    refine own_go st30 ?_
    have g_b30 : n0 ≤ b30 := Nat.le_trans ZS (Nat.le_of_eq g30.symm)
    have sz_b30 : h0.size ≤ b30 := Nat.le_trans KP.1 (Nat.le_of_eq g30.symm)
    have ZS := Nat.le_trans ZS E30.1
    have KP := KP.ext E30
    have V_b30 : Arv Z h30 b30 k30 .int (2 : Int32) [(.int (0 : Int32)), (.int (0 : Int32))] (.int (0 : Int32)) := (Arv.new A30 (by decide)).pad (pad_rep [] (.int (0 : Int32)) 2)
    show own_R _ _ _ _ (T30.setTop (mkF m 139 #[.val (.int p1), .val (.int ff), .val (.int q3), .val (.int q4), .val (.int q5), .val (.int q6), .val (.int (2 : Int32)), .val (.int x0), .val (.int x1), .val (.int x2), .val (.int x3), .val (.int y0), .val (.int y2), .val (.int y1), .val (.int y3), .val (.int y0), .val (.int s1), .val (.int s2), .val (.int y3), .unset, .unset, .unset] [(.ref b30)]))
    refine own_go (fun _ kt => XS.dup X30.here hx rfl (hb hby at_139) rfl rfl kt) ?_
    show own_R _ _ _ _ (T30.setTop (mkF m 140 #[.val (.int p1), .val (.int ff), .val (.int q3), .val (.int q4), .val (.int q5), .val (.int q6), .val (.int (2 : Int32)), .val (.int x0), .val (.int x1), .val (.int x2), .val (.int x3), .val (.int y0), .val (.int y2), .val (.int y1), .val (.int y3), .val (.int y0), .val (.int s1), .val (.int s2), .val (.int y3), .unset, .unset, .unset] [(.ref b30), (.ref b30)]))
    refine own_go (fun _ kt => XS.iconst X30.here hx rfl (hb hby at_140) kt) ?_
    show own_R _ _ _ _ (T30.setTop (mkF m 141 #[.val (.int p1), .val (.int ff), .val (.int q3), .val (.int q4), .val (.int q5), .val (.int q6), .val (.int (2 : Int32)), .val (.int x0), .val (.int x1), .val (.int x2), .val (.int x3), .val (.int y0), .val (.int y2), .val (.int y1), .val (.int y3), .val (.int y0), .val (.int s1), .val (.int s2), .val (.int y3), .unset, .unset, .unset] [(.int (0 : Int32)), (.ref b30), (.ref b30)]))
    refine own_go (fun _ kt => XS.iload X30.here hx rfl (hb hby at_141) rfl kt) ?_
    show own_R _ _ _ _ (T30.setTop (mkF m 143 #[.val (.int p1), .val (.int ff), .val (.int q3), .val (.int q4), .val (.int q5), .val (.int q6), .val (.int (2 : Int32)), .val (.int x0), .val (.int x1), .val (.int x2), .val (.int x3), .val (.int y0), .val (.int y2), .val (.int y1), .val (.int y3), .val (.int y0), .val (.int s1), .val (.int s2), .val (.int y3), .unset, .unset, .unset] [(.int y0), (.int (0 : Int32)), (.ref b30), (.ref b30)]))
    obtain ⟨T31, h31, sl31, X31, e31, W31, V31, st31⟩ := own_stI X30 hx hZ e30 V_b30 (j := (0 : Int32)) (i := 0) ⟨by decide, by decide⟩ rfl (Nat.le_of_ble_eq_true rfl) rfl (g := (mkF m 143 #[.val (.int p1), .val (.int ff), .val (.int q3), .val (.int q4), .val (.int q5), .val (.int q6), .val (.int (2 : Int32)), .val (.int x0), .val (.int x1), .val (.int x2), .val (.int x3), .val (.int y0), .val (.int y2), .val (.int y1), .val (.int y3), .val (.int y0), .val (.int s1), .val (.int s2), .val (.int y3), .unset, .unset, .unset] [(.int y0), (.int (0 : Int32)), (.ref b30), (.ref b30)])) rfl rfl (hb hby at_143)
    refine own_go st31 ?_
    have ZS := Nat.le_trans ZS (Keep.of_wr W31).1
    have KP := KP.wr W31 (Or.inr sz_b30)
    have NF := Fr.snoc X31 NF g_b30
    have V_b30 : Arv Z h31 b30 k30 .int (2 : Int32) [(.int y0), (.int (0 : Int32))] (.int (0 : Int32)) := V31
    show own_R _ _ _ _ (T31.setTop (mkF m 144 #[.val (.int p1), .val (.int ff), .val (.int q3), .val (.int q4), .val (.int q5), .val (.int q6), .val (.int (2 : Int32)), .val (.int x0), .val (.int x1), .val (.int x2), .val (.int x3), .val (.int y0), .val (.int y2), .val (.int y1), .val (.int y3), .val (.int y0), .val (.int s1), .val (.int s2), .val (.int y3), .unset, .unset, .unset] [(.ref b30)]))
    refine own_go (fun _ kt => XS.dup X31.here hx rfl (hb hby at_144) rfl rfl kt) ?_
    show own_R _ _ _ _ (T31.setTop (mkF m 145 #[.val (.int p1), .val (.int ff), .val (.int q3), .val (.int q4), .val (.int q5), .val (.int q6), .val (.int (2 : Int32)), .val (.int x0), .val (.int x1), .val (.int x2), .val (.int x3), .val (.int y0), .val (.int y2), .val (.int y1), .val (.int y3), .val (.int y0), .val (.int s1), .val (.int s2), .val (.int y3), .unset, .unset, .unset] [(.ref b30), (.ref b30)]))
    refine own_go (fun _ kt => XS.iconst X31.here hx rfl (hb hby at_145) kt) ?_
    show own_R _ _ _ _ (T31.setTop (mkF m 146 #[.val (.int p1), .val (.int ff), .val (.int q3), .val (.int q4), .val (.int q5), .val (.int q6), .val (.int (2 : Int32)), .val (.int x0), .val (.int x1), .val (.int x2), .val (.int x3), .val (.int y0), .val (.int y2), .val (.int y1), .val (.int y3), .val (.int y0), .val (.int s1), .val (.int s2), .val (.int y3), .unset, .unset, .unset] [(.int (1 : Int32)), (.ref b30), (.ref b30)]))
    refine own_go (fun _ kt => XS.iload X31.here hx rfl (hb hby at_146) rfl kt) ?_
    show own_R _ _ _ _ (T31.setTop (mkF m 148 #[.val (.int p1), .val (.int ff), .val (.int q3), .val (.int q4), .val (.int q5), .val (.int q6), .val (.int (2 : Int32)), .val (.int x0), .val (.int x1), .val (.int x2), .val (.int x3), .val (.int y0), .val (.int y2), .val (.int y1), .val (.int y3), .val (.int y0), .val (.int s1), .val (.int s2), .val (.int y3), .unset, .unset, .unset] [(.int s1), (.int (1 : Int32)), (.ref b30), (.ref b30)]))
    obtain ⟨T32, h32, sl32, X32, e32, W32, V32, st32⟩ := own_stI X31 hx hZ e31 V_b30 (j := (1 : Int32)) (i := 1) ⟨by decide, by decide⟩ rfl (Nat.le_of_ble_eq_true rfl) rfl (g := (mkF m 148 #[.val (.int p1), .val (.int ff), .val (.int q3), .val (.int q4), .val (.int q5), .val (.int q6), .val (.int (2 : Int32)), .val (.int x0), .val (.int x1), .val (.int x2), .val (.int x3), .val (.int y0), .val (.int y2), .val (.int y1), .val (.int y3), .val (.int y0), .val (.int s1), .val (.int s2), .val (.int y3), .unset, .unset, .unset] [(.int s1), (.int (1 : Int32)), (.ref b30), (.ref b30)])) rfl rfl (hb hby at_148)
    refine own_go st32 ?_
    have ZS := Nat.le_trans ZS (Keep.of_wr W32).1
    have KP := KP.wr W32 (Or.inr sz_b30)
    have NF := Fr.snoc X32 NF g_b30
    have V_b30 : Arv Z h32 b30 k30 .int (2 : Int32) [(.int y0), (.int s1)] (.int (0 : Int32)) := V32
    show own_R _ _ _ _ (T32.setTop (mkF m 149 #[.val (.int p1), .val (.int ff), .val (.int q3), .val (.int q4), .val (.int q5), .val (.int q6), .val (.int (2 : Int32)), .val (.int x0), .val (.int x1), .val (.int x2), .val (.int x3), .val (.int y0), .val (.int y2), .val (.int y1), .val (.int y3), .val (.int y0), .val (.int s1), .val (.int s2), .val (.int y3), .unset, .unset, .unset] [(.ref b30)]))
    refine own_go (fun _ kt => XS.goto X32.here hx rfl (pc0 := 149) (pc' := 202) rfl (hb hby at_149) (by decide) (by decide) kt) ?_
    show own_R _ _ _ _ (T32.setTop (mkF m 202 #[.val (.int p1), .val (.int ff), .val (.int q3), .val (.int q4), .val (.int q5), .val (.int q6), .val (.int (2 : Int32)), .val (.int x0), .val (.int x1), .val (.int x2), .val (.int x3), .val (.int y0), .val (.int y2), .val (.int y1), .val (.int y3), .val (.int y0), .val (.int s1), .val (.int s2), .val (.int y3), .unset, .unset, .unset] [(.ref b30)]))
    refine own_go (fun _ kt => XS.astore X32.here hx rfl (hb hby at_202) rfl rfl (l' := #[.val (.int p1), .val (.int ff), .val (.int q3), .val (.int q4), .val (.int q5), .val (.int q6), .val (.int (2 : Int32)), .val (.int x0), .val (.int x1), .val (.int x2), .val (.int x3), .val (.int y0), .val (.int y2), .val (.int y1), .val (.int y3), .val (.int y0), .val (.int s1), .val (.int s2), .val (.int y3), .val (.ref b30), .unset, .unset]) rfl kt) ?_
    show own_R _ _ _ _ (T32.setTop (mkF m 204 #[.val (.int p1), .val (.int ff), .val (.int q3), .val (.int q4), .val (.int q5), .val (.int q6), .val (.int (2 : Int32)), .val (.int x0), .val (.int x1), .val (.int x2), .val (.int x3), .val (.int y0), .val (.int y2), .val (.int y1), .val (.int y3), .val (.int y0), .val (.int s1), .val (.int s2), .val (.int y3), .val (.ref b30), .unset, .unset] []))
    refine own_go (fun _ kt => XS.iconst X32.here hx rfl (hb hby at_204) kt) ?_
    show own_R _ _ _ _ (T32.setTop (mkF m 205 #[.val (.int p1), .val (.int ff), .val (.int q3), .val (.int q4), .val (.int q5), .val (.int q6), .val (.int (2 : Int32)), .val (.int x0), .val (.int x1), .val (.int x2), .val (.int x3), .val (.int y0), .val (.int y2), .val (.int y1), .val (.int y3), .val (.int y0), .val (.int s1), .val (.int s2), .val (.int y3), .val (.ref b30), .unset, .unset] [(.int (0 : Int32))]))
    refine own_go (fun _ kt => XS.istore X32.here hx rfl (hb hby at_205) rfl (l' := #[.val (.int p1), .val (.int ff), .val (.int q3), .val (.int q4), .val (.int q5), .val (.int q6), .val (.int (2 : Int32)), .val (.int x0), .val (.int x1), .val (.int x2), .val (.int x3), .val (.int y0), .val (.int y2), .val (.int y1), .val (.int y3), .val (.int y0), .val (.int s1), .val (.int s2), .val (.int y3), .val (.ref b30), .val (.int (0 : Int32)), .unset]) rfl kt) ?_
    show own_R _ _ _ _ (T32.setTop (mkF m 207 #[.val (.int p1), .val (.int ff), .val (.int q3), .val (.int q4), .val (.int q5), .val (.int q6), .val (.int (2 : Int32)), .val (.int x0), .val (.int x1), .val (.int x2), .val (.int x3), .val (.int y0), .val (.int y2), .val (.int y1), .val (.int y3), .val (.int y0), .val (.int s1), .val (.int s2), .val (.int y3), .val (.ref b30), .val (.int (0 : Int32)), .unset] []))
    refine own_go (fun _ kt => XS.iload X32.here hx rfl (hb hby at_207) rfl kt) ?_
    show own_R _ _ _ _ (T32.setTop (mkF m 209 #[.val (.int p1), .val (.int ff), .val (.int q3), .val (.int q4), .val (.int q5), .val (.int q6), .val (.int (2 : Int32)), .val (.int x0), .val (.int x1), .val (.int x2), .val (.int x3), .val (.int y0), .val (.int y2), .val (.int y1), .val (.int y3), .val (.int y0), .val (.int s1), .val (.int s2), .val (.int y3), .val (.ref b30), .val (.int (0 : Int32)), .unset] [(.int (2 : Int32))]))
    refine own_go (fun _ kt => XS.ifNo X32.here hx rfl (hb hby at_209) rfl ((if0 _ _).trans (tlt (by decide : (0 : Int32) < (2 : Int32))).2.2.2) kt) ?_
    show own_R _ _ _ _ (T32.setTop (mkF m 212 #[.val (.int p1), .val (.int ff), .val (.int q3), .val (.int q4), .val (.int q5), .val (.int q6), .val (.int (2 : Int32)), .val (.int x0), .val (.int x1), .val (.int x2), .val (.int x3), .val (.int y0), .val (.int y2), .val (.int y1), .val (.int y3), .val (.int y0), .val (.int s1), .val (.int s2), .val (.int y3), .val (.ref b30), .val (.int (0 : Int32)), .unset] []))
    refine own_go (fun _ kt => XS.iload X32.here hx rfl (hb hby at_212) rfl kt) ?_
    show own_R _ _ _ _ (T32.setTop (mkF m 214 #[.val (.int p1), .val (.int ff), .val (.int q3), .val (.int q4), .val (.int q5), .val (.int q6), .val (.int (2 : Int32)), .val (.int x0), .val (.int x1), .val (.int x2), .val (.int x3), .val (.int y0), .val (.int y2), .val (.int y1), .val (.int y3), .val (.int y0), .val (.int s1), .val (.int s2), .val (.int y3), .val (.ref b30), .val (.int (0 : Int32)), .unset] [(.int (0 : Int32))]))
    refine own_go (fun _ kt => XS.iload X32.here hx rfl (hb hby at_214) rfl kt) ?_
    show own_R _ _ _ _ (T32.setTop (mkF m 216 #[.val (.int p1), .val (.int ff), .val (.int q3), .val (.int q4), .val (.int q5), .val (.int q6), .val (.int (2 : Int32)), .val (.int x0), .val (.int x1), .val (.int x2), .val (.int x3), .val (.int y0), .val (.int y2), .val (.int y1), .val (.int y3), .val (.int y0), .val (.int s1), .val (.int s2), .val (.int y3), .val (.ref b30), .val (.int (0 : Int32)), .unset] [(.int y0), (.int (0 : Int32))]))
    refine own_go (fun _ kt => XS.iloadN X32.here hx rfl (hb hby at_216) rfl kt) ?_
    show own_R _ _ _ _ (T32.setTop (mkF m 217 #[.val (.int p1), .val (.int ff), .val (.int q3), .val (.int q4), .val (.int q5), .val (.int q6), .val (.int (2 : Int32)), .val (.int x0), .val (.int x1), .val (.int x2), .val (.int x3), .val (.int y0), .val (.int y2), .val (.int y1), .val (.int y3), .val (.int y0), .val (.int s1), .val (.int s2), .val (.int y3), .val (.ref b30), .val (.int (0 : Int32)), .unset] [(.int ff), (.int y0), (.int (0 : Int32))]))
    obtain ⟨_, _, ⟨T33, L33, k33, n33⟩, -, X33, ⟨Lc33, hQ33, l33, y33, z33⟩, st33⟩ := Jvm.LawKit.callS X32 hx (y := (⟨"com/example/parametree/parametree/ExpressionOuterPinLaw", "below", "(II)I"⟩ : MethodName)) hown (mvT hZ (hw _ (List.mem_of_getElem? (i := 13) rfl))) (mvT hZ (hw _ (List.mem_of_getElem? (i := 14) rfl))) (mvT hZ (hw _ (List.mem_of_getElem? (i := 15) rfl))) (mvT hZ (hw _ (List.mem_of_getElem? (i := 16) rfl))) (by decide) (backOf (W := 1) (rm4 l Z a0 hw [] y0 ff h32 n0 ZS) hZ (hw _ (List.mem_of_getElem? (i := 16) rfl)) (hw _ (List.mem_of_getElem? (i := 15) rfl)) (by decide) (by decide)) (g := (mkF m 217 #[.val (.int p1), .val (.int ff), .val (.int q3), .val (.int q4), .val (.int q5), .val (.int q6), .val (.int (2 : Int32)), .val (.int x0), .val (.int x1), .val (.int x2), .val (.int x3), .val (.int y0), .val (.int y2), .val (.int y1), .val (.int y3), .val (.int y0), .val (.int s1), .val (.int s2), .val (.int y3), .val (.ref b30), .val (.int (0 : Int32)), .unset] [(.int ff), (.int y0), (.int (0 : Int32))])) rfl (by rw [hml]; rfl) (argsL := [(.int y0), (.int ff)]) (rest := [(.int (0 : Int32))]) (lenOf pd_0 rfl) rfl (by show 2 * 0 + _ ≤ _; exact Nat.le_of_eq rfl) (hb hby at_217) (fun _ _ => ⟨rfl, e32, (by decide : 1 + 0 ≤ _), (by decide : 2 + 0 ≤ _)⟩)
    dsimp only [Pt.U, Pt.locs, Pt.cells, Pt.slots] at X33 l33 y33 z33 st33 hQ33
    subst l33 y33 z33
    obtain ⟨rfl, N33q, e33⟩ := hQ33
    have NF := Fr.app NF N33q
    refine own_go st33 ?_
    show own_R _ _ _ _ (T33.setTop (mkF m 220 #[.val (.int p1), .val (.int ff), .val (.int q3), .val (.int q4), .val (.int q5), .val (.int q6), .val (.int (2 : Int32)), .val (.int x0), .val (.int x1), .val (.int x2), .val (.int x3), .val (.int y0), .val (.int y2), .val (.int y1), .val (.int y3), .val (.int y0), .val (.int s1), .val (.int s2), .val (.int y3), .val (.ref b30), .val (.int (0 : Int32)), .unset] [(.int (own_blw y0 ff)), (.int (0 : Int32))]))
    refine own_go (fun _ kt => XS.iadd X33.here hx rfl (hb hby at_220) rfl kt) ?_
    show own_R _ _ _ _ (T33.setTop (mkF m 221 #[.val (.int p1), .val (.int ff), .val (.int q3), .val (.int q4), .val (.int q5), .val (.int q6), .val (.int (2 : Int32)), .val (.int x0), .val (.int x1), .val (.int x2), .val (.int x3), .val (.int y0), .val (.int y2), .val (.int y1), .val (.int y3), .val (.int y0), .val (.int s1), .val (.int s2), .val (.int y3), .val (.ref b30), .val (.int (0 : Int32)), .unset] [(.int ((0 : Int32) + (own_blw y0 ff)))]))
    refine own_go (fun _ kt => XS.istore X33.here hx rfl (hb hby at_221) rfl (l' := #[.val (.int p1), .val (.int ff), .val (.int q3), .val (.int q4), .val (.int q5), .val (.int q6), .val (.int (2 : Int32)), .val (.int x0), .val (.int x1), .val (.int x2), .val (.int x3), .val (.int y0), .val (.int y2), .val (.int y1), .val (.int y3), .val (.int y0), .val (.int s1), .val (.int s2), .val (.int y3), .val (.ref b30), .val (.int ((0 : Int32) + (own_blw y0 ff))), .unset]) rfl kt) ?_
    show own_R _ _ _ _ (T33.setTop (mkF m 223 #[.val (.int p1), .val (.int ff), .val (.int q3), .val (.int q4), .val (.int q5), .val (.int q6), .val (.int (2 : Int32)), .val (.int x0), .val (.int x1), .val (.int x2), .val (.int x3), .val (.int y0), .val (.int y2), .val (.int y1), .val (.int y3), .val (.int y0), .val (.int s1), .val (.int s2), .val (.int y3), .val (.ref b30), .val (.int ((0 : Int32) + (own_blw y0 ff))), .unset] []))
    refine own_go (fun _ kt => XS.iload X33.here hx rfl (hb hby at_223) rfl kt) ?_
    show own_R _ _ _ _ (T33.setTop (mkF m 225 #[.val (.int p1), .val (.int ff), .val (.int q3), .val (.int q4), .val (.int q5), .val (.int q6), .val (.int (2 : Int32)), .val (.int x0), .val (.int x1), .val (.int x2), .val (.int x3), .val (.int y0), .val (.int y2), .val (.int y1), .val (.int y3), .val (.int y0), .val (.int s1), .val (.int s2), .val (.int y3), .val (.ref b30), .val (.int ((0 : Int32) + (own_blw y0 ff))), .unset] [(.int (2 : Int32))]))
    refine own_go (fun _ kt => XS.iconst X33.here hx rfl (hb hby at_225) kt) ?_
    show own_R _ _ _ _ (T33.setTop (mkF m 226 #[.val (.int p1), .val (.int ff), .val (.int q3), .val (.int q4), .val (.int q5), .val (.int q6), .val (.int (2 : Int32)), .val (.int x0), .val (.int x1), .val (.int x2), .val (.int x3), .val (.int y0), .val (.int y2), .val (.int y1), .val (.int y3), .val (.int y0), .val (.int s1), .val (.int s2), .val (.int y3), .val (.ref b30), .val (.int ((0 : Int32) + (own_blw y0 ff))), .unset] [(.int (1 : Int32)), (.int (2 : Int32))]))
    refine own_go (fun _ kt => XS.icmpNo X33.here hx rfl (hb hby at_226) rfl (tlt (by decide : (1 : Int32) < (2 : Int32))).2.2.2 kt) ?_
    show own_R _ _ _ _ (T33.setTop (mkF m 229 #[.val (.int p1), .val (.int ff), .val (.int q3), .val (.int q4), .val (.int q5), .val (.int q6), .val (.int (2 : Int32)), .val (.int x0), .val (.int x1), .val (.int x2), .val (.int x3), .val (.int y0), .val (.int y2), .val (.int y1), .val (.int y3), .val (.int y0), .val (.int s1), .val (.int s2), .val (.int y3), .val (.ref b30), .val (.int ((0 : Int32) + (own_blw y0 ff))), .unset] []))
    refine own_go (fun _ kt => XS.iload X33.here hx rfl (hb hby at_229) rfl kt) ?_
    show own_R _ _ _ _ (T33.setTop (mkF m 231 #[.val (.int p1), .val (.int ff), .val (.int q3), .val (.int q4), .val (.int q5), .val (.int q6), .val (.int (2 : Int32)), .val (.int x0), .val (.int x1), .val (.int x2), .val (.int x3), .val (.int y0), .val (.int y2), .val (.int y1), .val (.int y3), .val (.int y0), .val (.int s1), .val (.int s2), .val (.int y3), .val (.ref b30), .val (.int ((0 : Int32) + (own_blw y0 ff))), .unset] [(.int ((0 : Int32) + (own_blw y0 ff)))]))
    refine own_go (fun _ kt => XS.iload X33.here hx rfl (hb hby at_231) rfl kt) ?_
    show own_R _ _ _ _ (T33.setTop (mkF m 233 #[.val (.int p1), .val (.int ff), .val (.int q3), .val (.int q4), .val (.int q5), .val (.int q6), .val (.int (2 : Int32)), .val (.int x0), .val (.int x1), .val (.int x2), .val (.int x3), .val (.int y0), .val (.int y2), .val (.int y1), .val (.int y3), .val (.int y0), .val (.int s1), .val (.int s2), .val (.int y3), .val (.ref b30), .val (.int ((0 : Int32) + (own_blw y0 ff))), .unset] [(.int s1), (.int ((0 : Int32) + (own_blw y0 ff)))]))
    refine own_go (fun _ kt => XS.iloadN X33.here hx rfl (hb hby at_233) rfl kt) ?_
    show own_R _ _ _ _ (T33.setTop (mkF m 234 #[.val (.int p1), .val (.int ff), .val (.int q3), .val (.int q4), .val (.int q5), .val (.int q6), .val (.int (2 : Int32)), .val (.int x0), .val (.int x1), .val (.int x2), .val (.int x3), .val (.int y0), .val (.int y2), .val (.int y1), .val (.int y3), .val (.int y0), .val (.int s1), .val (.int s2), .val (.int y3), .val (.ref b30), .val (.int ((0 : Int32) + (own_blw y0 ff))), .unset] [(.int ff), (.int s1), (.int ((0 : Int32) + (own_blw y0 ff)))]))
    obtain ⟨_, _, ⟨T34, L34, k34, n34⟩, -, X34, ⟨Lc34, hQ34, l34, y34, z34⟩, st34⟩ := Jvm.LawKit.callS X33 hx (y := (⟨"com/example/parametree/parametree/ExpressionOuterPinLaw", "below", "(II)I"⟩ : MethodName)) hown (mvT hZ (hw _ (List.mem_of_getElem? (i := 13) rfl))) (mvT hZ (hw _ (List.mem_of_getElem? (i := 14) rfl))) (mvT hZ (hw _ (List.mem_of_getElem? (i := 15) rfl))) (mvT hZ (hw _ (List.mem_of_getElem? (i := 16) rfl))) (by decide) (backOf (W := 1) (rm4 l Z a0 hw [] s1 ff h32 n0 ZS) hZ (hw _ (List.mem_of_getElem? (i := 16) rfl)) (hw _ (List.mem_of_getElem? (i := 15) rfl)) (by decide) (by decide)) (g := (mkF m 234 #[.val (.int p1), .val (.int ff), .val (.int q3), .val (.int q4), .val (.int q5), .val (.int q6), .val (.int (2 : Int32)), .val (.int x0), .val (.int x1), .val (.int x2), .val (.int x3), .val (.int y0), .val (.int y2), .val (.int y1), .val (.int y3), .val (.int y0), .val (.int s1), .val (.int s2), .val (.int y3), .val (.ref b30), .val (.int ((0 : Int32) + (own_blw y0 ff))), .unset] [(.int ff), (.int s1), (.int ((0 : Int32) + (own_blw y0 ff)))])) rfl (by rw [hml]; rfl) (argsL := [(.int s1), (.int ff)]) (rest := [(.int ((0 : Int32) + (own_blw y0 ff)))]) (lenOf pd_0 rfl) rfl (by show 2 * 0 + _ ≤ _; exact Nat.le_of_eq rfl) (hb hby at_234) (fun _ _ => ⟨rfl, e33, (by decide : 1 + 0 ≤ _), (by decide : 2 + 0 ≤ _)⟩)
    dsimp only [Pt.U, Pt.locs, Pt.cells, Pt.slots] at X34 l34 y34 z34 st34 hQ34
    subst l34 y34 z34
    obtain ⟨rfl, N34q, e34⟩ := hQ34
    have NF := Fr.app NF N34q
    refine own_go st34 ?_
    show own_R _ _ _ _ (T34.setTop (mkF m 237 #[.val (.int p1), .val (.int ff), .val (.int q3), .val (.int q4), .val (.int q5), .val (.int q6), .val (.int (2 : Int32)), .val (.int x0), .val (.int x1), .val (.int x2), .val (.int x3), .val (.int y0), .val (.int y2), .val (.int y1), .val (.int y3), .val (.int y0), .val (.int s1), .val (.int s2), .val (.int y3), .val (.ref b30), .val (.int ((0 : Int32) + (own_blw y0 ff))), .unset] [(.int (own_blw s1 ff)), (.int ((0 : Int32) + (own_blw y0 ff)))]))
    refine own_go (fun _ kt => XS.iadd X34.here hx rfl (hb hby at_237) rfl kt) ?_
    show own_R _ _ _ _ (T34.setTop (mkF m 238 #[.val (.int p1), .val (.int ff), .val (.int q3), .val (.int q4), .val (.int q5), .val (.int q6), .val (.int (2 : Int32)), .val (.int x0), .val (.int x1), .val (.int x2), .val (.int x3), .val (.int y0), .val (.int y2), .val (.int y1), .val (.int y3), .val (.int y0), .val (.int s1), .val (.int s2), .val (.int y3), .val (.ref b30), .val (.int ((0 : Int32) + (own_blw y0 ff))), .unset] [(.int (((0 : Int32) + (own_blw y0 ff)) + (own_blw s1 ff)))]))
    refine own_go (fun _ kt => XS.istore X34.here hx rfl (hb hby at_238) rfl (l' := #[.val (.int p1), .val (.int ff), .val (.int q3), .val (.int q4), .val (.int q5), .val (.int q6), .val (.int (2 : Int32)), .val (.int x0), .val (.int x1), .val (.int x2), .val (.int x3), .val (.int y0), .val (.int y2), .val (.int y1), .val (.int y3), .val (.int y0), .val (.int s1), .val (.int s2), .val (.int y3), .val (.ref b30), .val (.int (((0 : Int32) + (own_blw y0 ff)) + (own_blw s1 ff))), .unset]) rfl kt) ?_
    show own_R _ _ _ _ (T34.setTop (mkF m 240 #[.val (.int p1), .val (.int ff), .val (.int q3), .val (.int q4), .val (.int q5), .val (.int q6), .val (.int (2 : Int32)), .val (.int x0), .val (.int x1), .val (.int x2), .val (.int x3), .val (.int y0), .val (.int y2), .val (.int y1), .val (.int y3), .val (.int y0), .val (.int s1), .val (.int s2), .val (.int y3), .val (.ref b30), .val (.int (((0 : Int32) + (own_blw y0 ff)) + (own_blw s1 ff))), .unset] []))
    refine own_go (fun _ kt => XS.iload X34.here hx rfl (hb hby at_240) rfl kt) ?_
    show own_R _ _ _ _ (T34.setTop (mkF m 242 #[.val (.int p1), .val (.int ff), .val (.int q3), .val (.int q4), .val (.int q5), .val (.int q6), .val (.int (2 : Int32)), .val (.int x0), .val (.int x1), .val (.int x2), .val (.int x3), .val (.int y0), .val (.int y2), .val (.int y1), .val (.int y3), .val (.int y0), .val (.int s1), .val (.int s2), .val (.int y3), .val (.ref b30), .val (.int (((0 : Int32) + (own_blw y0 ff)) + (own_blw s1 ff))), .unset] [(.int (2 : Int32))]))
    refine own_go (fun _ kt => XS.iconst X34.here hx rfl (hb hby at_242) kt) ?_
    show own_R _ _ _ _ (T34.setTop (mkF m 243 #[.val (.int p1), .val (.int ff), .val (.int q3), .val (.int q4), .val (.int q5), .val (.int q6), .val (.int (2 : Int32)), .val (.int x0), .val (.int x1), .val (.int x2), .val (.int x3), .val (.int y0), .val (.int y2), .val (.int y1), .val (.int y3), .val (.int y0), .val (.int s1), .val (.int s2), .val (.int y3), .val (.ref b30), .val (.int (((0 : Int32) + (own_blw y0 ff)) + (own_blw s1 ff))), .unset] [(.int (2 : Int32)), (.int (2 : Int32))]))
    refine own_go (fun _ kt => XS.icmpYes X34.here hx rfl (pc0 := 243) (pc' := 257) rfl (hb hby at_243) rfl (flt (by decide : ¬ ((2 : Int32) < (2 : Int32)))).2.2.2 (by decide) (by decide) kt) ?_
    show own_R _ _ _ _ (T34.setTop (mkF m 257 #[.val (.int p1), .val (.int ff), .val (.int q3), .val (.int q4), .val (.int q5), .val (.int q6), .val (.int (2 : Int32)), .val (.int x0), .val (.int x1), .val (.int x2), .val (.int x3), .val (.int y0), .val (.int y2), .val (.int y1), .val (.int y3), .val (.int y0), .val (.int s1), .val (.int s2), .val (.int y3), .val (.ref b30), .val (.int (((0 : Int32) + (own_blw y0 ff)) + (own_blw s1 ff))), .unset] []))
    refine own_go (fun _ kt => XS.iload X34.here hx rfl (hb hby at_257) rfl kt) ?_
    show own_R _ _ _ _ (T34.setTop (mkF m 259 #[.val (.int p1), .val (.int ff), .val (.int q3), .val (.int q4), .val (.int q5), .val (.int q6), .val (.int (2 : Int32)), .val (.int x0), .val (.int x1), .val (.int x2), .val (.int x3), .val (.int y0), .val (.int y2), .val (.int y1), .val (.int y3), .val (.int y0), .val (.int s1), .val (.int s2), .val (.int y3), .val (.ref b30), .val (.int (((0 : Int32) + (own_blw y0 ff)) + (own_blw s1 ff))), .unset] [(.int (2 : Int32))]))
    refine own_go (fun _ kt => XS.iconst X34.here hx rfl (hb hby at_259) kt) ?_
    show own_R _ _ _ _ (T34.setTop (mkF m 260 #[.val (.int p1), .val (.int ff), .val (.int q3), .val (.int q4), .val (.int q5), .val (.int q6), .val (.int (2 : Int32)), .val (.int x0), .val (.int x1), .val (.int x2), .val (.int x3), .val (.int y0), .val (.int y2), .val (.int y1), .val (.int y3), .val (.int y0), .val (.int s1), .val (.int s2), .val (.int y3), .val (.ref b30), .val (.int (((0 : Int32) + (own_blw y0 ff)) + (own_blw s1 ff))), .unset] [(.int (3 : Int32)), (.int (2 : Int32))]))
    refine own_go (fun _ kt => XS.icmpYes X34.here hx rfl (pc0 := 260) (pc' := 274) rfl (hb hby at_260) rfl (flt (by decide : ¬ ((3 : Int32) < (2 : Int32)))).2.2.2 (by decide) (by decide) kt) ?_
    show own_R _ _ _ _ (T34.setTop (mkF m 274 #[.val (.int p1), .val (.int ff), .val (.int q3), .val (.int q4), .val (.int q5), .val (.int q6), .val (.int (2 : Int32)), .val (.int x0), .val (.int x1), .val (.int x2), .val (.int x3), .val (.int y0), .val (.int y2), .val (.int y1), .val (.int y3), .val (.int y0), .val (.int s1), .val (.int s2), .val (.int y3), .val (.ref b30), .val (.int (((0 : Int32) + (own_blw y0 ff)) + (own_blw s1 ff))), .unset] []))
    refine own_go (fun _ kt => XS.aload X34.here hx rfl (hb hby at_274) rfl rfl kt) ?_
    show own_R _ _ _ _ (T34.setTop (mkF m 276 #[.val (.int p1), .val (.int ff), .val (.int q3), .val (.int q4), .val (.int q5), .val (.int q6), .val (.int (2 : Int32)), .val (.int x0), .val (.int x1), .val (.int x2), .val (.int x3), .val (.int y0), .val (.int y2), .val (.int y1), .val (.int y3), .val (.int y0), .val (.int s1), .val (.int s2), .val (.int y3), .val (.ref b30), .val (.int (((0 : Int32) + (own_blw y0 ff)) + (own_blw s1 ff))), .unset] [(.ref b30)]))
    refine own_go (fun _ kt => XS.iloadN X34.here hx rfl (hb hby at_276) rfl kt) ?_
    show own_R _ _ _ _ (T34.setTop (mkF m 277 #[.val (.int p1), .val (.int ff), .val (.int q3), .val (.int q4), .val (.int q5), .val (.int q6), .val (.int (2 : Int32)), .val (.int x0), .val (.int x1), .val (.int x2), .val (.int x3), .val (.int y0), .val (.int y2), .val (.int y1), .val (.int y3), .val (.int y0), .val (.int s1), .val (.int s2), .val (.int y3), .val (.ref b30), .val (.int (((0 : Int32) + (own_blw y0 ff)) + (own_blw s1 ff))), .unset] [(.int ff), (.ref b30)]))
    obtain ⟨_, _, ⟨T35, L35, k35, n35⟩, -, X35, ⟨Lc35, hQ35, l35, y35, z35⟩, st35⟩ := Jvm.LawKit.callS X34 hx (y := (⟨"com/example/parametree/parametree/Expression", "outer", "([II)I"⟩ : MethodName)) hown (mvT hZ (hw _ (List.mem_of_getElem? (i := 9) rfl))) (mvT hZ (hw _ (List.mem_of_getElem? (i := 10) rfl))) (mvT hZ (hw _ (List.mem_of_getElem? (i := 11) rfl))) (mvT hZ (hw _ (List.mem_of_getElem? (i := 12) rfl))) (by decide) (backOf (W := 0) (rm3_2 l Z a0 hw [] b30 ff k30 y0 s1 h32 n0 ZS V_b30) hZ (hw _ (List.mem_of_getElem? (i := 12) rfl)) (hw _ (List.mem_of_getElem? (i := 11) rfl)) (by decide) (by decide)) (g := (mkF m 277 #[.val (.int p1), .val (.int ff), .val (.int q3), .val (.int q4), .val (.int q5), .val (.int q6), .val (.int (2 : Int32)), .val (.int x0), .val (.int x1), .val (.int x2), .val (.int x3), .val (.int y0), .val (.int y2), .val (.int y1), .val (.int y3), .val (.int y0), .val (.int s1), .val (.int s2), .val (.int y3), .val (.ref b30), .val (.int (((0 : Int32) + (own_blw y0 ff)) + (own_blw s1 ff))), .unset] [(.int ff), (.ref b30)])) rfl (by rw [hml]; rfl) (argsL := [(.ref b30), (.int ff)]) (rest := []) (lenOf pd_1 rfl) rfl (by show 2 * 0 + _ ≤ _; exact Nat.le_of_eq rfl) (hb hby at_277) (fun _ _ => ⟨rfl, e34, (by decide : 1 + 0 ≤ _), (by decide : 2 + 0 ≤ _)⟩)
    dsimp only [Pt.U, Pt.locs, Pt.cells, Pt.slots] at X35 l35 y35 z35 st35 hQ35
    subst l35 y35 z35
    obtain ⟨rfl, N35q, e35⟩ := hQ35
    have NF := Fr.app NF N35q
    refine own_go st35 ?_
    show own_R _ _ _ _ (T35.setTop (mkF m 280 #[.val (.int p1), .val (.int ff), .val (.int q3), .val (.int q4), .val (.int q5), .val (.int q6), .val (.int (2 : Int32)), .val (.int x0), .val (.int x1), .val (.int x2), .val (.int x3), .val (.int y0), .val (.int y2), .val (.int y1), .val (.int y3), .val (.int y0), .val (.int s1), .val (.int s2), .val (.int y3), .val (.ref b30), .val (.int (((0 : Int32) + (own_blw y0 ff)) + (own_blw s1 ff))), .unset] [(.int (own_out ff [y0, s1]))]))
    refine own_go (fun _ kt => XS.istore X35.here hx rfl (hb hby at_280) rfl (l' := #[.val (.int p1), .val (.int ff), .val (.int q3), .val (.int q4), .val (.int q5), .val (.int q6), .val (.int (2 : Int32)), .val (.int x0), .val (.int x1), .val (.int x2), .val (.int x3), .val (.int y0), .val (.int y2), .val (.int y1), .val (.int y3), .val (.int y0), .val (.int s1), .val (.int s2), .val (.int y3), .val (.ref b30), .val (.int (((0 : Int32) + (own_blw y0 ff)) + (own_blw s1 ff))), .val (.int (own_out ff [y0, s1]))]) rfl kt) ?_
    show own_R _ _ _ _ (T35.setTop (mkF m 282 #[.val (.int p1), .val (.int ff), .val (.int q3), .val (.int q4), .val (.int q5), .val (.int q6), .val (.int (2 : Int32)), .val (.int x0), .val (.int x1), .val (.int x2), .val (.int x3), .val (.int y0), .val (.int y2), .val (.int y1), .val (.int y3), .val (.int y0), .val (.int s1), .val (.int s2), .val (.int y3), .val (.ref b30), .val (.int (((0 : Int32) + (own_blw y0 ff)) + (own_blw s1 ff))), .val (.int (own_out ff [y0, s1]))] []))
    refine own_go (fun _ kt => XS.iload X35.here hx rfl (hb hby at_282) rfl kt) ?_
    show own_R _ _ _ _ (T35.setTop (mkF m 284 #[.val (.int p1), .val (.int ff), .val (.int q3), .val (.int q4), .val (.int q5), .val (.int q6), .val (.int (2 : Int32)), .val (.int x0), .val (.int x1), .val (.int x2), .val (.int x3), .val (.int y0), .val (.int y2), .val (.int y1), .val (.int y3), .val (.int y0), .val (.int s1), .val (.int s2), .val (.int y3), .val (.ref b30), .val (.int (((0 : Int32) + (own_blw y0 ff)) + (own_blw s1 ff))), .val (.int (own_out ff [y0, s1]))] [(.int (own_out ff [y0, s1]))]))
    refine own_go (fun _ kt => XS.iload X35.here hx rfl (hb hby at_284) rfl kt) ?_
    show own_R _ _ _ _ (T35.setTop (mkF m 286 #[.val (.int p1), .val (.int ff), .val (.int q3), .val (.int q4), .val (.int q5), .val (.int q6), .val (.int (2 : Int32)), .val (.int x0), .val (.int x1), .val (.int x2), .val (.int x3), .val (.int y0), .val (.int y2), .val (.int y1), .val (.int y3), .val (.int y0), .val (.int s1), .val (.int s2), .val (.int y3), .val (.ref b30), .val (.int (((0 : Int32) + (own_blw y0 ff)) + (own_blw s1 ff))), .val (.int (own_out ff [y0, s1]))] [(.int (((0 : Int32) + (own_blw y0 ff)) + (own_blw s1 ff))), (.int (own_out ff [y0, s1]))]))
    refine own_go (fun _ kt => XS.icmpNo X35.here hx rfl (hb hby at_286) rfl (teq (own_law2 _ _ _ so1)).2 kt) ?_
    show own_R _ _ _ _ (T35.setTop (mkF m 289 #[.val (.int p1), .val (.int ff), .val (.int q3), .val (.int q4), .val (.int q5), .val (.int q6), .val (.int (2 : Int32)), .val (.int x0), .val (.int x1), .val (.int x2), .val (.int x3), .val (.int y0), .val (.int y2), .val (.int y1), .val (.int y3), .val (.int y0), .val (.int s1), .val (.int s2), .val (.int y3), .val (.ref b30), .val (.int (((0 : Int32) + (own_blw y0 ff)) + (own_blw s1 ff))), .val (.int (own_out ff [y0, s1]))] []))
    refine own_go (fun _ kt => XS.iconst X35.here hx rfl (hb hby at_289) kt) ?_
    show own_R _ _ _ _ (T35.setTop (mkF m 290 #[.val (.int p1), .val (.int ff), .val (.int q3), .val (.int q4), .val (.int q5), .val (.int q6), .val (.int (2 : Int32)), .val (.int x0), .val (.int x1), .val (.int x2), .val (.int x3), .val (.int y0), .val (.int y2), .val (.int y1), .val (.int y3), .val (.int y0), .val (.int s1), .val (.int s2), .val (.int y3), .val (.ref b30), .val (.int (((0 : Int32) + (own_blw y0 ff)) + (own_blw s1 ff))), .val (.int (own_out ff [y0, s1]))] [(.int (1 : Int32))]))
    refine own_go (fun _ kt => XS.goto X35.here hx rfl (pc0 := 290) (pc' := 294) rfl (hb hby at_290) (by decide) (by decide) kt) ?_
    show own_R _ _ _ _ (T35.setTop (mkF m 294 #[.val (.int p1), .val (.int ff), .val (.int q3), .val (.int q4), .val (.int q5), .val (.int q6), .val (.int (2 : Int32)), .val (.int x0), .val (.int x1), .val (.int x2), .val (.int x3), .val (.int y0), .val (.int y2), .val (.int y1), .val (.int y3), .val (.int y0), .val (.int s1), .val (.int s2), .val (.int y3), .val (.ref b30), .val (.int (((0 : Int32) + (own_blw y0 ff)) + (own_blw s1 ff))), .val (.int (own_out ff [y0, s1]))] [(.int (1 : Int32))]))
    exact own_retN X35 hx (t := .boolean) (by simp) Bd.returns (hb hby at_294) hlk ⟨rfl, NF⟩ (by decide) (by decide)
  · show own_R _ _ _ _ (T23.setTop (mkF m 102 #[.val (.int p1), .val (.int ff), .val (.int q3), .val (.int q4), .val (.int q5), .val (.int q6), .val (.int (3 : Int32)), .val (.int x0), .val (.int x1), .val (.int x2), .val (.int x3), .val (.int y0), .val (.int y2), .val (.int y1), .val (.int y3), .val (.int y0), .val (.int s1), .val (.int s2), .val (.int y3), .unset, .unset, .unset] []))
    refine own_go (fun _ kt => XS.iload X23.here hx rfl (hb hby at_102) rfl kt) ?_
    show own_R _ _ _ _ (T23.setTop (mkF m 104 #[.val (.int p1), .val (.int ff), .val (.int q3), .val (.int q4), .val (.int q5), .val (.int q6), .val (.int (3 : Int32)), .val (.int x0), .val (.int x1), .val (.int x2), .val (.int x3), .val (.int y0), .val (.int y2), .val (.int y1), .val (.int y3), .val (.int y0), .val (.int s1), .val (.int s2), .val (.int y3), .unset, .unset, .unset] [(.int (3 : Int32))]))
    refine own_go (fun _ kt => XS.ifYes X23.here hx rfl (pc0 := 104) (pc' := 113) rfl (hb hby at_104) rfl ((if0 _ _).trans (feq (by decide : ¬ ((3 : Int32) = (0 : Int32)))).2) (by decide) (by decide) kt) ?_
    show own_R _ _ _ _ (T23.setTop (mkF m 113 #[.val (.int p1), .val (.int ff), .val (.int q3), .val (.int q4), .val (.int q5), .val (.int q6), .val (.int (3 : Int32)), .val (.int x0), .val (.int x1), .val (.int x2), .val (.int x3), .val (.int y0), .val (.int y2), .val (.int y1), .val (.int y3), .val (.int y0), .val (.int s1), .val (.int s2), .val (.int y3), .unset, .unset, .unset] []))
    refine own_go (fun _ kt => XS.iload X23.here hx rfl (hb hby at_113) rfl kt) ?_
    show own_R _ _ _ _ (T23.setTop (mkF m 115 #[.val (.int p1), .val (.int ff), .val (.int q3), .val (.int q4), .val (.int q5), .val (.int q6), .val (.int (3 : Int32)), .val (.int x0), .val (.int x1), .val (.int x2), .val (.int x3), .val (.int y0), .val (.int y2), .val (.int y1), .val (.int y3), .val (.int y0), .val (.int s1), .val (.int s2), .val (.int y3), .unset, .unset, .unset] [(.int (3 : Int32))]))
    refine own_go (fun _ kt => XS.iconst X23.here hx rfl (hb hby at_115) kt) ?_
    show own_R _ _ _ _ (T23.setTop (mkF m 116 #[.val (.int p1), .val (.int ff), .val (.int q3), .val (.int q4), .val (.int q5), .val (.int q6), .val (.int (3 : Int32)), .val (.int x0), .val (.int x1), .val (.int x2), .val (.int x3), .val (.int y0), .val (.int y2), .val (.int y1), .val (.int y3), .val (.int y0), .val (.int s1), .val (.int s2), .val (.int y3), .unset, .unset, .unset] [(.int (1 : Int32)), (.int (3 : Int32))]))
    refine own_go (fun _ kt => XS.icmpYes X23.here hx rfl (pc0 := 116) (pc' := 130) rfl (hb hby at_116) rfl (feq (by decide : ¬ ((3 : Int32) = (1 : Int32)))).2 (by decide) (by decide) kt) ?_
    show own_R _ _ _ _ (T23.setTop (mkF m 130 #[.val (.int p1), .val (.int ff), .val (.int q3), .val (.int q4), .val (.int q5), .val (.int q6), .val (.int (3 : Int32)), .val (.int x0), .val (.int x1), .val (.int x2), .val (.int x3), .val (.int y0), .val (.int y2), .val (.int y1), .val (.int y3), .val (.int y0), .val (.int s1), .val (.int s2), .val (.int y3), .unset, .unset, .unset] []))
    refine own_go (fun _ kt => XS.iload X23.here hx rfl (hb hby at_130) rfl kt) ?_
    show own_R _ _ _ _ (T23.setTop (mkF m 132 #[.val (.int p1), .val (.int ff), .val (.int q3), .val (.int q4), .val (.int q5), .val (.int q6), .val (.int (3 : Int32)), .val (.int x0), .val (.int x1), .val (.int x2), .val (.int x3), .val (.int y0), .val (.int y2), .val (.int y1), .val (.int y3), .val (.int y0), .val (.int s1), .val (.int s2), .val (.int y3), .unset, .unset, .unset] [(.int (3 : Int32))]))
    refine own_go (fun _ kt => XS.iconst X23.here hx rfl (hb hby at_132) kt) ?_
    show own_R _ _ _ _ (T23.setTop (mkF m 133 #[.val (.int p1), .val (.int ff), .val (.int q3), .val (.int q4), .val (.int q5), .val (.int q6), .val (.int (3 : Int32)), .val (.int x0), .val (.int x1), .val (.int x2), .val (.int x3), .val (.int y0), .val (.int y2), .val (.int y1), .val (.int y3), .val (.int y0), .val (.int s1), .val (.int s2), .val (.int y3), .unset, .unset, .unset] [(.int (2 : Int32)), (.int (3 : Int32))]))
    refine own_go (fun _ kt => XS.icmpYes X23.here hx rfl (pc0 := 133) (pc' := 152) rfl (hb hby at_133) rfl (feq (by decide : ¬ ((3 : Int32) = (2 : Int32)))).2 (by decide) (by decide) kt) ?_
    show own_R _ _ _ _ (T23.setTop (mkF m 152 #[.val (.int p1), .val (.int ff), .val (.int q3), .val (.int q4), .val (.int q5), .val (.int q6), .val (.int (3 : Int32)), .val (.int x0), .val (.int x1), .val (.int x2), .val (.int x3), .val (.int y0), .val (.int y2), .val (.int y1), .val (.int y3), .val (.int y0), .val (.int s1), .val (.int s2), .val (.int y3), .unset, .unset, .unset] []))
    refine own_go (fun _ kt => XS.iload X23.here hx rfl (hb hby at_152) rfl kt) ?_
    show own_R _ _ _ _ (T23.setTop (mkF m 154 #[.val (.int p1), .val (.int ff), .val (.int q3), .val (.int q4), .val (.int q5), .val (.int q6), .val (.int (3 : Int32)), .val (.int x0), .val (.int x1), .val (.int x2), .val (.int x3), .val (.int y0), .val (.int y2), .val (.int y1), .val (.int y3), .val (.int y0), .val (.int s1), .val (.int s2), .val (.int y3), .unset, .unset, .unset] [(.int (3 : Int32))]))
    refine own_go (fun _ kt => XS.iconst X23.here hx rfl (hb hby at_154) kt) ?_
    show own_R _ _ _ _ (T23.setTop (mkF m 155 #[.val (.int p1), .val (.int ff), .val (.int q3), .val (.int q4), .val (.int q5), .val (.int q6), .val (.int (3 : Int32)), .val (.int x0), .val (.int x1), .val (.int x2), .val (.int x3), .val (.int y0), .val (.int y2), .val (.int y1), .val (.int y3), .val (.int y0), .val (.int s1), .val (.int s2), .val (.int y3), .unset, .unset, .unset] [(.int (3 : Int32)), (.int (3 : Int32))]))
    refine own_go (fun _ kt => XS.icmpNo X23.here hx rfl (hb hby at_155) rfl (teq (by decide : (3 : Int32) = (3 : Int32))).2 kt) ?_
    show own_R _ _ _ _ (T23.setTop (mkF m 158 #[.val (.int p1), .val (.int ff), .val (.int q3), .val (.int q4), .val (.int q5), .val (.int q6), .val (.int (3 : Int32)), .val (.int x0), .val (.int x1), .val (.int x2), .val (.int x3), .val (.int y0), .val (.int y2), .val (.int y1), .val (.int y3), .val (.int y0), .val (.int s1), .val (.int s2), .val (.int y3), .unset, .unset, .unset] []))
    refine own_go (fun _ kt => XS.iconst X23.here hx rfl (hb hby at_158) kt) ?_
    show own_R _ _ _ _ (T23.setTop (mkF m 159 #[.val (.int p1), .val (.int ff), .val (.int q3), .val (.int q4), .val (.int q5), .val (.int q6), .val (.int (3 : Int32)), .val (.int x0), .val (.int x1), .val (.int x2), .val (.int x3), .val (.int y0), .val (.int y2), .val (.int y1), .val (.int y3), .val (.int y0), .val (.int s1), .val (.int s2), .val (.int y3), .unset, .unset, .unset] [(.int (3 : Int32))]))
    obtain ⟨T36, h36, k36, X36, e36, E36, A36, st36⟩ := newP X23 hx hZ (hw _ (List.mem_of_getElem? (i := 8) rfl)) e23 (g := (mkF m 159 #[.val (.int p1), .val (.int ff), .val (.int q3), .val (.int q4), .val (.int q5), .val (.int q6), .val (.int (3 : Int32)), .val (.int x0), .val (.int x1), .val (.int x2), .val (.int x3), .val (.int y0), .val (.int y2), .val (.int y1), .val (.int y3), .val (.int y0), .val (.int s1), .val (.int s2), .val (.int y3), .unset, .unset, .unset] [(.int (3 : Int32))])) rfl (hb hby at_159) rfl (by decide) (cap := 3) (by decide) (by decide) (by decide) (by decide)
    obtain ⟨b36, g36⟩ : ∃ z, z = h0.size := ⟨_, rfl⟩
    rw [← g36] at A36 st36
    refine own_go st36 ?_
    have g_b36 : n0 ≤ b36 := Nat.le_trans ZS (Nat.le_of_eq g36.symm)
    have sz_b36 : h0.size ≤ b36 := Nat.le_trans KP.1 (Nat.le_of_eq g36.symm)
    have ZS := Nat.le_trans ZS E36.1
    have KP := KP.ext E36
    have V_b36 : Arv Z h36 b36 k36 .int (3 : Int32) [(.int (0 : Int32)), (.int (0 : Int32)), (.int (0 : Int32))] (.int (0 : Int32)) := (Arv.new A36 (by decide)).pad (pad_rep [] (.int (0 : Int32)) 3)
    show own_R _ _ _ _ (T36.setTop (mkF m 161 #[.val (.int p1), .val (.int ff), .val (.int q3), .val (.int q4), .val (.int q5), .val (.int q6), .val (.int (3 : Int32)), .val (.int x0), .val (.int x1), .val (.int x2), .val (.int x3), .val (.int y0), .val (.int y2), .val (.int y1), .val (.int y3), .val (.int y0), .val (.int s1), .val (.int s2), .val (.int y3), .unset, .unset, .unset] [(.ref b36)]))
    refine own_go (fun _ kt => XS.dup X36.here hx rfl (hb hby at_161) rfl rfl kt) ?_
    show own_R _ _ _ _ (T36.setTop (mkF m 162 #[.val (.int p1), .val (.int ff), .val (.int q3), .val (.int q4), .val (.int q5), .val (.int q6), .val (.int (3 : Int32)), .val (.int x0), .val (.int x1), .val (.int x2), .val (.int x3), .val (.int y0), .val (.int y2), .val (.int y1), .val (.int y3), .val (.int y0), .val (.int s1), .val (.int s2), .val (.int y3), .unset, .unset, .unset] [(.ref b36), (.ref b36)]))
    refine own_go (fun _ kt => XS.iconst X36.here hx rfl (hb hby at_162) kt) ?_
    show own_R _ _ _ _ (T36.setTop (mkF m 163 #[.val (.int p1), .val (.int ff), .val (.int q3), .val (.int q4), .val (.int q5), .val (.int q6), .val (.int (3 : Int32)), .val (.int x0), .val (.int x1), .val (.int x2), .val (.int x3), .val (.int y0), .val (.int y2), .val (.int y1), .val (.int y3), .val (.int y0), .val (.int s1), .val (.int s2), .val (.int y3), .unset, .unset, .unset] [(.int (0 : Int32)), (.ref b36), (.ref b36)]))
    refine own_go (fun _ kt => XS.iload X36.here hx rfl (hb hby at_163) rfl kt) ?_
    show own_R _ _ _ _ (T36.setTop (mkF m 165 #[.val (.int p1), .val (.int ff), .val (.int q3), .val (.int q4), .val (.int q5), .val (.int q6), .val (.int (3 : Int32)), .val (.int x0), .val (.int x1), .val (.int x2), .val (.int x3), .val (.int y0), .val (.int y2), .val (.int y1), .val (.int y3), .val (.int y0), .val (.int s1), .val (.int s2), .val (.int y3), .unset, .unset, .unset] [(.int y0), (.int (0 : Int32)), (.ref b36), (.ref b36)]))
    obtain ⟨T37, h37, sl37, X37, e37, W37, V37, st37⟩ := own_stI X36 hx hZ e36 V_b36 (j := (0 : Int32)) (i := 0) ⟨by decide, by decide⟩ rfl (Nat.le_of_ble_eq_true rfl) rfl (g := (mkF m 165 #[.val (.int p1), .val (.int ff), .val (.int q3), .val (.int q4), .val (.int q5), .val (.int q6), .val (.int (3 : Int32)), .val (.int x0), .val (.int x1), .val (.int x2), .val (.int x3), .val (.int y0), .val (.int y2), .val (.int y1), .val (.int y3), .val (.int y0), .val (.int s1), .val (.int s2), .val (.int y3), .unset, .unset, .unset] [(.int y0), (.int (0 : Int32)), (.ref b36), (.ref b36)])) rfl rfl (hb hby at_165)
    refine own_go st37 ?_
    have ZS := Nat.le_trans ZS (Keep.of_wr W37).1
    have KP := KP.wr W37 (Or.inr sz_b36)
    have NF := Fr.snoc X37 NF g_b36
    have V_b36 : Arv Z h37 b36 k36 .int (3 : Int32) [(.int y0), (.int (0 : Int32)), (.int (0 : Int32))] (.int (0 : Int32)) := V37
    show own_R _ _ _ _ (T37.setTop (mkF m 166 #[.val (.int p1), .val (.int ff), .val (.int q3), .val (.int q4), .val (.int q5), .val (.int q6), .val (.int (3 : Int32)), .val (.int x0), .val (.int x1), .val (.int x2), .val (.int x3), .val (.int y0), .val (.int y2), .val (.int y1), .val (.int y3), .val (.int y0), .val (.int s1), .val (.int s2), .val (.int y3), .unset, .unset, .unset] [(.ref b36)]))
    refine own_go (fun _ kt => XS.dup X37.here hx rfl (hb hby at_166) rfl rfl kt) ?_
    show own_R _ _ _ _ (T37.setTop (mkF m 167 #[.val (.int p1), .val (.int ff), .val (.int q3), .val (.int q4), .val (.int q5), .val (.int q6), .val (.int (3 : Int32)), .val (.int x0), .val (.int x1), .val (.int x2), .val (.int x3), .val (.int y0), .val (.int y2), .val (.int y1), .val (.int y3), .val (.int y0), .val (.int s1), .val (.int s2), .val (.int y3), .unset, .unset, .unset] [(.ref b36), (.ref b36)]))
    refine own_go (fun _ kt => XS.iconst X37.here hx rfl (hb hby at_167) kt) ?_
    show own_R _ _ _ _ (T37.setTop (mkF m 168 #[.val (.int p1), .val (.int ff), .val (.int q3), .val (.int q4), .val (.int q5), .val (.int q6), .val (.int (3 : Int32)), .val (.int x0), .val (.int x1), .val (.int x2), .val (.int x3), .val (.int y0), .val (.int y2), .val (.int y1), .val (.int y3), .val (.int y0), .val (.int s1), .val (.int s2), .val (.int y3), .unset, .unset, .unset] [(.int (1 : Int32)), (.ref b36), (.ref b36)]))
    refine own_go (fun _ kt => XS.iload X37.here hx rfl (hb hby at_168) rfl kt) ?_
    show own_R _ _ _ _ (T37.setTop (mkF m 170 #[.val (.int p1), .val (.int ff), .val (.int q3), .val (.int q4), .val (.int q5), .val (.int q6), .val (.int (3 : Int32)), .val (.int x0), .val (.int x1), .val (.int x2), .val (.int x3), .val (.int y0), .val (.int y2), .val (.int y1), .val (.int y3), .val (.int y0), .val (.int s1), .val (.int s2), .val (.int y3), .unset, .unset, .unset] [(.int s1), (.int (1 : Int32)), (.ref b36), (.ref b36)]))
    obtain ⟨T38, h38, sl38, X38, e38, W38, V38, st38⟩ := own_stI X37 hx hZ e37 V_b36 (j := (1 : Int32)) (i := 1) ⟨by decide, by decide⟩ rfl (Nat.le_of_ble_eq_true rfl) rfl (g := (mkF m 170 #[.val (.int p1), .val (.int ff), .val (.int q3), .val (.int q4), .val (.int q5), .val (.int q6), .val (.int (3 : Int32)), .val (.int x0), .val (.int x1), .val (.int x2), .val (.int x3), .val (.int y0), .val (.int y2), .val (.int y1), .val (.int y3), .val (.int y0), .val (.int s1), .val (.int s2), .val (.int y3), .unset, .unset, .unset] [(.int s1), (.int (1 : Int32)), (.ref b36), (.ref b36)])) rfl rfl (hb hby at_170)
    refine own_go st38 ?_
    have ZS := Nat.le_trans ZS (Keep.of_wr W38).1
    have KP := KP.wr W38 (Or.inr sz_b36)
    have NF := Fr.snoc X38 NF g_b36
    have V_b36 : Arv Z h38 b36 k36 .int (3 : Int32) [(.int y0), (.int s1), (.int (0 : Int32))] (.int (0 : Int32)) := V38
    show own_R _ _ _ _ (T38.setTop (mkF m 171 #[.val (.int p1), .val (.int ff), .val (.int q3), .val (.int q4), .val (.int q5), .val (.int q6), .val (.int (3 : Int32)), .val (.int x0), .val (.int x1), .val (.int x2), .val (.int x3), .val (.int y0), .val (.int y2), .val (.int y1), .val (.int y3), .val (.int y0), .val (.int s1), .val (.int s2), .val (.int y3), .unset, .unset, .unset] [(.ref b36)]))
    refine own_go (fun _ kt => XS.dup X38.here hx rfl (hb hby at_171) rfl rfl kt) ?_
    show own_R _ _ _ _ (T38.setTop (mkF m 172 #[.val (.int p1), .val (.int ff), .val (.int q3), .val (.int q4), .val (.int q5), .val (.int q6), .val (.int (3 : Int32)), .val (.int x0), .val (.int x1), .val (.int x2), .val (.int x3), .val (.int y0), .val (.int y2), .val (.int y1), .val (.int y3), .val (.int y0), .val (.int s1), .val (.int s2), .val (.int y3), .unset, .unset, .unset] [(.ref b36), (.ref b36)]))
    refine own_go (fun _ kt => XS.iconst X38.here hx rfl (hb hby at_172) kt) ?_
    show own_R _ _ _ _ (T38.setTop (mkF m 173 #[.val (.int p1), .val (.int ff), .val (.int q3), .val (.int q4), .val (.int q5), .val (.int q6), .val (.int (3 : Int32)), .val (.int x0), .val (.int x1), .val (.int x2), .val (.int x3), .val (.int y0), .val (.int y2), .val (.int y1), .val (.int y3), .val (.int y0), .val (.int s1), .val (.int s2), .val (.int y3), .unset, .unset, .unset] [(.int (2 : Int32)), (.ref b36), (.ref b36)]))
    refine own_go (fun _ kt => XS.iload X38.here hx rfl (hb hby at_173) rfl kt) ?_
    show own_R _ _ _ _ (T38.setTop (mkF m 175 #[.val (.int p1), .val (.int ff), .val (.int q3), .val (.int q4), .val (.int q5), .val (.int q6), .val (.int (3 : Int32)), .val (.int x0), .val (.int x1), .val (.int x2), .val (.int x3), .val (.int y0), .val (.int y2), .val (.int y1), .val (.int y3), .val (.int y0), .val (.int s1), .val (.int s2), .val (.int y3), .unset, .unset, .unset] [(.int s2), (.int (2 : Int32)), (.ref b36), (.ref b36)]))
    obtain ⟨T39, h39, sl39, X39, e39, W39, V39, st39⟩ := own_stI X38 hx hZ e38 V_b36 (j := (2 : Int32)) (i := 2) ⟨by decide, by decide⟩ rfl (Nat.le_of_ble_eq_true rfl) rfl (g := (mkF m 175 #[.val (.int p1), .val (.int ff), .val (.int q3), .val (.int q4), .val (.int q5), .val (.int q6), .val (.int (3 : Int32)), .val (.int x0), .val (.int x1), .val (.int x2), .val (.int x3), .val (.int y0), .val (.int y2), .val (.int y1), .val (.int y3), .val (.int y0), .val (.int s1), .val (.int s2), .val (.int y3), .unset, .unset, .unset] [(.int s2), (.int (2 : Int32)), (.ref b36), (.ref b36)])) rfl rfl (hb hby at_175)
    refine own_go st39 ?_
    have ZS := Nat.le_trans ZS (Keep.of_wr W39).1
    have KP := KP.wr W39 (Or.inr sz_b36)
    have NF := Fr.snoc X39 NF g_b36
    have V_b36 : Arv Z h39 b36 k36 .int (3 : Int32) [(.int y0), (.int s1), (.int s2)] (.int (0 : Int32)) := V39
    show own_R _ _ _ _ (T39.setTop (mkF m 176 #[.val (.int p1), .val (.int ff), .val (.int q3), .val (.int q4), .val (.int q5), .val (.int q6), .val (.int (3 : Int32)), .val (.int x0), .val (.int x1), .val (.int x2), .val (.int x3), .val (.int y0), .val (.int y2), .val (.int y1), .val (.int y3), .val (.int y0), .val (.int s1), .val (.int s2), .val (.int y3), .unset, .unset, .unset] [(.ref b36)]))
    refine own_go (fun _ kt => XS.goto X39.here hx rfl (pc0 := 176) (pc' := 202) rfl (hb hby at_176) (by decide) (by decide) kt) ?_
    show own_R _ _ _ _ (T39.setTop (mkF m 202 #[.val (.int p1), .val (.int ff), .val (.int q3), .val (.int q4), .val (.int q5), .val (.int q6), .val (.int (3 : Int32)), .val (.int x0), .val (.int x1), .val (.int x2), .val (.int x3), .val (.int y0), .val (.int y2), .val (.int y1), .val (.int y3), .val (.int y0), .val (.int s1), .val (.int s2), .val (.int y3), .unset, .unset, .unset] [(.ref b36)]))
    refine own_go (fun _ kt => XS.astore X39.here hx rfl (hb hby at_202) rfl rfl (l' := #[.val (.int p1), .val (.int ff), .val (.int q3), .val (.int q4), .val (.int q5), .val (.int q6), .val (.int (3 : Int32)), .val (.int x0), .val (.int x1), .val (.int x2), .val (.int x3), .val (.int y0), .val (.int y2), .val (.int y1), .val (.int y3), .val (.int y0), .val (.int s1), .val (.int s2), .val (.int y3), .val (.ref b36), .unset, .unset]) rfl kt) ?_
    show own_R _ _ _ _ (T39.setTop (mkF m 204 #[.val (.int p1), .val (.int ff), .val (.int q3), .val (.int q4), .val (.int q5), .val (.int q6), .val (.int (3 : Int32)), .val (.int x0), .val (.int x1), .val (.int x2), .val (.int x3), .val (.int y0), .val (.int y2), .val (.int y1), .val (.int y3), .val (.int y0), .val (.int s1), .val (.int s2), .val (.int y3), .val (.ref b36), .unset, .unset] []))
    refine own_go (fun _ kt => XS.iconst X39.here hx rfl (hb hby at_204) kt) ?_
    show own_R _ _ _ _ (T39.setTop (mkF m 205 #[.val (.int p1), .val (.int ff), .val (.int q3), .val (.int q4), .val (.int q5), .val (.int q6), .val (.int (3 : Int32)), .val (.int x0), .val (.int x1), .val (.int x2), .val (.int x3), .val (.int y0), .val (.int y2), .val (.int y1), .val (.int y3), .val (.int y0), .val (.int s1), .val (.int s2), .val (.int y3), .val (.ref b36), .unset, .unset] [(.int (0 : Int32))]))
    refine own_go (fun _ kt => XS.istore X39.here hx rfl (hb hby at_205) rfl (l' := #[.val (.int p1), .val (.int ff), .val (.int q3), .val (.int q4), .val (.int q5), .val (.int q6), .val (.int (3 : Int32)), .val (.int x0), .val (.int x1), .val (.int x2), .val (.int x3), .val (.int y0), .val (.int y2), .val (.int y1), .val (.int y3), .val (.int y0), .val (.int s1), .val (.int s2), .val (.int y3), .val (.ref b36), .val (.int (0 : Int32)), .unset]) rfl kt) ?_
    show own_R _ _ _ _ (T39.setTop (mkF m 207 #[.val (.int p1), .val (.int ff), .val (.int q3), .val (.int q4), .val (.int q5), .val (.int q6), .val (.int (3 : Int32)), .val (.int x0), .val (.int x1), .val (.int x2), .val (.int x3), .val (.int y0), .val (.int y2), .val (.int y1), .val (.int y3), .val (.int y0), .val (.int s1), .val (.int s2), .val (.int y3), .val (.ref b36), .val (.int (0 : Int32)), .unset] []))
    refine own_go (fun _ kt => XS.iload X39.here hx rfl (hb hby at_207) rfl kt) ?_
    show own_R _ _ _ _ (T39.setTop (mkF m 209 #[.val (.int p1), .val (.int ff), .val (.int q3), .val (.int q4), .val (.int q5), .val (.int q6), .val (.int (3 : Int32)), .val (.int x0), .val (.int x1), .val (.int x2), .val (.int x3), .val (.int y0), .val (.int y2), .val (.int y1), .val (.int y3), .val (.int y0), .val (.int s1), .val (.int s2), .val (.int y3), .val (.ref b36), .val (.int (0 : Int32)), .unset] [(.int (3 : Int32))]))
    refine own_go (fun _ kt => XS.ifNo X39.here hx rfl (hb hby at_209) rfl ((if0 _ _).trans (tlt (by decide : (0 : Int32) < (3 : Int32))).2.2.2) kt) ?_
    show own_R _ _ _ _ (T39.setTop (mkF m 212 #[.val (.int p1), .val (.int ff), .val (.int q3), .val (.int q4), .val (.int q5), .val (.int q6), .val (.int (3 : Int32)), .val (.int x0), .val (.int x1), .val (.int x2), .val (.int x3), .val (.int y0), .val (.int y2), .val (.int y1), .val (.int y3), .val (.int y0), .val (.int s1), .val (.int s2), .val (.int y3), .val (.ref b36), .val (.int (0 : Int32)), .unset] []))
    refine own_go (fun _ kt => XS.iload X39.here hx rfl (hb hby at_212) rfl kt) ?_
    show own_R _ _ _ _ (T39.setTop (mkF m 214 #[.val (.int p1), .val (.int ff), .val (.int q3), .val (.int q4), .val (.int q5), .val (.int q6), .val (.int (3 : Int32)), .val (.int x0), .val (.int x1), .val (.int x2), .val (.int x3), .val (.int y0), .val (.int y2), .val (.int y1), .val (.int y3), .val (.int y0), .val (.int s1), .val (.int s2), .val (.int y3), .val (.ref b36), .val (.int (0 : Int32)), .unset] [(.int (0 : Int32))]))
    refine own_go (fun _ kt => XS.iload X39.here hx rfl (hb hby at_214) rfl kt) ?_
    show own_R _ _ _ _ (T39.setTop (mkF m 216 #[.val (.int p1), .val (.int ff), .val (.int q3), .val (.int q4), .val (.int q5), .val (.int q6), .val (.int (3 : Int32)), .val (.int x0), .val (.int x1), .val (.int x2), .val (.int x3), .val (.int y0), .val (.int y2), .val (.int y1), .val (.int y3), .val (.int y0), .val (.int s1), .val (.int s2), .val (.int y3), .val (.ref b36), .val (.int (0 : Int32)), .unset] [(.int y0), (.int (0 : Int32))]))
    refine own_go (fun _ kt => XS.iloadN X39.here hx rfl (hb hby at_216) rfl kt) ?_
    show own_R _ _ _ _ (T39.setTop (mkF m 217 #[.val (.int p1), .val (.int ff), .val (.int q3), .val (.int q4), .val (.int q5), .val (.int q6), .val (.int (3 : Int32)), .val (.int x0), .val (.int x1), .val (.int x2), .val (.int x3), .val (.int y0), .val (.int y2), .val (.int y1), .val (.int y3), .val (.int y0), .val (.int s1), .val (.int s2), .val (.int y3), .val (.ref b36), .val (.int (0 : Int32)), .unset] [(.int ff), (.int y0), (.int (0 : Int32))]))
    obtain ⟨_, _, ⟨T40, L40, k40, n40⟩, -, X40, ⟨Lc40, hQ40, l40, y40, z40⟩, st40⟩ := Jvm.LawKit.callS X39 hx (y := (⟨"com/example/parametree/parametree/ExpressionOuterPinLaw", "below", "(II)I"⟩ : MethodName)) hown (mvT hZ (hw _ (List.mem_of_getElem? (i := 13) rfl))) (mvT hZ (hw _ (List.mem_of_getElem? (i := 14) rfl))) (mvT hZ (hw _ (List.mem_of_getElem? (i := 15) rfl))) (mvT hZ (hw _ (List.mem_of_getElem? (i := 16) rfl))) (by decide) (backOf (W := 1) (rm4 l Z a0 hw [] y0 ff h39 n0 ZS) hZ (hw _ (List.mem_of_getElem? (i := 16) rfl)) (hw _ (List.mem_of_getElem? (i := 15) rfl)) (by decide) (by decide)) (g := (mkF m 217 #[.val (.int p1), .val (.int ff), .val (.int q3), .val (.int q4), .val (.int q5), .val (.int q6), .val (.int (3 : Int32)), .val (.int x0), .val (.int x1), .val (.int x2), .val (.int x3), .val (.int y0), .val (.int y2), .val (.int y1), .val (.int y3), .val (.int y0), .val (.int s1), .val (.int s2), .val (.int y3), .val (.ref b36), .val (.int (0 : Int32)), .unset] [(.int ff), (.int y0), (.int (0 : Int32))])) rfl (by rw [hml]; rfl) (argsL := [(.int y0), (.int ff)]) (rest := [(.int (0 : Int32))]) (lenOf pd_0 rfl) rfl (by show 2 * 0 + _ ≤ _; exact Nat.le_of_eq rfl) (hb hby at_217) (fun _ _ => ⟨rfl, e39, (by decide : 1 + 0 ≤ _), (by decide : 3 + 0 ≤ _)⟩)
    dsimp only [Pt.U, Pt.locs, Pt.cells, Pt.slots] at X40 l40 y40 z40 st40 hQ40
    subst l40 y40 z40
    obtain ⟨rfl, N40q, e40⟩ := hQ40
    have NF := Fr.app NF N40q
    refine own_go st40 ?_
    show own_R _ _ _ _ (T40.setTop (mkF m 220 #[.val (.int p1), .val (.int ff), .val (.int q3), .val (.int q4), .val (.int q5), .val (.int q6), .val (.int (3 : Int32)), .val (.int x0), .val (.int x1), .val (.int x2), .val (.int x3), .val (.int y0), .val (.int y2), .val (.int y1), .val (.int y3), .val (.int y0), .val (.int s1), .val (.int s2), .val (.int y3), .val (.ref b36), .val (.int (0 : Int32)), .unset] [(.int (own_blw y0 ff)), (.int (0 : Int32))]))
    refine own_go (fun _ kt => XS.iadd X40.here hx rfl (hb hby at_220) rfl kt) ?_
    show own_R _ _ _ _ (T40.setTop (mkF m 221 #[.val (.int p1), .val (.int ff), .val (.int q3), .val (.int q4), .val (.int q5), .val (.int q6), .val (.int (3 : Int32)), .val (.int x0), .val (.int x1), .val (.int x2), .val (.int x3), .val (.int y0), .val (.int y2), .val (.int y1), .val (.int y3), .val (.int y0), .val (.int s1), .val (.int s2), .val (.int y3), .val (.ref b36), .val (.int (0 : Int32)), .unset] [(.int ((0 : Int32) + (own_blw y0 ff)))]))
    refine own_go (fun _ kt => XS.istore X40.here hx rfl (hb hby at_221) rfl (l' := #[.val (.int p1), .val (.int ff), .val (.int q3), .val (.int q4), .val (.int q5), .val (.int q6), .val (.int (3 : Int32)), .val (.int x0), .val (.int x1), .val (.int x2), .val (.int x3), .val (.int y0), .val (.int y2), .val (.int y1), .val (.int y3), .val (.int y0), .val (.int s1), .val (.int s2), .val (.int y3), .val (.ref b36), .val (.int ((0 : Int32) + (own_blw y0 ff))), .unset]) rfl kt) ?_
    show own_R _ _ _ _ (T40.setTop (mkF m 223 #[.val (.int p1), .val (.int ff), .val (.int q3), .val (.int q4), .val (.int q5), .val (.int q6), .val (.int (3 : Int32)), .val (.int x0), .val (.int x1), .val (.int x2), .val (.int x3), .val (.int y0), .val (.int y2), .val (.int y1), .val (.int y3), .val (.int y0), .val (.int s1), .val (.int s2), .val (.int y3), .val (.ref b36), .val (.int ((0 : Int32) + (own_blw y0 ff))), .unset] []))
    refine own_go (fun _ kt => XS.iload X40.here hx rfl (hb hby at_223) rfl kt) ?_
    show own_R _ _ _ _ (T40.setTop (mkF m 225 #[.val (.int p1), .val (.int ff), .val (.int q3), .val (.int q4), .val (.int q5), .val (.int q6), .val (.int (3 : Int32)), .val (.int x0), .val (.int x1), .val (.int x2), .val (.int x3), .val (.int y0), .val (.int y2), .val (.int y1), .val (.int y3), .val (.int y0), .val (.int s1), .val (.int s2), .val (.int y3), .val (.ref b36), .val (.int ((0 : Int32) + (own_blw y0 ff))), .unset] [(.int (3 : Int32))]))
    refine own_go (fun _ kt => XS.iconst X40.here hx rfl (hb hby at_225) kt) ?_
    show own_R _ _ _ _ (T40.setTop (mkF m 226 #[.val (.int p1), .val (.int ff), .val (.int q3), .val (.int q4), .val (.int q5), .val (.int q6), .val (.int (3 : Int32)), .val (.int x0), .val (.int x1), .val (.int x2), .val (.int x3), .val (.int y0), .val (.int y2), .val (.int y1), .val (.int y3), .val (.int y0), .val (.int s1), .val (.int s2), .val (.int y3), .val (.ref b36), .val (.int ((0 : Int32) + (own_blw y0 ff))), .unset] [(.int (1 : Int32)), (.int (3 : Int32))]))
    refine own_go (fun _ kt => XS.icmpNo X40.here hx rfl (hb hby at_226) rfl (tlt (by decide : (1 : Int32) < (3 : Int32))).2.2.2 kt) ?_
    show own_R _ _ _ _ (T40.setTop (mkF m 229 #[.val (.int p1), .val (.int ff), .val (.int q3), .val (.int q4), .val (.int q5), .val (.int q6), .val (.int (3 : Int32)), .val (.int x0), .val (.int x1), .val (.int x2), .val (.int x3), .val (.int y0), .val (.int y2), .val (.int y1), .val (.int y3), .val (.int y0), .val (.int s1), .val (.int s2), .val (.int y3), .val (.ref b36), .val (.int ((0 : Int32) + (own_blw y0 ff))), .unset] []))
    refine own_go (fun _ kt => XS.iload X40.here hx rfl (hb hby at_229) rfl kt) ?_
    show own_R _ _ _ _ (T40.setTop (mkF m 231 #[.val (.int p1), .val (.int ff), .val (.int q3), .val (.int q4), .val (.int q5), .val (.int q6), .val (.int (3 : Int32)), .val (.int x0), .val (.int x1), .val (.int x2), .val (.int x3), .val (.int y0), .val (.int y2), .val (.int y1), .val (.int y3), .val (.int y0), .val (.int s1), .val (.int s2), .val (.int y3), .val (.ref b36), .val (.int ((0 : Int32) + (own_blw y0 ff))), .unset] [(.int ((0 : Int32) + (own_blw y0 ff)))]))
    refine own_go (fun _ kt => XS.iload X40.here hx rfl (hb hby at_231) rfl kt) ?_
    show own_R _ _ _ _ (T40.setTop (mkF m 233 #[.val (.int p1), .val (.int ff), .val (.int q3), .val (.int q4), .val (.int q5), .val (.int q6), .val (.int (3 : Int32)), .val (.int x0), .val (.int x1), .val (.int x2), .val (.int x3), .val (.int y0), .val (.int y2), .val (.int y1), .val (.int y3), .val (.int y0), .val (.int s1), .val (.int s2), .val (.int y3), .val (.ref b36), .val (.int ((0 : Int32) + (own_blw y0 ff))), .unset] [(.int s1), (.int ((0 : Int32) + (own_blw y0 ff)))]))
    refine own_go (fun _ kt => XS.iloadN X40.here hx rfl (hb hby at_233) rfl kt) ?_
    show own_R _ _ _ _ (T40.setTop (mkF m 234 #[.val (.int p1), .val (.int ff), .val (.int q3), .val (.int q4), .val (.int q5), .val (.int q6), .val (.int (3 : Int32)), .val (.int x0), .val (.int x1), .val (.int x2), .val (.int x3), .val (.int y0), .val (.int y2), .val (.int y1), .val (.int y3), .val (.int y0), .val (.int s1), .val (.int s2), .val (.int y3), .val (.ref b36), .val (.int ((0 : Int32) + (own_blw y0 ff))), .unset] [(.int ff), (.int s1), (.int ((0 : Int32) + (own_blw y0 ff)))]))
    obtain ⟨_, _, ⟨T41, L41, k41, n41⟩, -, X41, ⟨Lc41, hQ41, l41, y41, z41⟩, st41⟩ := Jvm.LawKit.callS X40 hx (y := (⟨"com/example/parametree/parametree/ExpressionOuterPinLaw", "below", "(II)I"⟩ : MethodName)) hown (mvT hZ (hw _ (List.mem_of_getElem? (i := 13) rfl))) (mvT hZ (hw _ (List.mem_of_getElem? (i := 14) rfl))) (mvT hZ (hw _ (List.mem_of_getElem? (i := 15) rfl))) (mvT hZ (hw _ (List.mem_of_getElem? (i := 16) rfl))) (by decide) (backOf (W := 1) (rm4 l Z a0 hw [] s1 ff h39 n0 ZS) hZ (hw _ (List.mem_of_getElem? (i := 16) rfl)) (hw _ (List.mem_of_getElem? (i := 15) rfl)) (by decide) (by decide)) (g := (mkF m 234 #[.val (.int p1), .val (.int ff), .val (.int q3), .val (.int q4), .val (.int q5), .val (.int q6), .val (.int (3 : Int32)), .val (.int x0), .val (.int x1), .val (.int x2), .val (.int x3), .val (.int y0), .val (.int y2), .val (.int y1), .val (.int y3), .val (.int y0), .val (.int s1), .val (.int s2), .val (.int y3), .val (.ref b36), .val (.int ((0 : Int32) + (own_blw y0 ff))), .unset] [(.int ff), (.int s1), (.int ((0 : Int32) + (own_blw y0 ff)))])) rfl (by rw [hml]; rfl) (argsL := [(.int s1), (.int ff)]) (rest := [(.int ((0 : Int32) + (own_blw y0 ff)))]) (lenOf pd_0 rfl) rfl (by show 2 * 0 + _ ≤ _; exact Nat.le_of_eq rfl) (hb hby at_234) (fun _ _ => ⟨rfl, e40, (by decide : 1 + 0 ≤ _), (by decide : 3 + 0 ≤ _)⟩)
    dsimp only [Pt.U, Pt.locs, Pt.cells, Pt.slots] at X41 l41 y41 z41 st41 hQ41
    subst l41 y41 z41
    obtain ⟨rfl, N41q, e41⟩ := hQ41
    have NF := Fr.app NF N41q
    refine own_go st41 ?_
    show own_R _ _ _ _ (T41.setTop (mkF m 237 #[.val (.int p1), .val (.int ff), .val (.int q3), .val (.int q4), .val (.int q5), .val (.int q6), .val (.int (3 : Int32)), .val (.int x0), .val (.int x1), .val (.int x2), .val (.int x3), .val (.int y0), .val (.int y2), .val (.int y1), .val (.int y3), .val (.int y0), .val (.int s1), .val (.int s2), .val (.int y3), .val (.ref b36), .val (.int ((0 : Int32) + (own_blw y0 ff))), .unset] [(.int (own_blw s1 ff)), (.int ((0 : Int32) + (own_blw y0 ff)))]))
    refine own_go (fun _ kt => XS.iadd X41.here hx rfl (hb hby at_237) rfl kt) ?_
    show own_R _ _ _ _ (T41.setTop (mkF m 238 #[.val (.int p1), .val (.int ff), .val (.int q3), .val (.int q4), .val (.int q5), .val (.int q6), .val (.int (3 : Int32)), .val (.int x0), .val (.int x1), .val (.int x2), .val (.int x3), .val (.int y0), .val (.int y2), .val (.int y1), .val (.int y3), .val (.int y0), .val (.int s1), .val (.int s2), .val (.int y3), .val (.ref b36), .val (.int ((0 : Int32) + (own_blw y0 ff))), .unset] [(.int (((0 : Int32) + (own_blw y0 ff)) + (own_blw s1 ff)))]))
    refine own_go (fun _ kt => XS.istore X41.here hx rfl (hb hby at_238) rfl (l' := #[.val (.int p1), .val (.int ff), .val (.int q3), .val (.int q4), .val (.int q5), .val (.int q6), .val (.int (3 : Int32)), .val (.int x0), .val (.int x1), .val (.int x2), .val (.int x3), .val (.int y0), .val (.int y2), .val (.int y1), .val (.int y3), .val (.int y0), .val (.int s1), .val (.int s2), .val (.int y3), .val (.ref b36), .val (.int (((0 : Int32) + (own_blw y0 ff)) + (own_blw s1 ff))), .unset]) rfl kt) ?_
    show own_R _ _ _ _ (T41.setTop (mkF m 240 #[.val (.int p1), .val (.int ff), .val (.int q3), .val (.int q4), .val (.int q5), .val (.int q6), .val (.int (3 : Int32)), .val (.int x0), .val (.int x1), .val (.int x2), .val (.int x3), .val (.int y0), .val (.int y2), .val (.int y1), .val (.int y3), .val (.int y0), .val (.int s1), .val (.int s2), .val (.int y3), .val (.ref b36), .val (.int (((0 : Int32) + (own_blw y0 ff)) + (own_blw s1 ff))), .unset] []))
    refine own_go (fun _ kt => XS.iload X41.here hx rfl (hb hby at_240) rfl kt) ?_
    show own_R _ _ _ _ (T41.setTop (mkF m 242 #[.val (.int p1), .val (.int ff), .val (.int q3), .val (.int q4), .val (.int q5), .val (.int q6), .val (.int (3 : Int32)), .val (.int x0), .val (.int x1), .val (.int x2), .val (.int x3), .val (.int y0), .val (.int y2), .val (.int y1), .val (.int y3), .val (.int y0), .val (.int s1), .val (.int s2), .val (.int y3), .val (.ref b36), .val (.int (((0 : Int32) + (own_blw y0 ff)) + (own_blw s1 ff))), .unset] [(.int (3 : Int32))]))
    refine own_go (fun _ kt => XS.iconst X41.here hx rfl (hb hby at_242) kt) ?_
    show own_R _ _ _ _ (T41.setTop (mkF m 243 #[.val (.int p1), .val (.int ff), .val (.int q3), .val (.int q4), .val (.int q5), .val (.int q6), .val (.int (3 : Int32)), .val (.int x0), .val (.int x1), .val (.int x2), .val (.int x3), .val (.int y0), .val (.int y2), .val (.int y1), .val (.int y3), .val (.int y0), .val (.int s1), .val (.int s2), .val (.int y3), .val (.ref b36), .val (.int (((0 : Int32) + (own_blw y0 ff)) + (own_blw s1 ff))), .unset] [(.int (2 : Int32)), (.int (3 : Int32))]))
    refine own_go (fun _ kt => XS.icmpNo X41.here hx rfl (hb hby at_243) rfl (tlt (by decide : (2 : Int32) < (3 : Int32))).2.2.2 kt) ?_
    show own_R _ _ _ _ (T41.setTop (mkF m 246 #[.val (.int p1), .val (.int ff), .val (.int q3), .val (.int q4), .val (.int q5), .val (.int q6), .val (.int (3 : Int32)), .val (.int x0), .val (.int x1), .val (.int x2), .val (.int x3), .val (.int y0), .val (.int y2), .val (.int y1), .val (.int y3), .val (.int y0), .val (.int s1), .val (.int s2), .val (.int y3), .val (.ref b36), .val (.int (((0 : Int32) + (own_blw y0 ff)) + (own_blw s1 ff))), .unset] []))
    refine own_go (fun _ kt => XS.iload X41.here hx rfl (hb hby at_246) rfl kt) ?_
    show own_R _ _ _ _ (T41.setTop (mkF m 248 #[.val (.int p1), .val (.int ff), .val (.int q3), .val (.int q4), .val (.int q5), .val (.int q6), .val (.int (3 : Int32)), .val (.int x0), .val (.int x1), .val (.int x2), .val (.int x3), .val (.int y0), .val (.int y2), .val (.int y1), .val (.int y3), .val (.int y0), .val (.int s1), .val (.int s2), .val (.int y3), .val (.ref b36), .val (.int (((0 : Int32) + (own_blw y0 ff)) + (own_blw s1 ff))), .unset] [(.int (((0 : Int32) + (own_blw y0 ff)) + (own_blw s1 ff)))]))
    refine own_go (fun _ kt => XS.iload X41.here hx rfl (hb hby at_248) rfl kt) ?_
    show own_R _ _ _ _ (T41.setTop (mkF m 250 #[.val (.int p1), .val (.int ff), .val (.int q3), .val (.int q4), .val (.int q5), .val (.int q6), .val (.int (3 : Int32)), .val (.int x0), .val (.int x1), .val (.int x2), .val (.int x3), .val (.int y0), .val (.int y2), .val (.int y1), .val (.int y3), .val (.int y0), .val (.int s1), .val (.int s2), .val (.int y3), .val (.ref b36), .val (.int (((0 : Int32) + (own_blw y0 ff)) + (own_blw s1 ff))), .unset] [(.int s2), (.int (((0 : Int32) + (own_blw y0 ff)) + (own_blw s1 ff)))]))
    refine own_go (fun _ kt => XS.iloadN X41.here hx rfl (hb hby at_250) rfl kt) ?_
    show own_R _ _ _ _ (T41.setTop (mkF m 251 #[.val (.int p1), .val (.int ff), .val (.int q3), .val (.int q4), .val (.int q5), .val (.int q6), .val (.int (3 : Int32)), .val (.int x0), .val (.int x1), .val (.int x2), .val (.int x3), .val (.int y0), .val (.int y2), .val (.int y1), .val (.int y3), .val (.int y0), .val (.int s1), .val (.int s2), .val (.int y3), .val (.ref b36), .val (.int (((0 : Int32) + (own_blw y0 ff)) + (own_blw s1 ff))), .unset] [(.int ff), (.int s2), (.int (((0 : Int32) + (own_blw y0 ff)) + (own_blw s1 ff)))]))
    obtain ⟨_, _, ⟨T42, L42, k42, n42⟩, -, X42, ⟨Lc42, hQ42, l42, y42, z42⟩, st42⟩ := Jvm.LawKit.callS X41 hx (y := (⟨"com/example/parametree/parametree/ExpressionOuterPinLaw", "below", "(II)I"⟩ : MethodName)) hown (mvT hZ (hw _ (List.mem_of_getElem? (i := 13) rfl))) (mvT hZ (hw _ (List.mem_of_getElem? (i := 14) rfl))) (mvT hZ (hw _ (List.mem_of_getElem? (i := 15) rfl))) (mvT hZ (hw _ (List.mem_of_getElem? (i := 16) rfl))) (by decide) (backOf (W := 1) (rm4 l Z a0 hw [] s2 ff h39 n0 ZS) hZ (hw _ (List.mem_of_getElem? (i := 16) rfl)) (hw _ (List.mem_of_getElem? (i := 15) rfl)) (by decide) (by decide)) (g := (mkF m 251 #[.val (.int p1), .val (.int ff), .val (.int q3), .val (.int q4), .val (.int q5), .val (.int q6), .val (.int (3 : Int32)), .val (.int x0), .val (.int x1), .val (.int x2), .val (.int x3), .val (.int y0), .val (.int y2), .val (.int y1), .val (.int y3), .val (.int y0), .val (.int s1), .val (.int s2), .val (.int y3), .val (.ref b36), .val (.int (((0 : Int32) + (own_blw y0 ff)) + (own_blw s1 ff))), .unset] [(.int ff), (.int s2), (.int (((0 : Int32) + (own_blw y0 ff)) + (own_blw s1 ff)))])) rfl (by rw [hml]; rfl) (argsL := [(.int s2), (.int ff)]) (rest := [(.int (((0 : Int32) + (own_blw y0 ff)) + (own_blw s1 ff)))]) (lenOf pd_0 rfl) rfl (by show 2 * 0 + _ ≤ _; exact Nat.le_of_eq rfl) (hb hby at_251) (fun _ _ => ⟨rfl, e41, (by decide : 1 + 0 ≤ _), (by decide : 3 + 0 ≤ _)⟩)
    dsimp only [Pt.U, Pt.locs, Pt.cells, Pt.slots] at X42 l42 y42 z42 st42 hQ42
    subst l42 y42 z42
    obtain ⟨rfl, N42q, e42⟩ := hQ42
    have NF := Fr.app NF N42q
    refine own_go st42 ?_
    show own_R _ _ _ _ (T42.setTop (mkF m 254 #[.val (.int p1), .val (.int ff), .val (.int q3), .val (.int q4), .val (.int q5), .val (.int q6), .val (.int (3 : Int32)), .val (.int x0), .val (.int x1), .val (.int x2), .val (.int x3), .val (.int y0), .val (.int y2), .val (.int y1), .val (.int y3), .val (.int y0), .val (.int s1), .val (.int s2), .val (.int y3), .val (.ref b36), .val (.int (((0 : Int32) + (own_blw y0 ff)) + (own_blw s1 ff))), .unset] [(.int (own_blw s2 ff)), (.int (((0 : Int32) + (own_blw y0 ff)) + (own_blw s1 ff)))]))
    refine own_go (fun _ kt => XS.iadd X42.here hx rfl (hb hby at_254) rfl kt) ?_
    show own_R _ _ _ _ (T42.setTop (mkF m 255 #[.val (.int p1), .val (.int ff), .val (.int q3), .val (.int q4), .val (.int q5), .val (.int q6), .val (.int (3 : Int32)), .val (.int x0), .val (.int x1), .val (.int x2), .val (.int x3), .val (.int y0), .val (.int y2), .val (.int y1), .val (.int y3), .val (.int y0), .val (.int s1), .val (.int s2), .val (.int y3), .val (.ref b36), .val (.int (((0 : Int32) + (own_blw y0 ff)) + (own_blw s1 ff))), .unset] [(.int ((((0 : Int32) + (own_blw y0 ff)) + (own_blw s1 ff)) + (own_blw s2 ff)))]))
    refine own_go (fun _ kt => XS.istore X42.here hx rfl (hb hby at_255) rfl (l' := #[.val (.int p1), .val (.int ff), .val (.int q3), .val (.int q4), .val (.int q5), .val (.int q6), .val (.int (3 : Int32)), .val (.int x0), .val (.int x1), .val (.int x2), .val (.int x3), .val (.int y0), .val (.int y2), .val (.int y1), .val (.int y3), .val (.int y0), .val (.int s1), .val (.int s2), .val (.int y3), .val (.ref b36), .val (.int ((((0 : Int32) + (own_blw y0 ff)) + (own_blw s1 ff)) + (own_blw s2 ff))), .unset]) rfl kt) ?_
    show own_R _ _ _ _ (T42.setTop (mkF m 257 #[.val (.int p1), .val (.int ff), .val (.int q3), .val (.int q4), .val (.int q5), .val (.int q6), .val (.int (3 : Int32)), .val (.int x0), .val (.int x1), .val (.int x2), .val (.int x3), .val (.int y0), .val (.int y2), .val (.int y1), .val (.int y3), .val (.int y0), .val (.int s1), .val (.int s2), .val (.int y3), .val (.ref b36), .val (.int ((((0 : Int32) + (own_blw y0 ff)) + (own_blw s1 ff)) + (own_blw s2 ff))), .unset] []))
    refine own_go (fun _ kt => XS.iload X42.here hx rfl (hb hby at_257) rfl kt) ?_
    show own_R _ _ _ _ (T42.setTop (mkF m 259 #[.val (.int p1), .val (.int ff), .val (.int q3), .val (.int q4), .val (.int q5), .val (.int q6), .val (.int (3 : Int32)), .val (.int x0), .val (.int x1), .val (.int x2), .val (.int x3), .val (.int y0), .val (.int y2), .val (.int y1), .val (.int y3), .val (.int y0), .val (.int s1), .val (.int s2), .val (.int y3), .val (.ref b36), .val (.int ((((0 : Int32) + (own_blw y0 ff)) + (own_blw s1 ff)) + (own_blw s2 ff))), .unset] [(.int (3 : Int32))]))
    refine own_go (fun _ kt => XS.iconst X42.here hx rfl (hb hby at_259) kt) ?_
    show own_R _ _ _ _ (T42.setTop (mkF m 260 #[.val (.int p1), .val (.int ff), .val (.int q3), .val (.int q4), .val (.int q5), .val (.int q6), .val (.int (3 : Int32)), .val (.int x0), .val (.int x1), .val (.int x2), .val (.int x3), .val (.int y0), .val (.int y2), .val (.int y1), .val (.int y3), .val (.int y0), .val (.int s1), .val (.int s2), .val (.int y3), .val (.ref b36), .val (.int ((((0 : Int32) + (own_blw y0 ff)) + (own_blw s1 ff)) + (own_blw s2 ff))), .unset] [(.int (3 : Int32)), (.int (3 : Int32))]))
    refine own_go (fun _ kt => XS.icmpYes X42.here hx rfl (pc0 := 260) (pc' := 274) rfl (hb hby at_260) rfl (flt (by decide : ¬ ((3 : Int32) < (3 : Int32)))).2.2.2 (by decide) (by decide) kt) ?_
    show own_R _ _ _ _ (T42.setTop (mkF m 274 #[.val (.int p1), .val (.int ff), .val (.int q3), .val (.int q4), .val (.int q5), .val (.int q6), .val (.int (3 : Int32)), .val (.int x0), .val (.int x1), .val (.int x2), .val (.int x3), .val (.int y0), .val (.int y2), .val (.int y1), .val (.int y3), .val (.int y0), .val (.int s1), .val (.int s2), .val (.int y3), .val (.ref b36), .val (.int ((((0 : Int32) + (own_blw y0 ff)) + (own_blw s1 ff)) + (own_blw s2 ff))), .unset] []))
    refine own_go (fun _ kt => XS.aload X42.here hx rfl (hb hby at_274) rfl rfl kt) ?_
    show own_R _ _ _ _ (T42.setTop (mkF m 276 #[.val (.int p1), .val (.int ff), .val (.int q3), .val (.int q4), .val (.int q5), .val (.int q6), .val (.int (3 : Int32)), .val (.int x0), .val (.int x1), .val (.int x2), .val (.int x3), .val (.int y0), .val (.int y2), .val (.int y1), .val (.int y3), .val (.int y0), .val (.int s1), .val (.int s2), .val (.int y3), .val (.ref b36), .val (.int ((((0 : Int32) + (own_blw y0 ff)) + (own_blw s1 ff)) + (own_blw s2 ff))), .unset] [(.ref b36)]))
    refine own_go (fun _ kt => XS.iloadN X42.here hx rfl (hb hby at_276) rfl kt) ?_
    show own_R _ _ _ _ (T42.setTop (mkF m 277 #[.val (.int p1), .val (.int ff), .val (.int q3), .val (.int q4), .val (.int q5), .val (.int q6), .val (.int (3 : Int32)), .val (.int x0), .val (.int x1), .val (.int x2), .val (.int x3), .val (.int y0), .val (.int y2), .val (.int y1), .val (.int y3), .val (.int y0), .val (.int s1), .val (.int s2), .val (.int y3), .val (.ref b36), .val (.int ((((0 : Int32) + (own_blw y0 ff)) + (own_blw s1 ff)) + (own_blw s2 ff))), .unset] [(.int ff), (.ref b36)]))
    obtain ⟨_, _, ⟨T43, L43, k43, n43⟩, -, X43, ⟨Lc43, hQ43, l43, y43, z43⟩, st43⟩ := Jvm.LawKit.callS X42 hx (y := (⟨"com/example/parametree/parametree/Expression", "outer", "([II)I"⟩ : MethodName)) hown (mvT hZ (hw _ (List.mem_of_getElem? (i := 9) rfl))) (mvT hZ (hw _ (List.mem_of_getElem? (i := 10) rfl))) (mvT hZ (hw _ (List.mem_of_getElem? (i := 11) rfl))) (mvT hZ (hw _ (List.mem_of_getElem? (i := 12) rfl))) (by decide) (backOf (W := 0) (rm3_3 l Z a0 hw [] b36 ff k36 y0 s1 s2 h39 n0 ZS V_b36) hZ (hw _ (List.mem_of_getElem? (i := 12) rfl)) (hw _ (List.mem_of_getElem? (i := 11) rfl)) (by decide) (by decide)) (g := (mkF m 277 #[.val (.int p1), .val (.int ff), .val (.int q3), .val (.int q4), .val (.int q5), .val (.int q6), .val (.int (3 : Int32)), .val (.int x0), .val (.int x1), .val (.int x2), .val (.int x3), .val (.int y0), .val (.int y2), .val (.int y1), .val (.int y3), .val (.int y0), .val (.int s1), .val (.int s2), .val (.int y3), .val (.ref b36), .val (.int ((((0 : Int32) + (own_blw y0 ff)) + (own_blw s1 ff)) + (own_blw s2 ff))), .unset] [(.int ff), (.ref b36)])) rfl (by rw [hml]; rfl) (argsL := [(.ref b36), (.int ff)]) (rest := []) (lenOf pd_1 rfl) rfl (by show 2 * 0 + _ ≤ _; exact Nat.le_of_eq rfl) (hb hby at_277) (fun _ _ => ⟨rfl, e42, (by decide : 1 + 0 ≤ _), (by decide : 3 + 0 ≤ _)⟩)
    dsimp only [Pt.U, Pt.locs, Pt.cells, Pt.slots] at X43 l43 y43 z43 st43 hQ43
    subst l43 y43 z43
    obtain ⟨rfl, N43q, e43⟩ := hQ43
    have NF := Fr.app NF N43q
    refine own_go st43 ?_
    show own_R _ _ _ _ (T43.setTop (mkF m 280 #[.val (.int p1), .val (.int ff), .val (.int q3), .val (.int q4), .val (.int q5), .val (.int q6), .val (.int (3 : Int32)), .val (.int x0), .val (.int x1), .val (.int x2), .val (.int x3), .val (.int y0), .val (.int y2), .val (.int y1), .val (.int y3), .val (.int y0), .val (.int s1), .val (.int s2), .val (.int y3), .val (.ref b36), .val (.int ((((0 : Int32) + (own_blw y0 ff)) + (own_blw s1 ff)) + (own_blw s2 ff))), .unset] [(.int (own_out ff [y0, s1, s2]))]))
    refine own_go (fun _ kt => XS.istore X43.here hx rfl (hb hby at_280) rfl (l' := #[.val (.int p1), .val (.int ff), .val (.int q3), .val (.int q4), .val (.int q5), .val (.int q6), .val (.int (3 : Int32)), .val (.int x0), .val (.int x1), .val (.int x2), .val (.int x3), .val (.int y0), .val (.int y2), .val (.int y1), .val (.int y3), .val (.int y0), .val (.int s1), .val (.int s2), .val (.int y3), .val (.ref b36), .val (.int ((((0 : Int32) + (own_blw y0 ff)) + (own_blw s1 ff)) + (own_blw s2 ff))), .val (.int (own_out ff [y0, s1, s2]))]) rfl kt) ?_
    show own_R _ _ _ _ (T43.setTop (mkF m 282 #[.val (.int p1), .val (.int ff), .val (.int q3), .val (.int q4), .val (.int q5), .val (.int q6), .val (.int (3 : Int32)), .val (.int x0), .val (.int x1), .val (.int x2), .val (.int x3), .val (.int y0), .val (.int y2), .val (.int y1), .val (.int y3), .val (.int y0), .val (.int s1), .val (.int s2), .val (.int y3), .val (.ref b36), .val (.int ((((0 : Int32) + (own_blw y0 ff)) + (own_blw s1 ff)) + (own_blw s2 ff))), .val (.int (own_out ff [y0, s1, s2]))] []))
    refine own_go (fun _ kt => XS.iload X43.here hx rfl (hb hby at_282) rfl kt) ?_
    show own_R _ _ _ _ (T43.setTop (mkF m 284 #[.val (.int p1), .val (.int ff), .val (.int q3), .val (.int q4), .val (.int q5), .val (.int q6), .val (.int (3 : Int32)), .val (.int x0), .val (.int x1), .val (.int x2), .val (.int x3), .val (.int y0), .val (.int y2), .val (.int y1), .val (.int y3), .val (.int y0), .val (.int s1), .val (.int s2), .val (.int y3), .val (.ref b36), .val (.int ((((0 : Int32) + (own_blw y0 ff)) + (own_blw s1 ff)) + (own_blw s2 ff))), .val (.int (own_out ff [y0, s1, s2]))] [(.int (own_out ff [y0, s1, s2]))]))
    refine own_go (fun _ kt => XS.iload X43.here hx rfl (hb hby at_284) rfl kt) ?_
    show own_R _ _ _ _ (T43.setTop (mkF m 286 #[.val (.int p1), .val (.int ff), .val (.int q3), .val (.int q4), .val (.int q5), .val (.int q6), .val (.int (3 : Int32)), .val (.int x0), .val (.int x1), .val (.int x2), .val (.int x3), .val (.int y0), .val (.int y2), .val (.int y1), .val (.int y3), .val (.int y0), .val (.int s1), .val (.int s2), .val (.int y3), .val (.ref b36), .val (.int ((((0 : Int32) + (own_blw y0 ff)) + (own_blw s1 ff)) + (own_blw s2 ff))), .val (.int (own_out ff [y0, s1, s2]))] [(.int ((((0 : Int32) + (own_blw y0 ff)) + (own_blw s1 ff)) + (own_blw s2 ff))), (.int (own_out ff [y0, s1, s2]))]))
    refine own_go (fun _ kt => XS.icmpNo X43.here hx rfl (hb hby at_286) rfl (teq (own_law3 _ _ _ _ so1 so2)).2 kt) ?_
    show own_R _ _ _ _ (T43.setTop (mkF m 289 #[.val (.int p1), .val (.int ff), .val (.int q3), .val (.int q4), .val (.int q5), .val (.int q6), .val (.int (3 : Int32)), .val (.int x0), .val (.int x1), .val (.int x2), .val (.int x3), .val (.int y0), .val (.int y2), .val (.int y1), .val (.int y3), .val (.int y0), .val (.int s1), .val (.int s2), .val (.int y3), .val (.ref b36), .val (.int ((((0 : Int32) + (own_blw y0 ff)) + (own_blw s1 ff)) + (own_blw s2 ff))), .val (.int (own_out ff [y0, s1, s2]))] []))
    refine own_go (fun _ kt => XS.iconst X43.here hx rfl (hb hby at_289) kt) ?_
    show own_R _ _ _ _ (T43.setTop (mkF m 290 #[.val (.int p1), .val (.int ff), .val (.int q3), .val (.int q4), .val (.int q5), .val (.int q6), .val (.int (3 : Int32)), .val (.int x0), .val (.int x1), .val (.int x2), .val (.int x3), .val (.int y0), .val (.int y2), .val (.int y1), .val (.int y3), .val (.int y0), .val (.int s1), .val (.int s2), .val (.int y3), .val (.ref b36), .val (.int ((((0 : Int32) + (own_blw y0 ff)) + (own_blw s1 ff)) + (own_blw s2 ff))), .val (.int (own_out ff [y0, s1, s2]))] [(.int (1 : Int32))]))
    refine own_go (fun _ kt => XS.goto X43.here hx rfl (pc0 := 290) (pc' := 294) rfl (hb hby at_290) (by decide) (by decide) kt) ?_
    show own_R _ _ _ _ (T43.setTop (mkF m 294 #[.val (.int p1), .val (.int ff), .val (.int q3), .val (.int q4), .val (.int q5), .val (.int q6), .val (.int (3 : Int32)), .val (.int x0), .val (.int x1), .val (.int x2), .val (.int x3), .val (.int y0), .val (.int y2), .val (.int y1), .val (.int y3), .val (.int y0), .val (.int s1), .val (.int s2), .val (.int y3), .val (.ref b36), .val (.int ((((0 : Int32) + (own_blw y0 ff)) + (own_blw s1 ff)) + (own_blw s2 ff))), .val (.int (own_out ff [y0, s1, s2]))] [(.int (1 : Int32))]))
    exact own_retN X43 hx (t := .boolean) (by simp) Bd.returns (hb hby at_294) hlk ⟨rfl, NF⟩ (by decide) (by decide)
  · show own_R _ _ _ _ (T23.setTop (mkF m 102 #[.val (.int p1), .val (.int ff), .val (.int q3), .val (.int q4), .val (.int q5), .val (.int q6), .val (.int (4 : Int32)), .val (.int x0), .val (.int x1), .val (.int x2), .val (.int x3), .val (.int y0), .val (.int y2), .val (.int y1), .val (.int y3), .val (.int y0), .val (.int s1), .val (.int s2), .val (.int y3), .unset, .unset, .unset] []))
    refine own_go (fun _ kt => XS.iload X23.here hx rfl (hb hby at_102) rfl kt) ?_
    show own_R _ _ _ _ (T23.setTop (mkF m 104 #[.val (.int p1), .val (.int ff), .val (.int q3), .val (.int q4), .val (.int q5), .val (.int q6), .val (.int (4 : Int32)), .val (.int x0), .val (.int x1), .val (.int x2), .val (.int x3), .val (.int y0), .val (.int y2), .val (.int y1), .val (.int y3), .val (.int y0), .val (.int s1), .val (.int s2), .val (.int y3), .unset, .unset, .unset] [(.int (4 : Int32))]))
    refine own_go (fun _ kt => XS.ifYes X23.here hx rfl (pc0 := 104) (pc' := 113) rfl (hb hby at_104) rfl ((if0 _ _).trans (feq (by decide : ¬ ((4 : Int32) = (0 : Int32)))).2) (by decide) (by decide) kt) ?_
    show own_R _ _ _ _ (T23.setTop (mkF m 113 #[.val (.int p1), .val (.int ff), .val (.int q3), .val (.int q4), .val (.int q5), .val (.int q6), .val (.int (4 : Int32)), .val (.int x0), .val (.int x1), .val (.int x2), .val (.int x3), .val (.int y0), .val (.int y2), .val (.int y1), .val (.int y3), .val (.int y0), .val (.int s1), .val (.int s2), .val (.int y3), .unset, .unset, .unset] []))
    refine own_go (fun _ kt => XS.iload X23.here hx rfl (hb hby at_113) rfl kt) ?_
    show own_R _ _ _ _ (T23.setTop (mkF m 115 #[.val (.int p1), .val (.int ff), .val (.int q3), .val (.int q4), .val (.int q5), .val (.int q6), .val (.int (4 : Int32)), .val (.int x0), .val (.int x1), .val (.int x2), .val (.int x3), .val (.int y0), .val (.int y2), .val (.int y1), .val (.int y3), .val (.int y0), .val (.int s1), .val (.int s2), .val (.int y3), .unset, .unset, .unset] [(.int (4 : Int32))]))
    refine own_go (fun _ kt => XS.iconst X23.here hx rfl (hb hby at_115) kt) ?_
    show own_R _ _ _ _ (T23.setTop (mkF m 116 #[.val (.int p1), .val (.int ff), .val (.int q3), .val (.int q4), .val (.int q5), .val (.int q6), .val (.int (4 : Int32)), .val (.int x0), .val (.int x1), .val (.int x2), .val (.int x3), .val (.int y0), .val (.int y2), .val (.int y1), .val (.int y3), .val (.int y0), .val (.int s1), .val (.int s2), .val (.int y3), .unset, .unset, .unset] [(.int (1 : Int32)), (.int (4 : Int32))]))
    refine own_go (fun _ kt => XS.icmpYes X23.here hx rfl (pc0 := 116) (pc' := 130) rfl (hb hby at_116) rfl (feq (by decide : ¬ ((4 : Int32) = (1 : Int32)))).2 (by decide) (by decide) kt) ?_
    show own_R _ _ _ _ (T23.setTop (mkF m 130 #[.val (.int p1), .val (.int ff), .val (.int q3), .val (.int q4), .val (.int q5), .val (.int q6), .val (.int (4 : Int32)), .val (.int x0), .val (.int x1), .val (.int x2), .val (.int x3), .val (.int y0), .val (.int y2), .val (.int y1), .val (.int y3), .val (.int y0), .val (.int s1), .val (.int s2), .val (.int y3), .unset, .unset, .unset] []))
    refine own_go (fun _ kt => XS.iload X23.here hx rfl (hb hby at_130) rfl kt) ?_
    show own_R _ _ _ _ (T23.setTop (mkF m 132 #[.val (.int p1), .val (.int ff), .val (.int q3), .val (.int q4), .val (.int q5), .val (.int q6), .val (.int (4 : Int32)), .val (.int x0), .val (.int x1), .val (.int x2), .val (.int x3), .val (.int y0), .val (.int y2), .val (.int y1), .val (.int y3), .val (.int y0), .val (.int s1), .val (.int s2), .val (.int y3), .unset, .unset, .unset] [(.int (4 : Int32))]))
    refine own_go (fun _ kt => XS.iconst X23.here hx rfl (hb hby at_132) kt) ?_
    show own_R _ _ _ _ (T23.setTop (mkF m 133 #[.val (.int p1), .val (.int ff), .val (.int q3), .val (.int q4), .val (.int q5), .val (.int q6), .val (.int (4 : Int32)), .val (.int x0), .val (.int x1), .val (.int x2), .val (.int x3), .val (.int y0), .val (.int y2), .val (.int y1), .val (.int y3), .val (.int y0), .val (.int s1), .val (.int s2), .val (.int y3), .unset, .unset, .unset] [(.int (2 : Int32)), (.int (4 : Int32))]))
    refine own_go (fun _ kt => XS.icmpYes X23.here hx rfl (pc0 := 133) (pc' := 152) rfl (hb hby at_133) rfl (feq (by decide : ¬ ((4 : Int32) = (2 : Int32)))).2 (by decide) (by decide) kt) ?_
    show own_R _ _ _ _ (T23.setTop (mkF m 152 #[.val (.int p1), .val (.int ff), .val (.int q3), .val (.int q4), .val (.int q5), .val (.int q6), .val (.int (4 : Int32)), .val (.int x0), .val (.int x1), .val (.int x2), .val (.int x3), .val (.int y0), .val (.int y2), .val (.int y1), .val (.int y3), .val (.int y0), .val (.int s1), .val (.int s2), .val (.int y3), .unset, .unset, .unset] []))
    refine own_go (fun _ kt => XS.iload X23.here hx rfl (hb hby at_152) rfl kt) ?_
    show own_R _ _ _ _ (T23.setTop (mkF m 154 #[.val (.int p1), .val (.int ff), .val (.int q3), .val (.int q4), .val (.int q5), .val (.int q6), .val (.int (4 : Int32)), .val (.int x0), .val (.int x1), .val (.int x2), .val (.int x3), .val (.int y0), .val (.int y2), .val (.int y1), .val (.int y3), .val (.int y0), .val (.int s1), .val (.int s2), .val (.int y3), .unset, .unset, .unset] [(.int (4 : Int32))]))
    refine own_go (fun _ kt => XS.iconst X23.here hx rfl (hb hby at_154) kt) ?_
    show own_R _ _ _ _ (T23.setTop (mkF m 155 #[.val (.int p1), .val (.int ff), .val (.int q3), .val (.int q4), .val (.int q5), .val (.int q6), .val (.int (4 : Int32)), .val (.int x0), .val (.int x1), .val (.int x2), .val (.int x3), .val (.int y0), .val (.int y2), .val (.int y1), .val (.int y3), .val (.int y0), .val (.int s1), .val (.int s2), .val (.int y3), .unset, .unset, .unset] [(.int (3 : Int32)), (.int (4 : Int32))]))
    refine own_go (fun _ kt => XS.icmpYes X23.here hx rfl (pc0 := 155) (pc' := 179) rfl (hb hby at_155) rfl (feq (by decide : ¬ ((4 : Int32) = (3 : Int32)))).2 (by decide) (by decide) kt) ?_
    show own_R _ _ _ _ (T23.setTop (mkF m 179 #[.val (.int p1), .val (.int ff), .val (.int q3), .val (.int q4), .val (.int q5), .val (.int q6), .val (.int (4 : Int32)), .val (.int x0), .val (.int x1), .val (.int x2), .val (.int x3), .val (.int y0), .val (.int y2), .val (.int y1), .val (.int y3), .val (.int y0), .val (.int s1), .val (.int s2), .val (.int y3), .unset, .unset, .unset] []))
    refine own_go (fun _ kt => XS.iconst X23.here hx rfl (hb hby at_179) kt) ?_
    show own_R _ _ _ _ (T23.setTop (mkF m 180 #[.val (.int p1), .val (.int ff), .val (.int q3), .val (.int q4), .val (.int q5), .val (.int q6), .val (.int (4 : Int32)), .val (.int x0), .val (.int x1), .val (.int x2), .val (.int x3), .val (.int y0), .val (.int y2), .val (.int y1), .val (.int y3), .val (.int y0), .val (.int s1), .val (.int s2), .val (.int y3), .unset, .unset, .unset] [(.int (4 : Int32))]))
    obtain ⟨T44, h44, k44, X44, e44, E44, A44, st44⟩ := newP X23 hx hZ (hw _ (List.mem_of_getElem? (i := 8) rfl)) e23 (g := (mkF m 180 #[.val (.int p1), .val (.int ff), .val (.int q3), .val (.int q4), .val (.int q5), .val (.int q6), .val (.int (4 : Int32)), .val (.int x0), .val (.int x1), .val (.int x2), .val (.int x3), .val (.int y0), .val (.int y2), .val (.int y1), .val (.int y3), .val (.int y0), .val (.int s1), .val (.int s2), .val (.int y3), .unset, .unset, .unset] [(.int (4 : Int32))])) rfl (hb hby at_180) rfl (by decide) (cap := 4) (by decide) (by decide) (by decide) (by decide)
    obtain ⟨b44, g44⟩ : ∃ z, z = h0.size := ⟨_, rfl⟩
    rw [← g44] at A44 st44
    refine own_go st44 ?_
    have g_b44 : n0 ≤ b44 := Nat.le_trans ZS (Nat.le_of_eq g44.symm)
    have sz_b44 : h0.size ≤ b44 := Nat.le_trans KP.1 (Nat.le_of_eq g44.symm)
    have ZS := Nat.le_trans ZS E44.1
    have KP := KP.ext E44
    have V_b44 : Arv Z h44 b44 k44 .int (4 : Int32) [(.int (0 : Int32)), (.int (0 : Int32)), (.int (0 : Int32)), (.int (0 : Int32))] (.int (0 : Int32)) := (Arv.new A44 (by decide)).pad (pad_rep [] (.int (0 : Int32)) 4)
    show own_R _ _ _ _ (T44.setTop (mkF m 182 #[.val (.int p1), .val (.int ff), .val (.int q3), .val (.int q4), .val (.int q5), .val (.int q6), .val (.int (4 : Int32)), .val (.int x0), .val (.int x1), .val (.int x2), .val (.int x3), .val (.int y0), .val (.int y2), .val (.int y1), .val (.int y3), .val (.int y0), .val (.int s1), .val (.int s2), .val (.int y3), .unset, .unset, .unset] [(.ref b44)]))
    refine own_go (fun _ kt => XS.dup X44.here hx rfl (hb hby at_182) rfl rfl kt) ?_
    show own_R _ _ _ _ (T44.setTop (mkF m 183 #[.val (.int p1), .val (.int ff), .val (.int q3), .val (.int q4), .val (.int q5), .val (.int q6), .val (.int (4 : Int32)), .val (.int x0), .val (.int x1), .val (.int x2), .val (.int x3), .val (.int y0), .val (.int y2), .val (.int y1), .val (.int y3), .val (.int y0), .val (.int s1), .val (.int s2), .val (.int y3), .unset, .unset, .unset] [(.ref b44), (.ref b44)]))
    refine own_go (fun _ kt => XS.iconst X44.here hx rfl (hb hby at_183) kt) ?_
    show own_R _ _ _ _ (T44.setTop (mkF m 184 #[.val (.int p1), .val (.int ff), .val (.int q3), .val (.int q4), .val (.int q5), .val (.int q6), .val (.int (4 : Int32)), .val (.int x0), .val (.int x1), .val (.int x2), .val (.int x3), .val (.int y0), .val (.int y2), .val (.int y1), .val (.int y3), .val (.int y0), .val (.int s1), .val (.int s2), .val (.int y3), .unset, .unset, .unset] [(.int (0 : Int32)), (.ref b44), (.ref b44)]))
    refine own_go (fun _ kt => XS.iload X44.here hx rfl (hb hby at_184) rfl kt) ?_
    show own_R _ _ _ _ (T44.setTop (mkF m 186 #[.val (.int p1), .val (.int ff), .val (.int q3), .val (.int q4), .val (.int q5), .val (.int q6), .val (.int (4 : Int32)), .val (.int x0), .val (.int x1), .val (.int x2), .val (.int x3), .val (.int y0), .val (.int y2), .val (.int y1), .val (.int y3), .val (.int y0), .val (.int s1), .val (.int s2), .val (.int y3), .unset, .unset, .unset] [(.int y0), (.int (0 : Int32)), (.ref b44), (.ref b44)]))
    obtain ⟨T45, h45, sl45, X45, e45, W45, V45, st45⟩ := own_stI X44 hx hZ e44 V_b44 (j := (0 : Int32)) (i := 0) ⟨by decide, by decide⟩ rfl (Nat.le_of_ble_eq_true rfl) rfl (g := (mkF m 186 #[.val (.int p1), .val (.int ff), .val (.int q3), .val (.int q4), .val (.int q5), .val (.int q6), .val (.int (4 : Int32)), .val (.int x0), .val (.int x1), .val (.int x2), .val (.int x3), .val (.int y0), .val (.int y2), .val (.int y1), .val (.int y3), .val (.int y0), .val (.int s1), .val (.int s2), .val (.int y3), .unset, .unset, .unset] [(.int y0), (.int (0 : Int32)), (.ref b44), (.ref b44)])) rfl rfl (hb hby at_186)
    refine own_go st45 ?_
    have ZS := Nat.le_trans ZS (Keep.of_wr W45).1
    have KP := KP.wr W45 (Or.inr sz_b44)
    have NF := Fr.snoc X45 NF g_b44
    have V_b44 : Arv Z h45 b44 k44 .int (4 : Int32) [(.int y0), (.int (0 : Int32)), (.int (0 : Int32)), (.int (0 : Int32))] (.int (0 : Int32)) := V45
    show own_R _ _ _ _ (T45.setTop (mkF m 187 #[.val (.int p1), .val (.int ff), .val (.int q3), .val (.int q4), .val (.int q5), .val (.int q6), .val (.int (4 : Int32)), .val (.int x0), .val (.int x1), .val (.int x2), .val (.int x3), .val (.int y0), .val (.int y2), .val (.int y1), .val (.int y3), .val (.int y0), .val (.int s1), .val (.int s2), .val (.int y3), .unset, .unset, .unset] [(.ref b44)]))
    refine own_go (fun _ kt => XS.dup X45.here hx rfl (hb hby at_187) rfl rfl kt) ?_
    show own_R _ _ _ _ (T45.setTop (mkF m 188 #[.val (.int p1), .val (.int ff), .val (.int q3), .val (.int q4), .val (.int q5), .val (.int q6), .val (.int (4 : Int32)), .val (.int x0), .val (.int x1), .val (.int x2), .val (.int x3), .val (.int y0), .val (.int y2), .val (.int y1), .val (.int y3), .val (.int y0), .val (.int s1), .val (.int s2), .val (.int y3), .unset, .unset, .unset] [(.ref b44), (.ref b44)]))
    refine own_go (fun _ kt => XS.iconst X45.here hx rfl (hb hby at_188) kt) ?_
    show own_R _ _ _ _ (T45.setTop (mkF m 189 #[.val (.int p1), .val (.int ff), .val (.int q3), .val (.int q4), .val (.int q5), .val (.int q6), .val (.int (4 : Int32)), .val (.int x0), .val (.int x1), .val (.int x2), .val (.int x3), .val (.int y0), .val (.int y2), .val (.int y1), .val (.int y3), .val (.int y0), .val (.int s1), .val (.int s2), .val (.int y3), .unset, .unset, .unset] [(.int (1 : Int32)), (.ref b44), (.ref b44)]))
    refine own_go (fun _ kt => XS.iload X45.here hx rfl (hb hby at_189) rfl kt) ?_
    show own_R _ _ _ _ (T45.setTop (mkF m 191 #[.val (.int p1), .val (.int ff), .val (.int q3), .val (.int q4), .val (.int q5), .val (.int q6), .val (.int (4 : Int32)), .val (.int x0), .val (.int x1), .val (.int x2), .val (.int x3), .val (.int y0), .val (.int y2), .val (.int y1), .val (.int y3), .val (.int y0), .val (.int s1), .val (.int s2), .val (.int y3), .unset, .unset, .unset] [(.int s1), (.int (1 : Int32)), (.ref b44), (.ref b44)]))
    obtain ⟨T46, h46, sl46, X46, e46, W46, V46, st46⟩ := own_stI X45 hx hZ e45 V_b44 (j := (1 : Int32)) (i := 1) ⟨by decide, by decide⟩ rfl (Nat.le_of_ble_eq_true rfl) rfl (g := (mkF m 191 #[.val (.int p1), .val (.int ff), .val (.int q3), .val (.int q4), .val (.int q5), .val (.int q6), .val (.int (4 : Int32)), .val (.int x0), .val (.int x1), .val (.int x2), .val (.int x3), .val (.int y0), .val (.int y2), .val (.int y1), .val (.int y3), .val (.int y0), .val (.int s1), .val (.int s2), .val (.int y3), .unset, .unset, .unset] [(.int s1), (.int (1 : Int32)), (.ref b44), (.ref b44)])) rfl rfl (hb hby at_191)
    refine own_go st46 ?_
    have ZS := Nat.le_trans ZS (Keep.of_wr W46).1
    have KP := KP.wr W46 (Or.inr sz_b44)
    have NF := Fr.snoc X46 NF g_b44
    have V_b44 : Arv Z h46 b44 k44 .int (4 : Int32) [(.int y0), (.int s1), (.int (0 : Int32)), (.int (0 : Int32))] (.int (0 : Int32)) := V46
    show own_R _ _ _ _ (T46.setTop (mkF m 192 #[.val (.int p1), .val (.int ff), .val (.int q3), .val (.int q4), .val (.int q5), .val (.int q6), .val (.int (4 : Int32)), .val (.int x0), .val (.int x1), .val (.int x2), .val (.int x3), .val (.int y0), .val (.int y2), .val (.int y1), .val (.int y3), .val (.int y0), .val (.int s1), .val (.int s2), .val (.int y3), .unset, .unset, .unset] [(.ref b44)]))
    refine own_go (fun _ kt => XS.dup X46.here hx rfl (hb hby at_192) rfl rfl kt) ?_
    show own_R _ _ _ _ (T46.setTop (mkF m 193 #[.val (.int p1), .val (.int ff), .val (.int q3), .val (.int q4), .val (.int q5), .val (.int q6), .val (.int (4 : Int32)), .val (.int x0), .val (.int x1), .val (.int x2), .val (.int x3), .val (.int y0), .val (.int y2), .val (.int y1), .val (.int y3), .val (.int y0), .val (.int s1), .val (.int s2), .val (.int y3), .unset, .unset, .unset] [(.ref b44), (.ref b44)]))
    refine own_go (fun _ kt => XS.iconst X46.here hx rfl (hb hby at_193) kt) ?_
    show own_R _ _ _ _ (T46.setTop (mkF m 194 #[.val (.int p1), .val (.int ff), .val (.int q3), .val (.int q4), .val (.int q5), .val (.int q6), .val (.int (4 : Int32)), .val (.int x0), .val (.int x1), .val (.int x2), .val (.int x3), .val (.int y0), .val (.int y2), .val (.int y1), .val (.int y3), .val (.int y0), .val (.int s1), .val (.int s2), .val (.int y3), .unset, .unset, .unset] [(.int (2 : Int32)), (.ref b44), (.ref b44)]))
    refine own_go (fun _ kt => XS.iload X46.here hx rfl (hb hby at_194) rfl kt) ?_
    show own_R _ _ _ _ (T46.setTop (mkF m 196 #[.val (.int p1), .val (.int ff), .val (.int q3), .val (.int q4), .val (.int q5), .val (.int q6), .val (.int (4 : Int32)), .val (.int x0), .val (.int x1), .val (.int x2), .val (.int x3), .val (.int y0), .val (.int y2), .val (.int y1), .val (.int y3), .val (.int y0), .val (.int s1), .val (.int s2), .val (.int y3), .unset, .unset, .unset] [(.int s2), (.int (2 : Int32)), (.ref b44), (.ref b44)]))
    obtain ⟨T47, h47, sl47, X47, e47, W47, V47, st47⟩ := own_stI X46 hx hZ e46 V_b44 (j := (2 : Int32)) (i := 2) ⟨by decide, by decide⟩ rfl (Nat.le_of_ble_eq_true rfl) rfl (g := (mkF m 196 #[.val (.int p1), .val (.int ff), .val (.int q3), .val (.int q4), .val (.int q5), .val (.int q6), .val (.int (4 : Int32)), .val (.int x0), .val (.int x1), .val (.int x2), .val (.int x3), .val (.int y0), .val (.int y2), .val (.int y1), .val (.int y3), .val (.int y0), .val (.int s1), .val (.int s2), .val (.int y3), .unset, .unset, .unset] [(.int s2), (.int (2 : Int32)), (.ref b44), (.ref b44)])) rfl rfl (hb hby at_196)
    refine own_go st47 ?_
    have ZS := Nat.le_trans ZS (Keep.of_wr W47).1
    have KP := KP.wr W47 (Or.inr sz_b44)
    have NF := Fr.snoc X47 NF g_b44
    have V_b44 : Arv Z h47 b44 k44 .int (4 : Int32) [(.int y0), (.int s1), (.int s2), (.int (0 : Int32))] (.int (0 : Int32)) := V47
    show own_R _ _ _ _ (T47.setTop (mkF m 197 #[.val (.int p1), .val (.int ff), .val (.int q3), .val (.int q4), .val (.int q5), .val (.int q6), .val (.int (4 : Int32)), .val (.int x0), .val (.int x1), .val (.int x2), .val (.int x3), .val (.int y0), .val (.int y2), .val (.int y1), .val (.int y3), .val (.int y0), .val (.int s1), .val (.int s2), .val (.int y3), .unset, .unset, .unset] [(.ref b44)]))
    refine own_go (fun _ kt => XS.dup X47.here hx rfl (hb hby at_197) rfl rfl kt) ?_
    show own_R _ _ _ _ (T47.setTop (mkF m 198 #[.val (.int p1), .val (.int ff), .val (.int q3), .val (.int q4), .val (.int q5), .val (.int q6), .val (.int (4 : Int32)), .val (.int x0), .val (.int x1), .val (.int x2), .val (.int x3), .val (.int y0), .val (.int y2), .val (.int y1), .val (.int y3), .val (.int y0), .val (.int s1), .val (.int s2), .val (.int y3), .unset, .unset, .unset] [(.ref b44), (.ref b44)]))
    refine own_go (fun _ kt => XS.iconst X47.here hx rfl (hb hby at_198) kt) ?_
    show own_R _ _ _ _ (T47.setTop (mkF m 199 #[.val (.int p1), .val (.int ff), .val (.int q3), .val (.int q4), .val (.int q5), .val (.int q6), .val (.int (4 : Int32)), .val (.int x0), .val (.int x1), .val (.int x2), .val (.int x3), .val (.int y0), .val (.int y2), .val (.int y1), .val (.int y3), .val (.int y0), .val (.int s1), .val (.int s2), .val (.int y3), .unset, .unset, .unset] [(.int (3 : Int32)), (.ref b44), (.ref b44)]))
    refine own_go (fun _ kt => XS.iload X47.here hx rfl (hb hby at_199) rfl kt) ?_
    show own_R _ _ _ _ (T47.setTop (mkF m 201 #[.val (.int p1), .val (.int ff), .val (.int q3), .val (.int q4), .val (.int q5), .val (.int q6), .val (.int (4 : Int32)), .val (.int x0), .val (.int x1), .val (.int x2), .val (.int x3), .val (.int y0), .val (.int y2), .val (.int y1), .val (.int y3), .val (.int y0), .val (.int s1), .val (.int s2), .val (.int y3), .unset, .unset, .unset] [(.int y3), (.int (3 : Int32)), (.ref b44), (.ref b44)]))
    obtain ⟨T48, h48, sl48, X48, e48, W48, V48, st48⟩ := own_stI X47 hx hZ e47 V_b44 (j := (3 : Int32)) (i := 3) ⟨by decide, by decide⟩ rfl (Nat.le_of_ble_eq_true rfl) rfl (g := (mkF m 201 #[.val (.int p1), .val (.int ff), .val (.int q3), .val (.int q4), .val (.int q5), .val (.int q6), .val (.int (4 : Int32)), .val (.int x0), .val (.int x1), .val (.int x2), .val (.int x3), .val (.int y0), .val (.int y2), .val (.int y1), .val (.int y3), .val (.int y0), .val (.int s1), .val (.int s2), .val (.int y3), .unset, .unset, .unset] [(.int y3), (.int (3 : Int32)), (.ref b44), (.ref b44)])) rfl rfl (hb hby at_201)
    refine own_go st48 ?_
    have ZS := Nat.le_trans ZS (Keep.of_wr W48).1
    have KP := KP.wr W48 (Or.inr sz_b44)
    have NF := Fr.snoc X48 NF g_b44
    have V_b44 : Arv Z h48 b44 k44 .int (4 : Int32) [(.int y0), (.int s1), (.int s2), (.int y3)] (.int (0 : Int32)) := V48
    show own_R _ _ _ _ (T48.setTop (mkF m 202 #[.val (.int p1), .val (.int ff), .val (.int q3), .val (.int q4), .val (.int q5), .val (.int q6), .val (.int (4 : Int32)), .val (.int x0), .val (.int x1), .val (.int x2), .val (.int x3), .val (.int y0), .val (.int y2), .val (.int y1), .val (.int y3), .val (.int y0), .val (.int s1), .val (.int s2), .val (.int y3), .unset, .unset, .unset] [(.ref b44)]))
    refine own_go (fun _ kt => XS.astore X48.here hx rfl (hb hby at_202) rfl rfl (l' := #[.val (.int p1), .val (.int ff), .val (.int q3), .val (.int q4), .val (.int q5), .val (.int q6), .val (.int (4 : Int32)), .val (.int x0), .val (.int x1), .val (.int x2), .val (.int x3), .val (.int y0), .val (.int y2), .val (.int y1), .val (.int y3), .val (.int y0), .val (.int s1), .val (.int s2), .val (.int y3), .val (.ref b44), .unset, .unset]) rfl kt) ?_
    show own_R _ _ _ _ (T48.setTop (mkF m 204 #[.val (.int p1), .val (.int ff), .val (.int q3), .val (.int q4), .val (.int q5), .val (.int q6), .val (.int (4 : Int32)), .val (.int x0), .val (.int x1), .val (.int x2), .val (.int x3), .val (.int y0), .val (.int y2), .val (.int y1), .val (.int y3), .val (.int y0), .val (.int s1), .val (.int s2), .val (.int y3), .val (.ref b44), .unset, .unset] []))
    refine own_go (fun _ kt => XS.iconst X48.here hx rfl (hb hby at_204) kt) ?_
    show own_R _ _ _ _ (T48.setTop (mkF m 205 #[.val (.int p1), .val (.int ff), .val (.int q3), .val (.int q4), .val (.int q5), .val (.int q6), .val (.int (4 : Int32)), .val (.int x0), .val (.int x1), .val (.int x2), .val (.int x3), .val (.int y0), .val (.int y2), .val (.int y1), .val (.int y3), .val (.int y0), .val (.int s1), .val (.int s2), .val (.int y3), .val (.ref b44), .unset, .unset] [(.int (0 : Int32))]))
    refine own_go (fun _ kt => XS.istore X48.here hx rfl (hb hby at_205) rfl (l' := #[.val (.int p1), .val (.int ff), .val (.int q3), .val (.int q4), .val (.int q5), .val (.int q6), .val (.int (4 : Int32)), .val (.int x0), .val (.int x1), .val (.int x2), .val (.int x3), .val (.int y0), .val (.int y2), .val (.int y1), .val (.int y3), .val (.int y0), .val (.int s1), .val (.int s2), .val (.int y3), .val (.ref b44), .val (.int (0 : Int32)), .unset]) rfl kt) ?_
    show own_R _ _ _ _ (T48.setTop (mkF m 207 #[.val (.int p1), .val (.int ff), .val (.int q3), .val (.int q4), .val (.int q5), .val (.int q6), .val (.int (4 : Int32)), .val (.int x0), .val (.int x1), .val (.int x2), .val (.int x3), .val (.int y0), .val (.int y2), .val (.int y1), .val (.int y3), .val (.int y0), .val (.int s1), .val (.int s2), .val (.int y3), .val (.ref b44), .val (.int (0 : Int32)), .unset] []))
    refine own_go (fun _ kt => XS.iload X48.here hx rfl (hb hby at_207) rfl kt) ?_
    show own_R _ _ _ _ (T48.setTop (mkF m 209 #[.val (.int p1), .val (.int ff), .val (.int q3), .val (.int q4), .val (.int q5), .val (.int q6), .val (.int (4 : Int32)), .val (.int x0), .val (.int x1), .val (.int x2), .val (.int x3), .val (.int y0), .val (.int y2), .val (.int y1), .val (.int y3), .val (.int y0), .val (.int s1), .val (.int s2), .val (.int y3), .val (.ref b44), .val (.int (0 : Int32)), .unset] [(.int (4 : Int32))]))
    refine own_go (fun _ kt => XS.ifNo X48.here hx rfl (hb hby at_209) rfl ((if0 _ _).trans (tlt (by decide : (0 : Int32) < (4 : Int32))).2.2.2) kt) ?_
    show own_R _ _ _ _ (T48.setTop (mkF m 212 #[.val (.int p1), .val (.int ff), .val (.int q3), .val (.int q4), .val (.int q5), .val (.int q6), .val (.int (4 : Int32)), .val (.int x0), .val (.int x1), .val (.int x2), .val (.int x3), .val (.int y0), .val (.int y2), .val (.int y1), .val (.int y3), .val (.int y0), .val (.int s1), .val (.int s2), .val (.int y3), .val (.ref b44), .val (.int (0 : Int32)), .unset] []))
    refine own_go (fun _ kt => XS.iload X48.here hx rfl (hb hby at_212) rfl kt) ?_
    show own_R _ _ _ _ (T48.setTop (mkF m 214 #[.val (.int p1), .val (.int ff), .val (.int q3), .val (.int q4), .val (.int q5), .val (.int q6), .val (.int (4 : Int32)), .val (.int x0), .val (.int x1), .val (.int x2), .val (.int x3), .val (.int y0), .val (.int y2), .val (.int y1), .val (.int y3), .val (.int y0), .val (.int s1), .val (.int s2), .val (.int y3), .val (.ref b44), .val (.int (0 : Int32)), .unset] [(.int (0 : Int32))]))
    refine own_go (fun _ kt => XS.iload X48.here hx rfl (hb hby at_214) rfl kt) ?_
    show own_R _ _ _ _ (T48.setTop (mkF m 216 #[.val (.int p1), .val (.int ff), .val (.int q3), .val (.int q4), .val (.int q5), .val (.int q6), .val (.int (4 : Int32)), .val (.int x0), .val (.int x1), .val (.int x2), .val (.int x3), .val (.int y0), .val (.int y2), .val (.int y1), .val (.int y3), .val (.int y0), .val (.int s1), .val (.int s2), .val (.int y3), .val (.ref b44), .val (.int (0 : Int32)), .unset] [(.int y0), (.int (0 : Int32))]))
    refine own_go (fun _ kt => XS.iloadN X48.here hx rfl (hb hby at_216) rfl kt) ?_
    show own_R _ _ _ _ (T48.setTop (mkF m 217 #[.val (.int p1), .val (.int ff), .val (.int q3), .val (.int q4), .val (.int q5), .val (.int q6), .val (.int (4 : Int32)), .val (.int x0), .val (.int x1), .val (.int x2), .val (.int x3), .val (.int y0), .val (.int y2), .val (.int y1), .val (.int y3), .val (.int y0), .val (.int s1), .val (.int s2), .val (.int y3), .val (.ref b44), .val (.int (0 : Int32)), .unset] [(.int ff), (.int y0), (.int (0 : Int32))]))
    obtain ⟨_, _, ⟨T49, L49, k49, n49⟩, -, X49, ⟨Lc49, hQ49, l49, y49, z49⟩, st49⟩ := Jvm.LawKit.callS X48 hx (y := (⟨"com/example/parametree/parametree/ExpressionOuterPinLaw", "below", "(II)I"⟩ : MethodName)) hown (mvT hZ (hw _ (List.mem_of_getElem? (i := 13) rfl))) (mvT hZ (hw _ (List.mem_of_getElem? (i := 14) rfl))) (mvT hZ (hw _ (List.mem_of_getElem? (i := 15) rfl))) (mvT hZ (hw _ (List.mem_of_getElem? (i := 16) rfl))) (by decide) (backOf (W := 1) (rm4 l Z a0 hw [] y0 ff h48 n0 ZS) hZ (hw _ (List.mem_of_getElem? (i := 16) rfl)) (hw _ (List.mem_of_getElem? (i := 15) rfl)) (by decide) (by decide)) (g := (mkF m 217 #[.val (.int p1), .val (.int ff), .val (.int q3), .val (.int q4), .val (.int q5), .val (.int q6), .val (.int (4 : Int32)), .val (.int x0), .val (.int x1), .val (.int x2), .val (.int x3), .val (.int y0), .val (.int y2), .val (.int y1), .val (.int y3), .val (.int y0), .val (.int s1), .val (.int s2), .val (.int y3), .val (.ref b44), .val (.int (0 : Int32)), .unset] [(.int ff), (.int y0), (.int (0 : Int32))])) rfl (by rw [hml]; rfl) (argsL := [(.int y0), (.int ff)]) (rest := [(.int (0 : Int32))]) (lenOf pd_0 rfl) rfl (by show 2 * 0 + _ ≤ _; exact Nat.le_of_eq rfl) (hb hby at_217) (fun _ _ => ⟨rfl, e48, (by decide : 1 + 0 ≤ _), (by decide : 4 + 0 ≤ _)⟩)
    dsimp only [Pt.U, Pt.locs, Pt.cells, Pt.slots] at X49 l49 y49 z49 st49 hQ49
    subst l49 y49 z49
    obtain ⟨rfl, N49q, e49⟩ := hQ49
    have NF := Fr.app NF N49q
    refine own_go st49 ?_
    show own_R _ _ _ _ (T49.setTop (mkF m 220 #[.val (.int p1), .val (.int ff), .val (.int q3), .val (.int q4), .val (.int q5), .val (.int q6), .val (.int (4 : Int32)), .val (.int x0), .val (.int x1), .val (.int x2), .val (.int x3), .val (.int y0), .val (.int y2), .val (.int y1), .val (.int y3), .val (.int y0), .val (.int s1), .val (.int s2), .val (.int y3), .val (.ref b44), .val (.int (0 : Int32)), .unset] [(.int (own_blw y0 ff)), (.int (0 : Int32))]))
    refine own_go (fun _ kt => XS.iadd X49.here hx rfl (hb hby at_220) rfl kt) ?_
    show own_R _ _ _ _ (T49.setTop (mkF m 221 #[.val (.int p1), .val (.int ff), .val (.int q3), .val (.int q4), .val (.int q5), .val (.int q6), .val (.int (4 : Int32)), .val (.int x0), .val (.int x1), .val (.int x2), .val (.int x3), .val (.int y0), .val (.int y2), .val (.int y1), .val (.int y3), .val (.int y0), .val (.int s1), .val (.int s2), .val (.int y3), .val (.ref b44), .val (.int (0 : Int32)), .unset] [(.int ((0 : Int32) + (own_blw y0 ff)))]))
    refine own_go (fun _ kt => XS.istore X49.here hx rfl (hb hby at_221) rfl (l' := #[.val (.int p1), .val (.int ff), .val (.int q3), .val (.int q4), .val (.int q5), .val (.int q6), .val (.int (4 : Int32)), .val (.int x0), .val (.int x1), .val (.int x2), .val (.int x3), .val (.int y0), .val (.int y2), .val (.int y1), .val (.int y3), .val (.int y0), .val (.int s1), .val (.int s2), .val (.int y3), .val (.ref b44), .val (.int ((0 : Int32) + (own_blw y0 ff))), .unset]) rfl kt) ?_
    show own_R _ _ _ _ (T49.setTop (mkF m 223 #[.val (.int p1), .val (.int ff), .val (.int q3), .val (.int q4), .val (.int q5), .val (.int q6), .val (.int (4 : Int32)), .val (.int x0), .val (.int x1), .val (.int x2), .val (.int x3), .val (.int y0), .val (.int y2), .val (.int y1), .val (.int y3), .val (.int y0), .val (.int s1), .val (.int s2), .val (.int y3), .val (.ref b44), .val (.int ((0 : Int32) + (own_blw y0 ff))), .unset] []))
    refine own_go (fun _ kt => XS.iload X49.here hx rfl (hb hby at_223) rfl kt) ?_
    show own_R _ _ _ _ (T49.setTop (mkF m 225 #[.val (.int p1), .val (.int ff), .val (.int q3), .val (.int q4), .val (.int q5), .val (.int q6), .val (.int (4 : Int32)), .val (.int x0), .val (.int x1), .val (.int x2), .val (.int x3), .val (.int y0), .val (.int y2), .val (.int y1), .val (.int y3), .val (.int y0), .val (.int s1), .val (.int s2), .val (.int y3), .val (.ref b44), .val (.int ((0 : Int32) + (own_blw y0 ff))), .unset] [(.int (4 : Int32))]))
    refine own_go (fun _ kt => XS.iconst X49.here hx rfl (hb hby at_225) kt) ?_
    show own_R _ _ _ _ (T49.setTop (mkF m 226 #[.val (.int p1), .val (.int ff), .val (.int q3), .val (.int q4), .val (.int q5), .val (.int q6), .val (.int (4 : Int32)), .val (.int x0), .val (.int x1), .val (.int x2), .val (.int x3), .val (.int y0), .val (.int y2), .val (.int y1), .val (.int y3), .val (.int y0), .val (.int s1), .val (.int s2), .val (.int y3), .val (.ref b44), .val (.int ((0 : Int32) + (own_blw y0 ff))), .unset] [(.int (1 : Int32)), (.int (4 : Int32))]))
    refine own_go (fun _ kt => XS.icmpNo X49.here hx rfl (hb hby at_226) rfl (tlt (by decide : (1 : Int32) < (4 : Int32))).2.2.2 kt) ?_
    show own_R _ _ _ _ (T49.setTop (mkF m 229 #[.val (.int p1), .val (.int ff), .val (.int q3), .val (.int q4), .val (.int q5), .val (.int q6), .val (.int (4 : Int32)), .val (.int x0), .val (.int x1), .val (.int x2), .val (.int x3), .val (.int y0), .val (.int y2), .val (.int y1), .val (.int y3), .val (.int y0), .val (.int s1), .val (.int s2), .val (.int y3), .val (.ref b44), .val (.int ((0 : Int32) + (own_blw y0 ff))), .unset] []))
    refine own_go (fun _ kt => XS.iload X49.here hx rfl (hb hby at_229) rfl kt) ?_
    show own_R _ _ _ _ (T49.setTop (mkF m 231 #[.val (.int p1), .val (.int ff), .val (.int q3), .val (.int q4), .val (.int q5), .val (.int q6), .val (.int (4 : Int32)), .val (.int x0), .val (.int x1), .val (.int x2), .val (.int x3), .val (.int y0), .val (.int y2), .val (.int y1), .val (.int y3), .val (.int y0), .val (.int s1), .val (.int s2), .val (.int y3), .val (.ref b44), .val (.int ((0 : Int32) + (own_blw y0 ff))), .unset] [(.int ((0 : Int32) + (own_blw y0 ff)))]))
    refine own_go (fun _ kt => XS.iload X49.here hx rfl (hb hby at_231) rfl kt) ?_
    show own_R _ _ _ _ (T49.setTop (mkF m 233 #[.val (.int p1), .val (.int ff), .val (.int q3), .val (.int q4), .val (.int q5), .val (.int q6), .val (.int (4 : Int32)), .val (.int x0), .val (.int x1), .val (.int x2), .val (.int x3), .val (.int y0), .val (.int y2), .val (.int y1), .val (.int y3), .val (.int y0), .val (.int s1), .val (.int s2), .val (.int y3), .val (.ref b44), .val (.int ((0 : Int32) + (own_blw y0 ff))), .unset] [(.int s1), (.int ((0 : Int32) + (own_blw y0 ff)))]))
    refine own_go (fun _ kt => XS.iloadN X49.here hx rfl (hb hby at_233) rfl kt) ?_
    show own_R _ _ _ _ (T49.setTop (mkF m 234 #[.val (.int p1), .val (.int ff), .val (.int q3), .val (.int q4), .val (.int q5), .val (.int q6), .val (.int (4 : Int32)), .val (.int x0), .val (.int x1), .val (.int x2), .val (.int x3), .val (.int y0), .val (.int y2), .val (.int y1), .val (.int y3), .val (.int y0), .val (.int s1), .val (.int s2), .val (.int y3), .val (.ref b44), .val (.int ((0 : Int32) + (own_blw y0 ff))), .unset] [(.int ff), (.int s1), (.int ((0 : Int32) + (own_blw y0 ff)))]))
    obtain ⟨_, _, ⟨T50, L50, k50, n50⟩, -, X50, ⟨Lc50, hQ50, l50, y50, z50⟩, st50⟩ := Jvm.LawKit.callS X49 hx (y := (⟨"com/example/parametree/parametree/ExpressionOuterPinLaw", "below", "(II)I"⟩ : MethodName)) hown (mvT hZ (hw _ (List.mem_of_getElem? (i := 13) rfl))) (mvT hZ (hw _ (List.mem_of_getElem? (i := 14) rfl))) (mvT hZ (hw _ (List.mem_of_getElem? (i := 15) rfl))) (mvT hZ (hw _ (List.mem_of_getElem? (i := 16) rfl))) (by decide) (backOf (W := 1) (rm4 l Z a0 hw [] s1 ff h48 n0 ZS) hZ (hw _ (List.mem_of_getElem? (i := 16) rfl)) (hw _ (List.mem_of_getElem? (i := 15) rfl)) (by decide) (by decide)) (g := (mkF m 234 #[.val (.int p1), .val (.int ff), .val (.int q3), .val (.int q4), .val (.int q5), .val (.int q6), .val (.int (4 : Int32)), .val (.int x0), .val (.int x1), .val (.int x2), .val (.int x3), .val (.int y0), .val (.int y2), .val (.int y1), .val (.int y3), .val (.int y0), .val (.int s1), .val (.int s2), .val (.int y3), .val (.ref b44), .val (.int ((0 : Int32) + (own_blw y0 ff))), .unset] [(.int ff), (.int s1), (.int ((0 : Int32) + (own_blw y0 ff)))])) rfl (by rw [hml]; rfl) (argsL := [(.int s1), (.int ff)]) (rest := [(.int ((0 : Int32) + (own_blw y0 ff)))]) (lenOf pd_0 rfl) rfl (by show 2 * 0 + _ ≤ _; exact Nat.le_of_eq rfl) (hb hby at_234) (fun _ _ => ⟨rfl, e49, (by decide : 1 + 0 ≤ _), (by decide : 4 + 0 ≤ _)⟩)
    dsimp only [Pt.U, Pt.locs, Pt.cells, Pt.slots] at X50 l50 y50 z50 st50 hQ50
    subst l50 y50 z50
    obtain ⟨rfl, N50q, e50⟩ := hQ50
    have NF := Fr.app NF N50q
    refine own_go st50 ?_
    show own_R _ _ _ _ (T50.setTop (mkF m 237 #[.val (.int p1), .val (.int ff), .val (.int q3), .val (.int q4), .val (.int q5), .val (.int q6), .val (.int (4 : Int32)), .val (.int x0), .val (.int x1), .val (.int x2), .val (.int x3), .val (.int y0), .val (.int y2), .val (.int y1), .val (.int y3), .val (.int y0), .val (.int s1), .val (.int s2), .val (.int y3), .val (.ref b44), .val (.int ((0 : Int32) + (own_blw y0 ff))), .unset] [(.int (own_blw s1 ff)), (.int ((0 : Int32) + (own_blw y0 ff)))]))
    refine own_go (fun _ kt => XS.iadd X50.here hx rfl (hb hby at_237) rfl kt) ?_
    show own_R _ _ _ _ (T50.setTop (mkF m 238 #[.val (.int p1), .val (.int ff), .val (.int q3), .val (.int q4), .val (.int q5), .val (.int q6), .val (.int (4 : Int32)), .val (.int x0), .val (.int x1), .val (.int x2), .val (.int x3), .val (.int y0), .val (.int y2), .val (.int y1), .val (.int y3), .val (.int y0), .val (.int s1), .val (.int s2), .val (.int y3), .val (.ref b44), .val (.int ((0 : Int32) + (own_blw y0 ff))), .unset] [(.int (((0 : Int32) + (own_blw y0 ff)) + (own_blw s1 ff)))]))
    refine own_go (fun _ kt => XS.istore X50.here hx rfl (hb hby at_238) rfl (l' := #[.val (.int p1), .val (.int ff), .val (.int q3), .val (.int q4), .val (.int q5), .val (.int q6), .val (.int (4 : Int32)), .val (.int x0), .val (.int x1), .val (.int x2), .val (.int x3), .val (.int y0), .val (.int y2), .val (.int y1), .val (.int y3), .val (.int y0), .val (.int s1), .val (.int s2), .val (.int y3), .val (.ref b44), .val (.int (((0 : Int32) + (own_blw y0 ff)) + (own_blw s1 ff))), .unset]) rfl kt) ?_
    show own_R _ _ _ _ (T50.setTop (mkF m 240 #[.val (.int p1), .val (.int ff), .val (.int q3), .val (.int q4), .val (.int q5), .val (.int q6), .val (.int (4 : Int32)), .val (.int x0), .val (.int x1), .val (.int x2), .val (.int x3), .val (.int y0), .val (.int y2), .val (.int y1), .val (.int y3), .val (.int y0), .val (.int s1), .val (.int s2), .val (.int y3), .val (.ref b44), .val (.int (((0 : Int32) + (own_blw y0 ff)) + (own_blw s1 ff))), .unset] []))
    refine own_go (fun _ kt => XS.iload X50.here hx rfl (hb hby at_240) rfl kt) ?_
    show own_R _ _ _ _ (T50.setTop (mkF m 242 #[.val (.int p1), .val (.int ff), .val (.int q3), .val (.int q4), .val (.int q5), .val (.int q6), .val (.int (4 : Int32)), .val (.int x0), .val (.int x1), .val (.int x2), .val (.int x3), .val (.int y0), .val (.int y2), .val (.int y1), .val (.int y3), .val (.int y0), .val (.int s1), .val (.int s2), .val (.int y3), .val (.ref b44), .val (.int (((0 : Int32) + (own_blw y0 ff)) + (own_blw s1 ff))), .unset] [(.int (4 : Int32))]))
    refine own_go (fun _ kt => XS.iconst X50.here hx rfl (hb hby at_242) kt) ?_
    show own_R _ _ _ _ (T50.setTop (mkF m 243 #[.val (.int p1), .val (.int ff), .val (.int q3), .val (.int q4), .val (.int q5), .val (.int q6), .val (.int (4 : Int32)), .val (.int x0), .val (.int x1), .val (.int x2), .val (.int x3), .val (.int y0), .val (.int y2), .val (.int y1), .val (.int y3), .val (.int y0), .val (.int s1), .val (.int s2), .val (.int y3), .val (.ref b44), .val (.int (((0 : Int32) + (own_blw y0 ff)) + (own_blw s1 ff))), .unset] [(.int (2 : Int32)), (.int (4 : Int32))]))
    refine own_go (fun _ kt => XS.icmpNo X50.here hx rfl (hb hby at_243) rfl (tlt (by decide : (2 : Int32) < (4 : Int32))).2.2.2 kt) ?_
    show own_R _ _ _ _ (T50.setTop (mkF m 246 #[.val (.int p1), .val (.int ff), .val (.int q3), .val (.int q4), .val (.int q5), .val (.int q6), .val (.int (4 : Int32)), .val (.int x0), .val (.int x1), .val (.int x2), .val (.int x3), .val (.int y0), .val (.int y2), .val (.int y1), .val (.int y3), .val (.int y0), .val (.int s1), .val (.int s2), .val (.int y3), .val (.ref b44), .val (.int (((0 : Int32) + (own_blw y0 ff)) + (own_blw s1 ff))), .unset] []))
    refine own_go (fun _ kt => XS.iload X50.here hx rfl (hb hby at_246) rfl kt) ?_
    show own_R _ _ _ _ (T50.setTop (mkF m 248 #[.val (.int p1), .val (.int ff), .val (.int q3), .val (.int q4), .val (.int q5), .val (.int q6), .val (.int (4 : Int32)), .val (.int x0), .val (.int x1), .val (.int x2), .val (.int x3), .val (.int y0), .val (.int y2), .val (.int y1), .val (.int y3), .val (.int y0), .val (.int s1), .val (.int s2), .val (.int y3), .val (.ref b44), .val (.int (((0 : Int32) + (own_blw y0 ff)) + (own_blw s1 ff))), .unset] [(.int (((0 : Int32) + (own_blw y0 ff)) + (own_blw s1 ff)))]))
    refine own_go (fun _ kt => XS.iload X50.here hx rfl (hb hby at_248) rfl kt) ?_
    show own_R _ _ _ _ (T50.setTop (mkF m 250 #[.val (.int p1), .val (.int ff), .val (.int q3), .val (.int q4), .val (.int q5), .val (.int q6), .val (.int (4 : Int32)), .val (.int x0), .val (.int x1), .val (.int x2), .val (.int x3), .val (.int y0), .val (.int y2), .val (.int y1), .val (.int y3), .val (.int y0), .val (.int s1), .val (.int s2), .val (.int y3), .val (.ref b44), .val (.int (((0 : Int32) + (own_blw y0 ff)) + (own_blw s1 ff))), .unset] [(.int s2), (.int (((0 : Int32) + (own_blw y0 ff)) + (own_blw s1 ff)))]))
    refine own_go (fun _ kt => XS.iloadN X50.here hx rfl (hb hby at_250) rfl kt) ?_
    show own_R _ _ _ _ (T50.setTop (mkF m 251 #[.val (.int p1), .val (.int ff), .val (.int q3), .val (.int q4), .val (.int q5), .val (.int q6), .val (.int (4 : Int32)), .val (.int x0), .val (.int x1), .val (.int x2), .val (.int x3), .val (.int y0), .val (.int y2), .val (.int y1), .val (.int y3), .val (.int y0), .val (.int s1), .val (.int s2), .val (.int y3), .val (.ref b44), .val (.int (((0 : Int32) + (own_blw y0 ff)) + (own_blw s1 ff))), .unset] [(.int ff), (.int s2), (.int (((0 : Int32) + (own_blw y0 ff)) + (own_blw s1 ff)))]))
    obtain ⟨_, _, ⟨T51, L51, k51, n51⟩, -, X51, ⟨Lc51, hQ51, l51, y51, z51⟩, st51⟩ := Jvm.LawKit.callS X50 hx (y := (⟨"com/example/parametree/parametree/ExpressionOuterPinLaw", "below", "(II)I"⟩ : MethodName)) hown (mvT hZ (hw _ (List.mem_of_getElem? (i := 13) rfl))) (mvT hZ (hw _ (List.mem_of_getElem? (i := 14) rfl))) (mvT hZ (hw _ (List.mem_of_getElem? (i := 15) rfl))) (mvT hZ (hw _ (List.mem_of_getElem? (i := 16) rfl))) (by decide) (backOf (W := 1) (rm4 l Z a0 hw [] s2 ff h48 n0 ZS) hZ (hw _ (List.mem_of_getElem? (i := 16) rfl)) (hw _ (List.mem_of_getElem? (i := 15) rfl)) (by decide) (by decide)) (g := (mkF m 251 #[.val (.int p1), .val (.int ff), .val (.int q3), .val (.int q4), .val (.int q5), .val (.int q6), .val (.int (4 : Int32)), .val (.int x0), .val (.int x1), .val (.int x2), .val (.int x3), .val (.int y0), .val (.int y2), .val (.int y1), .val (.int y3), .val (.int y0), .val (.int s1), .val (.int s2), .val (.int y3), .val (.ref b44), .val (.int (((0 : Int32) + (own_blw y0 ff)) + (own_blw s1 ff))), .unset] [(.int ff), (.int s2), (.int (((0 : Int32) + (own_blw y0 ff)) + (own_blw s1 ff)))])) rfl (by rw [hml]; rfl) (argsL := [(.int s2), (.int ff)]) (rest := [(.int (((0 : Int32) + (own_blw y0 ff)) + (own_blw s1 ff)))]) (lenOf pd_0 rfl) rfl (by show 2 * 0 + _ ≤ _; exact Nat.le_of_eq rfl) (hb hby at_251) (fun _ _ => ⟨rfl, e50, (by decide : 1 + 0 ≤ _), (by decide : 4 + 0 ≤ _)⟩)
    dsimp only [Pt.U, Pt.locs, Pt.cells, Pt.slots] at X51 l51 y51 z51 st51 hQ51
    subst l51 y51 z51
    obtain ⟨rfl, N51q, e51⟩ := hQ51
    have NF := Fr.app NF N51q
    refine own_go st51 ?_
    show own_R _ _ _ _ (T51.setTop (mkF m 254 #[.val (.int p1), .val (.int ff), .val (.int q3), .val (.int q4), .val (.int q5), .val (.int q6), .val (.int (4 : Int32)), .val (.int x0), .val (.int x1), .val (.int x2), .val (.int x3), .val (.int y0), .val (.int y2), .val (.int y1), .val (.int y3), .val (.int y0), .val (.int s1), .val (.int s2), .val (.int y3), .val (.ref b44), .val (.int (((0 : Int32) + (own_blw y0 ff)) + (own_blw s1 ff))), .unset] [(.int (own_blw s2 ff)), (.int (((0 : Int32) + (own_blw y0 ff)) + (own_blw s1 ff)))]))
    refine own_go (fun _ kt => XS.iadd X51.here hx rfl (hb hby at_254) rfl kt) ?_
    show own_R _ _ _ _ (T51.setTop (mkF m 255 #[.val (.int p1), .val (.int ff), .val (.int q3), .val (.int q4), .val (.int q5), .val (.int q6), .val (.int (4 : Int32)), .val (.int x0), .val (.int x1), .val (.int x2), .val (.int x3), .val (.int y0), .val (.int y2), .val (.int y1), .val (.int y3), .val (.int y0), .val (.int s1), .val (.int s2), .val (.int y3), .val (.ref b44), .val (.int (((0 : Int32) + (own_blw y0 ff)) + (own_blw s1 ff))), .unset] [(.int ((((0 : Int32) + (own_blw y0 ff)) + (own_blw s1 ff)) + (own_blw s2 ff)))]))
    refine own_go (fun _ kt => XS.istore X51.here hx rfl (hb hby at_255) rfl (l' := #[.val (.int p1), .val (.int ff), .val (.int q3), .val (.int q4), .val (.int q5), .val (.int q6), .val (.int (4 : Int32)), .val (.int x0), .val (.int x1), .val (.int x2), .val (.int x3), .val (.int y0), .val (.int y2), .val (.int y1), .val (.int y3), .val (.int y0), .val (.int s1), .val (.int s2), .val (.int y3), .val (.ref b44), .val (.int ((((0 : Int32) + (own_blw y0 ff)) + (own_blw s1 ff)) + (own_blw s2 ff))), .unset]) rfl kt) ?_
    show own_R _ _ _ _ (T51.setTop (mkF m 257 #[.val (.int p1), .val (.int ff), .val (.int q3), .val (.int q4), .val (.int q5), .val (.int q6), .val (.int (4 : Int32)), .val (.int x0), .val (.int x1), .val (.int x2), .val (.int x3), .val (.int y0), .val (.int y2), .val (.int y1), .val (.int y3), .val (.int y0), .val (.int s1), .val (.int s2), .val (.int y3), .val (.ref b44), .val (.int ((((0 : Int32) + (own_blw y0 ff)) + (own_blw s1 ff)) + (own_blw s2 ff))), .unset] []))
    refine own_go (fun _ kt => XS.iload X51.here hx rfl (hb hby at_257) rfl kt) ?_
    show own_R _ _ _ _ (T51.setTop (mkF m 259 #[.val (.int p1), .val (.int ff), .val (.int q3), .val (.int q4), .val (.int q5), .val (.int q6), .val (.int (4 : Int32)), .val (.int x0), .val (.int x1), .val (.int x2), .val (.int x3), .val (.int y0), .val (.int y2), .val (.int y1), .val (.int y3), .val (.int y0), .val (.int s1), .val (.int s2), .val (.int y3), .val (.ref b44), .val (.int ((((0 : Int32) + (own_blw y0 ff)) + (own_blw s1 ff)) + (own_blw s2 ff))), .unset] [(.int (4 : Int32))]))
    refine own_go (fun _ kt => XS.iconst X51.here hx rfl (hb hby at_259) kt) ?_
    show own_R _ _ _ _ (T51.setTop (mkF m 260 #[.val (.int p1), .val (.int ff), .val (.int q3), .val (.int q4), .val (.int q5), .val (.int q6), .val (.int (4 : Int32)), .val (.int x0), .val (.int x1), .val (.int x2), .val (.int x3), .val (.int y0), .val (.int y2), .val (.int y1), .val (.int y3), .val (.int y0), .val (.int s1), .val (.int s2), .val (.int y3), .val (.ref b44), .val (.int ((((0 : Int32) + (own_blw y0 ff)) + (own_blw s1 ff)) + (own_blw s2 ff))), .unset] [(.int (3 : Int32)), (.int (4 : Int32))]))
    refine own_go (fun _ kt => XS.icmpNo X51.here hx rfl (hb hby at_260) rfl (tlt (by decide : (3 : Int32) < (4 : Int32))).2.2.2 kt) ?_
    show own_R _ _ _ _ (T51.setTop (mkF m 263 #[.val (.int p1), .val (.int ff), .val (.int q3), .val (.int q4), .val (.int q5), .val (.int q6), .val (.int (4 : Int32)), .val (.int x0), .val (.int x1), .val (.int x2), .val (.int x3), .val (.int y0), .val (.int y2), .val (.int y1), .val (.int y3), .val (.int y0), .val (.int s1), .val (.int s2), .val (.int y3), .val (.ref b44), .val (.int ((((0 : Int32) + (own_blw y0 ff)) + (own_blw s1 ff)) + (own_blw s2 ff))), .unset] []))
    refine own_go (fun _ kt => XS.iload X51.here hx rfl (hb hby at_263) rfl kt) ?_
    show own_R _ _ _ _ (T51.setTop (mkF m 265 #[.val (.int p1), .val (.int ff), .val (.int q3), .val (.int q4), .val (.int q5), .val (.int q6), .val (.int (4 : Int32)), .val (.int x0), .val (.int x1), .val (.int x2), .val (.int x3), .val (.int y0), .val (.int y2), .val (.int y1), .val (.int y3), .val (.int y0), .val (.int s1), .val (.int s2), .val (.int y3), .val (.ref b44), .val (.int ((((0 : Int32) + (own_blw y0 ff)) + (own_blw s1 ff)) + (own_blw s2 ff))), .unset] [(.int ((((0 : Int32) + (own_blw y0 ff)) + (own_blw s1 ff)) + (own_blw s2 ff)))]))
    refine own_go (fun _ kt => XS.iload X51.here hx rfl (hb hby at_265) rfl kt) ?_
    show own_R _ _ _ _ (T51.setTop (mkF m 267 #[.val (.int p1), .val (.int ff), .val (.int q3), .val (.int q4), .val (.int q5), .val (.int q6), .val (.int (4 : Int32)), .val (.int x0), .val (.int x1), .val (.int x2), .val (.int x3), .val (.int y0), .val (.int y2), .val (.int y1), .val (.int y3), .val (.int y0), .val (.int s1), .val (.int s2), .val (.int y3), .val (.ref b44), .val (.int ((((0 : Int32) + (own_blw y0 ff)) + (own_blw s1 ff)) + (own_blw s2 ff))), .unset] [(.int y3), (.int ((((0 : Int32) + (own_blw y0 ff)) + (own_blw s1 ff)) + (own_blw s2 ff)))]))
    refine own_go (fun _ kt => XS.iloadN X51.here hx rfl (hb hby at_267) rfl kt) ?_
    show own_R _ _ _ _ (T51.setTop (mkF m 268 #[.val (.int p1), .val (.int ff), .val (.int q3), .val (.int q4), .val (.int q5), .val (.int q6), .val (.int (4 : Int32)), .val (.int x0), .val (.int x1), .val (.int x2), .val (.int x3), .val (.int y0), .val (.int y2), .val (.int y1), .val (.int y3), .val (.int y0), .val (.int s1), .val (.int s2), .val (.int y3), .val (.ref b44), .val (.int ((((0 : Int32) + (own_blw y0 ff)) + (own_blw s1 ff)) + (own_blw s2 ff))), .unset] [(.int ff), (.int y3), (.int ((((0 : Int32) + (own_blw y0 ff)) + (own_blw s1 ff)) + (own_blw s2 ff)))]))
    obtain ⟨_, _, ⟨T52, L52, k52, n52⟩, -, X52, ⟨Lc52, hQ52, l52, y52, z52⟩, st52⟩ := Jvm.LawKit.callS X51 hx (y := (⟨"com/example/parametree/parametree/ExpressionOuterPinLaw", "below", "(II)I"⟩ : MethodName)) hown (mvT hZ (hw _ (List.mem_of_getElem? (i := 13) rfl))) (mvT hZ (hw _ (List.mem_of_getElem? (i := 14) rfl))) (mvT hZ (hw _ (List.mem_of_getElem? (i := 15) rfl))) (mvT hZ (hw _ (List.mem_of_getElem? (i := 16) rfl))) (by decide) (backOf (W := 1) (rm4 l Z a0 hw [] y3 ff h48 n0 ZS) hZ (hw _ (List.mem_of_getElem? (i := 16) rfl)) (hw _ (List.mem_of_getElem? (i := 15) rfl)) (by decide) (by decide)) (g := (mkF m 268 #[.val (.int p1), .val (.int ff), .val (.int q3), .val (.int q4), .val (.int q5), .val (.int q6), .val (.int (4 : Int32)), .val (.int x0), .val (.int x1), .val (.int x2), .val (.int x3), .val (.int y0), .val (.int y2), .val (.int y1), .val (.int y3), .val (.int y0), .val (.int s1), .val (.int s2), .val (.int y3), .val (.ref b44), .val (.int ((((0 : Int32) + (own_blw y0 ff)) + (own_blw s1 ff)) + (own_blw s2 ff))), .unset] [(.int ff), (.int y3), (.int ((((0 : Int32) + (own_blw y0 ff)) + (own_blw s1 ff)) + (own_blw s2 ff)))])) rfl (by rw [hml]; rfl) (argsL := [(.int y3), (.int ff)]) (rest := [(.int ((((0 : Int32) + (own_blw y0 ff)) + (own_blw s1 ff)) + (own_blw s2 ff)))]) (lenOf pd_0 rfl) rfl (by show 2 * 0 + _ ≤ _; exact Nat.le_of_eq rfl) (hb hby at_268) (fun _ _ => ⟨rfl, e51, (by decide : 1 + 0 ≤ _), (by decide : 4 + 0 ≤ _)⟩)
    dsimp only [Pt.U, Pt.locs, Pt.cells, Pt.slots] at X52 l52 y52 z52 st52 hQ52
    subst l52 y52 z52
    obtain ⟨rfl, N52q, e52⟩ := hQ52
    have NF := Fr.app NF N52q
    refine own_go st52 ?_
    show own_R _ _ _ _ (T52.setTop (mkF m 271 #[.val (.int p1), .val (.int ff), .val (.int q3), .val (.int q4), .val (.int q5), .val (.int q6), .val (.int (4 : Int32)), .val (.int x0), .val (.int x1), .val (.int x2), .val (.int x3), .val (.int y0), .val (.int y2), .val (.int y1), .val (.int y3), .val (.int y0), .val (.int s1), .val (.int s2), .val (.int y3), .val (.ref b44), .val (.int ((((0 : Int32) + (own_blw y0 ff)) + (own_blw s1 ff)) + (own_blw s2 ff))), .unset] [(.int (own_blw y3 ff)), (.int ((((0 : Int32) + (own_blw y0 ff)) + (own_blw s1 ff)) + (own_blw s2 ff)))]))
    refine own_go (fun _ kt => XS.iadd X52.here hx rfl (hb hby at_271) rfl kt) ?_
    show own_R _ _ _ _ (T52.setTop (mkF m 272 #[.val (.int p1), .val (.int ff), .val (.int q3), .val (.int q4), .val (.int q5), .val (.int q6), .val (.int (4 : Int32)), .val (.int x0), .val (.int x1), .val (.int x2), .val (.int x3), .val (.int y0), .val (.int y2), .val (.int y1), .val (.int y3), .val (.int y0), .val (.int s1), .val (.int s2), .val (.int y3), .val (.ref b44), .val (.int ((((0 : Int32) + (own_blw y0 ff)) + (own_blw s1 ff)) + (own_blw s2 ff))), .unset] [(.int (((((0 : Int32) + (own_blw y0 ff)) + (own_blw s1 ff)) + (own_blw s2 ff)) + (own_blw y3 ff)))]))
    refine own_go (fun _ kt => XS.istore X52.here hx rfl (hb hby at_272) rfl (l' := #[.val (.int p1), .val (.int ff), .val (.int q3), .val (.int q4), .val (.int q5), .val (.int q6), .val (.int (4 : Int32)), .val (.int x0), .val (.int x1), .val (.int x2), .val (.int x3), .val (.int y0), .val (.int y2), .val (.int y1), .val (.int y3), .val (.int y0), .val (.int s1), .val (.int s2), .val (.int y3), .val (.ref b44), .val (.int (((((0 : Int32) + (own_blw y0 ff)) + (own_blw s1 ff)) + (own_blw s2 ff)) + (own_blw y3 ff))), .unset]) rfl kt) ?_
    show own_R _ _ _ _ (T52.setTop (mkF m 274 #[.val (.int p1), .val (.int ff), .val (.int q3), .val (.int q4), .val (.int q5), .val (.int q6), .val (.int (4 : Int32)), .val (.int x0), .val (.int x1), .val (.int x2), .val (.int x3), .val (.int y0), .val (.int y2), .val (.int y1), .val (.int y3), .val (.int y0), .val (.int s1), .val (.int s2), .val (.int y3), .val (.ref b44), .val (.int (((((0 : Int32) + (own_blw y0 ff)) + (own_blw s1 ff)) + (own_blw s2 ff)) + (own_blw y3 ff))), .unset] []))
    refine own_go (fun _ kt => XS.aload X52.here hx rfl (hb hby at_274) rfl rfl kt) ?_
    show own_R _ _ _ _ (T52.setTop (mkF m 276 #[.val (.int p1), .val (.int ff), .val (.int q3), .val (.int q4), .val (.int q5), .val (.int q6), .val (.int (4 : Int32)), .val (.int x0), .val (.int x1), .val (.int x2), .val (.int x3), .val (.int y0), .val (.int y2), .val (.int y1), .val (.int y3), .val (.int y0), .val (.int s1), .val (.int s2), .val (.int y3), .val (.ref b44), .val (.int (((((0 : Int32) + (own_blw y0 ff)) + (own_blw s1 ff)) + (own_blw s2 ff)) + (own_blw y3 ff))), .unset] [(.ref b44)]))
    refine own_go (fun _ kt => XS.iloadN X52.here hx rfl (hb hby at_276) rfl kt) ?_
    show own_R _ _ _ _ (T52.setTop (mkF m 277 #[.val (.int p1), .val (.int ff), .val (.int q3), .val (.int q4), .val (.int q5), .val (.int q6), .val (.int (4 : Int32)), .val (.int x0), .val (.int x1), .val (.int x2), .val (.int x3), .val (.int y0), .val (.int y2), .val (.int y1), .val (.int y3), .val (.int y0), .val (.int s1), .val (.int s2), .val (.int y3), .val (.ref b44), .val (.int (((((0 : Int32) + (own_blw y0 ff)) + (own_blw s1 ff)) + (own_blw s2 ff)) + (own_blw y3 ff))), .unset] [(.int ff), (.ref b44)]))
    obtain ⟨_, _, ⟨T53, L53, k53, n53⟩, -, X53, ⟨Lc53, hQ53, l53, y53, z53⟩, st53⟩ := Jvm.LawKit.callS X52 hx (y := (⟨"com/example/parametree/parametree/Expression", "outer", "([II)I"⟩ : MethodName)) hown (mvT hZ (hw _ (List.mem_of_getElem? (i := 9) rfl))) (mvT hZ (hw _ (List.mem_of_getElem? (i := 10) rfl))) (mvT hZ (hw _ (List.mem_of_getElem? (i := 11) rfl))) (mvT hZ (hw _ (List.mem_of_getElem? (i := 12) rfl))) (by decide) (backOf (W := 0) (rm3_4 l Z a0 hw [] b44 ff k44 y0 s1 s2 y3 h48 n0 ZS V_b44) hZ (hw _ (List.mem_of_getElem? (i := 12) rfl)) (hw _ (List.mem_of_getElem? (i := 11) rfl)) (by decide) (by decide)) (g := (mkF m 277 #[.val (.int p1), .val (.int ff), .val (.int q3), .val (.int q4), .val (.int q5), .val (.int q6), .val (.int (4 : Int32)), .val (.int x0), .val (.int x1), .val (.int x2), .val (.int x3), .val (.int y0), .val (.int y2), .val (.int y1), .val (.int y3), .val (.int y0), .val (.int s1), .val (.int s2), .val (.int y3), .val (.ref b44), .val (.int (((((0 : Int32) + (own_blw y0 ff)) + (own_blw s1 ff)) + (own_blw s2 ff)) + (own_blw y3 ff))), .unset] [(.int ff), (.ref b44)])) rfl (by rw [hml]; rfl) (argsL := [(.ref b44), (.int ff)]) (rest := []) (lenOf pd_1 rfl) rfl (by show 2 * 0 + _ ≤ _; exact Nat.le_of_eq rfl) (hb hby at_277) (fun _ _ => ⟨rfl, e52, (by decide : 1 + 0 ≤ _), (by decide : 4 + 0 ≤ _)⟩)
    dsimp only [Pt.U, Pt.locs, Pt.cells, Pt.slots] at X53 l53 y53 z53 st53 hQ53
    subst l53 y53 z53
    obtain ⟨rfl, N53q, e53⟩ := hQ53
    have NF := Fr.app NF N53q
    refine own_go st53 ?_
    show own_R _ _ _ _ (T53.setTop (mkF m 280 #[.val (.int p1), .val (.int ff), .val (.int q3), .val (.int q4), .val (.int q5), .val (.int q6), .val (.int (4 : Int32)), .val (.int x0), .val (.int x1), .val (.int x2), .val (.int x3), .val (.int y0), .val (.int y2), .val (.int y1), .val (.int y3), .val (.int y0), .val (.int s1), .val (.int s2), .val (.int y3), .val (.ref b44), .val (.int (((((0 : Int32) + (own_blw y0 ff)) + (own_blw s1 ff)) + (own_blw s2 ff)) + (own_blw y3 ff))), .unset] [(.int (own_out ff [y0, s1, s2, y3]))]))
    refine own_go (fun _ kt => XS.istore X53.here hx rfl (hb hby at_280) rfl (l' := #[.val (.int p1), .val (.int ff), .val (.int q3), .val (.int q4), .val (.int q5), .val (.int q6), .val (.int (4 : Int32)), .val (.int x0), .val (.int x1), .val (.int x2), .val (.int x3), .val (.int y0), .val (.int y2), .val (.int y1), .val (.int y3), .val (.int y0), .val (.int s1), .val (.int s2), .val (.int y3), .val (.ref b44), .val (.int (((((0 : Int32) + (own_blw y0 ff)) + (own_blw s1 ff)) + (own_blw s2 ff)) + (own_blw y3 ff))), .val (.int (own_out ff [y0, s1, s2, y3]))]) rfl kt) ?_
    show own_R _ _ _ _ (T53.setTop (mkF m 282 #[.val (.int p1), .val (.int ff), .val (.int q3), .val (.int q4), .val (.int q5), .val (.int q6), .val (.int (4 : Int32)), .val (.int x0), .val (.int x1), .val (.int x2), .val (.int x3), .val (.int y0), .val (.int y2), .val (.int y1), .val (.int y3), .val (.int y0), .val (.int s1), .val (.int s2), .val (.int y3), .val (.ref b44), .val (.int (((((0 : Int32) + (own_blw y0 ff)) + (own_blw s1 ff)) + (own_blw s2 ff)) + (own_blw y3 ff))), .val (.int (own_out ff [y0, s1, s2, y3]))] []))
    refine own_go (fun _ kt => XS.iload X53.here hx rfl (hb hby at_282) rfl kt) ?_
    show own_R _ _ _ _ (T53.setTop (mkF m 284 #[.val (.int p1), .val (.int ff), .val (.int q3), .val (.int q4), .val (.int q5), .val (.int q6), .val (.int (4 : Int32)), .val (.int x0), .val (.int x1), .val (.int x2), .val (.int x3), .val (.int y0), .val (.int y2), .val (.int y1), .val (.int y3), .val (.int y0), .val (.int s1), .val (.int s2), .val (.int y3), .val (.ref b44), .val (.int (((((0 : Int32) + (own_blw y0 ff)) + (own_blw s1 ff)) + (own_blw s2 ff)) + (own_blw y3 ff))), .val (.int (own_out ff [y0, s1, s2, y3]))] [(.int (own_out ff [y0, s1, s2, y3]))]))
    refine own_go (fun _ kt => XS.iload X53.here hx rfl (hb hby at_284) rfl kt) ?_
    show own_R _ _ _ _ (T53.setTop (mkF m 286 #[.val (.int p1), .val (.int ff), .val (.int q3), .val (.int q4), .val (.int q5), .val (.int q6), .val (.int (4 : Int32)), .val (.int x0), .val (.int x1), .val (.int x2), .val (.int x3), .val (.int y0), .val (.int y2), .val (.int y1), .val (.int y3), .val (.int y0), .val (.int s1), .val (.int s2), .val (.int y3), .val (.ref b44), .val (.int (((((0 : Int32) + (own_blw y0 ff)) + (own_blw s1 ff)) + (own_blw s2 ff)) + (own_blw y3 ff))), .val (.int (own_out ff [y0, s1, s2, y3]))] [(.int (((((0 : Int32) + (own_blw y0 ff)) + (own_blw s1 ff)) + (own_blw s2 ff)) + (own_blw y3 ff))), (.int (own_out ff [y0, s1, s2, y3]))]))
    refine own_go (fun _ kt => XS.icmpNo X53.here hx rfl (hb hby at_286) rfl (teq (own_law4 _ _ _ _ _ so1 so2 so3)).2 kt) ?_
    show own_R _ _ _ _ (T53.setTop (mkF m 289 #[.val (.int p1), .val (.int ff), .val (.int q3), .val (.int q4), .val (.int q5), .val (.int q6), .val (.int (4 : Int32)), .val (.int x0), .val (.int x1), .val (.int x2), .val (.int x3), .val (.int y0), .val (.int y2), .val (.int y1), .val (.int y3), .val (.int y0), .val (.int s1), .val (.int s2), .val (.int y3), .val (.ref b44), .val (.int (((((0 : Int32) + (own_blw y0 ff)) + (own_blw s1 ff)) + (own_blw s2 ff)) + (own_blw y3 ff))), .val (.int (own_out ff [y0, s1, s2, y3]))] []))
    refine own_go (fun _ kt => XS.iconst X53.here hx rfl (hb hby at_289) kt) ?_
    show own_R _ _ _ _ (T53.setTop (mkF m 290 #[.val (.int p1), .val (.int ff), .val (.int q3), .val (.int q4), .val (.int q5), .val (.int q6), .val (.int (4 : Int32)), .val (.int x0), .val (.int x1), .val (.int x2), .val (.int x3), .val (.int y0), .val (.int y2), .val (.int y1), .val (.int y3), .val (.int y0), .val (.int s1), .val (.int s2), .val (.int y3), .val (.ref b44), .val (.int (((((0 : Int32) + (own_blw y0 ff)) + (own_blw s1 ff)) + (own_blw s2 ff)) + (own_blw y3 ff))), .val (.int (own_out ff [y0, s1, s2, y3]))] [(.int (1 : Int32))]))
    refine own_go (fun _ kt => XS.goto X53.here hx rfl (pc0 := 290) (pc' := 294) rfl (hb hby at_290) (by decide) (by decide) kt) ?_
    show own_R _ _ _ _ (T53.setTop (mkF m 294 #[.val (.int p1), .val (.int ff), .val (.int q3), .val (.int q4), .val (.int q5), .val (.int q6), .val (.int (4 : Int32)), .val (.int x0), .val (.int x1), .val (.int x2), .val (.int x3), .val (.int y0), .val (.int y2), .val (.int y1), .val (.int y3), .val (.int y0), .val (.int s1), .val (.int s2), .val (.int y3), .val (.ref b44), .val (.int (((((0 : Int32) + (own_blw y0 ff)) + (own_blw s1 ff)) + (own_blw s2 ff)) + (own_blw y3 ff))), .val (.int (own_out ff [y0, s1, s2, y3]))] [(.int (1 : Int32))]))
    exact own_retN X53 hx (t := .boolean) (by simp) Bd.returns (hb hby at_294) hlk ⟨rfl, NF⟩ (by decide) (by decide)
set_option maxRecDepth 65536 in
set_option maxHeartbeats 40000000 in
theorem comes_1 {Post : Tables → Env → Array Value → State → Outcome → State → Prop} (hpost : ∀ tb e args s v u, (limb_1_1.after args s (.returned v) u = true ∧ limb_1_2.after args s (.returned v) u = true ∧ True) → FrameEnd s (.returned v) u (Jvm.fieldLocs frame_1_writes args s ++ Jvm.arrayLocs frame_1_arrays args s ++ Jvm.staticLocs frame_1_statics s) 16 128 → Post tb e args s (.returned v) u) :
    ArmFor flags0 classFile x code maxLocals ret World_1 tables_1 room_1 Calls_1 rest_1 Pre_1 Post := by
  intro l hfl _ _ p e ha hc hk s m args below hf hA hF happ hP
  obtain ⟨hcalls, hrest, hpre⟩ := hP
  obtain ⟨-, -, -, hnamed, -, -, -, hat⟩ := (Spec.applies_iff hf).mp happ
  obtain ⟨hg, hn⟩ := and_e (Cond.before_iff.mp (show (Jvm.Cond.and given_1 narrow_1).before args s = true from hpre))
  obtain ⟨g1, g2⟩ := and_e hg
  obtain ⟨g3, g4⟩ := and_e g2
  obtain ⟨g5, g6⟩ := and_e g4
  obtain ⟨g7, g8⟩ := and_e g6
  obtain ⟨g9, g10⟩ := and_e g8
  obtain ⟨g11, g12⟩ := and_e g10
  obtain ⟨w0, w1, w2, w3, w4, w5, rfl⟩ : ∃ w0 w1 w2 w3 w4 w5 : Value, args = #[w0, w1, w2, w3, w4, w5] := by
    have hs : args.size = 6 := by simpa [Cond.value, given_1] using g1
    obtain ⟨L⟩ := args
    match L, hs with
    | [w0, w1, w2, w3, w4, w5], _ => exact ⟨w0, w1, w2, w3, w4, w5, rfl⟩
  have hw := fun d (hd : d ∈ tables_1) => atoms_spec (ws := Jvm.Cond.code x code maxLocals ret :: tables_1) hat d (List.mem_cons_of_mem _ hd)
  have hfit : Fit s := fun {y c} hc i hi => by
    obtain ⟨ha, rfl⟩ := Array.getElem?_eq_some_iff.mp hc
    have q := List.all_eq_true.mp ((Array.all_eq_true_iff_forall_mem.mp hF) _ (Array.getElem_mem ha)) i (List.mem_range.mpr hi)
    simpa [Array.getElem?_eq_getElem hi] using q
  obtain ⟨i0, ei0⟩ := is_v g3
  obtain rfl : w0 = (.int i0) := Option.some.inj ei0
  obtain ⟨i1, ei1⟩ := is_v g5
  obtain rfl : w1 = (.int i1) := Option.some.inj ei1
  obtain ⟨i2, ei2⟩ := is_v g7
  obtain rfl : w2 = (.int i2) := Option.some.inj ei2
  obtain ⟨i3, ei3⟩ := is_v g9
  obtain rfl : w3 = (.int i3) := Option.some.inj ei3
  obtain ⟨i4, ei4⟩ := is_v g11
  obtain rfl : w4 = (.int i4) := Option.some.inj ei4
  obtain ⟨i5, ei5⟩ := is_v g12
  obtain rfl : w5 = (.int i5) := Option.some.inj ei5
  obtain ⟨n, o, h1, h2, h3, _, L, rfl, ⟨rfl, N⟩, hq⟩ := rm0 l s _ hw tables_1 i0 i1 i2 i3 i4 i5 s.heap s.heap.size (Nat.le_refl _) p e ha hc hk s m _ below hf ((Spec.applies_iff_loose hf).mp happ).1 ⟨rfl, State.Warmed39.refl s, rfl⟩ trivial
  refine ⟨n, _, h1, h2, h3, hpost _ _ _ _ _ _ ⟨Cond.after_iff.mpr rfl, Cond.after_iff.mpr (eq_i res_at (Term.int_eval (1)) rfl), trivial⟩ ⟨hq.1, hq.2.1, (hq.2.2.sift fun y hy => Or.inr (N y hy)).mono (by decide) (by decide)⟩⟩
theorem main_1_1 : Claimed_1_1 := comes_1 fun _ _ _ _ _ _ h hF => ⟨h.1, hF⟩
theorem main_1_2 : Claimed_1_2 := comes_1 fun _ _ _ _ _ _ h hF => ⟨h.2.1, hF⟩
end Jvm.Pilot.@@N@@
namespace Jvm.Pilot.@@N@@
open Jvm Jvm.ClassFile Sem Op Lib Jvm.Free Jvm.Stand Jvm.Pilot.@@N@@.Jvm.D
/-! MADE BY PROGRAM (witnessworld.py) out of the Statement's table words and the real class files: 10 classes; the members and pool entries that the words name. The judged class is class 1, her method 2. -/
namespace start1
open Jvm.ClassFile
def u (s : String) : CpInfo := .utf8 (stringToUtf16 s)
/-- a pool by its gaps: so many unusable entries, then the entry; so many at the end -/
def gap : Nat → List CpInfo → List CpInfo
  | 0, r => r
  | n + 1, r => .unusable :: gap n r
def poolList (es : List (Nat × CpInfo)) (last : Nat) : List CpInfo := es.foldr (fun e r => gap e.1 (e.2 :: r)) (gap last [])
def pool (es : List (Nat × CpInfo)) (last : Nat) : Array CpInfo := ⟨poolList es last⟩
def fileOf (pool : Array CpInfo) (this : Nat) (attrs : Array Attribute := #[]) (ms : Array MethodInfo := #[]) (fl : Nat := 33) (sup : Nat := 0) (ifs : Array Nat := #[]) (fds : Array FieldInfo := #[]) : ClassFile where
  minorVersion := 0
  majorVersion := 65
  constantPool := pool
  accessFlags := fl
  thisClass := this
  superClass := sup
  interfaces := ifs
  fields := fds
  methods := ms
  attributes := attrs
def plain (name : String) (sup : Option ClassId) : Class where
  name := name
  kind := .ordinary
  loader := none
  accessFlags := 33
  super := sup
  interfaces := #[]
  cf := none
  fields := #[]
  methods := #[]
  instanceTypes := #[]
  staticTypes := #[]
  resolved := #[]
  callSites := []
  init := .initialized
  statics := none
  mirror := none

def pool0 : Array CpInfo := pool [(5, u "<init>"), (0, u "()V"), (1, .class_ 10), (1, u "java/lang/Object")] 113

def k0m0 : Method := { name := "<init>", desc := "()V", sig := { parameters := [], returnType := none }, accessFlags := 1, code := none }
/-- java/lang/Object -/
def k0 : Class := { plain "java/lang/Object" none with
  accessFlags := 33
  interfaces := #[]
  cf := some (fileOf pool0 8 #[] #[{ accessFlags := 1, nameIndex := 5, descriptorIndex := 6, attributes := #[] }] 33 0 #[] #[])
  fields := #[]
  methods := #[k0m0]
  instanceTypes := #[]
  staticTypes := #[]
  resolved := Array.replicate 124 none
  statics := none }

def pool1 : Array CpInfo := pool [(2, .class_ 4), (1, u "java/lang/Object"), (0, u "<init>"), (0, u "()V"), (0, .integer 2147483647), (0, .methodref 9 10), (0, .class_ 11), (0, .nameAndType 12 13), (0, u "java/lang/Math"), (0, u "min"), (0, u "(II)I"), (0, .methodref 9 15), (0, .nameAndType 16 13), (0, u "max"), (0, .methodref 18 19), (0, .class_ 20), (0, .nameAndType 21 13), (0, u "com/example/parametree/parametree/ExpressionOuterPinLaw"), (0, u "below"), (0, .methodref 23 24), (0, .class_ 25), (0, .nameAndType 26 27), (0, u "com/example/parametree/parametree/Expression"), (0, u "outer"), (0, u "([II)I"), (3, u "law"), (0, u "(IIIIII)Z")] 4

def k1m0 : Method := { name := "<init>", desc := "()V", sig := { parameters := [], returnType := none }, accessFlags := 2, code := none }
def k1c1 : Code := { maxStack := 2, maxLocals := 2, code := method_2_code, exceptionTable := #[], attributes := #[] }
def k1m1 : Method := { name := "below", desc := "(II)I", sig := { parameters := [.int, .int], returnType := some .int }, accessFlags := 10, code := some k1c1 }
def k1c2 : Code := { maxStack := 4, maxLocals := 22, code := code, exceptionTable := #[], attributes := #[] }
def k1m2 : Method := { name := "law", desc := "(IIIIII)Z", sig := { parameters := [.int, .int, .int, .int, .int, .int], returnType := some .boolean }, accessFlags := 9, code := some k1c2 }
/-- com/example/parametree/parametree/ExpressionOuterPinLaw -/
def k1 : Class := { plain "com/example/parametree/parametree/ExpressionOuterPinLaw" (some 0) with
  accessFlags := 49
  interfaces := #[]
  cf := some (fileOf pool1 18 #[] #[{ accessFlags := 2, nameIndex := 5, descriptorIndex := 6, attributes := #[] }, { accessFlags := 10, nameIndex := 21, descriptorIndex := 13, attributes := #[] }, { accessFlags := 9, nameIndex := 31, descriptorIndex := 32, attributes := #[] }] 49 2 #[] #[])
  fields := #[]
  methods := #[k1m0, k1m1, k1m2]
  instanceTypes := #[]
  staticTypes := #[]
  resolved := Array.replicate 37 none
  statics := none }

def pool2 : Array CpInfo := pool [(1, .class_ 2), (0, u "java/lang/Math"), (1, .class_ 6), (1, u "java/lang/Object"), (0, u "<init>"), (0, u "()V"), (89, .class_ 100), (1, u "java/lang/Math$RandomNumberGeneratorHolder"), (71, u "negativeZeroFloatBits"), (0, u "J"), (2, u "negativeZeroDoubleBits"), (21, u "max"), (2, u "min"), (43, u "$assertionsDisabled"), (0, u "Z"), (88, u "(II)I"), (2, u "twoToTheDoubleScaleDown"), (0, u "D"), (4, u "twoToTheDoubleScaleUp"), (9, u "E"), (3, u "PI"), (2, u "TAU"), (2, u "DEGREES_TO_RADIANS"), (0, u "RADIANS_TO_DEGREES")] 94

def k2m0 : Method := { name := "<init>", desc := "()V", sig := { parameters := [], returnType := none }, accessFlags := 2, code := none }
def k2c1 : Code := { maxStack := 2, maxLocals := 2, code := jdk_29_method_65_code, exceptionTable := #[], attributes := #[] }
def k2m1 : Method := { name := "max", desc := "(II)I", sig := { parameters := [.int, .int], returnType := some .int }, accessFlags := 9, code := some k2c1 }
def k2c2 : Code := { maxStack := 2, maxLocals := 2, code := jdk_29_method_69_code, exceptionTable := #[], attributes := #[] }
def k2m2 : Method := { name := "min", desc := "(II)I", sig := { parameters := [.int, .int], returnType := some .int }, accessFlags := 9, code := some k2c2 }
/-- java/lang/Math -/
def k2 : Class := { plain "java/lang/Math" (some 0) with
  accessFlags := 49
  interfaces := #[]
  cf := some (fileOf pool2 1 #[.nestMembers #[98]] #[{ accessFlags := 2, nameIndex := 7, descriptorIndex := 8, attributes := #[] }, { accessFlags := 9, nameIndex := 198, descriptorIndex := 335, attributes := #[] }, { accessFlags := 9, nameIndex := 201, descriptorIndex := 335, attributes := #[] }] 49 4 #[] #[{ accessFlags := 25, nameIndex := 354, descriptorIndex := 339, attributes := #[] }, { accessFlags := 25, nameIndex := 358, descriptorIndex := 339, attributes := #[] }, { accessFlags := 25, nameIndex := 361, descriptorIndex := 339, attributes := #[] }, { accessFlags := 26, nameIndex := 364, descriptorIndex := 339, attributes := #[] }, { accessFlags := 26, nameIndex := 365, descriptorIndex := 339, attributes := #[] }, { accessFlags := 26, nameIndex := 172, descriptorIndex := 173, attributes := #[] }, { accessFlags := 26, nameIndex := 176, descriptorIndex := 173, attributes := #[] }, { accessFlags := 8, nameIndex := 344, descriptorIndex := 339, attributes := #[] }, { accessFlags := 8, nameIndex := 338, descriptorIndex := 339, attributes := #[] }, { accessFlags := 4120, nameIndex := 245, descriptorIndex := 246, attributes := #[] }])
  fields := #[{ name := "E", type := .double, accessFlags := 25, slot := 0, constantValue := 0 }, { name := "PI", type := .double, accessFlags := 25, slot := 1, constantValue := 0 }, { name := "TAU", type := .double, accessFlags := 25, slot := 2, constantValue := 0 }, { name := "DEGREES_TO_RADIANS", type := .double, accessFlags := 26, slot := 3, constantValue := 0 }, { name := "RADIANS_TO_DEGREES", type := .double, accessFlags := 26, slot := 4, constantValue := 0 }, { name := "negativeZeroFloatBits", type := .long, accessFlags := 26, slot := 5, constantValue := 0 }, { name := "negativeZeroDoubleBits", type := .long, accessFlags := 26, slot := 6, constantValue := 0 }, { name := "twoToTheDoubleScaleUp", type := .double, accessFlags := 8, slot := 7, constantValue := 0 }, { name := "twoToTheDoubleScaleDown", type := .double, accessFlags := 8, slot := 8, constantValue := 0 }, { name := "$assertionsDisabled", type := .boolean, accessFlags := 4120, slot := 9, constantValue := 0 }]
  methods := #[k2m0, k2m1, k2m2]
  instanceTypes := #[]
  staticTypes := #[.double, .double, .double, .double, .double, .long, .long, .double, .double, .boolean]
  resolved := Array.replicate 460 none
  statics := none }

def pool3 : Array CpInfo := pool [(2, .class_ 4), (1, u "java/lang/Object"), (3, .class_ 10), (1, u "com/example/parametree/parametree/Expression"), (0, u "kind"), (0, u "Lcom/example/parametree/parametree/Expression$Kind;"), (2, u "symbol"), (0, u "Ljava/lang/String;"), (2, u "state"), (0, u "Lcom/example/parametree/parametree/State;"), (2, u "index"), (0, u "I"), (2, u "arguments"), (0, u "[Lcom/example/parametree/parametree/Expression;"), (2, u "bodyParts"), (1, u "[I"), (2, u "NO_VARIABLES"), (1, .class_ 40), (1, u "com/example/parametree/parametree/Expression$Kind"), (6, u "variables"), (2, u "repeated"), (12, u "enclosed"), (2, u "passes"), (0, u "Z"), (2, u "readsInput"), (15, u "outer"), (0, u "([II)I"), (13, u "NO_ARGUMENTS")] 62

def k3c0 : Code := { maxStack := 2, maxLocals := 3, code := prog_40_method_3_code, exceptionTable := #[], attributes := #[] }
def k3m0 : Method := { name := "outer", desc := "([II)I", sig := { parameters := [(.array .int), .int], returnType := some .int }, accessFlags := 8, code := some k3c0 }
/-- com/example/parametree/parametree/Expression -/
def k3 : Class := { plain "com/example/parametree/parametree/Expression" (some 0) with
  accessFlags := 32
  interfaces := #[]
  cf := some (fileOf pool3 8 #[.nestMembers #[38]] #[{ accessFlags := 8, nameIndex := 86, descriptorIndex := 87, attributes := #[] }] 32 2 #[] #[{ accessFlags := 26, nameIndex := 101, descriptorIndex := 28, attributes := #[] }, { accessFlags := 26, nameIndex := 36, descriptorIndex := 33, attributes := #[] }, { accessFlags := 18, nameIndex := 11, descriptorIndex := 12, attributes := #[] }, { accessFlags := 18, nameIndex := 15, descriptorIndex := 16, attributes := #[] }, { accessFlags := 18, nameIndex := 19, descriptorIndex := 20, attributes := #[] }, { accessFlags := 18, nameIndex := 23, descriptorIndex := 24, attributes := #[] }, { accessFlags := 18, nameIndex := 27, descriptorIndex := 28, attributes := #[] }, { accessFlags := 18, nameIndex := 47, descriptorIndex := 33, attributes := #[] }, { accessFlags := 18, nameIndex := 50, descriptorIndex := 33, attributes := #[] }, { accessFlags := 18, nameIndex := 63, descriptorIndex := 33, attributes := #[] }, { accessFlags := 18, nameIndex := 66, descriptorIndex := 67, attributes := #[] }, { accessFlags := 18, nameIndex := 70, descriptorIndex := 67, attributes := #[] }, { accessFlags := 18, nameIndex := 31, descriptorIndex := 28, attributes := #[] }])
  fields := #[{ name := "NO_ARGUMENTS", type := (.array (.object "com/example/parametree/parametree/Expression")), accessFlags := 26, slot := 0, constantValue := 0 }, { name := "NO_VARIABLES", type := (.array .int), accessFlags := 26, slot := 1, constantValue := 0 }, { name := "kind", type := (.object "com/example/parametree/parametree/Expression$Kind"), accessFlags := 18, slot := 0, constantValue := 0 }, { name := "symbol", type := (.object "java/lang/String"), accessFlags := 18, slot := 1, constantValue := 0 }, { name := "state", type := (.object "com/example/parametree/parametree/State"), accessFlags := 18, slot := 2, constantValue := 0 }, { name := "index", type := .int, accessFlags := 18, slot := 3, constantValue := 0 }, { name := "arguments", type := (.array (.object "com/example/parametree/parametree/Expression")), accessFlags := 18, slot := 4, constantValue := 0 }, { name := "variables", type := (.array .int), accessFlags := 18, slot := 5, constantValue := 0 }, { name := "repeated", type := (.array .int), accessFlags := 18, slot := 6, constantValue := 0 }, { name := "enclosed", type := (.array .int), accessFlags := 18, slot := 7, constantValue := 0 }, { name := "passes", type := .boolean, accessFlags := 18, slot := 8, constantValue := 0 }, { name := "readsInput", type := .boolean, accessFlags := 18, slot := 9, constantValue := 0 }, { name := "bodyParts", type := (.array (.object "com/example/parametree/parametree/Expression")), accessFlags := 18, slot := 10, constantValue := 0 }]
  methods := #[k3m0]
  instanceTypes := #[(.object "com/example/parametree/parametree/Expression$Kind"), (.object "java/lang/String"), (.object "com/example/parametree/parametree/State"), .int, (.array (.object "com/example/parametree/parametree/Expression")), (.array .int), (.array .int), (.array .int), .boolean, .boolean, (.array (.object "com/example/parametree/parametree/Expression"))]
  staticTypes := #[(.array (.object "com/example/parametree/parametree/Expression")), (.array .int)]
  resolved := Array.replicate 164 none
  statics := none }

def pool4 : Array CpInfo := pool [(1, u "java/lang/Cloneable"), (0, .class_ 1), (0, u "java/lang/Object"), (0, .class_ 3)] 3

/-- java/lang/Cloneable -/
def k4 : Class := { plain "java/lang/Cloneable" (some 0) with
  accessFlags := 1537
  interfaces := #[]
  cf := some (fileOf pool4 2 #[] #[] 1537 4 #[] #[])
  fields := #[]
  methods := #[]
  instanceTypes := #[]
  staticTypes := #[]
  resolved := Array.replicate 8 none
  statics := none }

def pool5 : Array CpInfo := pool [(1, u "java/io/Serializable"), (0, .class_ 1), (0, u "java/lang/Object"), (0, .class_ 3)] 3

/-- java/io/Serializable -/
def k5 : Class := { plain "java/io/Serializable" (some 0) with
  accessFlags := 1537
  interfaces := #[]
  cf := some (fileOf pool5 2 #[] #[] 1537 4 #[] #[])
  fields := #[]
  methods := #[]
  instanceTypes := #[]
  staticTypes := #[]
  resolved := Array.replicate 8 none
  statics := none }

/-- the primitive byte -/
def k6 : Class := { plain "byte" none with kind := .primitive 'B', accessFlags := 0x411 }
/-- [B -/
def k7 : Class := { plain "[B" (some 0) with kind := .array 6 .byte, interfaces := #[4, 5], accessFlags := 1041 }

/-- the primitive int -/
def k8 : Class := { plain "int" none with kind := .primitive 'I', accessFlags := 0x411 }
/-- [I -/
def k9 : Class := { plain "[I" (some 0) with kind := .array 8 .int, interfaces := #[4, 5], accessFlags := 1041 }

def heap : Heap := #[]
def classes : Array Class := #[k0, k1, k2, k3, k4, k5, k6, k7, k8, k9]
def interned : List (Array UInt16 × Addr) := []
def slotsUsed : Nat := 0
def theMethod : MethodId := ⟨1, 2⟩
def args0 : Array Value := #[.int 5, .int 5, .int 5, .int 5, .int 5, .int 5]
def aboutOver (below : List Frame) : State where
  vm := { classes := classes, interned := interned.toArray }
  heap := heap
  slotsUsed := slotsUsed
  threads := #[{ frames := .invoking theMethod args0 :: below }]
def below0 : List Frame := [.native { method := ⟨0, 0⟩, args := #[] }]
def about1 : State := aboutOver below0
def p0 : Program := .bare "" "" ""
def e0 : Env := launch0.env 0 0 0
theorem w_frames : about1.frames = Frame.invoking theMethod args0 :: below0 := rfl
set_option maxRecDepth 65536 in
theorem w_args : argsFit about1.vm theMethod args0 = true := by decide +kernel
set_option maxRecDepth 65536 in
theorem w_heap : heapFits about1 = true := by decide +kernel
set_option maxRecDepth 65536 in
theorem w_runnable : about1.curStatus? = some .runnable := by decide +kernel
set_option maxRecDepth 65536 in
theorem w_alone : about1.alone = true := by decide +kernel
set_option maxRecDepth 65536 in
theorem w_named : about1.methodNamed? x = some theMethod := by decide +kernel
set_option maxRecDepth 65536 in
theorem w_hears : about1.hears theMethod below0 = true := by decide +kernel
set_option maxRecDepth 65536 in
theorem w_ripe : about1.ripe theMethod args0 below0 = true := by decide +kernel
theorem w_running : about1.status = .running := rfl
set_option maxRecDepth 65536 in
theorem w_room : about1.hasRoom e0.platform room_1 = true :=
  launch0.hasRoom_least _ room_1 (by decide +kernel) (by decide +kernel) (by decide +kernel) (by decide +kernel) (by decide +kernel) (by decide +kernel)
theorem allAtoms_all (ts : List Jvm.Cond) (a : Array Jvm.Value) (st : Jvm.State) : (allAtoms ts).before a st = ts.all (fun c => c.before a st) := by
  induction ts with
  | nil => rfl
  | cons c t ih =>
    show (Jvm.Cond.and c (allAtoms t)).before a st = _
    rw [Jvm.Cond.before_and, ih, List.all_cons]
def words1 : List Jvm.Cond := Jvm.Cond.code x code maxLocals ret :: tables_1
/-- a 'code' word, met by the world's own term for the bytes: nothing is compared byte by byte -/
theorem code_word {y : MethodName} {bytes : ByteArray} {mx : Nat} {rt : Option FieldType} {a : Array Value} {s : State} {m : MethodId} {meth : Method} {c : Code} (h1 : s.methodNamed? y = some m) (h2 : s.vm.method? m = some meth) (h3 : meth.code = some c) (h4 : c.code = bytes)
    (h5 : (c.maxLocals == mx && c.exceptionTable.isEmpty && decide (c.maxStack ≤ mostOperands) && decide (meth.sig.returnType = rt) && !meth.locks && decide (parseMethodDescriptor y.desc = some meth.sig)) = true) : (Jvm.Cond.code y bytes mx rt).before a s = true := by
  simp only [Bool.and_eq_true, beq_iff_eq, Bool.not_eq_true', decide_eq_true_eq] at h5
  obtain ⟨⟨⟨⟨⟨g1, g2⟩, g3⟩, g4⟩, g5⟩, g6⟩ := h5
  simp [Cond.before, Cond.holds, Cond.value, h1, h2, h3, h4, g1, g2, g3, g4, g5, g6]
def isCode : Jvm.Cond → Bool
  | .code _ _ _ _ => true
  | _ => false
theorem all_split {L : List Jvm.Cond} {P : Jvm.Cond → Bool} (h1 : L.all (fun c => isCode c || P c) = true) (h2 : ∀ c ∈ L.filter isCode, P c = true) : L.all P = true := by
  refine List.all_eq_true.mpr fun c hc => ?_
  have h := List.all_eq_true.mp h1 c hc
  rcases Bool.eq_false_or_eq_true (isCode c) with hi | hi
  · exact h2 c (List.mem_filter.mpr ⟨hc, hi⟩)
  · simpa [hi] using h
set_option maxRecDepth 65536 in
theorem w_c0 : (Jvm.Cond.code x code maxLocals ret).before args0 about1 = true := code_word (m := ⟨1, 2⟩) (meth := k1m2) (c := k1c2) (by decide +kernel) rfl rfl rfl (by decide +kernel)
set_option maxRecDepth 65536 in
theorem w_c1 : (Jvm.Cond.code ({ cls := "java/lang/Math", name := "min", desc := "(II)I" } : Jvm.MethodName) jdk_29_method_69_code (2 : Nat) (Option.some Jvm.ClassFile.FieldType.int)).before args0 about1 = true := code_word (m := ⟨2, 2⟩) (meth := k2m2) (c := k2c2) (by decide +kernel) rfl rfl rfl (by decide +kernel)
set_option maxRecDepth 65536 in
theorem w_c2 : (Jvm.Cond.code ({ cls := "java/lang/Math", name := "max", desc := "(II)I" } : Jvm.MethodName) jdk_29_method_65_code (2 : Nat) (Option.some Jvm.ClassFile.FieldType.int)).before args0 about1 = true := code_word (m := ⟨2, 1⟩) (meth := k2m1) (c := k2c1) (by decide +kernel) rfl rfl rfl (by decide +kernel)
set_option maxRecDepth 65536 in
theorem w_c3 : (Jvm.Cond.code ({ cls := "com/example/parametree/parametree/Expression", name := "outer", desc := "([II)I" } : Jvm.MethodName) prog_40_method_3_code (3 : Nat) (Option.some Jvm.ClassFile.FieldType.int)).before args0 about1 = true := code_word (m := ⟨3, 0⟩) (meth := k3m0) (c := k3c0) (by decide +kernel) rfl rfl rfl (by decide +kernel)
set_option maxRecDepth 65536 in
theorem w_c4 : (Jvm.Cond.code ({ cls := "com/example/parametree/parametree/ExpressionOuterPinLaw", name := "below", desc := "(II)I" } : Jvm.MethodName) method_2_code (2 : Nat) (Option.some Jvm.ClassFile.FieldType.int)).before args0 about1 = true := code_word (m := ⟨1, 1⟩) (meth := k1m1) (c := k1c1) (by decide +kernel) rfl rfl rfl (by decide +kernel)
def codes1 : List Jvm.Cond := [Jvm.Cond.code x code maxLocals ret, Jvm.Cond.code ({ cls := "java/lang/Math", name := "min", desc := "(II)I" } : Jvm.MethodName) jdk_29_method_69_code (2 : Nat) (Option.some Jvm.ClassFile.FieldType.int), Jvm.Cond.code ({ cls := "java/lang/Math", name := "max", desc := "(II)I" } : Jvm.MethodName) jdk_29_method_65_code (2 : Nat) (Option.some Jvm.ClassFile.FieldType.int), Jvm.Cond.code ({ cls := "com/example/parametree/parametree/Expression", name := "outer", desc := "([II)I" } : Jvm.MethodName) prog_40_method_3_code (3 : Nat) (Option.some Jvm.ClassFile.FieldType.int), Jvm.Cond.code ({ cls := "com/example/parametree/parametree/ExpressionOuterPinLaw", name := "below", desc := "(II)I" } : Jvm.MethodName) method_2_code (2 : Nat) (Option.some Jvm.ClassFile.FieldType.int)]
set_option maxRecDepth 65536 in
theorem codes_eq : words1.filter isCode = codes1 := rfl
theorem w_codes : ∀ c ∈ words1.filter isCode, c.before args0 about1 = true := by
  rw [codes_eq]
  intro c hc
  simp only [codes1, List.mem_cons, List.not_mem_nil, or_false] at hc
  rcases hc with rfl | rfl | rfl | rfl | rfl
  · exact w_c0
  · exact w_c1
  · exact w_c2
  · exact w_c3
  · exact w_c4
set_option maxRecDepth 65536 in
theorem w_t1 : words1.all (fun c => isCode c || c.before args0 about1) = true := by decide +kernel
theorem w_tables : (allAtoms (Jvm.Cond.code x code maxLocals ret :: tables_1)).before args0 about1 = true := by
  rw [allAtoms_all]
  show words1.all (fun c => c.before args0 about1) = true
  refine all_split ?_ w_codes
  rw [w_t1]
set_option maxRecDepth 65536 in
theorem w_case : (Jvm.Cond.and given_1 narrow_1).before args0 about1 = true := by decide +kernel
theorem w_applies : (headSpec (Jvm.Cond.code x code maxLocals ret :: tables_1) room_1).applies x e0.platform about1 = true :=
  (Spec.applies_iff w_frames).mpr ⟨w_running, w_runnable, w_alone, w_named, w_hears, w_ripe, w_room, w_tables⟩
theorem atStart : AtStart classFile x code maxLocals ret World_1 tables_1 room_1 Calls_1 rest_1 Pre_1 launch0 p0 e0 about1 theMethod args0 below0 :=
  ⟨lists_1, trivial, launch0.admits_env _ _ _, launch0.least_env, fairChoices_fair.cas, fairChoices_fair.clock, w_frames, w_args, w_heap, w_applies, trivial, trivial, w_case⟩
end start1
theorem witness_1 : WitnessClaimed_1 := ⟨start1.p0, start1.e0, start1.about1, start1.theMethod, start1.args0, start1.below0, start1.atStart⟩
end Jvm.Pilot.@@N@@
