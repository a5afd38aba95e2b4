import JvmDerived
import JvmDerived.Pilot.@@N@@Statement
import JvmDerived.Pilot.@@N@@Code
set_option linter.unusedVariables false
set_option linter.unusedSimpArgs false
namespace Jvm.RoadKit
open Sem ClassFile Op Lib Jvm.Stand Jvm.Free Jvm.LawKit
/-- from T the run comes to a state of which Φ holds -/
def own_R (tb : Tables) (e : Env) (below : List Frame) (Φ : State → Prop) (T : State) : Prop := ∃ T', Φ T' ∧ ∀ t, Steps tb e below T' t → Steps tb e below T t
theorem own_leaf {tb : Tables} {e : Env} {below : List Frame} {Φ : State → Prop} {T : State} (h : Φ T) : own_R tb e below Φ T := ⟨T, h, fun _ k => k⟩
theorem own_go {tb : Tables} {e : Env} {below : List Frame} {Φ : State → Prop} {T T1 : State} (h : ∀ t, Steps tb e below T1 t → Steps tb e below T t) (g : own_R tb e below Φ T1) : own_R tb e below Φ T := by
  obtain ⟨T', h1, h2⟩ := g
  exact ⟨T', h1, fun t k => h t (h2 t k)⟩
theorem own_to {tb : Tables} {e : Env} {below : List Frame} {Φ Ψ : State → Prop} {T : State} (h : own_R tb e below Φ T) (g : ∀ U, Φ U → own_R tb e below Ψ U) : own_R tb e below Ψ T := by
  obtain ⟨T', h1, h2⟩ := h
  exact own_go h2 (g T' h1)
/-- the call has come to its end: what it returns and leaves -/
def own_F (below : List Frame) (s : State) (Q : Option Value → Heap → List Loc → Prop) (rc rs : Nat) (U : State) : Prop := U.status = .running ∧ ∃ v L, Ended U below (.returned v) ∧ Q v U.heap L ∧ FrameEnd s (.returned v) U L rc rs
theorem own_fin {tb : Tables} {e : Env} {below : List Frame} {s : State} {Q : Option Value → Heap → List Loc → Prop} {rc rs : Nat} {T : State} (h : own_R tb e below (own_F below s Q rc rs) T) :
    ∃ s₂ o, Steps tb e below T s₂ ∧ s₂.status = .running ∧ Ended s₂ below o ∧ ∃ v L, o = .returned v ∧ Q v s₂.heap L ∧ FrameEnd s o s₂ L rc rs := by
  obtain ⟨T', ⟨h1, v, L, h2, h3, h4⟩, h5⟩ := h
  exact ⟨T', .returned v, h5 _ (Steps.refl _), h1, h2, v, L, rfl, h3, h4⟩
section New
variable {p : Program} {l : Launch} {e : Env} {R : Room} {s : State} {m : MethodId} {args : Array Value} {below : List Frame} {meth : Method} {c : Code} {T : State} {locs : List Loc} {cells slots : Nat}
theorem retI (X : Stand p l e R s m args below meth c T locs cells slots) (hx : p.tables.exec = Jvm.exec) {pc : Nat} {Ls : Array Slot} {z : Int32} {rest : List Value} (hret : meth.sig.returnType = some .int) (hd : decode c.code pc = .ok (.ireturn, 1)) {fs : List Frame}
    (hl : ∀ (f : JFrame) (acts : List Action), f.method = m → f.locked = none → f.entered = [] → (doReturn e (T.setTop f) acts (some (.int z))).1 = T.setFrames fs) : Steps p.tables e below (T.setTop (mkF m pc Ls (.int z :: rest))) (T.setFrames fs) := by
  have hm' : T.vm.method? m = some meth := X.method'
  have hn : narrow .int (.int z) = .int z := rfl
  show Steps p.tables e below (T.setTop { method := m, pc := pc, locals := Ls, stack := _ :: rest, locked := none }) _
  jvm_step X.here [X.here.top, hx, hd, hm', hret, hn]
  first | (intro acts; rw [hl _ acts rfl rfl rfl]) | rw [hl _ _ rfl rfl rfl]
  exact Steps.refl _
variable {Q : Option Value → Heap → List Loc → Prop} {rc rs : Nat}
theorem own_end (X : Stand p l e R s m args below meth c T locs cells slots) (hlk : meth.locks = false) {v : Option Value} (hv : meth.sig.returnType = none → v = none) (hQ : Q v T.heap locs) (hc : cells ≤ rc) (hs : slots ≤ rs) {g : JFrame}
    (hst : ∀ fs, (∀ (f : JFrame) (acts : List Action), f.method = m → f.locked = none → f.entered = [] → (doReturn e (T.setTop f) acts v).1 = T.setFrames fs) → Steps p.tables e below (T.setTop g) (T.setFrames fs)) : own_R p.tables e below (own_F below s Q rc rs) (T.setTop g) := by
  obtain ⟨fs, hr, hrun, hended, hW, hsame⟩ := X.leave hv hlk
  exact ⟨T.setFrames fs, ⟨hrun, v, locs, hended, hQ, ⟨_, rfl⟩, hW, hsame.mono hc hs⟩, fun t k => (hst fs hr).trans k⟩
theorem own_ret0 (X : Stand p l e R s m args below meth c T locs cells slots) (hx : p.tables.exec = Jvm.exec) {pc : Nat} {Ls : Array Slot} (hret : meth.sig.returnType = none) (hd : decode c.code pc = .ok (.return_, 1)) (hlk : meth.locks = false) (hQ : Q none T.heap locs) (hc : cells ≤ rc) (hs : slots ≤ rs) :
    own_R p.tables e below (own_F below s Q rc rs) (T.setTop (mkF m pc Ls [])) := own_end X hlk (fun _ => rfl) hQ hc hs fun _ hr => X.returnOut hx hret hd hr
theorem own_retI (X : Stand p l e R s m args below meth c T locs cells slots) (hx : p.tables.exec = Jvm.exec) {pc : Nat} {Ls : Array Slot} {z : Int32} {rest : List Value} (hret : meth.sig.returnType = some .int) (hd : decode c.code pc = .ok (.ireturn, 1)) (hlk : meth.locks = false) (hQ : Q (some (.int z)) T.heap locs) (hc : cells ≤ rc) (hs : slots ≤ rs) :
    own_R p.tables e below (own_F below s Q rc rs) (T.setTop (mkF m pc Ls (.int z :: rest))) := own_end X hlk (fun h => by rw [hret] at h; cases h) hQ hc hs fun _ hr => retI X hx hret hd hr
theorem own_retN (X : Stand p l e R s m args below meth c T locs cells slots) (hx : p.tables.exec = Jvm.exec) {t : FieldType} (ht : t = .boolean ∨ t = .byte ∨ t = .char ∨ t = .short) {pc : Nat} {Ls : Array Slot} {z : Int32} {rest : List Value} (hret : meth.sig.returnType = some t) (hd : decode c.code pc = .ok (.ireturn, 1)) (hlk : meth.locks = false) (hQ : Q (some (.int (nar t z))) T.heap locs) (hc : cells ≤ rc) (hs : slots ≤ rs) :
    own_R p.tables e below (own_F below s Q rc rs) (T.setTop (mkF m pc Ls (.int z :: rest))) := own_end X hlk (fun h => by rw [hret] at h; cases h) hQ hc hs fun _ hr => retN X hx hret ht hd hr
theorem own_retL (X : Stand p l e R s m args below meth c T locs cells slots) (hx : p.tables.exec = Jvm.exec) {pc : Nat} {Ls : Array Slot} {z : Int64} {rest : List Value} (hret : meth.sig.returnType = some .long) (hd : decode c.code pc = .ok (.lreturn, 1)) (hlk : meth.locks = false) (hQ : Q (some (.long z)) T.heap locs) (hc : cells ≤ rc) (hs : slots ≤ rs) :
    own_R p.tables e below (own_F below s Q rc rs) (T.setTop (mkF m pc Ls (.long z :: rest))) := own_end X hlk (fun h => by rw [hret] at h; cases h) hQ hc hs fun _ hr => retOut X hx hret rfl (Or.inr (Or.inl ⟨rfl, rfl, z, rfl⟩)) hd hr
theorem own_retA (X : Stand p l e R s m args below meth c T locs cells slots) (hx : p.tables.exec = Jvm.exec) {t : FieldType} {pc : Nat} {Ls : Array Slot} {w : Value} {rest : List Value} (ht : t.isReference = true) (hw : w.isRef = true) (hret : meth.sig.returnType = some t) (hd : decode c.code pc = .ok (.areturn, 1)) (hlk : meth.locks = false) (hQ : Q (some w) T.heap locs) (hc : cells ≤ rc) (hs : slots ≤ rs) :
    own_R p.tables e below (own_F below s Q rc rs) (T.setTop (mkF m pc Ls (w :: rest))) := own_end X hlk (fun h => by rw [hret] at h; cases h) hQ hc hs fun _ hr => retOut X hx hret (by cases t <;> first | rfl | cases ht) (Or.inr (Or.inr (Or.inr (Or.inr ⟨rfl, ht, hw⟩)))) hd hr
variable {Z : State} {h : Heap} {a : Addr} {k : ClassId} {n : Int32} {vs : List Value} {dv : Value}
theorem own_len (X : Stand p l e R s m args below meth c T locs cells slots) (hx : p.tables.exec = Jvm.exec) (hZ : Z.Warmed39 s.vm) (eT : T.heap = h) {ty : FieldType} (V : Arv Z h a k ty n vs dv) {g : JFrame} (hg : g.method = m) {rest : List Value} (hs : g.stack = .ref a :: rest) (hd : decode c.code g.pc = .ok (.arraylength, 1)) :
    ∀ target, Steps p.tables e below (T.setTop { g with pc := g.pc + 1, stack := .int n :: rest }) target → Steps p.tables e below (T.setTop g) target := by
  obtain ⟨cl, A, -, S, N, -, -⟩ := V
  intro t kt
  refine X.arraylength hx (by rw [eT]; exact A.1) (State.isArrayOf_alike hZ.alike A.2.1) hg hs hd t ?_
  rw [len_of S N]; exact kt
theorem own_ldI (X : Stand p l e R s m args below meth c T locs cells slots) (hx : p.tables.exec = Jvm.exec) (hZ : Z.Warmed39 s.vm) (eT : T.heap = h) (V : Arv Z h a k .int n vs dv) {j : Int32} {i : Nat} (hj : ¬ j < 0 ∧ j < n) (hi : j.toNatClampNeg = i) {v : Value} (hv : vs.getD i dv = v) {g : JFrame} (hg : g.method = m) {rest : List Value} (hs : g.stack = .int j :: .ref a :: rest) (hd : decode c.code g.pc = .ok (.iaload, 1)) :
    ∀ target, Steps p.tables e below (T.setTop { g with pc := g.pc + 1, stack := v :: rest }) target → Steps p.tables e below (T.setTop g) target := by
  obtain ⟨cl, A, -, S, N, H, -⟩ := V
  subst hi
  intro t kt
  exact X.iaload hx (by rw [eT]; exact A.1) (State.isArrayOf_alike hZ.alike A.2.1) A.2.2 (inb_of S hj) (H.at (inb_of S hj) hv) hg hs hd t kt
theorem own_ldJ (X : Stand p l e R s m args below meth c T locs cells slots) (hx : p.tables.exec = Jvm.exec) (hZ : Z.Warmed39 s.vm) (eT : T.heap = h) (V : Arv Z h a k .long n vs dv) {j : Int32} {i : Nat} (hj : ¬ j < 0 ∧ j < n) (hi : j.toNatClampNeg = i) {v : Value} (hv : vs.getD i dv = v) {g : JFrame} (hg : g.method = m) {rest : List Value} (hs : g.stack = .int j :: .ref a :: rest) (hd : decode c.code g.pc = .ok (.laload, 1)) :
    ∀ target, Steps p.tables e below (T.setTop { g with pc := g.pc + 1, stack := v :: rest }) target → Steps p.tables e below (T.setTop g) target := by
  obtain ⟨cl, A, -, S, N, H, -⟩ := V
  subst hi
  intro t kt
  exact X.laload hx (by rw [eT]; exact A.1) (State.isArrayOf_alike hZ.alike A.2.1) A.2.2 (inb_of S hj) (H.at (inb_of S hj) hv) hg hs hd t kt
theorem own_ldB (X : Stand p l e R s m args below meth c T locs cells slots) (hx : p.tables.exec = Jvm.exec) (hZ : Z.Warmed39 s.vm) (eT : T.heap = h) (V : Arv Z h a k .byte n vs dv) {j : Int32} {i : Nat} (hj : ¬ j < 0 ∧ j < n) (hi : j.toNatClampNeg = i) {v : Value} (hv : vs.getD i dv = v) {g : JFrame} (hg : g.method = m) {rest : List Value} (hs : g.stack = .int j :: .ref a :: rest) (hd : decode c.code g.pc = .ok (.baload, 1)) :
    ∀ target, Steps p.tables e below (T.setTop { g with pc := g.pc + 1, stack := v :: rest }) target → Steps p.tables e below (T.setTop g) target := by
  obtain ⟨cl, A, -, S, N, H, -⟩ := V
  subst hi
  intro t kt
  exact X.baloadBytes hx (by rw [eT]; exact A.1) (State.isArrayOf_alike hZ.alike A.2.1) A.2.2 (inb_of S hj) (H.at (inb_of S hj) hv) hg hs hd t kt
theorem own_stI (X : Stand p l e R s m args below meth c T locs cells slots) (hx : p.tables.exec = Jvm.exec) (hZ : Z.Warmed39 s.vm) (eT : T.heap = h) (V : Arv Z h a k .int n vs dv) {j : Int32} {i : Nat} (hj : ¬ j < 0 ∧ j < n) (hi : j.toNatClampNeg = i) (hlen : i < vs.length) {x : Int32} {w : Value} (hw : w = .int x) {g : JFrame} (hg : g.method = m) {rest : List Value} (hs : g.stack = .int x :: .int j :: .ref a :: rest) (hd : decode c.code g.pc = .ok (.iastore, 1)) :
    ∃ T' h' sl, Stand p l e R s m args below meth c T' (locs ++ [⟨a, sl⟩]) cells slots ∧ T'.heap = h' ∧ Wr h h' a sl w ∧ Arv Z h' a k .int n (vs.set i w) dv ∧ ∀ target, Steps p.tables e below (T'.setTop { g with pc := g.pc + 1, stack := rest }) target → Steps p.tables e below (T.setTop g) target := by
  obtain ⟨cl, A, q1, S, N, H, G⟩ := V
  subst hw
  obtain ⟨T', h', X', e', W', st⟩ := stI X hx hZ eT A (j := j) (inb_of S hj) hg hs hd
  exact ⟨T', h', _, X', e', W', Arv.set A q1 S N H G rfl W' i hi hlen, st⟩
theorem own_stJ (X : Stand p l e R s m args below meth c T locs cells slots) (hx : p.tables.exec = Jvm.exec) (hZ : Z.Warmed39 s.vm) (eT : T.heap = h) (V : Arv Z h a k .long n vs dv) {j : Int32} {i : Nat} (hj : ¬ j < 0 ∧ j < n) (hi : j.toNatClampNeg = i) (hlen : i < vs.length) {x : Int64} {w : Value} (hw : w = .long x) {g : JFrame} (hg : g.method = m) {rest : List Value} (hs : g.stack = .long x :: .int j :: .ref a :: rest) (hd : decode c.code g.pc = .ok (.lastore, 1)) :
    ∃ T' h' sl, Stand p l e R s m args below meth c T' (locs ++ [⟨a, sl⟩]) cells slots ∧ T'.heap = h' ∧ Wr h h' a sl w ∧ Arv Z h' a k .long n (vs.set i w) dv ∧ ∀ target, Steps p.tables e below (T'.setTop { g with pc := g.pc + 1, stack := rest }) target → Steps p.tables e below (T.setTop g) target := by
  obtain ⟨cl, A, q1, S, N, H, G⟩ := V
  subst hw
  obtain ⟨T', h', X', e', W', st⟩ := stJ X hx hZ eT A (j := j) (inb_of S hj) hg hs hd
  exact ⟨T', h', _, X', e', W', Arv.set A q1 S N H G rfl W' i hi hlen, st⟩
end New
end Jvm.RoadKit
namespace Jvm.Pilot.@@N@@
open Jvm Jvm.ClassFile Sem Op Lib Jvm.Free Jvm.Stand Jvm.LawKit Jvm.RoadKit Bundle Jvm.Pilot.@@N@@.Jvm.D
theorem pd_0 : parseMethodDescriptor "(I)I" = some ⟨[.int], some .int⟩ := by decide +kernel
theorem pd_1 : parseMethodDescriptor "(II)I" = some ⟨[.int, .int], some .int⟩ := by decide +kernel
theorem pd_2 : parseMethodDescriptor "(I)V" = some ⟨[.int], none⟩ := by decide +kernel
theorem pd_3 : parseMethodDescriptor "(II)V" = some ⟨[.int, .int], none⟩ := by decide +kernel
theorem pd_4 : parseMethodDescriptor "([III)V" = some ⟨[(.array .int), .int, .int], none⟩ := by decide +kernel

def own_min (a b : Int32) : Int32 := if b < a then b else a
def own_max (a b : Int32) : Int32 := if a < b then b else a
def own_V (n : Nat) : Value := .int (Int32.ofNat n)
def own_W (x : Int32) : Value := .int x
def own_ok (ps : List Nat) : Prop := ps.length = 4 ∧ ps.getD 0 0 = 0 ∧ ps.getD 1 0 ≤ 1 ∧ ps.getD 2 0 ≤ 2 ∧ ps.getD 3 0 ≤ 3
def own_all : List (List Nat) := [0, 1].flatMap fun a => [0, 1, 2].flatMap fun b => [0, 1, 2, 3].map fun c => [0, a, b, c]
def own_fnd : Nat → List Nat → Nat → List Nat × Nat
  | 0, ps, c => (ps, c)
  | f + 1, ps, c => if ps.getD c 0 = c then (ps, c) else own_fnd f (ps.set c (ps.getD (ps.getD c 0) 0)) (ps.getD (ps.getD c 0) 0)
def own_uni (ps : List Nat) (a b : Nat) : List Nat :=
  let r1 := own_fnd 4 ps a
  let r2 := own_fnd 4 r1.1 b
  if r1.2 = r2.2 then r2.1 else r2.1.set (Nat.max r1.2 r2.2) (Nat.min r1.2 r2.2)
def own_lab (ps : List Nat) : List Int32 := (List.range 4).map fun c => Int32.ofNat (own_fnd 4 ps c).2
def own_rep (hi lo x : Int32) : Int32 := if x = hi then lo else x
def own_mrg (ls : List Int32) (a b : Nat) : List Int32 := ls.map (own_rep (own_max (ls.getD a 0) (ls.getD b 0)) (own_min (ls.getD a 0) (ls.getD b 0)))
theorem own_enum {ps : List Nat} (h : own_ok ps) : ps ∈ own_all := by
  obtain ⟨h0, h1, h2, h3, h4⟩ := h
  match ps, h0 with
  | [a, b, c, d], _ =>
    simp only [List.getD_cons_zero, List.getD_cons_succ] at h1 h2 h3 h4
    have hb : b = 0 ∨ b = 1 := by omega
    have hc : c = 0 ∨ c = 1 ∨ c = 2 := by omega
    have hd : d = 0 ∨ d = 1 ∨ d = 2 ∨ d = 3 := by omega
    subst h1
    rcases hb with rfl | rfl <;> rcases hc with rfl | rfl | rfl <;> rcases hd with rfl | rfl | rfl | rfl <;> decide
instance (ps : List Nat) : Decidable (own_ok ps) := by unfold own_ok; infer_instance
theorem own_f1 : ∀ ps ∈ own_all, ∀ c : Fin 4, own_ok (own_fnd 4 ps c.val).1 ∧ (own_fnd 4 ps c.val).2 < 4 ∧ own_lab (own_fnd 4 ps c.val).1 = own_lab ps := by decide +kernel
theorem own_f2 : ∀ ps ∈ own_all, ∀ a b : Fin 4, own_ok (own_uni ps a.val b.val) ∧ own_mrg (own_lab ps) a.val b.val = own_lab (own_uni ps a.val b.val) := by decide +kernel
theorem own_f3 : ∀ ps ∈ own_all, ∀ c : Fin 4, ps.getD c.val 0 ≤ c.val ∧ (¬ ps.getD c.val 0 = c.val → ps.getD (ps.getD c.val 0) 0 < c.val ∧ own_ok (ps.set c.val (ps.getD (ps.getD c.val 0) 0))) := by decide +kernel
theorem own_f4 : ∀ ps ∈ own_all, ∀ c : Fin 4, (own_lab ps).getD c.val 0 = Int32.ofNat (own_fnd 4 ps c.val).2 := by decide +kernel
theorem own_at (ps : List Nat) (c : Nat) : (ps.map own_V).getD c (.int (0 : Int32)) = .int (Int32.ofNat (ps.getD c 0)) := by
  rw [List.getD_eq_getElem?_getD, List.getD_eq_getElem?_getD, List.getElem?_map]
  cases ps[c]? <;> rfl
theorem own_atW (ls : List Int32) (c : Nat) : (ls.map own_W).getD c (.int (0 : Int32)) = .int (ls.getD c 0) := by
  rw [List.getD_eq_getElem?_getD, List.getD_eq_getElem?_getD, List.getElem?_map]
  cases ls[c]? <;> rfl
theorem own_idx {c : Nat} (h : c < 4) : (¬ Int32.ofNat c < 0 ∧ Int32.ofNat c < (4 : Int32)) ∧ (Int32.ofNat c).toNatClampNeg = c := by
  have : ∀ c : Fin 4, (¬ Int32.ofNat c.val < 0 ∧ Int32.ofNat c.val < (4 : Int32)) ∧ (Int32.ofNat c.val).toNatClampNeg = c.val := by decide
  exact this ⟨c, h⟩
theorem own_inj {a b : Nat} (ha : a < 4) (hb : b < 4) : Int32.ofNat a = Int32.ofNat b ↔ a = b := by
  have : ∀ a b : Fin 4, Int32.ofNat a.val = Int32.ofNat b.val ↔ a.val = b.val := by decide
  exact this ⟨a, ha⟩ ⟨b, hb⟩
theorem own_mm {a b : Nat} (ha : a < 4) (hb : b < 4) : own_max (Int32.ofNat a) (Int32.ofNat b) = Int32.ofNat (Nat.max a b) ∧ own_min (Int32.ofNat a) (Int32.ofNat b) = Int32.ofNat (Nat.min a b) ∧ Nat.max a b < 4 := by
  have : ∀ a b : Fin 4, own_max (Int32.ofNat a.val) (Int32.ofNat b.val) = Int32.ofNat (Nat.max a.val b.val) ∧ own_min (Int32.ofNat a.val) (Int32.ofNat b.val) = Int32.ofNat (Nat.min a.val b.val) ∧ Nat.max a.val b.val < 4 := by decide
  exact this ⟨a, ha⟩ ⟨b, hb⟩
theorem own_and3 (x n : Int32) (h : (x &&& (3 : Int32)) = n) : ∃ c : Nat, c < 4 ∧ n = Int32.ofNat c := by
  have h1 := c_and x 3 (by decide)
  rw [h, show (3 : Int32).toInt = 3 from rfl] at h1
  refine ⟨n.toInt.toNat, by omega, ?_⟩
  apply Int32.toInt_inj.mp
  rw [Int32.toInt_ofNat_of_lt (by omega)]; omega
theorem d6_0 : decode jdk_29_method_69_code 0 = .ok (.iload_n 0, 1) := by decide +kernel
theorem d6_1 : decode jdk_29_method_69_code 1 = .ok (.iload_n 1, 1) := by decide +kernel
theorem d6_2 : decode jdk_29_method_69_code 2 = .ok (.if_icmp .gt 7, 3) := by decide +kernel
theorem d6_5 : decode jdk_29_method_69_code 5 = .ok (.iload_n 0, 1) := by decide +kernel
theorem d6_6 : decode jdk_29_method_69_code 6 = .ok (.goto 4, 3) := by decide +kernel
theorem d6_9 : decode jdk_29_method_69_code 9 = .ok (.iload_n 1, 1) := by decide +kernel
theorem d6_10 : decode jdk_29_method_69_code 10 = .ok (.ireturn, 1) := by decide +kernel
theorem ef_6 (m : MethodId) (x0 : Int32) (x1 : Int32) : entryFrame m #[(.int x0), (.int x1)] 2 = mkF m 0 #[.val (.int x0), .val (.int x1)] [] := by first | (simp [entryFrame, mkF, argsToLocals, Value.category]; done) | rfl
def Q6 (Z : State) (p1 : Int32) (p2 : Int32) (h0 : Heap) (n0 : Nat) (v : Option Value) (h : Heap) (L : List Loc) : Prop := v = some (.int (own_min p1 p2)) ∧ Fr n0 L ∧ h = h0
set_option maxRecDepth 65536 in
set_option maxHeartbeats 40000000 in
theorem rm6 (l : Launch) (Z : State) (a0 : Array Value) (hw : ∀ d ∈ tables_1, d.before a0 Z = true) (ws : List Jvm.Cond) (p1 : Int32) (p2 : Int32) (h0 : Heap) (n0 : Nat) (ZS : n0 ≤ h0.size) :
    MetFree l (⟨"java/lang/Math", "min", "(II)I"⟩ : MethodName) (head1 (Jvm.Cond.code (⟨"java/lang/Math", "min", "(II)I"⟩ : MethodName) jdk_29_method_69_code 2 (some .int) :: ws) ({ frames := 0, cells := 0, slots := 0, locals := 0 } : Room)) (fun a U => a = #[(.int p1), (.int p2)] ∧ Z.Warmed39 U.vm ∧ U.heap = h0) (fun _ _ _ _ _ => True) (fun _ U o U' => ∃ v L, o = .returned v ∧ Q6 Z p1 p2 h0 n0 v U'.heap L ∧ FrameEnd U o U' L ({ frames := 0, cells := 0, slots := 0, locals := 0 } : Room).cells ({ frames := 0, cells := 0, slots := 0, locals := 0 } : Room).slots) := by
  refine MetFree.of_bodySF (Jvm.Free.JP.mathPlain rfl (by decide +kernel)) hisR ?_
  intro p e s m args below meth c s₁ Bd hml0 hP hK
  obtain ⟨rfl, hZ, hh⟩ := hP
  have hx := Bd.exec
  have hby := Bd.bytes
  have hml : c.maxLocals = 2 := hml0
  have hown : s.vm.findClass "java/lang/Math" = some m.cls := findClass_of_methodNamed Bd.named
  have hnm := (name_of_methodNamed Bd.named Bd.method).1
  have hlk : meth.locks = false := Bd.notSynchronized
  have X0 : Stand p l e ({ frames := 0, cells := 0, slots := 0, locals := 0 } : Room) s m #[(.int p1), (.int p2)] below meth c s₁ [] 0 0 := Stand.of_body Bd
  have e0 : s₁.heap = h0 := by rw [← hh, Bd.state]; rfl
  have NF := Fr.nil n0
  have KP : Keep h0 h0 [] := Keep.refl _ _
  refine own_fin (s := s) (Q := Q6 Z p1 p2 h0 n0) (rc := ({ frames := 0, cells := 0, slots := 0, locals := 0 } : Room).cells) (rs := ({ frames := 0, cells := 0, slots := 0, locals := 0 } : Room).slots) ?_
  refine own_go (fun _ kt => castTop (ef_6 m p1 p2) kt) ?_
  show own_R _ _ _ _ (s₁.setTop (mkF m 0 #[.val (.int p1), .val (.int p2)] []))
  refine own_go (fun _ kt => XS.iloadN X0.here hx rfl (hb hby d6_0) rfl kt) ?_
  show own_R _ _ _ _ (s₁.setTop (mkF m 1 #[.val (.int p1), .val (.int p2)] [(.int p1)]))
  refine own_go (fun _ kt => XS.iloadN X0.here hx rfl (hb hby d6_1) rfl kt) ?_
  show own_R _ _ _ _ (s₁.setTop (mkF m 2 #[.val (.int p1), .val (.int p2)] [(.int p2), (.int p1)]))
  by_cases hc1 : p2 < p1
  · refine own_go (fun _ kt => XS.icmpYes X0.here hx rfl (pc0 := 2) (pc' := 9) rfl (hb hby d6_2) rfl (tlt hc1).2.2.1 (by decide) (by decide) kt) ?_
    show own_R _ _ _ _ (s₁.setTop (mkF m 9 #[.val (.int p1), .val (.int p2)] []))
    refine own_go (fun _ kt => XS.iloadN X0.here hx rfl (hb hby d6_9) rfl kt) ?_
    show own_R _ _ _ _ (s₁.setTop (mkF m 10 #[.val (.int p1), .val (.int p2)] [(.int p2)]))
    exact own_retI X0 hx Bd.returns (hb hby d6_10) hlk ⟨by rw [own_min, if_pos hc1], NF, e0⟩ (by decide) (by decide)
  · refine own_go (fun _ kt => XS.icmpNo X0.here hx rfl (hb hby d6_2) rfl (flt hc1).2.2.1 kt) ?_
    show own_R _ _ _ _ (s₁.setTop (mkF m 5 #[.val (.int p1), .val (.int p2)] []))
    refine own_go (fun _ kt => XS.iloadN X0.here hx rfl (hb hby d6_5) rfl kt) ?_
    show own_R _ _ _ _ (s₁.setTop (mkF m 6 #[.val (.int p1), .val (.int p2)] [(.int p1)]))
    refine own_go (fun _ kt => XS.goto X0.here hx rfl (pc0 := 6) (pc' := 10) rfl (hb hby d6_6) (by decide) (by decide) kt) ?_
    show own_R _ _ _ _ (s₁.setTop (mkF m 10 #[.val (.int p1), .val (.int p2)] [(.int p1)]))
    exact own_retI X0 hx Bd.returns (hb hby d6_10) hlk ⟨by rw [own_min, if_neg hc1], NF, e0⟩ (by decide) (by decide)
theorem d7_0 : decode jdk_29_method_65_code 0 = .ok (.iload_n 0, 1) := by decide +kernel
theorem d7_1 : decode jdk_29_method_65_code 1 = .ok (.iload_n 1, 1) := by decide +kernel
theorem d7_2 : decode jdk_29_method_65_code 2 = .ok (.if_icmp .lt 7, 3) := by decide +kernel
theorem d7_5 : decode jdk_29_method_65_code 5 = .ok (.iload_n 0, 1) := by decide +kernel
theorem d7_6 : decode jdk_29_method_65_code 6 = .ok (.goto 4, 3) := by decide +kernel
theorem d7_9 : decode jdk_29_method_65_code 9 = .ok (.iload_n 1, 1) := by decide +kernel
theorem d7_10 : decode jdk_29_method_65_code 10 = .ok (.ireturn, 1) := by decide +kernel
theorem ef_7 (m : MethodId) (x0 : Int32) (x1 : Int32) : entryFrame m #[(.int x0), (.int x1)] 2 = mkF m 0 #[.val (.int x0), .val (.int x1)] [] := by first | (simp [entryFrame, mkF, argsToLocals, Value.category]; done) | rfl
def Q7 (Z : State) (p1 : Int32) (p2 : Int32) (h0 : Heap) (n0 : Nat) (v : Option Value) (h : Heap) (L : List Loc) : Prop := v = some (.int (own_max p1 p2)) ∧ Fr n0 L ∧ h = h0
set_option maxRecDepth 65536 in
set_option maxHeartbeats 40000000 in
theorem rm7 (l : Launch) (Z : State) (a0 : Array Value) (hw : ∀ d ∈ tables_1, d.before a0 Z = true) (ws : List Jvm.Cond) (p1 : Int32) (p2 : Int32) (h0 : Heap) (n0 : Nat) (ZS : n0 ≤ h0.size) :
    MetFree l (⟨"java/lang/Math", "max", "(II)I"⟩ : MethodName) (head1 (Jvm.Cond.code (⟨"java/lang/Math", "max", "(II)I"⟩ : MethodName) jdk_29_method_65_code 2 (some .int) :: ws) ({ frames := 0, cells := 0, slots := 0, locals := 0 } : Room)) (fun a U => a = #[(.int p1), (.int p2)] ∧ Z.Warmed39 U.vm ∧ U.heap = h0) (fun _ _ _ _ _ => True) (fun _ U o U' => ∃ v L, o = .returned v ∧ Q7 Z p1 p2 h0 n0 v U'.heap L ∧ FrameEnd U o U' L ({ frames := 0, cells := 0, slots := 0, locals := 0 } : Room).cells ({ frames := 0, cells := 0, slots := 0, locals := 0 } : Room).slots) := by
  refine MetFree.of_bodySF (Jvm.Free.JP.mathPlain rfl (by decide +kernel)) hisR ?_
  intro p e s m args below meth c s₁ Bd hml0 hP hK
  obtain ⟨rfl, hZ, hh⟩ := hP
  have hx := Bd.exec
  have hby := Bd.bytes
  have hml : c.maxLocals = 2 := hml0
  have hown : s.vm.findClass "java/lang/Math" = some m.cls := findClass_of_methodNamed Bd.named
  have hnm := (name_of_methodNamed Bd.named Bd.method).1
  have hlk : meth.locks = false := Bd.notSynchronized
  have X0 : Stand p l e ({ frames := 0, cells := 0, slots := 0, locals := 0 } : Room) s m #[(.int p1), (.int p2)] below meth c s₁ [] 0 0 := Stand.of_body Bd
  have e0 : s₁.heap = h0 := by rw [← hh, Bd.state]; rfl
  have NF := Fr.nil n0
  have KP : Keep h0 h0 [] := Keep.refl _ _
  refine own_fin (s := s) (Q := Q7 Z p1 p2 h0 n0) (rc := ({ frames := 0, cells := 0, slots := 0, locals := 0 } : Room).cells) (rs := ({ frames := 0, cells := 0, slots := 0, locals := 0 } : Room).slots) ?_
  refine own_go (fun _ kt => castTop (ef_7 m p1 p2) kt) ?_
  show own_R _ _ _ _ (s₁.setTop (mkF m 0 #[.val (.int p1), .val (.int p2)] []))
  refine own_go (fun _ kt => XS.iloadN X0.here hx rfl (hb hby d7_0) rfl kt) ?_
  show own_R _ _ _ _ (s₁.setTop (mkF m 1 #[.val (.int p1), .val (.int p2)] [(.int p1)]))
  refine own_go (fun _ kt => XS.iloadN X0.here hx rfl (hb hby d7_1) rfl kt) ?_
  show own_R _ _ _ _ (s₁.setTop (mkF m 2 #[.val (.int p1), .val (.int p2)] [(.int p2), (.int p1)]))
  by_cases hc2 : p1 < p2
  · refine own_go (fun _ kt => XS.icmpYes X0.here hx rfl (pc0 := 2) (pc' := 9) rfl (hb hby d7_2) rfl (tlt hc2).1 (by decide) (by decide) kt) ?_
    show own_R _ _ _ _ (s₁.setTop (mkF m 9 #[.val (.int p1), .val (.int p2)] []))
    refine own_go (fun _ kt => XS.iloadN X0.here hx rfl (hb hby d7_9) rfl kt) ?_
    show own_R _ _ _ _ (s₁.setTop (mkF m 10 #[.val (.int p1), .val (.int p2)] [(.int p2)]))
    exact own_retI X0 hx Bd.returns (hb hby d7_10) hlk ⟨by rw [own_max, if_pos hc2], NF, e0⟩ (by decide) (by decide)
  · refine own_go (fun _ kt => XS.icmpNo X0.here hx rfl (hb hby d7_2) rfl (flt hc2).1 kt) ?_
    show own_R _ _ _ _ (s₁.setTop (mkF m 5 #[.val (.int p1), .val (.int p2)] []))
    refine own_go (fun _ kt => XS.iloadN X0.here hx rfl (hb hby d7_5) rfl kt) ?_
    show own_R _ _ _ _ (s₁.setTop (mkF m 6 #[.val (.int p1), .val (.int p2)] [(.int p1)]))
    refine own_go (fun _ kt => XS.goto X0.here hx rfl (pc0 := 6) (pc' := 10) rfl (hb hby d7_6) (by decide) (by decide) kt) ?_
    show own_R _ _ _ _ (s₁.setTop (mkF m 10 #[.val (.int p1), .val (.int p2)] [(.int p1)]))
    exact own_retI X0 hx Bd.returns (hb hby d7_10) hlk ⟨by rw [own_max, if_neg hc2], NF, e0⟩ (by decide) (by decide)
theorem d1_0 : decode prog_43_method_1_code 0 = .ok (.aload_n 0, 1) := by decide +kernel
theorem d1_1 : decode prog_43_method_1_code 1 = .ok (.invokespecial 1, 3) := by decide +kernel
theorem d1_4 : decode prog_43_method_1_code 4 = .ok (.aload_n 0, 1) := by decide +kernel
theorem d1_5 : decode prog_43_method_1_code 5 = .ok (.iload_n 1, 1) := by decide +kernel
theorem d1_6 : decode prog_43_method_1_code 6 = .ok (.newarray .int, 2) := by decide +kernel
theorem d1_8 : decode prog_43_method_1_code 8 = .ok (.putfield 7, 3) := by decide +kernel
theorem d1_11 : decode prog_43_method_1_code 11 = .ok (.iconst 0, 1) := by decide +kernel
theorem d1_12 : decode prog_43_method_1_code 12 = .ok (.istore_n 2, 1) := by decide +kernel
theorem d1_13 : decode prog_43_method_1_code 13 = .ok (.iload_n 2, 1) := by decide +kernel
theorem d1_14 : decode prog_43_method_1_code 14 = .ok (.iload_n 1, 1) := by decide +kernel
theorem d1_15 : decode prog_43_method_1_code 15 = .ok (.if_icmp .ge 16, 3) := by decide +kernel
theorem d1_18 : decode prog_43_method_1_code 18 = .ok (.aload_n 0, 1) := by decide +kernel
theorem d1_19 : decode prog_43_method_1_code 19 = .ok (.getfield 7, 3) := by decide +kernel
theorem d1_22 : decode prog_43_method_1_code 22 = .ok (.iload_n 2, 1) := by decide +kernel
theorem d1_23 : decode prog_43_method_1_code 23 = .ok (.iload_n 2, 1) := by decide +kernel
theorem d1_24 : decode prog_43_method_1_code 24 = .ok (.iastore, 1) := by decide +kernel
theorem d1_25 : decode prog_43_method_1_code 25 = .ok (.iinc 2 1, 3) := by decide +kernel
theorem d1_28 : decode prog_43_method_1_code 28 = .ok (.goto (-15), 3) := by decide +kernel
theorem d1_31 : decode prog_43_method_1_code 31 = .ok (.return_, 1) := by decide +kernel
theorem pn_1 : plainName "com/example/clearlot/clearlot/program/DisjointSets" = true := by first | (simp [plainName, overriddenIn]; done) | decide +kernel
theorem ef_1 (m : MethodId) (x0 : Addr) (x1 : Int32) : entryFrame m #[(.ref x0), (.int x1)] 3 = mkF m 0 #[.val (.ref x0), .val (.int x1), .unset] [] := by first | (simp [entryFrame, mkF, argsToLocals, Value.category]; done) | rfl
def Q1 (Z : State) (a1 : Addr) (u1 : Value) (h0 : Heap) (n0 : Nat) (v : Option Value) (h : Heap) (L : List Loc) : Prop := v = none ∧ Fr n0 L ∧ Keep h0 h [a1] ∧ ∃ b : Addr, Fld Z h a1 "com/example/clearlot/clearlot/program/DisjointSets" "parent" "[I" (.ref b) ∧ h0.size ≤ b ∧ ∃ k : ClassId, Arv Z h b k .int (4 : Int32) ([0, 1, 2, 3].map own_V) (.int (0 : Int32))
set_option maxRecDepth 65536 in
set_option maxHeartbeats 40000000 in
theorem rm1 (l : Launch) (Z : State) (a0 : Array Value) (hw : ∀ d ∈ tables_1, d.before a0 Z = true) (ws : List Jvm.Cond) (a1 : Addr) (u1 : Value) (h0 : Heap) (n0 : Nat) (ZS : n0 ≤ h0.size) (E_a1 : Exa Z h0 a1 "com/example/clearlot/clearlot/program/DisjointSets") (F_parent_a1 : Fld Z h0 a1 "com/example/clearlot/clearlot/program/DisjointSets" "parent" "[I" u1) (g_a1 : n0 ≤ a1) :
    MetFree l (⟨"com/example/clearlot/clearlot/program/DisjointSets", "<init>", "(I)V"⟩ : MethodName) (head1 (Jvm.Cond.code (⟨"com/example/clearlot/clearlot/program/DisjointSets", "<init>", "(I)V"⟩ : MethodName) prog_43_method_1_code 3 none :: ws) ({ frames := 1, cells := 1, slots := 4, locals := 12 } : Room)) (fun a U => a = #[(.ref a1), (.int (4 : Int32))] ∧ Z.Warmed39 U.vm ∧ U.heap = h0) (fun _ _ _ _ _ => True) (fun _ U o U' => ∃ v L, o = .returned v ∧ Q1 Z a1 u1 h0 n0 v U'.heap L ∧ FrameEnd U o U' L ({ frames := 1, cells := 1, slots := 4, locals := 12 } : Room).cells ({ frames := 1, cells := 1, slots := 4, locals := 12 } : Room).slots) := by
  refine MetFree.of_bodySF (plainFor_of_name pn_1) hisR ?_
  intro p e s m args below meth c s₁ Bd hml0 hP hK
  obtain ⟨rfl, hZ, hh⟩ := hP
  have hx := Bd.exec
  have hby := Bd.bytes
  have hml : c.maxLocals = 3 := hml0
  have hown : s.vm.findClass "com/example/clearlot/clearlot/program/DisjointSets" = some m.cls := findClass_of_methodNamed Bd.named
  have hnm := (name_of_methodNamed Bd.named Bd.method).1
  have hlk : meth.locks = false := Bd.notSynchronized
  have X0 : Stand p l e ({ frames := 1, cells := 1, slots := 4, locals := 12 } : Room) s m #[(.ref a1), (.int (4 : Int32))] below meth c s₁ [] 0 0 := Stand.of_body Bd
  have e0 : s₁.heap = h0 := by rw [← hh, Bd.state]; rfl
  have NF := Fr.nil n0
  have KP : Keep h0 h0 [a1] := Keep.refl _ _
  refine own_fin (s := s) (Q := Q1 Z a1 u1 h0 n0) (rc := ({ frames := 1, cells := 1, slots := 4, locals := 12 } : Room).cells) (rs := ({ frames := 1, cells := 1, slots := 4, locals := 12 } : Room).slots) ?_
  refine own_go (fun _ kt => castTop (ef_1 m a1 (4 : Int32)) kt) ?_
  show own_R _ _ _ _ (s₁.setTop (mkF m 0 #[.val (.ref a1), .val (.int (4 : Int32)), .unset] []))
  refine own_go (fun _ kt => XS.aloadN X0.here hx rfl (hb hby d1_0) rfl rfl kt) ?_
  show own_R _ _ _ _ (s₁.setTop (mkF m 1 #[.val (.ref a1), .val (.int (4 : Int32)), .unset] [(.ref a1)]))
  obtain ⟨T3, X3, e3, st3⟩ := initO X0 hx hZ hown (hw _ (List.mem_of_getElem? (i := 7) rfl)) (hw _ (List.mem_of_getElem? (i := 8) rfl)) (hw _ (List.mem_of_getElem? (i := 9) rfl)) e0 (g := (mkF m 1 #[.val (.ref a1), .val (.int (4 : Int32)), .unset] [(.ref a1)])) rfl (by rw [hml]; rfl) rfl (hb hby d1_1) (by decide) (W := 0) (by show 2 * 0 + _ ≤ _; exact Nat.le_of_eq rfl) (by decide)
  refine own_go st3 ?_
  show own_R _ _ _ _ (T3.setTop (mkF m 4 #[.val (.ref a1), .val (.int (4 : Int32)), .unset] []))
  refine own_go (fun _ kt => XS.aloadN X3.here hx rfl (hb hby d1_4) rfl rfl kt) ?_
  show own_R _ _ _ _ (T3.setTop (mkF m 5 #[.val (.ref a1), .val (.int (4 : Int32)), .unset] [(.ref a1)]))
  refine own_go (fun _ kt => XS.iloadN X3.here hx rfl (hb hby d1_5) rfl kt) ?_
  show own_R _ _ _ _ (T3.setTop (mkF m 6 #[.val (.ref a1), .val (.int (4 : Int32)), .unset] [(.int (4 : Int32)), (.ref a1)]))
  obtain ⟨T4, h4, k4, X4, e4, E4, A4, st4⟩ := newP X3 hx hZ (hw _ (List.mem_of_getElem? (i := 0) rfl)) e3 (g := (mkF m 6 #[.val (.ref a1), .val (.int (4 : Int32)), .unset] [(.int (4 : Int32)), (.ref a1)])) rfl (hb hby d1_6) rfl (by decide) (cap := 4) (by decide) (by decide) (by decide) (by decide)
  obtain ⟨b4, g4⟩ : ∃ z, z = h0.size := ⟨_, rfl⟩
  rw [← g4] at A4 st4
  refine own_go st4 ?_
  have ne_a1_b4 : a1 ≠ b4 := Nat.ne_of_lt (Nat.lt_of_lt_of_le E_a1.lt (Nat.le_of_eq g4.symm))
  have g_b4 : n0 ≤ b4 := Nat.le_trans ZS (Nat.le_of_eq g4.symm)
  have sz_b4 : h0.size ≤ b4 := Nat.le_trans KP.1 (Nat.le_of_eq g4.symm)
  have E_a1 := E_a1.ext E4
  have F_parent_a1 := F_parent_a1.ext E4
  have ZS := Nat.le_trans ZS E4.1
  have KP := KP.ext E4
  have V_b4 : Arv Z h4 b4 k4 .int (4 : Int32) [(.int (0 : Int32)), (.int (0 : Int32)), (.int (0 : Int32)), (.int (0 : Int32))] (.int (0 : Int32)) := (Arv.new A4 (by decide)).pad (pad_rep [] (.int (0 : Int32)) 4)
  show own_R _ _ _ _ (T4.setTop (mkF m 8 #[.val (.ref a1), .val (.int (4 : Int32)), .unset] [(.ref b4), (.ref a1)]))
  obtain ⟨T5, h5, X5, e5, W5, st5⟩ := putF X4 hx hZ hown (host := "") (Or.inl (hw _ (List.mem_of_getElem? (i := 10) rfl))) Via.refl e4 F_parent_a1 E_a1 (Or.inr ⟨(hw _ (List.mem_of_getElem? (i := 11) rfl)), rfl, hnm⟩) (hw _ (List.mem_of_getElem? (i := 2) rfl)) (ty := (.array .int)) (by decide) rfl rfl (g := (mkF m 8 #[.val (.ref a1), .val (.int (4 : Int32)), .unset] [(.ref b4), (.ref a1)])) rfl rfl (hb hby d1_8)
  refine own_go st5 ?_
  have E_a1 := E_a1.wr W5
  have F_parent_a1 := F_parent_a1.same W5
  have V_b4 := V_b4.other W5 (Ne.symm ne_a1_b4)
  have ZS := Nat.le_trans ZS (Keep.of_wr W5).1
  have KP := KP.wr W5 (Or.inl (List.mem_of_getElem? (i := 0) rfl))
  have NF := Fr.snoc X5 NF g_a1
  show own_R _ _ _ _ (T5.setTop (mkF m 11 #[.val (.ref a1), .val (.int (4 : Int32)), .unset] []))
  refine own_go (fun _ kt => XS.iconst X5.here hx rfl (hb hby d1_11) kt) ?_
  show own_R _ _ _ _ (T5.setTop (mkF m 12 #[.val (.ref a1), .val (.int (4 : Int32)), .unset] [(.int (0 : Int32))]))
  refine own_go (fun _ kt => XS.istoreN X5.here hx rfl (hb hby d1_12) rfl (l' := #[.val (.ref a1), .val (.int (4 : Int32)), .val (.int (0 : Int32))]) rfl kt) ?_
  show own_R _ _ _ _ (T5.setTop (mkF m 13 #[.val (.ref a1), .val (.int (4 : Int32)), .val (.int (0 : Int32))] []))
  refine own_go (fun _ kt => XS.iloadN X5.here hx rfl (hb hby d1_13) rfl kt) ?_
  show own_R _ _ _ _ (T5.setTop (mkF m 14 #[.val (.ref a1), .val (.int (4 : Int32)), .val (.int (0 : Int32))] [(.int (0 : Int32))]))
  refine own_go (fun _ kt => XS.iloadN X5.here hx rfl (hb hby d1_14) rfl kt) ?_
  show own_R _ _ _ _ (T5.setTop (mkF m 15 #[.val (.ref a1), .val (.int (4 : Int32)), .val (.int (0 : Int32))] [(.int (4 : Int32)), (.int (0 : Int32))]))
  refine own_go (fun _ kt => XS.icmpNo X5.here hx rfl (hb hby d1_15) rfl (tlt (by decide : (0 : Int32) < (4 : Int32))).2.1 kt) ?_
  show own_R _ _ _ _ (T5.setTop (mkF m 18 #[.val (.ref a1), .val (.int (4 : Int32)), .val (.int (0 : Int32))] []))
  refine own_go (fun _ kt => XS.aloadN X5.here hx rfl (hb hby d1_18) rfl rfl kt) ?_
  show own_R _ _ _ _ (T5.setTop (mkF m 19 #[.val (.ref a1), .val (.int (4 : Int32)), .val (.int (0 : Int32))] [(.ref a1)]))
  obtain ⟨T6, X6, e6, st6⟩ := getF X5 hx hZ hown (host := "") (Or.inl (hw _ (List.mem_of_getElem? (i := 10) rfl))) Via.refl e5 F_parent_a1 (g := (mkF m 19 #[.val (.ref a1), .val (.int (4 : Int32)), .val (.int (0 : Int32))] [(.ref a1)])) rfl rfl (hb hby d1_19)
  refine own_go st6 ?_
  show own_R _ _ _ _ (T6.setTop (mkF m 22 #[.val (.ref a1), .val (.int (4 : Int32)), .val (.int (0 : Int32))] [(.ref b4)]))
  refine own_go (fun _ kt => XS.iloadN X6.here hx rfl (hb hby d1_22) rfl kt) ?_
  show own_R _ _ _ _ (T6.setTop (mkF m 23 #[.val (.ref a1), .val (.int (4 : Int32)), .val (.int (0 : Int32))] [(.int (0 : Int32)), (.ref b4)]))
  refine own_go (fun _ kt => XS.iloadN X6.here hx rfl (hb hby d1_23) rfl kt) ?_
  show own_R _ _ _ _ (T6.setTop (mkF m 24 #[.val (.ref a1), .val (.int (4 : Int32)), .val (.int (0 : Int32))] [(.int (0 : Int32)), (.int (0 : Int32)), (.ref b4)]))
  obtain ⟨T7, h7, sl7, X7, e7, W7, V7, st7⟩ := own_stI X6 hx hZ e6 V_b4 (j := (0 : Int32)) (i := 0) ⟨by decide, by decide⟩ rfl (Nat.le_of_ble_eq_true rfl) rfl (g := (mkF m 24 #[.val (.ref a1), .val (.int (4 : Int32)), .val (.int (0 : Int32))] [(.int (0 : Int32)), (.int (0 : Int32)), (.ref b4)])) rfl rfl (hb hby d1_24)
  refine own_go st7 ?_
  have E_a1 := E_a1.wr W7
  have F_parent_a1 := F_parent_a1.other W7 (Or.inl ne_a1_b4)
  have ZS := Nat.le_trans ZS (Keep.of_wr W7).1
  have KP := KP.wr W7 (Or.inr sz_b4)
  have NF := Fr.snoc X7 NF g_b4
  have V_b4 : Arv Z h7 b4 k4 .int (4 : Int32) [(.int (0 : Int32)), (.int (0 : Int32)), (.int (0 : Int32)), (.int (0 : Int32))] (.int (0 : Int32)) := V7
  show own_R _ _ _ _ (T7.setTop (mkF m 25 #[.val (.ref a1), .val (.int (4 : Int32)), .val (.int (0 : Int32))] []))
  refine own_go (fun _ kt => XS.iinc X7.here hx rfl (hb hby d1_25) rfl (l' := #[.val (.ref a1), .val (.int (4 : Int32)), .val (.int (1 : Int32))]) rfl kt) ?_
  show own_R _ _ _ _ (T7.setTop (mkF m 28 #[.val (.ref a1), .val (.int (4 : Int32)), .val (.int (1 : Int32))] []))
  refine own_go (fun _ kt => XS.goto X7.here hx rfl (pc0 := 28) (pc' := 13) rfl (hb hby d1_28) (by decide) (by decide) kt) ?_
  show own_R _ _ _ _ (T7.setTop (mkF m 13 #[.val (.ref a1), .val (.int (4 : Int32)), .val (.int (1 : Int32))] []))
  refine own_go (fun _ kt => XS.iloadN X7.here hx rfl (hb hby d1_13) rfl kt) ?_
  show own_R _ _ _ _ (T7.setTop (mkF m 14 #[.val (.ref a1), .val (.int (4 : Int32)), .val (.int (1 : Int32))] [(.int (1 : Int32))]))
  refine own_go (fun _ kt => XS.iloadN X7.here hx rfl (hb hby d1_14) rfl kt) ?_
  show own_R _ _ _ _ (T7.setTop (mkF m 15 #[.val (.ref a1), .val (.int (4 : Int32)), .val (.int (1 : Int32))] [(.int (4 : Int32)), (.int (1 : Int32))]))
  refine own_go (fun _ kt => XS.icmpNo X7.here hx rfl (hb hby d1_15) rfl (tlt (by decide : (1 : Int32) < (4 : Int32))).2.1 kt) ?_
  show own_R _ _ _ _ (T7.setTop (mkF m 18 #[.val (.ref a1), .val (.int (4 : Int32)), .val (.int (1 : Int32))] []))
  refine own_go (fun _ kt => XS.aloadN X7.here hx rfl (hb hby d1_18) rfl rfl kt) ?_
  show own_R _ _ _ _ (T7.setTop (mkF m 19 #[.val (.ref a1), .val (.int (4 : Int32)), .val (.int (1 : Int32))] [(.ref a1)]))
  obtain ⟨T8, X8, e8, st8⟩ := getF X7 hx hZ hown (host := "") (Or.inl (hw _ (List.mem_of_getElem? (i := 10) rfl))) Via.refl e7 F_parent_a1 (g := (mkF m 19 #[.val (.ref a1), .val (.int (4 : Int32)), .val (.int (1 : Int32))] [(.ref a1)])) rfl rfl (hb hby d1_19)
  refine own_go st8 ?_
  show own_R _ _ _ _ (T8.setTop (mkF m 22 #[.val (.ref a1), .val (.int (4 : Int32)), .val (.int (1 : Int32))] [(.ref b4)]))
  refine own_go (fun _ kt => XS.iloadN X8.here hx rfl (hb hby d1_22) rfl kt) ?_
  show own_R _ _ _ _ (T8.setTop (mkF m 23 #[.val (.ref a1), .val (.int (4 : Int32)), .val (.int (1 : Int32))] [(.int (1 : Int32)), (.ref b4)]))
  refine own_go (fun _ kt => XS.iloadN X8.here hx rfl (hb hby d1_23) rfl kt) ?_
  show own_R _ _ _ _ (T8.setTop (mkF m 24 #[.val (.ref a1), .val (.int (4 : Int32)), .val (.int (1 : Int32))] [(.int (1 : Int32)), (.int (1 : Int32)), (.ref b4)]))
  obtain ⟨T9, h9, sl9, X9, e9, W9, V9, st9⟩ := own_stI X8 hx hZ e8 V_b4 (j := (1 : Int32)) (i := 1) ⟨by decide, by decide⟩ rfl (Nat.le_of_ble_eq_true rfl) rfl (g := (mkF m 24 #[.val (.ref a1), .val (.int (4 : Int32)), .val (.int (1 : Int32))] [(.int (1 : Int32)), (.int (1 : Int32)), (.ref b4)])) rfl rfl (hb hby d1_24)
  refine own_go st9 ?_
  have E_a1 := E_a1.wr W9
  have F_parent_a1 := F_parent_a1.other W9 (Or.inl ne_a1_b4)
  have ZS := Nat.le_trans ZS (Keep.of_wr W9).1
  have KP := KP.wr W9 (Or.inr sz_b4)
  have NF := Fr.snoc X9 NF g_b4
  have V_b4 : Arv Z h9 b4 k4 .int (4 : Int32) [(.int (0 : Int32)), (.int (1 : Int32)), (.int (0 : Int32)), (.int (0 : Int32))] (.int (0 : Int32)) := V9
  show own_R _ _ _ _ (T9.setTop (mkF m 25 #[.val (.ref a1), .val (.int (4 : Int32)), .val (.int (1 : Int32))] []))
  refine own_go (fun _ kt => XS.iinc X9.here hx rfl (hb hby d1_25) rfl (l' := #[.val (.ref a1), .val (.int (4 : Int32)), .val (.int (2 : Int32))]) rfl kt) ?_
  show own_R _ _ _ _ (T9.setTop (mkF m 28 #[.val (.ref a1), .val (.int (4 : Int32)), .val (.int (2 : Int32))] []))
  refine own_go (fun _ kt => XS.goto X9.here hx rfl (pc0 := 28) (pc' := 13) rfl (hb hby d1_28) (by decide) (by decide) kt) ?_
  show own_R _ _ _ _ (T9.setTop (mkF m 13 #[.val (.ref a1), .val (.int (4 : Int32)), .val (.int (2 : Int32))] []))
  refine own_go (fun _ kt => XS.iloadN X9.here hx rfl (hb hby d1_13) rfl kt) ?_
  show own_R _ _ _ _ (T9.setTop (mkF m 14 #[.val (.ref a1), .val (.int (4 : Int32)), .val (.int (2 : Int32))] [(.int (2 : Int32))]))
  refine own_go (fun _ kt => XS.iloadN X9.here hx rfl (hb hby d1_14) rfl kt) ?_
  show own_R _ _ _ _ (T9.setTop (mkF m 15 #[.val (.ref a1), .val (.int (4 : Int32)), .val (.int (2 : Int32))] [(.int (4 : Int32)), (.int (2 : Int32))]))
  refine own_go (fun _ kt => XS.icmpNo X9.here hx rfl (hb hby d1_15) rfl (tlt (by decide : (2 : Int32) < (4 : Int32))).2.1 kt) ?_
  show own_R _ _ _ _ (T9.setTop (mkF m 18 #[.val (.ref a1), .val (.int (4 : Int32)), .val (.int (2 : Int32))] []))
  refine own_go (fun _ kt => XS.aloadN X9.here hx rfl (hb hby d1_18) rfl rfl kt) ?_
  show own_R _ _ _ _ (T9.setTop (mkF m 19 #[.val (.ref a1), .val (.int (4 : Int32)), .val (.int (2 : Int32))] [(.ref a1)]))
  obtain ⟨T10, X10, e10, st10⟩ := getF X9 hx hZ hown (host := "") (Or.inl (hw _ (List.mem_of_getElem? (i := 10) rfl))) Via.refl e9 F_parent_a1 (g := (mkF m 19 #[.val (.ref a1), .val (.int (4 : Int32)), .val (.int (2 : Int32))] [(.ref a1)])) rfl rfl (hb hby d1_19)
  refine own_go st10 ?_
  show own_R _ _ _ _ (T10.setTop (mkF m 22 #[.val (.ref a1), .val (.int (4 : Int32)), .val (.int (2 : Int32))] [(.ref b4)]))
  refine own_go (fun _ kt => XS.iloadN X10.here hx rfl (hb hby d1_22) rfl kt) ?_
  show own_R _ _ _ _ (T10.setTop (mkF m 23 #[.val (.ref a1), .val (.int (4 : Int32)), .val (.int (2 : Int32))] [(.int (2 : Int32)), (.ref b4)]))
  refine own_go (fun _ kt => XS.iloadN X10.here hx rfl (hb hby d1_23) rfl kt) ?_
  show own_R _ _ _ _ (T10.setTop (mkF m 24 #[.val (.ref a1), .val (.int (4 : Int32)), .val (.int (2 : Int32))] [(.int (2 : Int32)), (.int (2 : Int32)), (.ref b4)]))
  obtain ⟨T11, h11, sl11, X11, e11, W11, V11, st11⟩ := own_stI X10 hx hZ e10 V_b4 (j := (2 : Int32)) (i := 2) ⟨by decide, by decide⟩ rfl (Nat.le_of_ble_eq_true rfl) rfl (g := (mkF m 24 #[.val (.ref a1), .val (.int (4 : Int32)), .val (.int (2 : Int32))] [(.int (2 : Int32)), (.int (2 : Int32)), (.ref b4)])) rfl rfl (hb hby d1_24)
  refine own_go st11 ?_
  have E_a1 := E_a1.wr W11
  have F_parent_a1 := F_parent_a1.other W11 (Or.inl ne_a1_b4)
  have ZS := Nat.le_trans ZS (Keep.of_wr W11).1
  have KP := KP.wr W11 (Or.inr sz_b4)
  have NF := Fr.snoc X11 NF g_b4
  have V_b4 : Arv Z h11 b4 k4 .int (4 : Int32) [(.int (0 : Int32)), (.int (1 : Int32)), (.int (2 : Int32)), (.int (0 : Int32))] (.int (0 : Int32)) := V11
  show own_R _ _ _ _ (T11.setTop (mkF m 25 #[.val (.ref a1), .val (.int (4 : Int32)), .val (.int (2 : Int32))] []))
  refine own_go (fun _ kt => XS.iinc X11.here hx rfl (hb hby d1_25) rfl (l' := #[.val (.ref a1), .val (.int (4 : Int32)), .val (.int (3 : Int32))]) rfl kt) ?_
  show own_R _ _ _ _ (T11.setTop (mkF m 28 #[.val (.ref a1), .val (.int (4 : Int32)), .val (.int (3 : Int32))] []))
  refine own_go (fun _ kt => XS.goto X11.here hx rfl (pc0 := 28) (pc' := 13) rfl (hb hby d1_28) (by decide) (by decide) kt) ?_
  show own_R _ _ _ _ (T11.setTop (mkF m 13 #[.val (.ref a1), .val (.int (4 : Int32)), .val (.int (3 : Int32))] []))
  refine own_go (fun _ kt => XS.iloadN X11.here hx rfl (hb hby d1_13) rfl kt) ?_
  show own_R _ _ _ _ (T11.setTop (mkF m 14 #[.val (.ref a1), .val (.int (4 : Int32)), .val (.int (3 : Int32))] [(.int (3 : Int32))]))
  refine own_go (fun _ kt => XS.iloadN X11.here hx rfl (hb hby d1_14) rfl kt) ?_
  show own_R _ _ _ _ (T11.setTop (mkF m 15 #[.val (.ref a1), .val (.int (4 : Int32)), .val (.int (3 : Int32))] [(.int (4 : Int32)), (.int (3 : Int32))]))
  refine own_go (fun _ kt => XS.icmpNo X11.here hx rfl (hb hby d1_15) rfl (tlt (by decide : (3 : Int32) < (4 : Int32))).2.1 kt) ?_
  show own_R _ _ _ _ (T11.setTop (mkF m 18 #[.val (.ref a1), .val (.int (4 : Int32)), .val (.int (3 : Int32))] []))
  refine own_go (fun _ kt => XS.aloadN X11.here hx rfl (hb hby d1_18) rfl rfl kt) ?_
  show own_R _ _ _ _ (T11.setTop (mkF m 19 #[.val (.ref a1), .val (.int (4 : Int32)), .val (.int (3 : Int32))] [(.ref a1)]))
  obtain ⟨T12, X12, e12, st12⟩ := getF X11 hx hZ hown (host := "") (Or.inl (hw _ (List.mem_of_getElem? (i := 10) rfl))) Via.refl e11 F_parent_a1 (g := (mkF m 19 #[.val (.ref a1), .val (.int (4 : Int32)), .val (.int (3 : Int32))] [(.ref a1)])) rfl rfl (hb hby d1_19)
  refine own_go st12 ?_
  show own_R _ _ _ _ (T12.setTop (mkF m 22 #[.val (.ref a1), .val (.int (4 : Int32)), .val (.int (3 : Int32))] [(.ref b4)]))
  refine own_go (fun _ kt => XS.iloadN X12.here hx rfl (hb hby d1_22) rfl kt) ?_
  show own_R _ _ _ _ (T12.setTop (mkF m 23 #[.val (.ref a1), .val (.int (4 : Int32)), .val (.int (3 : Int32))] [(.int (3 : Int32)), (.ref b4)]))
  refine own_go (fun _ kt => XS.iloadN X12.here hx rfl (hb hby d1_23) rfl kt) ?_
  show own_R _ _ _ _ (T12.setTop (mkF m 24 #[.val (.ref a1), .val (.int (4 : Int32)), .val (.int (3 : Int32))] [(.int (3 : Int32)), (.int (3 : Int32)), (.ref b4)]))
  obtain ⟨T13, h13, sl13, X13, e13, W13, V13, st13⟩ := own_stI X12 hx hZ e12 V_b4 (j := (3 : Int32)) (i := 3) ⟨by decide, by decide⟩ rfl (Nat.le_of_ble_eq_true rfl) rfl (g := (mkF m 24 #[.val (.ref a1), .val (.int (4 : Int32)), .val (.int (3 : Int32))] [(.int (3 : Int32)), (.int (3 : Int32)), (.ref b4)])) rfl rfl (hb hby d1_24)
  refine own_go st13 ?_
  have E_a1 := E_a1.wr W13
  have F_parent_a1 := F_parent_a1.other W13 (Or.inl ne_a1_b4)
  have ZS := Nat.le_trans ZS (Keep.of_wr W13).1
  have KP := KP.wr W13 (Or.inr sz_b4)
  have NF := Fr.snoc X13 NF g_b4
  have V_b4 : Arv Z h13 b4 k4 .int (4 : Int32) [(.int (0 : Int32)), (.int (1 : Int32)), (.int (2 : Int32)), (.int (3 : Int32))] (.int (0 : Int32)) := V13
  show own_R _ _ _ _ (T13.setTop (mkF m 25 #[.val (.ref a1), .val (.int (4 : Int32)), .val (.int (3 : Int32))] []))
  refine own_go (fun _ kt => XS.iinc X13.here hx rfl (hb hby d1_25) rfl (l' := #[.val (.ref a1), .val (.int (4 : Int32)), .val (.int (4 : Int32))]) rfl kt) ?_
  show own_R _ _ _ _ (T13.setTop (mkF m 28 #[.val (.ref a1), .val (.int (4 : Int32)), .val (.int (4 : Int32))] []))
  refine own_go (fun _ kt => XS.goto X13.here hx rfl (pc0 := 28) (pc' := 13) rfl (hb hby d1_28) (by decide) (by decide) kt) ?_
  show own_R _ _ _ _ (T13.setTop (mkF m 13 #[.val (.ref a1), .val (.int (4 : Int32)), .val (.int (4 : Int32))] []))
  refine own_go (fun _ kt => XS.iloadN X13.here hx rfl (hb hby d1_13) rfl kt) ?_
  show own_R _ _ _ _ (T13.setTop (mkF m 14 #[.val (.ref a1), .val (.int (4 : Int32)), .val (.int (4 : Int32))] [(.int (4 : Int32))]))
  refine own_go (fun _ kt => XS.iloadN X13.here hx rfl (hb hby d1_14) rfl kt) ?_
  show own_R _ _ _ _ (T13.setTop (mkF m 15 #[.val (.ref a1), .val (.int (4 : Int32)), .val (.int (4 : Int32))] [(.int (4 : Int32)), (.int (4 : Int32))]))
  refine own_go (fun _ kt => XS.icmpYes X13.here hx rfl (pc0 := 15) (pc' := 31) rfl (hb hby d1_15) rfl (flt (by decide : ¬ ((4 : Int32) < (4 : Int32)))).2.1 (by decide) (by decide) kt) ?_
  show own_R _ _ _ _ (T13.setTop (mkF m 31 #[.val (.ref a1), .val (.int (4 : Int32)), .val (.int (4 : Int32))] []))
  exact own_ret0 X13 hx Bd.returns (hb hby d1_31) hlk (by rw [e13]; exact ⟨rfl, NF, KP, _, F_parent_a1, sz_b4, _, V_b4⟩) (by decide) (by decide)
theorem d4_0 : decode prog_43_method_2_code 0 = .ok (.iload_n 1, 1) := by decide +kernel
theorem d4_1 : decode prog_43_method_2_code 1 = .ok (.istore_n 2, 1) := by decide +kernel
theorem d4_2 : decode prog_43_method_2_code 2 = .ok (.aload_n 0, 1) := by decide +kernel
theorem d4_3 : decode prog_43_method_2_code 3 = .ok (.getfield 7, 3) := by decide +kernel
theorem d4_6 : decode prog_43_method_2_code 6 = .ok (.iload_n 2, 1) := by decide +kernel
theorem d4_7 : decode prog_43_method_2_code 7 = .ok (.iaload, 1) := by decide +kernel
theorem d4_8 : decode prog_43_method_2_code 8 = .ok (.iload_n 2, 1) := by decide +kernel
theorem d4_9 : decode prog_43_method_2_code 9 = .ok (.if_icmp .eq 30, 3) := by decide +kernel
theorem d4_12 : decode prog_43_method_2_code 12 = .ok (.aload_n 0, 1) := by decide +kernel
theorem d4_13 : decode prog_43_method_2_code 13 = .ok (.getfield 7, 3) := by decide +kernel
theorem d4_16 : decode prog_43_method_2_code 16 = .ok (.iload_n 2, 1) := by decide +kernel
theorem d4_17 : decode prog_43_method_2_code 17 = .ok (.aload_n 0, 1) := by decide +kernel
theorem d4_18 : decode prog_43_method_2_code 18 = .ok (.getfield 7, 3) := by decide +kernel
theorem d4_21 : decode prog_43_method_2_code 21 = .ok (.aload_n 0, 1) := by decide +kernel
theorem d4_22 : decode prog_43_method_2_code 22 = .ok (.getfield 7, 3) := by decide +kernel
theorem d4_25 : decode prog_43_method_2_code 25 = .ok (.iload_n 2, 1) := by decide +kernel
theorem d4_26 : decode prog_43_method_2_code 26 = .ok (.iaload, 1) := by decide +kernel
theorem d4_27 : decode prog_43_method_2_code 27 = .ok (.iaload, 1) := by decide +kernel
theorem d4_28 : decode prog_43_method_2_code 28 = .ok (.iastore, 1) := by decide +kernel
theorem d4_29 : decode prog_43_method_2_code 29 = .ok (.aload_n 0, 1) := by decide +kernel
theorem d4_30 : decode prog_43_method_2_code 30 = .ok (.getfield 7, 3) := by decide +kernel
theorem d4_33 : decode prog_43_method_2_code 33 = .ok (.iload_n 2, 1) := by decide +kernel
theorem d4_34 : decode prog_43_method_2_code 34 = .ok (.iaload, 1) := by decide +kernel
theorem d4_35 : decode prog_43_method_2_code 35 = .ok (.istore_n 2, 1) := by decide +kernel
theorem d4_36 : decode prog_43_method_2_code 36 = .ok (.goto (-34), 3) := by decide +kernel
theorem d4_39 : decode prog_43_method_2_code 39 = .ok (.iload_n 2, 1) := by decide +kernel
theorem d4_40 : decode prog_43_method_2_code 40 = .ok (.ireturn, 1) := by decide +kernel
theorem ef_4 (m : MethodId) (x0 : Addr) (x1 : Int32) : entryFrame m #[(.ref x0), (.int x1)] 3 = mkF m 0 #[.val (.ref x0), .val (.int x1), .unset] [] := by first | (simp [entryFrame, mkF, argsToLocals, Value.category]; done) | rfl
def Q4 (Z : State) (a1 : Addr) (b1 : Addr) (k1 : ClassId) (ps : List Nat) (c0 : Nat) (h0 : Heap) (n0 : Nat) (v : Option Value) (h : Heap) (L : List Loc) : Prop := v = some (.int (Int32.ofNat (own_fnd 4 ps c0).2)) ∧ Fr n0 L ∧ Keep h0 h [b1] ∧ Arv Z h b1 k1 .int (4 : Int32) ((own_fnd 4 ps c0).1.map own_V) (.int (0 : Int32))
set_option maxRecDepth 65536 in
set_option maxHeartbeats 40000000 in
theorem rm4 (l : Launch) (Z : State) (a0 : Array Value) (hw : ∀ d ∈ tables_1, d.before a0 Z = true) (ws : List Jvm.Cond) (a1 : Addr) (b1 : Addr) (k1 : ClassId) (ps : List Nat) (c0 : Nat) (h0 : Heap) (n0 : Nat) (ZS : n0 ≤ h0.size) (F_parent_a1 : Fld Z h0 a1 "com/example/clearlot/clearlot/program/DisjointSets" "parent" "[I" (.ref b1)) (V_b1 : Arv Z h0 b1 k1 .int (4 : Int32) (ps.map own_V) (.int (0 : Int32))) (g_b1 : n0 ≤ b1) (ne1 : a1 ≠ b1) (hok : own_ok ps) (hc0 : c0 < 4) :
    MetFree l (⟨"com/example/clearlot/clearlot/program/DisjointSets", "find", "(I)I"⟩ : MethodName) (head1 (Jvm.Cond.code (⟨"com/example/clearlot/clearlot/program/DisjointSets", "find", "(I)I"⟩ : MethodName) prog_43_method_2_code 3 (some .int) :: ws) ({ frames := 0, cells := 0, slots := 0, locals := 0 } : Room)) (fun a U => a = #[(.ref a1), (.int (Int32.ofNat c0))] ∧ Z.Warmed39 U.vm ∧ U.heap = h0) (fun _ _ _ _ _ => True) (fun _ U o U' => ∃ v L, o = .returned v ∧ Q4 Z a1 b1 k1 ps c0 h0 n0 v U'.heap L ∧ FrameEnd U o U' L ({ frames := 0, cells := 0, slots := 0, locals := 0 } : Room).cells ({ frames := 0, cells := 0, slots := 0, locals := 0 } : Room).slots) := by
  refine MetFree.of_bodySF (plainFor_of_name pn_1) hisR ?_
  intro p e s m args below meth c s₁ Bd hml0 hP hK
  obtain ⟨rfl, hZ, hh⟩ := hP
  have hx := Bd.exec
  have hby := Bd.bytes
  have hml : c.maxLocals = 3 := hml0
  have hown : s.vm.findClass "com/example/clearlot/clearlot/program/DisjointSets" = some m.cls := findClass_of_methodNamed Bd.named
  have hnm := (name_of_methodNamed Bd.named Bd.method).1
  have hlk : meth.locks = false := Bd.notSynchronized
  have X0 : Stand p l e ({ frames := 0, cells := 0, slots := 0, locals := 0 } : Room) s m #[(.ref a1), (.int (Int32.ofNat c0))] below meth c s₁ [] 0 0 := Stand.of_body Bd
  have e0 : s₁.heap = h0 := by rw [← hh, Bd.state]; rfl
  have NF := Fr.nil n0
  have KP : Keep h0 h0 [b1] := Keep.refl _ _
  refine own_fin (s := s) (Q := Q4 Z a1 b1 k1 ps c0 h0 n0) (rc := ({ frames := 0, cells := 0, slots := 0, locals := 0 } : Room).cells) (rs := ({ frames := 0, cells := 0, slots := 0, locals := 0 } : Room).slots) ?_
  refine own_go (fun _ kt => castTop (ef_4 m a1 (Int32.ofNat c0)) kt) ?_
  show own_R _ _ _ _ (s₁.setTop (mkF m 0 #[.val (.ref a1), .val (.int (Int32.ofNat c0)), .unset] []))
  refine own_go (fun _ kt => XS.iloadN X0.here hx rfl (hb hby d4_0) rfl kt) ?_
  show own_R _ _ _ _ (s₁.setTop (mkF m 1 #[.val (.ref a1), .val (.int (Int32.ofNat c0)), .unset] [(.int (Int32.ofNat c0))]))
  refine own_go (fun _ kt => XS.istoreN X0.here hx rfl (hb hby d4_1) rfl (l' := #[.val (.ref a1), .val (.int (Int32.ofNat c0)), .val (.int (Int32.ofNat c0))]) rfl kt) ?_
  show own_R _ _ _ _ (s₁.setTop (mkF m 2 #[.val (.ref a1), .val (.int (Int32.ofNat c0)), .val (.int (Int32.ofNat c0))] []))
  suffices loop : ∀ (f c1 : Nat) (qs : List Nat) (T : State) (h : Heap) (locs : List Loc), c1 < f → c1 < 4 → own_ok qs → own_fnd f qs c1 = own_fnd 4 ps c0 → Stand p l e ({ frames := 0, cells := 0, slots := 0, locals := 0 } : Room) s m #[(.ref a1), (.int (Int32.ofNat c0))] below meth c T locs 0 0 → T.heap = h → Fr n0 locs → Keep h0 h [b1] → n0 ≤ h.size → Fld Z h a1 "com/example/clearlot/clearlot/program/DisjointSets" "parent" "[I" (.ref b1) → Arv Z h b1 k1 .int (4 : Int32) (qs.map own_V) (.int (0 : Int32)) → own_R p.tables e below (own_F below s (Q4 Z a1 b1 k1 ps c0 h0 n0) ({ frames := 0, cells := 0, slots := 0, locals := 0 } : Room).cells ({ frames := 0, cells := 0, slots := 0, locals := 0 } : Room).slots) (T.setTop (mkF m 2 #[.val (.ref a1), .val (.int (Int32.ofNat c0)), .val (.int (Int32.ofNat c1))] [])) from loop 4 c0 ps _ _ _ hc0 hc0 hok rfl X0 e0 NF KP ZS F_parent_a1 V_b1
  intro f
  induction f with
  | zero => intro c1 qs T h locs hf; exact absurd hf (Nat.not_lt_zero _)
  | succ f ih =>
    intro c1 qs T h locs hf hc1 hoq hres X eT NF KP ZS F_parent_a1 V_b1
    have i1 := own_idx hc1
    obtain ⟨g1, g2⟩ := own_f3 qs (own_enum hoq) ⟨c1, hc1⟩
    simp only at g1 g2
    have hr1 : qs.getD c1 0 < 4 := Nat.lt_of_le_of_lt g1 hc1
    have i2 := own_idx hr1
    have hql : qs.length = 4 := hoq.1
    show own_R _ _ _ _ (T.setTop (mkF m 2 #[.val (.ref a1), .val (.int (Int32.ofNat c0)), .val (.int (Int32.ofNat c1))] []))
    refine own_go (fun _ kt => XS.aloadN X.here hx rfl (hb hby d4_2) rfl rfl kt) ?_
    show own_R _ _ _ _ (T.setTop (mkF m 3 #[.val (.ref a1), .val (.int (Int32.ofNat c0)), .val (.int (Int32.ofNat c1))] [(.ref a1)]))
    obtain ⟨T14, X14, e14, st14⟩ := getF X hx hZ hown (host := "") (Or.inl (hw _ (List.mem_of_getElem? (i := 10) rfl))) Via.refl eT F_parent_a1 (g := (mkF m 3 #[.val (.ref a1), .val (.int (Int32.ofNat c0)), .val (.int (Int32.ofNat c1))] [(.ref a1)])) rfl rfl (hb hby d4_3)
    refine own_go st14 ?_
    show own_R _ _ _ _ (T14.setTop (mkF m 6 #[.val (.ref a1), .val (.int (Int32.ofNat c0)), .val (.int (Int32.ofNat c1))] [(.ref b1)]))
    refine own_go (fun _ kt => XS.iloadN X14.here hx rfl (hb hby d4_6) rfl kt) ?_
    show own_R _ _ _ _ (T14.setTop (mkF m 7 #[.val (.ref a1), .val (.int (Int32.ofNat c0)), .val (.int (Int32.ofNat c1))] [(.int (Int32.ofNat c1)), (.ref b1)]))
    refine own_go (own_ldI X14 hx hZ e14 V_b1 (j := (Int32.ofNat c1)) (i := c1) i1.1 i1.2 (v := (.int (Int32.ofNat (qs.getD c1 0)))) (own_at _ _) (g := (mkF m 7 #[.val (.ref a1), .val (.int (Int32.ofNat c0)), .val (.int (Int32.ofNat c1))] [(.int (Int32.ofNat c1)), (.ref b1)])) rfl rfl (hb hby d4_7)) ?_
    show own_R _ _ _ _ (T14.setTop (mkF m 8 #[.val (.ref a1), .val (.int (Int32.ofNat c0)), .val (.int (Int32.ofNat c1))] [(.int (Int32.ofNat (qs.getD c1 0)))]))
    refine own_go (fun _ kt => XS.iloadN X14.here hx rfl (hb hby d4_8) rfl kt) ?_
    show own_R _ _ _ _ (T14.setTop (mkF m 9 #[.val (.ref a1), .val (.int (Int32.ofNat c0)), .val (.int (Int32.ofNat c1))] [(.int (Int32.ofNat c1)), (.int (Int32.ofNat (qs.getD c1 0)))]))
    by_cases he : qs.getD c1 0 = c1
    · refine own_go (fun _ kt => XS.icmpYes X14.here hx rfl (pc0 := 9) (pc' := 39) rfl (hb hby d4_9) rfl (teq (congrArg Int32.ofNat he)).1 (by decide) (by decide) kt) ?_
      show own_R _ _ _ _ (T14.setTop (mkF m 39 #[.val (.ref a1), .val (.int (Int32.ofNat c0)), .val (.int (Int32.ofNat c1))] []))
      refine own_go (fun _ kt => XS.iloadN X14.here hx rfl (hb hby d4_39) rfl kt) ?_
      show own_R _ _ _ _ (T14.setTop (mkF m 40 #[.val (.ref a1), .val (.int (Int32.ofNat c0)), .val (.int (Int32.ofNat c1))] [(.int (Int32.ofNat c1))]))
      exact own_retI X14 hx Bd.returns (hb hby d4_40) hlk (by rw [e14]; rw [own_fnd, if_pos he] at hres; exact ⟨by rw [← hres], NF, KP, by rw [← hres]; exact V_b1⟩) (by decide) (by decide)
    · refine own_go (fun _ kt => XS.icmpNo X14.here hx rfl (hb hby d4_9) rfl (feq (fun q => he ((own_inj hr1 hc1).mp q))).1 kt) ?_
      show own_R _ _ _ _ (T14.setTop (mkF m 12 #[.val (.ref a1), .val (.int (Int32.ofNat c0)), .val (.int (Int32.ofNat c1))] []))
      obtain ⟨g3, g4⟩ := g2 he
      refine own_go (fun _ kt => XS.aloadN X14.here hx rfl (hb hby d4_12) rfl rfl kt) ?_
      show own_R _ _ _ _ (T14.setTop (mkF m 13 #[.val (.ref a1), .val (.int (Int32.ofNat c0)), .val (.int (Int32.ofNat c1))] [(.ref a1)]))
      obtain ⟨T15, X15, e15, st15⟩ := getF X14 hx hZ hown (host := "") (Or.inl (hw _ (List.mem_of_getElem? (i := 10) rfl))) Via.refl e14 F_parent_a1 (g := (mkF m 13 #[.val (.ref a1), .val (.int (Int32.ofNat c0)), .val (.int (Int32.ofNat c1))] [(.ref a1)])) rfl rfl (hb hby d4_13)
      refine own_go st15 ?_
      show own_R _ _ _ _ (T15.setTop (mkF m 16 #[.val (.ref a1), .val (.int (Int32.ofNat c0)), .val (.int (Int32.ofNat c1))] [(.ref b1)]))
      refine own_go (fun _ kt => XS.iloadN X15.here hx rfl (hb hby d4_16) rfl kt) ?_
      show own_R _ _ _ _ (T15.setTop (mkF m 17 #[.val (.ref a1), .val (.int (Int32.ofNat c0)), .val (.int (Int32.ofNat c1))] [(.int (Int32.ofNat c1)), (.ref b1)]))
      refine own_go (fun _ kt => XS.aloadN X15.here hx rfl (hb hby d4_17) rfl rfl kt) ?_
      show own_R _ _ _ _ (T15.setTop (mkF m 18 #[.val (.ref a1), .val (.int (Int32.ofNat c0)), .val (.int (Int32.ofNat c1))] [(.ref a1), (.int (Int32.ofNat c1)), (.ref b1)]))
      obtain ⟨T16, X16, e16, st16⟩ := getF X15 hx hZ hown (host := "") (Or.inl (hw _ (List.mem_of_getElem? (i := 10) rfl))) Via.refl e15 F_parent_a1 (g := (mkF m 18 #[.val (.ref a1), .val (.int (Int32.ofNat c0)), .val (.int (Int32.ofNat c1))] [(.ref a1), (.int (Int32.ofNat c1)), (.ref b1)])) rfl rfl (hb hby d4_18)
      refine own_go st16 ?_
      show own_R _ _ _ _ (T16.setTop (mkF m 21 #[.val (.ref a1), .val (.int (Int32.ofNat c0)), .val (.int (Int32.ofNat c1))] [(.ref b1), (.int (Int32.ofNat c1)), (.ref b1)]))
      refine own_go (fun _ kt => XS.aloadN X16.here hx rfl (hb hby d4_21) rfl rfl kt) ?_
      show own_R _ _ _ _ (T16.setTop (mkF m 22 #[.val (.ref a1), .val (.int (Int32.ofNat c0)), .val (.int (Int32.ofNat c1))] [(.ref a1), (.ref b1), (.int (Int32.ofNat c1)), (.ref b1)]))
      obtain ⟨T17, X17, e17, st17⟩ := getF X16 hx hZ hown (host := "") (Or.inl (hw _ (List.mem_of_getElem? (i := 10) rfl))) Via.refl e16 F_parent_a1 (g := (mkF m 22 #[.val (.ref a1), .val (.int (Int32.ofNat c0)), .val (.int (Int32.ofNat c1))] [(.ref a1), (.ref b1), (.int (Int32.ofNat c1)), (.ref b1)])) rfl rfl (hb hby d4_22)
      refine own_go st17 ?_
      show own_R _ _ _ _ (T17.setTop (mkF m 25 #[.val (.ref a1), .val (.int (Int32.ofNat c0)), .val (.int (Int32.ofNat c1))] [(.ref b1), (.ref b1), (.int (Int32.ofNat c1)), (.ref b1)]))
      refine own_go (fun _ kt => XS.iloadN X17.here hx rfl (hb hby d4_25) rfl kt) ?_
      show own_R _ _ _ _ (T17.setTop (mkF m 26 #[.val (.ref a1), .val (.int (Int32.ofNat c0)), .val (.int (Int32.ofNat c1))] [(.int (Int32.ofNat c1)), (.ref b1), (.ref b1), (.int (Int32.ofNat c1)), (.ref b1)]))
      refine own_go (own_ldI X17 hx hZ e17 V_b1 (j := (Int32.ofNat c1)) (i := c1) i1.1 i1.2 (v := (.int (Int32.ofNat (qs.getD c1 0)))) (own_at _ _) (g := (mkF m 26 #[.val (.ref a1), .val (.int (Int32.ofNat c0)), .val (.int (Int32.ofNat c1))] [(.int (Int32.ofNat c1)), (.ref b1), (.ref b1), (.int (Int32.ofNat c1)), (.ref b1)])) rfl rfl (hb hby d4_26)) ?_
      show own_R _ _ _ _ (T17.setTop (mkF m 27 #[.val (.ref a1), .val (.int (Int32.ofNat c0)), .val (.int (Int32.ofNat c1))] [(.int (Int32.ofNat (qs.getD c1 0))), (.ref b1), (.int (Int32.ofNat c1)), (.ref b1)]))
      refine own_go (own_ldI X17 hx hZ e17 V_b1 (j := (Int32.ofNat (qs.getD c1 0))) (i := (qs.getD c1 0)) i2.1 i2.2 (v := (.int (Int32.ofNat (qs.getD (qs.getD c1 0) 0)))) (own_at _ _) (g := (mkF m 27 #[.val (.ref a1), .val (.int (Int32.ofNat c0)), .val (.int (Int32.ofNat c1))] [(.int (Int32.ofNat (qs.getD c1 0))), (.ref b1), (.int (Int32.ofNat c1)), (.ref b1)])) rfl rfl (hb hby d4_27)) ?_
      show own_R _ _ _ _ (T17.setTop (mkF m 28 #[.val (.ref a1), .val (.int (Int32.ofNat c0)), .val (.int (Int32.ofNat c1))] [(.int (Int32.ofNat (qs.getD (qs.getD c1 0) 0))), (.int (Int32.ofNat c1)), (.ref b1)]))
      obtain ⟨T18, h18, sl18, X18, e18, W18, V18, st18⟩ := own_stI X17 hx hZ e17 V_b1 (j := (Int32.ofNat c1)) (i := c1) i1.1 i1.2 (by rw [List.length_map, hql]; exact hc1) rfl (g := (mkF m 28 #[.val (.ref a1), .val (.int (Int32.ofNat c0)), .val (.int (Int32.ofNat c1))] [(.int (Int32.ofNat (qs.getD (qs.getD c1 0) 0))), (.int (Int32.ofNat c1)), (.ref b1)])) rfl rfl (hb hby d4_28)
      refine own_go st18 ?_
      have F_parent_a1 := F_parent_a1.other W18 (Or.inl ne1)
      have ZS := Nat.le_trans ZS (Keep.of_wr W18).1
      have KP := KP.wr W18 (Or.inl (List.mem_of_getElem? (i := 0) rfl))
      have NF := Fr.snoc X18 NF g_b1
      have V_b1 := V18
      show own_R _ _ _ _ (T18.setTop (mkF m 29 #[.val (.ref a1), .val (.int (Int32.ofNat c0)), .val (.int (Int32.ofNat c1))] []))
      rw [show ((qs.map own_V).set c1 (.int (Int32.ofNat (qs.getD (qs.getD c1 0) 0)))) = (qs.set c1 (qs.getD (qs.getD c1 0) 0)).map own_V from (List.map_set ..).symm] at V_b1
      have hgs : (qs.set c1 (qs.getD (qs.getD c1 0) 0)).getD c1 0 = qs.getD (qs.getD c1 0) 0 := by rw [List.getD_eq_getElem?_getD, List.getElem?_set_self (by rw [hql]; exact hc1)]; rfl
      refine own_go (fun _ kt => XS.aloadN X18.here hx rfl (hb hby d4_29) rfl rfl kt) ?_
      show own_R _ _ _ _ (T18.setTop (mkF m 30 #[.val (.ref a1), .val (.int (Int32.ofNat c0)), .val (.int (Int32.ofNat c1))] [(.ref a1)]))
      obtain ⟨T19, X19, e19, st19⟩ := getF X18 hx hZ hown (host := "") (Or.inl (hw _ (List.mem_of_getElem? (i := 10) rfl))) Via.refl e18 F_parent_a1 (g := (mkF m 30 #[.val (.ref a1), .val (.int (Int32.ofNat c0)), .val (.int (Int32.ofNat c1))] [(.ref a1)])) rfl rfl (hb hby d4_30)
      refine own_go st19 ?_
      show own_R _ _ _ _ (T19.setTop (mkF m 33 #[.val (.ref a1), .val (.int (Int32.ofNat c0)), .val (.int (Int32.ofNat c1))] [(.ref b1)]))
      refine own_go (fun _ kt => XS.iloadN X19.here hx rfl (hb hby d4_33) rfl kt) ?_
      show own_R _ _ _ _ (T19.setTop (mkF m 34 #[.val (.ref a1), .val (.int (Int32.ofNat c0)), .val (.int (Int32.ofNat c1))] [(.int (Int32.ofNat c1)), (.ref b1)]))
      refine own_go (own_ldI X19 hx hZ e19 V_b1 (j := (Int32.ofNat c1)) (i := c1) i1.1 i1.2 (v := (.int (Int32.ofNat (qs.getD (qs.getD c1 0) 0)))) ((own_at _ _).trans (congrArg (fun z => Value.int (Int32.ofNat z)) hgs)) (g := (mkF m 34 #[.val (.ref a1), .val (.int (Int32.ofNat c0)), .val (.int (Int32.ofNat c1))] [(.int (Int32.ofNat c1)), (.ref b1)])) rfl rfl (hb hby d4_34)) ?_
      show own_R _ _ _ _ (T19.setTop (mkF m 35 #[.val (.ref a1), .val (.int (Int32.ofNat c0)), .val (.int (Int32.ofNat c1))] [(.int (Int32.ofNat (qs.getD (qs.getD c1 0) 0)))]))
      refine own_go (fun _ kt => XS.istoreN X19.here hx rfl (hb hby d4_35) rfl (l' := #[.val (.ref a1), .val (.int (Int32.ofNat c0)), .val (.int (Int32.ofNat (qs.getD (qs.getD c1 0) 0)))]) rfl kt) ?_
      show own_R _ _ _ _ (T19.setTop (mkF m 36 #[.val (.ref a1), .val (.int (Int32.ofNat c0)), .val (.int (Int32.ofNat (qs.getD (qs.getD c1 0) 0)))] []))
      refine own_go (fun _ kt => XS.goto X19.here hx rfl (pc0 := 36) (pc' := 2) rfl (hb hby d4_36) (by decide) (by decide) kt) ?_
      show own_R _ _ _ _ (T19.setTop (mkF m 2 #[.val (.ref a1), .val (.int (Int32.ofNat c0)), .val (.int (Int32.ofNat (qs.getD (qs.getD c1 0) 0)))] []))
      rw [own_fnd, if_neg he] at hres
      exact ih _ _ _ _ _ (by omega) (by omega) g4 hres X19 e19 NF KP ZS F_parent_a1 V_b1
theorem d3_0 : decode prog_43_method_3_code 0 = .ok (.aload_n 0, 1) := by decide +kernel
theorem d3_1 : decode prog_43_method_3_code 1 = .ok (.iload_n 1, 1) := by decide +kernel
theorem d3_2 : decode prog_43_method_3_code 2 = .ok (.invokevirtual 13, 3) := by decide +kernel
theorem d3_5 : decode prog_43_method_3_code 5 = .ok (.istore_n 3, 1) := by decide +kernel
theorem d3_6 : decode prog_43_method_3_code 6 = .ok (.aload_n 0, 1) := by decide +kernel
theorem d3_7 : decode prog_43_method_3_code 7 = .ok (.iload_n 2, 1) := by decide +kernel
theorem d3_8 : decode prog_43_method_3_code 8 = .ok (.invokevirtual 13, 3) := by decide +kernel
theorem d3_11 : decode prog_43_method_3_code 11 = .ok (.istore 4, 2) := by decide +kernel
theorem d3_13 : decode prog_43_method_3_code 13 = .ok (.iload_n 3, 1) := by decide +kernel
theorem d3_14 : decode prog_43_method_3_code 14 = .ok (.iload 4, 2) := by decide +kernel
theorem d3_16 : decode prog_43_method_3_code 16 = .ok (.if_icmp .eq 20, 3) := by decide +kernel
theorem d3_19 : decode prog_43_method_3_code 19 = .ok (.aload_n 0, 1) := by decide +kernel
theorem d3_20 : decode prog_43_method_3_code 20 = .ok (.getfield 7, 3) := by decide +kernel
theorem d3_23 : decode prog_43_method_3_code 23 = .ok (.iload_n 3, 1) := by decide +kernel
theorem d3_24 : decode prog_43_method_3_code 24 = .ok (.iload 4, 2) := by decide +kernel
theorem d3_26 : decode prog_43_method_3_code 26 = .ok (.invokestatic 17, 3) := by decide +kernel
theorem d3_29 : decode prog_43_method_3_code 29 = .ok (.iload_n 3, 1) := by decide +kernel
theorem d3_30 : decode prog_43_method_3_code 30 = .ok (.iload 4, 2) := by decide +kernel
theorem d3_32 : decode prog_43_method_3_code 32 = .ok (.invokestatic 23, 3) := by decide +kernel
theorem d3_35 : decode prog_43_method_3_code 35 = .ok (.iastore, 1) := by decide +kernel
theorem d3_36 : decode prog_43_method_3_code 36 = .ok (.return_, 1) := by decide +kernel
theorem ef_3 (m : MethodId) (x0 : Addr) (x1 : Int32) (x2 : Int32) : entryFrame m #[(.ref x0), (.int x1), (.int x2)] 5 = mkF m 0 #[.val (.ref x0), .val (.int x1), .val (.int x2), .unset, .unset] [] := by first | (simp [entryFrame, mkF, argsToLocals, Value.category]; done) | rfl
def Q3 (Z : State) (a1 : Addr) (b1 : Addr) (k1 : ClassId) (ps : List Nat) (ca : Nat) (cb : Nat) (h0 : Heap) (n0 : Nat) (v : Option Value) (h : Heap) (L : List Loc) : Prop := v = none ∧ Fr n0 L ∧ Keep h0 h [b1] ∧ Arv Z h b1 k1 .int (4 : Int32) ((own_uni ps ca cb).map own_V) (.int (0 : Int32))
set_option maxRecDepth 65536 in
set_option maxHeartbeats 40000000 in
theorem rm3 (l : Launch) (Z : State) (a0 : Array Value) (hw : ∀ d ∈ tables_1, d.before a0 Z = true) (ws : List Jvm.Cond) (a1 : Addr) (b1 : Addr) (k1 : ClassId) (ps : List Nat) (ca : Nat) (cb : Nat) (h0 : Heap) (n0 : Nat) (ZS : n0 ≤ h0.size) (E_a1 : Exa Z h0 a1 "com/example/clearlot/clearlot/program/DisjointSets") (F_parent_a1 : Fld Z h0 a1 "com/example/clearlot/clearlot/program/DisjointSets" "parent" "[I" (.ref b1)) (V_b1 : Arv Z h0 b1 k1 .int (4 : Int32) (ps.map own_V) (.int (0 : Int32))) (g_b1 : n0 ≤ b1) (ne1 : a1 ≠ b1) (hok : own_ok ps) (hca : ca < 4) (hcb : cb < 4) :
    MetFree l (⟨"com/example/clearlot/clearlot/program/DisjointSets", "union", "(II)V"⟩ : MethodName) (head1 (Jvm.Cond.code (⟨"com/example/clearlot/clearlot/program/DisjointSets", "union", "(II)V"⟩ : MethodName) prog_43_method_3_code 5 none :: ws) ({ frames := 1, cells := 0, slots := 0, locals := 15 } : Room)) (fun a U => a = #[(.ref a1), (.int (Int32.ofNat ca)), (.int (Int32.ofNat cb))] ∧ Z.Warmed39 U.vm ∧ U.heap = h0) (fun _ _ _ _ _ => True) (fun _ U o U' => ∃ v L, o = .returned v ∧ Q3 Z a1 b1 k1 ps ca cb h0 n0 v U'.heap L ∧ FrameEnd U o U' L ({ frames := 1, cells := 0, slots := 0, locals := 15 } : Room).cells ({ frames := 1, cells := 0, slots := 0, locals := 15 } : Room).slots) := by
  refine MetFree.of_bodySF (plainFor_of_name pn_1) hisR ?_
  intro p e s m args below meth c s₁ Bd hml0 hP hK
  obtain ⟨rfl, hZ, hh⟩ := hP
  have hx := Bd.exec
  have hby := Bd.bytes
  have hml : c.maxLocals = 5 := hml0
  have hown : s.vm.findClass "com/example/clearlot/clearlot/program/DisjointSets" = some m.cls := findClass_of_methodNamed Bd.named
  have hnm := (name_of_methodNamed Bd.named Bd.method).1
  have hlk : meth.locks = false := Bd.notSynchronized
  have X0 : Stand p l e ({ frames := 1, cells := 0, slots := 0, locals := 15 } : Room) s m #[(.ref a1), (.int (Int32.ofNat ca)), (.int (Int32.ofNat cb))] below meth c s₁ [] 0 0 := Stand.of_body Bd
  have e0 : s₁.heap = h0 := by rw [← hh, Bd.state]; rfl
  have NF := Fr.nil n0
  have KP : Keep h0 h0 [b1] := Keep.refl _ _
  refine own_fin (s := s) (Q := Q3 Z a1 b1 k1 ps ca cb h0 n0) (rc := ({ frames := 1, cells := 0, slots := 0, locals := 15 } : Room).cells) (rs := ({ frames := 1, cells := 0, slots := 0, locals := 15 } : Room).slots) ?_
  refine own_go (fun _ kt => castTop (ef_3 m a1 (Int32.ofNat ca) (Int32.ofNat cb)) kt) ?_
  show own_R _ _ _ _ (s₁.setTop (mkF m 0 #[.val (.ref a1), .val (.int (Int32.ofNat ca)), .val (.int (Int32.ofNat cb)), .unset, .unset] []))
  refine own_go (fun _ kt => XS.aloadN X0.here hx rfl (hb hby d3_0) rfl rfl kt) ?_
  show own_R _ _ _ _ (s₁.setTop (mkF m 1 #[.val (.ref a1), .val (.int (Int32.ofNat ca)), .val (.int (Int32.ofNat cb)), .unset, .unset] [(.ref a1)]))
  refine own_go (fun _ kt => XS.iloadN X0.here hx rfl (hb hby d3_1) rfl kt) ?_
  show own_R _ _ _ _ (s₁.setTop (mkF m 2 #[.val (.ref a1), .val (.int (Int32.ofNat ca)), .val (.int (Int32.ofNat cb)), .unset, .unset] [(.int (Int32.ofNat ca)), (.ref a1)]))
  obtain ⟨ok21, ok21', ok21''⟩ := own_f1 _ (own_enum hok) ⟨ca, hca⟩
  simp only at ok21 ok21' ok21''
  obtain ⟨cq20, kq20, q20a, q20b, q20c⟩ := isOf hZ e0 E_a1
  obtain ⟨_, _, ⟨T20, L20, k20, n20⟩, -, X20, ⟨Lc20, hQ20, l20, y20, z20⟩, st20⟩ := X0.virtualBack hx (y := (⟨"com/example/clearlot/clearlot/program/DisjointSets", "find", "(I)I"⟩ : MethodName)) (z := (⟨"com/example/clearlot/clearlot/program/DisjointSets", "find", "(I)I"⟩ : MethodName)) hown (mvT hZ (hw _ (List.mem_of_getElem? (i := 17) rfl))) (mvT hZ (hw _ (List.mem_of_getElem? (i := 18) rfl))) (notFace_of_selects (args := #[]) (mvT hZ (hw _ (List.mem_of_getElem? (i := 20) rfl)))) (mvT hZ (hw _ (List.mem_of_getElem? (i := 20) rfl))) (mvT hZ (hw _ (List.mem_of_getElem? (i := 19) rfl))) (by decide) (backOf (W := 0) (rm4 l Z a0 hw [] a1 b1 k1 ps ca h0 n0 ZS F_parent_a1 V_b1 g_b1 ne1 hok hca) hZ (hw _ (List.mem_of_getElem? (i := 21) rfl)) (hw _ (List.mem_of_getElem? (i := 3) rfl)) (by decide) (by decide)) q20a q20c (g := (mkF m 2 #[.val (.ref a1), .val (.int (Int32.ofNat ca)), .val (.int (Int32.ofNat cb)), .unset, .unset] [(.int (Int32.ofNat ca)), (.ref a1)])) rfl (by rw [hml]; rfl) (Steps.refl _) (argsL := [(.int (Int32.ofNat ca))]) (rest := []) (lenOf pd_0 rfl) rfl (by show 2 * 0 + _ ≤ _; exact Nat.le_of_eq rfl) (hb hby d3_2) (fun _ _ => ⟨rfl, e0, (by decide : 0 + 0 ≤ _), (by decide : 0 + 0 ≤ _)⟩)
  dsimp only [Pt.U, Pt.locs, Pt.cells, Pt.slots] at X20 l20 y20 z20 st20 hQ20
  subst l20 y20 z20
  obtain ⟨h20, e20'⟩ : ∃ z, z = T20.heap := ⟨_, rfl⟩
  rw [← e20'] at hQ20
  have e20 : T20.heap = h20 := e20'.symm
  obtain ⟨rfl, N20q, K20, pp1⟩ := hQ20
  have NF := Fr.app NF N20q
  refine own_go (fun _ kt => st20.trans kt) ?_
  have E_a1 := E_a1.keep K20
  have F_parent_a1 := F_parent_a1.keep K20 (ninS ne1 nin0)
  have ZS := Nat.le_trans ZS K20.1
  have KP := KP.trans K20 (allS (Or.inl (List.mem_of_getElem? (i := 0) rfl)) all0)
  have V_b1 := pp1
  show own_R _ _ _ _ (T20.setTop (mkF m 5 #[.val (.ref a1), .val (.int (Int32.ofNat ca)), .val (.int (Int32.ofNat cb)), .unset, .unset] [(.int (Int32.ofNat (own_fnd 4 ps ca).2))]))
  refine own_go (fun _ kt => XS.istoreN X20.here hx rfl (hb hby d3_5) rfl (l' := #[.val (.ref a1), .val (.int (Int32.ofNat ca)), .val (.int (Int32.ofNat cb)), .val (.int (Int32.ofNat (own_fnd 4 ps ca).2)), .unset]) rfl kt) ?_
  show own_R _ _ _ _ (T20.setTop (mkF m 6 #[.val (.ref a1), .val (.int (Int32.ofNat ca)), .val (.int (Int32.ofNat cb)), .val (.int (Int32.ofNat (own_fnd 4 ps ca).2)), .unset] []))
  refine own_go (fun _ kt => XS.aloadN X20.here hx rfl (hb hby d3_6) rfl rfl kt) ?_
  show own_R _ _ _ _ (T20.setTop (mkF m 7 #[.val (.ref a1), .val (.int (Int32.ofNat ca)), .val (.int (Int32.ofNat cb)), .val (.int (Int32.ofNat (own_fnd 4 ps ca).2)), .unset] [(.ref a1)]))
  refine own_go (fun _ kt => XS.iloadN X20.here hx rfl (hb hby d3_7) rfl kt) ?_
  show own_R _ _ _ _ (T20.setTop (mkF m 8 #[.val (.ref a1), .val (.int (Int32.ofNat ca)), .val (.int (Int32.ofNat cb)), .val (.int (Int32.ofNat (own_fnd 4 ps ca).2)), .unset] [(.int (Int32.ofNat cb)), (.ref a1)]))
  obtain ⟨ok22, ok22', ok22''⟩ := own_f1 _ (own_enum ok21) ⟨cb, hcb⟩
  simp only at ok22 ok22' ok22''
  obtain ⟨cq21, kq21, q21a, q21b, q21c⟩ := isOf hZ e20 E_a1
  obtain ⟨_, _, ⟨T21, L21, k21, n21⟩, -, X21, ⟨Lc21, hQ21, l21, y21, z21⟩, st21⟩ := X20.virtualBack hx (y := (⟨"com/example/clearlot/clearlot/program/DisjointSets", "find", "(I)I"⟩ : MethodName)) (z := (⟨"com/example/clearlot/clearlot/program/DisjointSets", "find", "(I)I"⟩ : MethodName)) hown (mvT hZ (hw _ (List.mem_of_getElem? (i := 17) rfl))) (mvT hZ (hw _ (List.mem_of_getElem? (i := 18) rfl))) (notFace_of_selects (args := #[]) (mvT hZ (hw _ (List.mem_of_getElem? (i := 20) rfl)))) (mvT hZ (hw _ (List.mem_of_getElem? (i := 20) rfl))) (mvT hZ (hw _ (List.mem_of_getElem? (i := 19) rfl))) (by decide) (backOf (W := 0) (rm4 l Z a0 hw [] a1 b1 k1 (own_fnd 4 ps ca).1 cb h20 n0 ZS F_parent_a1 V_b1 g_b1 ne1 ok21 hcb) hZ (hw _ (List.mem_of_getElem? (i := 21) rfl)) (hw _ (List.mem_of_getElem? (i := 3) rfl)) (by decide) (by decide)) q21a q21c (g := (mkF m 8 #[.val (.ref a1), .val (.int (Int32.ofNat ca)), .val (.int (Int32.ofNat cb)), .val (.int (Int32.ofNat (own_fnd 4 ps ca).2)), .unset] [(.int (Int32.ofNat cb)), (.ref a1)])) rfl (by rw [hml]; rfl) (Steps.refl _) (argsL := [(.int (Int32.ofNat cb))]) (rest := []) (lenOf pd_0 rfl) rfl (by show 2 * 0 + _ ≤ _; exact Nat.le_of_eq rfl) (hb hby d3_8) (fun _ _ => ⟨rfl, e20, (by decide : 0 + 0 ≤ _), (by decide : 0 + 0 ≤ _)⟩)
  dsimp only [Pt.U, Pt.locs, Pt.cells, Pt.slots] at X21 l21 y21 z21 st21 hQ21
  subst l21 y21 z21
  obtain ⟨h21, e21'⟩ : ∃ z, z = T21.heap := ⟨_, rfl⟩
  rw [← e21'] at hQ21
  have e21 : T21.heap = h21 := e21'.symm
  obtain ⟨rfl, N21q, K21, pp1⟩ := hQ21
  have NF := Fr.app NF N21q
  refine own_go (fun _ kt => st21.trans kt) ?_
  have E_a1 := E_a1.keep K21
  have F_parent_a1 := F_parent_a1.keep K21 (ninS ne1 nin0)
  have ZS := Nat.le_trans ZS K21.1
  have KP := KP.trans K21 (allS (Or.inl (List.mem_of_getElem? (i := 0) rfl)) all0)
  have V_b1 := pp1
  show own_R _ _ _ _ (T21.setTop (mkF m 11 #[.val (.ref a1), .val (.int (Int32.ofNat ca)), .val (.int (Int32.ofNat cb)), .val (.int (Int32.ofNat (own_fnd 4 ps ca).2)), .unset] [(.int (Int32.ofNat (own_fnd 4 (own_fnd 4 ps ca).1 cb).2))]))
  refine own_go (fun _ kt => XS.istore X21.here hx rfl (hb hby d3_11) rfl (l' := #[.val (.ref a1), .val (.int (Int32.ofNat ca)), .val (.int (Int32.ofNat cb)), .val (.int (Int32.ofNat (own_fnd 4 ps ca).2)), .val (.int (Int32.ofNat (own_fnd 4 (own_fnd 4 ps ca).1 cb).2))]) rfl kt) ?_
  show own_R _ _ _ _ (T21.setTop (mkF m 13 #[.val (.ref a1), .val (.int (Int32.ofNat ca)), .val (.int (Int32.ofNat cb)), .val (.int (Int32.ofNat (own_fnd 4 ps ca).2)), .val (.int (Int32.ofNat (own_fnd 4 (own_fnd 4 ps ca).1 cb).2))] []))
  refine own_go (fun _ kt => XS.iloadN X21.here hx rfl (hb hby d3_13) rfl kt) ?_
  show own_R _ _ _ _ (T21.setTop (mkF m 14 #[.val (.ref a1), .val (.int (Int32.ofNat ca)), .val (.int (Int32.ofNat cb)), .val (.int (Int32.ofNat (own_fnd 4 ps ca).2)), .val (.int (Int32.ofNat (own_fnd 4 (own_fnd 4 ps ca).1 cb).2))] [(.int (Int32.ofNat (own_fnd 4 ps ca).2))]))
  refine own_go (fun _ kt => XS.iload X21.here hx rfl (hb hby d3_14) rfl kt) ?_
  show own_R _ _ _ _ (T21.setTop (mkF m 16 #[.val (.ref a1), .val (.int (Int32.ofNat ca)), .val (.int (Int32.ofNat cb)), .val (.int (Int32.ofNat (own_fnd 4 ps ca).2)), .val (.int (Int32.ofNat (own_fnd 4 (own_fnd 4 ps ca).1 cb).2))] [(.int (Int32.ofNat (own_fnd 4 (own_fnd 4 ps ca).1 cb).2)), (.int (Int32.ofNat (own_fnd 4 ps ca).2))]))
  by_cases he : (own_fnd 4 ps ca).2 = (own_fnd 4 (own_fnd 4 ps ca).1 cb).2
  · refine own_go (fun _ kt => XS.icmpYes X21.here hx rfl (pc0 := 16) (pc' := 36) rfl (hb hby d3_16) rfl (teq (congrArg Int32.ofNat he)).1 (by decide) (by decide) kt) ?_
    show own_R _ _ _ _ (T21.setTop (mkF m 36 #[.val (.ref a1), .val (.int (Int32.ofNat ca)), .val (.int (Int32.ofNat cb)), .val (.int (Int32.ofNat (own_fnd 4 ps ca).2)), .val (.int (Int32.ofNat (own_fnd 4 (own_fnd 4 ps ca).1 cb).2))] []))
    exact own_ret0 X21 hx Bd.returns (hb hby d3_36) hlk (by rw [e21]; exact ⟨rfl, NF, KP, by rw [own_uni]; simp only [he, if_true]; exact V_b1⟩) (by decide) (by decide)
  · refine own_go (fun _ kt => XS.icmpNo X21.here hx rfl (hb hby d3_16) rfl (feq (fun q => he ((own_inj ok21' ok22').mp q))).1 kt) ?_
    show own_R _ _ _ _ (T21.setTop (mkF m 19 #[.val (.ref a1), .val (.int (Int32.ofNat ca)), .val (.int (Int32.ofNat cb)), .val (.int (Int32.ofNat (own_fnd 4 ps ca).2)), .val (.int (Int32.ofNat (own_fnd 4 (own_fnd 4 ps ca).1 cb).2))] []))
    obtain ⟨m1, m2, m3⟩ := own_mm ok21' ok22'
    have i3 := own_idx m3
    refine own_go (fun _ kt => XS.aloadN X21.here hx rfl (hb hby d3_19) rfl rfl kt) ?_
    show own_R _ _ _ _ (T21.setTop (mkF m 20 #[.val (.ref a1), .val (.int (Int32.ofNat ca)), .val (.int (Int32.ofNat cb)), .val (.int (Int32.ofNat (own_fnd 4 ps ca).2)), .val (.int (Int32.ofNat (own_fnd 4 (own_fnd 4 ps ca).1 cb).2))] [(.ref a1)]))
    obtain ⟨T22, X22, e22, st22⟩ := getF X21 hx hZ hown (host := "") (Or.inl (hw _ (List.mem_of_getElem? (i := 10) rfl))) Via.refl e21 F_parent_a1 (g := (mkF m 20 #[.val (.ref a1), .val (.int (Int32.ofNat ca)), .val (.int (Int32.ofNat cb)), .val (.int (Int32.ofNat (own_fnd 4 ps ca).2)), .val (.int (Int32.ofNat (own_fnd 4 (own_fnd 4 ps ca).1 cb).2))] [(.ref a1)])) rfl rfl (hb hby d3_20)
    refine own_go st22 ?_
    show own_R _ _ _ _ (T22.setTop (mkF m 23 #[.val (.ref a1), .val (.int (Int32.ofNat ca)), .val (.int (Int32.ofNat cb)), .val (.int (Int32.ofNat (own_fnd 4 ps ca).2)), .val (.int (Int32.ofNat (own_fnd 4 (own_fnd 4 ps ca).1 cb).2))] [(.ref b1)]))
    refine own_go (fun _ kt => XS.iloadN X22.here hx rfl (hb hby d3_23) rfl kt) ?_
    show own_R _ _ _ _ (T22.setTop (mkF m 24 #[.val (.ref a1), .val (.int (Int32.ofNat ca)), .val (.int (Int32.ofNat cb)), .val (.int (Int32.ofNat (own_fnd 4 ps ca).2)), .val (.int (Int32.ofNat (own_fnd 4 (own_fnd 4 ps ca).1 cb).2))] [(.int (Int32.ofNat (own_fnd 4 ps ca).2)), (.ref b1)]))
    refine own_go (fun _ kt => XS.iload X22.here hx rfl (hb hby d3_24) rfl kt) ?_
    show own_R _ _ _ _ (T22.setTop (mkF m 26 #[.val (.ref a1), .val (.int (Int32.ofNat ca)), .val (.int (Int32.ofNat cb)), .val (.int (Int32.ofNat (own_fnd 4 ps ca).2)), .val (.int (Int32.ofNat (own_fnd 4 (own_fnd 4 ps ca).1 cb).2))] [(.int (Int32.ofNat (own_fnd 4 (own_fnd 4 ps ca).1 cb).2)), (.int (Int32.ofNat (own_fnd 4 ps ca).2)), (.ref b1)]))
    obtain ⟨_, _, ⟨T23, L23, k23, n23⟩, -, X23, ⟨Lc23, hQ23, l23, y23, z23⟩, st23⟩ := Jvm.LawKit.callS X22 hx (y := (⟨"java/lang/Math", "max", "(II)I"⟩ : MethodName)) hown (mvT hZ (hw _ (List.mem_of_getElem? (i := 33) rfl))) (mvT hZ (hw _ (List.mem_of_getElem? (i := 31) rfl))) (mvT hZ (hw _ (List.mem_of_getElem? (i := 28) rfl))) (mvT hZ (hw _ (List.mem_of_getElem? (i := 32) rfl))) (by decide) (backOf (W := 1) (rm7 l Z a0 hw [] (Int32.ofNat (own_fnd 4 ps ca).2) (Int32.ofNat (own_fnd 4 (own_fnd 4 ps ca).1 cb).2) h21 n0 ZS) hZ (hw _ (List.mem_of_getElem? (i := 32) rfl)) (hw _ (List.mem_of_getElem? (i := 28) rfl)) (by decide) (by decide)) (g := (mkF m 26 #[.val (.ref a1), .val (.int (Int32.ofNat ca)), .val (.int (Int32.ofNat cb)), .val (.int (Int32.ofNat (own_fnd 4 ps ca).2)), .val (.int (Int32.ofNat (own_fnd 4 (own_fnd 4 ps ca).1 cb).2))] [(.int (Int32.ofNat (own_fnd 4 (own_fnd 4 ps ca).1 cb).2)), (.int (Int32.ofNat (own_fnd 4 ps ca).2)), (.ref b1)])) rfl (by rw [hml]; rfl) (argsL := [(.int (Int32.ofNat (own_fnd 4 ps ca).2)), (.int (Int32.ofNat (own_fnd 4 (own_fnd 4 ps ca).1 cb).2))]) (rest := [(.ref b1)]) (lenOf pd_1 rfl) rfl (by show 2 * 0 + _ ≤ _; exact Nat.le_of_eq rfl) (hb hby d3_26) (fun _ _ => ⟨rfl, e22, (by decide : 0 + 0 ≤ _), (by decide : 0 + 0 ≤ _)⟩)
    dsimp only [Pt.U, Pt.locs, Pt.cells, Pt.slots] at X23 l23 y23 z23 st23 hQ23
    subst l23 y23 z23
    obtain ⟨rfl, N23q, e23⟩ := hQ23
    have NF := Fr.app NF N23q
    refine own_go st23 ?_
    show own_R _ _ _ _ (T23.setTop (mkF m 29 #[.val (.ref a1), .val (.int (Int32.ofNat ca)), .val (.int (Int32.ofNat cb)), .val (.int (Int32.ofNat (own_fnd 4 ps ca).2)), .val (.int (Int32.ofNat (own_fnd 4 (own_fnd 4 ps ca).1 cb).2))] [(.int (own_max (Int32.ofNat (own_fnd 4 ps ca).2) (Int32.ofNat (own_fnd 4 (own_fnd 4 ps ca).1 cb).2))), (.ref b1)]))
    refine own_go (fun _ kt => XS.iloadN X23.here hx rfl (hb hby d3_29) rfl kt) ?_
    show own_R _ _ _ _ (T23.setTop (mkF m 30 #[.val (.ref a1), .val (.int (Int32.ofNat ca)), .val (.int (Int32.ofNat cb)), .val (.int (Int32.ofNat (own_fnd 4 ps ca).2)), .val (.int (Int32.ofNat (own_fnd 4 (own_fnd 4 ps ca).1 cb).2))] [(.int (Int32.ofNat (own_fnd 4 ps ca).2)), (.int (own_max (Int32.ofNat (own_fnd 4 ps ca).2) (Int32.ofNat (own_fnd 4 (own_fnd 4 ps ca).1 cb).2))), (.ref b1)]))
    refine own_go (fun _ kt => XS.iload X23.here hx rfl (hb hby d3_30) rfl kt) ?_
    show own_R _ _ _ _ (T23.setTop (mkF m 32 #[.val (.ref a1), .val (.int (Int32.ofNat ca)), .val (.int (Int32.ofNat cb)), .val (.int (Int32.ofNat (own_fnd 4 ps ca).2)), .val (.int (Int32.ofNat (own_fnd 4 (own_fnd 4 ps ca).1 cb).2))] [(.int (Int32.ofNat (own_fnd 4 (own_fnd 4 ps ca).1 cb).2)), (.int (Int32.ofNat (own_fnd 4 ps ca).2)), (.int (own_max (Int32.ofNat (own_fnd 4 ps ca).2) (Int32.ofNat (own_fnd 4 (own_fnd 4 ps ca).1 cb).2))), (.ref b1)]))
    obtain ⟨_, _, ⟨T24, L24, k24, n24⟩, -, X24, ⟨Lc24, hQ24, l24, y24, z24⟩, st24⟩ := Jvm.LawKit.callS X23 hx (y := (⟨"java/lang/Math", "min", "(II)I"⟩ : MethodName)) hown (mvT hZ (hw _ (List.mem_of_getElem? (i := 34) rfl))) (mvT hZ (hw _ (List.mem_of_getElem? (i := 27) rfl))) (mvT hZ (hw _ (List.mem_of_getElem? (i := 28) rfl))) (mvT hZ (hw _ (List.mem_of_getElem? (i := 29) rfl))) (by decide) (backOf (W := 2) (rm6 l Z a0 hw [] (Int32.ofNat (own_fnd 4 ps ca).2) (Int32.ofNat (own_fnd 4 (own_fnd 4 ps ca).1 cb).2) h21 n0 ZS) hZ (hw _ (List.mem_of_getElem? (i := 29) rfl)) (hw _ (List.mem_of_getElem? (i := 28) rfl)) (by decide) (by decide)) (g := (mkF m 32 #[.val (.ref a1), .val (.int (Int32.ofNat ca)), .val (.int (Int32.ofNat cb)), .val (.int (Int32.ofNat (own_fnd 4 ps ca).2)), .val (.int (Int32.ofNat (own_fnd 4 (own_fnd 4 ps ca).1 cb).2))] [(.int (Int32.ofNat (own_fnd 4 (own_fnd 4 ps ca).1 cb).2)), (.int (Int32.ofNat (own_fnd 4 ps ca).2)), (.int (own_max (Int32.ofNat (own_fnd 4 ps ca).2) (Int32.ofNat (own_fnd 4 (own_fnd 4 ps ca).1 cb).2))), (.ref b1)])) rfl (by rw [hml]; rfl) (argsL := [(.int (Int32.ofNat (own_fnd 4 ps ca).2)), (.int (Int32.ofNat (own_fnd 4 (own_fnd 4 ps ca).1 cb).2))]) (rest := [(.int (own_max (Int32.ofNat (own_fnd 4 ps ca).2) (Int32.ofNat (own_fnd 4 (own_fnd 4 ps ca).1 cb).2))), (.ref b1)]) (lenOf pd_1 rfl) rfl (by show 2 * 0 + _ ≤ _; exact Nat.le_of_eq rfl) (hb hby d3_32) (fun _ _ => ⟨rfl, e23, (by decide : 0 + 0 ≤ _), (by decide : 0 + 0 ≤ _)⟩)
    dsimp only [Pt.U, Pt.locs, Pt.cells, Pt.slots] at X24 l24 y24 z24 st24 hQ24
    subst l24 y24 z24
    obtain ⟨rfl, N24q, e24⟩ := hQ24
    have NF := Fr.app NF N24q
    refine own_go st24 ?_
    show own_R _ _ _ _ (T24.setTop (mkF m 35 #[.val (.ref a1), .val (.int (Int32.ofNat ca)), .val (.int (Int32.ofNat cb)), .val (.int (Int32.ofNat (own_fnd 4 ps ca).2)), .val (.int (Int32.ofNat (own_fnd 4 (own_fnd 4 ps ca).1 cb).2))] [(.int (own_min (Int32.ofNat (own_fnd 4 ps ca).2) (Int32.ofNat (own_fnd 4 (own_fnd 4 ps ca).1 cb).2))), (.int (own_max (Int32.ofNat (own_fnd 4 ps ca).2) (Int32.ofNat (own_fnd 4 (own_fnd 4 ps ca).1 cb).2))), (.ref b1)]))
    rw [m1, m2]
    show own_R _ _ _ _ (T24.setTop (mkF m 35 #[.val (.ref a1), .val (.int (Int32.ofNat ca)), .val (.int (Int32.ofNat cb)), .val (.int (Int32.ofNat (own_fnd 4 ps ca).2)), .val (.int (Int32.ofNat (own_fnd 4 (own_fnd 4 ps ca).1 cb).2))] [(.int (Int32.ofNat (Nat.min (own_fnd 4 ps ca).2 (own_fnd 4 (own_fnd 4 ps ca).1 cb).2))), (.int (Int32.ofNat (Nat.max (own_fnd 4 ps ca).2 (own_fnd 4 (own_fnd 4 ps ca).1 cb).2))), (.ref b1)]))
    obtain ⟨T25, h25, sl25, X25, e25, W25, V25, st25⟩ := own_stI X24 hx hZ e24 V_b1 (j := (Int32.ofNat (Nat.max (own_fnd 4 ps ca).2 (own_fnd 4 (own_fnd 4 ps ca).1 cb).2))) (i := (Nat.max (own_fnd 4 ps ca).2 (own_fnd 4 (own_fnd 4 ps ca).1 cb).2)) i3.1 i3.2 (by rw [List.length_map, ok22.1]; exact m3) rfl (g := (mkF m 35 #[.val (.ref a1), .val (.int (Int32.ofNat ca)), .val (.int (Int32.ofNat cb)), .val (.int (Int32.ofNat (own_fnd 4 ps ca).2)), .val (.int (Int32.ofNat (own_fnd 4 (own_fnd 4 ps ca).1 cb).2))] [(.int (Int32.ofNat (Nat.min (own_fnd 4 ps ca).2 (own_fnd 4 (own_fnd 4 ps ca).1 cb).2))), (.int (Int32.ofNat (Nat.max (own_fnd 4 ps ca).2 (own_fnd 4 (own_fnd 4 ps ca).1 cb).2))), (.ref b1)])) rfl rfl (hb hby d3_35)
    refine own_go st25 ?_
    have E_a1 := E_a1.wr W25
    have F_parent_a1 := F_parent_a1.other W25 (Or.inl ne1)
    have ZS := Nat.le_trans ZS (Keep.of_wr W25).1
    have KP := KP.wr W25 (Or.inl (List.mem_of_getElem? (i := 0) rfl))
    have NF := Fr.snoc X25 NF g_b1
    have V_b1 := V25
    show own_R _ _ _ _ (T25.setTop (mkF m 36 #[.val (.ref a1), .val (.int (Int32.ofNat ca)), .val (.int (Int32.ofNat cb)), .val (.int (Int32.ofNat (own_fnd 4 ps ca).2)), .val (.int (Int32.ofNat (own_fnd 4 (own_fnd 4 ps ca).1 cb).2))] []))
    exact own_ret0 X25 hx Bd.returns (hb hby d3_36) hlk (by rw [e25]; exact ⟨rfl, NF, KP, by rw [own_uni]; simp only [he, if_false, List.map_set]; exact V_b1⟩) (by decide) (by decide)
theorem d5_0 : decode method_2_code 0 = .ok (.aload_n 0, 1) := by decide +kernel
theorem d5_1 : decode method_2_code 1 = .ok (.iload_n 1, 1) := by decide +kernel
theorem d5_2 : decode method_2_code 2 = .ok (.iaload, 1) := by decide +kernel
theorem d5_3 : decode method_2_code 3 = .ok (.istore_n 3, 1) := by decide +kernel
theorem d5_4 : decode method_2_code 4 = .ok (.aload_n 0, 1) := by decide +kernel
theorem d5_5 : decode method_2_code 5 = .ok (.iload_n 2, 1) := by decide +kernel
theorem d5_6 : decode method_2_code 6 = .ok (.iaload, 1) := by decide +kernel
theorem d5_7 : decode method_2_code 7 = .ok (.istore 4, 2) := by decide +kernel
theorem d5_9 : decode method_2_code 9 = .ok (.iload_n 3, 1) := by decide +kernel
theorem d5_10 : decode method_2_code 10 = .ok (.iload 4, 2) := by decide +kernel
theorem d5_12 : decode method_2_code 12 = .ok (.invokestatic 7, 3) := by decide +kernel
theorem d5_15 : decode method_2_code 15 = .ok (.istore 5, 2) := by decide +kernel
theorem d5_17 : decode method_2_code 17 = .ok (.iload_n 3, 1) := by decide +kernel
theorem d5_18 : decode method_2_code 18 = .ok (.iload 4, 2) := by decide +kernel
theorem d5_20 : decode method_2_code 20 = .ok (.invokestatic 13, 3) := by decide +kernel
theorem d5_23 : decode method_2_code 23 = .ok (.istore 6, 2) := by decide +kernel
theorem d5_25 : decode method_2_code 25 = .ok (.aload_n 0, 1) := by decide +kernel
theorem d5_26 : decode method_2_code 26 = .ok (.iconst 0, 1) := by decide +kernel
theorem d5_27 : decode method_2_code 27 = .ok (.iaload, 1) := by decide +kernel
theorem d5_28 : decode method_2_code 28 = .ok (.iload 6, 2) := by decide +kernel
theorem d5_30 : decode method_2_code 30 = .ok (.if_icmp .ne 8, 3) := by decide +kernel
theorem d5_33 : decode method_2_code 33 = .ok (.aload_n 0, 1) := by decide +kernel
theorem d5_34 : decode method_2_code 34 = .ok (.iconst 0, 1) := by decide +kernel
theorem d5_35 : decode method_2_code 35 = .ok (.iload 5, 2) := by decide +kernel
theorem d5_37 : decode method_2_code 37 = .ok (.iastore, 1) := by decide +kernel
theorem d5_38 : decode method_2_code 38 = .ok (.aload_n 0, 1) := by decide +kernel
theorem d5_39 : decode method_2_code 39 = .ok (.iconst 1, 1) := by decide +kernel
theorem d5_40 : decode method_2_code 40 = .ok (.iaload, 1) := by decide +kernel
theorem d5_41 : decode method_2_code 41 = .ok (.iload 6, 2) := by decide +kernel
theorem d5_43 : decode method_2_code 43 = .ok (.if_icmp .ne 8, 3) := by decide +kernel
theorem d5_46 : decode method_2_code 46 = .ok (.aload_n 0, 1) := by decide +kernel
theorem d5_47 : decode method_2_code 47 = .ok (.iconst 1, 1) := by decide +kernel
theorem d5_48 : decode method_2_code 48 = .ok (.iload 5, 2) := by decide +kernel
theorem d5_50 : decode method_2_code 50 = .ok (.iastore, 1) := by decide +kernel
theorem d5_51 : decode method_2_code 51 = .ok (.aload_n 0, 1) := by decide +kernel
theorem d5_52 : decode method_2_code 52 = .ok (.iconst 2, 1) := by decide +kernel
theorem d5_53 : decode method_2_code 53 = .ok (.iaload, 1) := by decide +kernel
theorem d5_54 : decode method_2_code 54 = .ok (.iload 6, 2) := by decide +kernel
theorem d5_56 : decode method_2_code 56 = .ok (.if_icmp .ne 8, 3) := by decide +kernel
theorem d5_59 : decode method_2_code 59 = .ok (.aload_n 0, 1) := by decide +kernel
theorem d5_60 : decode method_2_code 60 = .ok (.iconst 2, 1) := by decide +kernel
theorem d5_61 : decode method_2_code 61 = .ok (.iload 5, 2) := by decide +kernel
theorem d5_63 : decode method_2_code 63 = .ok (.iastore, 1) := by decide +kernel
theorem d5_64 : decode method_2_code 64 = .ok (.aload_n 0, 1) := by decide +kernel
theorem d5_65 : decode method_2_code 65 = .ok (.iconst 3, 1) := by decide +kernel
theorem d5_66 : decode method_2_code 66 = .ok (.iaload, 1) := by decide +kernel
theorem d5_67 : decode method_2_code 67 = .ok (.iload 6, 2) := by decide +kernel
theorem d5_69 : decode method_2_code 69 = .ok (.if_icmp .ne 8, 3) := by decide +kernel
theorem d5_72 : decode method_2_code 72 = .ok (.aload_n 0, 1) := by decide +kernel
theorem d5_73 : decode method_2_code 73 = .ok (.iconst 3, 1) := by decide +kernel
theorem d5_74 : decode method_2_code 74 = .ok (.iload 5, 2) := by decide +kernel
theorem d5_76 : decode method_2_code 76 = .ok (.iastore, 1) := by decide +kernel
theorem d5_77 : decode method_2_code 77 = .ok (.return_, 1) := by decide +kernel
theorem pn_5 : plainName "com/example/clearlot/clearlot/program/DisjointSetsFindPinLaw" = true := by first | (simp [plainName, overriddenIn]; done) | decide +kernel
theorem ef_5 (m : MethodId) (x0 : Addr) (x1 : Int32) (x2 : Int32) : entryFrame m #[(.ref x0), (.int x1), (.int x2)] 7 = mkF m 0 #[.val (.ref x0), .val (.int x1), .val (.int x2), .unset, .unset, .unset, .unset] [] := by first | (simp [entryFrame, mkF, argsToLocals, Value.category]; done) | rfl
def Q5 (Z : State) (a1 : Addr) (k1 : ClassId) (x0 : Int32) (x1 : Int32) (x2 : Int32) (x3 : Int32) (ca : Nat) (cb : Nat) (h0 : Heap) (n0 : Nat) (v : Option Value) (h : Heap) (L : List Loc) : Prop := v = none ∧ Fr n0 L ∧ Keep h0 h [a1] ∧ Arv Z h a1 k1 .int (4 : Int32) ((own_mrg [x0, x1, x2, x3] ca cb).map own_W) (.int (0 : Int32))
set_option maxRecDepth 65536 in
set_option maxHeartbeats 40000000 in
theorem rm5 (l : Launch) (Z : State) (a0 : Array Value) (hw : ∀ d ∈ tables_1, d.before a0 Z = true) (ws : List Jvm.Cond) (a1 : Addr) (k1 : ClassId) (x0 : Int32) (x1 : Int32) (x2 : Int32) (x3 : Int32) (ca : Nat) (cb : Nat) (h0 : Heap) (n0 : Nat) (ZS : n0 ≤ h0.size) (V_a1 : Arv Z h0 a1 k1 .int (4 : Int32) [(.int x0), (.int x1), (.int x2), (.int x3)] (.int (0 : Int32))) (g_a1 : n0 ≤ a1) (hca : ca < 4) (hcb : cb < 4) :
    MetFree l (⟨"com/example/clearlot/clearlot/program/DisjointSetsFindPinLaw", "merge", "([III)V"⟩ : MethodName) (head1 (Jvm.Cond.code (⟨"com/example/clearlot/clearlot/program/DisjointSetsFindPinLaw", "merge", "([III)V"⟩ : MethodName) method_2_code 7 none :: ws) ({ frames := 1, cells := 0, slots := 0, locals := 13 } : Room)) (fun a U => a = #[(.ref a1), (.int (Int32.ofNat ca)), (.int (Int32.ofNat cb))] ∧ Z.Warmed39 U.vm ∧ U.heap = h0) (fun _ _ _ _ _ => True) (fun _ U o U' => ∃ v L, o = .returned v ∧ Q5 Z a1 k1 x0 x1 x2 x3 ca cb h0 n0 v U'.heap L ∧ FrameEnd U o U' L ({ frames := 1, cells := 0, slots := 0, locals := 13 } : Room).cells ({ frames := 1, cells := 0, slots := 0, locals := 13 } : Room).slots) := by
  refine MetFree.of_bodySF (plainFor_of_name pn_5) hisR ?_
  intro p e s m args below meth c s₁ Bd hml0 hP hK
  obtain ⟨rfl, hZ, hh⟩ := hP
  have hx := Bd.exec
  have hby := Bd.bytes
  have hml : c.maxLocals = 7 := hml0
  have hown : s.vm.findClass "com/example/clearlot/clearlot/program/DisjointSetsFindPinLaw" = some m.cls := findClass_of_methodNamed Bd.named
  have hnm := (name_of_methodNamed Bd.named Bd.method).1
  have hlk : meth.locks = false := Bd.notSynchronized
  have X0 : Stand p l e ({ frames := 1, cells := 0, slots := 0, locals := 13 } : Room) s m #[(.ref a1), (.int (Int32.ofNat ca)), (.int (Int32.ofNat cb))] below meth c s₁ [] 0 0 := Stand.of_body Bd
  have e0 : s₁.heap = h0 := by rw [← hh, Bd.state]; rfl
  have NF := Fr.nil n0
  have KP : Keep h0 h0 [a1] := Keep.refl _ _
  refine own_fin (s := s) (Q := Q5 Z a1 k1 x0 x1 x2 x3 ca cb h0 n0) (rc := ({ frames := 1, cells := 0, slots := 0, locals := 13 } : Room).cells) (rs := ({ frames := 1, cells := 0, slots := 0, locals := 13 } : Room).slots) ?_
  refine own_go (fun _ kt => castTop (ef_5 m a1 (Int32.ofNat ca) (Int32.ofNat cb)) kt) ?_
  show own_R _ _ _ _ (s₁.setTop (mkF m 0 #[.val (.ref a1), .val (.int (Int32.ofNat ca)), .val (.int (Int32.ofNat cb)), .unset, .unset, .unset, .unset] []))
  have i1 := own_idx hca
  have i2 := own_idx hcb
  show own_R _ _ _ _ (s₁.setTop (mkF m 0 #[.val (.ref a1), .val (.int (Int32.ofNat ca)), .val (.int (Int32.ofNat cb)), .unset, .unset, .unset, .unset] []))
  refine own_go (fun _ kt => XS.aloadN X0.here hx rfl (hb hby d5_0) rfl rfl kt) ?_
  show own_R _ _ _ _ (s₁.setTop (mkF m 1 #[.val (.ref a1), .val (.int (Int32.ofNat ca)), .val (.int (Int32.ofNat cb)), .unset, .unset, .unset, .unset] [(.ref a1)]))
  refine own_go (fun _ kt => XS.iloadN X0.here hx rfl (hb hby d5_1) rfl kt) ?_
  show own_R _ _ _ _ (s₁.setTop (mkF m 2 #[.val (.ref a1), .val (.int (Int32.ofNat ca)), .val (.int (Int32.ofNat cb)), .unset, .unset, .unset, .unset] [(.int (Int32.ofNat ca)), (.ref a1)]))
  refine own_go (own_ldI X0 hx hZ e0 V_a1 (j := (Int32.ofNat ca)) (i := ca) i1.1 i1.2 (v := (.int ([x0, x1, x2, x3].getD ca 0))) (own_atW [x0, x1, x2, x3] _) (g := (mkF m 2 #[.val (.ref a1), .val (.int (Int32.ofNat ca)), .val (.int (Int32.ofNat cb)), .unset, .unset, .unset, .unset] [(.int (Int32.ofNat ca)), (.ref a1)])) rfl rfl (hb hby d5_2)) ?_
  show own_R _ _ _ _ (s₁.setTop (mkF m 3 #[.val (.ref a1), .val (.int (Int32.ofNat ca)), .val (.int (Int32.ofNat cb)), .unset, .unset, .unset, .unset] [(.int ([x0, x1, x2, x3].getD ca 0))]))
  refine own_go (fun _ kt => XS.istoreN X0.here hx rfl (hb hby d5_3) rfl (l' := #[.val (.ref a1), .val (.int (Int32.ofNat ca)), .val (.int (Int32.ofNat cb)), .val (.int ([x0, x1, x2, x3].getD ca 0)), .unset, .unset, .unset]) rfl kt) ?_
  show own_R _ _ _ _ (s₁.setTop (mkF m 4 #[.val (.ref a1), .val (.int (Int32.ofNat ca)), .val (.int (Int32.ofNat cb)), .val (.int ([x0, x1, x2, x3].getD ca 0)), .unset, .unset, .unset] []))
  refine own_go (fun _ kt => XS.aloadN X0.here hx rfl (hb hby d5_4) rfl rfl kt) ?_
  show own_R _ _ _ _ (s₁.setTop (mkF m 5 #[.val (.ref a1), .val (.int (Int32.ofNat ca)), .val (.int (Int32.ofNat cb)), .val (.int ([x0, x1, x2, x3].getD ca 0)), .unset, .unset, .unset] [(.ref a1)]))
  refine own_go (fun _ kt => XS.iloadN X0.here hx rfl (hb hby d5_5) rfl kt) ?_
  show own_R _ _ _ _ (s₁.setTop (mkF m 6 #[.val (.ref a1), .val (.int (Int32.ofNat ca)), .val (.int (Int32.ofNat cb)), .val (.int ([x0, x1, x2, x3].getD ca 0)), .unset, .unset, .unset] [(.int (Int32.ofNat cb)), (.ref a1)]))
  refine own_go (own_ldI X0 hx hZ e0 V_a1 (j := (Int32.ofNat cb)) (i := cb) i2.1 i2.2 (v := (.int ([x0, x1, x2, x3].getD cb 0))) (own_atW [x0, x1, x2, x3] _) (g := (mkF m 6 #[.val (.ref a1), .val (.int (Int32.ofNat ca)), .val (.int (Int32.ofNat cb)), .val (.int ([x0, x1, x2, x3].getD ca 0)), .unset, .unset, .unset] [(.int (Int32.ofNat cb)), (.ref a1)])) rfl rfl (hb hby d5_6)) ?_
  show own_R _ _ _ _ (s₁.setTop (mkF m 7 #[.val (.ref a1), .val (.int (Int32.ofNat ca)), .val (.int (Int32.ofNat cb)), .val (.int ([x0, x1, x2, x3].getD ca 0)), .unset, .unset, .unset] [(.int ([x0, x1, x2, x3].getD cb 0))]))
  refine own_go (fun _ kt => XS.istore X0.here hx rfl (hb hby d5_7) rfl (l' := #[.val (.ref a1), .val (.int (Int32.ofNat ca)), .val (.int (Int32.ofNat cb)), .val (.int ([x0, x1, x2, x3].getD ca 0)), .val (.int ([x0, x1, x2, x3].getD cb 0)), .unset, .unset]) rfl kt) ?_
  show own_R _ _ _ _ (s₁.setTop (mkF m 9 #[.val (.ref a1), .val (.int (Int32.ofNat ca)), .val (.int (Int32.ofNat cb)), .val (.int ([x0, x1, x2, x3].getD ca 0)), .val (.int ([x0, x1, x2, x3].getD cb 0)), .unset, .unset] []))
  refine own_go (fun _ kt => XS.iloadN X0.here hx rfl (hb hby d5_9) rfl kt) ?_
  show own_R _ _ _ _ (s₁.setTop (mkF m 10 #[.val (.ref a1), .val (.int (Int32.ofNat ca)), .val (.int (Int32.ofNat cb)), .val (.int ([x0, x1, x2, x3].getD ca 0)), .val (.int ([x0, x1, x2, x3].getD cb 0)), .unset, .unset] [(.int ([x0, x1, x2, x3].getD ca 0))]))
  refine own_go (fun _ kt => XS.iload X0.here hx rfl (hb hby d5_10) rfl kt) ?_
  show own_R _ _ _ _ (s₁.setTop (mkF m 12 #[.val (.ref a1), .val (.int (Int32.ofNat ca)), .val (.int (Int32.ofNat cb)), .val (.int ([x0, x1, x2, x3].getD ca 0)), .val (.int ([x0, x1, x2, x3].getD cb 0)), .unset, .unset] [(.int ([x0, x1, x2, x3].getD cb 0)), (.int ([x0, x1, x2, x3].getD ca 0))]))
  obtain ⟨_, _, ⟨T26, L26, k26, n26⟩, -, X26, ⟨Lc26, hQ26, l26, y26, z26⟩, st26⟩ := Jvm.LawKit.callS X0 hx (y := (⟨"java/lang/Math", "min", "(II)I"⟩ : MethodName)) hown (mvT hZ (hw _ (List.mem_of_getElem? (i := 26) rfl))) (mvT hZ (hw _ (List.mem_of_getElem? (i := 27) rfl))) (mvT hZ (hw _ (List.mem_of_getElem? (i := 28) rfl))) (mvT hZ (hw _ (List.mem_of_getElem? (i := 29) rfl))) (by decide) (backOf (W := 0) (rm6 l Z a0 hw [] ([x0, x1, x2, x3].getD ca 0) ([x0, x1, x2, x3].getD cb 0) h0 n0 ZS) hZ (hw _ (List.mem_of_getElem? (i := 29) rfl)) (hw _ (List.mem_of_getElem? (i := 28) rfl)) (by decide) (by decide)) (g := (mkF m 12 #[.val (.ref a1), .val (.int (Int32.ofNat ca)), .val (.int (Int32.ofNat cb)), .val (.int ([x0, x1, x2, x3].getD ca 0)), .val (.int ([x0, x1, x2, x3].getD cb 0)), .unset, .unset] [(.int ([x0, x1, x2, x3].getD cb 0)), (.int ([x0, x1, x2, x3].getD ca 0))])) rfl (by rw [hml]; rfl) (argsL := [(.int ([x0, x1, x2, x3].getD ca 0)), (.int ([x0, x1, x2, x3].getD cb 0))]) (rest := []) (lenOf pd_1 rfl) rfl (by show 2 * 0 + _ ≤ _; exact Nat.le_of_eq rfl) (hb hby d5_12) (fun _ _ => ⟨rfl, e0, (by decide : 0 + 0 ≤ _), (by decide : 0 + 0 ≤ _)⟩)
  dsimp only [Pt.U, Pt.locs, Pt.cells, Pt.slots] at X26 l26 y26 z26 st26 hQ26
  subst l26 y26 z26
  obtain ⟨rfl, N26q, e26⟩ := hQ26
  have NF := Fr.app NF N26q
  refine own_go st26 ?_
  show own_R _ _ _ _ (T26.setTop (mkF m 15 #[.val (.ref a1), .val (.int (Int32.ofNat ca)), .val (.int (Int32.ofNat cb)), .val (.int ([x0, x1, x2, x3].getD ca 0)), .val (.int ([x0, x1, x2, x3].getD cb 0)), .unset, .unset] [(.int (own_min ([x0, x1, x2, x3].getD ca 0) ([x0, x1, x2, x3].getD cb 0)))]))
  refine own_go (fun _ kt => XS.istore X26.here hx rfl (hb hby d5_15) rfl (l' := #[.val (.ref a1), .val (.int (Int32.ofNat ca)), .val (.int (Int32.ofNat cb)), .val (.int ([x0, x1, x2, x3].getD ca 0)), .val (.int ([x0, x1, x2, x3].getD cb 0)), .val (.int (own_min ([x0, x1, x2, x3].getD ca 0) ([x0, x1, x2, x3].getD cb 0))), .unset]) rfl kt) ?_
  show own_R _ _ _ _ (T26.setTop (mkF m 17 #[.val (.ref a1), .val (.int (Int32.ofNat ca)), .val (.int (Int32.ofNat cb)), .val (.int ([x0, x1, x2, x3].getD ca 0)), .val (.int ([x0, x1, x2, x3].getD cb 0)), .val (.int (own_min ([x0, x1, x2, x3].getD ca 0) ([x0, x1, x2, x3].getD cb 0))), .unset] []))
  refine own_go (fun _ kt => XS.iloadN X26.here hx rfl (hb hby d5_17) rfl kt) ?_
  show own_R _ _ _ _ (T26.setTop (mkF m 18 #[.val (.ref a1), .val (.int (Int32.ofNat ca)), .val (.int (Int32.ofNat cb)), .val (.int ([x0, x1, x2, x3].getD ca 0)), .val (.int ([x0, x1, x2, x3].getD cb 0)), .val (.int (own_min ([x0, x1, x2, x3].getD ca 0) ([x0, x1, x2, x3].getD cb 0))), .unset] [(.int ([x0, x1, x2, x3].getD ca 0))]))
  refine own_go (fun _ kt => XS.iload X26.here hx rfl (hb hby d5_18) rfl kt) ?_
  show own_R _ _ _ _ (T26.setTop (mkF m 20 #[.val (.ref a1), .val (.int (Int32.ofNat ca)), .val (.int (Int32.ofNat cb)), .val (.int ([x0, x1, x2, x3].getD ca 0)), .val (.int ([x0, x1, x2, x3].getD cb 0)), .val (.int (own_min ([x0, x1, x2, x3].getD ca 0) ([x0, x1, x2, x3].getD cb 0))), .unset] [(.int ([x0, x1, x2, x3].getD cb 0)), (.int ([x0, x1, x2, x3].getD ca 0))]))
  obtain ⟨_, _, ⟨T27, L27, k27, n27⟩, -, X27, ⟨Lc27, hQ27, l27, y27, z27⟩, st27⟩ := Jvm.LawKit.callS X26 hx (y := (⟨"java/lang/Math", "max", "(II)I"⟩ : MethodName)) hown (mvT hZ (hw _ (List.mem_of_getElem? (i := 30) rfl))) (mvT hZ (hw _ (List.mem_of_getElem? (i := 31) rfl))) (mvT hZ (hw _ (List.mem_of_getElem? (i := 28) rfl))) (mvT hZ (hw _ (List.mem_of_getElem? (i := 32) rfl))) (by decide) (backOf (W := 0) (rm7 l Z a0 hw [] ([x0, x1, x2, x3].getD ca 0) ([x0, x1, x2, x3].getD cb 0) h0 n0 ZS) hZ (hw _ (List.mem_of_getElem? (i := 32) rfl)) (hw _ (List.mem_of_getElem? (i := 28) rfl)) (by decide) (by decide)) (g := (mkF m 20 #[.val (.ref a1), .val (.int (Int32.ofNat ca)), .val (.int (Int32.ofNat cb)), .val (.int ([x0, x1, x2, x3].getD ca 0)), .val (.int ([x0, x1, x2, x3].getD cb 0)), .val (.int (own_min ([x0, x1, x2, x3].getD ca 0) ([x0, x1, x2, x3].getD cb 0))), .unset] [(.int ([x0, x1, x2, x3].getD cb 0)), (.int ([x0, x1, x2, x3].getD ca 0))])) rfl (by rw [hml]; rfl) (argsL := [(.int ([x0, x1, x2, x3].getD ca 0)), (.int ([x0, x1, x2, x3].getD cb 0))]) (rest := []) (lenOf pd_1 rfl) rfl (by show 2 * 0 + _ ≤ _; exact Nat.le_of_eq rfl) (hb hby d5_20) (fun _ _ => ⟨rfl, e26, (by decide : 0 + 0 ≤ _), (by decide : 0 + 0 ≤ _)⟩)
  dsimp only [Pt.U, Pt.locs, Pt.cells, Pt.slots] at X27 l27 y27 z27 st27 hQ27
  subst l27 y27 z27
  obtain ⟨rfl, N27q, e27⟩ := hQ27
  have NF := Fr.app NF N27q
  refine own_go st27 ?_
  show own_R _ _ _ _ (T27.setTop (mkF m 23 #[.val (.ref a1), .val (.int (Int32.ofNat ca)), .val (.int (Int32.ofNat cb)), .val (.int ([x0, x1, x2, x3].getD ca 0)), .val (.int ([x0, x1, x2, x3].getD cb 0)), .val (.int (own_min ([x0, x1, x2, x3].getD ca 0) ([x0, x1, x2, x3].getD cb 0))), .unset] [(.int (own_max ([x0, x1, x2, x3].getD ca 0) ([x0, x1, x2, x3].getD cb 0)))]))
  refine own_go (fun _ kt => XS.istore X27.here hx rfl (hb hby d5_23) rfl (l' := #[.val (.ref a1), .val (.int (Int32.ofNat ca)), .val (.int (Int32.ofNat cb)), .val (.int ([x0, x1, x2, x3].getD ca 0)), .val (.int ([x0, x1, x2, x3].getD cb 0)), .val (.int (own_min ([x0, x1, x2, x3].getD ca 0) ([x0, x1, x2, x3].getD cb 0))), .val (.int (own_max ([x0, x1, x2, x3].getD ca 0) ([x0, x1, x2, x3].getD cb 0)))]) rfl kt) ?_
  show own_R _ _ _ _ (T27.setTop (mkF m 25 #[.val (.ref a1), .val (.int (Int32.ofNat ca)), .val (.int (Int32.ofNat cb)), .val (.int ([x0, x1, x2, x3].getD ca 0)), .val (.int ([x0, x1, x2, x3].getD cb 0)), .val (.int (own_min ([x0, x1, x2, x3].getD ca 0) ([x0, x1, x2, x3].getD cb 0))), .val (.int (own_max ([x0, x1, x2, x3].getD ca 0) ([x0, x1, x2, x3].getD cb 0)))] []))
  generalize hhi : (own_max ([x0, x1, x2, x3].getD ca 0) ([x0, x1, x2, x3].getD cb 0)) = hi
  show own_R _ _ _ _ (T27.setTop (mkF m 25 #[.val (.ref a1), .val (.int (Int32.ofNat ca)), .val (.int (Int32.ofNat cb)), .val (.int ([x0, x1, x2, x3].getD ca 0)), .val (.int ([x0, x1, x2, x3].getD cb 0)), .val (.int (own_min ([x0, x1, x2, x3].getD ca 0) ([x0, x1, x2, x3].getD cb 0))), .val (.int hi)] []))
  generalize hlo : (own_min ([x0, x1, x2, x3].getD ca 0) ([x0, x1, x2, x3].getD cb 0)) = lo
  show own_R _ _ _ _ (T27.setTop (mkF m 25 #[.val (.ref a1), .val (.int (Int32.ofNat ca)), .val (.int (Int32.ofNat cb)), .val (.int ([x0, x1, x2, x3].getD ca 0)), .val (.int ([x0, x1, x2, x3].getD cb 0)), .val (.int lo), .val (.int hi)] []))
  refine own_go (fun _ kt => XS.aloadN X27.here hx rfl (hb hby d5_25) rfl rfl kt) ?_
  show own_R _ _ _ _ (T27.setTop (mkF m 26 #[.val (.ref a1), .val (.int (Int32.ofNat ca)), .val (.int (Int32.ofNat cb)), .val (.int ([x0, x1, x2, x3].getD ca 0)), .val (.int ([x0, x1, x2, x3].getD cb 0)), .val (.int lo), .val (.int hi)] [(.ref a1)]))
  refine own_go (fun _ kt => XS.iconst X27.here hx rfl (hb hby d5_26) kt) ?_
  show own_R _ _ _ _ (T27.setTop (mkF m 27 #[.val (.ref a1), .val (.int (Int32.ofNat ca)), .val (.int (Int32.ofNat cb)), .val (.int ([x0, x1, x2, x3].getD ca 0)), .val (.int ([x0, x1, x2, x3].getD cb 0)), .val (.int lo), .val (.int hi)] [(.int (0 : Int32)), (.ref a1)]))
  refine own_go (own_ldI X27 hx hZ e27 V_a1 (j := (0 : Int32)) (i := 0) ⟨by decide, by decide⟩ rfl (v := (.int x0)) rfl (g := (mkF m 27 #[.val (.ref a1), .val (.int (Int32.ofNat ca)), .val (.int (Int32.ofNat cb)), .val (.int ([x0, x1, x2, x3].getD ca 0)), .val (.int ([x0, x1, x2, x3].getD cb 0)), .val (.int lo), .val (.int hi)] [(.int (0 : Int32)), (.ref a1)])) rfl rfl (hb hby d5_27)) ?_
  show own_R _ _ _ _ (T27.setTop (mkF m 28 #[.val (.ref a1), .val (.int (Int32.ofNat ca)), .val (.int (Int32.ofNat cb)), .val (.int ([x0, x1, x2, x3].getD ca 0)), .val (.int ([x0, x1, x2, x3].getD cb 0)), .val (.int lo), .val (.int hi)] [(.int x0)]))
  refine own_go (fun _ kt => XS.iload X27.here hx rfl (hb hby d5_28) rfl kt) ?_
  show own_R _ _ _ _ (T27.setTop (mkF m 30 #[.val (.ref a1), .val (.int (Int32.ofNat ca)), .val (.int (Int32.ofNat cb)), .val (.int ([x0, x1, x2, x3].getD ca 0)), .val (.int ([x0, x1, x2, x3].getD cb 0)), .val (.int lo), .val (.int hi)] [(.int hi), (.int x0)]))
  by_cases hc28 : x0 = hi
  · refine own_go (fun _ kt => XS.icmpNo X27.here hx rfl (hb hby d5_30) rfl (teq hc28).2 kt) ?_
    show own_R _ _ _ _ (T27.setTop (mkF m 33 #[.val (.ref a1), .val (.int (Int32.ofNat ca)), .val (.int (Int32.ofNat cb)), .val (.int ([x0, x1, x2, x3].getD ca 0)), .val (.int ([x0, x1, x2, x3].getD cb 0)), .val (.int lo), .val (.int hi)] []))
    refine own_go (fun _ kt => XS.aloadN X27.here hx rfl (hb hby d5_33) rfl rfl kt) ?_
    show own_R _ _ _ _ (T27.setTop (mkF m 34 #[.val (.ref a1), .val (.int (Int32.ofNat ca)), .val (.int (Int32.ofNat cb)), .val (.int ([x0, x1, x2, x3].getD ca 0)), .val (.int ([x0, x1, x2, x3].getD cb 0)), .val (.int lo), .val (.int hi)] [(.ref a1)]))
    refine own_go (fun _ kt => XS.iconst X27.here hx rfl (hb hby d5_34) kt) ?_
    show own_R _ _ _ _ (T27.setTop (mkF m 35 #[.val (.ref a1), .val (.int (Int32.ofNat ca)), .val (.int (Int32.ofNat cb)), .val (.int ([x0, x1, x2, x3].getD ca 0)), .val (.int ([x0, x1, x2, x3].getD cb 0)), .val (.int lo), .val (.int hi)] [(.int (0 : Int32)), (.ref a1)]))
    refine own_go (fun _ kt => XS.iload X27.here hx rfl (hb hby d5_35) rfl kt) ?_
    show own_R _ _ _ _ (T27.setTop (mkF m 37 #[.val (.ref a1), .val (.int (Int32.ofNat ca)), .val (.int (Int32.ofNat cb)), .val (.int ([x0, x1, x2, x3].getD ca 0)), .val (.int ([x0, x1, x2, x3].getD cb 0)), .val (.int lo), .val (.int hi)] [(.int lo), (.int (0 : Int32)), (.ref a1)]))
    obtain ⟨T29, h29, sl29, X29, e29, W29, V29, st29⟩ := own_stI X27 hx hZ e27 V_a1 (j := (0 : Int32)) (i := 0) ⟨by decide, by decide⟩ rfl (Nat.le_of_ble_eq_true rfl) rfl (g := (mkF m 37 #[.val (.ref a1), .val (.int (Int32.ofNat ca)), .val (.int (Int32.ofNat cb)), .val (.int ([x0, x1, x2, x3].getD ca 0)), .val (.int ([x0, x1, x2, x3].getD cb 0)), .val (.int lo), .val (.int hi)] [(.int lo), (.int (0 : Int32)), (.ref a1)])) rfl rfl (hb hby d5_37)
    refine own_go st29 ?_
    have ZS := Nat.le_trans ZS (Keep.of_wr W29).1
    have KP := KP.wr W29 (Or.inl (List.mem_of_getElem? (i := 0) rfl))
    have NF := Fr.snoc X29 NF g_a1
    have V_a1 : Arv Z h29 a1 k1 .int (4 : Int32) [(.int lo), (.int x1), (.int x2), (.int x3)] (.int (0 : Int32)) := V29
    show own_R _ _ _ _ (T29.setTop (mkF m 38 #[.val (.ref a1), .val (.int (Int32.ofNat ca)), .val (.int (Int32.ofNat cb)), .val (.int ([x0, x1, x2, x3].getD ca 0)), .val (.int ([x0, x1, x2, x3].getD cb 0)), .val (.int lo), .val (.int hi)] []))
    refine own_go (fun _ kt => XS.aloadN X29.here hx rfl (hb hby d5_38) rfl rfl kt) ?_
    show own_R _ _ _ _ (T29.setTop (mkF m 39 #[.val (.ref a1), .val (.int (Int32.ofNat ca)), .val (.int (Int32.ofNat cb)), .val (.int ([x0, x1, x2, x3].getD ca 0)), .val (.int ([x0, x1, x2, x3].getD cb 0)), .val (.int lo), .val (.int hi)] [(.ref a1)]))
    refine own_go (fun _ kt => XS.iconst X29.here hx rfl (hb hby d5_39) kt) ?_
    show own_R _ _ _ _ (T29.setTop (mkF m 40 #[.val (.ref a1), .val (.int (Int32.ofNat ca)), .val (.int (Int32.ofNat cb)), .val (.int ([x0, x1, x2, x3].getD ca 0)), .val (.int ([x0, x1, x2, x3].getD cb 0)), .val (.int lo), .val (.int hi)] [(.int (1 : Int32)), (.ref a1)]))
    refine own_go (own_ldI X29 hx hZ e29 V_a1 (j := (1 : Int32)) (i := 1) ⟨by decide, by decide⟩ rfl (v := (.int x1)) rfl (g := (mkF m 40 #[.val (.ref a1), .val (.int (Int32.ofNat ca)), .val (.int (Int32.ofNat cb)), .val (.int ([x0, x1, x2, x3].getD ca 0)), .val (.int ([x0, x1, x2, x3].getD cb 0)), .val (.int lo), .val (.int hi)] [(.int (1 : Int32)), (.ref a1)])) rfl rfl (hb hby d5_40)) ?_
    show own_R _ _ _ _ (T29.setTop (mkF m 41 #[.val (.ref a1), .val (.int (Int32.ofNat ca)), .val (.int (Int32.ofNat cb)), .val (.int ([x0, x1, x2, x3].getD ca 0)), .val (.int ([x0, x1, x2, x3].getD cb 0)), .val (.int lo), .val (.int hi)] [(.int x1)]))
    refine own_go (fun _ kt => XS.iload X29.here hx rfl (hb hby d5_41) rfl kt) ?_
    show own_R _ _ _ _ (T29.setTop (mkF m 43 #[.val (.ref a1), .val (.int (Int32.ofNat ca)), .val (.int (Int32.ofNat cb)), .val (.int ([x0, x1, x2, x3].getD ca 0)), .val (.int ([x0, x1, x2, x3].getD cb 0)), .val (.int lo), .val (.int hi)] [(.int hi), (.int x1)]))
    by_cases hc30 : x1 = hi
    · refine own_go (fun _ kt => XS.icmpNo X29.here hx rfl (hb hby d5_43) rfl (teq hc30).2 kt) ?_
      show own_R _ _ _ _ (T29.setTop (mkF m 46 #[.val (.ref a1), .val (.int (Int32.ofNat ca)), .val (.int (Int32.ofNat cb)), .val (.int ([x0, x1, x2, x3].getD ca 0)), .val (.int ([x0, x1, x2, x3].getD cb 0)), .val (.int lo), .val (.int hi)] []))
      refine own_go (fun _ kt => XS.aloadN X29.here hx rfl (hb hby d5_46) rfl rfl kt) ?_
      show own_R _ _ _ _ (T29.setTop (mkF m 47 #[.val (.ref a1), .val (.int (Int32.ofNat ca)), .val (.int (Int32.ofNat cb)), .val (.int ([x0, x1, x2, x3].getD ca 0)), .val (.int ([x0, x1, x2, x3].getD cb 0)), .val (.int lo), .val (.int hi)] [(.ref a1)]))
      refine own_go (fun _ kt => XS.iconst X29.here hx rfl (hb hby d5_47) kt) ?_
      show own_R _ _ _ _ (T29.setTop (mkF m 48 #[.val (.ref a1), .val (.int (Int32.ofNat ca)), .val (.int (Int32.ofNat cb)), .val (.int ([x0, x1, x2, x3].getD ca 0)), .val (.int ([x0, x1, x2, x3].getD cb 0)), .val (.int lo), .val (.int hi)] [(.int (1 : Int32)), (.ref a1)]))
      refine own_go (fun _ kt => XS.iload X29.here hx rfl (hb hby d5_48) rfl kt) ?_
      show own_R _ _ _ _ (T29.setTop (mkF m 50 #[.val (.ref a1), .val (.int (Int32.ofNat ca)), .val (.int (Int32.ofNat cb)), .val (.int ([x0, x1, x2, x3].getD ca 0)), .val (.int ([x0, x1, x2, x3].getD cb 0)), .val (.int lo), .val (.int hi)] [(.int lo), (.int (1 : Int32)), (.ref a1)]))
      obtain ⟨T31, h31, sl31, X31, e31, W31, V31, st31⟩ := own_stI X29 hx hZ e29 V_a1 (j := (1 : Int32)) (i := 1) ⟨by decide, by decide⟩ rfl (Nat.le_of_ble_eq_true rfl) rfl (g := (mkF m 50 #[.val (.ref a1), .val (.int (Int32.ofNat ca)), .val (.int (Int32.ofNat cb)), .val (.int ([x0, x1, x2, x3].getD ca 0)), .val (.int ([x0, x1, x2, x3].getD cb 0)), .val (.int lo), .val (.int hi)] [(.int lo), (.int (1 : Int32)), (.ref a1)])) rfl rfl (hb hby d5_50)
      refine own_go st31 ?_
      have ZS := Nat.le_trans ZS (Keep.of_wr W31).1
      have KP := KP.wr W31 (Or.inl (List.mem_of_getElem? (i := 0) rfl))
      have NF := Fr.snoc X31 NF g_a1
      have V_a1 : Arv Z h31 a1 k1 .int (4 : Int32) [(.int lo), (.int lo), (.int x2), (.int x3)] (.int (0 : Int32)) := V31
      show own_R _ _ _ _ (T31.setTop (mkF m 51 #[.val (.ref a1), .val (.int (Int32.ofNat ca)), .val (.int (Int32.ofNat cb)), .val (.int ([x0, x1, x2, x3].getD ca 0)), .val (.int ([x0, x1, x2, x3].getD cb 0)), .val (.int lo), .val (.int hi)] []))
      refine own_go (fun _ kt => XS.aloadN X31.here hx rfl (hb hby d5_51) rfl rfl kt) ?_
      show own_R _ _ _ _ (T31.setTop (mkF m 52 #[.val (.ref a1), .val (.int (Int32.ofNat ca)), .val (.int (Int32.ofNat cb)), .val (.int ([x0, x1, x2, x3].getD ca 0)), .val (.int ([x0, x1, x2, x3].getD cb 0)), .val (.int lo), .val (.int hi)] [(.ref a1)]))
      refine own_go (fun _ kt => XS.iconst X31.here hx rfl (hb hby d5_52) kt) ?_
      show own_R _ _ _ _ (T31.setTop (mkF m 53 #[.val (.ref a1), .val (.int (Int32.ofNat ca)), .val (.int (Int32.ofNat cb)), .val (.int ([x0, x1, x2, x3].getD ca 0)), .val (.int ([x0, x1, x2, x3].getD cb 0)), .val (.int lo), .val (.int hi)] [(.int (2 : Int32)), (.ref a1)]))
      refine own_go (own_ldI X31 hx hZ e31 V_a1 (j := (2 : Int32)) (i := 2) ⟨by decide, by decide⟩ rfl (v := (.int x2)) rfl (g := (mkF m 53 #[.val (.ref a1), .val (.int (Int32.ofNat ca)), .val (.int (Int32.ofNat cb)), .val (.int ([x0, x1, x2, x3].getD ca 0)), .val (.int ([x0, x1, x2, x3].getD cb 0)), .val (.int lo), .val (.int hi)] [(.int (2 : Int32)), (.ref a1)])) rfl rfl (hb hby d5_53)) ?_
      show own_R _ _ _ _ (T31.setTop (mkF m 54 #[.val (.ref a1), .val (.int (Int32.ofNat ca)), .val (.int (Int32.ofNat cb)), .val (.int ([x0, x1, x2, x3].getD ca 0)), .val (.int ([x0, x1, x2, x3].getD cb 0)), .val (.int lo), .val (.int hi)] [(.int x2)]))
      refine own_go (fun _ kt => XS.iload X31.here hx rfl (hb hby d5_54) rfl kt) ?_
      show own_R _ _ _ _ (T31.setTop (mkF m 56 #[.val (.ref a1), .val (.int (Int32.ofNat ca)), .val (.int (Int32.ofNat cb)), .val (.int ([x0, x1, x2, x3].getD ca 0)), .val (.int ([x0, x1, x2, x3].getD cb 0)), .val (.int lo), .val (.int hi)] [(.int hi), (.int x2)]))
      by_cases hc32 : x2 = hi
      · refine own_go (fun _ kt => XS.icmpNo X31.here hx rfl (hb hby d5_56) rfl (teq hc32).2 kt) ?_
        show own_R _ _ _ _ (T31.setTop (mkF m 59 #[.val (.ref a1), .val (.int (Int32.ofNat ca)), .val (.int (Int32.ofNat cb)), .val (.int ([x0, x1, x2, x3].getD ca 0)), .val (.int ([x0, x1, x2, x3].getD cb 0)), .val (.int lo), .val (.int hi)] []))
        refine own_go (fun _ kt => XS.aloadN X31.here hx rfl (hb hby d5_59) rfl rfl kt) ?_
        show own_R _ _ _ _ (T31.setTop (mkF m 60 #[.val (.ref a1), .val (.int (Int32.ofNat ca)), .val (.int (Int32.ofNat cb)), .val (.int ([x0, x1, x2, x3].getD ca 0)), .val (.int ([x0, x1, x2, x3].getD cb 0)), .val (.int lo), .val (.int hi)] [(.ref a1)]))
        refine own_go (fun _ kt => XS.iconst X31.here hx rfl (hb hby d5_60) kt) ?_
        show own_R _ _ _ _ (T31.setTop (mkF m 61 #[.val (.ref a1), .val (.int (Int32.ofNat ca)), .val (.int (Int32.ofNat cb)), .val (.int ([x0, x1, x2, x3].getD ca 0)), .val (.int ([x0, x1, x2, x3].getD cb 0)), .val (.int lo), .val (.int hi)] [(.int (2 : Int32)), (.ref a1)]))
        refine own_go (fun _ kt => XS.iload X31.here hx rfl (hb hby d5_61) rfl kt) ?_
        show own_R _ _ _ _ (T31.setTop (mkF m 63 #[.val (.ref a1), .val (.int (Int32.ofNat ca)), .val (.int (Int32.ofNat cb)), .val (.int ([x0, x1, x2, x3].getD ca 0)), .val (.int ([x0, x1, x2, x3].getD cb 0)), .val (.int lo), .val (.int hi)] [(.int lo), (.int (2 : Int32)), (.ref a1)]))
        obtain ⟨T33, h33, sl33, X33, e33, W33, V33, st33⟩ := own_stI X31 hx hZ e31 V_a1 (j := (2 : Int32)) (i := 2) ⟨by decide, by decide⟩ rfl (Nat.le_of_ble_eq_true rfl) rfl (g := (mkF m 63 #[.val (.ref a1), .val (.int (Int32.ofNat ca)), .val (.int (Int32.ofNat cb)), .val (.int ([x0, x1, x2, x3].getD ca 0)), .val (.int ([x0, x1, x2, x3].getD cb 0)), .val (.int lo), .val (.int hi)] [(.int lo), (.int (2 : Int32)), (.ref a1)])) rfl rfl (hb hby d5_63)
        refine own_go st33 ?_
        have ZS := Nat.le_trans ZS (Keep.of_wr W33).1
        have KP := KP.wr W33 (Or.inl (List.mem_of_getElem? (i := 0) rfl))
        have NF := Fr.snoc X33 NF g_a1
        have V_a1 : Arv Z h33 a1 k1 .int (4 : Int32) [(.int lo), (.int lo), (.int lo), (.int x3)] (.int (0 : Int32)) := V33
        show own_R _ _ _ _ (T33.setTop (mkF m 64 #[.val (.ref a1), .val (.int (Int32.ofNat ca)), .val (.int (Int32.ofNat cb)), .val (.int ([x0, x1, x2, x3].getD ca 0)), .val (.int ([x0, x1, x2, x3].getD cb 0)), .val (.int lo), .val (.int hi)] []))
        refine own_go (fun _ kt => XS.aloadN X33.here hx rfl (hb hby d5_64) rfl rfl kt) ?_
        show own_R _ _ _ _ (T33.setTop (mkF m 65 #[.val (.ref a1), .val (.int (Int32.ofNat ca)), .val (.int (Int32.ofNat cb)), .val (.int ([x0, x1, x2, x3].getD ca 0)), .val (.int ([x0, x1, x2, x3].getD cb 0)), .val (.int lo), .val (.int hi)] [(.ref a1)]))
        refine own_go (fun _ kt => XS.iconst X33.here hx rfl (hb hby d5_65) kt) ?_
        show own_R _ _ _ _ (T33.setTop (mkF m 66 #[.val (.ref a1), .val (.int (Int32.ofNat ca)), .val (.int (Int32.ofNat cb)), .val (.int ([x0, x1, x2, x3].getD ca 0)), .val (.int ([x0, x1, x2, x3].getD cb 0)), .val (.int lo), .val (.int hi)] [(.int (3 : Int32)), (.ref a1)]))
        refine own_go (own_ldI X33 hx hZ e33 V_a1 (j := (3 : Int32)) (i := 3) ⟨by decide, by decide⟩ rfl (v := (.int x3)) rfl (g := (mkF m 66 #[.val (.ref a1), .val (.int (Int32.ofNat ca)), .val (.int (Int32.ofNat cb)), .val (.int ([x0, x1, x2, x3].getD ca 0)), .val (.int ([x0, x1, x2, x3].getD cb 0)), .val (.int lo), .val (.int hi)] [(.int (3 : Int32)), (.ref a1)])) rfl rfl (hb hby d5_66)) ?_
        show own_R _ _ _ _ (T33.setTop (mkF m 67 #[.val (.ref a1), .val (.int (Int32.ofNat ca)), .val (.int (Int32.ofNat cb)), .val (.int ([x0, x1, x2, x3].getD ca 0)), .val (.int ([x0, x1, x2, x3].getD cb 0)), .val (.int lo), .val (.int hi)] [(.int x3)]))
        refine own_go (fun _ kt => XS.iload X33.here hx rfl (hb hby d5_67) rfl kt) ?_
        show own_R _ _ _ _ (T33.setTop (mkF m 69 #[.val (.ref a1), .val (.int (Int32.ofNat ca)), .val (.int (Int32.ofNat cb)), .val (.int ([x0, x1, x2, x3].getD ca 0)), .val (.int ([x0, x1, x2, x3].getD cb 0)), .val (.int lo), .val (.int hi)] [(.int hi), (.int x3)]))
        by_cases hc34 : x3 = hi
        · refine own_go (fun _ kt => XS.icmpNo X33.here hx rfl (hb hby d5_69) rfl (teq hc34).2 kt) ?_
          show own_R _ _ _ _ (T33.setTop (mkF m 72 #[.val (.ref a1), .val (.int (Int32.ofNat ca)), .val (.int (Int32.ofNat cb)), .val (.int ([x0, x1, x2, x3].getD ca 0)), .val (.int ([x0, x1, x2, x3].getD cb 0)), .val (.int lo), .val (.int hi)] []))
          refine own_go (fun _ kt => XS.aloadN X33.here hx rfl (hb hby d5_72) rfl rfl kt) ?_
          show own_R _ _ _ _ (T33.setTop (mkF m 73 #[.val (.ref a1), .val (.int (Int32.ofNat ca)), .val (.int (Int32.ofNat cb)), .val (.int ([x0, x1, x2, x3].getD ca 0)), .val (.int ([x0, x1, x2, x3].getD cb 0)), .val (.int lo), .val (.int hi)] [(.ref a1)]))
          refine own_go (fun _ kt => XS.iconst X33.here hx rfl (hb hby d5_73) kt) ?_
          show own_R _ _ _ _ (T33.setTop (mkF m 74 #[.val (.ref a1), .val (.int (Int32.ofNat ca)), .val (.int (Int32.ofNat cb)), .val (.int ([x0, x1, x2, x3].getD ca 0)), .val (.int ([x0, x1, x2, x3].getD cb 0)), .val (.int lo), .val (.int hi)] [(.int (3 : Int32)), (.ref a1)]))
          refine own_go (fun _ kt => XS.iload X33.here hx rfl (hb hby d5_74) rfl kt) ?_
          show own_R _ _ _ _ (T33.setTop (mkF m 76 #[.val (.ref a1), .val (.int (Int32.ofNat ca)), .val (.int (Int32.ofNat cb)), .val (.int ([x0, x1, x2, x3].getD ca 0)), .val (.int ([x0, x1, x2, x3].getD cb 0)), .val (.int lo), .val (.int hi)] [(.int lo), (.int (3 : Int32)), (.ref a1)]))
          obtain ⟨T35, h35, sl35, X35, e35, W35, V35, st35⟩ := own_stI X33 hx hZ e33 V_a1 (j := (3 : Int32)) (i := 3) ⟨by decide, by decide⟩ rfl (Nat.le_of_ble_eq_true rfl) rfl (g := (mkF m 76 #[.val (.ref a1), .val (.int (Int32.ofNat ca)), .val (.int (Int32.ofNat cb)), .val (.int ([x0, x1, x2, x3].getD ca 0)), .val (.int ([x0, x1, x2, x3].getD cb 0)), .val (.int lo), .val (.int hi)] [(.int lo), (.int (3 : Int32)), (.ref a1)])) rfl rfl (hb hby d5_76)
          refine own_go st35 ?_
          have ZS := Nat.le_trans ZS (Keep.of_wr W35).1
          have KP := KP.wr W35 (Or.inl (List.mem_of_getElem? (i := 0) rfl))
          have NF := Fr.snoc X35 NF g_a1
          have V_a1 : Arv Z h35 a1 k1 .int (4 : Int32) [(.int lo), (.int lo), (.int lo), (.int lo)] (.int (0 : Int32)) := V35
          show own_R _ _ _ _ (T35.setTop (mkF m 77 #[.val (.ref a1), .val (.int (Int32.ofNat ca)), .val (.int (Int32.ofNat cb)), .val (.int ([x0, x1, x2, x3].getD ca 0)), .val (.int ([x0, x1, x2, x3].getD cb 0)), .val (.int lo), .val (.int hi)] []))
          exact own_ret0 X35 hx Bd.returns (hb hby d5_77) hlk (by rw [e35]; exact ⟨rfl, NF, KP, by rw [own_mrg, hhi, hlo]; simp only [List.map_cons, List.map_nil]; rw [show own_rep hi lo x0 = lo from if_pos hc28, show own_rep hi lo x1 = lo from if_pos hc30, show own_rep hi lo x2 = lo from if_pos hc32, show own_rep hi lo x3 = lo from if_pos hc34]; exact V_a1⟩) (by decide) (by decide)
        · refine own_go (fun _ kt => XS.icmpYes X33.here hx rfl (pc0 := 69) (pc' := 77) rfl (hb hby d5_69) rfl (feq hc34).2 (by decide) (by decide) kt) ?_
          show own_R _ _ _ _ (T33.setTop (mkF m 77 #[.val (.ref a1), .val (.int (Int32.ofNat ca)), .val (.int (Int32.ofNat cb)), .val (.int ([x0, x1, x2, x3].getD ca 0)), .val (.int ([x0, x1, x2, x3].getD cb 0)), .val (.int lo), .val (.int hi)] []))
          exact own_ret0 X33 hx Bd.returns (hb hby d5_77) hlk (by rw [e33]; exact ⟨rfl, NF, KP, by rw [own_mrg, hhi, hlo]; simp only [List.map_cons, List.map_nil]; rw [show own_rep hi lo x0 = lo from if_pos hc28, show own_rep hi lo x1 = lo from if_pos hc30, show own_rep hi lo x2 = lo from if_pos hc32, show own_rep hi lo x3 = x3 from if_neg hc34]; exact V_a1⟩) (by decide) (by decide)
      · refine own_go (fun _ kt => XS.icmpYes X31.here hx rfl (pc0 := 56) (pc' := 64) rfl (hb hby d5_56) rfl (feq hc32).2 (by decide) (by decide) kt) ?_
        show own_R _ _ _ _ (T31.setTop (mkF m 64 #[.val (.ref a1), .val (.int (Int32.ofNat ca)), .val (.int (Int32.ofNat cb)), .val (.int ([x0, x1, x2, x3].getD ca 0)), .val (.int ([x0, x1, x2, x3].getD cb 0)), .val (.int lo), .val (.int hi)] []))
        refine own_go (fun _ kt => XS.aloadN X31.here hx rfl (hb hby d5_64) rfl rfl kt) ?_
        show own_R _ _ _ _ (T31.setTop (mkF m 65 #[.val (.ref a1), .val (.int (Int32.ofNat ca)), .val (.int (Int32.ofNat cb)), .val (.int ([x0, x1, x2, x3].getD ca 0)), .val (.int ([x0, x1, x2, x3].getD cb 0)), .val (.int lo), .val (.int hi)] [(.ref a1)]))
        refine own_go (fun _ kt => XS.iconst X31.here hx rfl (hb hby d5_65) kt) ?_
        show own_R _ _ _ _ (T31.setTop (mkF m 66 #[.val (.ref a1), .val (.int (Int32.ofNat ca)), .val (.int (Int32.ofNat cb)), .val (.int ([x0, x1, x2, x3].getD ca 0)), .val (.int ([x0, x1, x2, x3].getD cb 0)), .val (.int lo), .val (.int hi)] [(.int (3 : Int32)), (.ref a1)]))
        refine own_go (own_ldI X31 hx hZ e31 V_a1 (j := (3 : Int32)) (i := 3) ⟨by decide, by decide⟩ rfl (v := (.int x3)) rfl (g := (mkF m 66 #[.val (.ref a1), .val (.int (Int32.ofNat ca)), .val (.int (Int32.ofNat cb)), .val (.int ([x0, x1, x2, x3].getD ca 0)), .val (.int ([x0, x1, x2, x3].getD cb 0)), .val (.int lo), .val (.int hi)] [(.int (3 : Int32)), (.ref a1)])) rfl rfl (hb hby d5_66)) ?_
        show own_R _ _ _ _ (T31.setTop (mkF m 67 #[.val (.ref a1), .val (.int (Int32.ofNat ca)), .val (.int (Int32.ofNat cb)), .val (.int ([x0, x1, x2, x3].getD ca 0)), .val (.int ([x0, x1, x2, x3].getD cb 0)), .val (.int lo), .val (.int hi)] [(.int x3)]))
        refine own_go (fun _ kt => XS.iload X31.here hx rfl (hb hby d5_67) rfl kt) ?_
        show own_R _ _ _ _ (T31.setTop (mkF m 69 #[.val (.ref a1), .val (.int (Int32.ofNat ca)), .val (.int (Int32.ofNat cb)), .val (.int ([x0, x1, x2, x3].getD ca 0)), .val (.int ([x0, x1, x2, x3].getD cb 0)), .val (.int lo), .val (.int hi)] [(.int hi), (.int x3)]))
        by_cases hc36 : x3 = hi
        · refine own_go (fun _ kt => XS.icmpNo X31.here hx rfl (hb hby d5_69) rfl (teq hc36).2 kt) ?_
          show own_R _ _ _ _ (T31.setTop (mkF m 72 #[.val (.ref a1), .val (.int (Int32.ofNat ca)), .val (.int (Int32.ofNat cb)), .val (.int ([x0, x1, x2, x3].getD ca 0)), .val (.int ([x0, x1, x2, x3].getD cb 0)), .val (.int lo), .val (.int hi)] []))
          refine own_go (fun _ kt => XS.aloadN X31.here hx rfl (hb hby d5_72) rfl rfl kt) ?_
          show own_R _ _ _ _ (T31.setTop (mkF m 73 #[.val (.ref a1), .val (.int (Int32.ofNat ca)), .val (.int (Int32.ofNat cb)), .val (.int ([x0, x1, x2, x3].getD ca 0)), .val (.int ([x0, x1, x2, x3].getD cb 0)), .val (.int lo), .val (.int hi)] [(.ref a1)]))
          refine own_go (fun _ kt => XS.iconst X31.here hx rfl (hb hby d5_73) kt) ?_
          show own_R _ _ _ _ (T31.setTop (mkF m 74 #[.val (.ref a1), .val (.int (Int32.ofNat ca)), .val (.int (Int32.ofNat cb)), .val (.int ([x0, x1, x2, x3].getD ca 0)), .val (.int ([x0, x1, x2, x3].getD cb 0)), .val (.int lo), .val (.int hi)] [(.int (3 : Int32)), (.ref a1)]))
          refine own_go (fun _ kt => XS.iload X31.here hx rfl (hb hby d5_74) rfl kt) ?_
          show own_R _ _ _ _ (T31.setTop (mkF m 76 #[.val (.ref a1), .val (.int (Int32.ofNat ca)), .val (.int (Int32.ofNat cb)), .val (.int ([x0, x1, x2, x3].getD ca 0)), .val (.int ([x0, x1, x2, x3].getD cb 0)), .val (.int lo), .val (.int hi)] [(.int lo), (.int (3 : Int32)), (.ref a1)]))
          obtain ⟨T37, h37, sl37, X37, e37, W37, V37, st37⟩ := own_stI X31 hx hZ e31 V_a1 (j := (3 : Int32)) (i := 3) ⟨by decide, by decide⟩ rfl (Nat.le_of_ble_eq_true rfl) rfl (g := (mkF m 76 #[.val (.ref a1), .val (.int (Int32.ofNat ca)), .val (.int (Int32.ofNat cb)), .val (.int ([x0, x1, x2, x3].getD ca 0)), .val (.int ([x0, x1, x2, x3].getD cb 0)), .val (.int lo), .val (.int hi)] [(.int lo), (.int (3 : Int32)), (.ref a1)])) rfl rfl (hb hby d5_76)
          refine own_go st37 ?_
          have ZS := Nat.le_trans ZS (Keep.of_wr W37).1
          have KP := KP.wr W37 (Or.inl (List.mem_of_getElem? (i := 0) rfl))
          have NF := Fr.snoc X37 NF g_a1
          have V_a1 : Arv Z h37 a1 k1 .int (4 : Int32) [(.int lo), (.int lo), (.int x2), (.int lo)] (.int (0 : Int32)) := V37
          show own_R _ _ _ _ (T37.setTop (mkF m 77 #[.val (.ref a1), .val (.int (Int32.ofNat ca)), .val (.int (Int32.ofNat cb)), .val (.int ([x0, x1, x2, x3].getD ca 0)), .val (.int ([x0, x1, x2, x3].getD cb 0)), .val (.int lo), .val (.int hi)] []))
          exact own_ret0 X37 hx Bd.returns (hb hby d5_77) hlk (by rw [e37]; exact ⟨rfl, NF, KP, by rw [own_mrg, hhi, hlo]; simp only [List.map_cons, List.map_nil]; rw [show own_rep hi lo x0 = lo from if_pos hc28, show own_rep hi lo x1 = lo from if_pos hc30, show own_rep hi lo x2 = x2 from if_neg hc32, show own_rep hi lo x3 = lo from if_pos hc36]; exact V_a1⟩) (by decide) (by decide)
        · refine own_go (fun _ kt => XS.icmpYes X31.here hx rfl (pc0 := 69) (pc' := 77) rfl (hb hby d5_69) rfl (feq hc36).2 (by decide) (by decide) kt) ?_
          show own_R _ _ _ _ (T31.setTop (mkF m 77 #[.val (.ref a1), .val (.int (Int32.ofNat ca)), .val (.int (Int32.ofNat cb)), .val (.int ([x0, x1, x2, x3].getD ca 0)), .val (.int ([x0, x1, x2, x3].getD cb 0)), .val (.int lo), .val (.int hi)] []))
          exact own_ret0 X31 hx Bd.returns (hb hby d5_77) hlk (by rw [e31]; exact ⟨rfl, NF, KP, by rw [own_mrg, hhi, hlo]; simp only [List.map_cons, List.map_nil]; rw [show own_rep hi lo x0 = lo from if_pos hc28, show own_rep hi lo x1 = lo from if_pos hc30, show own_rep hi lo x2 = x2 from if_neg hc32, show own_rep hi lo x3 = x3 from if_neg hc36]; exact V_a1⟩) (by decide) (by decide)
    · refine own_go (fun _ kt => XS.icmpYes X29.here hx rfl (pc0 := 43) (pc' := 51) rfl (hb hby d5_43) rfl (feq hc30).2 (by decide) (by decide) kt) ?_
      show own_R _ _ _ _ (T29.setTop (mkF m 51 #[.val (.ref a1), .val (.int (Int32.ofNat ca)), .val (.int (Int32.ofNat cb)), .val (.int ([x0, x1, x2, x3].getD ca 0)), .val (.int ([x0, x1, x2, x3].getD cb 0)), .val (.int lo), .val (.int hi)] []))
      refine own_go (fun _ kt => XS.aloadN X29.here hx rfl (hb hby d5_51) rfl rfl kt) ?_
      show own_R _ _ _ _ (T29.setTop (mkF m 52 #[.val (.ref a1), .val (.int (Int32.ofNat ca)), .val (.int (Int32.ofNat cb)), .val (.int ([x0, x1, x2, x3].getD ca 0)), .val (.int ([x0, x1, x2, x3].getD cb 0)), .val (.int lo), .val (.int hi)] [(.ref a1)]))
      refine own_go (fun _ kt => XS.iconst X29.here hx rfl (hb hby d5_52) kt) ?_
      show own_R _ _ _ _ (T29.setTop (mkF m 53 #[.val (.ref a1), .val (.int (Int32.ofNat ca)), .val (.int (Int32.ofNat cb)), .val (.int ([x0, x1, x2, x3].getD ca 0)), .val (.int ([x0, x1, x2, x3].getD cb 0)), .val (.int lo), .val (.int hi)] [(.int (2 : Int32)), (.ref a1)]))
      refine own_go (own_ldI X29 hx hZ e29 V_a1 (j := (2 : Int32)) (i := 2) ⟨by decide, by decide⟩ rfl (v := (.int x2)) rfl (g := (mkF m 53 #[.val (.ref a1), .val (.int (Int32.ofNat ca)), .val (.int (Int32.ofNat cb)), .val (.int ([x0, x1, x2, x3].getD ca 0)), .val (.int ([x0, x1, x2, x3].getD cb 0)), .val (.int lo), .val (.int hi)] [(.int (2 : Int32)), (.ref a1)])) rfl rfl (hb hby d5_53)) ?_
      show own_R _ _ _ _ (T29.setTop (mkF m 54 #[.val (.ref a1), .val (.int (Int32.ofNat ca)), .val (.int (Int32.ofNat cb)), .val (.int ([x0, x1, x2, x3].getD ca 0)), .val (.int ([x0, x1, x2, x3].getD cb 0)), .val (.int lo), .val (.int hi)] [(.int x2)]))
      refine own_go (fun _ kt => XS.iload X29.here hx rfl (hb hby d5_54) rfl kt) ?_
      show own_R _ _ _ _ (T29.setTop (mkF m 56 #[.val (.ref a1), .val (.int (Int32.ofNat ca)), .val (.int (Int32.ofNat cb)), .val (.int ([x0, x1, x2, x3].getD ca 0)), .val (.int ([x0, x1, x2, x3].getD cb 0)), .val (.int lo), .val (.int hi)] [(.int hi), (.int x2)]))
      by_cases hc38 : x2 = hi
      · refine own_go (fun _ kt => XS.icmpNo X29.here hx rfl (hb hby d5_56) rfl (teq hc38).2 kt) ?_
        show own_R _ _ _ _ (T29.setTop (mkF m 59 #[.val (.ref a1), .val (.int (Int32.ofNat ca)), .val (.int (Int32.ofNat cb)), .val (.int ([x0, x1, x2, x3].getD ca 0)), .val (.int ([x0, x1, x2, x3].getD cb 0)), .val (.int lo), .val (.int hi)] []))
        refine own_go (fun _ kt => XS.aloadN X29.here hx rfl (hb hby d5_59) rfl rfl kt) ?_
        show own_R _ _ _ _ (T29.setTop (mkF m 60 #[.val (.ref a1), .val (.int (Int32.ofNat ca)), .val (.int (Int32.ofNat cb)), .val (.int ([x0, x1, x2, x3].getD ca 0)), .val (.int ([x0, x1, x2, x3].getD cb 0)), .val (.int lo), .val (.int hi)] [(.ref a1)]))
        refine own_go (fun _ kt => XS.iconst X29.here hx rfl (hb hby d5_60) kt) ?_
        show own_R _ _ _ _ (T29.setTop (mkF m 61 #[.val (.ref a1), .val (.int (Int32.ofNat ca)), .val (.int (Int32.ofNat cb)), .val (.int ([x0, x1, x2, x3].getD ca 0)), .val (.int ([x0, x1, x2, x3].getD cb 0)), .val (.int lo), .val (.int hi)] [(.int (2 : Int32)), (.ref a1)]))
        refine own_go (fun _ kt => XS.iload X29.here hx rfl (hb hby d5_61) rfl kt) ?_
        show own_R _ _ _ _ (T29.setTop (mkF m 63 #[.val (.ref a1), .val (.int (Int32.ofNat ca)), .val (.int (Int32.ofNat cb)), .val (.int ([x0, x1, x2, x3].getD ca 0)), .val (.int ([x0, x1, x2, x3].getD cb 0)), .val (.int lo), .val (.int hi)] [(.int lo), (.int (2 : Int32)), (.ref a1)]))
        obtain ⟨T39, h39, sl39, X39, e39, W39, V39, st39⟩ := own_stI X29 hx hZ e29 V_a1 (j := (2 : Int32)) (i := 2) ⟨by decide, by decide⟩ rfl (Nat.le_of_ble_eq_true rfl) rfl (g := (mkF m 63 #[.val (.ref a1), .val (.int (Int32.ofNat ca)), .val (.int (Int32.ofNat cb)), .val (.int ([x0, x1, x2, x3].getD ca 0)), .val (.int ([x0, x1, x2, x3].getD cb 0)), .val (.int lo), .val (.int hi)] [(.int lo), (.int (2 : Int32)), (.ref a1)])) rfl rfl (hb hby d5_63)
        refine own_go st39 ?_
        have ZS := Nat.le_trans ZS (Keep.of_wr W39).1
        have KP := KP.wr W39 (Or.inl (List.mem_of_getElem? (i := 0) rfl))
        have NF := Fr.snoc X39 NF g_a1
        have V_a1 : Arv Z h39 a1 k1 .int (4 : Int32) [(.int lo), (.int x1), (.int lo), (.int x3)] (.int (0 : Int32)) := V39
        show own_R _ _ _ _ (T39.setTop (mkF m 64 #[.val (.ref a1), .val (.int (Int32.ofNat ca)), .val (.int (Int32.ofNat cb)), .val (.int ([x0, x1, x2, x3].getD ca 0)), .val (.int ([x0, x1, x2, x3].getD cb 0)), .val (.int lo), .val (.int hi)] []))
        refine own_go (fun _ kt => XS.aloadN X39.here hx rfl (hb hby d5_64) rfl rfl kt) ?_
        show own_R _ _ _ _ (T39.setTop (mkF m 65 #[.val (.ref a1), .val (.int (Int32.ofNat ca)), .val (.int (Int32.ofNat cb)), .val (.int ([x0, x1, x2, x3].getD ca 0)), .val (.int ([x0, x1, x2, x3].getD cb 0)), .val (.int lo), .val (.int hi)] [(.ref a1)]))
        refine own_go (fun _ kt => XS.iconst X39.here hx rfl (hb hby d5_65) kt) ?_
        show own_R _ _ _ _ (T39.setTop (mkF m 66 #[.val (.ref a1), .val (.int (Int32.ofNat ca)), .val (.int (Int32.ofNat cb)), .val (.int ([x0, x1, x2, x3].getD ca 0)), .val (.int ([x0, x1, x2, x3].getD cb 0)), .val (.int lo), .val (.int hi)] [(.int (3 : Int32)), (.ref a1)]))
        refine own_go (own_ldI X39 hx hZ e39 V_a1 (j := (3 : Int32)) (i := 3) ⟨by decide, by decide⟩ rfl (v := (.int x3)) rfl (g := (mkF m 66 #[.val (.ref a1), .val (.int (Int32.ofNat ca)), .val (.int (Int32.ofNat cb)), .val (.int ([x0, x1, x2, x3].getD ca 0)), .val (.int ([x0, x1, x2, x3].getD cb 0)), .val (.int lo), .val (.int hi)] [(.int (3 : Int32)), (.ref a1)])) rfl rfl (hb hby d5_66)) ?_
        show own_R _ _ _ _ (T39.setTop (mkF m 67 #[.val (.ref a1), .val (.int (Int32.ofNat ca)), .val (.int (Int32.ofNat cb)), .val (.int ([x0, x1, x2, x3].getD ca 0)), .val (.int ([x0, x1, x2, x3].getD cb 0)), .val (.int lo), .val (.int hi)] [(.int x3)]))
        refine own_go (fun _ kt => XS.iload X39.here hx rfl (hb hby d5_67) rfl kt) ?_
        show own_R _ _ _ _ (T39.setTop (mkF m 69 #[.val (.ref a1), .val (.int (Int32.ofNat ca)), .val (.int (Int32.ofNat cb)), .val (.int ([x0, x1, x2, x3].getD ca 0)), .val (.int ([x0, x1, x2, x3].getD cb 0)), .val (.int lo), .val (.int hi)] [(.int hi), (.int x3)]))
        by_cases hc40 : x3 = hi
        · refine own_go (fun _ kt => XS.icmpNo X39.here hx rfl (hb hby d5_69) rfl (teq hc40).2 kt) ?_
          show own_R _ _ _ _ (T39.setTop (mkF m 72 #[.val (.ref a1), .val (.int (Int32.ofNat ca)), .val (.int (Int32.ofNat cb)), .val (.int ([x0, x1, x2, x3].getD ca 0)), .val (.int ([x0, x1, x2, x3].getD cb 0)), .val (.int lo), .val (.int hi)] []))
          refine own_go (fun _ kt => XS.aloadN X39.here hx rfl (hb hby d5_72) rfl rfl kt) ?_
          show own_R _ _ _ _ (T39.setTop (mkF m 73 #[.val (.ref a1), .val (.int (Int32.ofNat ca)), .val (.int (Int32.ofNat cb)), .val (.int ([x0, x1, x2, x3].getD ca 0)), .val (.int ([x0, x1, x2, x3].getD cb 0)), .val (.int lo), .val (.int hi)] [(.ref a1)]))
          refine own_go (fun _ kt => XS.iconst X39.here hx rfl (hb hby d5_73) kt) ?_
          show own_R _ _ _ _ (T39.setTop (mkF m 74 #[.val (.ref a1), .val (.int (Int32.ofNat ca)), .val (.int (Int32.ofNat cb)), .val (.int ([x0, x1, x2, x3].getD ca 0)), .val (.int ([x0, x1, x2, x3].getD cb 0)), .val (.int lo), .val (.int hi)] [(.int (3 : Int32)), (.ref a1)]))
          refine own_go (fun _ kt => XS.iload X39.here hx rfl (hb hby d5_74) rfl kt) ?_
          show own_R _ _ _ _ (T39.setTop (mkF m 76 #[.val (.ref a1), .val (.int (Int32.ofNat ca)), .val (.int (Int32.ofNat cb)), .val (.int ([x0, x1, x2, x3].getD ca 0)), .val (.int ([x0, x1, x2, x3].getD cb 0)), .val (.int lo), .val (.int hi)] [(.int lo), (.int (3 : Int32)), (.ref a1)]))
          obtain ⟨T41, h41, sl41, X41, e41, W41, V41, st41⟩ := own_stI X39 hx hZ e39 V_a1 (j := (3 : Int32)) (i := 3) ⟨by decide, by decide⟩ rfl (Nat.le_of_ble_eq_true rfl) rfl (g := (mkF m 76 #[.val (.ref a1), .val (.int (Int32.ofNat ca)), .val (.int (Int32.ofNat cb)), .val (.int ([x0, x1, x2, x3].getD ca 0)), .val (.int ([x0, x1, x2, x3].getD cb 0)), .val (.int lo), .val (.int hi)] [(.int lo), (.int (3 : Int32)), (.ref a1)])) rfl rfl (hb hby d5_76)
          refine own_go st41 ?_
          have ZS := Nat.le_trans ZS (Keep.of_wr W41).1
          have KP := KP.wr W41 (Or.inl (List.mem_of_getElem? (i := 0) rfl))
          have NF := Fr.snoc X41 NF g_a1
          have V_a1 : Arv Z h41 a1 k1 .int (4 : Int32) [(.int lo), (.int x1), (.int lo), (.int lo)] (.int (0 : Int32)) := V41
          show own_R _ _ _ _ (T41.setTop (mkF m 77 #[.val (.ref a1), .val (.int (Int32.ofNat ca)), .val (.int (Int32.ofNat cb)), .val (.int ([x0, x1, x2, x3].getD ca 0)), .val (.int ([x0, x1, x2, x3].getD cb 0)), .val (.int lo), .val (.int hi)] []))
          exact own_ret0 X41 hx Bd.returns (hb hby d5_77) hlk (by rw [e41]; exact ⟨rfl, NF, KP, by rw [own_mrg, hhi, hlo]; simp only [List.map_cons, List.map_nil]; rw [show own_rep hi lo x0 = lo from if_pos hc28, show own_rep hi lo x1 = x1 from if_neg hc30, show own_rep hi lo x2 = lo from if_pos hc38, show own_rep hi lo x3 = lo from if_pos hc40]; exact V_a1⟩) (by decide) (by decide)
        · refine own_go (fun _ kt => XS.icmpYes X39.here hx rfl (pc0 := 69) (pc' := 77) rfl (hb hby d5_69) rfl (feq hc40).2 (by decide) (by decide) kt) ?_
          show own_R _ _ _ _ (T39.setTop (mkF m 77 #[.val (.ref a1), .val (.int (Int32.ofNat ca)), .val (.int (Int32.ofNat cb)), .val (.int ([x0, x1, x2, x3].getD ca 0)), .val (.int ([x0, x1, x2, x3].getD cb 0)), .val (.int lo), .val (.int hi)] []))
          exact own_ret0 X39 hx Bd.returns (hb hby d5_77) hlk (by rw [e39]; exact ⟨rfl, NF, KP, by rw [own_mrg, hhi, hlo]; simp only [List.map_cons, List.map_nil]; rw [show own_rep hi lo x0 = lo from if_pos hc28, show own_rep hi lo x1 = x1 from if_neg hc30, show own_rep hi lo x2 = lo from if_pos hc38, show own_rep hi lo x3 = x3 from if_neg hc40]; exact V_a1⟩) (by decide) (by decide)
      · refine own_go (fun _ kt => XS.icmpYes X29.here hx rfl (pc0 := 56) (pc' := 64) rfl (hb hby d5_56) rfl (feq hc38).2 (by decide) (by decide) kt) ?_
        show own_R _ _ _ _ (T29.setTop (mkF m 64 #[.val (.ref a1), .val (.int (Int32.ofNat ca)), .val (.int (Int32.ofNat cb)), .val (.int ([x0, x1, x2, x3].getD ca 0)), .val (.int ([x0, x1, x2, x3].getD cb 0)), .val (.int lo), .val (.int hi)] []))
        refine own_go (fun _ kt => XS.aloadN X29.here hx rfl (hb hby d5_64) rfl rfl kt) ?_
        show own_R _ _ _ _ (T29.setTop (mkF m 65 #[.val (.ref a1), .val (.int (Int32.ofNat ca)), .val (.int (Int32.ofNat cb)), .val (.int ([x0, x1, x2, x3].getD ca 0)), .val (.int ([x0, x1, x2, x3].getD cb 0)), .val (.int lo), .val (.int hi)] [(.ref a1)]))
        refine own_go (fun _ kt => XS.iconst X29.here hx rfl (hb hby d5_65) kt) ?_
        show own_R _ _ _ _ (T29.setTop (mkF m 66 #[.val (.ref a1), .val (.int (Int32.ofNat ca)), .val (.int (Int32.ofNat cb)), .val (.int ([x0, x1, x2, x3].getD ca 0)), .val (.int ([x0, x1, x2, x3].getD cb 0)), .val (.int lo), .val (.int hi)] [(.int (3 : Int32)), (.ref a1)]))
        refine own_go (own_ldI X29 hx hZ e29 V_a1 (j := (3 : Int32)) (i := 3) ⟨by decide, by decide⟩ rfl (v := (.int x3)) rfl (g := (mkF m 66 #[.val (.ref a1), .val (.int (Int32.ofNat ca)), .val (.int (Int32.ofNat cb)), .val (.int ([x0, x1, x2, x3].getD ca 0)), .val (.int ([x0, x1, x2, x3].getD cb 0)), .val (.int lo), .val (.int hi)] [(.int (3 : Int32)), (.ref a1)])) rfl rfl (hb hby d5_66)) ?_
        show own_R _ _ _ _ (T29.setTop (mkF m 67 #[.val (.ref a1), .val (.int (Int32.ofNat ca)), .val (.int (Int32.ofNat cb)), .val (.int ([x0, x1, x2, x3].getD ca 0)), .val (.int ([x0, x1, x2, x3].getD cb 0)), .val (.int lo), .val (.int hi)] [(.int x3)]))
        refine own_go (fun _ kt => XS.iload X29.here hx rfl (hb hby d5_67) rfl kt) ?_
        show own_R _ _ _ _ (T29.setTop (mkF m 69 #[.val (.ref a1), .val (.int (Int32.ofNat ca)), .val (.int (Int32.ofNat cb)), .val (.int ([x0, x1, x2, x3].getD ca 0)), .val (.int ([x0, x1, x2, x3].getD cb 0)), .val (.int lo), .val (.int hi)] [(.int hi), (.int x3)]))
        by_cases hc42 : x3 = hi
        · refine own_go (fun _ kt => XS.icmpNo X29.here hx rfl (hb hby d5_69) rfl (teq hc42).2 kt) ?_
          show own_R _ _ _ _ (T29.setTop (mkF m 72 #[.val (.ref a1), .val (.int (Int32.ofNat ca)), .val (.int (Int32.ofNat cb)), .val (.int ([x0, x1, x2, x3].getD ca 0)), .val (.int ([x0, x1, x2, x3].getD cb 0)), .val (.int lo), .val (.int hi)] []))
          refine own_go (fun _ kt => XS.aloadN X29.here hx rfl (hb hby d5_72) rfl rfl kt) ?_
          show own_R _ _ _ _ (T29.setTop (mkF m 73 #[.val (.ref a1), .val (.int (Int32.ofNat ca)), .val (.int (Int32.ofNat cb)), .val (.int ([x0, x1, x2, x3].getD ca 0)), .val (.int ([x0, x1, x2, x3].getD cb 0)), .val (.int lo), .val (.int hi)] [(.ref a1)]))
          refine own_go (fun _ kt => XS.iconst X29.here hx rfl (hb hby d5_73) kt) ?_
          show own_R _ _ _ _ (T29.setTop (mkF m 74 #[.val (.ref a1), .val (.int (Int32.ofNat ca)), .val (.int (Int32.ofNat cb)), .val (.int ([x0, x1, x2, x3].getD ca 0)), .val (.int ([x0, x1, x2, x3].getD cb 0)), .val (.int lo), .val (.int hi)] [(.int (3 : Int32)), (.ref a1)]))
          refine own_go (fun _ kt => XS.iload X29.here hx rfl (hb hby d5_74) rfl kt) ?_
          show own_R _ _ _ _ (T29.setTop (mkF m 76 #[.val (.ref a1), .val (.int (Int32.ofNat ca)), .val (.int (Int32.ofNat cb)), .val (.int ([x0, x1, x2, x3].getD ca 0)), .val (.int ([x0, x1, x2, x3].getD cb 0)), .val (.int lo), .val (.int hi)] [(.int lo), (.int (3 : Int32)), (.ref a1)]))
          obtain ⟨T43, h43, sl43, X43, e43, W43, V43, st43⟩ := own_stI X29 hx hZ e29 V_a1 (j := (3 : Int32)) (i := 3) ⟨by decide, by decide⟩ rfl (Nat.le_of_ble_eq_true rfl) rfl (g := (mkF m 76 #[.val (.ref a1), .val (.int (Int32.ofNat ca)), .val (.int (Int32.ofNat cb)), .val (.int ([x0, x1, x2, x3].getD ca 0)), .val (.int ([x0, x1, x2, x3].getD cb 0)), .val (.int lo), .val (.int hi)] [(.int lo), (.int (3 : Int32)), (.ref a1)])) rfl rfl (hb hby d5_76)
          refine own_go st43 ?_
          have ZS := Nat.le_trans ZS (Keep.of_wr W43).1
          have KP := KP.wr W43 (Or.inl (List.mem_of_getElem? (i := 0) rfl))
          have NF := Fr.snoc X43 NF g_a1
          have V_a1 : Arv Z h43 a1 k1 .int (4 : Int32) [(.int lo), (.int x1), (.int x2), (.int lo)] (.int (0 : Int32)) := V43
          show own_R _ _ _ _ (T43.setTop (mkF m 77 #[.val (.ref a1), .val (.int (Int32.ofNat ca)), .val (.int (Int32.ofNat cb)), .val (.int ([x0, x1, x2, x3].getD ca 0)), .val (.int ([x0, x1, x2, x3].getD cb 0)), .val (.int lo), .val (.int hi)] []))
          exact own_ret0 X43 hx Bd.returns (hb hby d5_77) hlk (by rw [e43]; exact ⟨rfl, NF, KP, by rw [own_mrg, hhi, hlo]; simp only [List.map_cons, List.map_nil]; rw [show own_rep hi lo x0 = lo from if_pos hc28, show own_rep hi lo x1 = x1 from if_neg hc30, show own_rep hi lo x2 = x2 from if_neg hc38, show own_rep hi lo x3 = lo from if_pos hc42]; exact V_a1⟩) (by decide) (by decide)
        · refine own_go (fun _ kt => XS.icmpYes X29.here hx rfl (pc0 := 69) (pc' := 77) rfl (hb hby d5_69) rfl (feq hc42).2 (by decide) (by decide) kt) ?_
          show own_R _ _ _ _ (T29.setTop (mkF m 77 #[.val (.ref a1), .val (.int (Int32.ofNat ca)), .val (.int (Int32.ofNat cb)), .val (.int ([x0, x1, x2, x3].getD ca 0)), .val (.int ([x0, x1, x2, x3].getD cb 0)), .val (.int lo), .val (.int hi)] []))
          exact own_ret0 X29 hx Bd.returns (hb hby d5_77) hlk (by rw [e29]; exact ⟨rfl, NF, KP, by rw [own_mrg, hhi, hlo]; simp only [List.map_cons, List.map_nil]; rw [show own_rep hi lo x0 = lo from if_pos hc28, show own_rep hi lo x1 = x1 from if_neg hc30, show own_rep hi lo x2 = x2 from if_neg hc38, show own_rep hi lo x3 = x3 from if_neg hc42]; exact V_a1⟩) (by decide) (by decide)
  · refine own_go (fun _ kt => XS.icmpYes X27.here hx rfl (pc0 := 30) (pc' := 38) rfl (hb hby d5_30) rfl (feq hc28).2 (by decide) (by decide) kt) ?_
    show own_R _ _ _ _ (T27.setTop (mkF m 38 #[.val (.ref a1), .val (.int (Int32.ofNat ca)), .val (.int (Int32.ofNat cb)), .val (.int ([x0, x1, x2, x3].getD ca 0)), .val (.int ([x0, x1, x2, x3].getD cb 0)), .val (.int lo), .val (.int hi)] []))
    refine own_go (fun _ kt => XS.aloadN X27.here hx rfl (hb hby d5_38) rfl rfl kt) ?_
    show own_R _ _ _ _ (T27.setTop (mkF m 39 #[.val (.ref a1), .val (.int (Int32.ofNat ca)), .val (.int (Int32.ofNat cb)), .val (.int ([x0, x1, x2, x3].getD ca 0)), .val (.int ([x0, x1, x2, x3].getD cb 0)), .val (.int lo), .val (.int hi)] [(.ref a1)]))
    refine own_go (fun _ kt => XS.iconst X27.here hx rfl (hb hby d5_39) kt) ?_
    show own_R _ _ _ _ (T27.setTop (mkF m 40 #[.val (.ref a1), .val (.int (Int32.ofNat ca)), .val (.int (Int32.ofNat cb)), .val (.int ([x0, x1, x2, x3].getD ca 0)), .val (.int ([x0, x1, x2, x3].getD cb 0)), .val (.int lo), .val (.int hi)] [(.int (1 : Int32)), (.ref a1)]))
    refine own_go (own_ldI X27 hx hZ e27 V_a1 (j := (1 : Int32)) (i := 1) ⟨by decide, by decide⟩ rfl (v := (.int x1)) rfl (g := (mkF m 40 #[.val (.ref a1), .val (.int (Int32.ofNat ca)), .val (.int (Int32.ofNat cb)), .val (.int ([x0, x1, x2, x3].getD ca 0)), .val (.int ([x0, x1, x2, x3].getD cb 0)), .val (.int lo), .val (.int hi)] [(.int (1 : Int32)), (.ref a1)])) rfl rfl (hb hby d5_40)) ?_
    show own_R _ _ _ _ (T27.setTop (mkF m 41 #[.val (.ref a1), .val (.int (Int32.ofNat ca)), .val (.int (Int32.ofNat cb)), .val (.int ([x0, x1, x2, x3].getD ca 0)), .val (.int ([x0, x1, x2, x3].getD cb 0)), .val (.int lo), .val (.int hi)] [(.int x1)]))
    refine own_go (fun _ kt => XS.iload X27.here hx rfl (hb hby d5_41) rfl kt) ?_
    show own_R _ _ _ _ (T27.setTop (mkF m 43 #[.val (.ref a1), .val (.int (Int32.ofNat ca)), .val (.int (Int32.ofNat cb)), .val (.int ([x0, x1, x2, x3].getD ca 0)), .val (.int ([x0, x1, x2, x3].getD cb 0)), .val (.int lo), .val (.int hi)] [(.int hi), (.int x1)]))
    by_cases hc44 : x1 = hi
    · refine own_go (fun _ kt => XS.icmpNo X27.here hx rfl (hb hby d5_43) rfl (teq hc44).2 kt) ?_
      show own_R _ _ _ _ (T27.setTop (mkF m 46 #[.val (.ref a1), .val (.int (Int32.ofNat ca)), .val (.int (Int32.ofNat cb)), .val (.int ([x0, x1, x2, x3].getD ca 0)), .val (.int ([x0, x1, x2, x3].getD cb 0)), .val (.int lo), .val (.int hi)] []))
      refine own_go (fun _ kt => XS.aloadN X27.here hx rfl (hb hby d5_46) rfl rfl kt) ?_
      show own_R _ _ _ _ (T27.setTop (mkF m 47 #[.val (.ref a1), .val (.int (Int32.ofNat ca)), .val (.int (Int32.ofNat cb)), .val (.int ([x0, x1, x2, x3].getD ca 0)), .val (.int ([x0, x1, x2, x3].getD cb 0)), .val (.int lo), .val (.int hi)] [(.ref a1)]))
      refine own_go (fun _ kt => XS.iconst X27.here hx rfl (hb hby d5_47) kt) ?_
      show own_R _ _ _ _ (T27.setTop (mkF m 48 #[.val (.ref a1), .val (.int (Int32.ofNat ca)), .val (.int (Int32.ofNat cb)), .val (.int ([x0, x1, x2, x3].getD ca 0)), .val (.int ([x0, x1, x2, x3].getD cb 0)), .val (.int lo), .val (.int hi)] [(.int (1 : Int32)), (.ref a1)]))
      refine own_go (fun _ kt => XS.iload X27.here hx rfl (hb hby d5_48) rfl kt) ?_
      show own_R _ _ _ _ (T27.setTop (mkF m 50 #[.val (.ref a1), .val (.int (Int32.ofNat ca)), .val (.int (Int32.ofNat cb)), .val (.int ([x0, x1, x2, x3].getD ca 0)), .val (.int ([x0, x1, x2, x3].getD cb 0)), .val (.int lo), .val (.int hi)] [(.int lo), (.int (1 : Int32)), (.ref a1)]))
      obtain ⟨T45, h45, sl45, X45, e45, W45, V45, st45⟩ := own_stI X27 hx hZ e27 V_a1 (j := (1 : Int32)) (i := 1) ⟨by decide, by decide⟩ rfl (Nat.le_of_ble_eq_true rfl) rfl (g := (mkF m 50 #[.val (.ref a1), .val (.int (Int32.ofNat ca)), .val (.int (Int32.ofNat cb)), .val (.int ([x0, x1, x2, x3].getD ca 0)), .val (.int ([x0, x1, x2, x3].getD cb 0)), .val (.int lo), .val (.int hi)] [(.int lo), (.int (1 : Int32)), (.ref a1)])) rfl rfl (hb hby d5_50)
      refine own_go st45 ?_
      have ZS := Nat.le_trans ZS (Keep.of_wr W45).1
      have KP := KP.wr W45 (Or.inl (List.mem_of_getElem? (i := 0) rfl))
      have NF := Fr.snoc X45 NF g_a1
      have V_a1 : Arv Z h45 a1 k1 .int (4 : Int32) [(.int x0), (.int lo), (.int x2), (.int x3)] (.int (0 : Int32)) := V45
      show own_R _ _ _ _ (T45.setTop (mkF m 51 #[.val (.ref a1), .val (.int (Int32.ofNat ca)), .val (.int (Int32.ofNat cb)), .val (.int ([x0, x1, x2, x3].getD ca 0)), .val (.int ([x0, x1, x2, x3].getD cb 0)), .val (.int lo), .val (.int hi)] []))
      refine own_go (fun _ kt => XS.aloadN X45.here hx rfl (hb hby d5_51) rfl rfl kt) ?_
      show own_R _ _ _ _ (T45.setTop (mkF m 52 #[.val (.ref a1), .val (.int (Int32.ofNat ca)), .val (.int (Int32.ofNat cb)), .val (.int ([x0, x1, x2, x3].getD ca 0)), .val (.int ([x0, x1, x2, x3].getD cb 0)), .val (.int lo), .val (.int hi)] [(.ref a1)]))
      refine own_go (fun _ kt => XS.iconst X45.here hx rfl (hb hby d5_52) kt) ?_
      show own_R _ _ _ _ (T45.setTop (mkF m 53 #[.val (.ref a1), .val (.int (Int32.ofNat ca)), .val (.int (Int32.ofNat cb)), .val (.int ([x0, x1, x2, x3].getD ca 0)), .val (.int ([x0, x1, x2, x3].getD cb 0)), .val (.int lo), .val (.int hi)] [(.int (2 : Int32)), (.ref a1)]))
      refine own_go (own_ldI X45 hx hZ e45 V_a1 (j := (2 : Int32)) (i := 2) ⟨by decide, by decide⟩ rfl (v := (.int x2)) rfl (g := (mkF m 53 #[.val (.ref a1), .val (.int (Int32.ofNat ca)), .val (.int (Int32.ofNat cb)), .val (.int ([x0, x1, x2, x3].getD ca 0)), .val (.int ([x0, x1, x2, x3].getD cb 0)), .val (.int lo), .val (.int hi)] [(.int (2 : Int32)), (.ref a1)])) rfl rfl (hb hby d5_53)) ?_
      show own_R _ _ _ _ (T45.setTop (mkF m 54 #[.val (.ref a1), .val (.int (Int32.ofNat ca)), .val (.int (Int32.ofNat cb)), .val (.int ([x0, x1, x2, x3].getD ca 0)), .val (.int ([x0, x1, x2, x3].getD cb 0)), .val (.int lo), .val (.int hi)] [(.int x2)]))
      refine own_go (fun _ kt => XS.iload X45.here hx rfl (hb hby d5_54) rfl kt) ?_
      show own_R _ _ _ _ (T45.setTop (mkF m 56 #[.val (.ref a1), .val (.int (Int32.ofNat ca)), .val (.int (Int32.ofNat cb)), .val (.int ([x0, x1, x2, x3].getD ca 0)), .val (.int ([x0, x1, x2, x3].getD cb 0)), .val (.int lo), .val (.int hi)] [(.int hi), (.int x2)]))
      by_cases hc46 : x2 = hi
      · refine own_go (fun _ kt => XS.icmpNo X45.here hx rfl (hb hby d5_56) rfl (teq hc46).2 kt) ?_
        show own_R _ _ _ _ (T45.setTop (mkF m 59 #[.val (.ref a1), .val (.int (Int32.ofNat ca)), .val (.int (Int32.ofNat cb)), .val (.int ([x0, x1, x2, x3].getD ca 0)), .val (.int ([x0, x1, x2, x3].getD cb 0)), .val (.int lo), .val (.int hi)] []))
        refine own_go (fun _ kt => XS.aloadN X45.here hx rfl (hb hby d5_59) rfl rfl kt) ?_
        show own_R _ _ _ _ (T45.setTop (mkF m 60 #[.val (.ref a1), .val (.int (Int32.ofNat ca)), .val (.int (Int32.ofNat cb)), .val (.int ([x0, x1, x2, x3].getD ca 0)), .val (.int ([x0, x1, x2, x3].getD cb 0)), .val (.int lo), .val (.int hi)] [(.ref a1)]))
        refine own_go (fun _ kt => XS.iconst X45.here hx rfl (hb hby d5_60) kt) ?_
        show own_R _ _ _ _ (T45.setTop (mkF m 61 #[.val (.ref a1), .val (.int (Int32.ofNat ca)), .val (.int (Int32.ofNat cb)), .val (.int ([x0, x1, x2, x3].getD ca 0)), .val (.int ([x0, x1, x2, x3].getD cb 0)), .val (.int lo), .val (.int hi)] [(.int (2 : Int32)), (.ref a1)]))
        refine own_go (fun _ kt => XS.iload X45.here hx rfl (hb hby d5_61) rfl kt) ?_
        show own_R _ _ _ _ (T45.setTop (mkF m 63 #[.val (.ref a1), .val (.int (Int32.ofNat ca)), .val (.int (Int32.ofNat cb)), .val (.int ([x0, x1, x2, x3].getD ca 0)), .val (.int ([x0, x1, x2, x3].getD cb 0)), .val (.int lo), .val (.int hi)] [(.int lo), (.int (2 : Int32)), (.ref a1)]))
        obtain ⟨T47, h47, sl47, X47, e47, W47, V47, st47⟩ := own_stI X45 hx hZ e45 V_a1 (j := (2 : Int32)) (i := 2) ⟨by decide, by decide⟩ rfl (Nat.le_of_ble_eq_true rfl) rfl (g := (mkF m 63 #[.val (.ref a1), .val (.int (Int32.ofNat ca)), .val (.int (Int32.ofNat cb)), .val (.int ([x0, x1, x2, x3].getD ca 0)), .val (.int ([x0, x1, x2, x3].getD cb 0)), .val (.int lo), .val (.int hi)] [(.int lo), (.int (2 : Int32)), (.ref a1)])) rfl rfl (hb hby d5_63)
        refine own_go st47 ?_
        have ZS := Nat.le_trans ZS (Keep.of_wr W47).1
        have KP := KP.wr W47 (Or.inl (List.mem_of_getElem? (i := 0) rfl))
        have NF := Fr.snoc X47 NF g_a1
        have V_a1 : Arv Z h47 a1 k1 .int (4 : Int32) [(.int x0), (.int lo), (.int lo), (.int x3)] (.int (0 : Int32)) := V47
        show own_R _ _ _ _ (T47.setTop (mkF m 64 #[.val (.ref a1), .val (.int (Int32.ofNat ca)), .val (.int (Int32.ofNat cb)), .val (.int ([x0, x1, x2, x3].getD ca 0)), .val (.int ([x0, x1, x2, x3].getD cb 0)), .val (.int lo), .val (.int hi)] []))
        refine own_go (fun _ kt => XS.aloadN X47.here hx rfl (hb hby d5_64) rfl rfl kt) ?_
        show own_R _ _ _ _ (T47.setTop (mkF m 65 #[.val (.ref a1), .val (.int (Int32.ofNat ca)), .val (.int (Int32.ofNat cb)), .val (.int ([x0, x1, x2, x3].getD ca 0)), .val (.int ([x0, x1, x2, x3].getD cb 0)), .val (.int lo), .val (.int hi)] [(.ref a1)]))
        refine own_go (fun _ kt => XS.iconst X47.here hx rfl (hb hby d5_65) kt) ?_
        show own_R _ _ _ _ (T47.setTop (mkF m 66 #[.val (.ref a1), .val (.int (Int32.ofNat ca)), .val (.int (Int32.ofNat cb)), .val (.int ([x0, x1, x2, x3].getD ca 0)), .val (.int ([x0, x1, x2, x3].getD cb 0)), .val (.int lo), .val (.int hi)] [(.int (3 : Int32)), (.ref a1)]))
        refine own_go (own_ldI X47 hx hZ e47 V_a1 (j := (3 : Int32)) (i := 3) ⟨by decide, by decide⟩ rfl (v := (.int x3)) rfl (g := (mkF m 66 #[.val (.ref a1), .val (.int (Int32.ofNat ca)), .val (.int (Int32.ofNat cb)), .val (.int ([x0, x1, x2, x3].getD ca 0)), .val (.int ([x0, x1, x2, x3].getD cb 0)), .val (.int lo), .val (.int hi)] [(.int (3 : Int32)), (.ref a1)])) rfl rfl (hb hby d5_66)) ?_
        show own_R _ _ _ _ (T47.setTop (mkF m 67 #[.val (.ref a1), .val (.int (Int32.ofNat ca)), .val (.int (Int32.ofNat cb)), .val (.int ([x0, x1, x2, x3].getD ca 0)), .val (.int ([x0, x1, x2, x3].getD cb 0)), .val (.int lo), .val (.int hi)] [(.int x3)]))
        refine own_go (fun _ kt => XS.iload X47.here hx rfl (hb hby d5_67) rfl kt) ?_
        show own_R _ _ _ _ (T47.setTop (mkF m 69 #[.val (.ref a1), .val (.int (Int32.ofNat ca)), .val (.int (Int32.ofNat cb)), .val (.int ([x0, x1, x2, x3].getD ca 0)), .val (.int ([x0, x1, x2, x3].getD cb 0)), .val (.int lo), .val (.int hi)] [(.int hi), (.int x3)]))
        by_cases hc48 : x3 = hi
        · refine own_go (fun _ kt => XS.icmpNo X47.here hx rfl (hb hby d5_69) rfl (teq hc48).2 kt) ?_
          show own_R _ _ _ _ (T47.setTop (mkF m 72 #[.val (.ref a1), .val (.int (Int32.ofNat ca)), .val (.int (Int32.ofNat cb)), .val (.int ([x0, x1, x2, x3].getD ca 0)), .val (.int ([x0, x1, x2, x3].getD cb 0)), .val (.int lo), .val (.int hi)] []))
          refine own_go (fun _ kt => XS.aloadN X47.here hx rfl (hb hby d5_72) rfl rfl kt) ?_
          show own_R _ _ _ _ (T47.setTop (mkF m 73 #[.val (.ref a1), .val (.int (Int32.ofNat ca)), .val (.int (Int32.ofNat cb)), .val (.int ([x0, x1, x2, x3].getD ca 0)), .val (.int ([x0, x1, x2, x3].getD cb 0)), .val (.int lo), .val (.int hi)] [(.ref a1)]))
          refine own_go (fun _ kt => XS.iconst X47.here hx rfl (hb hby d5_73) kt) ?_
          show own_R _ _ _ _ (T47.setTop (mkF m 74 #[.val (.ref a1), .val (.int (Int32.ofNat ca)), .val (.int (Int32.ofNat cb)), .val (.int ([x0, x1, x2, x3].getD ca 0)), .val (.int ([x0, x1, x2, x3].getD cb 0)), .val (.int lo), .val (.int hi)] [(.int (3 : Int32)), (.ref a1)]))
          refine own_go (fun _ kt => XS.iload X47.here hx rfl (hb hby d5_74) rfl kt) ?_
          show own_R _ _ _ _ (T47.setTop (mkF m 76 #[.val (.ref a1), .val (.int (Int32.ofNat ca)), .val (.int (Int32.ofNat cb)), .val (.int ([x0, x1, x2, x3].getD ca 0)), .val (.int ([x0, x1, x2, x3].getD cb 0)), .val (.int lo), .val (.int hi)] [(.int lo), (.int (3 : Int32)), (.ref a1)]))
          obtain ⟨T49, h49, sl49, X49, e49, W49, V49, st49⟩ := own_stI X47 hx hZ e47 V_a1 (j := (3 : Int32)) (i := 3) ⟨by decide, by decide⟩ rfl (Nat.le_of_ble_eq_true rfl) rfl (g := (mkF m 76 #[.val (.ref a1), .val (.int (Int32.ofNat ca)), .val (.int (Int32.ofNat cb)), .val (.int ([x0, x1, x2, x3].getD ca 0)), .val (.int ([x0, x1, x2, x3].getD cb 0)), .val (.int lo), .val (.int hi)] [(.int lo), (.int (3 : Int32)), (.ref a1)])) rfl rfl (hb hby d5_76)
          refine own_go st49 ?_
          have ZS := Nat.le_trans ZS (Keep.of_wr W49).1
          have KP := KP.wr W49 (Or.inl (List.mem_of_getElem? (i := 0) rfl))
          have NF := Fr.snoc X49 NF g_a1
          have V_a1 : Arv Z h49 a1 k1 .int (4 : Int32) [(.int x0), (.int lo), (.int lo), (.int lo)] (.int (0 : Int32)) := V49
          show own_R _ _ _ _ (T49.setTop (mkF m 77 #[.val (.ref a1), .val (.int (Int32.ofNat ca)), .val (.int (Int32.ofNat cb)), .val (.int ([x0, x1, x2, x3].getD ca 0)), .val (.int ([x0, x1, x2, x3].getD cb 0)), .val (.int lo), .val (.int hi)] []))
          exact own_ret0 X49 hx Bd.returns (hb hby d5_77) hlk (by rw [e49]; exact ⟨rfl, NF, KP, by rw [own_mrg, hhi, hlo]; simp only [List.map_cons, List.map_nil]; rw [show own_rep hi lo x0 = x0 from if_neg hc28, show own_rep hi lo x1 = lo from if_pos hc44, show own_rep hi lo x2 = lo from if_pos hc46, show own_rep hi lo x3 = lo from if_pos hc48]; exact V_a1⟩) (by decide) (by decide)
        · refine own_go (fun _ kt => XS.icmpYes X47.here hx rfl (pc0 := 69) (pc' := 77) rfl (hb hby d5_69) rfl (feq hc48).2 (by decide) (by decide) kt) ?_
          show own_R _ _ _ _ (T47.setTop (mkF m 77 #[.val (.ref a1), .val (.int (Int32.ofNat ca)), .val (.int (Int32.ofNat cb)), .val (.int ([x0, x1, x2, x3].getD ca 0)), .val (.int ([x0, x1, x2, x3].getD cb 0)), .val (.int lo), .val (.int hi)] []))
          exact own_ret0 X47 hx Bd.returns (hb hby d5_77) hlk (by rw [e47]; exact ⟨rfl, NF, KP, by rw [own_mrg, hhi, hlo]; simp only [List.map_cons, List.map_nil]; rw [show own_rep hi lo x0 = x0 from if_neg hc28, show own_rep hi lo x1 = lo from if_pos hc44, show own_rep hi lo x2 = lo from if_pos hc46, show own_rep hi lo x3 = x3 from if_neg hc48]; exact V_a1⟩) (by decide) (by decide)
      · refine own_go (fun _ kt => XS.icmpYes X45.here hx rfl (pc0 := 56) (pc' := 64) rfl (hb hby d5_56) rfl (feq hc46).2 (by decide) (by decide) kt) ?_
        show own_R _ _ _ _ (T45.setTop (mkF m 64 #[.val (.ref a1), .val (.int (Int32.ofNat ca)), .val (.int (Int32.ofNat cb)), .val (.int ([x0, x1, x2, x3].getD ca 0)), .val (.int ([x0, x1, x2, x3].getD cb 0)), .val (.int lo), .val (.int hi)] []))
        refine own_go (fun _ kt => XS.aloadN X45.here hx rfl (hb hby d5_64) rfl rfl kt) ?_
        show own_R _ _ _ _ (T45.setTop (mkF m 65 #[.val (.ref a1), .val (.int (Int32.ofNat ca)), .val (.int (Int32.ofNat cb)), .val (.int ([x0, x1, x2, x3].getD ca 0)), .val (.int ([x0, x1, x2, x3].getD cb 0)), .val (.int lo), .val (.int hi)] [(.ref a1)]))
        refine own_go (fun _ kt => XS.iconst X45.here hx rfl (hb hby d5_65) kt) ?_
        show own_R _ _ _ _ (T45.setTop (mkF m 66 #[.val (.ref a1), .val (.int (Int32.ofNat ca)), .val (.int (Int32.ofNat cb)), .val (.int ([x0, x1, x2, x3].getD ca 0)), .val (.int ([x0, x1, x2, x3].getD cb 0)), .val (.int lo), .val (.int hi)] [(.int (3 : Int32)), (.ref a1)]))
        refine own_go (own_ldI X45 hx hZ e45 V_a1 (j := (3 : Int32)) (i := 3) ⟨by decide, by decide⟩ rfl (v := (.int x3)) rfl (g := (mkF m 66 #[.val (.ref a1), .val (.int (Int32.ofNat ca)), .val (.int (Int32.ofNat cb)), .val (.int ([x0, x1, x2, x3].getD ca 0)), .val (.int ([x0, x1, x2, x3].getD cb 0)), .val (.int lo), .val (.int hi)] [(.int (3 : Int32)), (.ref a1)])) rfl rfl (hb hby d5_66)) ?_
        show own_R _ _ _ _ (T45.setTop (mkF m 67 #[.val (.ref a1), .val (.int (Int32.ofNat ca)), .val (.int (Int32.ofNat cb)), .val (.int ([x0, x1, x2, x3].getD ca 0)), .val (.int ([x0, x1, x2, x3].getD cb 0)), .val (.int lo), .val (.int hi)] [(.int x3)]))
        refine own_go (fun _ kt => XS.iload X45.here hx rfl (hb hby d5_67) rfl kt) ?_
        show own_R _ _ _ _ (T45.setTop (mkF m 69 #[.val (.ref a1), .val (.int (Int32.ofNat ca)), .val (.int (Int32.ofNat cb)), .val (.int ([x0, x1, x2, x3].getD ca 0)), .val (.int ([x0, x1, x2, x3].getD cb 0)), .val (.int lo), .val (.int hi)] [(.int hi), (.int x3)]))
        by_cases hc50 : x3 = hi
        · refine own_go (fun _ kt => XS.icmpNo X45.here hx rfl (hb hby d5_69) rfl (teq hc50).2 kt) ?_
          show own_R _ _ _ _ (T45.setTop (mkF m 72 #[.val (.ref a1), .val (.int (Int32.ofNat ca)), .val (.int (Int32.ofNat cb)), .val (.int ([x0, x1, x2, x3].getD ca 0)), .val (.int ([x0, x1, x2, x3].getD cb 0)), .val (.int lo), .val (.int hi)] []))
          refine own_go (fun _ kt => XS.aloadN X45.here hx rfl (hb hby d5_72) rfl rfl kt) ?_
          show own_R _ _ _ _ (T45.setTop (mkF m 73 #[.val (.ref a1), .val (.int (Int32.ofNat ca)), .val (.int (Int32.ofNat cb)), .val (.int ([x0, x1, x2, x3].getD ca 0)), .val (.int ([x0, x1, x2, x3].getD cb 0)), .val (.int lo), .val (.int hi)] [(.ref a1)]))
          refine own_go (fun _ kt => XS.iconst X45.here hx rfl (hb hby d5_73) kt) ?_
          show own_R _ _ _ _ (T45.setTop (mkF m 74 #[.val (.ref a1), .val (.int (Int32.ofNat ca)), .val (.int (Int32.ofNat cb)), .val (.int ([x0, x1, x2, x3].getD ca 0)), .val (.int ([x0, x1, x2, x3].getD cb 0)), .val (.int lo), .val (.int hi)] [(.int (3 : Int32)), (.ref a1)]))
          refine own_go (fun _ kt => XS.iload X45.here hx rfl (hb hby d5_74) rfl kt) ?_
          show own_R _ _ _ _ (T45.setTop (mkF m 76 #[.val (.ref a1), .val (.int (Int32.ofNat ca)), .val (.int (Int32.ofNat cb)), .val (.int ([x0, x1, x2, x3].getD ca 0)), .val (.int ([x0, x1, x2, x3].getD cb 0)), .val (.int lo), .val (.int hi)] [(.int lo), (.int (3 : Int32)), (.ref a1)]))
          obtain ⟨T51, h51, sl51, X51, e51, W51, V51, st51⟩ := own_stI X45 hx hZ e45 V_a1 (j := (3 : Int32)) (i := 3) ⟨by decide, by decide⟩ rfl (Nat.le_of_ble_eq_true rfl) rfl (g := (mkF m 76 #[.val (.ref a1), .val (.int (Int32.ofNat ca)), .val (.int (Int32.ofNat cb)), .val (.int ([x0, x1, x2, x3].getD ca 0)), .val (.int ([x0, x1, x2, x3].getD cb 0)), .val (.int lo), .val (.int hi)] [(.int lo), (.int (3 : Int32)), (.ref a1)])) rfl rfl (hb hby d5_76)
          refine own_go st51 ?_
          have ZS := Nat.le_trans ZS (Keep.of_wr W51).1
          have KP := KP.wr W51 (Or.inl (List.mem_of_getElem? (i := 0) rfl))
          have NF := Fr.snoc X51 NF g_a1
          have V_a1 : Arv Z h51 a1 k1 .int (4 : Int32) [(.int x0), (.int lo), (.int x2), (.int lo)] (.int (0 : Int32)) := V51
          show own_R _ _ _ _ (T51.setTop (mkF m 77 #[.val (.ref a1), .val (.int (Int32.ofNat ca)), .val (.int (Int32.ofNat cb)), .val (.int ([x0, x1, x2, x3].getD ca 0)), .val (.int ([x0, x1, x2, x3].getD cb 0)), .val (.int lo), .val (.int hi)] []))
          exact own_ret0 X51 hx Bd.returns (hb hby d5_77) hlk (by rw [e51]; exact ⟨rfl, NF, KP, by rw [own_mrg, hhi, hlo]; simp only [List.map_cons, List.map_nil]; rw [show own_rep hi lo x0 = x0 from if_neg hc28, show own_rep hi lo x1 = lo from if_pos hc44, show own_rep hi lo x2 = x2 from if_neg hc46, show own_rep hi lo x3 = lo from if_pos hc50]; exact V_a1⟩) (by decide) (by decide)
        · refine own_go (fun _ kt => XS.icmpYes X45.here hx rfl (pc0 := 69) (pc' := 77) rfl (hb hby d5_69) rfl (feq hc50).2 (by decide) (by decide) kt) ?_
          show own_R _ _ _ _ (T45.setTop (mkF m 77 #[.val (.ref a1), .val (.int (Int32.ofNat ca)), .val (.int (Int32.ofNat cb)), .val (.int ([x0, x1, x2, x3].getD ca 0)), .val (.int ([x0, x1, x2, x3].getD cb 0)), .val (.int lo), .val (.int hi)] []))
          exact own_ret0 X45 hx Bd.returns (hb hby d5_77) hlk (by rw [e45]; exact ⟨rfl, NF, KP, by rw [own_mrg, hhi, hlo]; simp only [List.map_cons, List.map_nil]; rw [show own_rep hi lo x0 = x0 from if_neg hc28, show own_rep hi lo x1 = lo from if_pos hc44, show own_rep hi lo x2 = x2 from if_neg hc46, show own_rep hi lo x3 = x3 from if_neg hc50]; exact V_a1⟩) (by decide) (by decide)
    · refine own_go (fun _ kt => XS.icmpYes X27.here hx rfl (pc0 := 43) (pc' := 51) rfl (hb hby d5_43) rfl (feq hc44).2 (by decide) (by decide) kt) ?_
      show own_R _ _ _ _ (T27.setTop (mkF m 51 #[.val (.ref a1), .val (.int (Int32.ofNat ca)), .val (.int (Int32.ofNat cb)), .val (.int ([x0, x1, x2, x3].getD ca 0)), .val (.int ([x0, x1, x2, x3].getD cb 0)), .val (.int lo), .val (.int hi)] []))
      refine own_go (fun _ kt => XS.aloadN X27.here hx rfl (hb hby d5_51) rfl rfl kt) ?_
      show own_R _ _ _ _ (T27.setTop (mkF m 52 #[.val (.ref a1), .val (.int (Int32.ofNat ca)), .val (.int (Int32.ofNat cb)), .val (.int ([x0, x1, x2, x3].getD ca 0)), .val (.int ([x0, x1, x2, x3].getD cb 0)), .val (.int lo), .val (.int hi)] [(.ref a1)]))
      refine own_go (fun _ kt => XS.iconst X27.here hx rfl (hb hby d5_52) kt) ?_
      show own_R _ _ _ _ (T27.setTop (mkF m 53 #[.val (.ref a1), .val (.int (Int32.ofNat ca)), .val (.int (Int32.ofNat cb)), .val (.int ([x0, x1, x2, x3].getD ca 0)), .val (.int ([x0, x1, x2, x3].getD cb 0)), .val (.int lo), .val (.int hi)] [(.int (2 : Int32)), (.ref a1)]))
      refine own_go (own_ldI X27 hx hZ e27 V_a1 (j := (2 : Int32)) (i := 2) ⟨by decide, by decide⟩ rfl (v := (.int x2)) rfl (g := (mkF m 53 #[.val (.ref a1), .val (.int (Int32.ofNat ca)), .val (.int (Int32.ofNat cb)), .val (.int ([x0, x1, x2, x3].getD ca 0)), .val (.int ([x0, x1, x2, x3].getD cb 0)), .val (.int lo), .val (.int hi)] [(.int (2 : Int32)), (.ref a1)])) rfl rfl (hb hby d5_53)) ?_
      show own_R _ _ _ _ (T27.setTop (mkF m 54 #[.val (.ref a1), .val (.int (Int32.ofNat ca)), .val (.int (Int32.ofNat cb)), .val (.int ([x0, x1, x2, x3].getD ca 0)), .val (.int ([x0, x1, x2, x3].getD cb 0)), .val (.int lo), .val (.int hi)] [(.int x2)]))
      refine own_go (fun _ kt => XS.iload X27.here hx rfl (hb hby d5_54) rfl kt) ?_
      show own_R _ _ _ _ (T27.setTop (mkF m 56 #[.val (.ref a1), .val (.int (Int32.ofNat ca)), .val (.int (Int32.ofNat cb)), .val (.int ([x0, x1, x2, x3].getD ca 0)), .val (.int ([x0, x1, x2, x3].getD cb 0)), .val (.int lo), .val (.int hi)] [(.int hi), (.int x2)]))
      by_cases hc52 : x2 = hi
      · refine own_go (fun _ kt => XS.icmpNo X27.here hx rfl (hb hby d5_56) rfl (teq hc52).2 kt) ?_
        show own_R _ _ _ _ (T27.setTop (mkF m 59 #[.val (.ref a1), .val (.int (Int32.ofNat ca)), .val (.int (Int32.ofNat cb)), .val (.int ([x0, x1, x2, x3].getD ca 0)), .val (.int ([x0, x1, x2, x3].getD cb 0)), .val (.int lo), .val (.int hi)] []))
        refine own_go (fun _ kt => XS.aloadN X27.here hx rfl (hb hby d5_59) rfl rfl kt) ?_
        show own_R _ _ _ _ (T27.setTop (mkF m 60 #[.val (.ref a1), .val (.int (Int32.ofNat ca)), .val (.int (Int32.ofNat cb)), .val (.int ([x0, x1, x2, x3].getD ca 0)), .val (.int ([x0, x1, x2, x3].getD cb 0)), .val (.int lo), .val (.int hi)] [(.ref a1)]))
        refine own_go (fun _ kt => XS.iconst X27.here hx rfl (hb hby d5_60) kt) ?_
        show own_R _ _ _ _ (T27.setTop (mkF m 61 #[.val (.ref a1), .val (.int (Int32.ofNat ca)), .val (.int (Int32.ofNat cb)), .val (.int ([x0, x1, x2, x3].getD ca 0)), .val (.int ([x0, x1, x2, x3].getD cb 0)), .val (.int lo), .val (.int hi)] [(.int (2 : Int32)), (.ref a1)]))
        refine own_go (fun _ kt => XS.iload X27.here hx rfl (hb hby d5_61) rfl kt) ?_
        show own_R _ _ _ _ (T27.setTop (mkF m 63 #[.val (.ref a1), .val (.int (Int32.ofNat ca)), .val (.int (Int32.ofNat cb)), .val (.int ([x0, x1, x2, x3].getD ca 0)), .val (.int ([x0, x1, x2, x3].getD cb 0)), .val (.int lo), .val (.int hi)] [(.int lo), (.int (2 : Int32)), (.ref a1)]))
        obtain ⟨T53, h53, sl53, X53, e53, W53, V53, st53⟩ := own_stI X27 hx hZ e27 V_a1 (j := (2 : Int32)) (i := 2) ⟨by decide, by decide⟩ rfl (Nat.le_of_ble_eq_true rfl) rfl (g := (mkF m 63 #[.val (.ref a1), .val (.int (Int32.ofNat ca)), .val (.int (Int32.ofNat cb)), .val (.int ([x0, x1, x2, x3].getD ca 0)), .val (.int ([x0, x1, x2, x3].getD cb 0)), .val (.int lo), .val (.int hi)] [(.int lo), (.int (2 : Int32)), (.ref a1)])) rfl rfl (hb hby d5_63)
        refine own_go st53 ?_
        have ZS := Nat.le_trans ZS (Keep.of_wr W53).1
        have KP := KP.wr W53 (Or.inl (List.mem_of_getElem? (i := 0) rfl))
        have NF := Fr.snoc X53 NF g_a1
        have V_a1 : Arv Z h53 a1 k1 .int (4 : Int32) [(.int x0), (.int x1), (.int lo), (.int x3)] (.int (0 : Int32)) := V53
        show own_R _ _ _ _ (T53.setTop (mkF m 64 #[.val (.ref a1), .val (.int (Int32.ofNat ca)), .val (.int (Int32.ofNat cb)), .val (.int ([x0, x1, x2, x3].getD ca 0)), .val (.int ([x0, x1, x2, x3].getD cb 0)), .val (.int lo), .val (.int hi)] []))
        refine own_go (fun _ kt => XS.aloadN X53.here hx rfl (hb hby d5_64) rfl rfl kt) ?_
        show own_R _ _ _ _ (T53.setTop (mkF m 65 #[.val (.ref a1), .val (.int (Int32.ofNat ca)), .val (.int (Int32.ofNat cb)), .val (.int ([x0, x1, x2, x3].getD ca 0)), .val (.int ([x0, x1, x2, x3].getD cb 0)), .val (.int lo), .val (.int hi)] [(.ref a1)]))
        refine own_go (fun _ kt => XS.iconst X53.here hx rfl (hb hby d5_65) kt) ?_
        show own_R _ _ _ _ (T53.setTop (mkF m 66 #[.val (.ref a1), .val (.int (Int32.ofNat ca)), .val (.int (Int32.ofNat cb)), .val (.int ([x0, x1, x2, x3].getD ca 0)), .val (.int ([x0, x1, x2, x3].getD cb 0)), .val (.int lo), .val (.int hi)] [(.int (3 : Int32)), (.ref a1)]))
        refine own_go (own_ldI X53 hx hZ e53 V_a1 (j := (3 : Int32)) (i := 3) ⟨by decide, by decide⟩ rfl (v := (.int x3)) rfl (g := (mkF m 66 #[.val (.ref a1), .val (.int (Int32.ofNat ca)), .val (.int (Int32.ofNat cb)), .val (.int ([x0, x1, x2, x3].getD ca 0)), .val (.int ([x0, x1, x2, x3].getD cb 0)), .val (.int lo), .val (.int hi)] [(.int (3 : Int32)), (.ref a1)])) rfl rfl (hb hby d5_66)) ?_
        show own_R _ _ _ _ (T53.setTop (mkF m 67 #[.val (.ref a1), .val (.int (Int32.ofNat ca)), .val (.int (Int32.ofNat cb)), .val (.int ([x0, x1, x2, x3].getD ca 0)), .val (.int ([x0, x1, x2, x3].getD cb 0)), .val (.int lo), .val (.int hi)] [(.int x3)]))
        refine own_go (fun _ kt => XS.iload X53.here hx rfl (hb hby d5_67) rfl kt) ?_
        show own_R _ _ _ _ (T53.setTop (mkF m 69 #[.val (.ref a1), .val (.int (Int32.ofNat ca)), .val (.int (Int32.ofNat cb)), .val (.int ([x0, x1, x2, x3].getD ca 0)), .val (.int ([x0, x1, x2, x3].getD cb 0)), .val (.int lo), .val (.int hi)] [(.int hi), (.int x3)]))
        by_cases hc54 : x3 = hi
        · refine own_go (fun _ kt => XS.icmpNo X53.here hx rfl (hb hby d5_69) rfl (teq hc54).2 kt) ?_
          show own_R _ _ _ _ (T53.setTop (mkF m 72 #[.val (.ref a1), .val (.int (Int32.ofNat ca)), .val (.int (Int32.ofNat cb)), .val (.int ([x0, x1, x2, x3].getD ca 0)), .val (.int ([x0, x1, x2, x3].getD cb 0)), .val (.int lo), .val (.int hi)] []))
          refine own_go (fun _ kt => XS.aloadN X53.here hx rfl (hb hby d5_72) rfl rfl kt) ?_
          show own_R _ _ _ _ (T53.setTop (mkF m 73 #[.val (.ref a1), .val (.int (Int32.ofNat ca)), .val (.int (Int32.ofNat cb)), .val (.int ([x0, x1, x2, x3].getD ca 0)), .val (.int ([x0, x1, x2, x3].getD cb 0)), .val (.int lo), .val (.int hi)] [(.ref a1)]))
          refine own_go (fun _ kt => XS.iconst X53.here hx rfl (hb hby d5_73) kt) ?_
          show own_R _ _ _ _ (T53.setTop (mkF m 74 #[.val (.ref a1), .val (.int (Int32.ofNat ca)), .val (.int (Int32.ofNat cb)), .val (.int ([x0, x1, x2, x3].getD ca 0)), .val (.int ([x0, x1, x2, x3].getD cb 0)), .val (.int lo), .val (.int hi)] [(.int (3 : Int32)), (.ref a1)]))
          refine own_go (fun _ kt => XS.iload X53.here hx rfl (hb hby d5_74) rfl kt) ?_
          show own_R _ _ _ _ (T53.setTop (mkF m 76 #[.val (.ref a1), .val (.int (Int32.ofNat ca)), .val (.int (Int32.ofNat cb)), .val (.int ([x0, x1, x2, x3].getD ca 0)), .val (.int ([x0, x1, x2, x3].getD cb 0)), .val (.int lo), .val (.int hi)] [(.int lo), (.int (3 : Int32)), (.ref a1)]))
          obtain ⟨T55, h55, sl55, X55, e55, W55, V55, st55⟩ := own_stI X53 hx hZ e53 V_a1 (j := (3 : Int32)) (i := 3) ⟨by decide, by decide⟩ rfl (Nat.le_of_ble_eq_true rfl) rfl (g := (mkF m 76 #[.val (.ref a1), .val (.int (Int32.ofNat ca)), .val (.int (Int32.ofNat cb)), .val (.int ([x0, x1, x2, x3].getD ca 0)), .val (.int ([x0, x1, x2, x3].getD cb 0)), .val (.int lo), .val (.int hi)] [(.int lo), (.int (3 : Int32)), (.ref a1)])) rfl rfl (hb hby d5_76)
          refine own_go st55 ?_
          have ZS := Nat.le_trans ZS (Keep.of_wr W55).1
          have KP := KP.wr W55 (Or.inl (List.mem_of_getElem? (i := 0) rfl))
          have NF := Fr.snoc X55 NF g_a1
          have V_a1 : Arv Z h55 a1 k1 .int (4 : Int32) [(.int x0), (.int x1), (.int lo), (.int lo)] (.int (0 : Int32)) := V55
          show own_R _ _ _ _ (T55.setTop (mkF m 77 #[.val (.ref a1), .val (.int (Int32.ofNat ca)), .val (.int (Int32.ofNat cb)), .val (.int ([x0, x1, x2, x3].getD ca 0)), .val (.int ([x0, x1, x2, x3].getD cb 0)), .val (.int lo), .val (.int hi)] []))
          exact own_ret0 X55 hx Bd.returns (hb hby d5_77) hlk (by rw [e55]; exact ⟨rfl, NF, KP, by rw [own_mrg, hhi, hlo]; simp only [List.map_cons, List.map_nil]; rw [show own_rep hi lo x0 = x0 from if_neg hc28, show own_rep hi lo x1 = x1 from if_neg hc44, show own_rep hi lo x2 = lo from if_pos hc52, show own_rep hi lo x3 = lo from if_pos hc54]; exact V_a1⟩) (by decide) (by decide)
        · refine own_go (fun _ kt => XS.icmpYes X53.here hx rfl (pc0 := 69) (pc' := 77) rfl (hb hby d5_69) rfl (feq hc54).2 (by decide) (by decide) kt) ?_
          show own_R _ _ _ _ (T53.setTop (mkF m 77 #[.val (.ref a1), .val (.int (Int32.ofNat ca)), .val (.int (Int32.ofNat cb)), .val (.int ([x0, x1, x2, x3].getD ca 0)), .val (.int ([x0, x1, x2, x3].getD cb 0)), .val (.int lo), .val (.int hi)] []))
          exact own_ret0 X53 hx Bd.returns (hb hby d5_77) hlk (by rw [e53]; exact ⟨rfl, NF, KP, by rw [own_mrg, hhi, hlo]; simp only [List.map_cons, List.map_nil]; rw [show own_rep hi lo x0 = x0 from if_neg hc28, show own_rep hi lo x1 = x1 from if_neg hc44, show own_rep hi lo x2 = lo from if_pos hc52, show own_rep hi lo x3 = x3 from if_neg hc54]; exact V_a1⟩) (by decide) (by decide)
      · refine own_go (fun _ kt => XS.icmpYes X27.here hx rfl (pc0 := 56) (pc' := 64) rfl (hb hby d5_56) rfl (feq hc52).2 (by decide) (by decide) kt) ?_
        show own_R _ _ _ _ (T27.setTop (mkF m 64 #[.val (.ref a1), .val (.int (Int32.ofNat ca)), .val (.int (Int32.ofNat cb)), .val (.int ([x0, x1, x2, x3].getD ca 0)), .val (.int ([x0, x1, x2, x3].getD cb 0)), .val (.int lo), .val (.int hi)] []))
        refine own_go (fun _ kt => XS.aloadN X27.here hx rfl (hb hby d5_64) rfl rfl kt) ?_
        show own_R _ _ _ _ (T27.setTop (mkF m 65 #[.val (.ref a1), .val (.int (Int32.ofNat ca)), .val (.int (Int32.ofNat cb)), .val (.int ([x0, x1, x2, x3].getD ca 0)), .val (.int ([x0, x1, x2, x3].getD cb 0)), .val (.int lo), .val (.int hi)] [(.ref a1)]))
        refine own_go (fun _ kt => XS.iconst X27.here hx rfl (hb hby d5_65) kt) ?_
        show own_R _ _ _ _ (T27.setTop (mkF m 66 #[.val (.ref a1), .val (.int (Int32.ofNat ca)), .val (.int (Int32.ofNat cb)), .val (.int ([x0, x1, x2, x3].getD ca 0)), .val (.int ([x0, x1, x2, x3].getD cb 0)), .val (.int lo), .val (.int hi)] [(.int (3 : Int32)), (.ref a1)]))
        refine own_go (own_ldI X27 hx hZ e27 V_a1 (j := (3 : Int32)) (i := 3) ⟨by decide, by decide⟩ rfl (v := (.int x3)) rfl (g := (mkF m 66 #[.val (.ref a1), .val (.int (Int32.ofNat ca)), .val (.int (Int32.ofNat cb)), .val (.int ([x0, x1, x2, x3].getD ca 0)), .val (.int ([x0, x1, x2, x3].getD cb 0)), .val (.int lo), .val (.int hi)] [(.int (3 : Int32)), (.ref a1)])) rfl rfl (hb hby d5_66)) ?_
        show own_R _ _ _ _ (T27.setTop (mkF m 67 #[.val (.ref a1), .val (.int (Int32.ofNat ca)), .val (.int (Int32.ofNat cb)), .val (.int ([x0, x1, x2, x3].getD ca 0)), .val (.int ([x0, x1, x2, x3].getD cb 0)), .val (.int lo), .val (.int hi)] [(.int x3)]))
        refine own_go (fun _ kt => XS.iload X27.here hx rfl (hb hby d5_67) rfl kt) ?_
        show own_R _ _ _ _ (T27.setTop (mkF m 69 #[.val (.ref a1), .val (.int (Int32.ofNat ca)), .val (.int (Int32.ofNat cb)), .val (.int ([x0, x1, x2, x3].getD ca 0)), .val (.int ([x0, x1, x2, x3].getD cb 0)), .val (.int lo), .val (.int hi)] [(.int hi), (.int x3)]))
        by_cases hc56 : x3 = hi
        · refine own_go (fun _ kt => XS.icmpNo X27.here hx rfl (hb hby d5_69) rfl (teq hc56).2 kt) ?_
          show own_R _ _ _ _ (T27.setTop (mkF m 72 #[.val (.ref a1), .val (.int (Int32.ofNat ca)), .val (.int (Int32.ofNat cb)), .val (.int ([x0, x1, x2, x3].getD ca 0)), .val (.int ([x0, x1, x2, x3].getD cb 0)), .val (.int lo), .val (.int hi)] []))
          refine own_go (fun _ kt => XS.aloadN X27.here hx rfl (hb hby d5_72) rfl rfl kt) ?_
          show own_R _ _ _ _ (T27.setTop (mkF m 73 #[.val (.ref a1), .val (.int (Int32.ofNat ca)), .val (.int (Int32.ofNat cb)), .val (.int ([x0, x1, x2, x3].getD ca 0)), .val (.int ([x0, x1, x2, x3].getD cb 0)), .val (.int lo), .val (.int hi)] [(.ref a1)]))
          refine own_go (fun _ kt => XS.iconst X27.here hx rfl (hb hby d5_73) kt) ?_
          show own_R _ _ _ _ (T27.setTop (mkF m 74 #[.val (.ref a1), .val (.int (Int32.ofNat ca)), .val (.int (Int32.ofNat cb)), .val (.int ([x0, x1, x2, x3].getD ca 0)), .val (.int ([x0, x1, x2, x3].getD cb 0)), .val (.int lo), .val (.int hi)] [(.int (3 : Int32)), (.ref a1)]))
          refine own_go (fun _ kt => XS.iload X27.here hx rfl (hb hby d5_74) rfl kt) ?_
          show own_R _ _ _ _ (T27.setTop (mkF m 76 #[.val (.ref a1), .val (.int (Int32.ofNat ca)), .val (.int (Int32.ofNat cb)), .val (.int ([x0, x1, x2, x3].getD ca 0)), .val (.int ([x0, x1, x2, x3].getD cb 0)), .val (.int lo), .val (.int hi)] [(.int lo), (.int (3 : Int32)), (.ref a1)]))
          obtain ⟨T57, h57, sl57, X57, e57, W57, V57, st57⟩ := own_stI X27 hx hZ e27 V_a1 (j := (3 : Int32)) (i := 3) ⟨by decide, by decide⟩ rfl (Nat.le_of_ble_eq_true rfl) rfl (g := (mkF m 76 #[.val (.ref a1), .val (.int (Int32.ofNat ca)), .val (.int (Int32.ofNat cb)), .val (.int ([x0, x1, x2, x3].getD ca 0)), .val (.int ([x0, x1, x2, x3].getD cb 0)), .val (.int lo), .val (.int hi)] [(.int lo), (.int (3 : Int32)), (.ref a1)])) rfl rfl (hb hby d5_76)
          refine own_go st57 ?_
          have ZS := Nat.le_trans ZS (Keep.of_wr W57).1
          have KP := KP.wr W57 (Or.inl (List.mem_of_getElem? (i := 0) rfl))
          have NF := Fr.snoc X57 NF g_a1
          have V_a1 : Arv Z h57 a1 k1 .int (4 : Int32) [(.int x0), (.int x1), (.int x2), (.int lo)] (.int (0 : Int32)) := V57
          show own_R _ _ _ _ (T57.setTop (mkF m 77 #[.val (.ref a1), .val (.int (Int32.ofNat ca)), .val (.int (Int32.ofNat cb)), .val (.int ([x0, x1, x2, x3].getD ca 0)), .val (.int ([x0, x1, x2, x3].getD cb 0)), .val (.int lo), .val (.int hi)] []))
          exact own_ret0 X57 hx Bd.returns (hb hby d5_77) hlk (by rw [e57]; exact ⟨rfl, NF, KP, by rw [own_mrg, hhi, hlo]; simp only [List.map_cons, List.map_nil]; rw [show own_rep hi lo x0 = x0 from if_neg hc28, show own_rep hi lo x1 = x1 from if_neg hc44, show own_rep hi lo x2 = x2 from if_neg hc52, show own_rep hi lo x3 = lo from if_pos hc56]; exact V_a1⟩) (by decide) (by decide)
        · refine own_go (fun _ kt => XS.icmpYes X27.here hx rfl (pc0 := 69) (pc' := 77) rfl (hb hby d5_69) rfl (feq hc56).2 (by decide) (by decide) kt) ?_
          show own_R _ _ _ _ (T27.setTop (mkF m 77 #[.val (.ref a1), .val (.int (Int32.ofNat ca)), .val (.int (Int32.ofNat cb)), .val (.int ([x0, x1, x2, x3].getD ca 0)), .val (.int ([x0, x1, x2, x3].getD cb 0)), .val (.int lo), .val (.int hi)] []))
          exact own_ret0 X27 hx Bd.returns (hb hby d5_77) hlk (by rw [e27]; exact ⟨rfl, NF, KP, by rw [own_mrg, hhi, hlo]; simp only [List.map_cons, List.map_nil]; rw [show own_rep hi lo x0 = x0 from if_neg hc28, show own_rep hi lo x1 = x1 from if_neg hc44, show own_rep hi lo x2 = x2 from if_neg hc52, show own_rep hi lo x3 = x3 from if_neg hc56]; exact V_a1⟩) (by decide) (by decide)
theorem ef_0 (m : MethodId) (x0 : Int32) (x1 : Int32) (x2 : Int32) (x3 : Int32) : entryFrame m #[(.int x0), (.int x1), (.int x2), (.int x3)] maxLocals = mkF m 0 #[.val (.int x0), .val (.int x1), .val (.int x2), .val (.int x3), .unset, .unset, .unset, .unset, .unset, .unset, .unset, .unset, .unset, .unset, .unset, .unset, .unset, .unset] [] := by first | (simp [entryFrame, mkF, argsToLocals, Value.category, maxLocals]; done) | rfl
def Q0 (Z : State) (q1 : Int32) (q2 : Int32) (q3 : Int32) (q4 : Int32) (h0 : Heap) (n0 : Nat) (v : Option Value) (h : Heap) (L : List Loc) : Prop := v = some (.int 1) ∧ Fr n0 L
set_option maxRecDepth 65536 in
set_option maxHeartbeats 40000000 in
theorem rm0 (l : Launch) (Z : State) (a0 : Array Value) (hw : ∀ d ∈ tables_1, d.before a0 Z = true) (ws : List Jvm.Cond) (q1 : Int32) (q2 : Int32) (q3 : Int32) (q4 : Int32) (h0 : Heap) (n0 : Nat) (ZS : n0 ≤ h0.size) :
    MetFree l x (head1 (Jvm.Cond.code x code maxLocals ret :: ws) room_1) (fun a U => a = #[(.int q1), (.int q2), (.int q3), (.int q4)] ∧ Z.Warmed39 U.vm ∧ U.heap = h0) (fun _ _ _ _ _ => True) (fun _ U o U' => ∃ v L, o = .returned v ∧ Q0 Z q1 q2 q3 q4 h0 n0 v U'.heap L ∧ FrameEnd U o U' L 16 128) := by
  refine MetFree.of_bodySF (plainFor_of_name pn_5) hisR ?_
  intro p e s m args below meth c s₁ Bd hml0 hP hK
  obtain ⟨rfl, hZ, hh⟩ := hP
  have hx := Bd.exec
  have hby := Bd.bytes
  have hml : c.maxLocals = 18 := hml0
  have hown : s.vm.findClass "com/example/clearlot/clearlot/program/DisjointSetsFindPinLaw" = some m.cls := findClass_of_methodNamed Bd.named
  have hnm := (name_of_methodNamed Bd.named Bd.method).1
  have hlk : meth.locks = false := Bd.notSynchronized
  have X0 : Stand p l e room_1 s m #[(.int q1), (.int q2), (.int q3), (.int q4)] below meth c s₁ [] 0 0 := Stand.of_body Bd
  have e0 : s₁.heap = h0 := by rw [← hh, Bd.state]; rfl
  have NF := Fr.nil n0
  have KP : Keep h0 h0 [] := Keep.refl _ _
  refine own_fin (s := s) (Q := Q0 Z q1 q2 q3 q4 h0 n0) (rc := 16) (rs := 128) ?_
  refine own_go (fun _ kt => castTop (ef_0 m q1 q2 q3 q4) kt) ?_
  show own_R _ _ _ _ (s₁.setTop (mkF m 0 #[.val (.int q1), .val (.int q2), .val (.int q3), .val (.int q4), .unset, .unset, .unset, .unset, .unset, .unset, .unset, .unset, .unset, .unset, .unset, .unset, .unset, .unset] []))
  refine own_go (fun _ kt => XS.iconst X0.here hx rfl (hb hby at_0) kt) ?_
  show own_R _ _ _ _ (s₁.setTop (mkF m 1 #[.val (.int q1), .val (.int q2), .val (.int q3), .val (.int q4), .unset, .unset, .unset, .unset, .unset, .unset, .unset, .unset, .unset, .unset, .unset, .unset, .unset, .unset] [(.int (4 : Int32))]))
  obtain ⟨T58, h58, k58, X58, e58, E58, A58, st58⟩ := newP X0 hx hZ (hw _ (List.mem_of_getElem? (i := 0) rfl)) e0 (g := (mkF m 1 #[.val (.int q1), .val (.int q2), .val (.int q3), .val (.int q4), .unset, .unset, .unset, .unset, .unset, .unset, .unset, .unset, .unset, .unset, .unset, .unset, .unset, .unset] [(.int (4 : Int32))])) rfl (hb hby at_1) rfl (by decide) (cap := 4) (by decide) (by decide) (by decide) (by decide)
  obtain ⟨b58, g58⟩ : ∃ z, z = h0.size := ⟨_, rfl⟩
  rw [← g58] at A58 st58
  refine own_go st58 ?_
  have g_b58 : n0 ≤ b58 := Nat.le_trans ZS (Nat.le_of_eq g58.symm)
  have sz_b58 : h0.size ≤ b58 := Nat.le_trans KP.1 (Nat.le_of_eq g58.symm)
  have ZS := Nat.le_trans ZS E58.1
  have KP := KP.ext E58
  have V_b58 : Arv Z h58 b58 k58 .int (4 : Int32) [(.int (0 : Int32)), (.int (0 : Int32)), (.int (0 : Int32)), (.int (0 : Int32))] (.int (0 : Int32)) := (Arv.new A58 (by decide)).pad (pad_rep [] (.int (0 : Int32)) 4)
  show own_R _ _ _ _ (T58.setTop (mkF m 3 #[.val (.int q1), .val (.int q2), .val (.int q3), .val (.int q4), .unset, .unset, .unset, .unset, .unset, .unset, .unset, .unset, .unset, .unset, .unset, .unset, .unset, .unset] [(.ref b58)]))
  refine own_go (fun _ kt => XS.dup X58.here hx rfl (hb hby at_3) rfl rfl kt) ?_
  show own_R _ _ _ _ (T58.setTop (mkF m 4 #[.val (.int q1), .val (.int q2), .val (.int q3), .val (.int q4), .unset, .unset, .unset, .unset, .unset, .unset, .unset, .unset, .unset, .unset, .unset, .unset, .unset, .unset] [(.ref b58), (.ref b58)]))
  refine own_go (fun _ kt => XS.iconst X58.here hx rfl (hb hby at_4) kt) ?_
  show own_R _ _ _ _ (T58.setTop (mkF m 5 #[.val (.int q1), .val (.int q2), .val (.int q3), .val (.int q4), .unset, .unset, .unset, .unset, .unset, .unset, .unset, .unset, .unset, .unset, .unset, .unset, .unset, .unset] [(.int (0 : Int32)), (.ref b58), (.ref b58)]))
  refine own_go (fun _ kt => XS.iconst X58.here hx rfl (hb hby at_5) kt) ?_
  show own_R _ _ _ _ (T58.setTop (mkF m 6 #[.val (.int q1), .val (.int q2), .val (.int q3), .val (.int q4), .unset, .unset, .unset, .unset, .unset, .unset, .unset, .unset, .unset, .unset, .unset, .unset, .unset, .unset] [(.int (0 : Int32)), (.int (0 : Int32)), (.ref b58), (.ref b58)]))
  obtain ⟨T59, h59, sl59, X59, e59, W59, V59, st59⟩ := own_stI X58 hx hZ e58 V_b58 (j := (0 : Int32)) (i := 0) ⟨by decide, by decide⟩ rfl (Nat.le_of_ble_eq_true rfl) rfl (g := (mkF m 6 #[.val (.int q1), .val (.int q2), .val (.int q3), .val (.int q4), .unset, .unset, .unset, .unset, .unset, .unset, .unset, .unset, .unset, .unset, .unset, .unset, .unset, .unset] [(.int (0 : Int32)), (.int (0 : Int32)), (.ref b58), (.ref b58)])) rfl rfl (hb hby at_6)
  refine own_go st59 ?_
  have ZS := Nat.le_trans ZS (Keep.of_wr W59).1
  have KP := KP.wr W59 (Or.inr sz_b58)
  have NF := Fr.snoc X59 NF g_b58
  have V_b58 : Arv Z h59 b58 k58 .int (4 : Int32) [(.int (0 : Int32)), (.int (0 : Int32)), (.int (0 : Int32)), (.int (0 : Int32))] (.int (0 : Int32)) := V59
  show own_R _ _ _ _ (T59.setTop (mkF m 7 #[.val (.int q1), .val (.int q2), .val (.int q3), .val (.int q4), .unset, .unset, .unset, .unset, .unset, .unset, .unset, .unset, .unset, .unset, .unset, .unset, .unset, .unset] [(.ref b58)]))
  refine own_go (fun _ kt => XS.dup X59.here hx rfl (hb hby at_7) rfl rfl kt) ?_
  show own_R _ _ _ _ (T59.setTop (mkF m 8 #[.val (.int q1), .val (.int q2), .val (.int q3), .val (.int q4), .unset, .unset, .unset, .unset, .unset, .unset, .unset, .unset, .unset, .unset, .unset, .unset, .unset, .unset] [(.ref b58), (.ref b58)]))
  refine own_go (fun _ kt => XS.iconst X59.here hx rfl (hb hby at_8) kt) ?_
  show own_R _ _ _ _ (T59.setTop (mkF m 9 #[.val (.int q1), .val (.int q2), .val (.int q3), .val (.int q4), .unset, .unset, .unset, .unset, .unset, .unset, .unset, .unset, .unset, .unset, .unset, .unset, .unset, .unset] [(.int (1 : Int32)), (.ref b58), (.ref b58)]))
  refine own_go (fun _ kt => XS.iconst X59.here hx rfl (hb hby at_9) kt) ?_
  show own_R _ _ _ _ (T59.setTop (mkF m 10 #[.val (.int q1), .val (.int q2), .val (.int q3), .val (.int q4), .unset, .unset, .unset, .unset, .unset, .unset, .unset, .unset, .unset, .unset, .unset, .unset, .unset, .unset] [(.int (1 : Int32)), (.int (1 : Int32)), (.ref b58), (.ref b58)]))
  obtain ⟨T60, h60, sl60, X60, e60, W60, V60, st60⟩ := own_stI X59 hx hZ e59 V_b58 (j := (1 : Int32)) (i := 1) ⟨by decide, by decide⟩ rfl (Nat.le_of_ble_eq_true rfl) rfl (g := (mkF m 10 #[.val (.int q1), .val (.int q2), .val (.int q3), .val (.int q4), .unset, .unset, .unset, .unset, .unset, .unset, .unset, .unset, .unset, .unset, .unset, .unset, .unset, .unset] [(.int (1 : Int32)), (.int (1 : Int32)), (.ref b58), (.ref b58)])) rfl rfl (hb hby at_10)
  refine own_go st60 ?_
  have ZS := Nat.le_trans ZS (Keep.of_wr W60).1
  have KP := KP.wr W60 (Or.inr sz_b58)
  have NF := Fr.snoc X60 NF g_b58
  have V_b58 : Arv Z h60 b58 k58 .int (4 : Int32) [(.int (0 : Int32)), (.int (1 : Int32)), (.int (0 : Int32)), (.int (0 : Int32))] (.int (0 : Int32)) := V60
  show own_R _ _ _ _ (T60.setTop (mkF m 11 #[.val (.int q1), .val (.int q2), .val (.int q3), .val (.int q4), .unset, .unset, .unset, .unset, .unset, .unset, .unset, .unset, .unset, .unset, .unset, .unset, .unset, .unset] [(.ref b58)]))
  refine own_go (fun _ kt => XS.dup X60.here hx rfl (hb hby at_11) rfl rfl kt) ?_
  show own_R _ _ _ _ (T60.setTop (mkF m 12 #[.val (.int q1), .val (.int q2), .val (.int q3), .val (.int q4), .unset, .unset, .unset, .unset, .unset, .unset, .unset, .unset, .unset, .unset, .unset, .unset, .unset, .unset] [(.ref b58), (.ref b58)]))
  refine own_go (fun _ kt => XS.iconst X60.here hx rfl (hb hby at_12) kt) ?_
  show own_R _ _ _ _ (T60.setTop (mkF m 13 #[.val (.int q1), .val (.int q2), .val (.int q3), .val (.int q4), .unset, .unset, .unset, .unset, .unset, .unset, .unset, .unset, .unset, .unset, .unset, .unset, .unset, .unset] [(.int (2 : Int32)), (.ref b58), (.ref b58)]))
  refine own_go (fun _ kt => XS.iconst X60.here hx rfl (hb hby at_13) kt) ?_
  show own_R _ _ _ _ (T60.setTop (mkF m 14 #[.val (.int q1), .val (.int q2), .val (.int q3), .val (.int q4), .unset, .unset, .unset, .unset, .unset, .unset, .unset, .unset, .unset, .unset, .unset, .unset, .unset, .unset] [(.int (2 : Int32)), (.int (2 : Int32)), (.ref b58), (.ref b58)]))
  obtain ⟨T61, h61, sl61, X61, e61, W61, V61, st61⟩ := own_stI X60 hx hZ e60 V_b58 (j := (2 : Int32)) (i := 2) ⟨by decide, by decide⟩ rfl (Nat.le_of_ble_eq_true rfl) rfl (g := (mkF m 14 #[.val (.int q1), .val (.int q2), .val (.int q3), .val (.int q4), .unset, .unset, .unset, .unset, .unset, .unset, .unset, .unset, .unset, .unset, .unset, .unset, .unset, .unset] [(.int (2 : Int32)), (.int (2 : Int32)), (.ref b58), (.ref b58)])) rfl rfl (hb hby at_14)
  refine own_go st61 ?_
  have ZS := Nat.le_trans ZS (Keep.of_wr W61).1
  have KP := KP.wr W61 (Or.inr sz_b58)
  have NF := Fr.snoc X61 NF g_b58
  have V_b58 : Arv Z h61 b58 k58 .int (4 : Int32) [(.int (0 : Int32)), (.int (1 : Int32)), (.int (2 : Int32)), (.int (0 : Int32))] (.int (0 : Int32)) := V61
  show own_R _ _ _ _ (T61.setTop (mkF m 15 #[.val (.int q1), .val (.int q2), .val (.int q3), .val (.int q4), .unset, .unset, .unset, .unset, .unset, .unset, .unset, .unset, .unset, .unset, .unset, .unset, .unset, .unset] [(.ref b58)]))
  refine own_go (fun _ kt => XS.dup X61.here hx rfl (hb hby at_15) rfl rfl kt) ?_
  show own_R _ _ _ _ (T61.setTop (mkF m 16 #[.val (.int q1), .val (.int q2), .val (.int q3), .val (.int q4), .unset, .unset, .unset, .unset, .unset, .unset, .unset, .unset, .unset, .unset, .unset, .unset, .unset, .unset] [(.ref b58), (.ref b58)]))
  refine own_go (fun _ kt => XS.iconst X61.here hx rfl (hb hby at_16) kt) ?_
  show own_R _ _ _ _ (T61.setTop (mkF m 17 #[.val (.int q1), .val (.int q2), .val (.int q3), .val (.int q4), .unset, .unset, .unset, .unset, .unset, .unset, .unset, .unset, .unset, .unset, .unset, .unset, .unset, .unset] [(.int (3 : Int32)), (.ref b58), (.ref b58)]))
  refine own_go (fun _ kt => XS.iconst X61.here hx rfl (hb hby at_17) kt) ?_
  show own_R _ _ _ _ (T61.setTop (mkF m 18 #[.val (.int q1), .val (.int q2), .val (.int q3), .val (.int q4), .unset, .unset, .unset, .unset, .unset, .unset, .unset, .unset, .unset, .unset, .unset, .unset, .unset, .unset] [(.int (3 : Int32)), (.int (3 : Int32)), (.ref b58), (.ref b58)]))
  obtain ⟨T62, h62, sl62, X62, e62, W62, V62, st62⟩ := own_stI X61 hx hZ e61 V_b58 (j := (3 : Int32)) (i := 3) ⟨by decide, by decide⟩ rfl (Nat.le_of_ble_eq_true rfl) rfl (g := (mkF m 18 #[.val (.int q1), .val (.int q2), .val (.int q3), .val (.int q4), .unset, .unset, .unset, .unset, .unset, .unset, .unset, .unset, .unset, .unset, .unset, .unset, .unset, .unset] [(.int (3 : Int32)), (.int (3 : Int32)), (.ref b58), (.ref b58)])) rfl rfl (hb hby at_18)
  refine own_go st62 ?_
  have ZS := Nat.le_trans ZS (Keep.of_wr W62).1
  have KP := KP.wr W62 (Or.inr sz_b58)
  have NF := Fr.snoc X62 NF g_b58
  have V_b58 : Arv Z h62 b58 k58 .int (4 : Int32) [(.int (0 : Int32)), (.int (1 : Int32)), (.int (2 : Int32)), (.int (3 : Int32))] (.int (0 : Int32)) := V62
  show own_R _ _ _ _ (T62.setTop (mkF m 19 #[.val (.int q1), .val (.int q2), .val (.int q3), .val (.int q4), .unset, .unset, .unset, .unset, .unset, .unset, .unset, .unset, .unset, .unset, .unset, .unset, .unset, .unset] [(.ref b58)]))
  refine own_go (fun _ kt => XS.astore X62.here hx rfl (hb hby at_19) rfl rfl (l' := #[.val (.int q1), .val (.int q2), .val (.int q3), .val (.int q4), .val (.ref b58), .unset, .unset, .unset, .unset, .unset, .unset, .unset, .unset, .unset, .unset, .unset, .unset, .unset]) rfl kt) ?_
  show own_R _ _ _ _ (T62.setTop (mkF m 21 #[.val (.int q1), .val (.int q2), .val (.int q3), .val (.int q4), .val (.ref b58), .unset, .unset, .unset, .unset, .unset, .unset, .unset, .unset, .unset, .unset, .unset, .unset, .unset] []))
  obtain ⟨T63, h63, X63, e63, E63, A63, D63, -, st63⟩ := newO X62 hx hZ hown (hw _ (List.mem_of_getElem? (i := 1) rfl)) (hw _ (List.mem_of_getElem? (i := 2) rfl)) (hw _ (List.mem_of_getElem? (i := 3) rfl)) e62 (g := (mkF m 21 #[.val (.int q1), .val (.int q2), .val (.int q3), .val (.int q4), .val (.ref b58), .unset, .unset, .unset, .unset, .unset, .unset, .unset, .unset, .unset, .unset, .unset, .unset, .unset] [])) rfl (hb hby at_21) (by decide) (by decide)
  obtain ⟨b63, g63⟩ : ∃ z, z = h62.size := ⟨_, rfl⟩
  rw [← g63] at A63 D63 st63
  refine own_go st63 ?_
  have ne_b58_b63 : b58 ≠ b63 := Nat.ne_of_lt (Nat.lt_of_lt_of_le V_b58.lt (Nat.le_of_eq g63.symm))
  have g_b63 : n0 ≤ b63 := Nat.le_trans ZS (Nat.le_of_eq g63.symm)
  have sz_b63 : h0.size ≤ b63 := Nat.le_trans KP.1 (Nat.le_of_eq g63.symm)
  have V_b58 := V_b58.ext E63
  have ZS := Nat.le_trans ZS E63.1
  have KP := KP.ext E63
  have E_b63 := A63
  have F_parent_b63 : Fld Z h63 b63 "com/example/clearlot/clearlot/program/DisjointSets" "parent" "[I" .null := D63 (Or.inr (hw _ (List.mem_of_getElem? (i := 11) rfl))) (ty := (.array .int)) (by decide)
  show own_R _ _ _ _ (T63.setTop (mkF m 24 #[.val (.int q1), .val (.int q2), .val (.int q3), .val (.int q4), .val (.ref b58), .unset, .unset, .unset, .unset, .unset, .unset, .unset, .unset, .unset, .unset, .unset, .unset, .unset] [(.ref b63)]))
  refine own_go (fun _ kt => XS.dup X63.here hx rfl (hb hby at_24) rfl rfl kt) ?_
  show own_R _ _ _ _ (T63.setTop (mkF m 25 #[.val (.int q1), .val (.int q2), .val (.int q3), .val (.int q4), .val (.ref b58), .unset, .unset, .unset, .unset, .unset, .unset, .unset, .unset, .unset, .unset, .unset, .unset, .unset] [(.ref b63), (.ref b63)]))
  refine own_go (fun _ kt => XS.iconst X63.here hx rfl (hb hby at_25) kt) ?_
  show own_R _ _ _ _ (T63.setTop (mkF m 26 #[.val (.int q1), .val (.int q2), .val (.int q3), .val (.int q4), .val (.ref b58), .unset, .unset, .unset, .unset, .unset, .unset, .unset, .unset, .unset, .unset, .unset, .unset, .unset] [(.int (4 : Int32)), (.ref b63), (.ref b63)]))
  obtain ⟨_, _, ⟨T64, L64, k64, n64⟩, -, X64, ⟨Lc64, hQ64, l64, y64, z64⟩, st64⟩ := X63.specialBack hx (y := (⟨"com/example/clearlot/clearlot/program/DisjointSets", "<init>", "(I)V"⟩ : MethodName)) rfl hown (mvT hZ (hw _ (List.mem_of_getElem? (i := 4) rfl))) (mvT hZ (hw _ (List.mem_of_getElem? (i := 5) rfl))) (mvT hZ (hw _ (List.mem_of_getElem? (i := 6) rfl))) (by decide) (backOf (W := 1) (rm1 l Z a0 hw [] b63 .null h63 n0 ZS E_b63 F_parent_b63 g_b63) hZ (hw _ (List.mem_of_getElem? (i := 6) rfl)) (hw _ (List.mem_of_getElem? (i := 3) rfl)) (by decide) (by decide)) (g := (mkF m 26 #[.val (.int q1), .val (.int q2), .val (.int q3), .val (.int q4), .val (.ref b58), .unset, .unset, .unset, .unset, .unset, .unset, .unset, .unset, .unset, .unset, .unset, .unset, .unset] [(.int (4 : Int32)), (.ref b63), (.ref b63)])) rfl (by rw [hml]; rfl) (Steps.refl _) (a := b63) (argsL := [(.int (4 : Int32))]) (rest := [(.ref b63)]) (lenOf pd_2 rfl) rfl (by show 2 * 0 + _ ≤ _; exact Nat.le_of_eq rfl) (hb hby at_26) (fun _ _ => ⟨rfl, e63, (by decide : 2 + 1 ≤ _), (by decide : 5 + 4 ≤ _)⟩)
  dsimp only [Pt.U, Pt.locs, Pt.cells, Pt.slots] at X64 l64 y64 z64 st64 hQ64
  subst l64 y64 z64
  obtain ⟨h64, e64'⟩ : ∃ z, z = T64.heap := ⟨_, rfl⟩
  rw [← e64'] at hQ64
  have e64 : T64.heap = h64 := e64'.symm
  obtain ⟨rfl, N64q, K64, c65, pp1, hbc65, kc65, Vc65'⟩ := hQ64
  have NF := Fr.app NF N64q
  refine own_go (fun _ kt => st64.trans kt) ?_
  have ne_b58_c65 : b58 ≠ c65 := Nat.ne_of_lt (Nat.lt_of_lt_of_le V_b58.lt hbc65)
  have ne_b63_c65 : b63 ≠ c65 := Nat.ne_of_lt (Nat.lt_of_lt_of_le E_b63.lt hbc65)
  have g_c65 : n0 ≤ c65 := Nat.le_trans ZS hbc65
  have sz_c65 : h0.size ≤ c65 := Nat.le_trans KP.1 hbc65
  have V_b58 := V_b58.keep K64 (ninS ne_b58_b63 nin0)
  have E_b63 := E_b63.keep K64
  have ZS := Nat.le_trans ZS K64.1
  have KP := KP.trans K64 (allS (Or.inr sz_b63) all0)
  have F_parent_b63 := pp1
  have V_c65 := Vc65'
  show own_R _ _ _ _ (T64.setTop (mkF m 29 #[.val (.int q1), .val (.int q2), .val (.int q3), .val (.int q4), .val (.ref b58), .unset, .unset, .unset, .unset, .unset, .unset, .unset, .unset, .unset, .unset, .unset, .unset, .unset] [(.ref b63)]))
  refine own_go (fun _ kt => XS.astore X64.here hx rfl (hb hby at_29) rfl rfl (l' := #[.val (.int q1), .val (.int q2), .val (.int q3), .val (.int q4), .val (.ref b58), .val (.ref b63), .unset, .unset, .unset, .unset, .unset, .unset, .unset, .unset, .unset, .unset, .unset, .unset]) rfl kt) ?_
  show own_R _ _ _ _ (T64.setTop (mkF m 31 #[.val (.int q1), .val (.int q2), .val (.int q3), .val (.int q4), .val (.ref b58), .val (.ref b63), .unset, .unset, .unset, .unset, .unset, .unset, .unset, .unset, .unset, .unset, .unset, .unset] []))
  refine own_go (fun _ kt => XS.iloadN X64.here hx rfl (hb hby at_31) rfl kt) ?_
  show own_R _ _ _ _ (T64.setTop (mkF m 32 #[.val (.int q1), .val (.int q2), .val (.int q3), .val (.int q4), .val (.ref b58), .val (.ref b63), .unset, .unset, .unset, .unset, .unset, .unset, .unset, .unset, .unset, .unset, .unset, .unset] [(.int q1)]))
  refine own_go (fun _ kt => XS.iconst X64.here hx rfl (hb hby at_32) kt) ?_
  show own_R _ _ _ _ (T64.setTop (mkF m 33 #[.val (.int q1), .val (.int q2), .val (.int q3), .val (.int q4), .val (.ref b58), .val (.ref b63), .unset, .unset, .unset, .unset, .unset, .unset, .unset, .unset, .unset, .unset, .unset, .unset] [(.int (3 : Int32)), (.int q1)]))
  refine own_go (fun _ kt => XS.iand X64.here hx rfl (hb hby at_33) rfl kt) ?_
  show own_R _ _ _ _ (T64.setTop (mkF m 34 #[.val (.int q1), .val (.int q2), .val (.int q3), .val (.int q4), .val (.ref b58), .val (.ref b63), .unset, .unset, .unset, .unset, .unset, .unset, .unset, .unset, .unset, .unset, .unset, .unset] [(.int (q1 &&& (3 : Int32)))]))
  refine own_go (fun _ kt => XS.istore X64.here hx rfl (hb hby at_34) rfl (l' := #[.val (.int q1), .val (.int q2), .val (.int q3), .val (.int q4), .val (.ref b58), .val (.ref b63), .val (.int (q1 &&& (3 : Int32))), .unset, .unset, .unset, .unset, .unset, .unset, .unset, .unset, .unset, .unset, .unset]) rfl kt) ?_
  show own_R _ _ _ _ (T64.setTop (mkF m 36 #[.val (.int q1), .val (.int q2), .val (.int q3), .val (.int q4), .val (.ref b58), .val (.ref b63), .val (.int (q1 &&& (3 : Int32))), .unset, .unset, .unset, .unset, .unset, .unset, .unset, .unset, .unset, .unset, .unset] []))
  generalize hzca1 : (q1 &&& (3 : Int32)) = zca1
  show own_R _ _ _ _ (T64.setTop (mkF m 36 #[.val (.int q1), .val (.int q2), .val (.int q3), .val (.int q4), .val (.ref b58), .val (.ref b63), .val (.int zca1), .unset, .unset, .unset, .unset, .unset, .unset, .unset, .unset, .unset, .unset, .unset] []))
  obtain ⟨ca1, hca1, rfl⟩ := own_and3 _ _ hzca1
  show own_R _ _ _ _ (T64.setTop (mkF m 36 #[.val (.int q1), .val (.int q2), .val (.int q3), .val (.int q4), .val (.ref b58), .val (.ref b63), .val (.int (Int32.ofNat ca1)), .unset, .unset, .unset, .unset, .unset, .unset, .unset, .unset, .unset, .unset, .unset] []))
  refine own_go (fun _ kt => XS.iloadN X64.here hx rfl (hb hby at_36) rfl kt) ?_
  show own_R _ _ _ _ (T64.setTop (mkF m 37 #[.val (.int q1), .val (.int q2), .val (.int q3), .val (.int q4), .val (.ref b58), .val (.ref b63), .val (.int (Int32.ofNat ca1)), .unset, .unset, .unset, .unset, .unset, .unset, .unset, .unset, .unset, .unset, .unset] [(.int q1)]))
  refine own_go (fun _ kt => XS.iconst X64.here hx rfl (hb hby at_37) kt) ?_
  show own_R _ _ _ _ (T64.setTop (mkF m 38 #[.val (.int q1), .val (.int q2), .val (.int q3), .val (.int q4), .val (.ref b58), .val (.ref b63), .val (.int (Int32.ofNat ca1)), .unset, .unset, .unset, .unset, .unset, .unset, .unset, .unset, .unset, .unset, .unset] [(.int (2 : Int32)), (.int q1)]))
  refine own_go (fun _ kt => XS.iushr X64.here hx rfl (hb hby at_38) rfl kt) ?_
  show own_R _ _ _ _ (T64.setTop (mkF m 39 #[.val (.int q1), .val (.int q2), .val (.int q3), .val (.int q4), .val (.ref b58), .val (.ref b63), .val (.int (Int32.ofNat ca1)), .unset, .unset, .unset, .unset, .unset, .unset, .unset, .unset, .unset, .unset, .unset] [(.int ((q1.toUInt32 >>> ((2 : Int32) &&& 31).toUInt32).toInt32))]))
  refine own_go (fun _ kt => XS.iconst X64.here hx rfl (hb hby at_39) kt) ?_
  show own_R _ _ _ _ (T64.setTop (mkF m 40 #[.val (.int q1), .val (.int q2), .val (.int q3), .val (.int q4), .val (.ref b58), .val (.ref b63), .val (.int (Int32.ofNat ca1)), .unset, .unset, .unset, .unset, .unset, .unset, .unset, .unset, .unset, .unset, .unset] [(.int (3 : Int32)), (.int ((q1.toUInt32 >>> ((2 : Int32) &&& 31).toUInt32).toInt32))]))
  refine own_go (fun _ kt => XS.iand X64.here hx rfl (hb hby at_40) rfl kt) ?_
  show own_R _ _ _ _ (T64.setTop (mkF m 41 #[.val (.int q1), .val (.int q2), .val (.int q3), .val (.int q4), .val (.ref b58), .val (.ref b63), .val (.int (Int32.ofNat ca1)), .unset, .unset, .unset, .unset, .unset, .unset, .unset, .unset, .unset, .unset, .unset] [(.int (((q1.toUInt32 >>> ((2 : Int32) &&& 31).toUInt32).toInt32) &&& (3 : Int32)))]))
  refine own_go (fun _ kt => XS.istore X64.here hx rfl (hb hby at_41) rfl (l' := #[.val (.int q1), .val (.int q2), .val (.int q3), .val (.int q4), .val (.ref b58), .val (.ref b63), .val (.int (Int32.ofNat ca1)), .val (.int (((q1.toUInt32 >>> ((2 : Int32) &&& 31).toUInt32).toInt32) &&& (3 : Int32))), .unset, .unset, .unset, .unset, .unset, .unset, .unset, .unset, .unset, .unset]) rfl kt) ?_
  show own_R _ _ _ _ (T64.setTop (mkF m 43 #[.val (.int q1), .val (.int q2), .val (.int q3), .val (.int q4), .val (.ref b58), .val (.ref b63), .val (.int (Int32.ofNat ca1)), .val (.int (((q1.toUInt32 >>> ((2 : Int32) &&& 31).toUInt32).toInt32) &&& (3 : Int32))), .unset, .unset, .unset, .unset, .unset, .unset, .unset, .unset, .unset, .unset] []))
  generalize hzcb1 : (((q1.toUInt32 >>> ((2 : Int32) &&& 31).toUInt32).toInt32) &&& (3 : Int32)) = zcb1
  show own_R _ _ _ _ (T64.setTop (mkF m 43 #[.val (.int q1), .val (.int q2), .val (.int q3), .val (.int q4), .val (.ref b58), .val (.ref b63), .val (.int (Int32.ofNat ca1)), .val (.int zcb1), .unset, .unset, .unset, .unset, .unset, .unset, .unset, .unset, .unset, .unset] []))
  obtain ⟨cb1, hcb1, rfl⟩ := own_and3 _ _ hzcb1
  show own_R _ _ _ _ (T64.setTop (mkF m 43 #[.val (.int q1), .val (.int q2), .val (.int q3), .val (.int q4), .val (.ref b58), .val (.ref b63), .val (.int (Int32.ofNat ca1)), .val (.int (Int32.ofNat cb1)), .unset, .unset, .unset, .unset, .unset, .unset, .unset, .unset, .unset, .unset] []))
  refine own_go (fun _ kt => XS.iloadN X64.here hx rfl (hb hby at_43) rfl kt) ?_
  show own_R _ _ _ _ (T64.setTop (mkF m 44 #[.val (.int q1), .val (.int q2), .val (.int q3), .val (.int q4), .val (.ref b58), .val (.ref b63), .val (.int (Int32.ofNat ca1)), .val (.int (Int32.ofNat cb1)), .unset, .unset, .unset, .unset, .unset, .unset, .unset, .unset, .unset, .unset] [(.int q2)]))
  refine own_go (fun _ kt => XS.iconst X64.here hx rfl (hb hby at_44) kt) ?_
  show own_R _ _ _ _ (T64.setTop (mkF m 45 #[.val (.int q1), .val (.int q2), .val (.int q3), .val (.int q4), .val (.ref b58), .val (.ref b63), .val (.int (Int32.ofNat ca1)), .val (.int (Int32.ofNat cb1)), .unset, .unset, .unset, .unset, .unset, .unset, .unset, .unset, .unset, .unset] [(.int (3 : Int32)), (.int q2)]))
  refine own_go (fun _ kt => XS.iand X64.here hx rfl (hb hby at_45) rfl kt) ?_
  show own_R _ _ _ _ (T64.setTop (mkF m 46 #[.val (.int q1), .val (.int q2), .val (.int q3), .val (.int q4), .val (.ref b58), .val (.ref b63), .val (.int (Int32.ofNat ca1)), .val (.int (Int32.ofNat cb1)), .unset, .unset, .unset, .unset, .unset, .unset, .unset, .unset, .unset, .unset] [(.int (q2 &&& (3 : Int32)))]))
  refine own_go (fun _ kt => XS.istore X64.here hx rfl (hb hby at_46) rfl (l' := #[.val (.int q1), .val (.int q2), .val (.int q3), .val (.int q4), .val (.ref b58), .val (.ref b63), .val (.int (Int32.ofNat ca1)), .val (.int (Int32.ofNat cb1)), .val (.int (q2 &&& (3 : Int32))), .unset, .unset, .unset, .unset, .unset, .unset, .unset, .unset, .unset]) rfl kt) ?_
  show own_R _ _ _ _ (T64.setTop (mkF m 48 #[.val (.int q1), .val (.int q2), .val (.int q3), .val (.int q4), .val (.ref b58), .val (.ref b63), .val (.int (Int32.ofNat ca1)), .val (.int (Int32.ofNat cb1)), .val (.int (q2 &&& (3 : Int32))), .unset, .unset, .unset, .unset, .unset, .unset, .unset, .unset, .unset] []))
  generalize hzca2 : (q2 &&& (3 : Int32)) = zca2
  show own_R _ _ _ _ (T64.setTop (mkF m 48 #[.val (.int q1), .val (.int q2), .val (.int q3), .val (.int q4), .val (.ref b58), .val (.ref b63), .val (.int (Int32.ofNat ca1)), .val (.int (Int32.ofNat cb1)), .val (.int zca2), .unset, .unset, .unset, .unset, .unset, .unset, .unset, .unset, .unset] []))
  obtain ⟨ca2, hca2, rfl⟩ := own_and3 _ _ hzca2
  show own_R _ _ _ _ (T64.setTop (mkF m 48 #[.val (.int q1), .val (.int q2), .val (.int q3), .val (.int q4), .val (.ref b58), .val (.ref b63), .val (.int (Int32.ofNat ca1)), .val (.int (Int32.ofNat cb1)), .val (.int (Int32.ofNat ca2)), .unset, .unset, .unset, .unset, .unset, .unset, .unset, .unset, .unset] []))
  refine own_go (fun _ kt => XS.iloadN X64.here hx rfl (hb hby at_48) rfl kt) ?_
  show own_R _ _ _ _ (T64.setTop (mkF m 49 #[.val (.int q1), .val (.int q2), .val (.int q3), .val (.int q4), .val (.ref b58), .val (.ref b63), .val (.int (Int32.ofNat ca1)), .val (.int (Int32.ofNat cb1)), .val (.int (Int32.ofNat ca2)), .unset, .unset, .unset, .unset, .unset, .unset, .unset, .unset, .unset] [(.int q2)]))
  refine own_go (fun _ kt => XS.iconst X64.here hx rfl (hb hby at_49) kt) ?_
  show own_R _ _ _ _ (T64.setTop (mkF m 50 #[.val (.int q1), .val (.int q2), .val (.int q3), .val (.int q4), .val (.ref b58), .val (.ref b63), .val (.int (Int32.ofNat ca1)), .val (.int (Int32.ofNat cb1)), .val (.int (Int32.ofNat ca2)), .unset, .unset, .unset, .unset, .unset, .unset, .unset, .unset, .unset] [(.int (2 : Int32)), (.int q2)]))
  refine own_go (fun _ kt => XS.iushr X64.here hx rfl (hb hby at_50) rfl kt) ?_
  show own_R _ _ _ _ (T64.setTop (mkF m 51 #[.val (.int q1), .val (.int q2), .val (.int q3), .val (.int q4), .val (.ref b58), .val (.ref b63), .val (.int (Int32.ofNat ca1)), .val (.int (Int32.ofNat cb1)), .val (.int (Int32.ofNat ca2)), .unset, .unset, .unset, .unset, .unset, .unset, .unset, .unset, .unset] [(.int ((q2.toUInt32 >>> ((2 : Int32) &&& 31).toUInt32).toInt32))]))
  refine own_go (fun _ kt => XS.iconst X64.here hx rfl (hb hby at_51) kt) ?_
  show own_R _ _ _ _ (T64.setTop (mkF m 52 #[.val (.int q1), .val (.int q2), .val (.int q3), .val (.int q4), .val (.ref b58), .val (.ref b63), .val (.int (Int32.ofNat ca1)), .val (.int (Int32.ofNat cb1)), .val (.int (Int32.ofNat ca2)), .unset, .unset, .unset, .unset, .unset, .unset, .unset, .unset, .unset] [(.int (3 : Int32)), (.int ((q2.toUInt32 >>> ((2 : Int32) &&& 31).toUInt32).toInt32))]))
  refine own_go (fun _ kt => XS.iand X64.here hx rfl (hb hby at_52) rfl kt) ?_
  show own_R _ _ _ _ (T64.setTop (mkF m 53 #[.val (.int q1), .val (.int q2), .val (.int q3), .val (.int q4), .val (.ref b58), .val (.ref b63), .val (.int (Int32.ofNat ca1)), .val (.int (Int32.ofNat cb1)), .val (.int (Int32.ofNat ca2)), .unset, .unset, .unset, .unset, .unset, .unset, .unset, .unset, .unset] [(.int (((q2.toUInt32 >>> ((2 : Int32) &&& 31).toUInt32).toInt32) &&& (3 : Int32)))]))
  refine own_go (fun _ kt => XS.istore X64.here hx rfl (hb hby at_53) rfl (l' := #[.val (.int q1), .val (.int q2), .val (.int q3), .val (.int q4), .val (.ref b58), .val (.ref b63), .val (.int (Int32.ofNat ca1)), .val (.int (Int32.ofNat cb1)), .val (.int (Int32.ofNat ca2)), .val (.int (((q2.toUInt32 >>> ((2 : Int32) &&& 31).toUInt32).toInt32) &&& (3 : Int32))), .unset, .unset, .unset, .unset, .unset, .unset, .unset, .unset]) rfl kt) ?_
  show own_R _ _ _ _ (T64.setTop (mkF m 55 #[.val (.int q1), .val (.int q2), .val (.int q3), .val (.int q4), .val (.ref b58), .val (.ref b63), .val (.int (Int32.ofNat ca1)), .val (.int (Int32.ofNat cb1)), .val (.int (Int32.ofNat ca2)), .val (.int (((q2.toUInt32 >>> ((2 : Int32) &&& 31).toUInt32).toInt32) &&& (3 : Int32))), .unset, .unset, .unset, .unset, .unset, .unset, .unset, .unset] []))
  generalize hzcb2 : (((q2.toUInt32 >>> ((2 : Int32) &&& 31).toUInt32).toInt32) &&& (3 : Int32)) = zcb2
  show own_R _ _ _ _ (T64.setTop (mkF m 55 #[.val (.int q1), .val (.int q2), .val (.int q3), .val (.int q4), .val (.ref b58), .val (.ref b63), .val (.int (Int32.ofNat ca1)), .val (.int (Int32.ofNat cb1)), .val (.int (Int32.ofNat ca2)), .val (.int zcb2), .unset, .unset, .unset, .unset, .unset, .unset, .unset, .unset] []))
  obtain ⟨cb2, hcb2, rfl⟩ := own_and3 _ _ hzcb2
  show own_R _ _ _ _ (T64.setTop (mkF m 55 #[.val (.int q1), .val (.int q2), .val (.int q3), .val (.int q4), .val (.ref b58), .val (.ref b63), .val (.int (Int32.ofNat ca1)), .val (.int (Int32.ofNat cb1)), .val (.int (Int32.ofNat ca2)), .val (.int (Int32.ofNat cb2)), .unset, .unset, .unset, .unset, .unset, .unset, .unset, .unset] []))
  refine own_go (fun _ kt => XS.iloadN X64.here hx rfl (hb hby at_55) rfl kt) ?_
  show own_R _ _ _ _ (T64.setTop (mkF m 56 #[.val (.int q1), .val (.int q2), .val (.int q3), .val (.int q4), .val (.ref b58), .val (.ref b63), .val (.int (Int32.ofNat ca1)), .val (.int (Int32.ofNat cb1)), .val (.int (Int32.ofNat ca2)), .val (.int (Int32.ofNat cb2)), .unset, .unset, .unset, .unset, .unset, .unset, .unset, .unset] [(.int q3)]))
  refine own_go (fun _ kt => XS.iconst X64.here hx rfl (hb hby at_56) kt) ?_
  show own_R _ _ _ _ (T64.setTop (mkF m 57 #[.val (.int q1), .val (.int q2), .val (.int q3), .val (.int q4), .val (.ref b58), .val (.ref b63), .val (.int (Int32.ofNat ca1)), .val (.int (Int32.ofNat cb1)), .val (.int (Int32.ofNat ca2)), .val (.int (Int32.ofNat cb2)), .unset, .unset, .unset, .unset, .unset, .unset, .unset, .unset] [(.int (3 : Int32)), (.int q3)]))
  refine own_go (fun _ kt => XS.iand X64.here hx rfl (hb hby at_57) rfl kt) ?_
  show own_R _ _ _ _ (T64.setTop (mkF m 58 #[.val (.int q1), .val (.int q2), .val (.int q3), .val (.int q4), .val (.ref b58), .val (.ref b63), .val (.int (Int32.ofNat ca1)), .val (.int (Int32.ofNat cb1)), .val (.int (Int32.ofNat ca2)), .val (.int (Int32.ofNat cb2)), .unset, .unset, .unset, .unset, .unset, .unset, .unset, .unset] [(.int (q3 &&& (3 : Int32)))]))
  refine own_go (fun _ kt => XS.istore X64.here hx rfl (hb hby at_58) rfl (l' := #[.val (.int q1), .val (.int q2), .val (.int q3), .val (.int q4), .val (.ref b58), .val (.ref b63), .val (.int (Int32.ofNat ca1)), .val (.int (Int32.ofNat cb1)), .val (.int (Int32.ofNat ca2)), .val (.int (Int32.ofNat cb2)), .val (.int (q3 &&& (3 : Int32))), .unset, .unset, .unset, .unset, .unset, .unset, .unset]) rfl kt) ?_
  show own_R _ _ _ _ (T64.setTop (mkF m 60 #[.val (.int q1), .val (.int q2), .val (.int q3), .val (.int q4), .val (.ref b58), .val (.ref b63), .val (.int (Int32.ofNat ca1)), .val (.int (Int32.ofNat cb1)), .val (.int (Int32.ofNat ca2)), .val (.int (Int32.ofNat cb2)), .val (.int (q3 &&& (3 : Int32))), .unset, .unset, .unset, .unset, .unset, .unset, .unset] []))
  generalize hzca3 : (q3 &&& (3 : Int32)) = zca3
  show own_R _ _ _ _ (T64.setTop (mkF m 60 #[.val (.int q1), .val (.int q2), .val (.int q3), .val (.int q4), .val (.ref b58), .val (.ref b63), .val (.int (Int32.ofNat ca1)), .val (.int (Int32.ofNat cb1)), .val (.int (Int32.ofNat ca2)), .val (.int (Int32.ofNat cb2)), .val (.int zca3), .unset, .unset, .unset, .unset, .unset, .unset, .unset] []))
  obtain ⟨ca3, hca3, rfl⟩ := own_and3 _ _ hzca3
  show own_R _ _ _ _ (T64.setTop (mkF m 60 #[.val (.int q1), .val (.int q2), .val (.int q3), .val (.int q4), .val (.ref b58), .val (.ref b63), .val (.int (Int32.ofNat ca1)), .val (.int (Int32.ofNat cb1)), .val (.int (Int32.ofNat ca2)), .val (.int (Int32.ofNat cb2)), .val (.int (Int32.ofNat ca3)), .unset, .unset, .unset, .unset, .unset, .unset, .unset] []))
  refine own_go (fun _ kt => XS.iloadN X64.here hx rfl (hb hby at_60) rfl kt) ?_
  show own_R _ _ _ _ (T64.setTop (mkF m 61 #[.val (.int q1), .val (.int q2), .val (.int q3), .val (.int q4), .val (.ref b58), .val (.ref b63), .val (.int (Int32.ofNat ca1)), .val (.int (Int32.ofNat cb1)), .val (.int (Int32.ofNat ca2)), .val (.int (Int32.ofNat cb2)), .val (.int (Int32.ofNat ca3)), .unset, .unset, .unset, .unset, .unset, .unset, .unset] [(.int q3)]))
  refine own_go (fun _ kt => XS.iconst X64.here hx rfl (hb hby at_61) kt) ?_
  show own_R _ _ _ _ (T64.setTop (mkF m 62 #[.val (.int q1), .val (.int q2), .val (.int q3), .val (.int q4), .val (.ref b58), .val (.ref b63), .val (.int (Int32.ofNat ca1)), .val (.int (Int32.ofNat cb1)), .val (.int (Int32.ofNat ca2)), .val (.int (Int32.ofNat cb2)), .val (.int (Int32.ofNat ca3)), .unset, .unset, .unset, .unset, .unset, .unset, .unset] [(.int (2 : Int32)), (.int q3)]))
  refine own_go (fun _ kt => XS.iushr X64.here hx rfl (hb hby at_62) rfl kt) ?_
  show own_R _ _ _ _ (T64.setTop (mkF m 63 #[.val (.int q1), .val (.int q2), .val (.int q3), .val (.int q4), .val (.ref b58), .val (.ref b63), .val (.int (Int32.ofNat ca1)), .val (.int (Int32.ofNat cb1)), .val (.int (Int32.ofNat ca2)), .val (.int (Int32.ofNat cb2)), .val (.int (Int32.ofNat ca3)), .unset, .unset, .unset, .unset, .unset, .unset, .unset] [(.int ((q3.toUInt32 >>> ((2 : Int32) &&& 31).toUInt32).toInt32))]))
  refine own_go (fun _ kt => XS.iconst X64.here hx rfl (hb hby at_63) kt) ?_
  show own_R _ _ _ _ (T64.setTop (mkF m 64 #[.val (.int q1), .val (.int q2), .val (.int q3), .val (.int q4), .val (.ref b58), .val (.ref b63), .val (.int (Int32.ofNat ca1)), .val (.int (Int32.ofNat cb1)), .val (.int (Int32.ofNat ca2)), .val (.int (Int32.ofNat cb2)), .val (.int (Int32.ofNat ca3)), .unset, .unset, .unset, .unset, .unset, .unset, .unset] [(.int (3 : Int32)), (.int ((q3.toUInt32 >>> ((2 : Int32) &&& 31).toUInt32).toInt32))]))
  refine own_go (fun _ kt => XS.iand X64.here hx rfl (hb hby at_64) rfl kt) ?_
  show own_R _ _ _ _ (T64.setTop (mkF m 65 #[.val (.int q1), .val (.int q2), .val (.int q3), .val (.int q4), .val (.ref b58), .val (.ref b63), .val (.int (Int32.ofNat ca1)), .val (.int (Int32.ofNat cb1)), .val (.int (Int32.ofNat ca2)), .val (.int (Int32.ofNat cb2)), .val (.int (Int32.ofNat ca3)), .unset, .unset, .unset, .unset, .unset, .unset, .unset] [(.int (((q3.toUInt32 >>> ((2 : Int32) &&& 31).toUInt32).toInt32) &&& (3 : Int32)))]))
  refine own_go (fun _ kt => XS.istore X64.here hx rfl (hb hby at_65) rfl (l' := #[.val (.int q1), .val (.int q2), .val (.int q3), .val (.int q4), .val (.ref b58), .val (.ref b63), .val (.int (Int32.ofNat ca1)), .val (.int (Int32.ofNat cb1)), .val (.int (Int32.ofNat ca2)), .val (.int (Int32.ofNat cb2)), .val (.int (Int32.ofNat ca3)), .val (.int (((q3.toUInt32 >>> ((2 : Int32) &&& 31).toUInt32).toInt32) &&& (3 : Int32))), .unset, .unset, .unset, .unset, .unset, .unset]) rfl kt) ?_
  show own_R _ _ _ _ (T64.setTop (mkF m 67 #[.val (.int q1), .val (.int q2), .val (.int q3), .val (.int q4), .val (.ref b58), .val (.ref b63), .val (.int (Int32.ofNat ca1)), .val (.int (Int32.ofNat cb1)), .val (.int (Int32.ofNat ca2)), .val (.int (Int32.ofNat cb2)), .val (.int (Int32.ofNat ca3)), .val (.int (((q3.toUInt32 >>> ((2 : Int32) &&& 31).toUInt32).toInt32) &&& (3 : Int32))), .unset, .unset, .unset, .unset, .unset, .unset] []))
  generalize hzcb3 : (((q3.toUInt32 >>> ((2 : Int32) &&& 31).toUInt32).toInt32) &&& (3 : Int32)) = zcb3
  show own_R _ _ _ _ (T64.setTop (mkF m 67 #[.val (.int q1), .val (.int q2), .val (.int q3), .val (.int q4), .val (.ref b58), .val (.ref b63), .val (.int (Int32.ofNat ca1)), .val (.int (Int32.ofNat cb1)), .val (.int (Int32.ofNat ca2)), .val (.int (Int32.ofNat cb2)), .val (.int (Int32.ofNat ca3)), .val (.int zcb3), .unset, .unset, .unset, .unset, .unset, .unset] []))
  obtain ⟨cb3, hcb3, rfl⟩ := own_and3 _ _ hzcb3
  show own_R _ _ _ _ (T64.setTop (mkF m 67 #[.val (.int q1), .val (.int q2), .val (.int q3), .val (.int q4), .val (.ref b58), .val (.ref b63), .val (.int (Int32.ofNat ca1)), .val (.int (Int32.ofNat cb1)), .val (.int (Int32.ofNat ca2)), .val (.int (Int32.ofNat cb2)), .val (.int (Int32.ofNat ca3)), .val (.int (Int32.ofNat cb3)), .unset, .unset, .unset, .unset, .unset, .unset] []))
  have okS : own_ok [0, 1, 2, 3] := by decide
  have lab0 : own_lab [0, 1, 2, 3] = [(0 : Int32), (1 : Int32), (2 : Int32), (3 : Int32)] := by decide +kernel
  refine own_go (fun _ kt => XS.aload X64.here hx rfl (hb hby at_67) rfl rfl kt) ?_
  show own_R _ _ _ _ (T64.setTop (mkF m 69 #[.val (.int q1), .val (.int q2), .val (.int q3), .val (.int q4), .val (.ref b58), .val (.ref b63), .val (.int (Int32.ofNat ca1)), .val (.int (Int32.ofNat cb1)), .val (.int (Int32.ofNat ca2)), .val (.int (Int32.ofNat cb2)), .val (.int (Int32.ofNat ca3)), .val (.int (Int32.ofNat cb3)), .unset, .unset, .unset, .unset, .unset, .unset] [(.ref b63)]))
  refine own_go (fun _ kt => XS.iload X64.here hx rfl (hb hby at_69) rfl kt) ?_
  show own_R _ _ _ _ (T64.setTop (mkF m 71 #[.val (.int q1), .val (.int q2), .val (.int q3), .val (.int q4), .val (.ref b58), .val (.ref b63), .val (.int (Int32.ofNat ca1)), .val (.int (Int32.ofNat cb1)), .val (.int (Int32.ofNat ca2)), .val (.int (Int32.ofNat cb2)), .val (.int (Int32.ofNat ca3)), .val (.int (Int32.ofNat cb3)), .unset, .unset, .unset, .unset, .unset, .unset] [(.int (Int32.ofNat ca1)), (.ref b63)]))
  refine own_go (fun _ kt => XS.iload X64.here hx rfl (hb hby at_71) rfl kt) ?_
  show own_R _ _ _ _ (T64.setTop (mkF m 73 #[.val (.int q1), .val (.int q2), .val (.int q3), .val (.int q4), .val (.ref b58), .val (.ref b63), .val (.int (Int32.ofNat ca1)), .val (.int (Int32.ofNat cb1)), .val (.int (Int32.ofNat ca2)), .val (.int (Int32.ofNat cb2)), .val (.int (Int32.ofNat ca3)), .val (.int (Int32.ofNat cb3)), .unset, .unset, .unset, .unset, .unset, .unset] [(.int (Int32.ofNat cb1)), (.int (Int32.ofNat ca1)), (.ref b63)]))
  obtain ⟨ok66, ok66'⟩ := own_f2 _ (own_enum okS) ⟨ca1, hca1⟩ ⟨cb1, hcb1⟩
  simp only at ok66 ok66'
  obtain ⟨cq65, kq65, q65a, q65b, q65c⟩ := isOf hZ e64 E_b63
  obtain ⟨_, _, ⟨T65, L65, k65, n65⟩, -, X65, ⟨Lc65, hQ65, l65, y65, z65⟩, st65⟩ := X64.virtualBack hx (y := (⟨"com/example/clearlot/clearlot/program/DisjointSets", "union", "(II)V"⟩ : MethodName)) (z := (⟨"com/example/clearlot/clearlot/program/DisjointSets", "union", "(II)V"⟩ : MethodName)) hown (mvT hZ (hw _ (List.mem_of_getElem? (i := 12) rfl))) (mvT hZ (hw _ (List.mem_of_getElem? (i := 13) rfl))) (notFace_of_selects (args := #[]) (mvT hZ (hw _ (List.mem_of_getElem? (i := 15) rfl)))) (mvT hZ (hw _ (List.mem_of_getElem? (i := 15) rfl))) (mvT hZ (hw _ (List.mem_of_getElem? (i := 14) rfl))) (by decide) (backOf (W := 0) (rm3 l Z a0 hw [] b63 c65 kc65 [0, 1, 2, 3] ca1 cb1 h64 n0 ZS E_b63 F_parent_b63 V_c65 g_c65 ne_b63_c65 okS hca1 hcb1) hZ (hw _ (List.mem_of_getElem? (i := 16) rfl)) (hw _ (List.mem_of_getElem? (i := 3) rfl)) (by decide) (by decide)) q65a q65c (g := (mkF m 73 #[.val (.int q1), .val (.int q2), .val (.int q3), .val (.int q4), .val (.ref b58), .val (.ref b63), .val (.int (Int32.ofNat ca1)), .val (.int (Int32.ofNat cb1)), .val (.int (Int32.ofNat ca2)), .val (.int (Int32.ofNat cb2)), .val (.int (Int32.ofNat ca3)), .val (.int (Int32.ofNat cb3)), .unset, .unset, .unset, .unset, .unset, .unset] [(.int (Int32.ofNat cb1)), (.int (Int32.ofNat ca1)), (.ref b63)])) rfl (by rw [hml]; rfl) (Steps.refl _) (argsL := [(.int (Int32.ofNat ca1)), (.int (Int32.ofNat cb1))]) (rest := []) (lenOf pd_3 rfl) rfl (by show 2 * 0 + _ ≤ _; exact Nat.le_of_eq rfl) (hb hby at_73) (fun _ _ => ⟨rfl, e64, (by decide : 3 + 0 ≤ _), (by decide : 9 + 0 ≤ _)⟩)
  dsimp only [Pt.U, Pt.locs, Pt.cells, Pt.slots] at X65 l65 y65 z65 st65 hQ65
  subst l65 y65 z65
  obtain ⟨h65, e65'⟩ : ∃ z, z = T65.heap := ⟨_, rfl⟩
  rw [← e65'] at hQ65
  have e65 : T65.heap = h65 := e65'.symm
  obtain ⟨rfl, N65q, K65, pp1⟩ := hQ65
  have NF := Fr.app NF N65q
  refine own_go (fun _ kt => st65.trans kt) ?_
  have V_b58 := V_b58.keep K65 (ninS ne_b58_c65 nin0)
  have E_b63 := E_b63.keep K65
  have F_parent_b63 := F_parent_b63.keep K65 (ninS ne_b63_c65 nin0)
  have ZS := Nat.le_trans ZS K65.1
  have KP := KP.trans K65 (allS (Or.inr sz_c65) all0)
  have V_c65 := pp1
  show own_R _ _ _ _ (T65.setTop (mkF m 76 #[.val (.int q1), .val (.int q2), .val (.int q3), .val (.int q4), .val (.ref b58), .val (.ref b63), .val (.int (Int32.ofNat ca1)), .val (.int (Int32.ofNat cb1)), .val (.int (Int32.ofNat ca2)), .val (.int (Int32.ofNat cb2)), .val (.int (Int32.ofNat ca3)), .val (.int (Int32.ofNat cb3)), .unset, .unset, .unset, .unset, .unset, .unset] []))
  refine own_go (fun _ kt => XS.aload X65.here hx rfl (hb hby at_76) rfl rfl kt) ?_
  show own_R _ _ _ _ (T65.setTop (mkF m 78 #[.val (.int q1), .val (.int q2), .val (.int q3), .val (.int q4), .val (.ref b58), .val (.ref b63), .val (.int (Int32.ofNat ca1)), .val (.int (Int32.ofNat cb1)), .val (.int (Int32.ofNat ca2)), .val (.int (Int32.ofNat cb2)), .val (.int (Int32.ofNat ca3)), .val (.int (Int32.ofNat cb3)), .unset, .unset, .unset, .unset, .unset, .unset] [(.ref b58)]))
  refine own_go (fun _ kt => XS.iload X65.here hx rfl (hb hby at_78) rfl kt) ?_
  show own_R _ _ _ _ (T65.setTop (mkF m 80 #[.val (.int q1), .val (.int q2), .val (.int q3), .val (.int q4), .val (.ref b58), .val (.ref b63), .val (.int (Int32.ofNat ca1)), .val (.int (Int32.ofNat cb1)), .val (.int (Int32.ofNat ca2)), .val (.int (Int32.ofNat cb2)), .val (.int (Int32.ofNat ca3)), .val (.int (Int32.ofNat cb3)), .unset, .unset, .unset, .unset, .unset, .unset] [(.int (Int32.ofNat ca1)), (.ref b58)]))
  refine own_go (fun _ kt => XS.iload X65.here hx rfl (hb hby at_80) rfl kt) ?_
  show own_R _ _ _ _ (T65.setTop (mkF m 82 #[.val (.int q1), .val (.int q2), .val (.int q3), .val (.int q4), .val (.ref b58), .val (.ref b63), .val (.int (Int32.ofNat ca1)), .val (.int (Int32.ofNat cb1)), .val (.int (Int32.ofNat ca2)), .val (.int (Int32.ofNat cb2)), .val (.int (Int32.ofNat ca3)), .val (.int (Int32.ofNat cb3)), .unset, .unset, .unset, .unset, .unset, .unset] [(.int (Int32.ofNat cb1)), (.int (Int32.ofNat ca1)), (.ref b58)]))
  obtain ⟨_, _, ⟨T66, L66, k66, n66⟩, -, X66, ⟨Lc66, hQ66, l66, y66, z66⟩, st66⟩ := Jvm.LawKit.callS X65 hx (y := (⟨"com/example/clearlot/clearlot/program/DisjointSetsFindPinLaw", "merge", "([III)V"⟩ : MethodName)) hown (mvT hZ (hw _ (List.mem_of_getElem? (i := 22) rfl))) (mvT hZ (hw _ (List.mem_of_getElem? (i := 23) rfl))) (mvT hZ (hw _ (List.mem_of_getElem? (i := 24) rfl))) (mvT hZ (hw _ (List.mem_of_getElem? (i := 25) rfl))) (by decide) (backOf (W := 0) (rm5 l Z a0 hw [] b58 k58 (0 : Int32) (1 : Int32) (2 : Int32) (3 : Int32) ca1 cb1 h65 n0 ZS V_b58 g_b58 hca1 hcb1) hZ (hw _ (List.mem_of_getElem? (i := 25) rfl)) (hw _ (List.mem_of_getElem? (i := 24) rfl)) (by decide) (by decide)) (g := (mkF m 82 #[.val (.int q1), .val (.int q2), .val (.int q3), .val (.int q4), .val (.ref b58), .val (.ref b63), .val (.int (Int32.ofNat ca1)), .val (.int (Int32.ofNat cb1)), .val (.int (Int32.ofNat ca2)), .val (.int (Int32.ofNat cb2)), .val (.int (Int32.ofNat ca3)), .val (.int (Int32.ofNat cb3)), .unset, .unset, .unset, .unset, .unset, .unset] [(.int (Int32.ofNat cb1)), (.int (Int32.ofNat ca1)), (.ref b58)])) rfl (by rw [hml]; rfl) (argsL := [(.ref b58), (.int (Int32.ofNat ca1)), (.int (Int32.ofNat cb1))]) (rest := []) (lenOf pd_4 rfl) rfl (by show 2 * 0 + _ ≤ _; exact Nat.le_of_eq rfl) (hb hby at_82) (fun _ _ => ⟨rfl, e65, (by decide : 3 + 0 ≤ _), (by decide : 9 + 0 ≤ _)⟩)
  dsimp only [Pt.U, Pt.locs, Pt.cells, Pt.slots] at X66 l66 y66 z66 st66 hQ66
  subst l66 y66 z66
  obtain ⟨h66, e66'⟩ : ∃ z, z = T66.heap := ⟨_, rfl⟩
  rw [← e66'] at hQ66
  have e66 : T66.heap = h66 := e66'.symm
  obtain ⟨rfl, N66q, K66, pp1⟩ := hQ66
  have NF := Fr.app NF N66q
  refine own_go st66 ?_
  have E_b63 := E_b63.keep K66
  have F_parent_b63 := F_parent_b63.keep K66 (ninS (Ne.symm ne_b58_b63) nin0)
  have V_c65 := V_c65.keep K66 (ninS (Ne.symm ne_b58_c65) nin0)
  have ZS := Nat.le_trans ZS K66.1
  have KP := KP.trans K66 (allS (Or.inr sz_b58) all0)
  have V_b58 := pp1
  obtain ⟨ym670, ym671, ym672, ym673, hym67⟩ : ∃ ym670 ym671 ym672 ym673 : Int32, own_lab (own_uni [0, 1, 2, 3] ca1 cb1) = [ym670, ym671, ym672, ym673] := ⟨_, _, _, _, rfl⟩
  rw [← lab0, ok66', hym67] at V_b58
  show own_R _ _ _ _ (T66.setTop (mkF m 85 #[.val (.int q1), .val (.int q2), .val (.int q3), .val (.int q4), .val (.ref b58), .val (.ref b63), .val (.int (Int32.ofNat ca1)), .val (.int (Int32.ofNat cb1)), .val (.int (Int32.ofNat ca2)), .val (.int (Int32.ofNat cb2)), .val (.int (Int32.ofNat ca3)), .val (.int (Int32.ofNat cb3)), .unset, .unset, .unset, .unset, .unset, .unset] []))
  refine own_go (fun _ kt => XS.aload X66.here hx rfl (hb hby at_85) rfl rfl kt) ?_
  show own_R _ _ _ _ (T66.setTop (mkF m 87 #[.val (.int q1), .val (.int q2), .val (.int q3), .val (.int q4), .val (.ref b58), .val (.ref b63), .val (.int (Int32.ofNat ca1)), .val (.int (Int32.ofNat cb1)), .val (.int (Int32.ofNat ca2)), .val (.int (Int32.ofNat cb2)), .val (.int (Int32.ofNat ca3)), .val (.int (Int32.ofNat cb3)), .unset, .unset, .unset, .unset, .unset, .unset] [(.ref b63)]))
  refine own_go (fun _ kt => XS.iload X66.here hx rfl (hb hby at_87) rfl kt) ?_
  show own_R _ _ _ _ (T66.setTop (mkF m 89 #[.val (.int q1), .val (.int q2), .val (.int q3), .val (.int q4), .val (.ref b58), .val (.ref b63), .val (.int (Int32.ofNat ca1)), .val (.int (Int32.ofNat cb1)), .val (.int (Int32.ofNat ca2)), .val (.int (Int32.ofNat cb2)), .val (.int (Int32.ofNat ca3)), .val (.int (Int32.ofNat cb3)), .unset, .unset, .unset, .unset, .unset, .unset] [(.int (Int32.ofNat ca2)), (.ref b63)]))
  refine own_go (fun _ kt => XS.iload X66.here hx rfl (hb hby at_89) rfl kt) ?_
  show own_R _ _ _ _ (T66.setTop (mkF m 91 #[.val (.int q1), .val (.int q2), .val (.int q3), .val (.int q4), .val (.ref b58), .val (.ref b63), .val (.int (Int32.ofNat ca1)), .val (.int (Int32.ofNat cb1)), .val (.int (Int32.ofNat ca2)), .val (.int (Int32.ofNat cb2)), .val (.int (Int32.ofNat ca3)), .val (.int (Int32.ofNat cb3)), .unset, .unset, .unset, .unset, .unset, .unset] [(.int (Int32.ofNat cb2)), (.int (Int32.ofNat ca2)), (.ref b63)]))
  obtain ⟨ok69, ok69'⟩ := own_f2 _ (own_enum ok66) ⟨ca2, hca2⟩ ⟨cb2, hcb2⟩
  simp only at ok69 ok69'
  obtain ⟨cq68, kq68, q68a, q68b, q68c⟩ := isOf hZ e66 E_b63
  obtain ⟨_, _, ⟨T68, L68, k68, n68⟩, -, X68, ⟨Lc68, hQ68, l68, y68, z68⟩, st68⟩ := X66.virtualBack hx (y := (⟨"com/example/clearlot/clearlot/program/DisjointSets", "union", "(II)V"⟩ : MethodName)) (z := (⟨"com/example/clearlot/clearlot/program/DisjointSets", "union", "(II)V"⟩ : MethodName)) hown (mvT hZ (hw _ (List.mem_of_getElem? (i := 12) rfl))) (mvT hZ (hw _ (List.mem_of_getElem? (i := 13) rfl))) (notFace_of_selects (args := #[]) (mvT hZ (hw _ (List.mem_of_getElem? (i := 15) rfl)))) (mvT hZ (hw _ (List.mem_of_getElem? (i := 15) rfl))) (mvT hZ (hw _ (List.mem_of_getElem? (i := 14) rfl))) (by decide) (backOf (W := 0) (rm3 l Z a0 hw [] b63 c65 kc65 (own_uni [0, 1, 2, 3] ca1 cb1) ca2 cb2 h66 n0 ZS E_b63 F_parent_b63 V_c65 g_c65 ne_b63_c65 ok66 hca2 hcb2) hZ (hw _ (List.mem_of_getElem? (i := 16) rfl)) (hw _ (List.mem_of_getElem? (i := 3) rfl)) (by decide) (by decide)) q68a q68c (g := (mkF m 91 #[.val (.int q1), .val (.int q2), .val (.int q3), .val (.int q4), .val (.ref b58), .val (.ref b63), .val (.int (Int32.ofNat ca1)), .val (.int (Int32.ofNat cb1)), .val (.int (Int32.ofNat ca2)), .val (.int (Int32.ofNat cb2)), .val (.int (Int32.ofNat ca3)), .val (.int (Int32.ofNat cb3)), .unset, .unset, .unset, .unset, .unset, .unset] [(.int (Int32.ofNat cb2)), (.int (Int32.ofNat ca2)), (.ref b63)])) rfl (by rw [hml]; rfl) (Steps.refl _) (argsL := [(.int (Int32.ofNat ca2)), (.int (Int32.ofNat cb2))]) (rest := []) (lenOf pd_3 rfl) rfl (by show 2 * 0 + _ ≤ _; exact Nat.le_of_eq rfl) (hb hby at_91) (fun _ _ => ⟨rfl, e66, (by decide : 3 + 0 ≤ _), (by decide : 9 + 0 ≤ _)⟩)
  dsimp only [Pt.U, Pt.locs, Pt.cells, Pt.slots] at X68 l68 y68 z68 st68 hQ68
  subst l68 y68 z68
  obtain ⟨h68, e68'⟩ : ∃ z, z = T68.heap := ⟨_, rfl⟩
  rw [← e68'] at hQ68
  have e68 : T68.heap = h68 := e68'.symm
  obtain ⟨rfl, N68q, K68, pp1⟩ := hQ68
  have NF := Fr.app NF N68q
  refine own_go (fun _ kt => st68.trans kt) ?_
  have E_b63 := E_b63.keep K68
  have F_parent_b63 := F_parent_b63.keep K68 (ninS ne_b63_c65 nin0)
  have V_b58 := V_b58.keep K68 (ninS ne_b58_c65 nin0)
  have ZS := Nat.le_trans ZS K68.1
  have KP := KP.trans K68 (allS (Or.inr sz_c65) all0)
  have V_c65 := pp1
  show own_R _ _ _ _ (T68.setTop (mkF m 94 #[.val (.int q1), .val (.int q2), .val (.int q3), .val (.int q4), .val (.ref b58), .val (.ref b63), .val (.int (Int32.ofNat ca1)), .val (.int (Int32.ofNat cb1)), .val (.int (Int32.ofNat ca2)), .val (.int (Int32.ofNat cb2)), .val (.int (Int32.ofNat ca3)), .val (.int (Int32.ofNat cb3)), .unset, .unset, .unset, .unset, .unset, .unset] []))
  refine own_go (fun _ kt => XS.aload X68.here hx rfl (hb hby at_94) rfl rfl kt) ?_
  show own_R _ _ _ _ (T68.setTop (mkF m 96 #[.val (.int q1), .val (.int q2), .val (.int q3), .val (.int q4), .val (.ref b58), .val (.ref b63), .val (.int (Int32.ofNat ca1)), .val (.int (Int32.ofNat cb1)), .val (.int (Int32.ofNat ca2)), .val (.int (Int32.ofNat cb2)), .val (.int (Int32.ofNat ca3)), .val (.int (Int32.ofNat cb3)), .unset, .unset, .unset, .unset, .unset, .unset] [(.ref b58)]))
  refine own_go (fun _ kt => XS.iload X68.here hx rfl (hb hby at_96) rfl kt) ?_
  show own_R _ _ _ _ (T68.setTop (mkF m 98 #[.val (.int q1), .val (.int q2), .val (.int q3), .val (.int q4), .val (.ref b58), .val (.ref b63), .val (.int (Int32.ofNat ca1)), .val (.int (Int32.ofNat cb1)), .val (.int (Int32.ofNat ca2)), .val (.int (Int32.ofNat cb2)), .val (.int (Int32.ofNat ca3)), .val (.int (Int32.ofNat cb3)), .unset, .unset, .unset, .unset, .unset, .unset] [(.int (Int32.ofNat ca2)), (.ref b58)]))
  refine own_go (fun _ kt => XS.iload X68.here hx rfl (hb hby at_98) rfl kt) ?_
  show own_R _ _ _ _ (T68.setTop (mkF m 100 #[.val (.int q1), .val (.int q2), .val (.int q3), .val (.int q4), .val (.ref b58), .val (.ref b63), .val (.int (Int32.ofNat ca1)), .val (.int (Int32.ofNat cb1)), .val (.int (Int32.ofNat ca2)), .val (.int (Int32.ofNat cb2)), .val (.int (Int32.ofNat ca3)), .val (.int (Int32.ofNat cb3)), .unset, .unset, .unset, .unset, .unset, .unset] [(.int (Int32.ofNat cb2)), (.int (Int32.ofNat ca2)), (.ref b58)]))
  obtain ⟨_, _, ⟨T69, L69, k69, n69⟩, -, X69, ⟨Lc69, hQ69, l69, y69, z69⟩, st69⟩ := Jvm.LawKit.callS X68 hx (y := (⟨"com/example/clearlot/clearlot/program/DisjointSetsFindPinLaw", "merge", "([III)V"⟩ : MethodName)) hown (mvT hZ (hw _ (List.mem_of_getElem? (i := 22) rfl))) (mvT hZ (hw _ (List.mem_of_getElem? (i := 23) rfl))) (mvT hZ (hw _ (List.mem_of_getElem? (i := 24) rfl))) (mvT hZ (hw _ (List.mem_of_getElem? (i := 25) rfl))) (by decide) (backOf (W := 0) (rm5 l Z a0 hw [] b58 k58 ym670 ym671 ym672 ym673 ca2 cb2 h68 n0 ZS V_b58 g_b58 hca2 hcb2) hZ (hw _ (List.mem_of_getElem? (i := 25) rfl)) (hw _ (List.mem_of_getElem? (i := 24) rfl)) (by decide) (by decide)) (g := (mkF m 100 #[.val (.int q1), .val (.int q2), .val (.int q3), .val (.int q4), .val (.ref b58), .val (.ref b63), .val (.int (Int32.ofNat ca1)), .val (.int (Int32.ofNat cb1)), .val (.int (Int32.ofNat ca2)), .val (.int (Int32.ofNat cb2)), .val (.int (Int32.ofNat ca3)), .val (.int (Int32.ofNat cb3)), .unset, .unset, .unset, .unset, .unset, .unset] [(.int (Int32.ofNat cb2)), (.int (Int32.ofNat ca2)), (.ref b58)])) rfl (by rw [hml]; rfl) (argsL := [(.ref b58), (.int (Int32.ofNat ca2)), (.int (Int32.ofNat cb2))]) (rest := []) (lenOf pd_4 rfl) rfl (by show 2 * 0 + _ ≤ _; exact Nat.le_of_eq rfl) (hb hby at_100) (fun _ _ => ⟨rfl, e68, (by decide : 3 + 0 ≤ _), (by decide : 9 + 0 ≤ _)⟩)
  dsimp only [Pt.U, Pt.locs, Pt.cells, Pt.slots] at X69 l69 y69 z69 st69 hQ69
  subst l69 y69 z69
  obtain ⟨h69, e69'⟩ : ∃ z, z = T69.heap := ⟨_, rfl⟩
  rw [← e69'] at hQ69
  have e69 : T69.heap = h69 := e69'.symm
  obtain ⟨rfl, N69q, K69, pp1⟩ := hQ69
  have NF := Fr.app NF N69q
  refine own_go st69 ?_
  have E_b63 := E_b63.keep K69
  have F_parent_b63 := F_parent_b63.keep K69 (ninS (Ne.symm ne_b58_b63) nin0)
  have V_c65 := V_c65.keep K69 (ninS (Ne.symm ne_b58_c65) nin0)
  have ZS := Nat.le_trans ZS K69.1
  have KP := KP.trans K69 (allS (Or.inr sz_b58) all0)
  have V_b58 := pp1
  obtain ⟨ym700, ym701, ym702, ym703, hym70⟩ : ∃ ym700 ym701 ym702 ym703 : Int32, own_lab (own_uni (own_uni [0, 1, 2, 3] ca1 cb1) ca2 cb2) = [ym700, ym701, ym702, ym703] := ⟨_, _, _, _, rfl⟩
  rw [← hym67, ok69', hym70] at V_b58
  show own_R _ _ _ _ (T69.setTop (mkF m 103 #[.val (.int q1), .val (.int q2), .val (.int q3), .val (.int q4), .val (.ref b58), .val (.ref b63), .val (.int (Int32.ofNat ca1)), .val (.int (Int32.ofNat cb1)), .val (.int (Int32.ofNat ca2)), .val (.int (Int32.ofNat cb2)), .val (.int (Int32.ofNat ca3)), .val (.int (Int32.ofNat cb3)), .unset, .unset, .unset, .unset, .unset, .unset] []))
  refine own_go (fun _ kt => XS.aload X69.here hx rfl (hb hby at_103) rfl rfl kt) ?_
  show own_R _ _ _ _ (T69.setTop (mkF m 105 #[.val (.int q1), .val (.int q2), .val (.int q3), .val (.int q4), .val (.ref b58), .val (.ref b63), .val (.int (Int32.ofNat ca1)), .val (.int (Int32.ofNat cb1)), .val (.int (Int32.ofNat ca2)), .val (.int (Int32.ofNat cb2)), .val (.int (Int32.ofNat ca3)), .val (.int (Int32.ofNat cb3)), .unset, .unset, .unset, .unset, .unset, .unset] [(.ref b63)]))
  refine own_go (fun _ kt => XS.iload X69.here hx rfl (hb hby at_105) rfl kt) ?_
  show own_R _ _ _ _ (T69.setTop (mkF m 107 #[.val (.int q1), .val (.int q2), .val (.int q3), .val (.int q4), .val (.ref b58), .val (.ref b63), .val (.int (Int32.ofNat ca1)), .val (.int (Int32.ofNat cb1)), .val (.int (Int32.ofNat ca2)), .val (.int (Int32.ofNat cb2)), .val (.int (Int32.ofNat ca3)), .val (.int (Int32.ofNat cb3)), .unset, .unset, .unset, .unset, .unset, .unset] [(.int (Int32.ofNat ca3)), (.ref b63)]))
  refine own_go (fun _ kt => XS.iload X69.here hx rfl (hb hby at_107) rfl kt) ?_
  show own_R _ _ _ _ (T69.setTop (mkF m 109 #[.val (.int q1), .val (.int q2), .val (.int q3), .val (.int q4), .val (.ref b58), .val (.ref b63), .val (.int (Int32.ofNat ca1)), .val (.int (Int32.ofNat cb1)), .val (.int (Int32.ofNat ca2)), .val (.int (Int32.ofNat cb2)), .val (.int (Int32.ofNat ca3)), .val (.int (Int32.ofNat cb3)), .unset, .unset, .unset, .unset, .unset, .unset] [(.int (Int32.ofNat cb3)), (.int (Int32.ofNat ca3)), (.ref b63)]))
  obtain ⟨ok72, ok72'⟩ := own_f2 _ (own_enum ok69) ⟨ca3, hca3⟩ ⟨cb3, hcb3⟩
  simp only at ok72 ok72'
  obtain ⟨cq71, kq71, q71a, q71b, q71c⟩ := isOf hZ e69 E_b63
  obtain ⟨_, _, ⟨T71, L71, k71, n71⟩, -, X71, ⟨Lc71, hQ71, l71, y71, z71⟩, st71⟩ := X69.virtualBack hx (y := (⟨"com/example/clearlot/clearlot/program/DisjointSets", "union", "(II)V"⟩ : MethodName)) (z := (⟨"com/example/clearlot/clearlot/program/DisjointSets", "union", "(II)V"⟩ : MethodName)) hown (mvT hZ (hw _ (List.mem_of_getElem? (i := 12) rfl))) (mvT hZ (hw _ (List.mem_of_getElem? (i := 13) rfl))) (notFace_of_selects (args := #[]) (mvT hZ (hw _ (List.mem_of_getElem? (i := 15) rfl)))) (mvT hZ (hw _ (List.mem_of_getElem? (i := 15) rfl))) (mvT hZ (hw _ (List.mem_of_getElem? (i := 14) rfl))) (by decide) (backOf (W := 0) (rm3 l Z a0 hw [] b63 c65 kc65 (own_uni (own_uni [0, 1, 2, 3] ca1 cb1) ca2 cb2) ca3 cb3 h69 n0 ZS E_b63 F_parent_b63 V_c65 g_c65 ne_b63_c65 ok69 hca3 hcb3) hZ (hw _ (List.mem_of_getElem? (i := 16) rfl)) (hw _ (List.mem_of_getElem? (i := 3) rfl)) (by decide) (by decide)) q71a q71c (g := (mkF m 109 #[.val (.int q1), .val (.int q2), .val (.int q3), .val (.int q4), .val (.ref b58), .val (.ref b63), .val (.int (Int32.ofNat ca1)), .val (.int (Int32.ofNat cb1)), .val (.int (Int32.ofNat ca2)), .val (.int (Int32.ofNat cb2)), .val (.int (Int32.ofNat ca3)), .val (.int (Int32.ofNat cb3)), .unset, .unset, .unset, .unset, .unset, .unset] [(.int (Int32.ofNat cb3)), (.int (Int32.ofNat ca3)), (.ref b63)])) rfl (by rw [hml]; rfl) (Steps.refl _) (argsL := [(.int (Int32.ofNat ca3)), (.int (Int32.ofNat cb3))]) (rest := []) (lenOf pd_3 rfl) rfl (by show 2 * 0 + _ ≤ _; exact Nat.le_of_eq rfl) (hb hby at_109) (fun _ _ => ⟨rfl, e69, (by decide : 3 + 0 ≤ _), (by decide : 9 + 0 ≤ _)⟩)
  dsimp only [Pt.U, Pt.locs, Pt.cells, Pt.slots] at X71 l71 y71 z71 st71 hQ71
  subst l71 y71 z71
  obtain ⟨h71, e71'⟩ : ∃ z, z = T71.heap := ⟨_, rfl⟩
  rw [← e71'] at hQ71
  have e71 : T71.heap = h71 := e71'.symm
  obtain ⟨rfl, N71q, K71, pp1⟩ := hQ71
  have NF := Fr.app NF N71q
  refine own_go (fun _ kt => st71.trans kt) ?_
  have E_b63 := E_b63.keep K71
  have F_parent_b63 := F_parent_b63.keep K71 (ninS ne_b63_c65 nin0)
  have V_b58 := V_b58.keep K71 (ninS ne_b58_c65 nin0)
  have ZS := Nat.le_trans ZS K71.1
  have KP := KP.trans K71 (allS (Or.inr sz_c65) all0)
  have V_c65 := pp1
  show own_R _ _ _ _ (T71.setTop (mkF m 112 #[.val (.int q1), .val (.int q2), .val (.int q3), .val (.int q4), .val (.ref b58), .val (.ref b63), .val (.int (Int32.ofNat ca1)), .val (.int (Int32.ofNat cb1)), .val (.int (Int32.ofNat ca2)), .val (.int (Int32.ofNat cb2)), .val (.int (Int32.ofNat ca3)), .val (.int (Int32.ofNat cb3)), .unset, .unset, .unset, .unset, .unset, .unset] []))
  refine own_go (fun _ kt => XS.aload X71.here hx rfl (hb hby at_112) rfl rfl kt) ?_
  show own_R _ _ _ _ (T71.setTop (mkF m 114 #[.val (.int q1), .val (.int q2), .val (.int q3), .val (.int q4), .val (.ref b58), .val (.ref b63), .val (.int (Int32.ofNat ca1)), .val (.int (Int32.ofNat cb1)), .val (.int (Int32.ofNat ca2)), .val (.int (Int32.ofNat cb2)), .val (.int (Int32.ofNat ca3)), .val (.int (Int32.ofNat cb3)), .unset, .unset, .unset, .unset, .unset, .unset] [(.ref b58)]))
  refine own_go (fun _ kt => XS.iload X71.here hx rfl (hb hby at_114) rfl kt) ?_
  show own_R _ _ _ _ (T71.setTop (mkF m 116 #[.val (.int q1), .val (.int q2), .val (.int q3), .val (.int q4), .val (.ref b58), .val (.ref b63), .val (.int (Int32.ofNat ca1)), .val (.int (Int32.ofNat cb1)), .val (.int (Int32.ofNat ca2)), .val (.int (Int32.ofNat cb2)), .val (.int (Int32.ofNat ca3)), .val (.int (Int32.ofNat cb3)), .unset, .unset, .unset, .unset, .unset, .unset] [(.int (Int32.ofNat ca3)), (.ref b58)]))
  refine own_go (fun _ kt => XS.iload X71.here hx rfl (hb hby at_116) rfl kt) ?_
  show own_R _ _ _ _ (T71.setTop (mkF m 118 #[.val (.int q1), .val (.int q2), .val (.int q3), .val (.int q4), .val (.ref b58), .val (.ref b63), .val (.int (Int32.ofNat ca1)), .val (.int (Int32.ofNat cb1)), .val (.int (Int32.ofNat ca2)), .val (.int (Int32.ofNat cb2)), .val (.int (Int32.ofNat ca3)), .val (.int (Int32.ofNat cb3)), .unset, .unset, .unset, .unset, .unset, .unset] [(.int (Int32.ofNat cb3)), (.int (Int32.ofNat ca3)), (.ref b58)]))
  obtain ⟨_, _, ⟨T72, L72, k72, n72⟩, -, X72, ⟨Lc72, hQ72, l72, y72, z72⟩, st72⟩ := Jvm.LawKit.callS X71 hx (y := (⟨"com/example/clearlot/clearlot/program/DisjointSetsFindPinLaw", "merge", "([III)V"⟩ : MethodName)) hown (mvT hZ (hw _ (List.mem_of_getElem? (i := 22) rfl))) (mvT hZ (hw _ (List.mem_of_getElem? (i := 23) rfl))) (mvT hZ (hw _ (List.mem_of_getElem? (i := 24) rfl))) (mvT hZ (hw _ (List.mem_of_getElem? (i := 25) rfl))) (by decide) (backOf (W := 0) (rm5 l Z a0 hw [] b58 k58 ym700 ym701 ym702 ym703 ca3 cb3 h71 n0 ZS V_b58 g_b58 hca3 hcb3) hZ (hw _ (List.mem_of_getElem? (i := 25) rfl)) (hw _ (List.mem_of_getElem? (i := 24) rfl)) (by decide) (by decide)) (g := (mkF m 118 #[.val (.int q1), .val (.int q2), .val (.int q3), .val (.int q4), .val (.ref b58), .val (.ref b63), .val (.int (Int32.ofNat ca1)), .val (.int (Int32.ofNat cb1)), .val (.int (Int32.ofNat ca2)), .val (.int (Int32.ofNat cb2)), .val (.int (Int32.ofNat ca3)), .val (.int (Int32.ofNat cb3)), .unset, .unset, .unset, .unset, .unset, .unset] [(.int (Int32.ofNat cb3)), (.int (Int32.ofNat ca3)), (.ref b58)])) rfl (by rw [hml]; rfl) (argsL := [(.ref b58), (.int (Int32.ofNat ca3)), (.int (Int32.ofNat cb3))]) (rest := []) (lenOf pd_4 rfl) rfl (by show 2 * 0 + _ ≤ _; exact Nat.le_of_eq rfl) (hb hby at_118) (fun _ _ => ⟨rfl, e71, (by decide : 3 + 0 ≤ _), (by decide : 9 + 0 ≤ _)⟩)
  dsimp only [Pt.U, Pt.locs, Pt.cells, Pt.slots] at X72 l72 y72 z72 st72 hQ72
  subst l72 y72 z72
  obtain ⟨h72, e72'⟩ : ∃ z, z = T72.heap := ⟨_, rfl⟩
  rw [← e72'] at hQ72
  have e72 : T72.heap = h72 := e72'.symm
  obtain ⟨rfl, N72q, K72, pp1⟩ := hQ72
  have NF := Fr.app NF N72q
  refine own_go st72 ?_
  have E_b63 := E_b63.keep K72
  have F_parent_b63 := F_parent_b63.keep K72 (ninS (Ne.symm ne_b58_b63) nin0)
  have V_c65 := V_c65.keep K72 (ninS (Ne.symm ne_b58_c65) nin0)
  have ZS := Nat.le_trans ZS K72.1
  have KP := KP.trans K72 (allS (Or.inr sz_b58) all0)
  have V_b58 := pp1
  obtain ⟨ym730, ym731, ym732, ym733, hym73⟩ : ∃ ym730 ym731 ym732 ym733 : Int32, own_lab (own_uni (own_uni (own_uni [0, 1, 2, 3] ca1 cb1) ca2 cb2) ca3 cb3) = [ym730, ym731, ym732, ym733] := ⟨_, _, _, _, rfl⟩
  rw [← hym70, ok72', hym73] at V_b58
  show own_R _ _ _ _ (T72.setTop (mkF m 121 #[.val (.int q1), .val (.int q2), .val (.int q3), .val (.int q4), .val (.ref b58), .val (.ref b63), .val (.int (Int32.ofNat ca1)), .val (.int (Int32.ofNat cb1)), .val (.int (Int32.ofNat ca2)), .val (.int (Int32.ofNat cb2)), .val (.int (Int32.ofNat ca3)), .val (.int (Int32.ofNat cb3)), .unset, .unset, .unset, .unset, .unset, .unset] []))
  refine own_go (fun _ kt => XS.iloadN X72.here hx rfl (hb hby at_121) rfl kt) ?_
  show own_R _ _ _ _ (T72.setTop (mkF m 122 #[.val (.int q1), .val (.int q2), .val (.int q3), .val (.int q4), .val (.ref b58), .val (.ref b63), .val (.int (Int32.ofNat ca1)), .val (.int (Int32.ofNat cb1)), .val (.int (Int32.ofNat ca2)), .val (.int (Int32.ofNat cb2)), .val (.int (Int32.ofNat ca3)), .val (.int (Int32.ofNat cb3)), .unset, .unset, .unset, .unset, .unset, .unset] [(.int q4)]))
  refine own_go (fun _ kt => XS.iconst X72.here hx rfl (hb hby at_122) kt) ?_
  show own_R _ _ _ _ (T72.setTop (mkF m 123 #[.val (.int q1), .val (.int q2), .val (.int q3), .val (.int q4), .val (.ref b58), .val (.ref b63), .val (.int (Int32.ofNat ca1)), .val (.int (Int32.ofNat cb1)), .val (.int (Int32.ofNat ca2)), .val (.int (Int32.ofNat cb2)), .val (.int (Int32.ofNat ca3)), .val (.int (Int32.ofNat cb3)), .unset, .unset, .unset, .unset, .unset, .unset] [(.int (3 : Int32)), (.int q4)]))
  refine own_go (fun _ kt => XS.iand X72.here hx rfl (hb hby at_123) rfl kt) ?_
  show own_R _ _ _ _ (T72.setTop (mkF m 124 #[.val (.int q1), .val (.int q2), .val (.int q3), .val (.int q4), .val (.ref b58), .val (.ref b63), .val (.int (Int32.ofNat ca1)), .val (.int (Int32.ofNat cb1)), .val (.int (Int32.ofNat ca2)), .val (.int (Int32.ofNat cb2)), .val (.int (Int32.ofNat ca3)), .val (.int (Int32.ofNat cb3)), .unset, .unset, .unset, .unset, .unset, .unset] [(.int (q4 &&& (3 : Int32)))]))
  refine own_go (fun _ kt => XS.istore X72.here hx rfl (hb hby at_124) rfl (l' := #[.val (.int q1), .val (.int q2), .val (.int q3), .val (.int q4), .val (.ref b58), .val (.ref b63), .val (.int (Int32.ofNat ca1)), .val (.int (Int32.ofNat cb1)), .val (.int (Int32.ofNat ca2)), .val (.int (Int32.ofNat cb2)), .val (.int (Int32.ofNat ca3)), .val (.int (Int32.ofNat cb3)), .val (.int (q4 &&& (3 : Int32))), .unset, .unset, .unset, .unset, .unset]) rfl kt) ?_
  show own_R _ _ _ _ (T72.setTop (mkF m 126 #[.val (.int q1), .val (.int q2), .val (.int q3), .val (.int q4), .val (.ref b58), .val (.ref b63), .val (.int (Int32.ofNat ca1)), .val (.int (Int32.ofNat cb1)), .val (.int (Int32.ofNat ca2)), .val (.int (Int32.ofNat cb2)), .val (.int (Int32.ofNat ca3)), .val (.int (Int32.ofNat cb3)), .val (.int (q4 &&& (3 : Int32))), .unset, .unset, .unset, .unset, .unset] []))
  generalize hzce : (q4 &&& (3 : Int32)) = zce
  show own_R _ _ _ _ (T72.setTop (mkF m 126 #[.val (.int q1), .val (.int q2), .val (.int q3), .val (.int q4), .val (.ref b58), .val (.ref b63), .val (.int (Int32.ofNat ca1)), .val (.int (Int32.ofNat cb1)), .val (.int (Int32.ofNat ca2)), .val (.int (Int32.ofNat cb2)), .val (.int (Int32.ofNat ca3)), .val (.int (Int32.ofNat cb3)), .val (.int zce), .unset, .unset, .unset, .unset, .unset] []))
  obtain ⟨ce, hce, rfl⟩ := own_and3 _ _ hzce
  show own_R _ _ _ _ (T72.setTop (mkF m 126 #[.val (.int q1), .val (.int q2), .val (.int q3), .val (.int q4), .val (.ref b58), .val (.ref b63), .val (.int (Int32.ofNat ca1)), .val (.int (Int32.ofNat cb1)), .val (.int (Int32.ofNat ca2)), .val (.int (Int32.ofNat cb2)), .val (.int (Int32.ofNat ca3)), .val (.int (Int32.ofNat cb3)), .val (.int (Int32.ofNat ce)), .unset, .unset, .unset, .unset, .unset] []))
  refine own_go (fun _ kt => XS.aload X72.here hx rfl (hb hby at_126) rfl rfl kt) ?_
  show own_R _ _ _ _ (T72.setTop (mkF m 128 #[.val (.int q1), .val (.int q2), .val (.int q3), .val (.int q4), .val (.ref b58), .val (.ref b63), .val (.int (Int32.ofNat ca1)), .val (.int (Int32.ofNat cb1)), .val (.int (Int32.ofNat ca2)), .val (.int (Int32.ofNat cb2)), .val (.int (Int32.ofNat ca3)), .val (.int (Int32.ofNat cb3)), .val (.int (Int32.ofNat ce)), .unset, .unset, .unset, .unset, .unset] [(.ref b63)]))
  refine own_go (fun _ kt => XS.iload X72.here hx rfl (hb hby at_128) rfl kt) ?_
  show own_R _ _ _ _ (T72.setTop (mkF m 130 #[.val (.int q1), .val (.int q2), .val (.int q3), .val (.int q4), .val (.ref b58), .val (.ref b63), .val (.int (Int32.ofNat ca1)), .val (.int (Int32.ofNat cb1)), .val (.int (Int32.ofNat ca2)), .val (.int (Int32.ofNat cb2)), .val (.int (Int32.ofNat ca3)), .val (.int (Int32.ofNat cb3)), .val (.int (Int32.ofNat ce)), .unset, .unset, .unset, .unset, .unset] [(.int (Int32.ofNat ce)), (.ref b63)]))
  obtain ⟨ok75, ok75', ok75''⟩ := own_f1 _ (own_enum ok72) ⟨ce, hce⟩
  simp only at ok75 ok75' ok75''
  obtain ⟨cq74, kq74, q74a, q74b, q74c⟩ := isOf hZ e72 E_b63
  obtain ⟨_, _, ⟨T74, L74, k74, n74⟩, -, X74, ⟨Lc74, hQ74, l74, y74, z74⟩, st74⟩ := X72.virtualBack hx (y := (⟨"com/example/clearlot/clearlot/program/DisjointSets", "find", "(I)I"⟩ : MethodName)) (z := (⟨"com/example/clearlot/clearlot/program/DisjointSets", "find", "(I)I"⟩ : MethodName)) hown (mvT hZ (hw _ (List.mem_of_getElem? (i := 35) rfl))) (mvT hZ (hw _ (List.mem_of_getElem? (i := 18) rfl))) (notFace_of_selects (args := #[]) (mvT hZ (hw _ (List.mem_of_getElem? (i := 20) rfl)))) (mvT hZ (hw _ (List.mem_of_getElem? (i := 20) rfl))) (mvT hZ (hw _ (List.mem_of_getElem? (i := 19) rfl))) (by decide) (backOf (W := 0) (rm4 l Z a0 hw [] b63 c65 kc65 (own_uni (own_uni (own_uni [0, 1, 2, 3] ca1 cb1) ca2 cb2) ca3 cb3) ce h72 n0 ZS F_parent_b63 V_c65 g_c65 ne_b63_c65 ok72 hce) hZ (hw _ (List.mem_of_getElem? (i := 21) rfl)) (hw _ (List.mem_of_getElem? (i := 3) rfl)) (by decide) (by decide)) q74a q74c (g := (mkF m 130 #[.val (.int q1), .val (.int q2), .val (.int q3), .val (.int q4), .val (.ref b58), .val (.ref b63), .val (.int (Int32.ofNat ca1)), .val (.int (Int32.ofNat cb1)), .val (.int (Int32.ofNat ca2)), .val (.int (Int32.ofNat cb2)), .val (.int (Int32.ofNat ca3)), .val (.int (Int32.ofNat cb3)), .val (.int (Int32.ofNat ce)), .unset, .unset, .unset, .unset, .unset] [(.int (Int32.ofNat ce)), (.ref b63)])) rfl (by rw [hml]; rfl) (Steps.refl _) (argsL := [(.int (Int32.ofNat ce))]) (rest := []) (lenOf pd_0 rfl) rfl (by show 2 * 0 + _ ≤ _; exact Nat.le_of_eq rfl) (hb hby at_130) (fun _ _ => ⟨rfl, e72, (by decide : 3 + 0 ≤ _), (by decide : 9 + 0 ≤ _)⟩)
  dsimp only [Pt.U, Pt.locs, Pt.cells, Pt.slots] at X74 l74 y74 z74 st74 hQ74
  subst l74 y74 z74
  obtain ⟨h74, e74'⟩ : ∃ z, z = T74.heap := ⟨_, rfl⟩
  rw [← e74'] at hQ74
  have e74 : T74.heap = h74 := e74'.symm
  obtain ⟨rfl, N74q, K74, pp1⟩ := hQ74
  have NF := Fr.app NF N74q
  refine own_go (fun _ kt => st74.trans kt) ?_
  have E_b63 := E_b63.keep K74
  have F_parent_b63 := F_parent_b63.keep K74 (ninS ne_b63_c65 nin0)
  have V_b58 := V_b58.keep K74 (ninS ne_b58_c65 nin0)
  have ZS := Nat.le_trans ZS K74.1
  have KP := KP.trans K74 (allS (Or.inr sz_c65) all0)
  have V_c65 := pp1
  show own_R _ _ _ _ (T74.setTop (mkF m 133 #[.val (.int q1), .val (.int q2), .val (.int q3), .val (.int q4), .val (.ref b58), .val (.ref b63), .val (.int (Int32.ofNat ca1)), .val (.int (Int32.ofNat cb1)), .val (.int (Int32.ofNat ca2)), .val (.int (Int32.ofNat cb2)), .val (.int (Int32.ofNat ca3)), .val (.int (Int32.ofNat cb3)), .val (.int (Int32.ofNat ce)), .unset, .unset, .unset, .unset, .unset] [(.int (Int32.ofNat (own_fnd 4 (own_uni (own_uni (own_uni [0, 1, 2, 3] ca1 cb1) ca2 cb2) ca3 cb3) ce).2))]))
  refine own_go (fun _ kt => XS.istore X74.here hx rfl (hb hby at_133) rfl (l' := #[.val (.int q1), .val (.int q2), .val (.int q3), .val (.int q4), .val (.ref b58), .val (.ref b63), .val (.int (Int32.ofNat ca1)), .val (.int (Int32.ofNat cb1)), .val (.int (Int32.ofNat ca2)), .val (.int (Int32.ofNat cb2)), .val (.int (Int32.ofNat ca3)), .val (.int (Int32.ofNat cb3)), .val (.int (Int32.ofNat ce)), .val (.int (Int32.ofNat (own_fnd 4 (own_uni (own_uni (own_uni [0, 1, 2, 3] ca1 cb1) ca2 cb2) ca3 cb3) ce).2)), .unset, .unset, .unset, .unset]) rfl kt) ?_
  show own_R _ _ _ _ (T74.setTop (mkF m 135 #[.val (.int q1), .val (.int q2), .val (.int q3), .val (.int q4), .val (.ref b58), .val (.ref b63), .val (.int (Int32.ofNat ca1)), .val (.int (Int32.ofNat cb1)), .val (.int (Int32.ofNat ca2)), .val (.int (Int32.ofNat cb2)), .val (.int (Int32.ofNat ca3)), .val (.int (Int32.ofNat cb3)), .val (.int (Int32.ofNat ce)), .val (.int (Int32.ofNat (own_fnd 4 (own_uni (own_uni (own_uni [0, 1, 2, 3] ca1 cb1) ca2 cb2) ca3 cb3) ce).2)), .unset, .unset, .unset, .unset] []))
  refine own_go (fun _ kt => XS.aload X74.here hx rfl (hb hby at_135) rfl rfl kt) ?_
  show own_R _ _ _ _ (T74.setTop (mkF m 137 #[.val (.int q1), .val (.int q2), .val (.int q3), .val (.int q4), .val (.ref b58), .val (.ref b63), .val (.int (Int32.ofNat ca1)), .val (.int (Int32.ofNat cb1)), .val (.int (Int32.ofNat ca2)), .val (.int (Int32.ofNat cb2)), .val (.int (Int32.ofNat ca3)), .val (.int (Int32.ofNat cb3)), .val (.int (Int32.ofNat ce)), .val (.int (Int32.ofNat (own_fnd 4 (own_uni (own_uni (own_uni [0, 1, 2, 3] ca1 cb1) ca2 cb2) ca3 cb3) ce).2)), .unset, .unset, .unset, .unset] [(.ref b63)]))
  refine own_go (fun _ kt => XS.iconst X74.here hx rfl (hb hby at_137) kt) ?_
  show own_R _ _ _ _ (T74.setTop (mkF m 138 #[.val (.int q1), .val (.int q2), .val (.int q3), .val (.int q4), .val (.ref b58), .val (.ref b63), .val (.int (Int32.ofNat ca1)), .val (.int (Int32.ofNat cb1)), .val (.int (Int32.ofNat ca2)), .val (.int (Int32.ofNat cb2)), .val (.int (Int32.ofNat ca3)), .val (.int (Int32.ofNat cb3)), .val (.int (Int32.ofNat ce)), .val (.int (Int32.ofNat (own_fnd 4 (own_uni (own_uni (own_uni [0, 1, 2, 3] ca1 cb1) ca2 cb2) ca3 cb3) ce).2)), .unset, .unset, .unset, .unset] [(.int (0 : Int32)), (.ref b63)]))
  obtain ⟨ok76, ok76', ok76''⟩ := own_f1 _ (own_enum ok75) ⟨0, (by decide)⟩
  simp only at ok76 ok76' ok76''
  obtain ⟨cq75, kq75, q75a, q75b, q75c⟩ := isOf hZ e74 E_b63
  obtain ⟨_, _, ⟨T75, L75, k75, n75⟩, -, X75, ⟨Lc75, hQ75, l75, y75, z75⟩, st75⟩ := X74.virtualBack hx (y := (⟨"com/example/clearlot/clearlot/program/DisjointSets", "find", "(I)I"⟩ : MethodName)) (z := (⟨"com/example/clearlot/clearlot/program/DisjointSets", "find", "(I)I"⟩ : MethodName)) hown (mvT hZ (hw _ (List.mem_of_getElem? (i := 35) rfl))) (mvT hZ (hw _ (List.mem_of_getElem? (i := 18) rfl))) (notFace_of_selects (args := #[]) (mvT hZ (hw _ (List.mem_of_getElem? (i := 20) rfl)))) (mvT hZ (hw _ (List.mem_of_getElem? (i := 20) rfl))) (mvT hZ (hw _ (List.mem_of_getElem? (i := 19) rfl))) (by decide) (backOf (W := 0) (rm4 l Z a0 hw [] b63 c65 kc65 (own_fnd 4 (own_uni (own_uni (own_uni [0, 1, 2, 3] ca1 cb1) ca2 cb2) ca3 cb3) ce).1 0 h74 n0 ZS F_parent_b63 V_c65 g_c65 ne_b63_c65 ok75 (by decide)) hZ (hw _ (List.mem_of_getElem? (i := 21) rfl)) (hw _ (List.mem_of_getElem? (i := 3) rfl)) (by decide) (by decide)) q75a q75c (g := (mkF m 138 #[.val (.int q1), .val (.int q2), .val (.int q3), .val (.int q4), .val (.ref b58), .val (.ref b63), .val (.int (Int32.ofNat ca1)), .val (.int (Int32.ofNat cb1)), .val (.int (Int32.ofNat ca2)), .val (.int (Int32.ofNat cb2)), .val (.int (Int32.ofNat ca3)), .val (.int (Int32.ofNat cb3)), .val (.int (Int32.ofNat ce)), .val (.int (Int32.ofNat (own_fnd 4 (own_uni (own_uni (own_uni [0, 1, 2, 3] ca1 cb1) ca2 cb2) ca3 cb3) ce).2)), .unset, .unset, .unset, .unset] [(.int (0 : Int32)), (.ref b63)])) rfl (by rw [hml]; rfl) (Steps.refl _) (argsL := [(.int (0 : Int32))]) (rest := []) (lenOf pd_0 rfl) rfl (by show 2 * 0 + _ ≤ _; exact Nat.le_of_eq rfl) (hb hby at_138) (fun _ _ => ⟨rfl, e74, (by decide : 3 + 0 ≤ _), (by decide : 9 + 0 ≤ _)⟩)
  dsimp only [Pt.U, Pt.locs, Pt.cells, Pt.slots] at X75 l75 y75 z75 st75 hQ75
  subst l75 y75 z75
  obtain ⟨h75, e75'⟩ : ∃ z, z = T75.heap := ⟨_, rfl⟩
  rw [← e75'] at hQ75
  have e75 : T75.heap = h75 := e75'.symm
  obtain ⟨rfl, N75q, K75, pp1⟩ := hQ75
  have NF := Fr.app NF N75q
  refine own_go (fun _ kt => st75.trans kt) ?_
  have E_b63 := E_b63.keep K75
  have F_parent_b63 := F_parent_b63.keep K75 (ninS ne_b63_c65 nin0)
  have V_b58 := V_b58.keep K75 (ninS ne_b58_c65 nin0)
  have ZS := Nat.le_trans ZS K75.1
  have KP := KP.trans K75 (allS (Or.inr sz_c65) all0)
  have V_c65 := pp1
  show own_R _ _ _ _ (T75.setTop (mkF m 141 #[.val (.int q1), .val (.int q2), .val (.int q3), .val (.int q4), .val (.ref b58), .val (.ref b63), .val (.int (Int32.ofNat ca1)), .val (.int (Int32.ofNat cb1)), .val (.int (Int32.ofNat ca2)), .val (.int (Int32.ofNat cb2)), .val (.int (Int32.ofNat ca3)), .val (.int (Int32.ofNat cb3)), .val (.int (Int32.ofNat ce)), .val (.int (Int32.ofNat (own_fnd 4 (own_uni (own_uni (own_uni [0, 1, 2, 3] ca1 cb1) ca2 cb2) ca3 cb3) ce).2)), .unset, .unset, .unset, .unset] [(.int (Int32.ofNat (own_fnd 4 (own_fnd 4 (own_uni (own_uni (own_uni [0, 1, 2, 3] ca1 cb1) ca2 cb2) ca3 cb3) ce).1 0).2))]))
  refine own_go (fun _ kt => XS.istore X75.here hx rfl (hb hby at_141) rfl (l' := #[.val (.int q1), .val (.int q2), .val (.int q3), .val (.int q4), .val (.ref b58), .val (.ref b63), .val (.int (Int32.ofNat ca1)), .val (.int (Int32.ofNat cb1)), .val (.int (Int32.ofNat ca2)), .val (.int (Int32.ofNat cb2)), .val (.int (Int32.ofNat ca3)), .val (.int (Int32.ofNat cb3)), .val (.int (Int32.ofNat ce)), .val (.int (Int32.ofNat (own_fnd 4 (own_uni (own_uni (own_uni [0, 1, 2, 3] ca1 cb1) ca2 cb2) ca3 cb3) ce).2)), .val (.int (Int32.ofNat (own_fnd 4 (own_fnd 4 (own_uni (own_uni (own_uni [0, 1, 2, 3] ca1 cb1) ca2 cb2) ca3 cb3) ce).1 0).2)), .unset, .unset, .unset]) rfl kt) ?_
  show own_R _ _ _ _ (T75.setTop (mkF m 143 #[.val (.int q1), .val (.int q2), .val (.int q3), .val (.int q4), .val (.ref b58), .val (.ref b63), .val (.int (Int32.ofNat ca1)), .val (.int (Int32.ofNat cb1)), .val (.int (Int32.ofNat ca2)), .val (.int (Int32.ofNat cb2)), .val (.int (Int32.ofNat ca3)), .val (.int (Int32.ofNat cb3)), .val (.int (Int32.ofNat ce)), .val (.int (Int32.ofNat (own_fnd 4 (own_uni (own_uni (own_uni [0, 1, 2, 3] ca1 cb1) ca2 cb2) ca3 cb3) ce).2)), .val (.int (Int32.ofNat (own_fnd 4 (own_fnd 4 (own_uni (own_uni (own_uni [0, 1, 2, 3] ca1 cb1) ca2 cb2) ca3 cb3) ce).1 0).2)), .unset, .unset, .unset] []))
  refine own_go (fun _ kt => XS.aload X75.here hx rfl (hb hby at_143) rfl rfl kt) ?_
  show own_R _ _ _ _ (T75.setTop (mkF m 145 #[.val (.int q1), .val (.int q2), .val (.int q3), .val (.int q4), .val (.ref b58), .val (.ref b63), .val (.int (Int32.ofNat ca1)), .val (.int (Int32.ofNat cb1)), .val (.int (Int32.ofNat ca2)), .val (.int (Int32.ofNat cb2)), .val (.int (Int32.ofNat ca3)), .val (.int (Int32.ofNat cb3)), .val (.int (Int32.ofNat ce)), .val (.int (Int32.ofNat (own_fnd 4 (own_uni (own_uni (own_uni [0, 1, 2, 3] ca1 cb1) ca2 cb2) ca3 cb3) ce).2)), .val (.int (Int32.ofNat (own_fnd 4 (own_fnd 4 (own_uni (own_uni (own_uni [0, 1, 2, 3] ca1 cb1) ca2 cb2) ca3 cb3) ce).1 0).2)), .unset, .unset, .unset] [(.ref b63)]))
  refine own_go (fun _ kt => XS.iconst X75.here hx rfl (hb hby at_145) kt) ?_
  show own_R _ _ _ _ (T75.setTop (mkF m 146 #[.val (.int q1), .val (.int q2), .val (.int q3), .val (.int q4), .val (.ref b58), .val (.ref b63), .val (.int (Int32.ofNat ca1)), .val (.int (Int32.ofNat cb1)), .val (.int (Int32.ofNat ca2)), .val (.int (Int32.ofNat cb2)), .val (.int (Int32.ofNat ca3)), .val (.int (Int32.ofNat cb3)), .val (.int (Int32.ofNat ce)), .val (.int (Int32.ofNat (own_fnd 4 (own_uni (own_uni (own_uni [0, 1, 2, 3] ca1 cb1) ca2 cb2) ca3 cb3) ce).2)), .val (.int (Int32.ofNat (own_fnd 4 (own_fnd 4 (own_uni (own_uni (own_uni [0, 1, 2, 3] ca1 cb1) ca2 cb2) ca3 cb3) ce).1 0).2)), .unset, .unset, .unset] [(.int (1 : Int32)), (.ref b63)]))
  obtain ⟨ok77, ok77', ok77''⟩ := own_f1 _ (own_enum ok76) ⟨1, (by decide)⟩
  simp only at ok77 ok77' ok77''
  obtain ⟨cq76, kq76, q76a, q76b, q76c⟩ := isOf hZ e75 E_b63
  obtain ⟨_, _, ⟨T76, L76, k76, n76⟩, -, X76, ⟨Lc76, hQ76, l76, y76, z76⟩, st76⟩ := X75.virtualBack hx (y := (⟨"com/example/clearlot/clearlot/program/DisjointSets", "find", "(I)I"⟩ : MethodName)) (z := (⟨"com/example/clearlot/clearlot/program/DisjointSets", "find", "(I)I"⟩ : MethodName)) hown (mvT hZ (hw _ (List.mem_of_getElem? (i := 35) rfl))) (mvT hZ (hw _ (List.mem_of_getElem? (i := 18) rfl))) (notFace_of_selects (args := #[]) (mvT hZ (hw _ (List.mem_of_getElem? (i := 20) rfl)))) (mvT hZ (hw _ (List.mem_of_getElem? (i := 20) rfl))) (mvT hZ (hw _ (List.mem_of_getElem? (i := 19) rfl))) (by decide) (backOf (W := 0) (rm4 l Z a0 hw [] b63 c65 kc65 (own_fnd 4 (own_fnd 4 (own_uni (own_uni (own_uni [0, 1, 2, 3] ca1 cb1) ca2 cb2) ca3 cb3) ce).1 0).1 1 h75 n0 ZS F_parent_b63 V_c65 g_c65 ne_b63_c65 ok76 (by decide)) hZ (hw _ (List.mem_of_getElem? (i := 21) rfl)) (hw _ (List.mem_of_getElem? (i := 3) rfl)) (by decide) (by decide)) q76a q76c (g := (mkF m 146 #[.val (.int q1), .val (.int q2), .val (.int q3), .val (.int q4), .val (.ref b58), .val (.ref b63), .val (.int (Int32.ofNat ca1)), .val (.int (Int32.ofNat cb1)), .val (.int (Int32.ofNat ca2)), .val (.int (Int32.ofNat cb2)), .val (.int (Int32.ofNat ca3)), .val (.int (Int32.ofNat cb3)), .val (.int (Int32.ofNat ce)), .val (.int (Int32.ofNat (own_fnd 4 (own_uni (own_uni (own_uni [0, 1, 2, 3] ca1 cb1) ca2 cb2) ca3 cb3) ce).2)), .val (.int (Int32.ofNat (own_fnd 4 (own_fnd 4 (own_uni (own_uni (own_uni [0, 1, 2, 3] ca1 cb1) ca2 cb2) ca3 cb3) ce).1 0).2)), .unset, .unset, .unset] [(.int (1 : Int32)), (.ref b63)])) rfl (by rw [hml]; rfl) (Steps.refl _) (argsL := [(.int (1 : Int32))]) (rest := []) (lenOf pd_0 rfl) rfl (by show 2 * 0 + _ ≤ _; exact Nat.le_of_eq rfl) (hb hby at_146) (fun _ _ => ⟨rfl, e75, (by decide : 3 + 0 ≤ _), (by decide : 9 + 0 ≤ _)⟩)
  dsimp only [Pt.U, Pt.locs, Pt.cells, Pt.slots] at X76 l76 y76 z76 st76 hQ76
  subst l76 y76 z76
  obtain ⟨h76, e76'⟩ : ∃ z, z = T76.heap := ⟨_, rfl⟩
  rw [← e76'] at hQ76
  have e76 : T76.heap = h76 := e76'.symm
  obtain ⟨rfl, N76q, K76, pp1⟩ := hQ76
  have NF := Fr.app NF N76q
  refine own_go (fun _ kt => st76.trans kt) ?_
  have E_b63 := E_b63.keep K76
  have F_parent_b63 := F_parent_b63.keep K76 (ninS ne_b63_c65 nin0)
  have V_b58 := V_b58.keep K76 (ninS ne_b58_c65 nin0)
  have ZS := Nat.le_trans ZS K76.1
  have KP := KP.trans K76 (allS (Or.inr sz_c65) all0)
  have V_c65 := pp1
  show own_R _ _ _ _ (T76.setTop (mkF m 149 #[.val (.int q1), .val (.int q2), .val (.int q3), .val (.int q4), .val (.ref b58), .val (.ref b63), .val (.int (Int32.ofNat ca1)), .val (.int (Int32.ofNat cb1)), .val (.int (Int32.ofNat ca2)), .val (.int (Int32.ofNat cb2)), .val (.int (Int32.ofNat ca3)), .val (.int (Int32.ofNat cb3)), .val (.int (Int32.ofNat ce)), .val (.int (Int32.ofNat (own_fnd 4 (own_uni (own_uni (own_uni [0, 1, 2, 3] ca1 cb1) ca2 cb2) ca3 cb3) ce).2)), .val (.int (Int32.ofNat (own_fnd 4 (own_fnd 4 (own_uni (own_uni (own_uni [0, 1, 2, 3] ca1 cb1) ca2 cb2) ca3 cb3) ce).1 0).2)), .unset, .unset, .unset] [(.int (Int32.ofNat (own_fnd 4 (own_fnd 4 (own_fnd 4 (own_uni (own_uni (own_uni [0, 1, 2, 3] ca1 cb1) ca2 cb2) ca3 cb3) ce).1 0).1 1).2))]))
  refine own_go (fun _ kt => XS.istore X76.here hx rfl (hb hby at_149) rfl (l' := #[.val (.int q1), .val (.int q2), .val (.int q3), .val (.int q4), .val (.ref b58), .val (.ref b63), .val (.int (Int32.ofNat ca1)), .val (.int (Int32.ofNat cb1)), .val (.int (Int32.ofNat ca2)), .val (.int (Int32.ofNat cb2)), .val (.int (Int32.ofNat ca3)), .val (.int (Int32.ofNat cb3)), .val (.int (Int32.ofNat ce)), .val (.int (Int32.ofNat (own_fnd 4 (own_uni (own_uni (own_uni [0, 1, 2, 3] ca1 cb1) ca2 cb2) ca3 cb3) ce).2)), .val (.int (Int32.ofNat (own_fnd 4 (own_fnd 4 (own_uni (own_uni (own_uni [0, 1, 2, 3] ca1 cb1) ca2 cb2) ca3 cb3) ce).1 0).2)), .val (.int (Int32.ofNat (own_fnd 4 (own_fnd 4 (own_fnd 4 (own_uni (own_uni (own_uni [0, 1, 2, 3] ca1 cb1) ca2 cb2) ca3 cb3) ce).1 0).1 1).2)), .unset, .unset]) rfl kt) ?_
  show own_R _ _ _ _ (T76.setTop (mkF m 151 #[.val (.int q1), .val (.int q2), .val (.int q3), .val (.int q4), .val (.ref b58), .val (.ref b63), .val (.int (Int32.ofNat ca1)), .val (.int (Int32.ofNat cb1)), .val (.int (Int32.ofNat ca2)), .val (.int (Int32.ofNat cb2)), .val (.int (Int32.ofNat ca3)), .val (.int (Int32.ofNat cb3)), .val (.int (Int32.ofNat ce)), .val (.int (Int32.ofNat (own_fnd 4 (own_uni (own_uni (own_uni [0, 1, 2, 3] ca1 cb1) ca2 cb2) ca3 cb3) ce).2)), .val (.int (Int32.ofNat (own_fnd 4 (own_fnd 4 (own_uni (own_uni (own_uni [0, 1, 2, 3] ca1 cb1) ca2 cb2) ca3 cb3) ce).1 0).2)), .val (.int (Int32.ofNat (own_fnd 4 (own_fnd 4 (own_fnd 4 (own_uni (own_uni (own_uni [0, 1, 2, 3] ca1 cb1) ca2 cb2) ca3 cb3) ce).1 0).1 1).2)), .unset, .unset] []))
  refine own_go (fun _ kt => XS.aload X76.here hx rfl (hb hby at_151) rfl rfl kt) ?_
  show own_R _ _ _ _ (T76.setTop (mkF m 153 #[.val (.int q1), .val (.int q2), .val (.int q3), .val (.int q4), .val (.ref b58), .val (.ref b63), .val (.int (Int32.ofNat ca1)), .val (.int (Int32.ofNat cb1)), .val (.int (Int32.ofNat ca2)), .val (.int (Int32.ofNat cb2)), .val (.int (Int32.ofNat ca3)), .val (.int (Int32.ofNat cb3)), .val (.int (Int32.ofNat ce)), .val (.int (Int32.ofNat (own_fnd 4 (own_uni (own_uni (own_uni [0, 1, 2, 3] ca1 cb1) ca2 cb2) ca3 cb3) ce).2)), .val (.int (Int32.ofNat (own_fnd 4 (own_fnd 4 (own_uni (own_uni (own_uni [0, 1, 2, 3] ca1 cb1) ca2 cb2) ca3 cb3) ce).1 0).2)), .val (.int (Int32.ofNat (own_fnd 4 (own_fnd 4 (own_fnd 4 (own_uni (own_uni (own_uni [0, 1, 2, 3] ca1 cb1) ca2 cb2) ca3 cb3) ce).1 0).1 1).2)), .unset, .unset] [(.ref b63)]))
  refine own_go (fun _ kt => XS.iconst X76.here hx rfl (hb hby at_153) kt) ?_
  show own_R _ _ _ _ (T76.setTop (mkF m 154 #[.val (.int q1), .val (.int q2), .val (.int q3), .val (.int q4), .val (.ref b58), .val (.ref b63), .val (.int (Int32.ofNat ca1)), .val (.int (Int32.ofNat cb1)), .val (.int (Int32.ofNat ca2)), .val (.int (Int32.ofNat cb2)), .val (.int (Int32.ofNat ca3)), .val (.int (Int32.ofNat cb3)), .val (.int (Int32.ofNat ce)), .val (.int (Int32.ofNat (own_fnd 4 (own_uni (own_uni (own_uni [0, 1, 2, 3] ca1 cb1) ca2 cb2) ca3 cb3) ce).2)), .val (.int (Int32.ofNat (own_fnd 4 (own_fnd 4 (own_uni (own_uni (own_uni [0, 1, 2, 3] ca1 cb1) ca2 cb2) ca3 cb3) ce).1 0).2)), .val (.int (Int32.ofNat (own_fnd 4 (own_fnd 4 (own_fnd 4 (own_uni (own_uni (own_uni [0, 1, 2, 3] ca1 cb1) ca2 cb2) ca3 cb3) ce).1 0).1 1).2)), .unset, .unset] [(.int (2 : Int32)), (.ref b63)]))
  obtain ⟨ok78, ok78', ok78''⟩ := own_f1 _ (own_enum ok77) ⟨2, (by decide)⟩
  simp only at ok78 ok78' ok78''
  obtain ⟨cq77, kq77, q77a, q77b, q77c⟩ := isOf hZ e76 E_b63
  obtain ⟨_, _, ⟨T77, L77, k77, n77⟩, -, X77, ⟨Lc77, hQ77, l77, y77, z77⟩, st77⟩ := X76.virtualBack hx (y := (⟨"com/example/clearlot/clearlot/program/DisjointSets", "find", "(I)I"⟩ : MethodName)) (z := (⟨"com/example/clearlot/clearlot/program/DisjointSets", "find", "(I)I"⟩ : MethodName)) hown (mvT hZ (hw _ (List.mem_of_getElem? (i := 35) rfl))) (mvT hZ (hw _ (List.mem_of_getElem? (i := 18) rfl))) (notFace_of_selects (args := #[]) (mvT hZ (hw _ (List.mem_of_getElem? (i := 20) rfl)))) (mvT hZ (hw _ (List.mem_of_getElem? (i := 20) rfl))) (mvT hZ (hw _ (List.mem_of_getElem? (i := 19) rfl))) (by decide) (backOf (W := 0) (rm4 l Z a0 hw [] b63 c65 kc65 (own_fnd 4 (own_fnd 4 (own_fnd 4 (own_uni (own_uni (own_uni [0, 1, 2, 3] ca1 cb1) ca2 cb2) ca3 cb3) ce).1 0).1 1).1 2 h76 n0 ZS F_parent_b63 V_c65 g_c65 ne_b63_c65 ok77 (by decide)) hZ (hw _ (List.mem_of_getElem? (i := 21) rfl)) (hw _ (List.mem_of_getElem? (i := 3) rfl)) (by decide) (by decide)) q77a q77c (g := (mkF m 154 #[.val (.int q1), .val (.int q2), .val (.int q3), .val (.int q4), .val (.ref b58), .val (.ref b63), .val (.int (Int32.ofNat ca1)), .val (.int (Int32.ofNat cb1)), .val (.int (Int32.ofNat ca2)), .val (.int (Int32.ofNat cb2)), .val (.int (Int32.ofNat ca3)), .val (.int (Int32.ofNat cb3)), .val (.int (Int32.ofNat ce)), .val (.int (Int32.ofNat (own_fnd 4 (own_uni (own_uni (own_uni [0, 1, 2, 3] ca1 cb1) ca2 cb2) ca3 cb3) ce).2)), .val (.int (Int32.ofNat (own_fnd 4 (own_fnd 4 (own_uni (own_uni (own_uni [0, 1, 2, 3] ca1 cb1) ca2 cb2) ca3 cb3) ce).1 0).2)), .val (.int (Int32.ofNat (own_fnd 4 (own_fnd 4 (own_fnd 4 (own_uni (own_uni (own_uni [0, 1, 2, 3] ca1 cb1) ca2 cb2) ca3 cb3) ce).1 0).1 1).2)), .unset, .unset] [(.int (2 : Int32)), (.ref b63)])) rfl (by rw [hml]; rfl) (Steps.refl _) (argsL := [(.int (2 : Int32))]) (rest := []) (lenOf pd_0 rfl) rfl (by show 2 * 0 + _ ≤ _; exact Nat.le_of_eq rfl) (hb hby at_154) (fun _ _ => ⟨rfl, e76, (by decide : 3 + 0 ≤ _), (by decide : 9 + 0 ≤ _)⟩)
  dsimp only [Pt.U, Pt.locs, Pt.cells, Pt.slots] at X77 l77 y77 z77 st77 hQ77
  subst l77 y77 z77
  obtain ⟨h77, e77'⟩ : ∃ z, z = T77.heap := ⟨_, rfl⟩
  rw [← e77'] at hQ77
  have e77 : T77.heap = h77 := e77'.symm
  obtain ⟨rfl, N77q, K77, pp1⟩ := hQ77
  have NF := Fr.app NF N77q
  refine own_go (fun _ kt => st77.trans kt) ?_
  have E_b63 := E_b63.keep K77
  have F_parent_b63 := F_parent_b63.keep K77 (ninS ne_b63_c65 nin0)
  have V_b58 := V_b58.keep K77 (ninS ne_b58_c65 nin0)
  have ZS := Nat.le_trans ZS K77.1
  have KP := KP.trans K77 (allS (Or.inr sz_c65) all0)
  have V_c65 := pp1
  show own_R _ _ _ _ (T77.setTop (mkF m 157 #[.val (.int q1), .val (.int q2), .val (.int q3), .val (.int q4), .val (.ref b58), .val (.ref b63), .val (.int (Int32.ofNat ca1)), .val (.int (Int32.ofNat cb1)), .val (.int (Int32.ofNat ca2)), .val (.int (Int32.ofNat cb2)), .val (.int (Int32.ofNat ca3)), .val (.int (Int32.ofNat cb3)), .val (.int (Int32.ofNat ce)), .val (.int (Int32.ofNat (own_fnd 4 (own_uni (own_uni (own_uni [0, 1, 2, 3] ca1 cb1) ca2 cb2) ca3 cb3) ce).2)), .val (.int (Int32.ofNat (own_fnd 4 (own_fnd 4 (own_uni (own_uni (own_uni [0, 1, 2, 3] ca1 cb1) ca2 cb2) ca3 cb3) ce).1 0).2)), .val (.int (Int32.ofNat (own_fnd 4 (own_fnd 4 (own_fnd 4 (own_uni (own_uni (own_uni [0, 1, 2, 3] ca1 cb1) ca2 cb2) ca3 cb3) ce).1 0).1 1).2)), .unset, .unset] [(.int (Int32.ofNat (own_fnd 4 (own_fnd 4 (own_fnd 4 (own_fnd 4 (own_uni (own_uni (own_uni [0, 1, 2, 3] ca1 cb1) ca2 cb2) ca3 cb3) ce).1 0).1 1).1 2).2))]))
  refine own_go (fun _ kt => XS.istore X77.here hx rfl (hb hby at_157) rfl (l' := #[.val (.int q1), .val (.int q2), .val (.int q3), .val (.int q4), .val (.ref b58), .val (.ref b63), .val (.int (Int32.ofNat ca1)), .val (.int (Int32.ofNat cb1)), .val (.int (Int32.ofNat ca2)), .val (.int (Int32.ofNat cb2)), .val (.int (Int32.ofNat ca3)), .val (.int (Int32.ofNat cb3)), .val (.int (Int32.ofNat ce)), .val (.int (Int32.ofNat (own_fnd 4 (own_uni (own_uni (own_uni [0, 1, 2, 3] ca1 cb1) ca2 cb2) ca3 cb3) ce).2)), .val (.int (Int32.ofNat (own_fnd 4 (own_fnd 4 (own_uni (own_uni (own_uni [0, 1, 2, 3] ca1 cb1) ca2 cb2) ca3 cb3) ce).1 0).2)), .val (.int (Int32.ofNat (own_fnd 4 (own_fnd 4 (own_fnd 4 (own_uni (own_uni (own_uni [0, 1, 2, 3] ca1 cb1) ca2 cb2) ca3 cb3) ce).1 0).1 1).2)), .val (.int (Int32.ofNat (own_fnd 4 (own_fnd 4 (own_fnd 4 (own_fnd 4 (own_uni (own_uni (own_uni [0, 1, 2, 3] ca1 cb1) ca2 cb2) ca3 cb3) ce).1 0).1 1).1 2).2)), .unset]) rfl kt) ?_
  show own_R _ _ _ _ (T77.setTop (mkF m 159 #[.val (.int q1), .val (.int q2), .val (.int q3), .val (.int q4), .val (.ref b58), .val (.ref b63), .val (.int (Int32.ofNat ca1)), .val (.int (Int32.ofNat cb1)), .val (.int (Int32.ofNat ca2)), .val (.int (Int32.ofNat cb2)), .val (.int (Int32.ofNat ca3)), .val (.int (Int32.ofNat cb3)), .val (.int (Int32.ofNat ce)), .val (.int (Int32.ofNat (own_fnd 4 (own_uni (own_uni (own_uni [0, 1, 2, 3] ca1 cb1) ca2 cb2) ca3 cb3) ce).2)), .val (.int (Int32.ofNat (own_fnd 4 (own_fnd 4 (own_uni (own_uni (own_uni [0, 1, 2, 3] ca1 cb1) ca2 cb2) ca3 cb3) ce).1 0).2)), .val (.int (Int32.ofNat (own_fnd 4 (own_fnd 4 (own_fnd 4 (own_uni (own_uni (own_uni [0, 1, 2, 3] ca1 cb1) ca2 cb2) ca3 cb3) ce).1 0).1 1).2)), .val (.int (Int32.ofNat (own_fnd 4 (own_fnd 4 (own_fnd 4 (own_fnd 4 (own_uni (own_uni (own_uni [0, 1, 2, 3] ca1 cb1) ca2 cb2) ca3 cb3) ce).1 0).1 1).1 2).2)), .unset] []))
  refine own_go (fun _ kt => XS.aload X77.here hx rfl (hb hby at_159) rfl rfl kt) ?_
  show own_R _ _ _ _ (T77.setTop (mkF m 161 #[.val (.int q1), .val (.int q2), .val (.int q3), .val (.int q4), .val (.ref b58), .val (.ref b63), .val (.int (Int32.ofNat ca1)), .val (.int (Int32.ofNat cb1)), .val (.int (Int32.ofNat ca2)), .val (.int (Int32.ofNat cb2)), .val (.int (Int32.ofNat ca3)), .val (.int (Int32.ofNat cb3)), .val (.int (Int32.ofNat ce)), .val (.int (Int32.ofNat (own_fnd 4 (own_uni (own_uni (own_uni [0, 1, 2, 3] ca1 cb1) ca2 cb2) ca3 cb3) ce).2)), .val (.int (Int32.ofNat (own_fnd 4 (own_fnd 4 (own_uni (own_uni (own_uni [0, 1, 2, 3] ca1 cb1) ca2 cb2) ca3 cb3) ce).1 0).2)), .val (.int (Int32.ofNat (own_fnd 4 (own_fnd 4 (own_fnd 4 (own_uni (own_uni (own_uni [0, 1, 2, 3] ca1 cb1) ca2 cb2) ca3 cb3) ce).1 0).1 1).2)), .val (.int (Int32.ofNat (own_fnd 4 (own_fnd 4 (own_fnd 4 (own_fnd 4 (own_uni (own_uni (own_uni [0, 1, 2, 3] ca1 cb1) ca2 cb2) ca3 cb3) ce).1 0).1 1).1 2).2)), .unset] [(.ref b63)]))
  refine own_go (fun _ kt => XS.iconst X77.here hx rfl (hb hby at_161) kt) ?_
  show own_R _ _ _ _ (T77.setTop (mkF m 162 #[.val (.int q1), .val (.int q2), .val (.int q3), .val (.int q4), .val (.ref b58), .val (.ref b63), .val (.int (Int32.ofNat ca1)), .val (.int (Int32.ofNat cb1)), .val (.int (Int32.ofNat ca2)), .val (.int (Int32.ofNat cb2)), .val (.int (Int32.ofNat ca3)), .val (.int (Int32.ofNat cb3)), .val (.int (Int32.ofNat ce)), .val (.int (Int32.ofNat (own_fnd 4 (own_uni (own_uni (own_uni [0, 1, 2, 3] ca1 cb1) ca2 cb2) ca3 cb3) ce).2)), .val (.int (Int32.ofNat (own_fnd 4 (own_fnd 4 (own_uni (own_uni (own_uni [0, 1, 2, 3] ca1 cb1) ca2 cb2) ca3 cb3) ce).1 0).2)), .val (.int (Int32.ofNat (own_fnd 4 (own_fnd 4 (own_fnd 4 (own_uni (own_uni (own_uni [0, 1, 2, 3] ca1 cb1) ca2 cb2) ca3 cb3) ce).1 0).1 1).2)), .val (.int (Int32.ofNat (own_fnd 4 (own_fnd 4 (own_fnd 4 (own_fnd 4 (own_uni (own_uni (own_uni [0, 1, 2, 3] ca1 cb1) ca2 cb2) ca3 cb3) ce).1 0).1 1).1 2).2)), .unset] [(.int (3 : Int32)), (.ref b63)]))
  obtain ⟨ok79, ok79', ok79''⟩ := own_f1 _ (own_enum ok78) ⟨3, (by decide)⟩
  simp only at ok79 ok79' ok79''
  obtain ⟨cq78, kq78, q78a, q78b, q78c⟩ := isOf hZ e77 E_b63
  obtain ⟨_, _, ⟨T78, L78, k78, n78⟩, -, X78, ⟨Lc78, hQ78, l78, y78, z78⟩, st78⟩ := X77.virtualBack hx (y := (⟨"com/example/clearlot/clearlot/program/DisjointSets", "find", "(I)I"⟩ : MethodName)) (z := (⟨"com/example/clearlot/clearlot/program/DisjointSets", "find", "(I)I"⟩ : MethodName)) hown (mvT hZ (hw _ (List.mem_of_getElem? (i := 35) rfl))) (mvT hZ (hw _ (List.mem_of_getElem? (i := 18) rfl))) (notFace_of_selects (args := #[]) (mvT hZ (hw _ (List.mem_of_getElem? (i := 20) rfl)))) (mvT hZ (hw _ (List.mem_of_getElem? (i := 20) rfl))) (mvT hZ (hw _ (List.mem_of_getElem? (i := 19) rfl))) (by decide) (backOf (W := 0) (rm4 l Z a0 hw [] b63 c65 kc65 (own_fnd 4 (own_fnd 4 (own_fnd 4 (own_fnd 4 (own_uni (own_uni (own_uni [0, 1, 2, 3] ca1 cb1) ca2 cb2) ca3 cb3) ce).1 0).1 1).1 2).1 3 h77 n0 ZS F_parent_b63 V_c65 g_c65 ne_b63_c65 ok78 (by decide)) hZ (hw _ (List.mem_of_getElem? (i := 21) rfl)) (hw _ (List.mem_of_getElem? (i := 3) rfl)) (by decide) (by decide)) q78a q78c (g := (mkF m 162 #[.val (.int q1), .val (.int q2), .val (.int q3), .val (.int q4), .val (.ref b58), .val (.ref b63), .val (.int (Int32.ofNat ca1)), .val (.int (Int32.ofNat cb1)), .val (.int (Int32.ofNat ca2)), .val (.int (Int32.ofNat cb2)), .val (.int (Int32.ofNat ca3)), .val (.int (Int32.ofNat cb3)), .val (.int (Int32.ofNat ce)), .val (.int (Int32.ofNat (own_fnd 4 (own_uni (own_uni (own_uni [0, 1, 2, 3] ca1 cb1) ca2 cb2) ca3 cb3) ce).2)), .val (.int (Int32.ofNat (own_fnd 4 (own_fnd 4 (own_uni (own_uni (own_uni [0, 1, 2, 3] ca1 cb1) ca2 cb2) ca3 cb3) ce).1 0).2)), .val (.int (Int32.ofNat (own_fnd 4 (own_fnd 4 (own_fnd 4 (own_uni (own_uni (own_uni [0, 1, 2, 3] ca1 cb1) ca2 cb2) ca3 cb3) ce).1 0).1 1).2)), .val (.int (Int32.ofNat (own_fnd 4 (own_fnd 4 (own_fnd 4 (own_fnd 4 (own_uni (own_uni (own_uni [0, 1, 2, 3] ca1 cb1) ca2 cb2) ca3 cb3) ce).1 0).1 1).1 2).2)), .unset] [(.int (3 : Int32)), (.ref b63)])) rfl (by rw [hml]; rfl) (Steps.refl _) (argsL := [(.int (3 : Int32))]) (rest := []) (lenOf pd_0 rfl) rfl (by show 2 * 0 + _ ≤ _; exact Nat.le_of_eq rfl) (hb hby at_162) (fun _ _ => ⟨rfl, e77, (by decide : 3 + 0 ≤ _), (by decide : 9 + 0 ≤ _)⟩)
  dsimp only [Pt.U, Pt.locs, Pt.cells, Pt.slots] at X78 l78 y78 z78 st78 hQ78
  subst l78 y78 z78
  obtain ⟨h78, e78'⟩ : ∃ z, z = T78.heap := ⟨_, rfl⟩
  rw [← e78'] at hQ78
  have e78 : T78.heap = h78 := e78'.symm
  obtain ⟨rfl, N78q, K78, pp1⟩ := hQ78
  have NF := Fr.app NF N78q
  refine own_go (fun _ kt => st78.trans kt) ?_
  have E_b63 := E_b63.keep K78
  have F_parent_b63 := F_parent_b63.keep K78 (ninS ne_b63_c65 nin0)
  have V_b58 := V_b58.keep K78 (ninS ne_b58_c65 nin0)
  have ZS := Nat.le_trans ZS K78.1
  have KP := KP.trans K78 (allS (Or.inr sz_c65) all0)
  have V_c65 := pp1
  show own_R _ _ _ _ (T78.setTop (mkF m 165 #[.val (.int q1), .val (.int q2), .val (.int q3), .val (.int q4), .val (.ref b58), .val (.ref b63), .val (.int (Int32.ofNat ca1)), .val (.int (Int32.ofNat cb1)), .val (.int (Int32.ofNat ca2)), .val (.int (Int32.ofNat cb2)), .val (.int (Int32.ofNat ca3)), .val (.int (Int32.ofNat cb3)), .val (.int (Int32.ofNat ce)), .val (.int (Int32.ofNat (own_fnd 4 (own_uni (own_uni (own_uni [0, 1, 2, 3] ca1 cb1) ca2 cb2) ca3 cb3) ce).2)), .val (.int (Int32.ofNat (own_fnd 4 (own_fnd 4 (own_uni (own_uni (own_uni [0, 1, 2, 3] ca1 cb1) ca2 cb2) ca3 cb3) ce).1 0).2)), .val (.int (Int32.ofNat (own_fnd 4 (own_fnd 4 (own_fnd 4 (own_uni (own_uni (own_uni [0, 1, 2, 3] ca1 cb1) ca2 cb2) ca3 cb3) ce).1 0).1 1).2)), .val (.int (Int32.ofNat (own_fnd 4 (own_fnd 4 (own_fnd 4 (own_fnd 4 (own_uni (own_uni (own_uni [0, 1, 2, 3] ca1 cb1) ca2 cb2) ca3 cb3) ce).1 0).1 1).1 2).2)), .unset] [(.int (Int32.ofNat (own_fnd 4 (own_fnd 4 (own_fnd 4 (own_fnd 4 (own_fnd 4 (own_uni (own_uni (own_uni [0, 1, 2, 3] ca1 cb1) ca2 cb2) ca3 cb3) ce).1 0).1 1).1 2).1 3).2))]))
  refine own_go (fun _ kt => XS.istore X78.here hx rfl (hb hby at_165) rfl (l' := #[.val (.int q1), .val (.int q2), .val (.int q3), .val (.int q4), .val (.ref b58), .val (.ref b63), .val (.int (Int32.ofNat ca1)), .val (.int (Int32.ofNat cb1)), .val (.int (Int32.ofNat ca2)), .val (.int (Int32.ofNat cb2)), .val (.int (Int32.ofNat ca3)), .val (.int (Int32.ofNat cb3)), .val (.int (Int32.ofNat ce)), .val (.int (Int32.ofNat (own_fnd 4 (own_uni (own_uni (own_uni [0, 1, 2, 3] ca1 cb1) ca2 cb2) ca3 cb3) ce).2)), .val (.int (Int32.ofNat (own_fnd 4 (own_fnd 4 (own_uni (own_uni (own_uni [0, 1, 2, 3] ca1 cb1) ca2 cb2) ca3 cb3) ce).1 0).2)), .val (.int (Int32.ofNat (own_fnd 4 (own_fnd 4 (own_fnd 4 (own_uni (own_uni (own_uni [0, 1, 2, 3] ca1 cb1) ca2 cb2) ca3 cb3) ce).1 0).1 1).2)), .val (.int (Int32.ofNat (own_fnd 4 (own_fnd 4 (own_fnd 4 (own_fnd 4 (own_uni (own_uni (own_uni [0, 1, 2, 3] ca1 cb1) ca2 cb2) ca3 cb3) ce).1 0).1 1).1 2).2)), .val (.int (Int32.ofNat (own_fnd 4 (own_fnd 4 (own_fnd 4 (own_fnd 4 (own_fnd 4 (own_uni (own_uni (own_uni [0, 1, 2, 3] ca1 cb1) ca2 cb2) ca3 cb3) ce).1 0).1 1).1 2).1 3).2))]) rfl kt) ?_
  show own_R _ _ _ _ (T78.setTop (mkF m 167 #[.val (.int q1), .val (.int q2), .val (.int q3), .val (.int q4), .val (.ref b58), .val (.ref b63), .val (.int (Int32.ofNat ca1)), .val (.int (Int32.ofNat cb1)), .val (.int (Int32.ofNat ca2)), .val (.int (Int32.ofNat cb2)), .val (.int (Int32.ofNat ca3)), .val (.int (Int32.ofNat cb3)), .val (.int (Int32.ofNat ce)), .val (.int (Int32.ofNat (own_fnd 4 (own_uni (own_uni (own_uni [0, 1, 2, 3] ca1 cb1) ca2 cb2) ca3 cb3) ce).2)), .val (.int (Int32.ofNat (own_fnd 4 (own_fnd 4 (own_uni (own_uni (own_uni [0, 1, 2, 3] ca1 cb1) ca2 cb2) ca3 cb3) ce).1 0).2)), .val (.int (Int32.ofNat (own_fnd 4 (own_fnd 4 (own_fnd 4 (own_uni (own_uni (own_uni [0, 1, 2, 3] ca1 cb1) ca2 cb2) ca3 cb3) ce).1 0).1 1).2)), .val (.int (Int32.ofNat (own_fnd 4 (own_fnd 4 (own_fnd 4 (own_fnd 4 (own_uni (own_uni (own_uni [0, 1, 2, 3] ca1 cb1) ca2 cb2) ca3 cb3) ce).1 0).1 1).1 2).2)), .val (.int (Int32.ofNat (own_fnd 4 (own_fnd 4 (own_fnd 4 (own_fnd 4 (own_fnd 4 (own_uni (own_uni (own_uni [0, 1, 2, 3] ca1 cb1) ca2 cb2) ca3 cb3) ce).1 0).1 1).1 2).1 3).2))] []))
  have i9 := own_idx hce
  have r_ce : [ym730, ym731, ym732, ym733].getD ce 0 = (Int32.ofNat (own_fnd 4 (own_uni (own_uni (own_uni [0, 1, 2, 3] ca1 cb1) ca2 cb2) ca3 cb3) ce).2) := by have q := own_f4 _ (own_enum ok72) ⟨ce, hce⟩; simp only at q; rw [hym73] at q; exact q
  have lb_ce : own_lab (own_fnd 4 (own_uni (own_uni (own_uni [0, 1, 2, 3] ca1 cb1) ca2 cb2) ca3 cb3) ce).1 = [ym730, ym731, ym732, ym733] := ok75''.trans hym73
  have r_0 : [ym730, ym731, ym732, ym733].getD 0 0 = (Int32.ofNat (own_fnd 4 (own_fnd 4 (own_uni (own_uni (own_uni [0, 1, 2, 3] ca1 cb1) ca2 cb2) ca3 cb3) ce).1 0).2) := by have q := own_f4 _ (own_enum ok75) ⟨0, (by decide)⟩; simp only at q; rw [lb_ce] at q; exact q
  have lb_0 : own_lab (own_fnd 4 (own_fnd 4 (own_uni (own_uni (own_uni [0, 1, 2, 3] ca1 cb1) ca2 cb2) ca3 cb3) ce).1 0).1 = [ym730, ym731, ym732, ym733] := ok76''.trans lb_ce
  have r_1 : [ym730, ym731, ym732, ym733].getD 1 0 = (Int32.ofNat (own_fnd 4 (own_fnd 4 (own_fnd 4 (own_uni (own_uni (own_uni [0, 1, 2, 3] ca1 cb1) ca2 cb2) ca3 cb3) ce).1 0).1 1).2) := by have q := own_f4 _ (own_enum ok76) ⟨1, (by decide)⟩; simp only at q; rw [lb_0] at q; exact q
  have lb_1 : own_lab (own_fnd 4 (own_fnd 4 (own_fnd 4 (own_uni (own_uni (own_uni [0, 1, 2, 3] ca1 cb1) ca2 cb2) ca3 cb3) ce).1 0).1 1).1 = [ym730, ym731, ym732, ym733] := ok77''.trans lb_0
  have r_2 : [ym730, ym731, ym732, ym733].getD 2 0 = (Int32.ofNat (own_fnd 4 (own_fnd 4 (own_fnd 4 (own_fnd 4 (own_uni (own_uni (own_uni [0, 1, 2, 3] ca1 cb1) ca2 cb2) ca3 cb3) ce).1 0).1 1).1 2).2) := by have q := own_f4 _ (own_enum ok77) ⟨2, (by decide)⟩; simp only at q; rw [lb_1] at q; exact q
  have lb_2 : own_lab (own_fnd 4 (own_fnd 4 (own_fnd 4 (own_fnd 4 (own_uni (own_uni (own_uni [0, 1, 2, 3] ca1 cb1) ca2 cb2) ca3 cb3) ce).1 0).1 1).1 2).1 = [ym730, ym731, ym732, ym733] := ok78''.trans lb_1
  have r_3 : [ym730, ym731, ym732, ym733].getD 3 0 = (Int32.ofNat (own_fnd 4 (own_fnd 4 (own_fnd 4 (own_fnd 4 (own_fnd 4 (own_uni (own_uni (own_uni [0, 1, 2, 3] ca1 cb1) ca2 cb2) ca3 cb3) ce).1 0).1 1).1 2).1 3).2) := by have q := own_f4 _ (own_enum ok78) ⟨3, (by decide)⟩; simp only at q; rw [lb_2] at q; exact q
  have lb_3 : own_lab (own_fnd 4 (own_fnd 4 (own_fnd 4 (own_fnd 4 (own_fnd 4 (own_uni (own_uni (own_uni [0, 1, 2, 3] ca1 cb1) ca2 cb2) ca3 cb3) ce).1 0).1 1).1 2).1 3).1 = [ym730, ym731, ym732, ym733] := ok79''.trans lb_2
  refine own_go (fun _ kt => XS.iload X78.here hx rfl (hb hby at_167) rfl kt) ?_
  show own_R _ _ _ _ (T78.setTop (mkF m 169 #[.val (.int q1), .val (.int q2), .val (.int q3), .val (.int q4), .val (.ref b58), .val (.ref b63), .val (.int (Int32.ofNat ca1)), .val (.int (Int32.ofNat cb1)), .val (.int (Int32.ofNat ca2)), .val (.int (Int32.ofNat cb2)), .val (.int (Int32.ofNat ca3)), .val (.int (Int32.ofNat cb3)), .val (.int (Int32.ofNat ce)), .val (.int (Int32.ofNat (own_fnd 4 (own_uni (own_uni (own_uni [0, 1, 2, 3] ca1 cb1) ca2 cb2) ca3 cb3) ce).2)), .val (.int (Int32.ofNat (own_fnd 4 (own_fnd 4 (own_uni (own_uni (own_uni [0, 1, 2, 3] ca1 cb1) ca2 cb2) ca3 cb3) ce).1 0).2)), .val (.int (Int32.ofNat (own_fnd 4 (own_fnd 4 (own_fnd 4 (own_uni (own_uni (own_uni [0, 1, 2, 3] ca1 cb1) ca2 cb2) ca3 cb3) ce).1 0).1 1).2)), .val (.int (Int32.ofNat (own_fnd 4 (own_fnd 4 (own_fnd 4 (own_fnd 4 (own_uni (own_uni (own_uni [0, 1, 2, 3] ca1 cb1) ca2 cb2) ca3 cb3) ce).1 0).1 1).1 2).2)), .val (.int (Int32.ofNat (own_fnd 4 (own_fnd 4 (own_fnd 4 (own_fnd 4 (own_fnd 4 (own_uni (own_uni (own_uni [0, 1, 2, 3] ca1 cb1) ca2 cb2) ca3 cb3) ce).1 0).1 1).1 2).1 3).2))] [(.int (Int32.ofNat (own_fnd 4 (own_uni (own_uni (own_uni [0, 1, 2, 3] ca1 cb1) ca2 cb2) ca3 cb3) ce).2))]))
  refine own_go (fun _ kt => XS.aload X78.here hx rfl (hb hby at_169) rfl rfl kt) ?_
  show own_R _ _ _ _ (T78.setTop (mkF m 171 #[.val (.int q1), .val (.int q2), .val (.int q3), .val (.int q4), .val (.ref b58), .val (.ref b63), .val (.int (Int32.ofNat ca1)), .val (.int (Int32.ofNat cb1)), .val (.int (Int32.ofNat ca2)), .val (.int (Int32.ofNat cb2)), .val (.int (Int32.ofNat ca3)), .val (.int (Int32.ofNat cb3)), .val (.int (Int32.ofNat ce)), .val (.int (Int32.ofNat (own_fnd 4 (own_uni (own_uni (own_uni [0, 1, 2, 3] ca1 cb1) ca2 cb2) ca3 cb3) ce).2)), .val (.int (Int32.ofNat (own_fnd 4 (own_fnd 4 (own_uni (own_uni (own_uni [0, 1, 2, 3] ca1 cb1) ca2 cb2) ca3 cb3) ce).1 0).2)), .val (.int (Int32.ofNat (own_fnd 4 (own_fnd 4 (own_fnd 4 (own_uni (own_uni (own_uni [0, 1, 2, 3] ca1 cb1) ca2 cb2) ca3 cb3) ce).1 0).1 1).2)), .val (.int (Int32.ofNat (own_fnd 4 (own_fnd 4 (own_fnd 4 (own_fnd 4 (own_uni (own_uni (own_uni [0, 1, 2, 3] ca1 cb1) ca2 cb2) ca3 cb3) ce).1 0).1 1).1 2).2)), .val (.int (Int32.ofNat (own_fnd 4 (own_fnd 4 (own_fnd 4 (own_fnd 4 (own_fnd 4 (own_uni (own_uni (own_uni [0, 1, 2, 3] ca1 cb1) ca2 cb2) ca3 cb3) ce).1 0).1 1).1 2).1 3).2))] [(.ref b58), (.int (Int32.ofNat (own_fnd 4 (own_uni (own_uni (own_uni [0, 1, 2, 3] ca1 cb1) ca2 cb2) ca3 cb3) ce).2))]))
  refine own_go (fun _ kt => XS.iload X78.here hx rfl (hb hby at_171) rfl kt) ?_
  show own_R _ _ _ _ (T78.setTop (mkF m 173 #[.val (.int q1), .val (.int q2), .val (.int q3), .val (.int q4), .val (.ref b58), .val (.ref b63), .val (.int (Int32.ofNat ca1)), .val (.int (Int32.ofNat cb1)), .val (.int (Int32.ofNat ca2)), .val (.int (Int32.ofNat cb2)), .val (.int (Int32.ofNat ca3)), .val (.int (Int32.ofNat cb3)), .val (.int (Int32.ofNat ce)), .val (.int (Int32.ofNat (own_fnd 4 (own_uni (own_uni (own_uni [0, 1, 2, 3] ca1 cb1) ca2 cb2) ca3 cb3) ce).2)), .val (.int (Int32.ofNat (own_fnd 4 (own_fnd 4 (own_uni (own_uni (own_uni [0, 1, 2, 3] ca1 cb1) ca2 cb2) ca3 cb3) ce).1 0).2)), .val (.int (Int32.ofNat (own_fnd 4 (own_fnd 4 (own_fnd 4 (own_uni (own_uni (own_uni [0, 1, 2, 3] ca1 cb1) ca2 cb2) ca3 cb3) ce).1 0).1 1).2)), .val (.int (Int32.ofNat (own_fnd 4 (own_fnd 4 (own_fnd 4 (own_fnd 4 (own_uni (own_uni (own_uni [0, 1, 2, 3] ca1 cb1) ca2 cb2) ca3 cb3) ce).1 0).1 1).1 2).2)), .val (.int (Int32.ofNat (own_fnd 4 (own_fnd 4 (own_fnd 4 (own_fnd 4 (own_fnd 4 (own_uni (own_uni (own_uni [0, 1, 2, 3] ca1 cb1) ca2 cb2) ca3 cb3) ce).1 0).1 1).1 2).1 3).2))] [(.int (Int32.ofNat ce)), (.ref b58), (.int (Int32.ofNat (own_fnd 4 (own_uni (own_uni (own_uni [0, 1, 2, 3] ca1 cb1) ca2 cb2) ca3 cb3) ce).2))]))
  refine own_go (own_ldI X78 hx hZ e78 V_b58 (j := (Int32.ofNat ce)) (i := ce) i9.1 i9.2 (v := (.int ([ym730, ym731, ym732, ym733].getD ce 0))) (own_atW [ym730, ym731, ym732, ym733] _) (g := (mkF m 173 #[.val (.int q1), .val (.int q2), .val (.int q3), .val (.int q4), .val (.ref b58), .val (.ref b63), .val (.int (Int32.ofNat ca1)), .val (.int (Int32.ofNat cb1)), .val (.int (Int32.ofNat ca2)), .val (.int (Int32.ofNat cb2)), .val (.int (Int32.ofNat ca3)), .val (.int (Int32.ofNat cb3)), .val (.int (Int32.ofNat ce)), .val (.int (Int32.ofNat (own_fnd 4 (own_uni (own_uni (own_uni [0, 1, 2, 3] ca1 cb1) ca2 cb2) ca3 cb3) ce).2)), .val (.int (Int32.ofNat (own_fnd 4 (own_fnd 4 (own_uni (own_uni (own_uni [0, 1, 2, 3] ca1 cb1) ca2 cb2) ca3 cb3) ce).1 0).2)), .val (.int (Int32.ofNat (own_fnd 4 (own_fnd 4 (own_fnd 4 (own_uni (own_uni (own_uni [0, 1, 2, 3] ca1 cb1) ca2 cb2) ca3 cb3) ce).1 0).1 1).2)), .val (.int (Int32.ofNat (own_fnd 4 (own_fnd 4 (own_fnd 4 (own_fnd 4 (own_uni (own_uni (own_uni [0, 1, 2, 3] ca1 cb1) ca2 cb2) ca3 cb3) ce).1 0).1 1).1 2).2)), .val (.int (Int32.ofNat (own_fnd 4 (own_fnd 4 (own_fnd 4 (own_fnd 4 (own_fnd 4 (own_uni (own_uni (own_uni [0, 1, 2, 3] ca1 cb1) ca2 cb2) ca3 cb3) ce).1 0).1 1).1 2).1 3).2))] [(.int (Int32.ofNat ce)), (.ref b58), (.int (Int32.ofNat (own_fnd 4 (own_uni (own_uni (own_uni [0, 1, 2, 3] ca1 cb1) ca2 cb2) ca3 cb3) ce).2))])) rfl rfl (hb hby at_173)) ?_
  show own_R _ _ _ _ (T78.setTop (mkF m 174 #[.val (.int q1), .val (.int q2), .val (.int q3), .val (.int q4), .val (.ref b58), .val (.ref b63), .val (.int (Int32.ofNat ca1)), .val (.int (Int32.ofNat cb1)), .val (.int (Int32.ofNat ca2)), .val (.int (Int32.ofNat cb2)), .val (.int (Int32.ofNat ca3)), .val (.int (Int32.ofNat cb3)), .val (.int (Int32.ofNat ce)), .val (.int (Int32.ofNat (own_fnd 4 (own_uni (own_uni (own_uni [0, 1, 2, 3] ca1 cb1) ca2 cb2) ca3 cb3) ce).2)), .val (.int (Int32.ofNat (own_fnd 4 (own_fnd 4 (own_uni (own_uni (own_uni [0, 1, 2, 3] ca1 cb1) ca2 cb2) ca3 cb3) ce).1 0).2)), .val (.int (Int32.ofNat (own_fnd 4 (own_fnd 4 (own_fnd 4 (own_uni (own_uni (own_uni [0, 1, 2, 3] ca1 cb1) ca2 cb2) ca3 cb3) ce).1 0).1 1).2)), .val (.int (Int32.ofNat (own_fnd 4 (own_fnd 4 (own_fnd 4 (own_fnd 4 (own_uni (own_uni (own_uni [0, 1, 2, 3] ca1 cb1) ca2 cb2) ca3 cb3) ce).1 0).1 1).1 2).2)), .val (.int (Int32.ofNat (own_fnd 4 (own_fnd 4 (own_fnd 4 (own_fnd 4 (own_fnd 4 (own_uni (own_uni (own_uni [0, 1, 2, 3] ca1 cb1) ca2 cb2) ca3 cb3) ce).1 0).1 1).1 2).1 3).2))] [(.int ([ym730, ym731, ym732, ym733].getD ce 0)), (.int (Int32.ofNat (own_fnd 4 (own_uni (own_uni (own_uni [0, 1, 2, 3] ca1 cb1) ca2 cb2) ca3 cb3) ce).2))]))
  refine own_go (fun _ kt => XS.icmpNo X78.here hx rfl (hb hby at_174) rfl (teq (r_ce.symm)).2 kt) ?_
  show own_R _ _ _ _ (T78.setTop (mkF m 177 #[.val (.int q1), .val (.int q2), .val (.int q3), .val (.int q4), .val (.ref b58), .val (.ref b63), .val (.int (Int32.ofNat ca1)), .val (.int (Int32.ofNat cb1)), .val (.int (Int32.ofNat ca2)), .val (.int (Int32.ofNat cb2)), .val (.int (Int32.ofNat ca3)), .val (.int (Int32.ofNat cb3)), .val (.int (Int32.ofNat ce)), .val (.int (Int32.ofNat (own_fnd 4 (own_uni (own_uni (own_uni [0, 1, 2, 3] ca1 cb1) ca2 cb2) ca3 cb3) ce).2)), .val (.int (Int32.ofNat (own_fnd 4 (own_fnd 4 (own_uni (own_uni (own_uni [0, 1, 2, 3] ca1 cb1) ca2 cb2) ca3 cb3) ce).1 0).2)), .val (.int (Int32.ofNat (own_fnd 4 (own_fnd 4 (own_fnd 4 (own_uni (own_uni (own_uni [0, 1, 2, 3] ca1 cb1) ca2 cb2) ca3 cb3) ce).1 0).1 1).2)), .val (.int (Int32.ofNat (own_fnd 4 (own_fnd 4 (own_fnd 4 (own_fnd 4 (own_uni (own_uni (own_uni [0, 1, 2, 3] ca1 cb1) ca2 cb2) ca3 cb3) ce).1 0).1 1).1 2).2)), .val (.int (Int32.ofNat (own_fnd 4 (own_fnd 4 (own_fnd 4 (own_fnd 4 (own_fnd 4 (own_uni (own_uni (own_uni [0, 1, 2, 3] ca1 cb1) ca2 cb2) ca3 cb3) ce).1 0).1 1).1 2).1 3).2))] []))
  refine own_go (fun _ kt => XS.iload X78.here hx rfl (hb hby at_177) rfl kt) ?_
  show own_R _ _ _ _ (T78.setTop (mkF m 179 #[.val (.int q1), .val (.int q2), .val (.int q3), .val (.int q4), .val (.ref b58), .val (.ref b63), .val (.int (Int32.ofNat ca1)), .val (.int (Int32.ofNat cb1)), .val (.int (Int32.ofNat ca2)), .val (.int (Int32.ofNat cb2)), .val (.int (Int32.ofNat ca3)), .val (.int (Int32.ofNat cb3)), .val (.int (Int32.ofNat ce)), .val (.int (Int32.ofNat (own_fnd 4 (own_uni (own_uni (own_uni [0, 1, 2, 3] ca1 cb1) ca2 cb2) ca3 cb3) ce).2)), .val (.int (Int32.ofNat (own_fnd 4 (own_fnd 4 (own_uni (own_uni (own_uni [0, 1, 2, 3] ca1 cb1) ca2 cb2) ca3 cb3) ce).1 0).2)), .val (.int (Int32.ofNat (own_fnd 4 (own_fnd 4 (own_fnd 4 (own_uni (own_uni (own_uni [0, 1, 2, 3] ca1 cb1) ca2 cb2) ca3 cb3) ce).1 0).1 1).2)), .val (.int (Int32.ofNat (own_fnd 4 (own_fnd 4 (own_fnd 4 (own_fnd 4 (own_uni (own_uni (own_uni [0, 1, 2, 3] ca1 cb1) ca2 cb2) ca3 cb3) ce).1 0).1 1).1 2).2)), .val (.int (Int32.ofNat (own_fnd 4 (own_fnd 4 (own_fnd 4 (own_fnd 4 (own_fnd 4 (own_uni (own_uni (own_uni [0, 1, 2, 3] ca1 cb1) ca2 cb2) ca3 cb3) ce).1 0).1 1).1 2).1 3).2))] [(.int (Int32.ofNat (own_fnd 4 (own_fnd 4 (own_uni (own_uni (own_uni [0, 1, 2, 3] ca1 cb1) ca2 cb2) ca3 cb3) ce).1 0).2))]))
  refine own_go (fun _ kt => XS.aload X78.here hx rfl (hb hby at_179) rfl rfl kt) ?_
  show own_R _ _ _ _ (T78.setTop (mkF m 181 #[.val (.int q1), .val (.int q2), .val (.int q3), .val (.int q4), .val (.ref b58), .val (.ref b63), .val (.int (Int32.ofNat ca1)), .val (.int (Int32.ofNat cb1)), .val (.int (Int32.ofNat ca2)), .val (.int (Int32.ofNat cb2)), .val (.int (Int32.ofNat ca3)), .val (.int (Int32.ofNat cb3)), .val (.int (Int32.ofNat ce)), .val (.int (Int32.ofNat (own_fnd 4 (own_uni (own_uni (own_uni [0, 1, 2, 3] ca1 cb1) ca2 cb2) ca3 cb3) ce).2)), .val (.int (Int32.ofNat (own_fnd 4 (own_fnd 4 (own_uni (own_uni (own_uni [0, 1, 2, 3] ca1 cb1) ca2 cb2) ca3 cb3) ce).1 0).2)), .val (.int (Int32.ofNat (own_fnd 4 (own_fnd 4 (own_fnd 4 (own_uni (own_uni (own_uni [0, 1, 2, 3] ca1 cb1) ca2 cb2) ca3 cb3) ce).1 0).1 1).2)), .val (.int (Int32.ofNat (own_fnd 4 (own_fnd 4 (own_fnd 4 (own_fnd 4 (own_uni (own_uni (own_uni [0, 1, 2, 3] ca1 cb1) ca2 cb2) ca3 cb3) ce).1 0).1 1).1 2).2)), .val (.int (Int32.ofNat (own_fnd 4 (own_fnd 4 (own_fnd 4 (own_fnd 4 (own_fnd 4 (own_uni (own_uni (own_uni [0, 1, 2, 3] ca1 cb1) ca2 cb2) ca3 cb3) ce).1 0).1 1).1 2).1 3).2))] [(.ref b58), (.int (Int32.ofNat (own_fnd 4 (own_fnd 4 (own_uni (own_uni (own_uni [0, 1, 2, 3] ca1 cb1) ca2 cb2) ca3 cb3) ce).1 0).2))]))
  refine own_go (fun _ kt => XS.iconst X78.here hx rfl (hb hby at_181) kt) ?_
  show own_R _ _ _ _ (T78.setTop (mkF m 182 #[.val (.int q1), .val (.int q2), .val (.int q3), .val (.int q4), .val (.ref b58), .val (.ref b63), .val (.int (Int32.ofNat ca1)), .val (.int (Int32.ofNat cb1)), .val (.int (Int32.ofNat ca2)), .val (.int (Int32.ofNat cb2)), .val (.int (Int32.ofNat ca3)), .val (.int (Int32.ofNat cb3)), .val (.int (Int32.ofNat ce)), .val (.int (Int32.ofNat (own_fnd 4 (own_uni (own_uni (own_uni [0, 1, 2, 3] ca1 cb1) ca2 cb2) ca3 cb3) ce).2)), .val (.int (Int32.ofNat (own_fnd 4 (own_fnd 4 (own_uni (own_uni (own_uni [0, 1, 2, 3] ca1 cb1) ca2 cb2) ca3 cb3) ce).1 0).2)), .val (.int (Int32.ofNat (own_fnd 4 (own_fnd 4 (own_fnd 4 (own_uni (own_uni (own_uni [0, 1, 2, 3] ca1 cb1) ca2 cb2) ca3 cb3) ce).1 0).1 1).2)), .val (.int (Int32.ofNat (own_fnd 4 (own_fnd 4 (own_fnd 4 (own_fnd 4 (own_uni (own_uni (own_uni [0, 1, 2, 3] ca1 cb1) ca2 cb2) ca3 cb3) ce).1 0).1 1).1 2).2)), .val (.int (Int32.ofNat (own_fnd 4 (own_fnd 4 (own_fnd 4 (own_fnd 4 (own_fnd 4 (own_uni (own_uni (own_uni [0, 1, 2, 3] ca1 cb1) ca2 cb2) ca3 cb3) ce).1 0).1 1).1 2).1 3).2))] [(.int (0 : Int32)), (.ref b58), (.int (Int32.ofNat (own_fnd 4 (own_fnd 4 (own_uni (own_uni (own_uni [0, 1, 2, 3] ca1 cb1) ca2 cb2) ca3 cb3) ce).1 0).2))]))
  refine own_go (own_ldI X78 hx hZ e78 V_b58 (j := (0 : Int32)) (i := 0) ⟨by decide, by decide⟩ rfl (v := (.int ym730)) rfl (g := (mkF m 182 #[.val (.int q1), .val (.int q2), .val (.int q3), .val (.int q4), .val (.ref b58), .val (.ref b63), .val (.int (Int32.ofNat ca1)), .val (.int (Int32.ofNat cb1)), .val (.int (Int32.ofNat ca2)), .val (.int (Int32.ofNat cb2)), .val (.int (Int32.ofNat ca3)), .val (.int (Int32.ofNat cb3)), .val (.int (Int32.ofNat ce)), .val (.int (Int32.ofNat (own_fnd 4 (own_uni (own_uni (own_uni [0, 1, 2, 3] ca1 cb1) ca2 cb2) ca3 cb3) ce).2)), .val (.int (Int32.ofNat (own_fnd 4 (own_fnd 4 (own_uni (own_uni (own_uni [0, 1, 2, 3] ca1 cb1) ca2 cb2) ca3 cb3) ce).1 0).2)), .val (.int (Int32.ofNat (own_fnd 4 (own_fnd 4 (own_fnd 4 (own_uni (own_uni (own_uni [0, 1, 2, 3] ca1 cb1) ca2 cb2) ca3 cb3) ce).1 0).1 1).2)), .val (.int (Int32.ofNat (own_fnd 4 (own_fnd 4 (own_fnd 4 (own_fnd 4 (own_uni (own_uni (own_uni [0, 1, 2, 3] ca1 cb1) ca2 cb2) ca3 cb3) ce).1 0).1 1).1 2).2)), .val (.int (Int32.ofNat (own_fnd 4 (own_fnd 4 (own_fnd 4 (own_fnd 4 (own_fnd 4 (own_uni (own_uni (own_uni [0, 1, 2, 3] ca1 cb1) ca2 cb2) ca3 cb3) ce).1 0).1 1).1 2).1 3).2))] [(.int (0 : Int32)), (.ref b58), (.int (Int32.ofNat (own_fnd 4 (own_fnd 4 (own_uni (own_uni (own_uni [0, 1, 2, 3] ca1 cb1) ca2 cb2) ca3 cb3) ce).1 0).2))])) rfl rfl (hb hby at_182)) ?_
  show own_R _ _ _ _ (T78.setTop (mkF m 183 #[.val (.int q1), .val (.int q2), .val (.int q3), .val (.int q4), .val (.ref b58), .val (.ref b63), .val (.int (Int32.ofNat ca1)), .val (.int (Int32.ofNat cb1)), .val (.int (Int32.ofNat ca2)), .val (.int (Int32.ofNat cb2)), .val (.int (Int32.ofNat ca3)), .val (.int (Int32.ofNat cb3)), .val (.int (Int32.ofNat ce)), .val (.int (Int32.ofNat (own_fnd 4 (own_uni (own_uni (own_uni [0, 1, 2, 3] ca1 cb1) ca2 cb2) ca3 cb3) ce).2)), .val (.int (Int32.ofNat (own_fnd 4 (own_fnd 4 (own_uni (own_uni (own_uni [0, 1, 2, 3] ca1 cb1) ca2 cb2) ca3 cb3) ce).1 0).2)), .val (.int (Int32.ofNat (own_fnd 4 (own_fnd 4 (own_fnd 4 (own_uni (own_uni (own_uni [0, 1, 2, 3] ca1 cb1) ca2 cb2) ca3 cb3) ce).1 0).1 1).2)), .val (.int (Int32.ofNat (own_fnd 4 (own_fnd 4 (own_fnd 4 (own_fnd 4 (own_uni (own_uni (own_uni [0, 1, 2, 3] ca1 cb1) ca2 cb2) ca3 cb3) ce).1 0).1 1).1 2).2)), .val (.int (Int32.ofNat (own_fnd 4 (own_fnd 4 (own_fnd 4 (own_fnd 4 (own_fnd 4 (own_uni (own_uni (own_uni [0, 1, 2, 3] ca1 cb1) ca2 cb2) ca3 cb3) ce).1 0).1 1).1 2).1 3).2))] [(.int ym730), (.int (Int32.ofNat (own_fnd 4 (own_fnd 4 (own_uni (own_uni (own_uni [0, 1, 2, 3] ca1 cb1) ca2 cb2) ca3 cb3) ce).1 0).2))]))
  refine own_go (fun _ kt => XS.icmpNo X78.here hx rfl (hb hby at_183) rfl (teq (r_0.symm)).2 kt) ?_
  show own_R _ _ _ _ (T78.setTop (mkF m 186 #[.val (.int q1), .val (.int q2), .val (.int q3), .val (.int q4), .val (.ref b58), .val (.ref b63), .val (.int (Int32.ofNat ca1)), .val (.int (Int32.ofNat cb1)), .val (.int (Int32.ofNat ca2)), .val (.int (Int32.ofNat cb2)), .val (.int (Int32.ofNat ca3)), .val (.int (Int32.ofNat cb3)), .val (.int (Int32.ofNat ce)), .val (.int (Int32.ofNat (own_fnd 4 (own_uni (own_uni (own_uni [0, 1, 2, 3] ca1 cb1) ca2 cb2) ca3 cb3) ce).2)), .val (.int (Int32.ofNat (own_fnd 4 (own_fnd 4 (own_uni (own_uni (own_uni [0, 1, 2, 3] ca1 cb1) ca2 cb2) ca3 cb3) ce).1 0).2)), .val (.int (Int32.ofNat (own_fnd 4 (own_fnd 4 (own_fnd 4 (own_uni (own_uni (own_uni [0, 1, 2, 3] ca1 cb1) ca2 cb2) ca3 cb3) ce).1 0).1 1).2)), .val (.int (Int32.ofNat (own_fnd 4 (own_fnd 4 (own_fnd 4 (own_fnd 4 (own_uni (own_uni (own_uni [0, 1, 2, 3] ca1 cb1) ca2 cb2) ca3 cb3) ce).1 0).1 1).1 2).2)), .val (.int (Int32.ofNat (own_fnd 4 (own_fnd 4 (own_fnd 4 (own_fnd 4 (own_fnd 4 (own_uni (own_uni (own_uni [0, 1, 2, 3] ca1 cb1) ca2 cb2) ca3 cb3) ce).1 0).1 1).1 2).1 3).2))] []))
  refine own_go (fun _ kt => XS.iload X78.here hx rfl (hb hby at_186) rfl kt) ?_
  show own_R _ _ _ _ (T78.setTop (mkF m 188 #[.val (.int q1), .val (.int q2), .val (.int q3), .val (.int q4), .val (.ref b58), .val (.ref b63), .val (.int (Int32.ofNat ca1)), .val (.int (Int32.ofNat cb1)), .val (.int (Int32.ofNat ca2)), .val (.int (Int32.ofNat cb2)), .val (.int (Int32.ofNat ca3)), .val (.int (Int32.ofNat cb3)), .val (.int (Int32.ofNat ce)), .val (.int (Int32.ofNat (own_fnd 4 (own_uni (own_uni (own_uni [0, 1, 2, 3] ca1 cb1) ca2 cb2) ca3 cb3) ce).2)), .val (.int (Int32.ofNat (own_fnd 4 (own_fnd 4 (own_uni (own_uni (own_uni [0, 1, 2, 3] ca1 cb1) ca2 cb2) ca3 cb3) ce).1 0).2)), .val (.int (Int32.ofNat (own_fnd 4 (own_fnd 4 (own_fnd 4 (own_uni (own_uni (own_uni [0, 1, 2, 3] ca1 cb1) ca2 cb2) ca3 cb3) ce).1 0).1 1).2)), .val (.int (Int32.ofNat (own_fnd 4 (own_fnd 4 (own_fnd 4 (own_fnd 4 (own_uni (own_uni (own_uni [0, 1, 2, 3] ca1 cb1) ca2 cb2) ca3 cb3) ce).1 0).1 1).1 2).2)), .val (.int (Int32.ofNat (own_fnd 4 (own_fnd 4 (own_fnd 4 (own_fnd 4 (own_fnd 4 (own_uni (own_uni (own_uni [0, 1, 2, 3] ca1 cb1) ca2 cb2) ca3 cb3) ce).1 0).1 1).1 2).1 3).2))] [(.int (Int32.ofNat (own_fnd 4 (own_fnd 4 (own_fnd 4 (own_uni (own_uni (own_uni [0, 1, 2, 3] ca1 cb1) ca2 cb2) ca3 cb3) ce).1 0).1 1).2))]))
  refine own_go (fun _ kt => XS.aload X78.here hx rfl (hb hby at_188) rfl rfl kt) ?_
  show own_R _ _ _ _ (T78.setTop (mkF m 190 #[.val (.int q1), .val (.int q2), .val (.int q3), .val (.int q4), .val (.ref b58), .val (.ref b63), .val (.int (Int32.ofNat ca1)), .val (.int (Int32.ofNat cb1)), .val (.int (Int32.ofNat ca2)), .val (.int (Int32.ofNat cb2)), .val (.int (Int32.ofNat ca3)), .val (.int (Int32.ofNat cb3)), .val (.int (Int32.ofNat ce)), .val (.int (Int32.ofNat (own_fnd 4 (own_uni (own_uni (own_uni [0, 1, 2, 3] ca1 cb1) ca2 cb2) ca3 cb3) ce).2)), .val (.int (Int32.ofNat (own_fnd 4 (own_fnd 4 (own_uni (own_uni (own_uni [0, 1, 2, 3] ca1 cb1) ca2 cb2) ca3 cb3) ce).1 0).2)), .val (.int (Int32.ofNat (own_fnd 4 (own_fnd 4 (own_fnd 4 (own_uni (own_uni (own_uni [0, 1, 2, 3] ca1 cb1) ca2 cb2) ca3 cb3) ce).1 0).1 1).2)), .val (.int (Int32.ofNat (own_fnd 4 (own_fnd 4 (own_fnd 4 (own_fnd 4 (own_uni (own_uni (own_uni [0, 1, 2, 3] ca1 cb1) ca2 cb2) ca3 cb3) ce).1 0).1 1).1 2).2)), .val (.int (Int32.ofNat (own_fnd 4 (own_fnd 4 (own_fnd 4 (own_fnd 4 (own_fnd 4 (own_uni (own_uni (own_uni [0, 1, 2, 3] ca1 cb1) ca2 cb2) ca3 cb3) ce).1 0).1 1).1 2).1 3).2))] [(.ref b58), (.int (Int32.ofNat (own_fnd 4 (own_fnd 4 (own_fnd 4 (own_uni (own_uni (own_uni [0, 1, 2, 3] ca1 cb1) ca2 cb2) ca3 cb3) ce).1 0).1 1).2))]))
  refine own_go (fun _ kt => XS.iconst X78.here hx rfl (hb hby at_190) kt) ?_
  show own_R _ _ _ _ (T78.setTop (mkF m 191 #[.val (.int q1), .val (.int q2), .val (.int q3), .val (.int q4), .val (.ref b58), .val (.ref b63), .val (.int (Int32.ofNat ca1)), .val (.int (Int32.ofNat cb1)), .val (.int (Int32.ofNat ca2)), .val (.int (Int32.ofNat cb2)), .val (.int (Int32.ofNat ca3)), .val (.int (Int32.ofNat cb3)), .val (.int (Int32.ofNat ce)), .val (.int (Int32.ofNat (own_fnd 4 (own_uni (own_uni (own_uni [0, 1, 2, 3] ca1 cb1) ca2 cb2) ca3 cb3) ce).2)), .val (.int (Int32.ofNat (own_fnd 4 (own_fnd 4 (own_uni (own_uni (own_uni [0, 1, 2, 3] ca1 cb1) ca2 cb2) ca3 cb3) ce).1 0).2)), .val (.int (Int32.ofNat (own_fnd 4 (own_fnd 4 (own_fnd 4 (own_uni (own_uni (own_uni [0, 1, 2, 3] ca1 cb1) ca2 cb2) ca3 cb3) ce).1 0).1 1).2)), .val (.int (Int32.ofNat (own_fnd 4 (own_fnd 4 (own_fnd 4 (own_fnd 4 (own_uni (own_uni (own_uni [0, 1, 2, 3] ca1 cb1) ca2 cb2) ca3 cb3) ce).1 0).1 1).1 2).2)), .val (.int (Int32.ofNat (own_fnd 4 (own_fnd 4 (own_fnd 4 (own_fnd 4 (own_fnd 4 (own_uni (own_uni (own_uni [0, 1, 2, 3] ca1 cb1) ca2 cb2) ca3 cb3) ce).1 0).1 1).1 2).1 3).2))] [(.int (1 : Int32)), (.ref b58), (.int (Int32.ofNat (own_fnd 4 (own_fnd 4 (own_fnd 4 (own_uni (own_uni (own_uni [0, 1, 2, 3] ca1 cb1) ca2 cb2) ca3 cb3) ce).1 0).1 1).2))]))
  refine own_go (own_ldI X78 hx hZ e78 V_b58 (j := (1 : Int32)) (i := 1) ⟨by decide, by decide⟩ rfl (v := (.int ym731)) rfl (g := (mkF m 191 #[.val (.int q1), .val (.int q2), .val (.int q3), .val (.int q4), .val (.ref b58), .val (.ref b63), .val (.int (Int32.ofNat ca1)), .val (.int (Int32.ofNat cb1)), .val (.int (Int32.ofNat ca2)), .val (.int (Int32.ofNat cb2)), .val (.int (Int32.ofNat ca3)), .val (.int (Int32.ofNat cb3)), .val (.int (Int32.ofNat ce)), .val (.int (Int32.ofNat (own_fnd 4 (own_uni (own_uni (own_uni [0, 1, 2, 3] ca1 cb1) ca2 cb2) ca3 cb3) ce).2)), .val (.int (Int32.ofNat (own_fnd 4 (own_fnd 4 (own_uni (own_uni (own_uni [0, 1, 2, 3] ca1 cb1) ca2 cb2) ca3 cb3) ce).1 0).2)), .val (.int (Int32.ofNat (own_fnd 4 (own_fnd 4 (own_fnd 4 (own_uni (own_uni (own_uni [0, 1, 2, 3] ca1 cb1) ca2 cb2) ca3 cb3) ce).1 0).1 1).2)), .val (.int (Int32.ofNat (own_fnd 4 (own_fnd 4 (own_fnd 4 (own_fnd 4 (own_uni (own_uni (own_uni [0, 1, 2, 3] ca1 cb1) ca2 cb2) ca3 cb3) ce).1 0).1 1).1 2).2)), .val (.int (Int32.ofNat (own_fnd 4 (own_fnd 4 (own_fnd 4 (own_fnd 4 (own_fnd 4 (own_uni (own_uni (own_uni [0, 1, 2, 3] ca1 cb1) ca2 cb2) ca3 cb3) ce).1 0).1 1).1 2).1 3).2))] [(.int (1 : Int32)), (.ref b58), (.int (Int32.ofNat (own_fnd 4 (own_fnd 4 (own_fnd 4 (own_uni (own_uni (own_uni [0, 1, 2, 3] ca1 cb1) ca2 cb2) ca3 cb3) ce).1 0).1 1).2))])) rfl rfl (hb hby at_191)) ?_
  show own_R _ _ _ _ (T78.setTop (mkF m 192 #[.val (.int q1), .val (.int q2), .val (.int q3), .val (.int q4), .val (.ref b58), .val (.ref b63), .val (.int (Int32.ofNat ca1)), .val (.int (Int32.ofNat cb1)), .val (.int (Int32.ofNat ca2)), .val (.int (Int32.ofNat cb2)), .val (.int (Int32.ofNat ca3)), .val (.int (Int32.ofNat cb3)), .val (.int (Int32.ofNat ce)), .val (.int (Int32.ofNat (own_fnd 4 (own_uni (own_uni (own_uni [0, 1, 2, 3] ca1 cb1) ca2 cb2) ca3 cb3) ce).2)), .val (.int (Int32.ofNat (own_fnd 4 (own_fnd 4 (own_uni (own_uni (own_uni [0, 1, 2, 3] ca1 cb1) ca2 cb2) ca3 cb3) ce).1 0).2)), .val (.int (Int32.ofNat (own_fnd 4 (own_fnd 4 (own_fnd 4 (own_uni (own_uni (own_uni [0, 1, 2, 3] ca1 cb1) ca2 cb2) ca3 cb3) ce).1 0).1 1).2)), .val (.int (Int32.ofNat (own_fnd 4 (own_fnd 4 (own_fnd 4 (own_fnd 4 (own_uni (own_uni (own_uni [0, 1, 2, 3] ca1 cb1) ca2 cb2) ca3 cb3) ce).1 0).1 1).1 2).2)), .val (.int (Int32.ofNat (own_fnd 4 (own_fnd 4 (own_fnd 4 (own_fnd 4 (own_fnd 4 (own_uni (own_uni (own_uni [0, 1, 2, 3] ca1 cb1) ca2 cb2) ca3 cb3) ce).1 0).1 1).1 2).1 3).2))] [(.int ym731), (.int (Int32.ofNat (own_fnd 4 (own_fnd 4 (own_fnd 4 (own_uni (own_uni (own_uni [0, 1, 2, 3] ca1 cb1) ca2 cb2) ca3 cb3) ce).1 0).1 1).2))]))
  refine own_go (fun _ kt => XS.icmpNo X78.here hx rfl (hb hby at_192) rfl (teq (r_1.symm)).2 kt) ?_
  show own_R _ _ _ _ (T78.setTop (mkF m 195 #[.val (.int q1), .val (.int q2), .val (.int q3), .val (.int q4), .val (.ref b58), .val (.ref b63), .val (.int (Int32.ofNat ca1)), .val (.int (Int32.ofNat cb1)), .val (.int (Int32.ofNat ca2)), .val (.int (Int32.ofNat cb2)), .val (.int (Int32.ofNat ca3)), .val (.int (Int32.ofNat cb3)), .val (.int (Int32.ofNat ce)), .val (.int (Int32.ofNat (own_fnd 4 (own_uni (own_uni (own_uni [0, 1, 2, 3] ca1 cb1) ca2 cb2) ca3 cb3) ce).2)), .val (.int (Int32.ofNat (own_fnd 4 (own_fnd 4 (own_uni (own_uni (own_uni [0, 1, 2, 3] ca1 cb1) ca2 cb2) ca3 cb3) ce).1 0).2)), .val (.int (Int32.ofNat (own_fnd 4 (own_fnd 4 (own_fnd 4 (own_uni (own_uni (own_uni [0, 1, 2, 3] ca1 cb1) ca2 cb2) ca3 cb3) ce).1 0).1 1).2)), .val (.int (Int32.ofNat (own_fnd 4 (own_fnd 4 (own_fnd 4 (own_fnd 4 (own_uni (own_uni (own_uni [0, 1, 2, 3] ca1 cb1) ca2 cb2) ca3 cb3) ce).1 0).1 1).1 2).2)), .val (.int (Int32.ofNat (own_fnd 4 (own_fnd 4 (own_fnd 4 (own_fnd 4 (own_fnd 4 (own_uni (own_uni (own_uni [0, 1, 2, 3] ca1 cb1) ca2 cb2) ca3 cb3) ce).1 0).1 1).1 2).1 3).2))] []))
  refine own_go (fun _ kt => XS.iload X78.here hx rfl (hb hby at_195) rfl kt) ?_
  show own_R _ _ _ _ (T78.setTop (mkF m 197 #[.val (.int q1), .val (.int q2), .val (.int q3), .val (.int q4), .val (.ref b58), .val (.ref b63), .val (.int (Int32.ofNat ca1)), .val (.int (Int32.ofNat cb1)), .val (.int (Int32.ofNat ca2)), .val (.int (Int32.ofNat cb2)), .val (.int (Int32.ofNat ca3)), .val (.int (Int32.ofNat cb3)), .val (.int (Int32.ofNat ce)), .val (.int (Int32.ofNat (own_fnd 4 (own_uni (own_uni (own_uni [0, 1, 2, 3] ca1 cb1) ca2 cb2) ca3 cb3) ce).2)), .val (.int (Int32.ofNat (own_fnd 4 (own_fnd 4 (own_uni (own_uni (own_uni [0, 1, 2, 3] ca1 cb1) ca2 cb2) ca3 cb3) ce).1 0).2)), .val (.int (Int32.ofNat (own_fnd 4 (own_fnd 4 (own_fnd 4 (own_uni (own_uni (own_uni [0, 1, 2, 3] ca1 cb1) ca2 cb2) ca3 cb3) ce).1 0).1 1).2)), .val (.int (Int32.ofNat (own_fnd 4 (own_fnd 4 (own_fnd 4 (own_fnd 4 (own_uni (own_uni (own_uni [0, 1, 2, 3] ca1 cb1) ca2 cb2) ca3 cb3) ce).1 0).1 1).1 2).2)), .val (.int (Int32.ofNat (own_fnd 4 (own_fnd 4 (own_fnd 4 (own_fnd 4 (own_fnd 4 (own_uni (own_uni (own_uni [0, 1, 2, 3] ca1 cb1) ca2 cb2) ca3 cb3) ce).1 0).1 1).1 2).1 3).2))] [(.int (Int32.ofNat (own_fnd 4 (own_fnd 4 (own_fnd 4 (own_fnd 4 (own_uni (own_uni (own_uni [0, 1, 2, 3] ca1 cb1) ca2 cb2) ca3 cb3) ce).1 0).1 1).1 2).2))]))
  refine own_go (fun _ kt => XS.aload X78.here hx rfl (hb hby at_197) rfl rfl kt) ?_
  show own_R _ _ _ _ (T78.setTop (mkF m 199 #[.val (.int q1), .val (.int q2), .val (.int q3), .val (.int q4), .val (.ref b58), .val (.ref b63), .val (.int (Int32.ofNat ca1)), .val (.int (Int32.ofNat cb1)), .val (.int (Int32.ofNat ca2)), .val (.int (Int32.ofNat cb2)), .val (.int (Int32.ofNat ca3)), .val (.int (Int32.ofNat cb3)), .val (.int (Int32.ofNat ce)), .val (.int (Int32.ofNat (own_fnd 4 (own_uni (own_uni (own_uni [0, 1, 2, 3] ca1 cb1) ca2 cb2) ca3 cb3) ce).2)), .val (.int (Int32.ofNat (own_fnd 4 (own_fnd 4 (own_uni (own_uni (own_uni [0, 1, 2, 3] ca1 cb1) ca2 cb2) ca3 cb3) ce).1 0).2)), .val (.int (Int32.ofNat (own_fnd 4 (own_fnd 4 (own_fnd 4 (own_uni (own_uni (own_uni [0, 1, 2, 3] ca1 cb1) ca2 cb2) ca3 cb3) ce).1 0).1 1).2)), .val (.int (Int32.ofNat (own_fnd 4 (own_fnd 4 (own_fnd 4 (own_fnd 4 (own_uni (own_uni (own_uni [0, 1, 2, 3] ca1 cb1) ca2 cb2) ca3 cb3) ce).1 0).1 1).1 2).2)), .val (.int (Int32.ofNat (own_fnd 4 (own_fnd 4 (own_fnd 4 (own_fnd 4 (own_fnd 4 (own_uni (own_uni (own_uni [0, 1, 2, 3] ca1 cb1) ca2 cb2) ca3 cb3) ce).1 0).1 1).1 2).1 3).2))] [(.ref b58), (.int (Int32.ofNat (own_fnd 4 (own_fnd 4 (own_fnd 4 (own_fnd 4 (own_uni (own_uni (own_uni [0, 1, 2, 3] ca1 cb1) ca2 cb2) ca3 cb3) ce).1 0).1 1).1 2).2))]))
  refine own_go (fun _ kt => XS.iconst X78.here hx rfl (hb hby at_199) kt) ?_
  show own_R _ _ _ _ (T78.setTop (mkF m 200 #[.val (.int q1), .val (.int q2), .val (.int q3), .val (.int q4), .val (.ref b58), .val (.ref b63), .val (.int (Int32.ofNat ca1)), .val (.int (Int32.ofNat cb1)), .val (.int (Int32.ofNat ca2)), .val (.int (Int32.ofNat cb2)), .val (.int (Int32.ofNat ca3)), .val (.int (Int32.ofNat cb3)), .val (.int (Int32.ofNat ce)), .val (.int (Int32.ofNat (own_fnd 4 (own_uni (own_uni (own_uni [0, 1, 2, 3] ca1 cb1) ca2 cb2) ca3 cb3) ce).2)), .val (.int (Int32.ofNat (own_fnd 4 (own_fnd 4 (own_uni (own_uni (own_uni [0, 1, 2, 3] ca1 cb1) ca2 cb2) ca3 cb3) ce).1 0).2)), .val (.int (Int32.ofNat (own_fnd 4 (own_fnd 4 (own_fnd 4 (own_uni (own_uni (own_uni [0, 1, 2, 3] ca1 cb1) ca2 cb2) ca3 cb3) ce).1 0).1 1).2)), .val (.int (Int32.ofNat (own_fnd 4 (own_fnd 4 (own_fnd 4 (own_fnd 4 (own_uni (own_uni (own_uni [0, 1, 2, 3] ca1 cb1) ca2 cb2) ca3 cb3) ce).1 0).1 1).1 2).2)), .val (.int (Int32.ofNat (own_fnd 4 (own_fnd 4 (own_fnd 4 (own_fnd 4 (own_fnd 4 (own_uni (own_uni (own_uni [0, 1, 2, 3] ca1 cb1) ca2 cb2) ca3 cb3) ce).1 0).1 1).1 2).1 3).2))] [(.int (2 : Int32)), (.ref b58), (.int (Int32.ofNat (own_fnd 4 (own_fnd 4 (own_fnd 4 (own_fnd 4 (own_uni (own_uni (own_uni [0, 1, 2, 3] ca1 cb1) ca2 cb2) ca3 cb3) ce).1 0).1 1).1 2).2))]))
  refine own_go (own_ldI X78 hx hZ e78 V_b58 (j := (2 : Int32)) (i := 2) ⟨by decide, by decide⟩ rfl (v := (.int ym732)) rfl (g := (mkF m 200 #[.val (.int q1), .val (.int q2), .val (.int q3), .val (.int q4), .val (.ref b58), .val (.ref b63), .val (.int (Int32.ofNat ca1)), .val (.int (Int32.ofNat cb1)), .val (.int (Int32.ofNat ca2)), .val (.int (Int32.ofNat cb2)), .val (.int (Int32.ofNat ca3)), .val (.int (Int32.ofNat cb3)), .val (.int (Int32.ofNat ce)), .val (.int (Int32.ofNat (own_fnd 4 (own_uni (own_uni (own_uni [0, 1, 2, 3] ca1 cb1) ca2 cb2) ca3 cb3) ce).2)), .val (.int (Int32.ofNat (own_fnd 4 (own_fnd 4 (own_uni (own_uni (own_uni [0, 1, 2, 3] ca1 cb1) ca2 cb2) ca3 cb3) ce).1 0).2)), .val (.int (Int32.ofNat (own_fnd 4 (own_fnd 4 (own_fnd 4 (own_uni (own_uni (own_uni [0, 1, 2, 3] ca1 cb1) ca2 cb2) ca3 cb3) ce).1 0).1 1).2)), .val (.int (Int32.ofNat (own_fnd 4 (own_fnd 4 (own_fnd 4 (own_fnd 4 (own_uni (own_uni (own_uni [0, 1, 2, 3] ca1 cb1) ca2 cb2) ca3 cb3) ce).1 0).1 1).1 2).2)), .val (.int (Int32.ofNat (own_fnd 4 (own_fnd 4 (own_fnd 4 (own_fnd 4 (own_fnd 4 (own_uni (own_uni (own_uni [0, 1, 2, 3] ca1 cb1) ca2 cb2) ca3 cb3) ce).1 0).1 1).1 2).1 3).2))] [(.int (2 : Int32)), (.ref b58), (.int (Int32.ofNat (own_fnd 4 (own_fnd 4 (own_fnd 4 (own_fnd 4 (own_uni (own_uni (own_uni [0, 1, 2, 3] ca1 cb1) ca2 cb2) ca3 cb3) ce).1 0).1 1).1 2).2))])) rfl rfl (hb hby at_200)) ?_
  show own_R _ _ _ _ (T78.setTop (mkF m 201 #[.val (.int q1), .val (.int q2), .val (.int q3), .val (.int q4), .val (.ref b58), .val (.ref b63), .val (.int (Int32.ofNat ca1)), .val (.int (Int32.ofNat cb1)), .val (.int (Int32.ofNat ca2)), .val (.int (Int32.ofNat cb2)), .val (.int (Int32.ofNat ca3)), .val (.int (Int32.ofNat cb3)), .val (.int (Int32.ofNat ce)), .val (.int (Int32.ofNat (own_fnd 4 (own_uni (own_uni (own_uni [0, 1, 2, 3] ca1 cb1) ca2 cb2) ca3 cb3) ce).2)), .val (.int (Int32.ofNat (own_fnd 4 (own_fnd 4 (own_uni (own_uni (own_uni [0, 1, 2, 3] ca1 cb1) ca2 cb2) ca3 cb3) ce).1 0).2)), .val (.int (Int32.ofNat (own_fnd 4 (own_fnd 4 (own_fnd 4 (own_uni (own_uni (own_uni [0, 1, 2, 3] ca1 cb1) ca2 cb2) ca3 cb3) ce).1 0).1 1).2)), .val (.int (Int32.ofNat (own_fnd 4 (own_fnd 4 (own_fnd 4 (own_fnd 4 (own_uni (own_uni (own_uni [0, 1, 2, 3] ca1 cb1) ca2 cb2) ca3 cb3) ce).1 0).1 1).1 2).2)), .val (.int (Int32.ofNat (own_fnd 4 (own_fnd 4 (own_fnd 4 (own_fnd 4 (own_fnd 4 (own_uni (own_uni (own_uni [0, 1, 2, 3] ca1 cb1) ca2 cb2) ca3 cb3) ce).1 0).1 1).1 2).1 3).2))] [(.int ym732), (.int (Int32.ofNat (own_fnd 4 (own_fnd 4 (own_fnd 4 (own_fnd 4 (own_uni (own_uni (own_uni [0, 1, 2, 3] ca1 cb1) ca2 cb2) ca3 cb3) ce).1 0).1 1).1 2).2))]))
  refine own_go (fun _ kt => XS.icmpNo X78.here hx rfl (hb hby at_201) rfl (teq (r_2.symm)).2 kt) ?_
  show own_R _ _ _ _ (T78.setTop (mkF m 204 #[.val (.int q1), .val (.int q2), .val (.int q3), .val (.int q4), .val (.ref b58), .val (.ref b63), .val (.int (Int32.ofNat ca1)), .val (.int (Int32.ofNat cb1)), .val (.int (Int32.ofNat ca2)), .val (.int (Int32.ofNat cb2)), .val (.int (Int32.ofNat ca3)), .val (.int (Int32.ofNat cb3)), .val (.int (Int32.ofNat ce)), .val (.int (Int32.ofNat (own_fnd 4 (own_uni (own_uni (own_uni [0, 1, 2, 3] ca1 cb1) ca2 cb2) ca3 cb3) ce).2)), .val (.int (Int32.ofNat (own_fnd 4 (own_fnd 4 (own_uni (own_uni (own_uni [0, 1, 2, 3] ca1 cb1) ca2 cb2) ca3 cb3) ce).1 0).2)), .val (.int (Int32.ofNat (own_fnd 4 (own_fnd 4 (own_fnd 4 (own_uni (own_uni (own_uni [0, 1, 2, 3] ca1 cb1) ca2 cb2) ca3 cb3) ce).1 0).1 1).2)), .val (.int (Int32.ofNat (own_fnd 4 (own_fnd 4 (own_fnd 4 (own_fnd 4 (own_uni (own_uni (own_uni [0, 1, 2, 3] ca1 cb1) ca2 cb2) ca3 cb3) ce).1 0).1 1).1 2).2)), .val (.int (Int32.ofNat (own_fnd 4 (own_fnd 4 (own_fnd 4 (own_fnd 4 (own_fnd 4 (own_uni (own_uni (own_uni [0, 1, 2, 3] ca1 cb1) ca2 cb2) ca3 cb3) ce).1 0).1 1).1 2).1 3).2))] []))
  refine own_go (fun _ kt => XS.iload X78.here hx rfl (hb hby at_204) rfl kt) ?_
  show own_R _ _ _ _ (T78.setTop (mkF m 206 #[.val (.int q1), .val (.int q2), .val (.int q3), .val (.int q4), .val (.ref b58), .val (.ref b63), .val (.int (Int32.ofNat ca1)), .val (.int (Int32.ofNat cb1)), .val (.int (Int32.ofNat ca2)), .val (.int (Int32.ofNat cb2)), .val (.int (Int32.ofNat ca3)), .val (.int (Int32.ofNat cb3)), .val (.int (Int32.ofNat ce)), .val (.int (Int32.ofNat (own_fnd 4 (own_uni (own_uni (own_uni [0, 1, 2, 3] ca1 cb1) ca2 cb2) ca3 cb3) ce).2)), .val (.int (Int32.ofNat (own_fnd 4 (own_fnd 4 (own_uni (own_uni (own_uni [0, 1, 2, 3] ca1 cb1) ca2 cb2) ca3 cb3) ce).1 0).2)), .val (.int (Int32.ofNat (own_fnd 4 (own_fnd 4 (own_fnd 4 (own_uni (own_uni (own_uni [0, 1, 2, 3] ca1 cb1) ca2 cb2) ca3 cb3) ce).1 0).1 1).2)), .val (.int (Int32.ofNat (own_fnd 4 (own_fnd 4 (own_fnd 4 (own_fnd 4 (own_uni (own_uni (own_uni [0, 1, 2, 3] ca1 cb1) ca2 cb2) ca3 cb3) ce).1 0).1 1).1 2).2)), .val (.int (Int32.ofNat (own_fnd 4 (own_fnd 4 (own_fnd 4 (own_fnd 4 (own_fnd 4 (own_uni (own_uni (own_uni [0, 1, 2, 3] ca1 cb1) ca2 cb2) ca3 cb3) ce).1 0).1 1).1 2).1 3).2))] [(.int (Int32.ofNat (own_fnd 4 (own_fnd 4 (own_fnd 4 (own_fnd 4 (own_fnd 4 (own_uni (own_uni (own_uni [0, 1, 2, 3] ca1 cb1) ca2 cb2) ca3 cb3) ce).1 0).1 1).1 2).1 3).2))]))
  refine own_go (fun _ kt => XS.aload X78.here hx rfl (hb hby at_206) rfl rfl kt) ?_
  show own_R _ _ _ _ (T78.setTop (mkF m 208 #[.val (.int q1), .val (.int q2), .val (.int q3), .val (.int q4), .val (.ref b58), .val (.ref b63), .val (.int (Int32.ofNat ca1)), .val (.int (Int32.ofNat cb1)), .val (.int (Int32.ofNat ca2)), .val (.int (Int32.ofNat cb2)), .val (.int (Int32.ofNat ca3)), .val (.int (Int32.ofNat cb3)), .val (.int (Int32.ofNat ce)), .val (.int (Int32.ofNat (own_fnd 4 (own_uni (own_uni (own_uni [0, 1, 2, 3] ca1 cb1) ca2 cb2) ca3 cb3) ce).2)), .val (.int (Int32.ofNat (own_fnd 4 (own_fnd 4 (own_uni (own_uni (own_uni [0, 1, 2, 3] ca1 cb1) ca2 cb2) ca3 cb3) ce).1 0).2)), .val (.int (Int32.ofNat (own_fnd 4 (own_fnd 4 (own_fnd 4 (own_uni (own_uni (own_uni [0, 1, 2, 3] ca1 cb1) ca2 cb2) ca3 cb3) ce).1 0).1 1).2)), .val (.int (Int32.ofNat (own_fnd 4 (own_fnd 4 (own_fnd 4 (own_fnd 4 (own_uni (own_uni (own_uni [0, 1, 2, 3] ca1 cb1) ca2 cb2) ca3 cb3) ce).1 0).1 1).1 2).2)), .val (.int (Int32.ofNat (own_fnd 4 (own_fnd 4 (own_fnd 4 (own_fnd 4 (own_fnd 4 (own_uni (own_uni (own_uni [0, 1, 2, 3] ca1 cb1) ca2 cb2) ca3 cb3) ce).1 0).1 1).1 2).1 3).2))] [(.ref b58), (.int (Int32.ofNat (own_fnd 4 (own_fnd 4 (own_fnd 4 (own_fnd 4 (own_fnd 4 (own_uni (own_uni (own_uni [0, 1, 2, 3] ca1 cb1) ca2 cb2) ca3 cb3) ce).1 0).1 1).1 2).1 3).2))]))
  refine own_go (fun _ kt => XS.iconst X78.here hx rfl (hb hby at_208) kt) ?_
  show own_R _ _ _ _ (T78.setTop (mkF m 209 #[.val (.int q1), .val (.int q2), .val (.int q3), .val (.int q4), .val (.ref b58), .val (.ref b63), .val (.int (Int32.ofNat ca1)), .val (.int (Int32.ofNat cb1)), .val (.int (Int32.ofNat ca2)), .val (.int (Int32.ofNat cb2)), .val (.int (Int32.ofNat ca3)), .val (.int (Int32.ofNat cb3)), .val (.int (Int32.ofNat ce)), .val (.int (Int32.ofNat (own_fnd 4 (own_uni (own_uni (own_uni [0, 1, 2, 3] ca1 cb1) ca2 cb2) ca3 cb3) ce).2)), .val (.int (Int32.ofNat (own_fnd 4 (own_fnd 4 (own_uni (own_uni (own_uni [0, 1, 2, 3] ca1 cb1) ca2 cb2) ca3 cb3) ce).1 0).2)), .val (.int (Int32.ofNat (own_fnd 4 (own_fnd 4 (own_fnd 4 (own_uni (own_uni (own_uni [0, 1, 2, 3] ca1 cb1) ca2 cb2) ca3 cb3) ce).1 0).1 1).2)), .val (.int (Int32.ofNat (own_fnd 4 (own_fnd 4 (own_fnd 4 (own_fnd 4 (own_uni (own_uni (own_uni [0, 1, 2, 3] ca1 cb1) ca2 cb2) ca3 cb3) ce).1 0).1 1).1 2).2)), .val (.int (Int32.ofNat (own_fnd 4 (own_fnd 4 (own_fnd 4 (own_fnd 4 (own_fnd 4 (own_uni (own_uni (own_uni [0, 1, 2, 3] ca1 cb1) ca2 cb2) ca3 cb3) ce).1 0).1 1).1 2).1 3).2))] [(.int (3 : Int32)), (.ref b58), (.int (Int32.ofNat (own_fnd 4 (own_fnd 4 (own_fnd 4 (own_fnd 4 (own_fnd 4 (own_uni (own_uni (own_uni [0, 1, 2, 3] ca1 cb1) ca2 cb2) ca3 cb3) ce).1 0).1 1).1 2).1 3).2))]))
  refine own_go (own_ldI X78 hx hZ e78 V_b58 (j := (3 : Int32)) (i := 3) ⟨by decide, by decide⟩ rfl (v := (.int ym733)) rfl (g := (mkF m 209 #[.val (.int q1), .val (.int q2), .val (.int q3), .val (.int q4), .val (.ref b58), .val (.ref b63), .val (.int (Int32.ofNat ca1)), .val (.int (Int32.ofNat cb1)), .val (.int (Int32.ofNat ca2)), .val (.int (Int32.ofNat cb2)), .val (.int (Int32.ofNat ca3)), .val (.int (Int32.ofNat cb3)), .val (.int (Int32.ofNat ce)), .val (.int (Int32.ofNat (own_fnd 4 (own_uni (own_uni (own_uni [0, 1, 2, 3] ca1 cb1) ca2 cb2) ca3 cb3) ce).2)), .val (.int (Int32.ofNat (own_fnd 4 (own_fnd 4 (own_uni (own_uni (own_uni [0, 1, 2, 3] ca1 cb1) ca2 cb2) ca3 cb3) ce).1 0).2)), .val (.int (Int32.ofNat (own_fnd 4 (own_fnd 4 (own_fnd 4 (own_uni (own_uni (own_uni [0, 1, 2, 3] ca1 cb1) ca2 cb2) ca3 cb3) ce).1 0).1 1).2)), .val (.int (Int32.ofNat (own_fnd 4 (own_fnd 4 (own_fnd 4 (own_fnd 4 (own_uni (own_uni (own_uni [0, 1, 2, 3] ca1 cb1) ca2 cb2) ca3 cb3) ce).1 0).1 1).1 2).2)), .val (.int (Int32.ofNat (own_fnd 4 (own_fnd 4 (own_fnd 4 (own_fnd 4 (own_fnd 4 (own_uni (own_uni (own_uni [0, 1, 2, 3] ca1 cb1) ca2 cb2) ca3 cb3) ce).1 0).1 1).1 2).1 3).2))] [(.int (3 : Int32)), (.ref b58), (.int (Int32.ofNat (own_fnd 4 (own_fnd 4 (own_fnd 4 (own_fnd 4 (own_fnd 4 (own_uni (own_uni (own_uni [0, 1, 2, 3] ca1 cb1) ca2 cb2) ca3 cb3) ce).1 0).1 1).1 2).1 3).2))])) rfl rfl (hb hby at_209)) ?_
  show own_R _ _ _ _ (T78.setTop (mkF m 210 #[.val (.int q1), .val (.int q2), .val (.int q3), .val (.int q4), .val (.ref b58), .val (.ref b63), .val (.int (Int32.ofNat ca1)), .val (.int (Int32.ofNat cb1)), .val (.int (Int32.ofNat ca2)), .val (.int (Int32.ofNat cb2)), .val (.int (Int32.ofNat ca3)), .val (.int (Int32.ofNat cb3)), .val (.int (Int32.ofNat ce)), .val (.int (Int32.ofNat (own_fnd 4 (own_uni (own_uni (own_uni [0, 1, 2, 3] ca1 cb1) ca2 cb2) ca3 cb3) ce).2)), .val (.int (Int32.ofNat (own_fnd 4 (own_fnd 4 (own_uni (own_uni (own_uni [0, 1, 2, 3] ca1 cb1) ca2 cb2) ca3 cb3) ce).1 0).2)), .val (.int (Int32.ofNat (own_fnd 4 (own_fnd 4 (own_fnd 4 (own_uni (own_uni (own_uni [0, 1, 2, 3] ca1 cb1) ca2 cb2) ca3 cb3) ce).1 0).1 1).2)), .val (.int (Int32.ofNat (own_fnd 4 (own_fnd 4 (own_fnd 4 (own_fnd 4 (own_uni (own_uni (own_uni [0, 1, 2, 3] ca1 cb1) ca2 cb2) ca3 cb3) ce).1 0).1 1).1 2).2)), .val (.int (Int32.ofNat (own_fnd 4 (own_fnd 4 (own_fnd 4 (own_fnd 4 (own_fnd 4 (own_uni (own_uni (own_uni [0, 1, 2, 3] ca1 cb1) ca2 cb2) ca3 cb3) ce).1 0).1 1).1 2).1 3).2))] [(.int ym733), (.int (Int32.ofNat (own_fnd 4 (own_fnd 4 (own_fnd 4 (own_fnd 4 (own_fnd 4 (own_uni (own_uni (own_uni [0, 1, 2, 3] ca1 cb1) ca2 cb2) ca3 cb3) ce).1 0).1 1).1 2).1 3).2))]))
  refine own_go (fun _ kt => XS.icmpNo X78.here hx rfl (hb hby at_210) rfl (teq (r_3.symm)).2 kt) ?_
  show own_R _ _ _ _ (T78.setTop (mkF m 213 #[.val (.int q1), .val (.int q2), .val (.int q3), .val (.int q4), .val (.ref b58), .val (.ref b63), .val (.int (Int32.ofNat ca1)), .val (.int (Int32.ofNat cb1)), .val (.int (Int32.ofNat ca2)), .val (.int (Int32.ofNat cb2)), .val (.int (Int32.ofNat ca3)), .val (.int (Int32.ofNat cb3)), .val (.int (Int32.ofNat ce)), .val (.int (Int32.ofNat (own_fnd 4 (own_uni (own_uni (own_uni [0, 1, 2, 3] ca1 cb1) ca2 cb2) ca3 cb3) ce).2)), .val (.int (Int32.ofNat (own_fnd 4 (own_fnd 4 (own_uni (own_uni (own_uni [0, 1, 2, 3] ca1 cb1) ca2 cb2) ca3 cb3) ce).1 0).2)), .val (.int (Int32.ofNat (own_fnd 4 (own_fnd 4 (own_fnd 4 (own_uni (own_uni (own_uni [0, 1, 2, 3] ca1 cb1) ca2 cb2) ca3 cb3) ce).1 0).1 1).2)), .val (.int (Int32.ofNat (own_fnd 4 (own_fnd 4 (own_fnd 4 (own_fnd 4 (own_uni (own_uni (own_uni [0, 1, 2, 3] ca1 cb1) ca2 cb2) ca3 cb3) ce).1 0).1 1).1 2).2)), .val (.int (Int32.ofNat (own_fnd 4 (own_fnd 4 (own_fnd 4 (own_fnd 4 (own_fnd 4 (own_uni (own_uni (own_uni [0, 1, 2, 3] ca1 cb1) ca2 cb2) ca3 cb3) ce).1 0).1 1).1 2).1 3).2))] []))
  refine own_go (fun _ kt => XS.iconst X78.here hx rfl (hb hby at_213) kt) ?_
  show own_R _ _ _ _ (T78.setTop (mkF m 214 #[.val (.int q1), .val (.int q2), .val (.int q3), .val (.int q4), .val (.ref b58), .val (.ref b63), .val (.int (Int32.ofNat ca1)), .val (.int (Int32.ofNat cb1)), .val (.int (Int32.ofNat ca2)), .val (.int (Int32.ofNat cb2)), .val (.int (Int32.ofNat ca3)), .val (.int (Int32.ofNat cb3)), .val (.int (Int32.ofNat ce)), .val (.int (Int32.ofNat (own_fnd 4 (own_uni (own_uni (own_uni [0, 1, 2, 3] ca1 cb1) ca2 cb2) ca3 cb3) ce).2)), .val (.int (Int32.ofNat (own_fnd 4 (own_fnd 4 (own_uni (own_uni (own_uni [0, 1, 2, 3] ca1 cb1) ca2 cb2) ca3 cb3) ce).1 0).2)), .val (.int (Int32.ofNat (own_fnd 4 (own_fnd 4 (own_fnd 4 (own_uni (own_uni (own_uni [0, 1, 2, 3] ca1 cb1) ca2 cb2) ca3 cb3) ce).1 0).1 1).2)), .val (.int (Int32.ofNat (own_fnd 4 (own_fnd 4 (own_fnd 4 (own_fnd 4 (own_uni (own_uni (own_uni [0, 1, 2, 3] ca1 cb1) ca2 cb2) ca3 cb3) ce).1 0).1 1).1 2).2)), .val (.int (Int32.ofNat (own_fnd 4 (own_fnd 4 (own_fnd 4 (own_fnd 4 (own_fnd 4 (own_uni (own_uni (own_uni [0, 1, 2, 3] ca1 cb1) ca2 cb2) ca3 cb3) ce).1 0).1 1).1 2).1 3).2))] [(.int (1 : Int32))]))
  refine own_go (fun _ kt => XS.goto X78.here hx rfl (pc0 := 214) (pc' := 218) rfl (hb hby at_214) (by decide) (by decide) kt) ?_
  show own_R _ _ _ _ (T78.setTop (mkF m 218 #[.val (.int q1), .val (.int q2), .val (.int q3), .val (.int q4), .val (.ref b58), .val (.ref b63), .val (.int (Int32.ofNat ca1)), .val (.int (Int32.ofNat cb1)), .val (.int (Int32.ofNat ca2)), .val (.int (Int32.ofNat cb2)), .val (.int (Int32.ofNat ca3)), .val (.int (Int32.ofNat cb3)), .val (.int (Int32.ofNat ce)), .val (.int (Int32.ofNat (own_fnd 4 (own_uni (own_uni (own_uni [0, 1, 2, 3] ca1 cb1) ca2 cb2) ca3 cb3) ce).2)), .val (.int (Int32.ofNat (own_fnd 4 (own_fnd 4 (own_uni (own_uni (own_uni [0, 1, 2, 3] ca1 cb1) ca2 cb2) ca3 cb3) ce).1 0).2)), .val (.int (Int32.ofNat (own_fnd 4 (own_fnd 4 (own_fnd 4 (own_uni (own_uni (own_uni [0, 1, 2, 3] ca1 cb1) ca2 cb2) ca3 cb3) ce).1 0).1 1).2)), .val (.int (Int32.ofNat (own_fnd 4 (own_fnd 4 (own_fnd 4 (own_fnd 4 (own_uni (own_uni (own_uni [0, 1, 2, 3] ca1 cb1) ca2 cb2) ca3 cb3) ce).1 0).1 1).1 2).2)), .val (.int (Int32.ofNat (own_fnd 4 (own_fnd 4 (own_fnd 4 (own_fnd 4 (own_fnd 4 (own_uni (own_uni (own_uni [0, 1, 2, 3] ca1 cb1) ca2 cb2) ca3 cb3) ce).1 0).1 1).1 2).1 3).2))] [(.int (1 : Int32))]))
  exact own_retN X78 hx (t := .boolean) (by simp) Bd.returns (hb hby at_218) hlk ⟨rfl, NF⟩ (by decide) (by decide)
set_option maxRecDepth 65536 in
set_option maxHeartbeats 40000000 in
theorem comes_1 {Post : Tables → Env → Array Value → State → Outcome → State → Prop} (hpost : ∀ tb e args s v u, (limb_1_1.after args s (.returned v) u = true ∧ limb_1_2.after args s (.returned v) u = true ∧ True) → FrameEnd s (.returned v) u (Jvm.fieldLocs frame_1_writes args s ++ Jvm.arrayLocs frame_1_arrays args s ++ Jvm.staticLocs frame_1_statics s) 16 128 → Post tb e args s (.returned v) u) :
    ArmFor flags0 classFile x code maxLocals ret World_1 tables_1 room_1 Calls_1 rest_1 Pre_1 Post := by
  intro l hfl _ _ p e ha hc hk s m args below hf hA hF happ hP
  obtain ⟨hcalls, hrest, hpre⟩ := hP
  obtain ⟨-, -, -, hnamed, -, -, -, hat⟩ := (Spec.applies_iff hf).mp happ
  obtain ⟨hg, hn⟩ := and_e (Cond.before_iff.mp (show (Jvm.Cond.and given_1 narrow_1).before args s = true from hpre))
  obtain ⟨g1, g2⟩ := and_e hg
  obtain ⟨g3, g4⟩ := and_e g2
  obtain ⟨g5, g6⟩ := and_e g4
  obtain ⟨g7, g8⟩ := and_e g6
  obtain ⟨w0, w1, w2, w3, rfl⟩ : ∃ w0 w1 w2 w3 : Value, args = #[w0, w1, w2, w3] := by
    have hs : args.size = 4 := by simpa [Cond.value, given_1] using g1
    obtain ⟨L⟩ := args
    match L, hs with
    | [w0, w1, w2, w3], _ => exact ⟨w0, w1, w2, w3, rfl⟩
  have hw := fun d (hd : d ∈ tables_1) => atoms_spec (ws := Jvm.Cond.code x code maxLocals ret :: tables_1) hat d (List.mem_cons_of_mem _ hd)
  have hfit : Fit s := fun {y c} hc i hi => by
    obtain ⟨ha, rfl⟩ := Array.getElem?_eq_some_iff.mp hc
    have q := List.all_eq_true.mp ((Array.all_eq_true_iff_forall_mem.mp hF) _ (Array.getElem_mem ha)) i (List.mem_range.mpr hi)
    simpa [Array.getElem?_eq_getElem hi] using q
  obtain ⟨i0, ei0⟩ := is_v g3
  obtain rfl : w0 = (.int i0) := Option.some.inj ei0
  obtain ⟨i1, ei1⟩ := is_v g5
  obtain rfl : w1 = (.int i1) := Option.some.inj ei1
  obtain ⟨i2, ei2⟩ := is_v g7
  obtain rfl : w2 = (.int i2) := Option.some.inj ei2
  obtain ⟨i3, ei3⟩ := is_v g8
  obtain rfl : w3 = (.int i3) := Option.some.inj ei3
  obtain ⟨n, o, h1, h2, h3, _, L, rfl, ⟨rfl, N⟩, hq⟩ := rm0 l s _ hw tables_1 i0 i1 i2 i3 s.heap s.heap.size (Nat.le_refl _) p e ha hc hk s m _ below hf ((Spec.applies_iff_loose hf).mp happ).1 ⟨rfl, State.Warmed39.refl s, rfl⟩ trivial
  refine ⟨n, _, h1, h2, h3, hpost _ _ _ _ _ _ ⟨Cond.after_iff.mpr rfl, Cond.after_iff.mpr (eq_i res_at (Term.int_eval (1)) rfl), trivial⟩ ⟨hq.1, hq.2.1, (hq.2.2.sift fun y hy => Or.inr (N y hy)).mono (by decide) (by decide)⟩⟩
theorem main_1_1 : Claimed_1_1 := comes_1 fun _ _ _ _ _ _ h hF => ⟨h.1, hF⟩
theorem main_1_2 : Claimed_1_2 := comes_1 fun _ _ _ _ _ _ h hF => ⟨h.2.1, hF⟩
end Jvm.Pilot.@@N@@
namespace Jvm.Pilot.@@N@@
open Jvm Jvm.ClassFile Sem Op Lib Jvm.Free Jvm.Stand Jvm.Pilot.@@N@@.Jvm.D
/-! MADE BY PROGRAM (witnessworld.py) out of the Statement's table words and the real class files: 10 classes; the members and pool entries that the words name. The judged class is class 1, her method 2. -/
namespace start1
open Jvm.ClassFile
def u (s : String) : CpInfo := .utf8 (stringToUtf16 s)
/-- a pool by its gaps: so many unusable entries, then the entry; so many at the end -/
def gap : Nat → List CpInfo → List CpInfo
  | 0, r => r
  | n + 1, r => .unusable :: gap n r
def poolList (es : List (Nat × CpInfo)) (last : Nat) : List CpInfo := es.foldr (fun e r => gap e.1 (e.2 :: r)) (gap last [])
def pool (es : List (Nat × CpInfo)) (last : Nat) : Array CpInfo := ⟨poolList es last⟩
def fileOf (pool : Array CpInfo) (this : Nat) (attrs : Array Attribute := #[]) (ms : Array MethodInfo := #[]) (fl : Nat := 33) (sup : Nat := 0) (ifs : Array Nat := #[]) (fds : Array FieldInfo := #[]) : ClassFile where
  minorVersion := 0
  majorVersion := 65
  constantPool := pool
  accessFlags := fl
  thisClass := this
  superClass := sup
  interfaces := ifs
  fields := fds
  methods := ms
  attributes := attrs
def plain (name : String) (sup : Option ClassId) : Class where
  name := name
  kind := .ordinary
  loader := none
  accessFlags := 33
  super := sup
  interfaces := #[]
  cf := none
  fields := #[]
  methods := #[]
  instanceTypes := #[]
  staticTypes := #[]
  resolved := #[]
  callSites := []
  init := .initialized
  statics := none
  mirror := none

def pool0 : Array CpInfo := pool [(5, u "<init>"), (0, u "()V"), (1, .class_ 10), (1, u "java/lang/Object")] 113

def k0c0 : Code := { maxStack := 0, maxLocals := 1, code := object_method_1_code, exceptionTable := #[], attributes := #[] }
def k0m0 : Method := { name := "<init>", desc := "()V", sig := { parameters := [], returnType := none }, accessFlags := 1, code := some k0c0 }
/-- java/lang/Object -/
def k0 : Class := { plain "java/lang/Object" none with
  accessFlags := 33
  interfaces := #[]
  cf := some (fileOf pool0 8 #[] #[{ accessFlags := 1, nameIndex := 5, descriptorIndex := 6, attributes := #[] }] 33 0 #[] #[])
  fields := #[]
  methods := #[k0m0]
  instanceTypes := #[]
  staticTypes := #[]
  resolved := Array.replicate 124 none
  statics := none }

def pool1 : Array CpInfo := pool [(2, .class_ 4), (1, u "java/lang/Object"), (0, u "<init>"), (0, u "()V"), (0, .methodref 8 9), (0, .class_ 10), (0, .nameAndType 11 12), (0, u "java/lang/Math"), (0, u "min"), (0, u "(II)I"), (0, .methodref 8 14), (0, .nameAndType 15 12), (0, u "max"), (0, .class_ 17), (0, u "com/example/clearlot/clearlot/program/DisjointSets"), (0, .methodref 16 19), (0, .nameAndType 5 20), (0, u "(I)V"), (0, .methodref 16 22), (0, .nameAndType 23 24), (0, u "union"), (0, u "(II)V"), (0, .methodref 26 27), (0, .class_ 28), (0, .nameAndType 29 30), (0, u "com/example/clearlot/clearlot/program/DisjointSetsFindPinLaw"), (0, u "merge"), (0, u "([III)V"), (0, .methodref 16 32), (0, .nameAndType 33 34), (0, u "find"), (0, u "(I)I"), (5, u "law"), (0, u "(IIII)Z")] 2

def k1m0 : Method := { name := "<init>", desc := "()V", sig := { parameters := [], returnType := none }, accessFlags := 1, code := none }
def k1c1 : Code := { maxStack := 3, maxLocals := 7, code := method_2_code, exceptionTable := #[], attributes := #[] }
def k1m1 : Method := { name := "merge", desc := "([III)V", sig := { parameters := [(.array .int), .int, .int], returnType := none }, accessFlags := 10, code := some k1c1 }
def k1c2 : Code := { maxStack := 4, maxLocals := 18, code := code, exceptionTable := #[], attributes := #[] }
def k1m2 : Method := { name := "law", desc := "(IIII)Z", sig := { parameters := [.int, .int, .int, .int], returnType := some .boolean }, accessFlags := 9, code := some k1c2 }
/-- com/example/clearlot/clearlot/program/DisjointSetsFindPinLaw -/
def k1 : Class := { plain "com/example/clearlot/clearlot/program/DisjointSetsFindPinLaw" (some 0) with
  accessFlags := 49
  interfaces := #[]
  cf := some (fileOf pool1 26 #[] #[{ accessFlags := 1, nameIndex := 5, descriptorIndex := 6, attributes := #[] }, { accessFlags := 10, nameIndex := 29, descriptorIndex := 30, attributes := #[] }, { accessFlags := 9, nameIndex := 40, descriptorIndex := 41, attributes := #[] }] 49 2 #[] #[])
  fields := #[]
  methods := #[k1m0, k1m1, k1m2]
  instanceTypes := #[]
  staticTypes := #[]
  resolved := Array.replicate 44 none
  statics := none }

def pool2 : Array CpInfo := pool [(1, .methodref 2 3), (0, .class_ 4), (0, .nameAndType 5 6), (0, u "java/lang/Object"), (0, u "<init>"), (0, u "()V"), (0, .fieldref 8 9), (0, .class_ 10), (0, .nameAndType 11 12), (0, u "com/example/clearlot/clearlot/program/DisjointSets"), (0, u "parent"), (0, u "[I"), (0, .methodref 8 14), (0, .nameAndType 15 16), (0, u "find"), (0, u "(I)I"), (0, .methodref 18 19), (0, .class_ 20), (0, .nameAndType 21 22), (0, u "java/lang/Math"), (0, u "max"), (0, u "(II)I"), (0, .methodref 18 24), (0, .nameAndType 25 22), (0, u "min"), (0, u "(I)V"), (3, u "union"), (0, u "(II)V")] 2

def k2c0 : Code := { maxStack := 3, maxLocals := 3, code := prog_43_method_1_code, exceptionTable := #[], attributes := #[] }
def k2m0 : Method := { name := "<init>", desc := "(I)V", sig := { parameters := [.int], returnType := none }, accessFlags := 1, code := some k2c0 }
def k2c1 : Code := { maxStack := 5, maxLocals := 3, code := prog_43_method_2_code, exceptionTable := #[], attributes := #[] }
def k2m1 : Method := { name := "find", desc := "(I)I", sig := { parameters := [.int], returnType := some .int }, accessFlags := 1, code := some k2c1 }
def k2c2 : Code := { maxStack := 4, maxLocals := 5, code := prog_43_method_3_code, exceptionTable := #[], attributes := #[] }
def k2m2 : Method := { name := "union", desc := "(II)V", sig := { parameters := [.int, .int], returnType := none }, accessFlags := 1, code := some k2c2 }
/-- com/example/clearlot/clearlot/program/DisjointSets -/
def k2 : Class := { plain "com/example/clearlot/clearlot/program/DisjointSets" (some 0) with
  accessFlags := 49
  interfaces := #[]
  cf := some (fileOf pool2 8 #[] #[{ accessFlags := 1, nameIndex := 5, descriptorIndex := 26, attributes := #[] }, { accessFlags := 1, nameIndex := 15, descriptorIndex := 16, attributes := #[] }, { accessFlags := 1, nameIndex := 30, descriptorIndex := 31, attributes := #[] }] 49 2 #[] #[{ accessFlags := 18, nameIndex := 11, descriptorIndex := 12, attributes := #[] }])
  fields := #[{ name := "parent", type := (.array .int), accessFlags := 18, slot := 0, constantValue := 0 }]
  methods := #[k2m0, k2m1, k2m2]
  instanceTypes := #[(.array .int)]
  staticTypes := #[]
  resolved := Array.replicate 34 none
  statics := none }

def pool3 : Array CpInfo := pool [(1, .class_ 2), (0, u "java/lang/Math"), (1, .class_ 6), (1, u "java/lang/Object"), (0, u "<init>"), (0, u "()V"), (89, .class_ 100), (1, u "java/lang/Math$RandomNumberGeneratorHolder"), (71, u "negativeZeroFloatBits"), (0, u "J"), (2, u "negativeZeroDoubleBits"), (21, u "max"), (2, u "min"), (43, u "$assertionsDisabled"), (0, u "Z"), (88, u "(II)I"), (2, u "twoToTheDoubleScaleDown"), (0, u "D"), (4, u "twoToTheDoubleScaleUp"), (9, u "E"), (3, u "PI"), (2, u "TAU"), (2, u "DEGREES_TO_RADIANS"), (0, u "RADIANS_TO_DEGREES")] 94

def k3m0 : Method := { name := "<init>", desc := "()V", sig := { parameters := [], returnType := none }, accessFlags := 2, code := none }
def k3c1 : Code := { maxStack := 2, maxLocals := 2, code := jdk_29_method_65_code, exceptionTable := #[], attributes := #[] }
def k3m1 : Method := { name := "max", desc := "(II)I", sig := { parameters := [.int, .int], returnType := some .int }, accessFlags := 9, code := some k3c1 }
def k3c2 : Code := { maxStack := 2, maxLocals := 2, code := jdk_29_method_69_code, exceptionTable := #[], attributes := #[] }
def k3m2 : Method := { name := "min", desc := "(II)I", sig := { parameters := [.int, .int], returnType := some .int }, accessFlags := 9, code := some k3c2 }
/-- java/lang/Math -/
def k3 : Class := { plain "java/lang/Math" (some 0) with
  accessFlags := 49
  interfaces := #[]
  cf := some (fileOf pool3 1 #[.nestMembers #[98]] #[{ accessFlags := 2, nameIndex := 7, descriptorIndex := 8, attributes := #[] }, { accessFlags := 9, nameIndex := 198, descriptorIndex := 335, attributes := #[] }, { accessFlags := 9, nameIndex := 201, descriptorIndex := 335, attributes := #[] }] 49 4 #[] #[{ accessFlags := 25, nameIndex := 354, descriptorIndex := 339, attributes := #[] }, { accessFlags := 25, nameIndex := 358, descriptorIndex := 339, attributes := #[] }, { accessFlags := 25, nameIndex := 361, descriptorIndex := 339, attributes := #[] }, { accessFlags := 26, nameIndex := 364, descriptorIndex := 339, attributes := #[] }, { accessFlags := 26, nameIndex := 365, descriptorIndex := 339, attributes := #[] }, { accessFlags := 26, nameIndex := 172, descriptorIndex := 173, attributes := #[] }, { accessFlags := 26, nameIndex := 176, descriptorIndex := 173, attributes := #[] }, { accessFlags := 8, nameIndex := 344, descriptorIndex := 339, attributes := #[] }, { accessFlags := 8, nameIndex := 338, descriptorIndex := 339, attributes := #[] }, { accessFlags := 4120, nameIndex := 245, descriptorIndex := 246, attributes := #[] }])
  fields := #[{ name := "E", type := .double, accessFlags := 25, slot := 0, constantValue := 0 }, { name := "PI", type := .double, accessFlags := 25, slot := 1, constantValue := 0 }, { name := "TAU", type := .double, accessFlags := 25, slot := 2, constantValue := 0 }, { name := "DEGREES_TO_RADIANS", type := .double, accessFlags := 26, slot := 3, constantValue := 0 }, { name := "RADIANS_TO_DEGREES", type := .double, accessFlags := 26, slot := 4, constantValue := 0 }, { name := "negativeZeroFloatBits", type := .long, accessFlags := 26, slot := 5, constantValue := 0 }, { name := "negativeZeroDoubleBits", type := .long, accessFlags := 26, slot := 6, constantValue := 0 }, { name := "twoToTheDoubleScaleUp", type := .double, accessFlags := 8, slot := 7, constantValue := 0 }, { name := "twoToTheDoubleScaleDown", type := .double, accessFlags := 8, slot := 8, constantValue := 0 }, { name := "$assertionsDisabled", type := .boolean, accessFlags := 4120, slot := 9, constantValue := 0 }]
  methods := #[k3m0, k3m1, k3m2]
  instanceTypes := #[]
  staticTypes := #[.double, .double, .double, .double, .double, .long, .long, .double, .double, .boolean]
  resolved := Array.replicate 460 none
  statics := none }

def pool4 : Array CpInfo := pool [(1, u "java/lang/Cloneable"), (0, .class_ 1), (0, u "java/lang/Object"), (0, .class_ 3)] 3

/-- java/lang/Cloneable -/
def k4 : Class := { plain "java/lang/Cloneable" (some 0) with
  accessFlags := 1537
  interfaces := #[]
  cf := some (fileOf pool4 2 #[] #[] 1537 4 #[] #[])
  fields := #[]
  methods := #[]
  instanceTypes := #[]
  staticTypes := #[]
  resolved := Array.replicate 8 none
  statics := none }

def pool5 : Array CpInfo := pool [(1, u "java/io/Serializable"), (0, .class_ 1), (0, u "java/lang/Object"), (0, .class_ 3)] 3

/-- java/io/Serializable -/
def k5 : Class := { plain "java/io/Serializable" (some 0) with
  accessFlags := 1537
  interfaces := #[]
  cf := some (fileOf pool5 2 #[] #[] 1537 4 #[] #[])
  fields := #[]
  methods := #[]
  instanceTypes := #[]
  staticTypes := #[]
  resolved := Array.replicate 8 none
  statics := none }

/-- the primitive byte -/
def k6 : Class := { plain "byte" none with kind := .primitive 'B', accessFlags := 0x411 }
/-- [B -/
def k7 : Class := { plain "[B" (some 0) with kind := .array 6 .byte, interfaces := #[4, 5], accessFlags := 1041 }

/-- the primitive int -/
def k8 : Class := { plain "int" none with kind := .primitive 'I', accessFlags := 0x411 }
/-- [I -/
def k9 : Class := { plain "[I" (some 0) with kind := .array 8 .int, interfaces := #[4, 5], accessFlags := 1041 }

def heap : Heap := #[]
def classes : Array Class := #[k0, k1, k2, k3, k4, k5, k6, k7, k8, k9]
def interned : List (Array UInt16 × Addr) := []
def slotsUsed : Nat := 0
def theMethod : MethodId := ⟨1, 2⟩
def args0 : Array Value := #[.int 5, .int 5, .int 5, .int 5]
def aboutOver (below : List Frame) : State where
  vm := { classes := classes, interned := interned.toArray }
  heap := heap
  slotsUsed := slotsUsed
  threads := #[{ frames := .invoking theMethod args0 :: below }]
def below0 : List Frame := [.native { method := ⟨0, 0⟩, args := #[] }]
def about1 : State := aboutOver below0
def p0 : Program := .bare "" "" ""
def e0 : Env := launch0.env 0 0 0
theorem w_frames : about1.frames = Frame.invoking theMethod args0 :: below0 := rfl
set_option maxRecDepth 65536 in
theorem w_args : argsFit about1.vm theMethod args0 = true := by decide +kernel
set_option maxRecDepth 65536 in
theorem w_heap : heapFits about1 = true := by decide +kernel
set_option maxRecDepth 65536 in
theorem w_runnable : about1.curStatus? = some .runnable := by decide +kernel
set_option maxRecDepth 65536 in
theorem w_alone : about1.alone = true := by decide +kernel
set_option maxRecDepth 65536 in
theorem w_named : about1.methodNamed? x = some theMethod := by decide +kernel
set_option maxRecDepth 65536 in
theorem w_hears : about1.hears theMethod below0 = true := by decide +kernel
set_option maxRecDepth 65536 in
theorem w_ripe : about1.ripe theMethod args0 below0 = true := by decide +kernel
theorem w_running : about1.status = .running := rfl
set_option maxRecDepth 65536 in
theorem w_room : about1.hasRoom e0.platform room_1 = true :=
  launch0.hasRoom_least _ room_1 (by decide +kernel) (by decide +kernel) (by decide +kernel) (by decide +kernel) (by decide +kernel) (by decide +kernel)
theorem allAtoms_all (ts : List Jvm.Cond) (a : Array Jvm.Value) (st : Jvm.State) : (allAtoms ts).before a st = ts.all (fun c => c.before a st) := by
  induction ts with
  | nil => rfl
  | cons c t ih =>
    show (Jvm.Cond.and c (allAtoms t)).before a st = _
    rw [Jvm.Cond.before_and, ih, List.all_cons]
def words1 : List Jvm.Cond := Jvm.Cond.code x code maxLocals ret :: tables_1
/-- a 'code' word, met by the world's own term for the bytes: nothing is compared byte by byte -/
theorem code_word {y : MethodName} {bytes : ByteArray} {mx : Nat} {rt : Option FieldType} {a : Array Value} {s : State} {m : MethodId} {meth : Method} {c : Code} (h1 : s.methodNamed? y = some m) (h2 : s.vm.method? m = some meth) (h3 : meth.code = some c) (h4 : c.code = bytes)
    (h5 : (c.maxLocals == mx && c.exceptionTable.isEmpty && decide (c.maxStack ≤ mostOperands) && decide (meth.sig.returnType = rt) && !meth.locks && decide (parseMethodDescriptor y.desc = some meth.sig)) = true) : (Jvm.Cond.code y bytes mx rt).before a s = true := by
  simp only [Bool.and_eq_true, beq_iff_eq, Bool.not_eq_true', decide_eq_true_eq] at h5
  obtain ⟨⟨⟨⟨⟨g1, g2⟩, g3⟩, g4⟩, g5⟩, g6⟩ := h5
  simp [Cond.before, Cond.holds, Cond.value, h1, h2, h3, h4, g1, g2, g3, g4, g5, g6]
def isCode : Jvm.Cond → Bool
  | .code _ _ _ _ => true
  | _ => false
theorem all_split {L : List Jvm.Cond} {P : Jvm.Cond → Bool} (h1 : L.all (fun c => isCode c || P c) = true) (h2 : ∀ c ∈ L.filter isCode, P c = true) : L.all P = true := by
  refine List.all_eq_true.mpr fun c hc => ?_
  have h := List.all_eq_true.mp h1 c hc
  rcases Bool.eq_false_or_eq_true (isCode c) with hi | hi
  · exact h2 c (List.mem_filter.mpr ⟨hc, hi⟩)
  · simpa [hi] using h
set_option maxRecDepth 65536 in
theorem w_c0 : (Jvm.Cond.code x code maxLocals ret).before args0 about1 = true := code_word (m := ⟨1, 2⟩) (meth := k1m2) (c := k1c2) (by decide +kernel) rfl rfl rfl (by decide +kernel)
set_option maxRecDepth 65536 in
theorem w_c1 : (Jvm.Cond.code ({ cls := "com/example/clearlot/clearlot/program/DisjointSets", name := "<init>", desc := "(I)V" } : Jvm.MethodName) prog_43_method_1_code (3 : Nat) (Option.none : Option Jvm.ClassFile.FieldType)).before args0 about1 = true := code_word (m := ⟨2, 0⟩) (meth := k2m0) (c := k2c0) (by decide +kernel) rfl rfl rfl (by decide +kernel)
set_option maxRecDepth 65536 in
theorem w_c2 : (Jvm.Cond.code ({ cls := "java/lang/Object", name := "<init>", desc := "()V" } : Jvm.MethodName) object_method_1_code (1 : Nat) (Option.none : Option Jvm.ClassFile.FieldType)).before args0 about1 = true := code_word (m := ⟨0, 0⟩) (meth := k0m0) (c := k0c0) (by decide +kernel) rfl rfl rfl (by decide +kernel)
set_option maxRecDepth 65536 in
theorem w_c3 : (Jvm.Cond.code ({ cls := "com/example/clearlot/clearlot/program/DisjointSets", name := "union", desc := "(II)V" } : Jvm.MethodName) prog_43_method_3_code (5 : Nat) (Option.none : Option Jvm.ClassFile.FieldType)).before args0 about1 = true := code_word (m := ⟨2, 2⟩) (meth := k2m2) (c := k2c2) (by decide +kernel) rfl rfl rfl (by decide +kernel)
set_option maxRecDepth 65536 in
theorem w_c4 : (Jvm.Cond.code ({ cls := "com/example/clearlot/clearlot/program/DisjointSets", name := "find", desc := "(I)I" } : Jvm.MethodName) prog_43_method_2_code (3 : Nat) (Option.some Jvm.ClassFile.FieldType.int)).before args0 about1 = true := code_word (m := ⟨2, 1⟩) (meth := k2m1) (c := k2c1) (by decide +kernel) rfl rfl rfl (by decide +kernel)
set_option maxRecDepth 65536 in
theorem w_c5 : (Jvm.Cond.code ({ cls := "com/example/clearlot/clearlot/program/DisjointSetsFindPinLaw", name := "merge", desc := "([III)V" } : Jvm.MethodName) method_2_code (7 : Nat) (Option.none : Option Jvm.ClassFile.FieldType)).before args0 about1 = true := code_word (m := ⟨1, 1⟩) (meth := k1m1) (c := k1c1) (by decide +kernel) rfl rfl rfl (by decide +kernel)
set_option maxRecDepth 65536 in
theorem w_c6 : (Jvm.Cond.code ({ cls := "java/lang/Math", name := "min", desc := "(II)I" } : Jvm.MethodName) jdk_29_method_69_code (2 : Nat) (Option.some Jvm.ClassFile.FieldType.int)).before args0 about1 = true := code_word (m := ⟨3, 2⟩) (meth := k3m2) (c := k3c2) (by decide +kernel) rfl rfl rfl (by decide +kernel)
set_option maxRecDepth 65536 in
theorem w_c7 : (Jvm.Cond.code ({ cls := "java/lang/Math", name := "max", desc := "(II)I" } : Jvm.MethodName) jdk_29_method_65_code (2 : Nat) (Option.some Jvm.ClassFile.FieldType.int)).before args0 about1 = true := code_word (m := ⟨3, 1⟩) (meth := k3m1) (c := k3c1) (by decide +kernel) rfl rfl rfl (by decide +kernel)
def codes1 : List Jvm.Cond := [Jvm.Cond.code x code maxLocals ret, Jvm.Cond.code ({ cls := "com/example/clearlot/clearlot/program/DisjointSets", name := "<init>", desc := "(I)V" } : Jvm.MethodName) prog_43_method_1_code (3 : Nat) (Option.none : Option Jvm.ClassFile.FieldType), Jvm.Cond.code ({ cls := "java/lang/Object", name := "<init>", desc := "()V" } : Jvm.MethodName) object_method_1_code (1 : Nat) (Option.none : Option Jvm.ClassFile.FieldType), Jvm.Cond.code ({ cls := "com/example/clearlot/clearlot/program/DisjointSets", name := "union", desc := "(II)V" } : Jvm.MethodName) prog_43_method_3_code (5 : Nat) (Option.none : Option Jvm.ClassFile.FieldType), Jvm.Cond.code ({ cls := "com/example/clearlot/clearlot/program/DisjointSets", name := "find", desc := "(I)I" } : Jvm.MethodName) prog_43_method_2_code (3 : Nat) (Option.some Jvm.ClassFile.FieldType.int), Jvm.Cond.code ({ cls := "com/example/clearlot/clearlot/program/DisjointSetsFindPinLaw", name := "merge", desc := "([III)V" } : Jvm.MethodName) method_2_code (7 : Nat) (Option.none : Option Jvm.ClassFile.FieldType), Jvm.Cond.code ({ cls := "java/lang/Math", name := "min", desc := "(II)I" } : Jvm.MethodName) jdk_29_method_69_code (2 : Nat) (Option.some Jvm.ClassFile.FieldType.int), Jvm.Cond.code ({ cls := "java/lang/Math", name := "max", desc := "(II)I" } : Jvm.MethodName) jdk_29_method_65_code (2 : Nat) (Option.some Jvm.ClassFile.FieldType.int)]
set_option maxRecDepth 65536 in
theorem codes_eq : words1.filter isCode = codes1 := rfl
theorem w_codes : ∀ c ∈ words1.filter isCode, c.before args0 about1 = true := by
  rw [codes_eq]
  intro c hc
  simp only [codes1, List.mem_cons, List.not_mem_nil, or_false] at hc
  rcases hc with rfl | rfl | rfl | rfl | rfl | rfl | rfl | rfl
  · exact w_c0
  · exact w_c1
  · exact w_c2
  · exact w_c3
  · exact w_c4
  · exact w_c5
  · exact w_c6
  · exact w_c7
set_option maxRecDepth 65536 in
theorem w_t1 : (words1.take 24).all (fun c => isCode c || c.before args0 about1) = true := by decide +kernel
set_option maxRecDepth 65536 in
theorem w_t2 : (words1.drop 24).all (fun c => isCode c || c.before args0 about1) = true := by decide +kernel
theorem w_tables : (allAtoms (Jvm.Cond.code x code maxLocals ret :: tables_1)).before args0 about1 = true := by
  rw [allAtoms_all]
  show words1.all (fun c => c.before args0 about1) = true
  refine all_split ?_ w_codes
  rw [← List.take_append_drop 24 words1, List.all_append, w_t1, w_t2]
  rfl
set_option maxRecDepth 65536 in
theorem w_case : (Jvm.Cond.and given_1 narrow_1).before args0 about1 = true := by decide +kernel
theorem w_applies : (headSpec (Jvm.Cond.code x code maxLocals ret :: tables_1) room_1).applies x e0.platform about1 = true :=
  (Spec.applies_iff w_frames).mpr ⟨w_running, w_runnable, w_alone, w_named, w_hears, w_ripe, w_room, w_tables⟩
theorem atStart : AtStart classFile x code maxLocals ret World_1 tables_1 room_1 Calls_1 rest_1 Pre_1 launch0 p0 e0 about1 theMethod args0 below0 :=
  ⟨lists_1, trivial, launch0.admits_env _ _ _, launch0.least_env, fairChoices_fair.cas, fairChoices_fair.clock, w_frames, w_args, w_heap, w_applies, trivial, trivial, w_case⟩
end start1
theorem witness_1 : WitnessClaimed_1 := ⟨start1.p0, start1.e0, start1.about1, start1.theMethod, start1.args0, start1.below0, start1.atStart⟩
end Jvm.Pilot.@@N@@
