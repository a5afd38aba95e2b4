import JvmDerived
import JvmDerived.Pilot.@@N@@Statement
import JvmDerived.Pilot.@@N@@Code
set_option linter.unusedVariables false
set_option linter.unusedSimpArgs false
namespace Jvm.RoadKit
open Sem ClassFile Op Lib Jvm.Stand Jvm.Free Jvm.LawKit
/-- from T the run comes to a state of which Φ holds -/
def own_R (tb : Tables) (e : Env) (below : List Frame) (Φ : State → Prop) (T : State) : Prop := ∃ T', Φ T' ∧ ∀ t, Steps tb e below T' t → Steps tb e below T t
theorem own_leaf {tb : Tables} {e : Env} {below : List Frame} {Φ : State → Prop} {T : State} (h : Φ T) : own_R tb e below Φ T := ⟨T, h, fun _ k => k⟩
theorem own_go {tb : Tables} {e : Env} {below : List Frame} {Φ : State → Prop} {T T1 : State} (h : ∀ t, Steps tb e below T1 t → Steps tb e below T t) (g : own_R tb e below Φ T1) : own_R tb e below Φ T := by
  obtain ⟨T', h1, h2⟩ := g
  exact ⟨T', h1, fun t k => h t (h2 t k)⟩
theorem own_to {tb : Tables} {e : Env} {below : List Frame} {Φ Ψ : State → Prop} {T : State} (h : own_R tb e below Φ T) (g : ∀ U, Φ U → own_R tb e below Ψ U) : own_R tb e below Ψ T := by
  obtain ⟨T', h1, h2⟩ := h
  exact own_go h2 (g T' h1)
/-- the call has come to its end: what it returns and leaves -/
def own_F (below : List Frame) (s : State) (Q : Option Value → Heap → List Loc → Prop) (rc rs : Nat) (U : State) : Prop := U.status = .running ∧ ∃ v L, Ended U below (.returned v) ∧ Q v U.heap L ∧ FrameEnd s (.returned v) U L rc rs
theorem own_fin {tb : Tables} {e : Env} {below : List Frame} {s : State} {Q : Option Value → Heap → List Loc → Prop} {rc rs : Nat} {T : State} (h : own_R tb e below (own_F below s Q rc rs) T) :
    ∃ s₂ o, Steps tb e below T s₂ ∧ s₂.status = .running ∧ Ended s₂ below o ∧ ∃ v L, o = .returned v ∧ Q v s₂.heap L ∧ FrameEnd s o s₂ L rc rs := by
  obtain ⟨T', ⟨h1, v, L, h2, h3, h4⟩, h5⟩ := h
  exact ⟨T', .returned v, h5 _ (Steps.refl _), h1, h2, v, L, rfl, h3, h4⟩
section New
variable {p : Program} {l : Launch} {e : Env} {R : Room} {s : State} {m : MethodId} {args : Array Value} {below : List Frame} {meth : Method} {c : Code} {T : State} {locs : List Loc} {cells slots : Nat}
theorem retI (X : Stand p l e R s m args below meth c T locs cells slots) (hx : p.tables.exec = Jvm.exec) {pc : Nat} {Ls : Array Slot} {z : Int32} {rest : List Value} (hret : meth.sig.returnType = some .int) (hd : decode c.code pc = .ok (.ireturn, 1)) {fs : List Frame}
    (hl : ∀ (f : JFrame) (acts : List Action), f.method = m → f.locked = none → f.entered = [] → (doReturn e (T.setTop f) acts (some (.int z))).1 = T.setFrames fs) : Steps p.tables e below (T.setTop (mkF m pc Ls (.int z :: rest))) (T.setFrames fs) := by
  have hm' : T.vm.method? m = some meth := X.method'
  have hn : narrow .int (.int z) = .int z := rfl
  show Steps p.tables e below (T.setTop { method := m, pc := pc, locals := Ls, stack := _ :: rest, locked := none }) _
  jvm_step X.here [X.here.top, hx, hd, hm', hret, hn]
  first | (intro acts; rw [hl _ acts rfl rfl rfl]) | rw [hl _ _ rfl rfl rfl]
  exact Steps.refl _
variable {Q : Option Value → Heap → List Loc → Prop} {rc rs : Nat}
theorem own_end (X : Stand p l e R s m args below meth c T locs cells slots) (hlk : meth.locks = false) {v : Option Value} (hv : meth.sig.returnType = none → v = none) (hQ : Q v T.heap locs) (hc : cells ≤ rc) (hs : slots ≤ rs) {g : JFrame}
    (hst : ∀ fs, (∀ (f : JFrame) (acts : List Action), f.method = m → f.locked = none → f.entered = [] → (doReturn e (T.setTop f) acts v).1 = T.setFrames fs) → Steps p.tables e below (T.setTop g) (T.setFrames fs)) : own_R p.tables e below (own_F below s Q rc rs) (T.setTop g) := by
  obtain ⟨fs, hr, hrun, hended, hW, hsame⟩ := X.leave hv hlk
  exact ⟨T.setFrames fs, ⟨hrun, v, locs, hended, hQ, ⟨_, rfl⟩, hW, hsame.mono hc hs⟩, fun t k => (hst fs hr).trans k⟩
theorem own_ret0 (X : Stand p l e R s m args below meth c T locs cells slots) (hx : p.tables.exec = Jvm.exec) {pc : Nat} {Ls : Array Slot} (hret : meth.sig.returnType = none) (hd : decode c.code pc = .ok (.return_, 1)) (hlk : meth.locks = false) (hQ : Q none T.heap locs) (hc : cells ≤ rc) (hs : slots ≤ rs) :
    own_R p.tables e below (own_F below s Q rc rs) (T.setTop (mkF m pc Ls [])) := own_end X hlk (fun _ => rfl) hQ hc hs fun _ hr => X.returnOut hx hret hd hr
theorem own_retI (X : Stand p l e R s m args below meth c T locs cells slots) (hx : p.tables.exec = Jvm.exec) {pc : Nat} {Ls : Array Slot} {z : Int32} {rest : List Value} (hret : meth.sig.returnType = some .int) (hd : decode c.code pc = .ok (.ireturn, 1)) (hlk : meth.locks = false) (hQ : Q (some (.int z)) T.heap locs) (hc : cells ≤ rc) (hs : slots ≤ rs) :
    own_R p.tables e below (own_F below s Q rc rs) (T.setTop (mkF m pc Ls (.int z :: rest))) := own_end X hlk (fun h => by rw [hret] at h; cases h) hQ hc hs fun _ hr => retI X hx hret hd hr
theorem own_retN (X : Stand p l e R s m args below meth c T locs cells slots) (hx : p.tables.exec = Jvm.exec) {t : FieldType} (ht : t = .boolean ∨ t = .byte ∨ t = .char ∨ t = .short) {pc : Nat} {Ls : Array Slot} {z : Int32} {rest : List Value} (hret : meth.sig.returnType = some t) (hd : decode c.code pc = .ok (.ireturn, 1)) (hlk : meth.locks = false) (hQ : Q (some (.int (nar t z))) T.heap locs) (hc : cells ≤ rc) (hs : slots ≤ rs) :
    own_R p.tables e below (own_F below s Q rc rs) (T.setTop (mkF m pc Ls (.int z :: rest))) := own_end X hlk (fun h => by rw [hret] at h; cases h) hQ hc hs fun _ hr => retN X hx hret ht hd hr
theorem own_retL (X : Stand p l e R s m args below meth c T locs cells slots) (hx : p.tables.exec = Jvm.exec) {pc : Nat} {Ls : Array Slot} {z : Int64} {rest : List Value} (hret : meth.sig.returnType = some .long) (hd : decode c.code pc = .ok (.lreturn, 1)) (hlk : meth.locks = false) (hQ : Q (some (.long z)) T.heap locs) (hc : cells ≤ rc) (hs : slots ≤ rs) :
    own_R p.tables e below (own_F below s Q rc rs) (T.setTop (mkF m pc Ls (.long z :: rest))) := own_end X hlk (fun h => by rw [hret] at h; cases h) hQ hc hs fun _ hr => retOut X hx hret rfl (Or.inr (Or.inl ⟨rfl, rfl, z, rfl⟩)) hd hr
theorem own_retA (X : Stand p l e R s m args below meth c T locs cells slots) (hx : p.tables.exec = Jvm.exec) {t : FieldType} {pc : Nat} {Ls : Array Slot} {w : Value} {rest : List Value} (ht : t.isReference = true) (hw : w.isRef = true) (hret : meth.sig.returnType = some t) (hd : decode c.code pc = .ok (.areturn, 1)) (hlk : meth.locks = false) (hQ : Q (some w) T.heap locs) (hc : cells ≤ rc) (hs : slots ≤ rs) :
    own_R p.tables e below (own_F below s Q rc rs) (T.setTop (mkF m pc Ls (w :: rest))) := own_end X hlk (fun h => by rw [hret] at h; cases h) hQ hc hs fun _ hr => retOut X hx hret (by cases t <;> first | rfl | cases ht) (Or.inr (Or.inr (Or.inr (Or.inr ⟨rfl, ht, hw⟩)))) hd hr
variable {Z : State} {h : Heap} {a : Addr} {k : ClassId} {n : Int32} {vs : List Value} {dv : Value}
theorem own_len (X : Stand p l e R s m args below meth c T locs cells slots) (hx : p.tables.exec = Jvm.exec) (hZ : Z.Warmed39 s.vm) (eT : T.heap = h) {ty : FieldType} (V : Arv Z h a k ty n vs dv) {g : JFrame} (hg : g.method = m) {rest : List Value} (hs : g.stack = .ref a :: rest) (hd : decode c.code g.pc = .ok (.arraylength, 1)) :
    ∀ target, Steps p.tables e below (T.setTop { g with pc := g.pc + 1, stack := .int n :: rest }) target → Steps p.tables e below (T.setTop g) target := by
  obtain ⟨cl, A, -, S, N, -, -⟩ := V
  intro t kt
  refine X.arraylength hx (by rw [eT]; exact A.1) (State.isArrayOf_alike hZ.alike A.2.1) hg hs hd t ?_
  rw [len_of S N]; exact kt
theorem own_ldI (X : Stand p l e R s m args below meth c T locs cells slots) (hx : p.tables.exec = Jvm.exec) (hZ : Z.Warmed39 s.vm) (eT : T.heap = h) (V : Arv Z h a k .int n vs dv) {j : Int32} {i : Nat} (hj : ¬ j < 0 ∧ j < n) (hi : j.toNatClampNeg = i) {v : Value} (hv : vs.getD i dv = v) {g : JFrame} (hg : g.method = m) {rest : List Value} (hs : g.stack = .int j :: .ref a :: rest) (hd : decode c.code g.pc = .ok (.iaload, 1)) :
    ∀ target, Steps p.tables e below (T.setTop { g with pc := g.pc + 1, stack := v :: rest }) target → Steps p.tables e below (T.setTop g) target := by
  obtain ⟨cl, A, -, S, N, H, -⟩ := V
  subst hi
  intro t kt
  exact X.iaload hx (by rw [eT]; exact A.1) (State.isArrayOf_alike hZ.alike A.2.1) A.2.2 (inb_of S hj) (H.at (inb_of S hj) hv) hg hs hd t kt
theorem own_ldJ (X : Stand p l e R s m args below meth c T locs cells slots) (hx : p.tables.exec = Jvm.exec) (hZ : Z.Warmed39 s.vm) (eT : T.heap = h) (V : Arv Z h a k .long n vs dv) {j : Int32} {i : Nat} (hj : ¬ j < 0 ∧ j < n) (hi : j.toNatClampNeg = i) {v : Value} (hv : vs.getD i dv = v) {g : JFrame} (hg : g.method = m) {rest : List Value} (hs : g.stack = .int j :: .ref a :: rest) (hd : decode c.code g.pc = .ok (.laload, 1)) :
    ∀ target, Steps p.tables e below (T.setTop { g with pc := g.pc + 1, stack := v :: rest }) target → Steps p.tables e below (T.setTop g) target := by
  obtain ⟨cl, A, -, S, N, H, -⟩ := V
  subst hi
  intro t kt
  exact X.laload hx (by rw [eT]; exact A.1) (State.isArrayOf_alike hZ.alike A.2.1) A.2.2 (inb_of S hj) (H.at (inb_of S hj) hv) hg hs hd t kt
theorem own_ldB (X : Stand p l e R s m args below meth c T locs cells slots) (hx : p.tables.exec = Jvm.exec) (hZ : Z.Warmed39 s.vm) (eT : T.heap = h) (V : Arv Z h a k .byte n vs dv) {j : Int32} {i : Nat} (hj : ¬ j < 0 ∧ j < n) (hi : j.toNatClampNeg = i) {v : Value} (hv : vs.getD i dv = v) {g : JFrame} (hg : g.method = m) {rest : List Value} (hs : g.stack = .int j :: .ref a :: rest) (hd : decode c.code g.pc = .ok (.baload, 1)) :
    ∀ target, Steps p.tables e below (T.setTop { g with pc := g.pc + 1, stack := v :: rest }) target → Steps p.tables e below (T.setTop g) target := by
  obtain ⟨cl, A, -, S, N, H, -⟩ := V
  subst hi
  intro t kt
  exact X.baloadBytes hx (by rw [eT]; exact A.1) (State.isArrayOf_alike hZ.alike A.2.1) A.2.2 (inb_of S hj) (H.at (inb_of S hj) hv) hg hs hd t kt
theorem own_stI (X : Stand p l e R s m args below meth c T locs cells slots) (hx : p.tables.exec = Jvm.exec) (hZ : Z.Warmed39 s.vm) (eT : T.heap = h) (V : Arv Z h a k .int n vs dv) {j : Int32} {i : Nat} (hj : ¬ j < 0 ∧ j < n) (hi : j.toNatClampNeg = i) (hlen : i < vs.length) {x : Int32} {w : Value} (hw : w = .int x) {g : JFrame} (hg : g.method = m) {rest : List Value} (hs : g.stack = .int x :: .int j :: .ref a :: rest) (hd : decode c.code g.pc = .ok (.iastore, 1)) :
    ∃ T' h' sl, Stand p l e R s m args below meth c T' (locs ++ [⟨a, sl⟩]) cells slots ∧ T'.heap = h' ∧ Wr h h' a sl w ∧ Arv Z h' a k .int n (vs.set i w) dv ∧ ∀ target, Steps p.tables e below (T'.setTop { g with pc := g.pc + 1, stack := rest }) target → Steps p.tables e below (T.setTop g) target := by
  obtain ⟨cl, A, q1, S, N, H, G⟩ := V
  subst hw
  obtain ⟨T', h', X', e', W', st⟩ := stI X hx hZ eT A (j := j) (inb_of S hj) hg hs hd
  exact ⟨T', h', _, X', e', W', Arv.set A q1 S N H G rfl W' i hi hlen, st⟩
theorem own_stJ (X : Stand p l e R s m args below meth c T locs cells slots) (hx : p.tables.exec = Jvm.exec) (hZ : Z.Warmed39 s.vm) (eT : T.heap = h) (V : Arv Z h a k .long n vs dv) {j : Int32} {i : Nat} (hj : ¬ j < 0 ∧ j < n) (hi : j.toNatClampNeg = i) (hlen : i < vs.length) {x : Int64} {w : Value} (hw : w = .long x) {g : JFrame} (hg : g.method = m) {rest : List Value} (hs : g.stack = .long x :: .int j :: .ref a :: rest) (hd : decode c.code g.pc = .ok (.lastore, 1)) :
    ∃ T' h' sl, Stand p l e R s m args below meth c T' (locs ++ [⟨a, sl⟩]) cells slots ∧ T'.heap = h' ∧ Wr h h' a sl w ∧ Arv Z h' a k .long n (vs.set i w) dv ∧ ∀ target, Steps p.tables e below (T'.setTop { g with pc := g.pc + 1, stack := rest }) target → Steps p.tables e below (T.setTop g) target := by
  obtain ⟨cl, A, q1, S, N, H, G⟩ := V
  subst hw
  obtain ⟨T', h', X', e', W', st⟩ := stJ X hx hZ eT A (j := j) (inb_of S hj) hg hs hd
  exact ⟨T', h', _, X', e', W', Arv.set A q1 S N H G rfl W' i hi hlen, st⟩
end New
end Jvm.RoadKit
namespace Jvm.Pilot.@@N@@
open Jvm Jvm.ClassFile Sem Op Lib Jvm.Free Jvm.Stand Jvm.LawKit Jvm.RoadKit Bundle Jvm.Pilot.@@N@@.Jvm.D
theorem pd_0 : parseMethodDescriptor "(I)I" = some ⟨[.int], some .int⟩ := by decide +kernel
theorem pd_1 : parseMethodDescriptor "(II)I" = some ⟨[.int, .int], some .int⟩ := by decide +kernel
theorem pd_2 : parseMethodDescriptor "([JJ)V" = some ⟨[(.array .long), .long], none⟩ := by decide +kernel
theorem pd_3 : parseMethodDescriptor "(I)V" = some ⟨[.int], none⟩ := by decide +kernel
theorem pd_4 : parseMethodDescriptor "(II)V" = some ⟨[.int, .int], none⟩ := by decide +kernel

def own_min (a b : Int32) : Int32 := if b < a then b else a
def own_max (a b : Int32) : Int32 := if a < b then b else a
def own_s (x k : Int32) : Int32 := (x.toUInt32 >>> (k &&& 31).toUInt32).toInt32
def own_n4 (x n : Int32) : Int32 := n - own_s x 1
def own_n3 (x n : Int32) : Int32 := if x < 4 then own_n4 x n else own_n4 (own_s x 2) (n + (-2))
def own_n2 (x n : Int32) : Int32 := if x < 16 then own_n3 x n else own_n3 (own_s x 4) (n + (-4))
def own_n1 (x n : Int32) : Int32 := if x < 256 then own_n2 x n else own_n2 (own_s x 8) (n + (-8))
def own_nlz (x : Int32) : Int32 := own_n1 x 31
def own_hob (x : Int32) : Int32 := x &&& own_s (-2147483648) (own_nlz x)
def own_cnt (v : Int32) : Int32 := own_min (own_hob (own_max (((2 : Int32) * v) - (1 : Int32)) (1 : Int32))) (1024 : Int32)
def own_key (a b : Int32) : Int64 := ((a.toInt64) <<< ((32 : Int32) &&& 0x3f).toInt64) ||| ((b.toInt64) &&& (4294967295 : Int64))
def own_top (w : Int64) : Int32 := ((w.toUInt64 >>> ((32 : Int32) &&& 0x3f).toInt64.toUInt64).toInt64).toInt32
def own_get (w : Int64) (p : Int32) : Int32 := if own_top w = p then w.toInt32 else (-1 : Int32)
def own_L (w : Int64) : Value := .long w
def own_ix (x : Int32) (n : Nat) : Nat := (x &&& (Int32.ofNat n - (1 : Int32))).toNatClampNeg
theorem own_atL (ls : List Int64) (c : Nat) : (ls.map own_L).getD c (.long (0 : Int64)) = .long (ls.getD c 0) := by
  rw [List.getD_eq_getElem?_getD, List.getD_eq_getElem?_getD, List.getElem?_map]
  cases ls[c]? <;> rfl
theorem own_on {n : Nat} (h : n ≤ 1024) : (Int32.ofNat n).toInt = n := Int32.toInt_ofNat_of_lt (by omega)
theorem own_nn {n : Nat} (h : n ≤ 1024) : ¬ Int32.ofNat n < 0 := by
  rw [Int32.lt_iff_toInt_lt, own_on h]; show ¬ (n : Int) < 0; omega
theorem own_tn {n : Nat} (h : n ≤ 1024) : (Int32.ofNat n).toNatClampNeg = n := by
  rw [Int32.toNatClampNeg, own_on h]; rfl
theorem own_m1 {n : Nat} (h1 : 1 ≤ n) (h : n ≤ 1024) : (Int32.ofNat n - (1 : Int32)).toInt = n - 1 := by
  have := own_on h
  rw [Int32.toInt_sub, this, show (1 : Int32).toInt = 1 from rfl]
  apply Int.bmod_eq_of_le <;> omega
theorem own_ixb (x : Int32) {n : Nat} (h1 : 1 ≤ n) (h : n ≤ 1024) : (¬ (x &&& (Int32.ofNat n - (1 : Int32))) < 0 ∧ (x &&& (Int32.ofNat n - (1 : Int32))) < Int32.ofNat n) ∧ own_ix x n < n := by
  have e := own_m1 h1 h
  have q := c_and x (Int32.ofNat n - (1 : Int32)) (by omega)
  have e2 := own_on h
  refine ⟨⟨?_, ?_⟩, ?_⟩
  · rw [Int32.lt_iff_toInt_lt]; show ¬ _ < (0 : Int); omega
  · rw [Int32.lt_iff_toInt_lt]; omega
  · unfold own_ix; rw [Int32.toNatClampNeg]; omega
theorem own_ixe (x y : Int32) {n : Nat} (h1 : 1 ≤ n) (h : n ≤ 1024) : own_ix x n = own_ix y n ↔ (x &&& (Int32.ofNat n - (1 : Int32))) = (y &&& (Int32.ofNat n - (1 : Int32))) := by
  have e := own_m1 h1 h
  have q := c_and x (Int32.ofNat n - (1 : Int32)) (by omega)
  have q2 := c_and y (Int32.ofNat n - (1 : Int32)) (by omega)
  unfold own_ix
  rw [Int32.toNatClampNeg, Int32.toNatClampNeg, ← Int32.toInt_inj]
  omega
theorem own_hi0 (a b : Int32) : ((((((a.toInt64) <<< ((32 : Int32) &&& 0x3f).toInt64) ||| ((b.toInt64) &&& (4294967295 : Int64))).toUInt64 >>> ((32 : Int32) &&& 0x3f).toInt64.toUInt64).toInt64).toInt32 = a) ∧ ((((a.toInt64) <<< ((32 : Int32) &&& 0x3f).toInt64) ||| ((b.toInt64) &&& (4294967295 : Int64))).toInt32 = b) := by
  have ra := rng32 a
  have rb := rng32 b
  have h1 := c_lshl a.toInt64 32 32 rfl
  have h2 := c_maskL b.toInt64 4294967295 32 (by decide) (by decide)
  rw [c_i2l] at h1 h2
  have r1 := rng64 ((a.toInt64) <<< ((32 : Int32) &&& 0x3f).toInt64)
  have h3 := c_orL ((a.toInt64) <<< ((32 : Int32) &&& 0x3f).toInt64) ((b.toInt64) &&& (4294967295 : Int64)) 32 (by decide) 4294967296 rfl (by omega) (by omega) (by omega)
  generalize ((a.toInt64) <<< ((32 : Int32) &&& 0x3f).toInt64) = A at *
  generalize ((b.toInt64) &&& (4294967295 : Int64)) = B at *
  have r3 := rng64 (A ||| B)
  have h4 := c_lushr (A ||| B) 32 32 rfl (by decide)
  have h6 := c_l2i (A ||| B)
  have r6 := rng32 (A ||| B).toInt32
  generalize (A ||| B) = K at *
  generalize ((K.toUInt64 >>> ((32 : Int32) &&& 0x3f).toInt64.toUInt64).toInt64) = U at *
  have h5 := c_l2i U
  have r5 := rng32 U.toInt32
  constructor
  · apply Int32.toInt_inj.mp; omega
  · apply Int32.toInt_inj.mp; omega
theorem own_hi (a b : Int32) : own_top (own_key a b) = a := (own_hi0 a b).1
theorem own_lo (a b : Int32) : (own_key a b).toInt32 = b := (own_hi0 a b).2
theorem own_gk (a b p : Int32) : own_get (own_key a b) p = if a = p then b else (-1 : Int32) := by rw [own_get, own_hi, own_lo]
theorem own_ge (p : Int32) : own_get (-1) p = (-1 : Int32) := by
  rw [own_get]; split <;> rfl
theorem own_gs (ls : List Int64) (i j : Nat) (x : Int64) (h : i < ls.length) : (ls.set i x).getD j 0 = if i = j then x else ls.getD j 0 := by
  rw [List.getD_eq_getElem?_getD, List.getD_eq_getElem?_getD]
  by_cases e : i = j
  · subst e; rw [List.getElem?_set_self h, if_pos rfl]; rfl
  · rw [List.getElem?_set_ne e, if_neg e]
theorem own_gr (n j : Nat) (h : j < n) : (List.replicate n (-1 : Int64)).getD j 0 = -1 := by
  rw [List.getD_eq_getElem?_getD, List.getElem?_replicate, if_pos h]; rfl
theorem own_one (i : Nat) : Int32.ofNat i + (1 : Int32) = Int32.ofNat (i + 1) := (Int32.ofNat_add i 1).symm
theorem own_lt {i n : Nat} (h : i < n) (hn : n ≤ 1024) : Int32.ofNat i < Int32.ofNat n := by
  rw [Int32.lt_iff_toInt_lt, own_on (by omega), own_on hn]; omega
theorem own_nlt {i n : Nat} (h : ¬ i < n) (hi : i ≤ 1024) (hn : n ≤ 1024) : ¬ Int32.ofNat i < Int32.ofNat n := by
  rw [Int32.lt_iff_toInt_lt, own_on hi, own_on hn]; omega
theorem own_fill {n : Nat} {ws : List Value} {q : Int64} (hl : ws.length = n) (hf : ∀ j, j < n → ws.getD j (.long (0 : Int64)) = .long q) : ∀ i, ((List.replicate n q).map own_L).getD i (.long (0 : Int64)) = ws.getD i (.long (0 : Int64)) := fun i => by
  by_cases h : i < n
  · rw [hf i h, List.getD_eq_getElem?_getD, List.getElem?_map, List.getElem?_replicate, if_pos h]; rfl
  · rw [List.getD_eq_getElem?_getD, List.getD_eq_getElem?_getD, List.getElem?_eq_none (by simp; omega), List.getElem?_eq_none (by omega)]
theorem own_k (x : Int32) (kk : Int32) (h : ((x.toUInt32 >>> ((2 : Int32) &&& 31).toUInt32).toInt32) % (11 : Int32) = kk) : ∃ n : Nat, 1 ≤ n ∧ n ≤ 1024 ∧ ((1 : Int32) <<< (kk &&& 31)) = Int32.ofNat n ∧ own_cnt (Int32.ofNat n) = Int32.ofNat n ∧ (0 : Int32) < own_max (((2 : Int32) * Int32.ofNat n) - (1 : Int32)) (1 : Int32) ∧ own_max (((2 : Int32) * Int32.ofNat n) - (1 : Int32)) (1 : Int32) < (65536 : Int32) := by
  have h1 := c_iushr x 2 2 rfl (by decide)
  have h2 := (c_irem ((x.toUInt32 >>> ((2 : Int32) &&& 31).toUInt32).toInt32) 11 11 rfl).1 (by omega)
  rw [h] at h2
  have e : kk = Int32.ofNat kk.toInt.toNat := by
    apply Int32.toInt_inj.mp
    rw [Int32.toInt_ofNat_of_lt (by omega)]; omega
  have q : ∀ j : Fin 11, 1 ≤ 2 ^ j.val ∧ 2 ^ j.val ≤ 1024 ∧ ((1 : Int32) <<< (Int32.ofNat j.val &&& 31)) = Int32.ofNat (2 ^ j.val) ∧ own_cnt (Int32.ofNat (2 ^ j.val)) = Int32.ofNat (2 ^ j.val) ∧ (0 : Int32) < own_max (((2 : Int32) * Int32.ofNat (2 ^ j.val)) - (1 : Int32)) (1 : Int32) ∧ own_max (((2 : Int32) * Int32.ofNat (2 ^ j.val)) - (1 : Int32)) (1 : Int32) < (65536 : Int32) := by decide +kernel
  have q1 := q ⟨kk.toInt.toNat, by omega⟩
  simp only [← e] at q1
  exact ⟨_, q1⟩
theorem own_xor (x y : Int32) {n : Nat} (h1 : 1 ≤ n) (h : n ≤ 1024) : ((x ^^^ y) &&& (Int32.ofNat n - (1 : Int32))) = 0 ↔ own_ix x n = own_ix y n := by
  rw [own_ixe x y h1 h]
  generalize (Int32.ofNat n - (1 : Int32)) = m
  have z0 : ∀ i, (0 : Int32).toBitVec.getLsbD i = false := fun i => by show (0#32).getLsbD i = false; simp
  constructor
  · intro q
    apply Int32.toBitVec_inj.mp
    apply BitVec.eq_of_getLsbD_eq
    intro i hi
    have z := congrArg (fun w : Int32 => w.toBitVec.getLsbD i) q
    simp only [Int32.toBitVec_and, Int32.toBitVec_xor, BitVec.getLsbD_and, BitVec.getLsbD_xor, z0] at z ⊢
    revert z
    cases x.toBitVec.getLsbD i <;> cases y.toBitVec.getLsbD i <;> cases m.toBitVec.getLsbD i <;> simp
  · intro q
    apply Int32.toBitVec_inj.mp
    apply BitVec.eq_of_getLsbD_eq
    intro i hi
    have z := congrArg (fun w : Int32 => w.toBitVec.getLsbD i) q
    simp only [Int32.toBitVec_and, Int32.toBitVec_xor, BitVec.getLsbD_and, BitVec.getLsbD_xor, z0] at z ⊢
    revert z
    cases x.toBitVec.getLsbD i <;> cases y.toBitVec.getLsbD i <;> cases m.toBitVec.getLsbD i <;> simp
def own_eW (ww v p q : Int32) (n : Nat) : Int32 := if ww = v then p else if ((ww ^^^ v) &&& (Int32.ofNat n - (1 : Int32))) = 0 then (-1 : Int32) else q
def own_eU (uu ww v p q : Int32) (n : Nat) : Int32 := if uu = v then p else if uu = ww ∧ ¬ ((ww ^^^ v) &&& (Int32.ofNat n - (1 : Int32))) = 0 then q else (-1 : Int32)
def own_ls (ww v p q : Int32) (n : Nat) : List Int64 := ((List.replicate n (-1 : Int64)).set (own_ix ww n) (own_key ww q)).set (own_ix v n) (own_key v p)
theorem own_rd (ww v p q u : Int32) {n : Nat} (h1 : 1 ≤ n) (h : n ≤ 1024) : own_get ((own_ls ww v p q n).getD (own_ix u n) 0) u = if own_ix v n = own_ix u n then (if v = u then p else (-1 : Int32)) else if own_ix ww n = own_ix u n then (if ww = u then q else (-1 : Int32)) else (-1 : Int32) := by
  have b1 := (own_ixb ww h1 h).2
  have b2 := (own_ixb v h1 h).2
  have b3 := (own_ixb u h1 h).2
  rw [own_ls, own_gs _ _ _ _ (by simpa using b2), own_gs _ _ _ _ (by simpa using b1), own_gr _ _ b3]
  by_cases c1 : own_ix v n = own_ix u n
  · rw [if_pos c1, if_pos c1, own_gk]
  · rw [if_neg c1, if_neg c1]
    by_cases c2 : own_ix ww n = own_ix u n
    · rw [if_pos c2, if_pos c2, own_gk]
    · rw [if_neg c2, if_neg c2, own_ge]
theorem own_law1 (ww v p q : Int32) {n : Nat} (h1 : 1 ≤ n) (h : n ≤ 1024) : own_get ((own_ls ww v p q n).getD (own_ix v n) 0) v = p := by
  rw [own_rd ww v p q v h1 h, if_pos rfl, if_pos rfl]
theorem own_law2 (ww v p q : Int32) {n : Nat} (h1 : 1 ≤ n) (h : n ≤ 1024) : own_get ((own_ls ww v p q n).getD (own_ix ww n) 0) ww = own_eW ww v p q n := by
  have x := own_xor ww v h1 h
  rw [own_rd ww v p q ww h1 h, own_eW, if_pos rfl, if_pos rfl]
  by_cases c1 : ww = v
  · subst c1; rw [if_pos rfl, if_pos rfl, if_pos rfl]
  · rw [if_neg c1, if_neg (Ne.symm c1)]
    by_cases c2 : own_ix ww n = own_ix v n
    · rw [if_pos c2.symm, if_pos (x.mpr c2)]
    · rw [if_neg (Ne.symm c2), if_neg (fun z => c2 (x.mp z))]
theorem own_law3 (uu ww v p q : Int32) {n : Nat} (h1 : 1 ≤ n) (h : n ≤ 1024) : own_get ((own_ls ww v p q n).getD (own_ix uu n) 0) uu = own_eU uu ww v p q n := by
  have x := own_xor ww v h1 h
  rw [own_rd ww v p q uu h1 h, own_eU]
  by_cases c1 : uu = v
  · subst c1; rw [if_pos rfl, if_pos rfl, if_pos rfl]
  · rw [if_neg c1, if_neg (Ne.symm c1)]
    by_cases c3 : uu = ww
    · subst c3
      by_cases c2 : own_ix uu n = own_ix v n
      · rw [if_pos c2.symm, if_neg (fun z => z.2 (x.mpr c2))]
      · rw [if_neg (Ne.symm c2), if_pos rfl, if_pos rfl, if_pos ⟨rfl, fun z => c2 (x.mp z)⟩]
    · rw [show (if uu = ww ∧ ¬ ((ww ^^^ v) &&& (Int32.ofNat n - (1 : Int32))) = 0 then q else (-1 : Int32)) = -1 from if_neg (fun z => c3 z.1), if_neg (Ne.symm c3)]
      split
      · rfl
      · split <;> rfl
theorem d6_0 : decode jdk_29_method_69_code 0 = .ok (.iload_n 0, 1) := by decide +kernel
theorem d6_1 : decode jdk_29_method_69_code 1 = .ok (.iload_n 1, 1) := by decide +kernel
theorem d6_2 : decode jdk_29_method_69_code 2 = .ok (.if_icmp .gt 7, 3) := by decide +kernel
theorem d6_5 : decode jdk_29_method_69_code 5 = .ok (.iload_n 0, 1) := by decide +kernel
theorem d6_6 : decode jdk_29_method_69_code 6 = .ok (.goto 4, 3) := by decide +kernel
theorem d6_9 : decode jdk_29_method_69_code 9 = .ok (.iload_n 1, 1) := by decide +kernel
theorem d6_10 : decode jdk_29_method_69_code 10 = .ok (.ireturn, 1) := by decide +kernel
theorem ef_6 (m : MethodId) (x0 : Int32) (x1 : Int32) : entryFrame m #[(.int x0), (.int x1)] 2 = mkF m 0 #[.val (.int x0), .val (.int x1)] [] := by first | (simp [entryFrame, mkF, argsToLocals, Value.category]; done) | rfl
def Q6 (Z : State) (p1 : Int32) (p2 : Int32) (h0 : Heap) (n0 : Nat) (v : Option Value) (h : Heap) (L : List Loc) : Prop := v = some (.int (own_min p1 p2)) ∧ Fr n0 L ∧ h = h0
set_option maxRecDepth 65536 in
set_option maxHeartbeats 40000000 in
theorem rm6 (l : Launch) (Z : State) (a0 : Array Value) (hw : ∀ d ∈ tables_1, d.before a0 Z = true) (ws : List Jvm.Cond) (p1 : Int32) (p2 : Int32) (h0 : Heap) (n0 : Nat) (ZS : n0 ≤ h0.size) :
    MetFree l (⟨"java/lang/Math", "min", "(II)I"⟩ : MethodName) (head1 (Jvm.Cond.code (⟨"java/lang/Math", "min", "(II)I"⟩ : MethodName) jdk_29_method_69_code 2 (some .int) :: ws) ({ frames := 0, cells := 0, slots := 0, locals := 0 } : Room)) (fun a U => a = #[(.int p1), (.int p2)] ∧ Z.Warmed39 U.vm ∧ U.heap = h0) (fun _ _ _ _ _ => True) (fun _ U o U' => ∃ v L, o = .returned v ∧ Q6 Z p1 p2 h0 n0 v U'.heap L ∧ FrameEnd U o U' L ({ frames := 0, cells := 0, slots := 0, locals := 0 } : Room).cells ({ frames := 0, cells := 0, slots := 0, locals := 0 } : Room).slots) := by
  refine MetFree.of_bodySF (Jvm.Free.JP.mathPlain rfl (by decide +kernel)) hisR ?_
  intro p e s m args below meth c s₁ Bd hml0 hP hK
  obtain ⟨rfl, hZ, hh⟩ := hP
  have hx := Bd.exec
  have hby := Bd.bytes
  have hml : c.maxLocals = 2 := hml0
  have hown : s.vm.findClass "java/lang/Math" = some m.cls := findClass_of_methodNamed Bd.named
  have hnm := (name_of_methodNamed Bd.named Bd.method).1
  have hlk : meth.locks = false := Bd.notSynchronized
  have X0 : Stand p l e ({ frames := 0, cells := 0, slots := 0, locals := 0 } : Room) s m #[(.int p1), (.int p2)] below meth c s₁ [] 0 0 := Stand.of_body Bd
  have e0 : s₁.heap = h0 := by rw [← hh, Bd.state]; rfl
  have NF := Fr.nil n0
  have KP : Keep h0 h0 [] := Keep.refl _ _
  refine own_fin (s := s) (Q := Q6 Z p1 p2 h0 n0) (rc := ({ frames := 0, cells := 0, slots := 0, locals := 0 } : Room).cells) (rs := ({ frames := 0, cells := 0, slots := 0, locals := 0 } : Room).slots) ?_
  refine own_go (fun t k => castTop (ef_6 m p1 p2) k) ?_
  show own_R _ _ _ _ (s₁.setTop (mkF m 0 #[.val (.int p1), .val (.int p2)] []))
  refine own_go (fun _ k => XS.iloadN X0.here hx rfl (hb hby d6_0) rfl k) ?_
  show own_R _ _ _ _ (s₁.setTop (mkF m 1 #[.val (.int p1), .val (.int p2)] [(.int p1)]))
  refine own_go (fun _ k => XS.iloadN X0.here hx rfl (hb hby d6_1) rfl k) ?_
  show own_R _ _ _ _ (s₁.setTop (mkF m 2 #[.val (.int p1), .val (.int p2)] [(.int p2), (.int p1)]))
  by_cases hc1 : p2 < p1
  · refine own_go (fun _ k => XS.icmpYes X0.here hx rfl (pc0 := 2) (pc' := 9) rfl (hb hby d6_2) rfl (tlt hc1).2.2.1 (by decide) (by decide) k) ?_
    show own_R _ _ _ _ (s₁.setTop (mkF m 9 #[.val (.int p1), .val (.int p2)] []))
    refine own_go (fun _ k => XS.iloadN X0.here hx rfl (hb hby d6_9) rfl k) ?_
    show own_R _ _ _ _ (s₁.setTop (mkF m 10 #[.val (.int p1), .val (.int p2)] [(.int p2)]))
    exact own_retI X0 hx Bd.returns (hb hby d6_10) hlk ⟨by rw [own_min, if_pos hc1], NF, e0⟩ (by decide) (by decide)
  · refine own_go (fun _ k => XS.icmpNo X0.here hx rfl (hb hby d6_2) rfl (flt hc1).2.2.1 k) ?_
    show own_R _ _ _ _ (s₁.setTop (mkF m 5 #[.val (.int p1), .val (.int p2)] []))
    refine own_go (fun _ k => XS.iloadN X0.here hx rfl (hb hby d6_5) rfl k) ?_
    show own_R _ _ _ _ (s₁.setTop (mkF m 6 #[.val (.int p1), .val (.int p2)] [(.int p1)]))
    refine own_go (fun _ k => XS.goto X0.here hx rfl (pc0 := 6) (pc' := 10) rfl (hb hby d6_6) (by decide) (by decide) k) ?_
    show own_R _ _ _ _ (s₁.setTop (mkF m 10 #[.val (.int p1), .val (.int p2)] [(.int p1)]))
    exact own_retI X0 hx Bd.returns (hb hby d6_10) hlk ⟨by rw [own_min, if_neg hc1], NF, e0⟩ (by decide) (by decide)
theorem d3_0 : decode jdk_29_method_65_code 0 = .ok (.iload_n 0, 1) := by decide +kernel
theorem d3_1 : decode jdk_29_method_65_code 1 = .ok (.iload_n 1, 1) := by decide +kernel
theorem d3_2 : decode jdk_29_method_65_code 2 = .ok (.if_icmp .lt 7, 3) := by decide +kernel
theorem d3_5 : decode jdk_29_method_65_code 5 = .ok (.iload_n 0, 1) := by decide +kernel
theorem d3_6 : decode jdk_29_method_65_code 6 = .ok (.goto 4, 3) := by decide +kernel
theorem d3_9 : decode jdk_29_method_65_code 9 = .ok (.iload_n 1, 1) := by decide +kernel
theorem d3_10 : decode jdk_29_method_65_code 10 = .ok (.ireturn, 1) := by decide +kernel
theorem ef_3 (m : MethodId) (x0 : Int32) (x1 : Int32) : entryFrame m #[(.int x0), (.int x1)] 2 = mkF m 0 #[.val (.int x0), .val (.int x1)] [] := by first | (simp [entryFrame, mkF, argsToLocals, Value.category]; done) | rfl
def Q3 (Z : State) (p1 : Int32) (p2 : Int32) (h0 : Heap) (n0 : Nat) (v : Option Value) (h : Heap) (L : List Loc) : Prop := v = some (.int (own_max p1 p2)) ∧ Fr n0 L ∧ h = h0
set_option maxRecDepth 65536 in
set_option maxHeartbeats 40000000 in
theorem rm3 (l : Launch) (Z : State) (a0 : Array Value) (hw : ∀ d ∈ tables_1, d.before a0 Z = true) (ws : List Jvm.Cond) (p1 : Int32) (p2 : Int32) (h0 : Heap) (n0 : Nat) (ZS : n0 ≤ h0.size) :
    MetFree l (⟨"java/lang/Math", "max", "(II)I"⟩ : MethodName) (head1 (Jvm.Cond.code (⟨"java/lang/Math", "max", "(II)I"⟩ : MethodName) jdk_29_method_65_code 2 (some .int) :: ws) ({ frames := 0, cells := 0, slots := 0, locals := 0 } : Room)) (fun a U => a = #[(.int p1), (.int p2)] ∧ Z.Warmed39 U.vm ∧ U.heap = h0) (fun _ _ _ _ _ => True) (fun _ U o U' => ∃ v L, o = .returned v ∧ Q3 Z p1 p2 h0 n0 v U'.heap L ∧ FrameEnd U o U' L ({ frames := 0, cells := 0, slots := 0, locals := 0 } : Room).cells ({ frames := 0, cells := 0, slots := 0, locals := 0 } : Room).slots) := by
  refine MetFree.of_bodySF (Jvm.Free.JP.mathPlain rfl (by decide +kernel)) hisR ?_
  intro p e s m args below meth c s₁ Bd hml0 hP hK
  obtain ⟨rfl, hZ, hh⟩ := hP
  have hx := Bd.exec
  have hby := Bd.bytes
  have hml : c.maxLocals = 2 := hml0
  have hown : s.vm.findClass "java/lang/Math" = some m.cls := findClass_of_methodNamed Bd.named
  have hnm := (name_of_methodNamed Bd.named Bd.method).1
  have hlk : meth.locks = false := Bd.notSynchronized
  have X0 : Stand p l e ({ frames := 0, cells := 0, slots := 0, locals := 0 } : Room) s m #[(.int p1), (.int p2)] below meth c s₁ [] 0 0 := Stand.of_body Bd
  have e0 : s₁.heap = h0 := by rw [← hh, Bd.state]; rfl
  have NF := Fr.nil n0
  have KP : Keep h0 h0 [] := Keep.refl _ _
  refine own_fin (s := s) (Q := Q3 Z p1 p2 h0 n0) (rc := ({ frames := 0, cells := 0, slots := 0, locals := 0 } : Room).cells) (rs := ({ frames := 0, cells := 0, slots := 0, locals := 0 } : Room).slots) ?_
  refine own_go (fun t k => castTop (ef_3 m p1 p2) k) ?_
  show own_R _ _ _ _ (s₁.setTop (mkF m 0 #[.val (.int p1), .val (.int p2)] []))
  refine own_go (fun _ k => XS.iloadN X0.here hx rfl (hb hby d3_0) rfl k) ?_
  show own_R _ _ _ _ (s₁.setTop (mkF m 1 #[.val (.int p1), .val (.int p2)] [(.int p1)]))
  refine own_go (fun _ k => XS.iloadN X0.here hx rfl (hb hby d3_1) rfl k) ?_
  show own_R _ _ _ _ (s₁.setTop (mkF m 2 #[.val (.int p1), .val (.int p2)] [(.int p2), (.int p1)]))
  by_cases hc2 : p1 < p2
  · refine own_go (fun _ k => XS.icmpYes X0.here hx rfl (pc0 := 2) (pc' := 9) rfl (hb hby d3_2) rfl (tlt hc2).1 (by decide) (by decide) k) ?_
    show own_R _ _ _ _ (s₁.setTop (mkF m 9 #[.val (.int p1), .val (.int p2)] []))
    refine own_go (fun _ k => XS.iloadN X0.here hx rfl (hb hby d3_9) rfl k) ?_
    show own_R _ _ _ _ (s₁.setTop (mkF m 10 #[.val (.int p1), .val (.int p2)] [(.int p2)]))
    exact own_retI X0 hx Bd.returns (hb hby d3_10) hlk ⟨by rw [own_max, if_pos hc2], NF, e0⟩ (by decide) (by decide)
  · refine own_go (fun _ k => XS.icmpNo X0.here hx rfl (hb hby d3_2) rfl (flt hc2).1 k) ?_
    show own_R _ _ _ _ (s₁.setTop (mkF m 5 #[.val (.int p1), .val (.int p2)] []))
    refine own_go (fun _ k => XS.iloadN X0.here hx rfl (hb hby d3_5) rfl k) ?_
    show own_R _ _ _ _ (s₁.setTop (mkF m 6 #[.val (.int p1), .val (.int p2)] [(.int p1)]))
    refine own_go (fun _ k => XS.goto X0.here hx rfl (pc0 := 6) (pc' := 10) rfl (hb hby d3_6) (by decide) (by decide) k) ?_
    show own_R _ _ _ _ (s₁.setTop (mkF m 10 #[.val (.int p1), .val (.int p2)] [(.int p1)]))
    exact own_retI X0 hx Bd.returns (hb hby d3_10) hlk ⟨by rw [own_max, if_neg hc2], NF, e0⟩ (by decide) (by decide)
theorem d5_0 : decode jdk_33_method_47_code 0 = .ok (.iload_n 0, 1) := by decide +kernel
theorem d5_1 : decode jdk_33_method_47_code 1 = .ok (.ifCond .gt 14, 3) := by decide +kernel
theorem d5_4 : decode jdk_33_method_47_code 4 = .ok (.iload_n 0, 1) := by decide +kernel
theorem d5_5 : decode jdk_33_method_47_code 5 = .ok (.ifCond .ne 8, 3) := by decide +kernel
theorem d5_8 : decode jdk_33_method_47_code 8 = .ok (.bipush 32, 2) := by decide +kernel
theorem d5_10 : decode jdk_33_method_47_code 10 = .ok (.goto 4, 3) := by decide +kernel
theorem d5_13 : decode jdk_33_method_47_code 13 = .ok (.iconst 0, 1) := by decide +kernel
theorem d5_14 : decode jdk_33_method_47_code 14 = .ok (.ireturn, 1) := by decide +kernel
theorem d5_15 : decode jdk_33_method_47_code 15 = .ok (.bipush 31, 2) := by decide +kernel
theorem d5_17 : decode jdk_33_method_47_code 17 = .ok (.istore_n 1, 1) := by decide +kernel
theorem d5_18 : decode jdk_33_method_47_code 18 = .ok (.iload_n 0, 1) := by decide +kernel
theorem d5_19 : decode jdk_33_method_47_code 19 = .ok (.ldc_w 264, 3) := by decide +kernel
theorem d5_22 : decode jdk_33_method_47_code 22 = .ok (.if_icmp .lt 11, 3) := by decide +kernel
theorem d5_25 : decode jdk_33_method_47_code 25 = .ok (.iinc 1 (-16), 3) := by decide +kernel
theorem d5_28 : decode jdk_33_method_47_code 28 = .ok (.iload_n 0, 1) := by decide +kernel
theorem d5_29 : decode jdk_33_method_47_code 29 = .ok (.bipush 16, 2) := by decide +kernel
theorem d5_31 : decode jdk_33_method_47_code 31 = .ok (.iushr, 1) := by decide +kernel
theorem d5_32 : decode jdk_33_method_47_code 32 = .ok (.istore_n 0, 1) := by decide +kernel
theorem d5_33 : decode jdk_33_method_47_code 33 = .ok (.iload_n 0, 1) := by decide +kernel
theorem d5_34 : decode jdk_33_method_47_code 34 = .ok (.sipush 256, 3) := by decide +kernel
theorem d5_37 : decode jdk_33_method_47_code 37 = .ok (.if_icmp .lt 11, 3) := by decide +kernel
theorem d5_40 : decode jdk_33_method_47_code 40 = .ok (.iinc 1 (-8), 3) := by decide +kernel
theorem d5_43 : decode jdk_33_method_47_code 43 = .ok (.iload_n 0, 1) := by decide +kernel
theorem d5_44 : decode jdk_33_method_47_code 44 = .ok (.bipush 8, 2) := by decide +kernel
theorem d5_46 : decode jdk_33_method_47_code 46 = .ok (.iushr, 1) := by decide +kernel
theorem d5_47 : decode jdk_33_method_47_code 47 = .ok (.istore_n 0, 1) := by decide +kernel
theorem d5_48 : decode jdk_33_method_47_code 48 = .ok (.iload_n 0, 1) := by decide +kernel
theorem d5_49 : decode jdk_33_method_47_code 49 = .ok (.bipush 16, 2) := by decide +kernel
theorem d5_51 : decode jdk_33_method_47_code 51 = .ok (.if_icmp .lt 10, 3) := by decide +kernel
theorem d5_54 : decode jdk_33_method_47_code 54 = .ok (.iinc 1 (-4), 3) := by decide +kernel
theorem d5_57 : decode jdk_33_method_47_code 57 = .ok (.iload_n 0, 1) := by decide +kernel
theorem d5_58 : decode jdk_33_method_47_code 58 = .ok (.iconst 4, 1) := by decide +kernel
theorem d5_59 : decode jdk_33_method_47_code 59 = .ok (.iushr, 1) := by decide +kernel
theorem d5_60 : decode jdk_33_method_47_code 60 = .ok (.istore_n 0, 1) := by decide +kernel
theorem d5_61 : decode jdk_33_method_47_code 61 = .ok (.iload_n 0, 1) := by decide +kernel
theorem d5_62 : decode jdk_33_method_47_code 62 = .ok (.iconst 4, 1) := by decide +kernel
theorem d5_63 : decode jdk_33_method_47_code 63 = .ok (.if_icmp .lt 10, 3) := by decide +kernel
theorem d5_66 : decode jdk_33_method_47_code 66 = .ok (.iinc 1 (-2), 3) := by decide +kernel
theorem d5_69 : decode jdk_33_method_47_code 69 = .ok (.iload_n 0, 1) := by decide +kernel
theorem d5_70 : decode jdk_33_method_47_code 70 = .ok (.iconst 2, 1) := by decide +kernel
theorem d5_71 : decode jdk_33_method_47_code 71 = .ok (.iushr, 1) := by decide +kernel
theorem d5_72 : decode jdk_33_method_47_code 72 = .ok (.istore_n 0, 1) := by decide +kernel
theorem d5_73 : decode jdk_33_method_47_code 73 = .ok (.iload_n 1, 1) := by decide +kernel
theorem d5_74 : decode jdk_33_method_47_code 74 = .ok (.iload_n 0, 1) := by decide +kernel
theorem d5_75 : decode jdk_33_method_47_code 75 = .ok (.iconst 1, 1) := by decide +kernel
theorem d5_76 : decode jdk_33_method_47_code 76 = .ok (.iushr, 1) := by decide +kernel
theorem d5_77 : decode jdk_33_method_47_code 77 = .ok (.isub, 1) := by decide +kernel
theorem d5_78 : decode jdk_33_method_47_code 78 = .ok (.ireturn, 1) := by decide +kernel
theorem pn_5 : plainName "java/lang/Integer" = true := by first | (simp [plainName, overriddenIn]; done) | decide +kernel
theorem ef_5 (m : MethodId) (x0 : Int32) : entryFrame m #[(.int x0)] 2 = mkF m 0 #[.val (.int x0), .unset] [] := by first | (simp [entryFrame, mkF, argsToLocals, Value.category]; done) | rfl
def Q5 (Z : State) (p1 : Int32) (h0 : Heap) (n0 : Nat) (v : Option Value) (h : Heap) (L : List Loc) : Prop := v = some (.int (own_nlz p1)) ∧ Fr n0 L ∧ h = h0
set_option maxRecDepth 65536 in
set_option maxHeartbeats 40000000 in
theorem rm5 (l : Launch) (Z : State) (a0 : Array Value) (hw : ∀ d ∈ tables_1, d.before a0 Z = true) (ws : List Jvm.Cond) (p1 : Int32) (h0 : Heap) (n0 : Nat) (ZS : n0 ≤ h0.size) (hp0 : (0 : Int32) < p1) (hp1 : p1 < (65536 : Int32)) :
    MetFree l (⟨"java/lang/Integer", "numberOfLeadingZeros", "(I)I"⟩ : MethodName) (head1 (Jvm.Cond.code (⟨"java/lang/Integer", "numberOfLeadingZeros", "(I)I"⟩ : MethodName) jdk_33_method_47_code 2 (some .int) :: ws) ({ frames := 0, cells := 0, slots := 0, locals := 0 } : Room)) (fun a U => a = #[(.int p1)] ∧ Z.Warmed39 U.vm ∧ U.heap = h0) (fun _ _ _ _ _ => True) (fun _ U o U' => ∃ v L, o = .returned v ∧ Q5 Z p1 h0 n0 v U'.heap L ∧ FrameEnd U o U' L ({ frames := 0, cells := 0, slots := 0, locals := 0 } : Room).cells ({ frames := 0, cells := 0, slots := 0, locals := 0 } : Room).slots) := by
  refine MetFree.of_bodySF (plainFor_of_name pn_5) hisR ?_
  intro p e s m args below meth c s₁ Bd hml0 hP hK
  obtain ⟨rfl, hZ, hh⟩ := hP
  have hx := Bd.exec
  have hby := Bd.bytes
  have hml : c.maxLocals = 2 := hml0
  have hown : s.vm.findClass "java/lang/Integer" = some m.cls := findClass_of_methodNamed Bd.named
  have hnm := (name_of_methodNamed Bd.named Bd.method).1
  have hlk : meth.locks = false := Bd.notSynchronized
  have X0 : Stand p l e ({ frames := 0, cells := 0, slots := 0, locals := 0 } : Room) s m #[(.int p1)] below meth c s₁ [] 0 0 := Stand.of_body Bd
  have e0 : s₁.heap = h0 := by rw [← hh, Bd.state]; rfl
  have NF := Fr.nil n0
  have KP : Keep h0 h0 [] := Keep.refl _ _
  refine own_fin (s := s) (Q := Q5 Z p1 h0 n0) (rc := ({ frames := 0, cells := 0, slots := 0, locals := 0 } : Room).cells) (rs := ({ frames := 0, cells := 0, slots := 0, locals := 0 } : Room).slots) ?_
  refine own_go (fun t k => castTop (ef_5 m p1) k) ?_
  show own_R _ _ _ _ (s₁.setTop (mkF m 0 #[.val (.int p1), .unset] []))
  refine own_go (fun _ k => XS.iloadN X0.here hx rfl (hb hby d5_0) rfl k) ?_
  show own_R _ _ _ _ (s₁.setTop (mkF m 1 #[.val (.int p1), .unset] [(.int p1)]))
  refine own_go (fun _ k => XS.ifYes X0.here hx rfl (pc0 := 1) (pc' := 15) rfl (hb hby d5_1) rfl ((if0 _ _).trans (tlt hp0).2.2.1) (by decide) (by decide) k) ?_
  show own_R _ _ _ _ (s₁.setTop (mkF m 15 #[.val (.int p1), .unset] []))
  refine own_go (fun _ k => XS.bipush X0.here hx rfl (hb hby d5_15) k) ?_
  show own_R _ _ _ _ (s₁.setTop (mkF m 17 #[.val (.int p1), .unset] [(.int (31 : Int32))]))
  refine own_go (fun _ k => XS.istoreN X0.here hx rfl (hb hby d5_17) rfl (l' := #[.val (.int p1), .val (.int (31 : Int32))]) rfl k) ?_
  show own_R _ _ _ _ (s₁.setTop (mkF m 18 #[.val (.int p1), .val (.int (31 : Int32))] []))
  refine own_go (fun _ k => XS.iloadN X0.here hx rfl (hb hby d5_18) rfl k) ?_
  show own_R _ _ _ _ (s₁.setTop (mkF m 19 #[.val (.int p1), .val (.int (31 : Int32))] [(.int p1)]))
  refine own_go (X0.ldcwInt hx hown (mvT hZ (hw _ (List.mem_of_getElem? (i := 21) rfl))) (g := (mkF m 19 #[.val (.int p1), .val (.int (31 : Int32))] [(.int p1)])) rfl (hb hby d5_19)) ?_
  show own_R _ _ _ _ (s₁.setTop (mkF m 22 #[.val (.int p1), .val (.int (31 : Int32))] [(.int (65536 : Int32)), (.int p1)]))
  refine own_go (fun _ k => XS.icmpYes X0.here hx rfl (pc0 := 22) (pc' := 33) rfl (hb hby d5_22) rfl (tlt hp1).1 (by decide) (by decide) k) ?_
  show own_R _ _ _ _ (s₁.setTop (mkF m 33 #[.val (.int p1), .val (.int (31 : Int32))] []))
  refine own_go (fun _ k => XS.iloadN X0.here hx rfl (hb hby d5_33) rfl k) ?_
  show own_R _ _ _ _ (s₁.setTop (mkF m 34 #[.val (.int p1), .val (.int (31 : Int32))] [(.int p1)]))
  refine own_go (fun _ k => XS.sipush X0.here hx rfl (hb hby d5_34) k) ?_
  show own_R _ _ _ _ (s₁.setTop (mkF m 37 #[.val (.int p1), .val (.int (31 : Int32))] [(.int (256 : Int32)), (.int p1)]))
  by_cases hc3 : p1 < (256 : Int32)
  · refine own_go (fun _ k => XS.icmpYes X0.here hx rfl (pc0 := 37) (pc' := 48) rfl (hb hby d5_37) rfl (tlt hc3).1 (by decide) (by decide) k) ?_
    show own_R _ _ _ _ (s₁.setTop (mkF m 48 #[.val (.int p1), .val (.int (31 : Int32))] []))
    refine own_go (fun _ k => XS.iloadN X0.here hx rfl (hb hby d5_48) rfl k) ?_
    show own_R _ _ _ _ (s₁.setTop (mkF m 49 #[.val (.int p1), .val (.int (31 : Int32))] [(.int p1)]))
    refine own_go (fun _ k => XS.bipush X0.here hx rfl (hb hby d5_49) k) ?_
    show own_R _ _ _ _ (s₁.setTop (mkF m 51 #[.val (.int p1), .val (.int (31 : Int32))] [(.int (16 : Int32)), (.int p1)]))
    by_cases hc4 : p1 < (16 : Int32)
    · refine own_go (fun _ k => XS.icmpYes X0.here hx rfl (pc0 := 51) (pc' := 61) rfl (hb hby d5_51) rfl (tlt hc4).1 (by decide) (by decide) k) ?_
      show own_R _ _ _ _ (s₁.setTop (mkF m 61 #[.val (.int p1), .val (.int (31 : Int32))] []))
      refine own_go (fun _ k => XS.iloadN X0.here hx rfl (hb hby d5_61) rfl k) ?_
      show own_R _ _ _ _ (s₁.setTop (mkF m 62 #[.val (.int p1), .val (.int (31 : Int32))] [(.int p1)]))
      refine own_go (fun _ k => XS.iconst X0.here hx rfl (hb hby d5_62) k) ?_
      show own_R _ _ _ _ (s₁.setTop (mkF m 63 #[.val (.int p1), .val (.int (31 : Int32))] [(.int (4 : Int32)), (.int p1)]))
      by_cases hc5 : p1 < (4 : Int32)
      · refine own_go (fun _ k => XS.icmpYes X0.here hx rfl (pc0 := 63) (pc' := 73) rfl (hb hby d5_63) rfl (tlt hc5).1 (by decide) (by decide) k) ?_
        show own_R _ _ _ _ (s₁.setTop (mkF m 73 #[.val (.int p1), .val (.int (31 : Int32))] []))
        refine own_go (fun _ k => XS.iloadN X0.here hx rfl (hb hby d5_73) rfl k) ?_
        show own_R _ _ _ _ (s₁.setTop (mkF m 74 #[.val (.int p1), .val (.int (31 : Int32))] [(.int (31 : Int32))]))
        refine own_go (fun _ k => XS.iloadN X0.here hx rfl (hb hby d5_74) rfl k) ?_
        show own_R _ _ _ _ (s₁.setTop (mkF m 75 #[.val (.int p1), .val (.int (31 : Int32))] [(.int p1), (.int (31 : Int32))]))
        refine own_go (fun _ k => XS.iconst X0.here hx rfl (hb hby d5_75) k) ?_
        show own_R _ _ _ _ (s₁.setTop (mkF m 76 #[.val (.int p1), .val (.int (31 : Int32))] [(.int (1 : Int32)), (.int p1), (.int (31 : Int32))]))
        refine own_go (fun _ k => XS.iushr X0.here hx rfl (hb hby d5_76) rfl k) ?_
        show own_R _ _ _ _ (s₁.setTop (mkF m 77 #[.val (.int p1), .val (.int (31 : Int32))] [(.int ((p1.toUInt32 >>> ((1 : Int32) &&& 31).toUInt32).toInt32)), (.int (31 : Int32))]))
        refine own_go (fun _ k => XS.isub X0.here hx rfl (hb hby d5_77) rfl k) ?_
        show own_R _ _ _ _ (s₁.setTop (mkF m 78 #[.val (.int p1), .val (.int (31 : Int32))] [(.int ((31 : Int32) - ((p1.toUInt32 >>> ((1 : Int32) &&& 31).toUInt32).toInt32)))]))
        exact own_retI X0 hx Bd.returns (hb hby d5_78) hlk ⟨by rw [own_nlz, own_n1, if_pos hc3, own_n2, if_pos hc4, own_n3, if_pos hc5, own_n4]; rfl, NF, e0⟩ (by decide) (by decide)
      · refine own_go (fun _ k => XS.icmpNo X0.here hx rfl (hb hby d5_63) rfl (flt hc5).1 k) ?_
        show own_R _ _ _ _ (s₁.setTop (mkF m 66 #[.val (.int p1), .val (.int (31 : Int32))] []))
        refine own_go (fun _ k => XS.iinc X0.here hx rfl (hb hby d5_66) rfl (l' := #[.val (.int p1), .val (.int (29 : Int32))]) rfl k) ?_
        show own_R _ _ _ _ (s₁.setTop (mkF m 69 #[.val (.int p1), .val (.int (29 : Int32))] []))
        refine own_go (fun _ k => XS.iloadN X0.here hx rfl (hb hby d5_69) rfl k) ?_
        show own_R _ _ _ _ (s₁.setTop (mkF m 70 #[.val (.int p1), .val (.int (29 : Int32))] [(.int p1)]))
        refine own_go (fun _ k => XS.iconst X0.here hx rfl (hb hby d5_70) k) ?_
        show own_R _ _ _ _ (s₁.setTop (mkF m 71 #[.val (.int p1), .val (.int (29 : Int32))] [(.int (2 : Int32)), (.int p1)]))
        refine own_go (fun _ k => XS.iushr X0.here hx rfl (hb hby d5_71) rfl k) ?_
        show own_R _ _ _ _ (s₁.setTop (mkF m 72 #[.val (.int p1), .val (.int (29 : Int32))] [(.int ((p1.toUInt32 >>> ((2 : Int32) &&& 31).toUInt32).toInt32))]))
        refine own_go (fun _ k => XS.istoreN X0.here hx rfl (hb hby d5_72) rfl (l' := #[.val (.int ((p1.toUInt32 >>> ((2 : Int32) &&& 31).toUInt32).toInt32)), .val (.int (29 : Int32))]) rfl k) ?_
        show own_R _ _ _ _ (s₁.setTop (mkF m 73 #[.val (.int ((p1.toUInt32 >>> ((2 : Int32) &&& 31).toUInt32).toInt32)), .val (.int (29 : Int32))] []))
        show own_R _ _ _ _ (s₁.setTop (mkF m 73 #[.val (.int (own_s p1 (2 : Int32))), .val (.int (29 : Int32))] []))
        refine own_go (fun _ k => XS.iloadN X0.here hx rfl (hb hby d5_73) rfl k) ?_
        show own_R _ _ _ _ (s₁.setTop (mkF m 74 #[.val (.int (own_s p1 (2 : Int32))), .val (.int (29 : Int32))] [(.int (29 : Int32))]))
        refine own_go (fun _ k => XS.iloadN X0.here hx rfl (hb hby d5_74) rfl k) ?_
        show own_R _ _ _ _ (s₁.setTop (mkF m 75 #[.val (.int (own_s p1 (2 : Int32))), .val (.int (29 : Int32))] [(.int (own_s p1 (2 : Int32))), (.int (29 : Int32))]))
        refine own_go (fun _ k => XS.iconst X0.here hx rfl (hb hby d5_75) k) ?_
        show own_R _ _ _ _ (s₁.setTop (mkF m 76 #[.val (.int (own_s p1 (2 : Int32))), .val (.int (29 : Int32))] [(.int (1 : Int32)), (.int (own_s p1 (2 : Int32))), (.int (29 : Int32))]))
        refine own_go (fun _ k => XS.iushr X0.here hx rfl (hb hby d5_76) rfl k) ?_
        show own_R _ _ _ _ (s₁.setTop (mkF m 77 #[.val (.int (own_s p1 (2 : Int32))), .val (.int (29 : Int32))] [(.int (((own_s p1 (2 : Int32)).toUInt32 >>> ((1 : Int32) &&& 31).toUInt32).toInt32)), (.int (29 : Int32))]))
        refine own_go (fun _ k => XS.isub X0.here hx rfl (hb hby d5_77) rfl k) ?_
        show own_R _ _ _ _ (s₁.setTop (mkF m 78 #[.val (.int (own_s p1 (2 : Int32))), .val (.int (29 : Int32))] [(.int ((29 : Int32) - (((own_s p1 (2 : Int32)).toUInt32 >>> ((1 : Int32) &&& 31).toUInt32).toInt32)))]))
        exact own_retI X0 hx Bd.returns (hb hby d5_78) hlk ⟨by rw [own_nlz, own_n1, if_pos hc3, own_n2, if_pos hc4, own_n3, if_neg hc5, own_n4]; rfl, NF, e0⟩ (by decide) (by decide)
    · refine own_go (fun _ k => XS.icmpNo X0.here hx rfl (hb hby d5_51) rfl (flt hc4).1 k) ?_
      show own_R _ _ _ _ (s₁.setTop (mkF m 54 #[.val (.int p1), .val (.int (31 : Int32))] []))
      refine own_go (fun _ k => XS.iinc X0.here hx rfl (hb hby d5_54) rfl (l' := #[.val (.int p1), .val (.int (27 : Int32))]) rfl k) ?_
      show own_R _ _ _ _ (s₁.setTop (mkF m 57 #[.val (.int p1), .val (.int (27 : Int32))] []))
      refine own_go (fun _ k => XS.iloadN X0.here hx rfl (hb hby d5_57) rfl k) ?_
      show own_R _ _ _ _ (s₁.setTop (mkF m 58 #[.val (.int p1), .val (.int (27 : Int32))] [(.int p1)]))
      refine own_go (fun _ k => XS.iconst X0.here hx rfl (hb hby d5_58) k) ?_
      show own_R _ _ _ _ (s₁.setTop (mkF m 59 #[.val (.int p1), .val (.int (27 : Int32))] [(.int (4 : Int32)), (.int p1)]))
      refine own_go (fun _ k => XS.iushr X0.here hx rfl (hb hby d5_59) rfl k) ?_
      show own_R _ _ _ _ (s₁.setTop (mkF m 60 #[.val (.int p1), .val (.int (27 : Int32))] [(.int ((p1.toUInt32 >>> ((4 : Int32) &&& 31).toUInt32).toInt32))]))
      refine own_go (fun _ k => XS.istoreN X0.here hx rfl (hb hby d5_60) rfl (l' := #[.val (.int ((p1.toUInt32 >>> ((4 : Int32) &&& 31).toUInt32).toInt32)), .val (.int (27 : Int32))]) rfl k) ?_
      show own_R _ _ _ _ (s₁.setTop (mkF m 61 #[.val (.int ((p1.toUInt32 >>> ((4 : Int32) &&& 31).toUInt32).toInt32)), .val (.int (27 : Int32))] []))
      show own_R _ _ _ _ (s₁.setTop (mkF m 61 #[.val (.int (own_s p1 (4 : Int32))), .val (.int (27 : Int32))] []))
      refine own_go (fun _ k => XS.iloadN X0.here hx rfl (hb hby d5_61) rfl k) ?_
      show own_R _ _ _ _ (s₁.setTop (mkF m 62 #[.val (.int (own_s p1 (4 : Int32))), .val (.int (27 : Int32))] [(.int (own_s p1 (4 : Int32)))]))
      refine own_go (fun _ k => XS.iconst X0.here hx rfl (hb hby d5_62) k) ?_
      show own_R _ _ _ _ (s₁.setTop (mkF m 63 #[.val (.int (own_s p1 (4 : Int32))), .val (.int (27 : Int32))] [(.int (4 : Int32)), (.int (own_s p1 (4 : Int32)))]))
      by_cases hc6 : (own_s p1 (4 : Int32)) < (4 : Int32)
      · refine own_go (fun _ k => XS.icmpYes X0.here hx rfl (pc0 := 63) (pc' := 73) rfl (hb hby d5_63) rfl (tlt hc6).1 (by decide) (by decide) k) ?_
        show own_R _ _ _ _ (s₁.setTop (mkF m 73 #[.val (.int (own_s p1 (4 : Int32))), .val (.int (27 : Int32))] []))
        refine own_go (fun _ k => XS.iloadN X0.here hx rfl (hb hby d5_73) rfl k) ?_
        show own_R _ _ _ _ (s₁.setTop (mkF m 74 #[.val (.int (own_s p1 (4 : Int32))), .val (.int (27 : Int32))] [(.int (27 : Int32))]))
        refine own_go (fun _ k => XS.iloadN X0.here hx rfl (hb hby d5_74) rfl k) ?_
        show own_R _ _ _ _ (s₁.setTop (mkF m 75 #[.val (.int (own_s p1 (4 : Int32))), .val (.int (27 : Int32))] [(.int (own_s p1 (4 : Int32))), (.int (27 : Int32))]))
        refine own_go (fun _ k => XS.iconst X0.here hx rfl (hb hby d5_75) k) ?_
        show own_R _ _ _ _ (s₁.setTop (mkF m 76 #[.val (.int (own_s p1 (4 : Int32))), .val (.int (27 : Int32))] [(.int (1 : Int32)), (.int (own_s p1 (4 : Int32))), (.int (27 : Int32))]))
        refine own_go (fun _ k => XS.iushr X0.here hx rfl (hb hby d5_76) rfl k) ?_
        show own_R _ _ _ _ (s₁.setTop (mkF m 77 #[.val (.int (own_s p1 (4 : Int32))), .val (.int (27 : Int32))] [(.int (((own_s p1 (4 : Int32)).toUInt32 >>> ((1 : Int32) &&& 31).toUInt32).toInt32)), (.int (27 : Int32))]))
        refine own_go (fun _ k => XS.isub X0.here hx rfl (hb hby d5_77) rfl k) ?_
        show own_R _ _ _ _ (s₁.setTop (mkF m 78 #[.val (.int (own_s p1 (4 : Int32))), .val (.int (27 : Int32))] [(.int ((27 : Int32) - (((own_s p1 (4 : Int32)).toUInt32 >>> ((1 : Int32) &&& 31).toUInt32).toInt32)))]))
        exact own_retI X0 hx Bd.returns (hb hby d5_78) hlk ⟨by rw [own_nlz, own_n1, if_pos hc3, own_n2, if_neg hc4, own_n3, if_pos hc6, own_n4]; rfl, NF, e0⟩ (by decide) (by decide)
      · refine own_go (fun _ k => XS.icmpNo X0.here hx rfl (hb hby d5_63) rfl (flt hc6).1 k) ?_
        show own_R _ _ _ _ (s₁.setTop (mkF m 66 #[.val (.int (own_s p1 (4 : Int32))), .val (.int (27 : Int32))] []))
        refine own_go (fun _ k => XS.iinc X0.here hx rfl (hb hby d5_66) rfl (l' := #[.val (.int (own_s p1 (4 : Int32))), .val (.int (25 : Int32))]) rfl k) ?_
        show own_R _ _ _ _ (s₁.setTop (mkF m 69 #[.val (.int (own_s p1 (4 : Int32))), .val (.int (25 : Int32))] []))
        refine own_go (fun _ k => XS.iloadN X0.here hx rfl (hb hby d5_69) rfl k) ?_
        show own_R _ _ _ _ (s₁.setTop (mkF m 70 #[.val (.int (own_s p1 (4 : Int32))), .val (.int (25 : Int32))] [(.int (own_s p1 (4 : Int32)))]))
        refine own_go (fun _ k => XS.iconst X0.here hx rfl (hb hby d5_70) k) ?_
        show own_R _ _ _ _ (s₁.setTop (mkF m 71 #[.val (.int (own_s p1 (4 : Int32))), .val (.int (25 : Int32))] [(.int (2 : Int32)), (.int (own_s p1 (4 : Int32)))]))
        refine own_go (fun _ k => XS.iushr X0.here hx rfl (hb hby d5_71) rfl k) ?_
        show own_R _ _ _ _ (s₁.setTop (mkF m 72 #[.val (.int (own_s p1 (4 : Int32))), .val (.int (25 : Int32))] [(.int (((own_s p1 (4 : Int32)).toUInt32 >>> ((2 : Int32) &&& 31).toUInt32).toInt32))]))
        refine own_go (fun _ k => XS.istoreN X0.here hx rfl (hb hby d5_72) rfl (l' := #[.val (.int (((own_s p1 (4 : Int32)).toUInt32 >>> ((2 : Int32) &&& 31).toUInt32).toInt32)), .val (.int (25 : Int32))]) rfl k) ?_
        show own_R _ _ _ _ (s₁.setTop (mkF m 73 #[.val (.int (((own_s p1 (4 : Int32)).toUInt32 >>> ((2 : Int32) &&& 31).toUInt32).toInt32)), .val (.int (25 : Int32))] []))
        show own_R _ _ _ _ (s₁.setTop (mkF m 73 #[.val (.int (own_s (own_s p1 (4 : Int32)) (2 : Int32))), .val (.int (25 : Int32))] []))
        refine own_go (fun _ k => XS.iloadN X0.here hx rfl (hb hby d5_73) rfl k) ?_
        show own_R _ _ _ _ (s₁.setTop (mkF m 74 #[.val (.int (own_s (own_s p1 (4 : Int32)) (2 : Int32))), .val (.int (25 : Int32))] [(.int (25 : Int32))]))
        refine own_go (fun _ k => XS.iloadN X0.here hx rfl (hb hby d5_74) rfl k) ?_
        show own_R _ _ _ _ (s₁.setTop (mkF m 75 #[.val (.int (own_s (own_s p1 (4 : Int32)) (2 : Int32))), .val (.int (25 : Int32))] [(.int (own_s (own_s p1 (4 : Int32)) (2 : Int32))), (.int (25 : Int32))]))
        refine own_go (fun _ k => XS.iconst X0.here hx rfl (hb hby d5_75) k) ?_
        show own_R _ _ _ _ (s₁.setTop (mkF m 76 #[.val (.int (own_s (own_s p1 (4 : Int32)) (2 : Int32))), .val (.int (25 : Int32))] [(.int (1 : Int32)), (.int (own_s (own_s p1 (4 : Int32)) (2 : Int32))), (.int (25 : Int32))]))
        refine own_go (fun _ k => XS.iushr X0.here hx rfl (hb hby d5_76) rfl k) ?_
        show own_R _ _ _ _ (s₁.setTop (mkF m 77 #[.val (.int (own_s (own_s p1 (4 : Int32)) (2 : Int32))), .val (.int (25 : Int32))] [(.int (((own_s (own_s p1 (4 : Int32)) (2 : Int32)).toUInt32 >>> ((1 : Int32) &&& 31).toUInt32).toInt32)), (.int (25 : Int32))]))
        refine own_go (fun _ k => XS.isub X0.here hx rfl (hb hby d5_77) rfl k) ?_
        show own_R _ _ _ _ (s₁.setTop (mkF m 78 #[.val (.int (own_s (own_s p1 (4 : Int32)) (2 : Int32))), .val (.int (25 : Int32))] [(.int ((25 : Int32) - (((own_s (own_s p1 (4 : Int32)) (2 : Int32)).toUInt32 >>> ((1 : Int32) &&& 31).toUInt32).toInt32)))]))
        exact own_retI X0 hx Bd.returns (hb hby d5_78) hlk ⟨by rw [own_nlz, own_n1, if_pos hc3, own_n2, if_neg hc4, own_n3, if_neg hc6, own_n4]; rfl, NF, e0⟩ (by decide) (by decide)
  · refine own_go (fun _ k => XS.icmpNo X0.here hx rfl (hb hby d5_37) rfl (flt hc3).1 k) ?_
    show own_R _ _ _ _ (s₁.setTop (mkF m 40 #[.val (.int p1), .val (.int (31 : Int32))] []))
    refine own_go (fun _ k => XS.iinc X0.here hx rfl (hb hby d5_40) rfl (l' := #[.val (.int p1), .val (.int (23 : Int32))]) rfl k) ?_
    show own_R _ _ _ _ (s₁.setTop (mkF m 43 #[.val (.int p1), .val (.int (23 : Int32))] []))
    refine own_go (fun _ k => XS.iloadN X0.here hx rfl (hb hby d5_43) rfl k) ?_
    show own_R _ _ _ _ (s₁.setTop (mkF m 44 #[.val (.int p1), .val (.int (23 : Int32))] [(.int p1)]))
    refine own_go (fun _ k => XS.bipush X0.here hx rfl (hb hby d5_44) k) ?_
    show own_R _ _ _ _ (s₁.setTop (mkF m 46 #[.val (.int p1), .val (.int (23 : Int32))] [(.int (8 : Int32)), (.int p1)]))
    refine own_go (fun _ k => XS.iushr X0.here hx rfl (hb hby d5_46) rfl k) ?_
    show own_R _ _ _ _ (s₁.setTop (mkF m 47 #[.val (.int p1), .val (.int (23 : Int32))] [(.int ((p1.toUInt32 >>> ((8 : Int32) &&& 31).toUInt32).toInt32))]))
    refine own_go (fun _ k => XS.istoreN X0.here hx rfl (hb hby d5_47) rfl (l' := #[.val (.int ((p1.toUInt32 >>> ((8 : Int32) &&& 31).toUInt32).toInt32)), .val (.int (23 : Int32))]) rfl k) ?_
    show own_R _ _ _ _ (s₁.setTop (mkF m 48 #[.val (.int ((p1.toUInt32 >>> ((8 : Int32) &&& 31).toUInt32).toInt32)), .val (.int (23 : Int32))] []))
    show own_R _ _ _ _ (s₁.setTop (mkF m 48 #[.val (.int (own_s p1 (8 : Int32))), .val (.int (23 : Int32))] []))
    refine own_go (fun _ k => XS.iloadN X0.here hx rfl (hb hby d5_48) rfl k) ?_
    show own_R _ _ _ _ (s₁.setTop (mkF m 49 #[.val (.int (own_s p1 (8 : Int32))), .val (.int (23 : Int32))] [(.int (own_s p1 (8 : Int32)))]))
    refine own_go (fun _ k => XS.bipush X0.here hx rfl (hb hby d5_49) k) ?_
    show own_R _ _ _ _ (s₁.setTop (mkF m 51 #[.val (.int (own_s p1 (8 : Int32))), .val (.int (23 : Int32))] [(.int (16 : Int32)), (.int (own_s p1 (8 : Int32)))]))
    by_cases hc7 : (own_s p1 (8 : Int32)) < (16 : Int32)
    · refine own_go (fun _ k => XS.icmpYes X0.here hx rfl (pc0 := 51) (pc' := 61) rfl (hb hby d5_51) rfl (tlt hc7).1 (by decide) (by decide) k) ?_
      show own_R _ _ _ _ (s₁.setTop (mkF m 61 #[.val (.int (own_s p1 (8 : Int32))), .val (.int (23 : Int32))] []))
      refine own_go (fun _ k => XS.iloadN X0.here hx rfl (hb hby d5_61) rfl k) ?_
      show own_R _ _ _ _ (s₁.setTop (mkF m 62 #[.val (.int (own_s p1 (8 : Int32))), .val (.int (23 : Int32))] [(.int (own_s p1 (8 : Int32)))]))
      refine own_go (fun _ k => XS.iconst X0.here hx rfl (hb hby d5_62) k) ?_
      show own_R _ _ _ _ (s₁.setTop (mkF m 63 #[.val (.int (own_s p1 (8 : Int32))), .val (.int (23 : Int32))] [(.int (4 : Int32)), (.int (own_s p1 (8 : Int32)))]))
      by_cases hc8 : (own_s p1 (8 : Int32)) < (4 : Int32)
      · refine own_go (fun _ k => XS.icmpYes X0.here hx rfl (pc0 := 63) (pc' := 73) rfl (hb hby d5_63) rfl (tlt hc8).1 (by decide) (by decide) k) ?_
        show own_R _ _ _ _ (s₁.setTop (mkF m 73 #[.val (.int (own_s p1 (8 : Int32))), .val (.int (23 : Int32))] []))
        refine own_go (fun _ k => XS.iloadN X0.here hx rfl (hb hby d5_73) rfl k) ?_
        show own_R _ _ _ _ (s₁.setTop (mkF m 74 #[.val (.int (own_s p1 (8 : Int32))), .val (.int (23 : Int32))] [(.int (23 : Int32))]))
        refine own_go (fun _ k => XS.iloadN X0.here hx rfl (hb hby d5_74) rfl k) ?_
        show own_R _ _ _ _ (s₁.setTop (mkF m 75 #[.val (.int (own_s p1 (8 : Int32))), .val (.int (23 : Int32))] [(.int (own_s p1 (8 : Int32))), (.int (23 : Int32))]))
        refine own_go (fun _ k => XS.iconst X0.here hx rfl (hb hby d5_75) k) ?_
        show own_R _ _ _ _ (s₁.setTop (mkF m 76 #[.val (.int (own_s p1 (8 : Int32))), .val (.int (23 : Int32))] [(.int (1 : Int32)), (.int (own_s p1 (8 : Int32))), (.int (23 : Int32))]))
        refine own_go (fun _ k => XS.iushr X0.here hx rfl (hb hby d5_76) rfl k) ?_
        show own_R _ _ _ _ (s₁.setTop (mkF m 77 #[.val (.int (own_s p1 (8 : Int32))), .val (.int (23 : Int32))] [(.int (((own_s p1 (8 : Int32)).toUInt32 >>> ((1 : Int32) &&& 31).toUInt32).toInt32)), (.int (23 : Int32))]))
        refine own_go (fun _ k => XS.isub X0.here hx rfl (hb hby d5_77) rfl k) ?_
        show own_R _ _ _ _ (s₁.setTop (mkF m 78 #[.val (.int (own_s p1 (8 : Int32))), .val (.int (23 : Int32))] [(.int ((23 : Int32) - (((own_s p1 (8 : Int32)).toUInt32 >>> ((1 : Int32) &&& 31).toUInt32).toInt32)))]))
        exact own_retI X0 hx Bd.returns (hb hby d5_78) hlk ⟨by rw [own_nlz, own_n1, if_neg hc3, own_n2, if_pos hc7, own_n3, if_pos hc8, own_n4]; rfl, NF, e0⟩ (by decide) (by decide)
      · refine own_go (fun _ k => XS.icmpNo X0.here hx rfl (hb hby d5_63) rfl (flt hc8).1 k) ?_
        show own_R _ _ _ _ (s₁.setTop (mkF m 66 #[.val (.int (own_s p1 (8 : Int32))), .val (.int (23 : Int32))] []))
        refine own_go (fun _ k => XS.iinc X0.here hx rfl (hb hby d5_66) rfl (l' := #[.val (.int (own_s p1 (8 : Int32))), .val (.int (21 : Int32))]) rfl k) ?_
        show own_R _ _ _ _ (s₁.setTop (mkF m 69 #[.val (.int (own_s p1 (8 : Int32))), .val (.int (21 : Int32))] []))
        refine own_go (fun _ k => XS.iloadN X0.here hx rfl (hb hby d5_69) rfl k) ?_
        show own_R _ _ _ _ (s₁.setTop (mkF m 70 #[.val (.int (own_s p1 (8 : Int32))), .val (.int (21 : Int32))] [(.int (own_s p1 (8 : Int32)))]))
        refine own_go (fun _ k => XS.iconst X0.here hx rfl (hb hby d5_70) k) ?_
        show own_R _ _ _ _ (s₁.setTop (mkF m 71 #[.val (.int (own_s p1 (8 : Int32))), .val (.int (21 : Int32))] [(.int (2 : Int32)), (.int (own_s p1 (8 : Int32)))]))
        refine own_go (fun _ k => XS.iushr X0.here hx rfl (hb hby d5_71) rfl k) ?_
        show own_R _ _ _ _ (s₁.setTop (mkF m 72 #[.val (.int (own_s p1 (8 : Int32))), .val (.int (21 : Int32))] [(.int (((own_s p1 (8 : Int32)).toUInt32 >>> ((2 : Int32) &&& 31).toUInt32).toInt32))]))
        refine own_go (fun _ k => XS.istoreN X0.here hx rfl (hb hby d5_72) rfl (l' := #[.val (.int (((own_s p1 (8 : Int32)).toUInt32 >>> ((2 : Int32) &&& 31).toUInt32).toInt32)), .val (.int (21 : Int32))]) rfl k) ?_
        show own_R _ _ _ _ (s₁.setTop (mkF m 73 #[.val (.int (((own_s p1 (8 : Int32)).toUInt32 >>> ((2 : Int32) &&& 31).toUInt32).toInt32)), .val (.int (21 : Int32))] []))
        show own_R _ _ _ _ (s₁.setTop (mkF m 73 #[.val (.int (own_s (own_s p1 (8 : Int32)) (2 : Int32))), .val (.int (21 : Int32))] []))
        refine own_go (fun _ k => XS.iloadN X0.here hx rfl (hb hby d5_73) rfl k) ?_
        show own_R _ _ _ _ (s₁.setTop (mkF m 74 #[.val (.int (own_s (own_s p1 (8 : Int32)) (2 : Int32))), .val (.int (21 : Int32))] [(.int (21 : Int32))]))
        refine own_go (fun _ k => XS.iloadN X0.here hx rfl (hb hby d5_74) rfl k) ?_
        show own_R _ _ _ _ (s₁.setTop (mkF m 75 #[.val (.int (own_s (own_s p1 (8 : Int32)) (2 : Int32))), .val (.int (21 : Int32))] [(.int (own_s (own_s p1 (8 : Int32)) (2 : Int32))), (.int (21 : Int32))]))
        refine own_go (fun _ k => XS.iconst X0.here hx rfl (hb hby d5_75) k) ?_
        show own_R _ _ _ _ (s₁.setTop (mkF m 76 #[.val (.int (own_s (own_s p1 (8 : Int32)) (2 : Int32))), .val (.int (21 : Int32))] [(.int (1 : Int32)), (.int (own_s (own_s p1 (8 : Int32)) (2 : Int32))), (.int (21 : Int32))]))
        refine own_go (fun _ k => XS.iushr X0.here hx rfl (hb hby d5_76) rfl k) ?_
        show own_R _ _ _ _ (s₁.setTop (mkF m 77 #[.val (.int (own_s (own_s p1 (8 : Int32)) (2 : Int32))), .val (.int (21 : Int32))] [(.int (((own_s (own_s p1 (8 : Int32)) (2 : Int32)).toUInt32 >>> ((1 : Int32) &&& 31).toUInt32).toInt32)), (.int (21 : Int32))]))
        refine own_go (fun _ k => XS.isub X0.here hx rfl (hb hby d5_77) rfl k) ?_
        show own_R _ _ _ _ (s₁.setTop (mkF m 78 #[.val (.int (own_s (own_s p1 (8 : Int32)) (2 : Int32))), .val (.int (21 : Int32))] [(.int ((21 : Int32) - (((own_s (own_s p1 (8 : Int32)) (2 : Int32)).toUInt32 >>> ((1 : Int32) &&& 31).toUInt32).toInt32)))]))
        exact own_retI X0 hx Bd.returns (hb hby d5_78) hlk ⟨by rw [own_nlz, own_n1, if_neg hc3, own_n2, if_pos hc7, own_n3, if_neg hc8, own_n4]; rfl, NF, e0⟩ (by decide) (by decide)
    · refine own_go (fun _ k => XS.icmpNo X0.here hx rfl (hb hby d5_51) rfl (flt hc7).1 k) ?_
      show own_R _ _ _ _ (s₁.setTop (mkF m 54 #[.val (.int (own_s p1 (8 : Int32))), .val (.int (23 : Int32))] []))
      refine own_go (fun _ k => XS.iinc X0.here hx rfl (hb hby d5_54) rfl (l' := #[.val (.int (own_s p1 (8 : Int32))), .val (.int (19 : Int32))]) rfl k) ?_
      show own_R _ _ _ _ (s₁.setTop (mkF m 57 #[.val (.int (own_s p1 (8 : Int32))), .val (.int (19 : Int32))] []))
      refine own_go (fun _ k => XS.iloadN X0.here hx rfl (hb hby d5_57) rfl k) ?_
      show own_R _ _ _ _ (s₁.setTop (mkF m 58 #[.val (.int (own_s p1 (8 : Int32))), .val (.int (19 : Int32))] [(.int (own_s p1 (8 : Int32)))]))
      refine own_go (fun _ k => XS.iconst X0.here hx rfl (hb hby d5_58) k) ?_
      show own_R _ _ _ _ (s₁.setTop (mkF m 59 #[.val (.int (own_s p1 (8 : Int32))), .val (.int (19 : Int32))] [(.int (4 : Int32)), (.int (own_s p1 (8 : Int32)))]))
      refine own_go (fun _ k => XS.iushr X0.here hx rfl (hb hby d5_59) rfl k) ?_
      show own_R _ _ _ _ (s₁.setTop (mkF m 60 #[.val (.int (own_s p1 (8 : Int32))), .val (.int (19 : Int32))] [(.int (((own_s p1 (8 : Int32)).toUInt32 >>> ((4 : Int32) &&& 31).toUInt32).toInt32))]))
      refine own_go (fun _ k => XS.istoreN X0.here hx rfl (hb hby d5_60) rfl (l' := #[.val (.int (((own_s p1 (8 : Int32)).toUInt32 >>> ((4 : Int32) &&& 31).toUInt32).toInt32)), .val (.int (19 : Int32))]) rfl k) ?_
      show own_R _ _ _ _ (s₁.setTop (mkF m 61 #[.val (.int (((own_s p1 (8 : Int32)).toUInt32 >>> ((4 : Int32) &&& 31).toUInt32).toInt32)), .val (.int (19 : Int32))] []))
      show own_R _ _ _ _ (s₁.setTop (mkF m 61 #[.val (.int (own_s (own_s p1 (8 : Int32)) (4 : Int32))), .val (.int (19 : Int32))] []))
      refine own_go (fun _ k => XS.iloadN X0.here hx rfl (hb hby d5_61) rfl k) ?_
      show own_R _ _ _ _ (s₁.setTop (mkF m 62 #[.val (.int (own_s (own_s p1 (8 : Int32)) (4 : Int32))), .val (.int (19 : Int32))] [(.int (own_s (own_s p1 (8 : Int32)) (4 : Int32)))]))
      refine own_go (fun _ k => XS.iconst X0.here hx rfl (hb hby d5_62) k) ?_
      show own_R _ _ _ _ (s₁.setTop (mkF m 63 #[.val (.int (own_s (own_s p1 (8 : Int32)) (4 : Int32))), .val (.int (19 : Int32))] [(.int (4 : Int32)), (.int (own_s (own_s p1 (8 : Int32)) (4 : Int32)))]))
      by_cases hc9 : (own_s (own_s p1 (8 : Int32)) (4 : Int32)) < (4 : Int32)
      · refine own_go (fun _ k => XS.icmpYes X0.here hx rfl (pc0 := 63) (pc' := 73) rfl (hb hby d5_63) rfl (tlt hc9).1 (by decide) (by decide) k) ?_
        show own_R _ _ _ _ (s₁.setTop (mkF m 73 #[.val (.int (own_s (own_s p1 (8 : Int32)) (4 : Int32))), .val (.int (19 : Int32))] []))
        refine own_go (fun _ k => XS.iloadN X0.here hx rfl (hb hby d5_73) rfl k) ?_
        show own_R _ _ _ _ (s₁.setTop (mkF m 74 #[.val (.int (own_s (own_s p1 (8 : Int32)) (4 : Int32))), .val (.int (19 : Int32))] [(.int (19 : Int32))]))
        refine own_go (fun _ k => XS.iloadN X0.here hx rfl (hb hby d5_74) rfl k) ?_
        show own_R _ _ _ _ (s₁.setTop (mkF m 75 #[.val (.int (own_s (own_s p1 (8 : Int32)) (4 : Int32))), .val (.int (19 : Int32))] [(.int (own_s (own_s p1 (8 : Int32)) (4 : Int32))), (.int (19 : Int32))]))
        refine own_go (fun _ k => XS.iconst X0.here hx rfl (hb hby d5_75) k) ?_
        show own_R _ _ _ _ (s₁.setTop (mkF m 76 #[.val (.int (own_s (own_s p1 (8 : Int32)) (4 : Int32))), .val (.int (19 : Int32))] [(.int (1 : Int32)), (.int (own_s (own_s p1 (8 : Int32)) (4 : Int32))), (.int (19 : Int32))]))
        refine own_go (fun _ k => XS.iushr X0.here hx rfl (hb hby d5_76) rfl k) ?_
        show own_R _ _ _ _ (s₁.setTop (mkF m 77 #[.val (.int (own_s (own_s p1 (8 : Int32)) (4 : Int32))), .val (.int (19 : Int32))] [(.int (((own_s (own_s p1 (8 : Int32)) (4 : Int32)).toUInt32 >>> ((1 : Int32) &&& 31).toUInt32).toInt32)), (.int (19 : Int32))]))
        refine own_go (fun _ k => XS.isub X0.here hx rfl (hb hby d5_77) rfl k) ?_
        show own_R _ _ _ _ (s₁.setTop (mkF m 78 #[.val (.int (own_s (own_s p1 (8 : Int32)) (4 : Int32))), .val (.int (19 : Int32))] [(.int ((19 : Int32) - (((own_s (own_s p1 (8 : Int32)) (4 : Int32)).toUInt32 >>> ((1 : Int32) &&& 31).toUInt32).toInt32)))]))
        exact own_retI X0 hx Bd.returns (hb hby d5_78) hlk ⟨by rw [own_nlz, own_n1, if_neg hc3, own_n2, if_neg hc7, own_n3, if_pos hc9, own_n4]; rfl, NF, e0⟩ (by decide) (by decide)
      · refine own_go (fun _ k => XS.icmpNo X0.here hx rfl (hb hby d5_63) rfl (flt hc9).1 k) ?_
        show own_R _ _ _ _ (s₁.setTop (mkF m 66 #[.val (.int (own_s (own_s p1 (8 : Int32)) (4 : Int32))), .val (.int (19 : Int32))] []))
        refine own_go (fun _ k => XS.iinc X0.here hx rfl (hb hby d5_66) rfl (l' := #[.val (.int (own_s (own_s p1 (8 : Int32)) (4 : Int32))), .val (.int (17 : Int32))]) rfl k) ?_
        show own_R _ _ _ _ (s₁.setTop (mkF m 69 #[.val (.int (own_s (own_s p1 (8 : Int32)) (4 : Int32))), .val (.int (17 : Int32))] []))
        refine own_go (fun _ k => XS.iloadN X0.here hx rfl (hb hby d5_69) rfl k) ?_
        show own_R _ _ _ _ (s₁.setTop (mkF m 70 #[.val (.int (own_s (own_s p1 (8 : Int32)) (4 : Int32))), .val (.int (17 : Int32))] [(.int (own_s (own_s p1 (8 : Int32)) (4 : Int32)))]))
        refine own_go (fun _ k => XS.iconst X0.here hx rfl (hb hby d5_70) k) ?_
        show own_R _ _ _ _ (s₁.setTop (mkF m 71 #[.val (.int (own_s (own_s p1 (8 : Int32)) (4 : Int32))), .val (.int (17 : Int32))] [(.int (2 : Int32)), (.int (own_s (own_s p1 (8 : Int32)) (4 : Int32)))]))
        refine own_go (fun _ k => XS.iushr X0.here hx rfl (hb hby d5_71) rfl k) ?_
        show own_R _ _ _ _ (s₁.setTop (mkF m 72 #[.val (.int (own_s (own_s p1 (8 : Int32)) (4 : Int32))), .val (.int (17 : Int32))] [(.int (((own_s (own_s p1 (8 : Int32)) (4 : Int32)).toUInt32 >>> ((2 : Int32) &&& 31).toUInt32).toInt32))]))
        refine own_go (fun _ k => XS.istoreN X0.here hx rfl (hb hby d5_72) rfl (l' := #[.val (.int (((own_s (own_s p1 (8 : Int32)) (4 : Int32)).toUInt32 >>> ((2 : Int32) &&& 31).toUInt32).toInt32)), .val (.int (17 : Int32))]) rfl k) ?_
        show own_R _ _ _ _ (s₁.setTop (mkF m 73 #[.val (.int (((own_s (own_s p1 (8 : Int32)) (4 : Int32)).toUInt32 >>> ((2 : Int32) &&& 31).toUInt32).toInt32)), .val (.int (17 : Int32))] []))
        show own_R _ _ _ _ (s₁.setTop (mkF m 73 #[.val (.int (own_s (own_s (own_s p1 (8 : Int32)) (4 : Int32)) (2 : Int32))), .val (.int (17 : Int32))] []))
        refine own_go (fun _ k => XS.iloadN X0.here hx rfl (hb hby d5_73) rfl k) ?_
        show own_R _ _ _ _ (s₁.setTop (mkF m 74 #[.val (.int (own_s (own_s (own_s p1 (8 : Int32)) (4 : Int32)) (2 : Int32))), .val (.int (17 : Int32))] [(.int (17 : Int32))]))
        refine own_go (fun _ k => XS.iloadN X0.here hx rfl (hb hby d5_74) rfl k) ?_
        show own_R _ _ _ _ (s₁.setTop (mkF m 75 #[.val (.int (own_s (own_s (own_s p1 (8 : Int32)) (4 : Int32)) (2 : Int32))), .val (.int (17 : Int32))] [(.int (own_s (own_s (own_s p1 (8 : Int32)) (4 : Int32)) (2 : Int32))), (.int (17 : Int32))]))
        refine own_go (fun _ k => XS.iconst X0.here hx rfl (hb hby d5_75) k) ?_
        show own_R _ _ _ _ (s₁.setTop (mkF m 76 #[.val (.int (own_s (own_s (own_s p1 (8 : Int32)) (4 : Int32)) (2 : Int32))), .val (.int (17 : Int32))] [(.int (1 : Int32)), (.int (own_s (own_s (own_s p1 (8 : Int32)) (4 : Int32)) (2 : Int32))), (.int (17 : Int32))]))
        refine own_go (fun _ k => XS.iushr X0.here hx rfl (hb hby d5_76) rfl k) ?_
        show own_R _ _ _ _ (s₁.setTop (mkF m 77 #[.val (.int (own_s (own_s (own_s p1 (8 : Int32)) (4 : Int32)) (2 : Int32))), .val (.int (17 : Int32))] [(.int (((own_s (own_s (own_s p1 (8 : Int32)) (4 : Int32)) (2 : Int32)).toUInt32 >>> ((1 : Int32) &&& 31).toUInt32).toInt32)), (.int (17 : Int32))]))
        refine own_go (fun _ k => XS.isub X0.here hx rfl (hb hby d5_77) rfl k) ?_
        show own_R _ _ _ _ (s₁.setTop (mkF m 78 #[.val (.int (own_s (own_s (own_s p1 (8 : Int32)) (4 : Int32)) (2 : Int32))), .val (.int (17 : Int32))] [(.int ((17 : Int32) - (((own_s (own_s (own_s p1 (8 : Int32)) (4 : Int32)) (2 : Int32)).toUInt32 >>> ((1 : Int32) &&& 31).toUInt32).toInt32)))]))
        exact own_retI X0 hx Bd.returns (hb hby d5_78) hlk ⟨by rw [own_nlz, own_n1, if_neg hc3, own_n2, if_neg hc7, own_n3, if_neg hc9, own_n4]; rfl, NF, e0⟩ (by decide) (by decide)
theorem d4_0 : decode jdk_33_method_45_code 0 = .ok (.iload_n 0, 1) := by decide +kernel
theorem d4_1 : decode jdk_33_method_45_code 1 = .ok (.ldc 127, 2) := by decide +kernel
theorem d4_3 : decode jdk_33_method_45_code 3 = .ok (.iload_n 0, 1) := by decide +kernel
theorem d4_4 : decode jdk_33_method_45_code 4 = .ok (.invokestatic 51, 3) := by decide +kernel
theorem d4_7 : decode jdk_33_method_45_code 7 = .ok (.iushr, 1) := by decide +kernel
theorem d4_8 : decode jdk_33_method_45_code 8 = .ok (.iand, 1) := by decide +kernel
theorem d4_9 : decode jdk_33_method_45_code 9 = .ok (.ireturn, 1) := by decide +kernel
theorem ef_4 (m : MethodId) (x0 : Int32) : entryFrame m #[(.int x0)] 1 = mkF m 0 #[.val (.int x0)] [] := by first | (simp [entryFrame, mkF, argsToLocals, Value.category]; done) | rfl
def Q4 (Z : State) (p1 : Int32) (h0 : Heap) (n0 : Nat) (v : Option Value) (h : Heap) (L : List Loc) : Prop := v = some (.int (own_hob p1)) ∧ Fr n0 L ∧ h = h0
set_option maxRecDepth 65536 in
set_option maxHeartbeats 40000000 in
theorem rm4 (l : Launch) (Z : State) (a0 : Array Value) (hw : ∀ d ∈ tables_1, d.before a0 Z = true) (ws : List Jvm.Cond) (p1 : Int32) (h0 : Heap) (n0 : Nat) (ZS : n0 ≤ h0.size) (hp0 : (0 : Int32) < p1) (hp1 : p1 < (65536 : Int32)) :
    MetFree l (⟨"java/lang/Integer", "highestOneBit", "(I)I"⟩ : MethodName) (head1 (Jvm.Cond.code (⟨"java/lang/Integer", "highestOneBit", "(I)I"⟩ : MethodName) jdk_33_method_45_code 1 (some .int) :: ws) ({ frames := 1, cells := 0, slots := 0, locals := 15 } : Room)) (fun a U => a = #[(.int p1)] ∧ Z.Warmed39 U.vm ∧ U.heap = h0) (fun _ _ _ _ _ => True) (fun _ U o U' => ∃ v L, o = .returned v ∧ Q4 Z p1 h0 n0 v U'.heap L ∧ FrameEnd U o U' L ({ frames := 1, cells := 0, slots := 0, locals := 15 } : Room).cells ({ frames := 1, cells := 0, slots := 0, locals := 15 } : Room).slots) := by
  refine MetFree.of_bodySF (plainFor_of_name pn_5) hisR ?_
  intro p e s m args below meth c s₁ Bd hml0 hP hK
  obtain ⟨rfl, hZ, hh⟩ := hP
  have hx := Bd.exec
  have hby := Bd.bytes
  have hml : c.maxLocals = 1 := hml0
  have hown : s.vm.findClass "java/lang/Integer" = some m.cls := findClass_of_methodNamed Bd.named
  have hnm := (name_of_methodNamed Bd.named Bd.method).1
  have hlk : meth.locks = false := Bd.notSynchronized
  have X0 : Stand p l e ({ frames := 1, cells := 0, slots := 0, locals := 15 } : Room) s m #[(.int p1)] below meth c s₁ [] 0 0 := Stand.of_body Bd
  have e0 : s₁.heap = h0 := by rw [← hh, Bd.state]; rfl
  have NF := Fr.nil n0
  have KP : Keep h0 h0 [] := Keep.refl _ _
  refine own_fin (s := s) (Q := Q4 Z p1 h0 n0) (rc := ({ frames := 1, cells := 0, slots := 0, locals := 15 } : Room).cells) (rs := ({ frames := 1, cells := 0, slots := 0, locals := 15 } : Room).slots) ?_
  refine own_go (fun t k => castTop (ef_4 m p1) k) ?_
  show own_R _ _ _ _ (s₁.setTop (mkF m 0 #[.val (.int p1)] []))
  refine own_go (fun _ k => XS.iloadN X0.here hx rfl (hb hby d4_0) rfl k) ?_
  show own_R _ _ _ _ (s₁.setTop (mkF m 1 #[.val (.int p1)] [(.int p1)]))
  refine own_go (X0.ldcInt hx hown (mvT hZ (hw _ (List.mem_of_getElem? (i := 17) rfl))) (g := (mkF m 1 #[.val (.int p1)] [(.int p1)])) rfl (hb hby d4_1)) ?_
  show own_R _ _ _ _ (s₁.setTop (mkF m 3 #[.val (.int p1)] [(.int (-2147483648 : Int32)), (.int p1)]))
  refine own_go (fun _ k => XS.iloadN X0.here hx rfl (hb hby d4_3) rfl k) ?_
  show own_R _ _ _ _ (s₁.setTop (mkF m 4 #[.val (.int p1)] [(.int p1), (.int (-2147483648 : Int32)), (.int p1)]))
  obtain ⟨_, _, ⟨T10, L10, k10, n10⟩, -, X10, ⟨Lc10, hQ10, l10, y10, z10⟩, st10⟩ := Jvm.LawKit.callS X0 hx (y := (⟨"java/lang/Integer", "numberOfLeadingZeros", "(I)I"⟩ : MethodName)) hown (mvT hZ (hw _ (List.mem_of_getElem? (i := 18) rfl))) (mvT hZ (hw _ (List.mem_of_getElem? (i := 19) rfl))) (mvT hZ (hw _ (List.mem_of_getElem? (i := 15) rfl))) (mvT hZ (hw _ (List.mem_of_getElem? (i := 20) rfl))) (by decide) (backOf (W := 2) (rm5 l Z a0 hw [] p1 h0 n0 ZS hp0 hp1) hZ (hw _ (List.mem_of_getElem? (i := 20) rfl)) (hw _ (List.mem_of_getElem? (i := 15) rfl)) (by decide) (by decide)) (g := (mkF m 4 #[.val (.int p1)] [(.int p1), (.int (-2147483648 : Int32)), (.int p1)])) rfl (by rw [hml]; rfl) (argsL := [(.int p1)]) (rest := [(.int (-2147483648 : Int32)), (.int p1)]) (lenOf pd_0 rfl) rfl (by show 2 * 0 + _ ≤ _; exact Nat.le_of_eq rfl) (hb hby d4_4) (fun _ _ => ⟨rfl, e0, (by decide : 0 + 0 ≤ _), (by decide : 0 + 0 ≤ _)⟩)
  dsimp only [Pt.U, Pt.locs, Pt.cells, Pt.slots] at X10 l10 y10 z10 st10 hQ10
  subst l10 y10 z10
  obtain ⟨rfl, N10q, e10⟩ := hQ10
  have NF := Fr.app NF N10q
  refine own_go st10 ?_
  show own_R _ _ _ _ (T10.setTop (mkF m 7 #[.val (.int p1)] [(.int (own_nlz p1)), (.int (-2147483648 : Int32)), (.int p1)]))
  refine own_go (fun _ k => XS.iushr X10.here hx rfl (hb hby d4_7) rfl k) ?_
  show own_R _ _ _ _ (T10.setTop (mkF m 8 #[.val (.int p1)] [(.int (((-2147483648 : Int32).toUInt32 >>> ((own_nlz p1) &&& 31).toUInt32).toInt32)), (.int p1)]))
  refine own_go (fun _ k => XS.iand X10.here hx rfl (hb hby d4_8) rfl k) ?_
  show own_R _ _ _ _ (T10.setTop (mkF m 9 #[.val (.int p1)] [(.int (p1 &&& (((-2147483648 : Int32).toUInt32 >>> ((own_nlz p1) &&& 31).toUInt32).toInt32)))]))
  exact own_retI X10 hx Bd.returns (hb hby d4_9) hlk ⟨rfl, NF, e10⟩ (by decide) (by decide)
theorem d7_0 : decode jdk_65_method_101_code 0 = .ok (.iconst 0, 1) := by decide +kernel
theorem d7_1 : decode jdk_65_method_101_code 1 = .ok (.istore_n 3, 1) := by decide +kernel
theorem d7_2 : decode jdk_65_method_101_code 2 = .ok (.aload_n 0, 1) := by decide +kernel
theorem d7_3 : decode jdk_65_method_101_code 3 = .ok (.arraylength, 1) := by decide +kernel
theorem d7_4 : decode jdk_65_method_101_code 4 = .ok (.istore 4, 2) := by decide +kernel
theorem d7_6 : decode jdk_65_method_101_code 6 = .ok (.iload_n 3, 1) := by decide +kernel
theorem d7_7 : decode jdk_65_method_101_code 7 = .ok (.iload 4, 2) := by decide +kernel
theorem d7_9 : decode jdk_65_method_101_code 9 = .ok (.if_icmp .ge 13, 3) := by decide +kernel
theorem d7_12 : decode jdk_65_method_101_code 12 = .ok (.aload_n 0, 1) := by decide +kernel
theorem d7_13 : decode jdk_65_method_101_code 13 = .ok (.iload_n 3, 1) := by decide +kernel
theorem d7_14 : decode jdk_65_method_101_code 14 = .ok (.lload_n 1, 1) := by decide +kernel
theorem d7_15 : decode jdk_65_method_101_code 15 = .ok (.lastore, 1) := by decide +kernel
theorem d7_16 : decode jdk_65_method_101_code 16 = .ok (.iinc 3 1, 3) := by decide +kernel
theorem d7_19 : decode jdk_65_method_101_code 19 = .ok (.goto (-13), 3) := by decide +kernel
theorem d7_22 : decode jdk_65_method_101_code 22 = .ok (.return_, 1) := by decide +kernel
theorem pn_7 : plainName "java/util/Arrays" = true := by first | (simp [plainName, overriddenIn]; done) | decide +kernel
theorem ef_7 (m : MethodId) (x0 : Addr) (x1 : Int64) : entryFrame m #[(.ref x0), (.long x1)] 5 = mkF m 0 #[.val (.ref x0), .val (.long x1), .second, .unset, .unset] [] := by first | (simp [entryFrame, mkF, argsToLocals, Value.category]; done) | rfl
def Q7 (Z : State) (a1 : Addr) (q2 : Int64) (k1 : ClassId) (n : Nat) (vs : List Value) (h0 : Heap) (n0 : Nat) (v : Option Value) (h : Heap) (L : List Loc) : Prop := v = none ∧ Fr n0 L ∧ Keep h0 h [a1] ∧ Arv Z h a1 k1 .long (Int32.ofNat n) ((List.replicate n q2).map own_L) (.long (0 : Int64))
set_option maxRecDepth 65536 in
set_option maxHeartbeats 40000000 in
theorem rm7 (l : Launch) (Z : State) (a0 : Array Value) (hw : ∀ d ∈ tables_1, d.before a0 Z = true) (ws : List Jvm.Cond) (a1 : Addr) (q2 : Int64) (k1 : ClassId) (n : Nat) (vs : List Value) (h0 : Heap) (n0 : Nat) (ZS : n0 ≤ h0.size) (V_a1 : Arv Z h0 a1 k1 .long (Int32.ofNat n) vs (.long (0 : Int64))) (g_a1 : n0 ≤ a1) (hn : n ≤ 1024) (hvl : vs.length = n) :
    MetFree l (⟨"java/util/Arrays", "fill", "([JJ)V"⟩ : MethodName) (head1 (Jvm.Cond.code (⟨"java/util/Arrays", "fill", "([JJ)V"⟩ : MethodName) jdk_65_method_101_code 5 none :: ws) ({ frames := 0, cells := 0, slots := 0, locals := 0 } : Room)) (fun a U => a = #[(.ref a1), (.long q2)] ∧ Z.Warmed39 U.vm ∧ U.heap = h0) (fun _ _ _ _ _ => True) (fun _ U o U' => ∃ v L, o = .returned v ∧ Q7 Z a1 q2 k1 n vs h0 n0 v U'.heap L ∧ FrameEnd U o U' L ({ frames := 0, cells := 0, slots := 0, locals := 0 } : Room).cells ({ frames := 0, cells := 0, slots := 0, locals := 0 } : Room).slots) := by
  refine MetFree.of_bodySF (plainFor_of_name pn_7) hisR ?_
  intro p e s m args below meth c s₁ Bd hml0 hP hK
  obtain ⟨rfl, hZ, hh⟩ := hP
  have hx := Bd.exec
  have hby := Bd.bytes
  have hml : c.maxLocals = 5 := hml0
  have hown : s.vm.findClass "java/util/Arrays" = some m.cls := findClass_of_methodNamed Bd.named
  have hnm := (name_of_methodNamed Bd.named Bd.method).1
  have hlk : meth.locks = false := Bd.notSynchronized
  have X0 : Stand p l e ({ frames := 0, cells := 0, slots := 0, locals := 0 } : Room) s m #[(.ref a1), (.long q2)] below meth c s₁ [] 0 0 := Stand.of_body Bd
  have e0 : s₁.heap = h0 := by rw [← hh, Bd.state]; rfl
  have NF := Fr.nil n0
  have KP : Keep h0 h0 [a1] := Keep.refl _ _
  refine own_fin (s := s) (Q := Q7 Z a1 q2 k1 n vs h0 n0) (rc := ({ frames := 0, cells := 0, slots := 0, locals := 0 } : Room).cells) (rs := ({ frames := 0, cells := 0, slots := 0, locals := 0 } : Room).slots) ?_
  refine own_go (fun t k => castTop (ef_7 m a1 q2) k) ?_
  show own_R _ _ _ _ (s₁.setTop (mkF m 0 #[.val (.ref a1), .val (.long q2), .second, .unset, .unset] []))
  refine own_go (fun _ k => XS.iconst X0.here hx rfl (hb hby d7_0) k) ?_
  show own_R _ _ _ _ (s₁.setTop (mkF m 1 #[.val (.ref a1), .val (.long q2), .second, .unset, .unset] [(.int (0 : Int32))]))
  refine own_go (fun _ k => XS.istoreN X0.here hx rfl (hb hby d7_1) rfl (l' := #[.val (.ref a1), .val (.long q2), .second, .val (.int (0 : Int32)), .unset]) rfl k) ?_
  show own_R _ _ _ _ (s₁.setTop (mkF m 2 #[.val (.ref a1), .val (.long q2), .second, .val (.int (0 : Int32)), .unset] []))
  refine own_go (fun _ k => XS.aloadN X0.here hx rfl (hb hby d7_2) rfl rfl k) ?_
  show own_R _ _ _ _ (s₁.setTop (mkF m 3 #[.val (.ref a1), .val (.long q2), .second, .val (.int (0 : Int32)), .unset] [(.ref a1)]))
  refine own_go (own_len X0 hx hZ e0 V_a1 (g := (mkF m 3 #[.val (.ref a1), .val (.long q2), .second, .val (.int (0 : Int32)), .unset] [(.ref a1)])) rfl rfl (hb hby d7_3)) ?_
  show own_R _ _ _ _ (s₁.setTop (mkF m 4 #[.val (.ref a1), .val (.long q2), .second, .val (.int (0 : Int32)), .unset] [(.int (Int32.ofNat n))]))
  refine own_go (fun _ k => XS.istore X0.here hx rfl (hb hby d7_4) rfl (l' := #[.val (.ref a1), .val (.long q2), .second, .val (.int (0 : Int32)), .val (.int (Int32.ofNat n))]) rfl k) ?_
  show own_R _ _ _ _ (s₁.setTop (mkF m 6 #[.val (.ref a1), .val (.long q2), .second, .val (.int (0 : Int32)), .val (.int (Int32.ofNat n))] []))
  suffices loop : ∀ (kk i : Nat) (ws : List Value) (T : State) (h : Heap) (locs : List Loc), i + kk = n → ws.length = n → (∀ j, j < i → ws.getD j (.long (0 : Int64)) = .long q2) → Stand p l e ({ frames := 0, cells := 0, slots := 0, locals := 0 } : Room) s m #[(.ref a1), (.long q2)] below meth c T locs 0 0 → T.heap = h → Fr n0 locs → Keep h0 h [a1] → n0 ≤ h.size → Arv Z h a1 k1 .long (Int32.ofNat n) ws (.long (0 : Int64)) → own_R p.tables e below (own_F below s (Q7 Z a1 q2 k1 n vs h0 n0) ({ frames := 0, cells := 0, slots := 0, locals := 0 } : Room).cells ({ frames := 0, cells := 0, slots := 0, locals := 0 } : Room).slots) (T.setTop (mkF m 6 #[.val (.ref a1), .val (.long q2), .second, .val (.int (Int32.ofNat i)), .val (.int (Int32.ofNat n))] [])) from loop n 0 vs _ _ _ (by omega) hvl (fun j hj => absurd hj (Nat.not_lt_zero _)) X0 e0 NF KP ZS V_a1
  intro kk
  induction kk with
  | zero =>
    intro i ws T h locs hk hl hf X eT NF KP ZS V_a1
    refine own_go (fun _ k => XS.iloadN X.here hx rfl (hb hby d7_6) rfl k) ?_
    show own_R _ _ _ _ (T.setTop (mkF m 7 #[.val (.ref a1), .val (.long q2), .second, .val (.int (Int32.ofNat i)), .val (.int (Int32.ofNat n))] [(.int (Int32.ofNat i))]))
    refine own_go (fun _ k => XS.iload X.here hx rfl (hb hby d7_7) rfl k) ?_
    show own_R _ _ _ _ (T.setTop (mkF m 9 #[.val (.ref a1), .val (.long q2), .second, .val (.int (Int32.ofNat i)), .val (.int (Int32.ofNat n))] [(.int (Int32.ofNat n)), (.int (Int32.ofNat i))]))
    refine own_go (fun _ k => XS.icmpYes X.here hx rfl (pc0 := 9) (pc' := 22) rfl (hb hby d7_9) rfl (flt (own_nlt (by omega) (by omega) hn)).2.1 (by decide) (by decide) k) ?_
    show own_R _ _ _ _ (T.setTop (mkF m 22 #[.val (.ref a1), .val (.long q2), .second, .val (.int (Int32.ofNat i)), .val (.int (Int32.ofNat n))] []))
    exact own_ret0 X hx Bd.returns (hb hby d7_22) hlk (by rw [eT]; exact ⟨rfl, NF, KP, V_a1.pad (own_fill hl fun j hj => hf j (by omega))⟩) (by decide) (by decide)
  | succ kk ih =>
    intro i ws T h locs hk hl hf X eT NF KP ZS V_a1
    refine own_go (fun _ k => XS.iloadN X.here hx rfl (hb hby d7_6) rfl k) ?_
    show own_R _ _ _ _ (T.setTop (mkF m 7 #[.val (.ref a1), .val (.long q2), .second, .val (.int (Int32.ofNat i)), .val (.int (Int32.ofNat n))] [(.int (Int32.ofNat i))]))
    refine own_go (fun _ k => XS.iload X.here hx rfl (hb hby d7_7) rfl k) ?_
    show own_R _ _ _ _ (T.setTop (mkF m 9 #[.val (.ref a1), .val (.long q2), .second, .val (.int (Int32.ofNat i)), .val (.int (Int32.ofNat n))] [(.int (Int32.ofNat n)), (.int (Int32.ofNat i))]))
    refine own_go (fun _ k => XS.icmpNo X.here hx rfl (hb hby d7_9) rfl (tlt (own_lt (by omega) hn)).2.1 k) ?_
    show own_R _ _ _ _ (T.setTop (mkF m 12 #[.val (.ref a1), .val (.long q2), .second, .val (.int (Int32.ofNat i)), .val (.int (Int32.ofNat n))] []))
    refine own_go (fun _ k => XS.aloadN X.here hx rfl (hb hby d7_12) rfl rfl k) ?_
    show own_R _ _ _ _ (T.setTop (mkF m 13 #[.val (.ref a1), .val (.long q2), .second, .val (.int (Int32.ofNat i)), .val (.int (Int32.ofNat n))] [(.ref a1)]))
    refine own_go (fun _ k => XS.iloadN X.here hx rfl (hb hby d7_13) rfl k) ?_
    show own_R _ _ _ _ (T.setTop (mkF m 14 #[.val (.ref a1), .val (.long q2), .second, .val (.int (Int32.ofNat i)), .val (.int (Int32.ofNat n))] [(.int (Int32.ofNat i)), (.ref a1)]))
    refine own_go (fun _ k => XS.lloadN X.here hx rfl (hb hby d7_14) rfl k) ?_
    show own_R _ _ _ _ (T.setTop (mkF m 15 #[.val (.ref a1), .val (.long q2), .second, .val (.int (Int32.ofNat i)), .val (.int (Int32.ofNat n))] [(.long q2), (.int (Int32.ofNat i)), (.ref a1)]))
    obtain ⟨T11, h11, sl11, X11, e11, W11, V11, st11⟩ := own_stJ X hx hZ eT V_a1 (j := (Int32.ofNat i)) (i := i) ⟨own_nn (by omega), own_lt (by omega) hn⟩ (own_tn (by omega)) (by omega) rfl (g := (mkF m 15 #[.val (.ref a1), .val (.long q2), .second, .val (.int (Int32.ofNat i)), .val (.int (Int32.ofNat n))] [(.long q2), (.int (Int32.ofNat i)), (.ref a1)])) rfl rfl (hb hby d7_15)
    refine own_go st11 ?_
    have ZS := Nat.le_trans ZS (Keep.of_wr W11).1
    have KP := KP.wr W11 (Or.inl (List.mem_of_getElem? (i := 0) rfl))
    have NF := Fr.snoc X11 NF g_a1
    have V_a1 := V11
    show own_R _ _ _ _ (T11.setTop (mkF m 16 #[.val (.ref a1), .val (.long q2), .second, .val (.int (Int32.ofNat i)), .val (.int (Int32.ofNat n))] []))
    refine own_go (fun _ k => XS.iinc X11.here hx rfl (hb hby d7_16) rfl (l' := #[.val (.ref a1), .val (.long q2), .second, .val (.int ((Int32.ofNat i) + (1 : Int32))), .val (.int (Int32.ofNat n))]) rfl k) ?_
    show own_R _ _ _ _ (T11.setTop (mkF m 19 #[.val (.ref a1), .val (.long q2), .second, .val (.int ((Int32.ofNat i) + (1 : Int32))), .val (.int (Int32.ofNat n))] []))
    refine own_go (fun _ k => XS.goto X11.here hx rfl (pc0 := 19) (pc' := 6) rfl (hb hby d7_19) (by decide) (by decide) k) ?_
    show own_R _ _ _ _ (T11.setTop (mkF m 6 #[.val (.ref a1), .val (.long q2), .second, .val (.int ((Int32.ofNat i) + (1 : Int32))), .val (.int (Int32.ofNat n))] []))
    rw [own_one]
    refine ih (i + 1) _ _ _ _ (by omega) (by rw [List.length_set]; exact hl) (fun j hj => ?_) X11 e11 NF KP ZS V_a1
    rw [List.getD_eq_getElem?_getD]
    by_cases ej : i = j
    · subst ej; rw [List.getElem?_set_self (by omega)]; rfl
    · rw [List.getElem?_set_ne ej, ← List.getD_eq_getElem?_getD]; exact hf j (by omega)
theorem d1_0 : decode prog_61_method_1_code 0 = .ok (.aload_n 0, 1) := by decide +kernel
theorem d1_1 : decode prog_61_method_1_code 1 = .ok (.invokespecial 1, 3) := by decide +kernel
theorem d1_4 : decode prog_61_method_1_code 4 = .ok (.iconst 2, 1) := by decide +kernel
theorem d1_5 : decode prog_61_method_1_code 5 = .ok (.iload_n 1, 1) := by decide +kernel
theorem d1_6 : decode prog_61_method_1_code 6 = .ok (.imul, 1) := by decide +kernel
theorem d1_7 : decode prog_61_method_1_code 7 = .ok (.iconst 1, 1) := by decide +kernel
theorem d1_8 : decode prog_61_method_1_code 8 = .ok (.isub, 1) := by decide +kernel
theorem d1_9 : decode prog_61_method_1_code 9 = .ok (.iconst 1, 1) := by decide +kernel
theorem d1_10 : decode prog_61_method_1_code 10 = .ok (.invokestatic 7, 3) := by decide +kernel
theorem d1_13 : decode prog_61_method_1_code 13 = .ok (.invokestatic 13, 3) := by decide +kernel
theorem d1_16 : decode prog_61_method_1_code 16 = .ok (.sipush 1024, 3) := by decide +kernel
theorem d1_19 : decode prog_61_method_1_code 19 = .ok (.invokestatic 21, 3) := by decide +kernel
theorem d1_22 : decode prog_61_method_1_code 22 = .ok (.istore_n 2, 1) := by decide +kernel
theorem d1_23 : decode prog_61_method_1_code 23 = .ok (.aload_n 0, 1) := by decide +kernel
theorem d1_24 : decode prog_61_method_1_code 24 = .ok (.iload_n 2, 1) := by decide +kernel
theorem d1_25 : decode prog_61_method_1_code 25 = .ok (.newarray .long, 2) := by decide +kernel
theorem d1_27 : decode prog_61_method_1_code 27 = .ok (.putfield 24, 3) := by decide +kernel
theorem d1_30 : decode prog_61_method_1_code 30 = .ok (.aload_n 0, 1) := by decide +kernel
theorem d1_31 : decode prog_61_method_1_code 31 = .ok (.iload_n 2, 1) := by decide +kernel
theorem d1_32 : decode prog_61_method_1_code 32 = .ok (.iconst 1, 1) := by decide +kernel
theorem d1_33 : decode prog_61_method_1_code 33 = .ok (.isub, 1) := by decide +kernel
theorem d1_34 : decode prog_61_method_1_code 34 = .ok (.putfield 28, 3) := by decide +kernel
theorem d1_37 : decode prog_61_method_1_code 37 = .ok (.aload_n 0, 1) := by decide +kernel
theorem d1_38 : decode prog_61_method_1_code 38 = .ok (.getfield 24, 3) := by decide +kernel
theorem d1_41 : decode prog_61_method_1_code 41 = .ok (.ldc2_w 32, 3) := by decide +kernel
theorem d1_44 : decode prog_61_method_1_code 44 = .ok (.invokestatic 34, 3) := by decide +kernel
theorem d1_47 : decode prog_61_method_1_code 47 = .ok (.return_, 1) := by decide +kernel
theorem pn_1 : plainName "com/example/strict_pattern/strictpattern/regex/WritePlaces" = true := by first | (simp [plainName, overriddenIn]; done) | decide +kernel
theorem ef_1 (m : MethodId) (x0 : Addr) (x1 : Int32) : entryFrame m #[(.ref x0), (.int x1)] 3 = mkF m 0 #[.val (.ref x0), .val (.int x1), .unset] [] := by first | (simp [entryFrame, mkF, argsToLocals, Value.category]; done) | rfl
def Q1 (Z : State) (a1 : Addr) (p2 : Int32) (u1 : Value) (u2 : Value) (n : Nat) (h0 : Heap) (n0 : Nat) (v : Option Value) (h : Heap) (L : List Loc) : Prop := v = none ∧ Fr n0 L ∧ Keep h0 h [a1] ∧ Fld Z h a1 "com/example/strict_pattern/strictpattern/regex/WritePlaces" "mask" "I" (.int (Int32.ofNat n - (1 : Int32))) ∧ ∃ b : Addr, Fld Z h a1 "com/example/strict_pattern/strictpattern/regex/WritePlaces" "slots" "[J" (.ref b) ∧ h0.size ≤ b ∧ ∃ k : ClassId, Arv Z h b k .long (Int32.ofNat n) ((List.replicate n (-1 : Int64)).map own_L) (.long (0 : Int64))
set_option maxRecDepth 65536 in
set_option maxHeartbeats 40000000 in
theorem rm1 (l : Launch) (Z : State) (a0 : Array Value) (hw : ∀ d ∈ tables_1, d.before a0 Z = true) (ws : List Jvm.Cond) (a1 : Addr) (p2 : Int32) (u1 : Value) (u2 : Value) (n : Nat) (h0 : Heap) (n0 : Nat) (ZS : n0 ≤ h0.size) (E_a1 : Exa Z h0 a1 "com/example/strict_pattern/strictpattern/regex/WritePlaces") (F_slots_a1 : Fld Z h0 a1 "com/example/strict_pattern/strictpattern/regex/WritePlaces" "slots" "[J" u1) (F_mask_a1 : Fld Z h0 a1 "com/example/strict_pattern/strictpattern/regex/WritePlaces" "mask" "I" u2) (g_a1 : n0 ≤ a1) (hm0 : (0 : Int32) < (own_max (((2 : Int32) * p2) - (1 : Int32)) (1 : Int32))) (hm1 : (own_max (((2 : Int32) * p2) - (1 : Int32)) (1 : Int32)) < (65536 : Int32)) (hcnt : own_cnt p2 = Int32.ofNat n) (hn : n ≤ 1024) :
    MetFree l (⟨"com/example/strict_pattern/strictpattern/regex/WritePlaces", "<init>", "(I)V"⟩ : MethodName) (head1 (Jvm.Cond.code (⟨"com/example/strict_pattern/strictpattern/regex/WritePlaces", "<init>", "(I)V"⟩ : MethodName) prog_61_method_1_code 3 none :: ws) ({ frames := 2, cells := 1, slots := 1024, locals := 27 } : Room)) (fun a U => a = #[(.ref a1), (.int p2)] ∧ Z.Warmed39 U.vm ∧ U.heap = h0) (fun _ _ _ _ _ => True) (fun _ U o U' => ∃ v L, o = .returned v ∧ Q1 Z a1 p2 u1 u2 n h0 n0 v U'.heap L ∧ FrameEnd U o U' L ({ frames := 2, cells := 1, slots := 1024, locals := 27 } : Room).cells ({ frames := 2, cells := 1, slots := 1024, locals := 27 } : Room).slots) := by
  refine MetFree.of_bodySF (plainFor_of_name pn_1) hisR ?_
  intro p e s m args below meth c s₁ Bd hml0 hP hK
  obtain ⟨rfl, hZ, hh⟩ := hP
  have hx := Bd.exec
  have hby := Bd.bytes
  have hml : c.maxLocals = 3 := hml0
  have hown : s.vm.findClass "com/example/strict_pattern/strictpattern/regex/WritePlaces" = some m.cls := findClass_of_methodNamed Bd.named
  have hnm := (name_of_methodNamed Bd.named Bd.method).1
  have hlk : meth.locks = false := Bd.notSynchronized
  have X0 : Stand p l e ({ frames := 2, cells := 1, slots := 1024, locals := 27 } : Room) s m #[(.ref a1), (.int p2)] below meth c s₁ [] 0 0 := Stand.of_body Bd
  have e0 : s₁.heap = h0 := by rw [← hh, Bd.state]; rfl
  have NF := Fr.nil n0
  have KP : Keep h0 h0 [a1] := Keep.refl _ _
  refine own_fin (s := s) (Q := Q1 Z a1 p2 u1 u2 n h0 n0) (rc := ({ frames := 2, cells := 1, slots := 1024, locals := 27 } : Room).cells) (rs := ({ frames := 2, cells := 1, slots := 1024, locals := 27 } : Room).slots) ?_
  refine own_go (fun t k => castTop (ef_1 m a1 p2) k) ?_
  show own_R _ _ _ _ (s₁.setTop (mkF m 0 #[.val (.ref a1), .val (.int p2), .unset] []))
  unfold own_cnt at hcnt
  refine own_go (fun _ k => XS.aloadN X0.here hx rfl (hb hby d1_0) rfl rfl k) ?_
  show own_R _ _ _ _ (s₁.setTop (mkF m 1 #[.val (.ref a1), .val (.int p2), .unset] [(.ref a1)]))
  obtain ⟨T12, X12, e12, st12⟩ := initO X0 hx hZ hown (hw _ (List.mem_of_getElem? (i := 6) rfl)) (hw _ (List.mem_of_getElem? (i := 7) rfl)) (hw _ (List.mem_of_getElem? (i := 8) rfl)) e0 (g := (mkF m 1 #[.val (.ref a1), .val (.int p2), .unset] [(.ref a1)])) rfl (by rw [hml]; rfl) rfl (hb hby d1_1) (by decide) (W := 0) (by show 2 * 0 + _ ≤ _; exact Nat.le_of_eq rfl) (by decide)
  refine own_go st12 ?_
  show own_R _ _ _ _ (T12.setTop (mkF m 4 #[.val (.ref a1), .val (.int p2), .unset] []))
  refine own_go (fun _ k => XS.iconst X12.here hx rfl (hb hby d1_4) k) ?_
  show own_R _ _ _ _ (T12.setTop (mkF m 5 #[.val (.ref a1), .val (.int p2), .unset] [(.int (2 : Int32))]))
  refine own_go (fun _ k => XS.iloadN X12.here hx rfl (hb hby d1_5) rfl k) ?_
  show own_R _ _ _ _ (T12.setTop (mkF m 6 #[.val (.ref a1), .val (.int p2), .unset] [(.int p2), (.int (2 : Int32))]))
  refine own_go (fun _ k => XS.imul X12.here hx rfl (hb hby d1_6) rfl k) ?_
  show own_R _ _ _ _ (T12.setTop (mkF m 7 #[.val (.ref a1), .val (.int p2), .unset] [(.int ((2 : Int32) * p2))]))
  refine own_go (fun _ k => XS.iconst X12.here hx rfl (hb hby d1_7) k) ?_
  show own_R _ _ _ _ (T12.setTop (mkF m 8 #[.val (.ref a1), .val (.int p2), .unset] [(.int (1 : Int32)), (.int ((2 : Int32) * p2))]))
  refine own_go (fun _ k => XS.isub X12.here hx rfl (hb hby d1_8) rfl k) ?_
  show own_R _ _ _ _ (T12.setTop (mkF m 9 #[.val (.ref a1), .val (.int p2), .unset] [(.int (((2 : Int32) * p2) - (1 : Int32)))]))
  refine own_go (fun _ k => XS.iconst X12.here hx rfl (hb hby d1_9) k) ?_
  show own_R _ _ _ _ (T12.setTop (mkF m 10 #[.val (.ref a1), .val (.int p2), .unset] [(.int (1 : Int32)), (.int (((2 : Int32) * p2) - (1 : Int32)))]))
  obtain ⟨_, _, ⟨T13, L13, k13, n13⟩, -, X13, ⟨Lc13, hQ13, l13, y13, z13⟩, st13⟩ := Jvm.LawKit.callS X12 hx (y := (⟨"java/lang/Math", "max", "(II)I"⟩ : MethodName)) hown (mvT hZ (hw _ (List.mem_of_getElem? (i := 9) rfl))) (mvT hZ (hw _ (List.mem_of_getElem? (i := 10) rfl))) (mvT hZ (hw _ (List.mem_of_getElem? (i := 11) rfl))) (mvT hZ (hw _ (List.mem_of_getElem? (i := 12) rfl))) (by decide) (backOf (W := 0) (rm3 l Z a0 hw [] (((2 : Int32) * p2) - (1 : Int32)) (1 : Int32) h0 n0 ZS) hZ (hw _ (List.mem_of_getElem? (i := 12) rfl)) (hw _ (List.mem_of_getElem? (i := 11) rfl)) (by decide) (by decide)) (g := (mkF m 10 #[.val (.ref a1), .val (.int p2), .unset] [(.int (1 : Int32)), (.int (((2 : Int32) * p2) - (1 : Int32)))])) rfl (by rw [hml]; rfl) (argsL := [(.int (((2 : Int32) * p2) - (1 : Int32))), (.int (1 : Int32))]) (rest := []) (lenOf pd_1 rfl) rfl (by show 2 * 0 + _ ≤ _; exact Nat.le_of_eq rfl) (hb hby d1_10) (fun _ _ => ⟨rfl, e12, (by decide : 0 + 0 ≤ _), (by decide : 0 + 0 ≤ _)⟩)
  dsimp only [Pt.U, Pt.locs, Pt.cells, Pt.slots] at X13 l13 y13 z13 st13 hQ13
  subst l13 y13 z13
  obtain ⟨rfl, N13q, e13⟩ := hQ13
  have NF := Fr.app NF N13q
  refine own_go st13 ?_
  show own_R _ _ _ _ (T13.setTop (mkF m 13 #[.val (.ref a1), .val (.int p2), .unset] [(.int (own_max (((2 : Int32) * p2) - (1 : Int32)) (1 : Int32)))]))
  obtain ⟨_, _, ⟨T14, L14, k14, n14⟩, -, X14, ⟨Lc14, hQ14, l14, y14, z14⟩, st14⟩ := Jvm.LawKit.callS X13 hx (y := (⟨"java/lang/Integer", "highestOneBit", "(I)I"⟩ : MethodName)) hown (mvT hZ (hw _ (List.mem_of_getElem? (i := 13) rfl))) (mvT hZ (hw _ (List.mem_of_getElem? (i := 14) rfl))) (mvT hZ (hw _ (List.mem_of_getElem? (i := 15) rfl))) (mvT hZ (hw _ (List.mem_of_getElem? (i := 16) rfl))) (by decide) (backOf (W := 0) (rm4 l Z a0 hw [] (own_max (((2 : Int32) * p2) - (1 : Int32)) (1 : Int32)) h0 n0 ZS hm0 hm1) hZ (hw _ (List.mem_of_getElem? (i := 16) rfl)) (hw _ (List.mem_of_getElem? (i := 15) rfl)) (by decide) (by decide)) (g := (mkF m 13 #[.val (.ref a1), .val (.int p2), .unset] [(.int (own_max (((2 : Int32) * p2) - (1 : Int32)) (1 : Int32)))])) rfl (by rw [hml]; rfl) (argsL := [(.int (own_max (((2 : Int32) * p2) - (1 : Int32)) (1 : Int32)))]) (rest := []) (lenOf pd_0 rfl) rfl (by show 2 * 0 + _ ≤ _; exact Nat.le_of_eq rfl) (hb hby d1_13) (fun _ _ => ⟨rfl, e13, (by decide : 0 + 0 ≤ _), (by decide : 0 + 0 ≤ _)⟩)
  dsimp only [Pt.U, Pt.locs, Pt.cells, Pt.slots] at X14 l14 y14 z14 st14 hQ14
  subst l14 y14 z14
  obtain ⟨rfl, N14q, e14⟩ := hQ14
  have NF := Fr.app NF N14q
  refine own_go st14 ?_
  show own_R _ _ _ _ (T14.setTop (mkF m 16 #[.val (.ref a1), .val (.int p2), .unset] [(.int (own_hob (own_max (((2 : Int32) * p2) - (1 : Int32)) (1 : Int32))))]))
  refine own_go (fun _ k => XS.sipush X14.here hx rfl (hb hby d1_16) k) ?_
  show own_R _ _ _ _ (T14.setTop (mkF m 19 #[.val (.ref a1), .val (.int p2), .unset] [(.int (1024 : Int32)), (.int (own_hob (own_max (((2 : Int32) * p2) - (1 : Int32)) (1 : Int32))))]))
  obtain ⟨_, _, ⟨T15, L15, k15, n15⟩, -, X15, ⟨Lc15, hQ15, l15, y15, z15⟩, st15⟩ := Jvm.LawKit.callS X14 hx (y := (⟨"java/lang/Math", "min", "(II)I"⟩ : MethodName)) hown (mvT hZ (hw _ (List.mem_of_getElem? (i := 22) rfl))) (mvT hZ (hw _ (List.mem_of_getElem? (i := 23) rfl))) (mvT hZ (hw _ (List.mem_of_getElem? (i := 11) rfl))) (mvT hZ (hw _ (List.mem_of_getElem? (i := 24) rfl))) (by decide) (backOf (W := 0) (rm6 l Z a0 hw [] (own_hob (own_max (((2 : Int32) * p2) - (1 : Int32)) (1 : Int32))) (1024 : Int32) h0 n0 ZS) hZ (hw _ (List.mem_of_getElem? (i := 24) rfl)) (hw _ (List.mem_of_getElem? (i := 11) rfl)) (by decide) (by decide)) (g := (mkF m 19 #[.val (.ref a1), .val (.int p2), .unset] [(.int (1024 : Int32)), (.int (own_hob (own_max (((2 : Int32) * p2) - (1 : Int32)) (1 : Int32))))])) rfl (by rw [hml]; rfl) (argsL := [(.int (own_hob (own_max (((2 : Int32) * p2) - (1 : Int32)) (1 : Int32)))), (.int (1024 : Int32))]) (rest := []) (lenOf pd_1 rfl) rfl (by show 2 * 0 + _ ≤ _; exact Nat.le_of_eq rfl) (hb hby d1_19) (fun _ _ => ⟨rfl, e14, (by decide : 0 + 0 ≤ _), (by decide : 0 + 0 ≤ _)⟩)
  dsimp only [Pt.U, Pt.locs, Pt.cells, Pt.slots] at X15 l15 y15 z15 st15 hQ15
  subst l15 y15 z15
  obtain ⟨rfl, N15q, e15⟩ := hQ15
  have NF := Fr.app NF N15q
  refine own_go st15 ?_
  show own_R _ _ _ _ (T15.setTop (mkF m 22 #[.val (.ref a1), .val (.int p2), .unset] [(.int (own_min (own_hob (own_max (((2 : Int32) * p2) - (1 : Int32)) (1 : Int32))) (1024 : Int32)))]))
  rw [hcnt]
  show own_R _ _ _ _ (T15.setTop (mkF m 22 #[.val (.ref a1), .val (.int p2), .unset] [(.int (Int32.ofNat n))]))
  refine own_go (fun _ k => XS.istoreN X15.here hx rfl (hb hby d1_22) rfl (l' := #[.val (.ref a1), .val (.int p2), .val (.int (Int32.ofNat n))]) rfl k) ?_
  show own_R _ _ _ _ (T15.setTop (mkF m 23 #[.val (.ref a1), .val (.int p2), .val (.int (Int32.ofNat n))] []))
  refine own_go (fun _ k => XS.aloadN X15.here hx rfl (hb hby d1_23) rfl rfl k) ?_
  show own_R _ _ _ _ (T15.setTop (mkF m 24 #[.val (.ref a1), .val (.int p2), .val (.int (Int32.ofNat n))] [(.ref a1)]))
  refine own_go (fun _ k => XS.iloadN X15.here hx rfl (hb hby d1_24) rfl k) ?_
  show own_R _ _ _ _ (T15.setTop (mkF m 25 #[.val (.ref a1), .val (.int p2), .val (.int (Int32.ofNat n))] [(.int (Int32.ofNat n)), (.ref a1)]))
  obtain ⟨T16, h16, k16, X16, e16, E16, A16, st16⟩ := newP X15 hx hZ (hw _ (List.mem_of_getElem? (i := 25) rfl)) e15 (g := (mkF m 25 #[.val (.ref a1), .val (.int p2), .val (.int (Int32.ofNat n))] [(.int (Int32.ofNat n)), (.ref a1)])) rfl (hb hby d1_25) rfl (own_nn hn) (cap := 1024) (by rw [own_tn hn]; exact hn) (by decide) (by decide) (by decide)
  obtain ⟨b16, g16⟩ : ∃ z, z = h0.size := ⟨_, rfl⟩
  rw [← g16] at A16 st16
  refine own_go st16 ?_
  have ne_a1_b16 : a1 ≠ b16 := Nat.ne_of_lt (Nat.lt_of_lt_of_le E_a1.lt (Nat.le_of_eq g16.symm))
  have g_b16 : n0 ≤ b16 := Nat.le_trans ZS (Nat.le_of_eq g16.symm)
  have sz_b16 : h0.size ≤ b16 := Nat.le_trans KP.1 (Nat.le_of_eq g16.symm)
  have E_a1 := E_a1.ext E16
  have F_slots_a1 := F_slots_a1.ext E16
  have F_mask_a1 := F_mask_a1.ext E16
  have ZS := Nat.le_trans ZS E16.1
  have KP := KP.ext E16
  have V_b16 : Arv Z h16 b16 k16 .long (Int32.ofNat n) (List.replicate (Int32.ofNat n).toNatClampNeg (.long (0 : Int64))) (.long (0 : Int64)) := (Arv.new A16 (own_nn hn)).pad (pad_rep [] (.long (0 : Int64)) _)
  show own_R _ _ _ _ (T16.setTop (mkF m 27 #[.val (.ref a1), .val (.int p2), .val (.int (Int32.ofNat n))] [(.ref b16), (.ref a1)]))
  obtain ⟨T17, h17, X17, e17, W17, st17⟩ := putF X16 hx hZ hown (host := "") (Or.inl (hw _ (List.mem_of_getElem? (i := 26) rfl))) Via.refl e16 F_slots_a1 E_a1 (Or.inr ⟨(hw _ (List.mem_of_getElem? (i := 27) rfl)), rfl, hnm⟩) (hw _ (List.mem_of_getElem? (i := 1) rfl)) (ty := (.array .long)) (by decide) rfl rfl (g := (mkF m 27 #[.val (.ref a1), .val (.int p2), .val (.int (Int32.ofNat n))] [(.ref b16), (.ref a1)])) rfl rfl (hb hby d1_27)
  refine own_go st17 ?_
  have E_a1 := E_a1.wr W17
  have F_slots_a1 := F_slots_a1.same W17
  have F_mask_a1 := F_mask_a1.other W17 (Or.inr (slot_ne (Or.inr (hw _ (List.mem_of_getElem? (i := 29) rfl))) (Or.inr (hw _ (List.mem_of_getElem? (i := 27) rfl))) (by decide) (t := .int) (t' := (.array .long)) (by decide) (by decide)))
  have V_b16 := V_b16.other W17 (Ne.symm ne_a1_b16)
  have ZS := Nat.le_trans ZS (Keep.of_wr W17).1
  have KP := KP.wr W17 (Or.inl (List.mem_of_getElem? (i := 0) rfl))
  have NF := Fr.snoc X17 NF g_a1
  show own_R _ _ _ _ (T17.setTop (mkF m 30 #[.val (.ref a1), .val (.int p2), .val (.int (Int32.ofNat n))] []))
  refine own_go (fun _ k => XS.aloadN X17.here hx rfl (hb hby d1_30) rfl rfl k) ?_
  show own_R _ _ _ _ (T17.setTop (mkF m 31 #[.val (.ref a1), .val (.int p2), .val (.int (Int32.ofNat n))] [(.ref a1)]))
  refine own_go (fun _ k => XS.iloadN X17.here hx rfl (hb hby d1_31) rfl k) ?_
  show own_R _ _ _ _ (T17.setTop (mkF m 32 #[.val (.ref a1), .val (.int p2), .val (.int (Int32.ofNat n))] [(.int (Int32.ofNat n)), (.ref a1)]))
  refine own_go (fun _ k => XS.iconst X17.here hx rfl (hb hby d1_32) k) ?_
  show own_R _ _ _ _ (T17.setTop (mkF m 33 #[.val (.ref a1), .val (.int p2), .val (.int (Int32.ofNat n))] [(.int (1 : Int32)), (.int (Int32.ofNat n)), (.ref a1)]))
  refine own_go (fun _ k => XS.isub X17.here hx rfl (hb hby d1_33) rfl k) ?_
  show own_R _ _ _ _ (T17.setTop (mkF m 34 #[.val (.ref a1), .val (.int p2), .val (.int (Int32.ofNat n))] [(.int ((Int32.ofNat n) - (1 : Int32))), (.ref a1)]))
  obtain ⟨T18, h18, X18, e18, W18, st18⟩ := putF X17 hx hZ hown (host := "") (Or.inl (hw _ (List.mem_of_getElem? (i := 28) rfl))) Via.refl e17 F_mask_a1 E_a1 (Or.inr ⟨(hw _ (List.mem_of_getElem? (i := 29) rfl)), rfl, hnm⟩) (hw _ (List.mem_of_getElem? (i := 1) rfl)) (ty := .int) (by decide) rfl rfl (g := (mkF m 34 #[.val (.ref a1), .val (.int p2), .val (.int (Int32.ofNat n))] [(.int ((Int32.ofNat n) - (1 : Int32))), (.ref a1)])) rfl rfl (hb hby d1_34)
  refine own_go st18 ?_
  have E_a1 := E_a1.wr W18
  have F_slots_a1 := F_slots_a1.other W18 (Or.inr (slot_ne (Or.inr (hw _ (List.mem_of_getElem? (i := 27) rfl))) (Or.inr (hw _ (List.mem_of_getElem? (i := 29) rfl))) (by decide) (t := (.array .long)) (t' := .int) (by decide) (by decide)))
  have F_mask_a1 := F_mask_a1.same W18
  have V_b16 := V_b16.other W18 (Ne.symm ne_a1_b16)
  have ZS := Nat.le_trans ZS (Keep.of_wr W18).1
  have KP := KP.wr W18 (Or.inl (List.mem_of_getElem? (i := 0) rfl))
  have NF := Fr.snoc X18 NF g_a1
  show own_R _ _ _ _ (T18.setTop (mkF m 37 #[.val (.ref a1), .val (.int p2), .val (.int (Int32.ofNat n))] []))
  refine own_go (fun _ k => XS.aloadN X18.here hx rfl (hb hby d1_37) rfl rfl k) ?_
  show own_R _ _ _ _ (T18.setTop (mkF m 38 #[.val (.ref a1), .val (.int p2), .val (.int (Int32.ofNat n))] [(.ref a1)]))
  obtain ⟨T19, X19, e19, st19⟩ := getF X18 hx hZ hown (host := "") (Or.inl (hw _ (List.mem_of_getElem? (i := 26) rfl))) Via.refl e18 F_slots_a1 (g := (mkF m 38 #[.val (.ref a1), .val (.int p2), .val (.int (Int32.ofNat n))] [(.ref a1)])) rfl rfl (hb hby d1_38)
  refine own_go st19 ?_
  show own_R _ _ _ _ (T19.setTop (mkF m 41 #[.val (.ref a1), .val (.int p2), .val (.int (Int32.ofNat n))] [(.ref b16)]))
  refine own_go (X19.ldc2Long hx hown (mvT hZ (hw _ (List.mem_of_getElem? (i := 30) rfl))) (g := (mkF m 41 #[.val (.ref a1), .val (.int p2), .val (.int (Int32.ofNat n))] [(.ref b16)])) rfl (hb hby d1_41)) ?_
  show own_R _ _ _ _ (T19.setTop (mkF m 44 #[.val (.ref a1), .val (.int p2), .val (.int (Int32.ofNat n))] [(.long (-1 : Int64)), (.ref b16)]))
  obtain ⟨_, _, ⟨T20, L20, k20, n20⟩, -, X20, ⟨Lc20, hQ20, l20, y20, z20⟩, st20⟩ := Jvm.LawKit.callS X19 hx (y := (⟨"java/util/Arrays", "fill", "([JJ)V"⟩ : MethodName)) hown (mvT hZ (hw _ (List.mem_of_getElem? (i := 31) rfl))) (mvT hZ (hw _ (List.mem_of_getElem? (i := 32) rfl))) (mvT hZ (hw _ (List.mem_of_getElem? (i := 33) rfl))) (mvT hZ (hw _ (List.mem_of_getElem? (i := 34) rfl))) (by decide) (backOf (W := 0) (rm7 l Z a0 hw [] b16 (-1 : Int64) k16 n (List.replicate (Int32.ofNat n).toNatClampNeg (.long (0 : Int64))) h18 n0 ZS V_b16 g_b16 hn (by rw [List.length_replicate]; exact own_tn hn)) hZ (hw _ (List.mem_of_getElem? (i := 34) rfl)) (hw _ (List.mem_of_getElem? (i := 33) rfl)) (by decide) (by decide)) (g := (mkF m 44 #[.val (.ref a1), .val (.int p2), .val (.int (Int32.ofNat n))] [(.long (-1 : Int64)), (.ref b16)])) rfl (by rw [hml]; rfl) (argsL := [(.ref b16), (.long (-1 : Int64))]) (rest := []) (lenOf pd_2 rfl) rfl (by show 2 * 0 + _ ≤ _; exact Nat.le_of_eq rfl) (hb hby d1_44) (fun _ _ => ⟨rfl, e19, (by decide : 1 + 0 ≤ _), (by decide : 1024 + 0 ≤ _)⟩)
  dsimp only [Pt.U, Pt.locs, Pt.cells, Pt.slots] at X20 l20 y20 z20 st20 hQ20
  subst l20 y20 z20
  obtain ⟨h20, e20'⟩ : ∃ z, z = T20.heap := ⟨_, rfl⟩
  rw [← e20'] at hQ20
  have e20 : T20.heap = h20 := e20'.symm
  obtain ⟨rfl, N20q, K20, pp1⟩ := hQ20
  have NF := Fr.app NF N20q
  refine own_go st20 ?_
  have E_a1 := E_a1.keep K20
  have F_slots_a1 := F_slots_a1.keep K20 (ninS ne_a1_b16 nin0)
  have F_mask_a1 := F_mask_a1.keep K20 (ninS ne_a1_b16 nin0)
  have ZS := Nat.le_trans ZS K20.1
  have KP := KP.trans K20 (allS (Or.inr sz_b16) all0)
  have V_b16 := pp1
  show own_R _ _ _ _ (T20.setTop (mkF m 47 #[.val (.ref a1), .val (.int p2), .val (.int (Int32.ofNat n))] []))
  exact own_ret0 X20 hx Bd.returns (hb hby d1_47) hlk (by rw [e20]; exact ⟨rfl, NF, KP, F_mask_a1, _, F_slots_a1, sz_b16, _, V_b16⟩) (by decide) (by decide)
theorem d8_0 : decode prog_61_method_3_code 0 = .ok (.aload_n 0, 1) := by decide +kernel
theorem d8_1 : decode prog_61_method_3_code 1 = .ok (.getfield 24, 3) := by decide +kernel
theorem d8_4 : decode prog_61_method_3_code 4 = .ok (.iload_n 1, 1) := by decide +kernel
theorem d8_5 : decode prog_61_method_3_code 5 = .ok (.aload_n 0, 1) := by decide +kernel
theorem d8_6 : decode prog_61_method_3_code 6 = .ok (.getfield 28, 3) := by decide +kernel
theorem d8_9 : decode prog_61_method_3_code 9 = .ok (.iand, 1) := by decide +kernel
theorem d8_10 : decode prog_61_method_3_code 10 = .ok (.iload_n 1, 1) := by decide +kernel
theorem d8_11 : decode prog_61_method_3_code 11 = .ok (.i2l, 1) := by decide +kernel
theorem d8_12 : decode prog_61_method_3_code 12 = .ok (.bipush 32, 2) := by decide +kernel
theorem d8_14 : decode prog_61_method_3_code 14 = .ok (.lshl, 1) := by decide +kernel
theorem d8_15 : decode prog_61_method_3_code 15 = .ok (.iload_n 2, 1) := by decide +kernel
theorem d8_16 : decode prog_61_method_3_code 16 = .ok (.i2l, 1) := by decide +kernel
theorem d8_17 : decode prog_61_method_3_code 17 = .ok (.ldc2_w 40, 3) := by decide +kernel
theorem d8_20 : decode prog_61_method_3_code 20 = .ok (.land, 1) := by decide +kernel
theorem d8_21 : decode prog_61_method_3_code 21 = .ok (.lor, 1) := by decide +kernel
theorem d8_22 : decode prog_61_method_3_code 22 = .ok (.lastore, 1) := by decide +kernel
theorem d8_23 : decode prog_61_method_3_code 23 = .ok (.return_, 1) := by decide +kernel
theorem ef_8 (m : MethodId) (x0 : Addr) (x1 : Int32) (x2 : Int32) : entryFrame m #[(.ref x0), (.int x1), (.int x2)] 3 = mkF m 0 #[.val (.ref x0), .val (.int x1), .val (.int x2)] [] := by first | (simp [entryFrame, mkF, argsToLocals, Value.category]; done) | rfl
def Q8 (Z : State) (a1 : Addr) (p2 : Int32) (p3 : Int32) (b1 : Addr) (k1 : ClassId) (n : Nat) (ls : List Int64) (h0 : Heap) (n0 : Nat) (v : Option Value) (h : Heap) (L : List Loc) : Prop := v = none ∧ Fr n0 L ∧ Keep h0 h [b1] ∧ Arv Z h b1 k1 .long (Int32.ofNat n) ((ls.set (own_ix p2 n) (own_key p2 p3)).map own_L) (.long (0 : Int64))
set_option maxRecDepth 65536 in
set_option maxHeartbeats 40000000 in
theorem rm8 (l : Launch) (Z : State) (a0 : Array Value) (hw : ∀ d ∈ tables_1, d.before a0 Z = true) (ws : List Jvm.Cond) (a1 : Addr) (p2 : Int32) (p3 : Int32) (b1 : Addr) (k1 : ClassId) (n : Nat) (ls : List Int64) (h0 : Heap) (n0 : Nat) (ZS : n0 ≤ h0.size) (F_slots_a1 : Fld Z h0 a1 "com/example/strict_pattern/strictpattern/regex/WritePlaces" "slots" "[J" (.ref b1)) (F_mask_a1 : Fld Z h0 a1 "com/example/strict_pattern/strictpattern/regex/WritePlaces" "mask" "I" (.int (Int32.ofNat n - (1 : Int32)))) (V_b1 : Arv Z h0 b1 k1 .long (Int32.ofNat n) (ls.map own_L) (.long (0 : Int64))) (hn1 : 1 ≤ n) (hn : n ≤ 1024) (g_b1 : n0 ≤ b1) (ne1 : a1 ≠ b1) (hll : ls.length = n) :
    MetFree l (⟨"com/example/strict_pattern/strictpattern/regex/WritePlaces", "set", "(II)V"⟩ : MethodName) (head1 (Jvm.Cond.code (⟨"com/example/strict_pattern/strictpattern/regex/WritePlaces", "set", "(II)V"⟩ : MethodName) prog_61_method_3_code 3 none :: ws) ({ frames := 0, cells := 0, slots := 0, locals := 0 } : Room)) (fun a U => a = #[(.ref a1), (.int p2), (.int p3)] ∧ Z.Warmed39 U.vm ∧ U.heap = h0) (fun _ _ _ _ _ => True) (fun _ U o U' => ∃ v L, o = .returned v ∧ Q8 Z a1 p2 p3 b1 k1 n ls h0 n0 v U'.heap L ∧ FrameEnd U o U' L ({ frames := 0, cells := 0, slots := 0, locals := 0 } : Room).cells ({ frames := 0, cells := 0, slots := 0, locals := 0 } : Room).slots) := by
  refine MetFree.of_bodySF (plainFor_of_name pn_1) hisR ?_
  intro p e s m args below meth c s₁ Bd hml0 hP hK
  obtain ⟨rfl, hZ, hh⟩ := hP
  have hx := Bd.exec
  have hby := Bd.bytes
  have hml : c.maxLocals = 3 := hml0
  have hown : s.vm.findClass "com/example/strict_pattern/strictpattern/regex/WritePlaces" = some m.cls := findClass_of_methodNamed Bd.named
  have hnm := (name_of_methodNamed Bd.named Bd.method).1
  have hlk : meth.locks = false := Bd.notSynchronized
  have X0 : Stand p l e ({ frames := 0, cells := 0, slots := 0, locals := 0 } : Room) s m #[(.ref a1), (.int p2), (.int p3)] below meth c s₁ [] 0 0 := Stand.of_body Bd
  have e0 : s₁.heap = h0 := by rw [← hh, Bd.state]; rfl
  have NF := Fr.nil n0
  have KP : Keep h0 h0 [b1] := Keep.refl _ _
  refine own_fin (s := s) (Q := Q8 Z a1 p2 p3 b1 k1 n ls h0 n0) (rc := ({ frames := 0, cells := 0, slots := 0, locals := 0 } : Room).cells) (rs := ({ frames := 0, cells := 0, slots := 0, locals := 0 } : Room).slots) ?_
  refine own_go (fun t k => castTop (ef_8 m a1 p2 p3) k) ?_
  show own_R _ _ _ _ (s₁.setTop (mkF m 0 #[.val (.ref a1), .val (.int p2), .val (.int p3)] []))
  have ib := own_ixb p2 hn1 hn
  refine own_go (fun _ k => XS.aloadN X0.here hx rfl (hb hby d8_0) rfl rfl k) ?_
  show own_R _ _ _ _ (s₁.setTop (mkF m 1 #[.val (.ref a1), .val (.int p2), .val (.int p3)] [(.ref a1)]))
  obtain ⟨T21, X21, e21, st21⟩ := getF X0 hx hZ hown (host := "") (Or.inl (hw _ (List.mem_of_getElem? (i := 26) rfl))) Via.refl e0 F_slots_a1 (g := (mkF m 1 #[.val (.ref a1), .val (.int p2), .val (.int p3)] [(.ref a1)])) rfl rfl (hb hby d8_1)
  refine own_go st21 ?_
  show own_R _ _ _ _ (T21.setTop (mkF m 4 #[.val (.ref a1), .val (.int p2), .val (.int p3)] [(.ref b1)]))
  refine own_go (fun _ k => XS.iloadN X21.here hx rfl (hb hby d8_4) rfl k) ?_
  show own_R _ _ _ _ (T21.setTop (mkF m 5 #[.val (.ref a1), .val (.int p2), .val (.int p3)] [(.int p2), (.ref b1)]))
  refine own_go (fun _ k => XS.aloadN X21.here hx rfl (hb hby d8_5) rfl rfl k) ?_
  show own_R _ _ _ _ (T21.setTop (mkF m 6 #[.val (.ref a1), .val (.int p2), .val (.int p3)] [(.ref a1), (.int p2), (.ref b1)]))
  obtain ⟨T22, X22, e22, st22⟩ := getF X21 hx hZ hown (host := "") (Or.inl (hw _ (List.mem_of_getElem? (i := 28) rfl))) Via.refl e21 F_mask_a1 (g := (mkF m 6 #[.val (.ref a1), .val (.int p2), .val (.int p3)] [(.ref a1), (.int p2), (.ref b1)])) rfl rfl (hb hby d8_6)
  refine own_go st22 ?_
  show own_R _ _ _ _ (T22.setTop (mkF m 9 #[.val (.ref a1), .val (.int p2), .val (.int p3)] [(.int (Int32.ofNat n - (1 : Int32))), (.int p2), (.ref b1)]))
  refine own_go (fun _ k => XS.iand X22.here hx rfl (hb hby d8_9) rfl k) ?_
  show own_R _ _ _ _ (T22.setTop (mkF m 10 #[.val (.ref a1), .val (.int p2), .val (.int p3)] [(.int (p2 &&& (Int32.ofNat n - (1 : Int32)))), (.ref b1)]))
  refine own_go (fun _ k => XS.iloadN X22.here hx rfl (hb hby d8_10) rfl k) ?_
  show own_R _ _ _ _ (T22.setTop (mkF m 11 #[.val (.ref a1), .val (.int p2), .val (.int p3)] [(.int p2), (.int (p2 &&& (Int32.ofNat n - (1 : Int32)))), (.ref b1)]))
  refine own_go (fun _ k => XS.i2l X22.here hx rfl (hb hby d8_11) rfl k) ?_
  show own_R _ _ _ _ (T22.setTop (mkF m 12 #[.val (.ref a1), .val (.int p2), .val (.int p3)] [(.long (p2.toInt64)), (.int (p2 &&& (Int32.ofNat n - (1 : Int32)))), (.ref b1)]))
  refine own_go (fun _ k => XS.bipush X22.here hx rfl (hb hby d8_12) k) ?_
  show own_R _ _ _ _ (T22.setTop (mkF m 14 #[.val (.ref a1), .val (.int p2), .val (.int p3)] [(.int (32 : Int32)), (.long (p2.toInt64)), (.int (p2 &&& (Int32.ofNat n - (1 : Int32)))), (.ref b1)]))
  refine own_go (fun _ k => XS.lshl X22.here hx rfl (hb hby d8_14) rfl k) ?_
  show own_R _ _ _ _ (T22.setTop (mkF m 15 #[.val (.ref a1), .val (.int p2), .val (.int p3)] [(.long ((p2.toInt64) <<< ((32 : Int32) &&& 0x3f).toInt64)), (.int (p2 &&& (Int32.ofNat n - (1 : Int32)))), (.ref b1)]))
  refine own_go (fun _ k => XS.iloadN X22.here hx rfl (hb hby d8_15) rfl k) ?_
  show own_R _ _ _ _ (T22.setTop (mkF m 16 #[.val (.ref a1), .val (.int p2), .val (.int p3)] [(.int p3), (.long ((p2.toInt64) <<< ((32 : Int32) &&& 0x3f).toInt64)), (.int (p2 &&& (Int32.ofNat n - (1 : Int32)))), (.ref b1)]))
  refine own_go (fun _ k => XS.i2l X22.here hx rfl (hb hby d8_16) rfl k) ?_
  show own_R _ _ _ _ (T22.setTop (mkF m 17 #[.val (.ref a1), .val (.int p2), .val (.int p3)] [(.long (p3.toInt64)), (.long ((p2.toInt64) <<< ((32 : Int32) &&& 0x3f).toInt64)), (.int (p2 &&& (Int32.ofNat n - (1 : Int32)))), (.ref b1)]))
  refine own_go (X22.ldc2Long hx hown (mvT hZ (hw _ (List.mem_of_getElem? (i := 40) rfl))) (g := (mkF m 17 #[.val (.ref a1), .val (.int p2), .val (.int p3)] [(.long (p3.toInt64)), (.long ((p2.toInt64) <<< ((32 : Int32) &&& 0x3f).toInt64)), (.int (p2 &&& (Int32.ofNat n - (1 : Int32)))), (.ref b1)])) rfl (hb hby d8_17)) ?_
  show own_R _ _ _ _ (T22.setTop (mkF m 20 #[.val (.ref a1), .val (.int p2), .val (.int p3)] [(.long (4294967295 : Int64)), (.long (p3.toInt64)), (.long ((p2.toInt64) <<< ((32 : Int32) &&& 0x3f).toInt64)), (.int (p2 &&& (Int32.ofNat n - (1 : Int32)))), (.ref b1)]))
  refine own_go (fun _ k => XS.land X22.here hx rfl (hb hby d8_20) rfl k) ?_
  show own_R _ _ _ _ (T22.setTop (mkF m 21 #[.val (.ref a1), .val (.int p2), .val (.int p3)] [(.long ((p3.toInt64) &&& (4294967295 : Int64))), (.long ((p2.toInt64) <<< ((32 : Int32) &&& 0x3f).toInt64)), (.int (p2 &&& (Int32.ofNat n - (1 : Int32)))), (.ref b1)]))
  refine own_go (fun _ k => XS.lor X22.here hx rfl (hb hby d8_21) rfl k) ?_
  show own_R _ _ _ _ (T22.setTop (mkF m 22 #[.val (.ref a1), .val (.int p2), .val (.int p3)] [(.long (((p2.toInt64) <<< ((32 : Int32) &&& 0x3f).toInt64) ||| ((p3.toInt64) &&& (4294967295 : Int64)))), (.int (p2 &&& (Int32.ofNat n - (1 : Int32)))), (.ref b1)]))
  obtain ⟨T23, h23, sl23, X23, e23, W23, V23, st23⟩ := own_stJ X22 hx hZ e22 V_b1 (j := (p2 &&& (Int32.ofNat n - (1 : Int32)))) (i := (own_ix p2 n)) ib.1 rfl (by rw [List.length_map, hll]; exact ib.2) rfl (g := (mkF m 22 #[.val (.ref a1), .val (.int p2), .val (.int p3)] [(.long (((p2.toInt64) <<< ((32 : Int32) &&& 0x3f).toInt64) ||| ((p3.toInt64) &&& (4294967295 : Int64)))), (.int (p2 &&& (Int32.ofNat n - (1 : Int32)))), (.ref b1)])) rfl rfl (hb hby d8_22)
  refine own_go st23 ?_
  have F_slots_a1 := F_slots_a1.other W23 (Or.inl ne1)
  have F_mask_a1 := F_mask_a1.other W23 (Or.inl ne1)
  have ZS := Nat.le_trans ZS (Keep.of_wr W23).1
  have KP := KP.wr W23 (Or.inl (List.mem_of_getElem? (i := 0) rfl))
  have NF := Fr.snoc X23 NF g_b1
  have V_b1 := V23
  show own_R _ _ _ _ (T23.setTop (mkF m 23 #[.val (.ref a1), .val (.int p2), .val (.int p3)] []))
  exact own_ret0 X23 hx Bd.returns (hb hby d8_23) hlk (by rw [e23]; exact ⟨rfl, NF, KP, by rw [List.map_set]; exact V_b1⟩) (by decide) (by decide)
theorem d9_0 : decode prog_61_method_2_code 0 = .ok (.aload_n 0, 1) := by decide +kernel
theorem d9_1 : decode prog_61_method_2_code 1 = .ok (.getfield 24, 3) := by decide +kernel
theorem d9_4 : decode prog_61_method_2_code 4 = .ok (.iload_n 1, 1) := by decide +kernel
theorem d9_5 : decode prog_61_method_2_code 5 = .ok (.aload_n 0, 1) := by decide +kernel
theorem d9_6 : decode prog_61_method_2_code 6 = .ok (.getfield 28, 3) := by decide +kernel
theorem d9_9 : decode prog_61_method_2_code 9 = .ok (.iand, 1) := by decide +kernel
theorem d9_10 : decode prog_61_method_2_code 10 = .ok (.laload, 1) := by decide +kernel
theorem d9_11 : decode prog_61_method_2_code 11 = .ok (.lstore_n 2, 1) := by decide +kernel
theorem d9_12 : decode prog_61_method_2_code 12 = .ok (.lload_n 2, 1) := by decide +kernel
theorem d9_13 : decode prog_61_method_2_code 13 = .ok (.bipush 32, 2) := by decide +kernel
theorem d9_15 : decode prog_61_method_2_code 15 = .ok (.lushr, 1) := by decide +kernel
theorem d9_16 : decode prog_61_method_2_code 16 = .ok (.l2i, 1) := by decide +kernel
theorem d9_17 : decode prog_61_method_2_code 17 = .ok (.iload_n 1, 1) := by decide +kernel
theorem d9_18 : decode prog_61_method_2_code 18 = .ok (.if_icmp .ne 8, 3) := by decide +kernel
theorem d9_21 : decode prog_61_method_2_code 21 = .ok (.lload_n 2, 1) := by decide +kernel
theorem d9_22 : decode prog_61_method_2_code 22 = .ok (.l2i, 1) := by decide +kernel
theorem d9_23 : decode prog_61_method_2_code 23 = .ok (.goto 4, 3) := by decide +kernel
theorem d9_26 : decode prog_61_method_2_code 26 = .ok (.iconst (-1), 1) := by decide +kernel
theorem d9_27 : decode prog_61_method_2_code 27 = .ok (.ireturn, 1) := by decide +kernel
theorem ef_9 (m : MethodId) (x0 : Addr) (x1 : Int32) : entryFrame m #[(.ref x0), (.int x1)] 4 = mkF m 0 #[.val (.ref x0), .val (.int x1), .unset, .unset] [] := by first | (simp [entryFrame, mkF, argsToLocals, Value.category]; done) | rfl
def Q9 (Z : State) (a1 : Addr) (p2 : Int32) (b1 : Addr) (k1 : ClassId) (n : Nat) (ls : List Int64) (h0 : Heap) (n0 : Nat) (v : Option Value) (h : Heap) (L : List Loc) : Prop := v = some (.int (own_get (ls.getD (own_ix p2 n) 0) p2)) ∧ Fr n0 L ∧ h = h0
set_option maxRecDepth 65536 in
set_option maxHeartbeats 40000000 in
theorem rm9 (l : Launch) (Z : State) (a0 : Array Value) (hw : ∀ d ∈ tables_1, d.before a0 Z = true) (ws : List Jvm.Cond) (a1 : Addr) (p2 : Int32) (b1 : Addr) (k1 : ClassId) (n : Nat) (ls : List Int64) (h0 : Heap) (n0 : Nat) (ZS : n0 ≤ h0.size) (F_slots_a1 : Fld Z h0 a1 "com/example/strict_pattern/strictpattern/regex/WritePlaces" "slots" "[J" (.ref b1)) (F_mask_a1 : Fld Z h0 a1 "com/example/strict_pattern/strictpattern/regex/WritePlaces" "mask" "I" (.int (Int32.ofNat n - (1 : Int32)))) (V_b1 : Arv Z h0 b1 k1 .long (Int32.ofNat n) (ls.map own_L) (.long (0 : Int64))) (hn1 : 1 ≤ n) (hn : n ≤ 1024) :
    MetFree l (⟨"com/example/strict_pattern/strictpattern/regex/WritePlaces", "get", "(I)I"⟩ : MethodName) (head1 (Jvm.Cond.code (⟨"com/example/strict_pattern/strictpattern/regex/WritePlaces", "get", "(I)I"⟩ : MethodName) prog_61_method_2_code 4 (some .int) :: ws) ({ frames := 0, cells := 0, slots := 0, locals := 0 } : Room)) (fun a U => a = #[(.ref a1), (.int p2)] ∧ Z.Warmed39 U.vm ∧ U.heap = h0) (fun _ _ _ _ _ => True) (fun _ U o U' => ∃ v L, o = .returned v ∧ Q9 Z a1 p2 b1 k1 n ls h0 n0 v U'.heap L ∧ FrameEnd U o U' L ({ frames := 0, cells := 0, slots := 0, locals := 0 } : Room).cells ({ frames := 0, cells := 0, slots := 0, locals := 0 } : Room).slots) := by
  refine MetFree.of_bodySF (plainFor_of_name pn_1) hisR ?_
  intro p e s m args below meth c s₁ Bd hml0 hP hK
  obtain ⟨rfl, hZ, hh⟩ := hP
  have hx := Bd.exec
  have hby := Bd.bytes
  have hml : c.maxLocals = 4 := hml0
  have hown : s.vm.findClass "com/example/strict_pattern/strictpattern/regex/WritePlaces" = some m.cls := findClass_of_methodNamed Bd.named
  have hnm := (name_of_methodNamed Bd.named Bd.method).1
  have hlk : meth.locks = false := Bd.notSynchronized
  have X0 : Stand p l e ({ frames := 0, cells := 0, slots := 0, locals := 0 } : Room) s m #[(.ref a1), (.int p2)] below meth c s₁ [] 0 0 := Stand.of_body Bd
  have e0 : s₁.heap = h0 := by rw [← hh, Bd.state]; rfl
  have NF := Fr.nil n0
  have KP : Keep h0 h0 [] := Keep.refl _ _
  refine own_fin (s := s) (Q := Q9 Z a1 p2 b1 k1 n ls h0 n0) (rc := ({ frames := 0, cells := 0, slots := 0, locals := 0 } : Room).cells) (rs := ({ frames := 0, cells := 0, slots := 0, locals := 0 } : Room).slots) ?_
  refine own_go (fun t k => castTop (ef_9 m a1 p2) k) ?_
  show own_R _ _ _ _ (s₁.setTop (mkF m 0 #[.val (.ref a1), .val (.int p2), .unset, .unset] []))
  have ib := own_ixb p2 hn1 hn
  refine own_go (fun _ k => XS.aloadN X0.here hx rfl (hb hby d9_0) rfl rfl k) ?_
  show own_R _ _ _ _ (s₁.setTop (mkF m 1 #[.val (.ref a1), .val (.int p2), .unset, .unset] [(.ref a1)]))
  obtain ⟨T24, X24, e24, st24⟩ := getF X0 hx hZ hown (host := "") (Or.inl (hw _ (List.mem_of_getElem? (i := 26) rfl))) Via.refl e0 F_slots_a1 (g := (mkF m 1 #[.val (.ref a1), .val (.int p2), .unset, .unset] [(.ref a1)])) rfl rfl (hb hby d9_1)
  refine own_go st24 ?_
  show own_R _ _ _ _ (T24.setTop (mkF m 4 #[.val (.ref a1), .val (.int p2), .unset, .unset] [(.ref b1)]))
  refine own_go (fun _ k => XS.iloadN X24.here hx rfl (hb hby d9_4) rfl k) ?_
  show own_R _ _ _ _ (T24.setTop (mkF m 5 #[.val (.ref a1), .val (.int p2), .unset, .unset] [(.int p2), (.ref b1)]))
  refine own_go (fun _ k => XS.aloadN X24.here hx rfl (hb hby d9_5) rfl rfl k) ?_
  show own_R _ _ _ _ (T24.setTop (mkF m 6 #[.val (.ref a1), .val (.int p2), .unset, .unset] [(.ref a1), (.int p2), (.ref b1)]))
  obtain ⟨T25, X25, e25, st25⟩ := getF X24 hx hZ hown (host := "") (Or.inl (hw _ (List.mem_of_getElem? (i := 28) rfl))) Via.refl e24 F_mask_a1 (g := (mkF m 6 #[.val (.ref a1), .val (.int p2), .unset, .unset] [(.ref a1), (.int p2), (.ref b1)])) rfl rfl (hb hby d9_6)
  refine own_go st25 ?_
  show own_R _ _ _ _ (T25.setTop (mkF m 9 #[.val (.ref a1), .val (.int p2), .unset, .unset] [(.int (Int32.ofNat n - (1 : Int32))), (.int p2), (.ref b1)]))
  refine own_go (fun _ k => XS.iand X25.here hx rfl (hb hby d9_9) rfl k) ?_
  show own_R _ _ _ _ (T25.setTop (mkF m 10 #[.val (.ref a1), .val (.int p2), .unset, .unset] [(.int (p2 &&& (Int32.ofNat n - (1 : Int32)))), (.ref b1)]))
  refine own_go (own_ldJ X25 hx hZ e25 V_b1 (j := (p2 &&& (Int32.ofNat n - (1 : Int32)))) (i := (own_ix p2 n)) ib.1 rfl (v := (.long (ls.getD (own_ix p2 n) 0))) (own_atL _ _) (g := (mkF m 10 #[.val (.ref a1), .val (.int p2), .unset, .unset] [(.int (p2 &&& (Int32.ofNat n - (1 : Int32)))), (.ref b1)])) rfl rfl (hb hby d9_10)) ?_
  show own_R _ _ _ _ (T25.setTop (mkF m 11 #[.val (.ref a1), .val (.int p2), .unset, .unset] [(.long (ls.getD (own_ix p2 n) 0))]))
  refine own_go (fun _ k => XS.lstoreN X25.here hx rfl (hb hby d9_11) rfl (l' := #[.val (.ref a1), .val (.int p2), .val (.long (ls.getD (own_ix p2 n) 0)), .second]) rfl k) ?_
  show own_R _ _ _ _ (T25.setTop (mkF m 12 #[.val (.ref a1), .val (.int p2), .val (.long (ls.getD (own_ix p2 n) 0)), .second] []))
  generalize hwv : (ls.getD (own_ix p2 n) 0) = wv
  show own_R _ _ _ _ (T25.setTop (mkF m 12 #[.val (.ref a1), .val (.int p2), .val (.long wv), .second] []))
  refine own_go (fun _ k => XS.lloadN X25.here hx rfl (hb hby d9_12) rfl k) ?_
  show own_R _ _ _ _ (T25.setTop (mkF m 13 #[.val (.ref a1), .val (.int p2), .val (.long wv), .second] [(.long wv)]))
  refine own_go (fun _ k => XS.bipush X25.here hx rfl (hb hby d9_13) k) ?_
  show own_R _ _ _ _ (T25.setTop (mkF m 15 #[.val (.ref a1), .val (.int p2), .val (.long wv), .second] [(.int (32 : Int32)), (.long wv)]))
  refine own_go (fun _ k => XS.lushr X25.here hx rfl (hb hby d9_15) rfl k) ?_
  show own_R _ _ _ _ (T25.setTop (mkF m 16 #[.val (.ref a1), .val (.int p2), .val (.long wv), .second] [(.long ((wv.toUInt64 >>> ((32 : Int32) &&& 0x3f).toInt64.toUInt64).toInt64))]))
  refine own_go (fun _ k => XS.l2i X25.here hx rfl (hb hby d9_16) rfl k) ?_
  show own_R _ _ _ _ (T25.setTop (mkF m 17 #[.val (.ref a1), .val (.int p2), .val (.long wv), .second] [(.int (((wv.toUInt64 >>> ((32 : Int32) &&& 0x3f).toInt64.toUInt64).toInt64).toInt32))]))
  refine own_go (fun _ k => XS.iloadN X25.here hx rfl (hb hby d9_17) rfl k) ?_
  show own_R _ _ _ _ (T25.setTop (mkF m 18 #[.val (.ref a1), .val (.int p2), .val (.long wv), .second] [(.int p2), (.int (((wv.toUInt64 >>> ((32 : Int32) &&& 0x3f).toInt64.toUInt64).toInt64).toInt32))]))
  by_cases hc26 : (((wv.toUInt64 >>> ((32 : Int32) &&& 0x3f).toInt64.toUInt64).toInt64).toInt32) = p2
  · refine own_go (fun _ k => XS.icmpNo X25.here hx rfl (hb hby d9_18) rfl (teq hc26).2 k) ?_
    show own_R _ _ _ _ (T25.setTop (mkF m 21 #[.val (.ref a1), .val (.int p2), .val (.long wv), .second] []))
    refine own_go (fun _ k => XS.lloadN X25.here hx rfl (hb hby d9_21) rfl k) ?_
    show own_R _ _ _ _ (T25.setTop (mkF m 22 #[.val (.ref a1), .val (.int p2), .val (.long wv), .second] [(.long wv)]))
    refine own_go (fun _ k => XS.l2i X25.here hx rfl (hb hby d9_22) rfl k) ?_
    show own_R _ _ _ _ (T25.setTop (mkF m 23 #[.val (.ref a1), .val (.int p2), .val (.long wv), .second] [(.int (wv.toInt32))]))
    refine own_go (fun _ k => XS.goto X25.here hx rfl (pc0 := 23) (pc' := 27) rfl (hb hby d9_23) (by decide) (by decide) k) ?_
    show own_R _ _ _ _ (T25.setTop (mkF m 27 #[.val (.ref a1), .val (.int p2), .val (.long wv), .second] [(.int (wv.toInt32))]))
    exact own_retI X25 hx Bd.returns (hb hby d9_27) hlk ⟨by rw [hwv, own_get, if_pos (show (own_top wv = p2) from hc26)], NF, e25⟩ (by decide) (by decide)
  · refine own_go (fun _ k => XS.icmpYes X25.here hx rfl (pc0 := 18) (pc' := 26) rfl (hb hby d9_18) rfl (feq hc26).2 (by decide) (by decide) k) ?_
    show own_R _ _ _ _ (T25.setTop (mkF m 26 #[.val (.ref a1), .val (.int p2), .val (.long wv), .second] []))
    refine own_go (fun _ k => XS.iconst X25.here hx rfl (hb hby d9_26) k) ?_
    show own_R _ _ _ _ (T25.setTop (mkF m 27 #[.val (.ref a1), .val (.int p2), .val (.long wv), .second] [(.int (-1 : Int32))]))
    exact own_retI X25 hx Bd.returns (hb hby d9_27) hlk ⟨by rw [hwv, own_get, if_neg (show ¬ (own_top wv = p2) from hc26)], NF, e25⟩ (by decide) (by decide)
theorem pn_0 : plainName "com/example/strict_pattern/strictpattern/regex/WritePlacesSetPinLaw" = true := by first | (simp [plainName, overriddenIn]; done) | decide +kernel
theorem ef_0 (m : MethodId) (x0 : Int32) (x1 : Int32) (x2 : Int32) (x3 : Int32) (x4 : Int32) (x5 : Int32) : entryFrame m #[(.int x0), (.int x1), (.int x2), (.int x3), (.int x4), (.int x5)] maxLocals = mkF m 0 #[.val (.int x0), .val (.int x1), .val (.int x2), .val (.int x3), .val (.int x4), .val (.int x5), .unset, .unset, .unset, .unset, .unset, .unset, .unset, .unset, .unset, .unset] [] := by first | (simp [entryFrame, mkF, argsToLocals, Value.category, maxLocals]; done) | rfl
def Q0 (Z : State) (p1 : Int32) (p2 : Int32) (p3 : Int32) (p4 : Int32) (p5 : Int32) (p6 : Int32) (h0 : Heap) (n0 : Nat) (v : Option Value) (h : Heap) (L : List Loc) : Prop := v = some (.int 1) ∧ Fr n0 L
set_option maxRecDepth 65536 in
set_option maxHeartbeats 40000000 in
theorem rm0 (l : Launch) (Z : State) (a0 : Array Value) (hw : ∀ d ∈ tables_1, d.before a0 Z = true) (ws : List Jvm.Cond) (p1 : Int32) (p2 : Int32) (p3 : Int32) (p4 : Int32) (p5 : Int32) (p6 : Int32) (h0 : Heap) (n0 : Nat) (ZS : n0 ≤ h0.size) :
    MetFree l x (head1 (Jvm.Cond.code x code maxLocals ret :: ws) room_1) (fun a U => a = #[(.int p1), (.int p2), (.int p3), (.int p4), (.int p5), (.int p6)] ∧ Z.Warmed39 U.vm ∧ U.heap = h0) (fun _ _ _ _ _ => True) (fun _ U o U' => ∃ v L, o = .returned v ∧ Q0 Z p1 p2 p3 p4 p5 p6 h0 n0 v U'.heap L ∧ FrameEnd U o U' L 16 2176) := by
  refine MetFree.of_bodySF (plainFor_of_name pn_0) hisR ?_
  intro p e s m args below meth c s₁ Bd hml0 hP hK
  obtain ⟨rfl, hZ, hh⟩ := hP
  have hx := Bd.exec
  have hby := Bd.bytes
  have hml : c.maxLocals = 16 := hml0
  have hown : s.vm.findClass "com/example/strict_pattern/strictpattern/regex/WritePlacesSetPinLaw" = some m.cls := findClass_of_methodNamed Bd.named
  have hnm := (name_of_methodNamed Bd.named Bd.method).1
  have hlk : meth.locks = false := Bd.notSynchronized
  have X0 : Stand p l e room_1 s m #[(.int p1), (.int p2), (.int p3), (.int p4), (.int p5), (.int p6)] below meth c s₁ [] 0 0 := Stand.of_body Bd
  have e0 : s₁.heap = h0 := by rw [← hh, Bd.state]; rfl
  have NF := Fr.nil n0
  have KP : Keep h0 h0 [] := Keep.refl _ _
  refine own_fin (s := s) (Q := Q0 Z p1 p2 p3 p4 p5 p6 h0 n0) (rc := 16) (rs := 2176) ?_
  refine own_go (fun t k => castTop (ef_0 m p1 p2 p3 p4 p5 p6) k) ?_
  show own_R _ _ _ _ (s₁.setTop (mkF m 0 #[.val (.int p1), .val (.int p2), .val (.int p3), .val (.int p4), .val (.int p5), .val (.int p6), .unset, .unset, .unset, .unset, .unset, .unset, .unset, .unset, .unset, .unset] []))
  refine own_go (fun _ k => XS.iloadN X0.here hx rfl (hb hby at_0) rfl k) ?_
  show own_R _ _ _ _ (s₁.setTop (mkF m 1 #[.val (.int p1), .val (.int p2), .val (.int p3), .val (.int p4), .val (.int p5), .val (.int p6), .unset, .unset, .unset, .unset, .unset, .unset, .unset, .unset, .unset, .unset] [(.int p1)]))
  refine own_go (fun _ k => XS.iconst X0.here hx rfl (hb hby at_1) k) ?_
  show own_R _ _ _ _ (s₁.setTop (mkF m 2 #[.val (.int p1), .val (.int p2), .val (.int p3), .val (.int p4), .val (.int p5), .val (.int p6), .unset, .unset, .unset, .unset, .unset, .unset, .unset, .unset, .unset, .unset] [(.int (2 : Int32)), (.int p1)]))
  refine own_go (fun _ k => XS.iushr X0.here hx rfl (hb hby at_2) rfl k) ?_
  show own_R _ _ _ _ (s₁.setTop (mkF m 3 #[.val (.int p1), .val (.int p2), .val (.int p3), .val (.int p4), .val (.int p5), .val (.int p6), .unset, .unset, .unset, .unset, .unset, .unset, .unset, .unset, .unset, .unset] [(.int ((p1.toUInt32 >>> ((2 : Int32) &&& 31).toUInt32).toInt32))]))
  refine own_go (fun _ k => XS.bipush X0.here hx rfl (hb hby at_3) k) ?_
  show own_R _ _ _ _ (s₁.setTop (mkF m 5 #[.val (.int p1), .val (.int p2), .val (.int p3), .val (.int p4), .val (.int p5), .val (.int p6), .unset, .unset, .unset, .unset, .unset, .unset, .unset, .unset, .unset, .unset] [(.int (11 : Int32)), (.int ((p1.toUInt32 >>> ((2 : Int32) &&& 31).toUInt32).toInt32))]))
  refine own_go (fun _ k => iremM X0 hx rfl (hb hby at_5) rfl (by decide) k) ?_
  show own_R _ _ _ _ (s₁.setTop (mkF m 6 #[.val (.int p1), .val (.int p2), .val (.int p3), .val (.int p4), .val (.int p5), .val (.int p6), .unset, .unset, .unset, .unset, .unset, .unset, .unset, .unset, .unset, .unset] [(.int (((p1.toUInt32 >>> ((2 : Int32) &&& 31).toUInt32).toInt32) % (11 : Int32)))]))
  refine own_go (fun _ k => XS.istore X0.here hx rfl (hb hby at_6) rfl (l' := #[.val (.int p1), .val (.int p2), .val (.int p3), .val (.int p4), .val (.int p5), .val (.int p6), .val (.int (((p1.toUInt32 >>> ((2 : Int32) &&& 31).toUInt32).toInt32) % (11 : Int32))), .unset, .unset, .unset, .unset, .unset, .unset, .unset, .unset, .unset]) rfl k) ?_
  show own_R _ _ _ _ (s₁.setTop (mkF m 8 #[.val (.int p1), .val (.int p2), .val (.int p3), .val (.int p4), .val (.int p5), .val (.int p6), .val (.int (((p1.toUInt32 >>> ((2 : Int32) &&& 31).toUInt32).toInt32) % (11 : Int32))), .unset, .unset, .unset, .unset, .unset, .unset, .unset, .unset, .unset] []))
  generalize hkk : (((p1.toUInt32 >>> ((2 : Int32) &&& 31).toUInt32).toInt32) % (11 : Int32)) = kk
  show own_R _ _ _ _ (s₁.setTop (mkF m 8 #[.val (.int p1), .val (.int p2), .val (.int p3), .val (.int p4), .val (.int p5), .val (.int p6), .val (.int kk), .unset, .unset, .unset, .unset, .unset, .unset, .unset, .unset, .unset] []))
  obtain ⟨n, hn1, hn, hsh, hcnt, hm0, hm1⟩ := own_k _ _ hkk
  refine own_go (fun _ k => XS.iconst X0.here hx rfl (hb hby at_8) k) ?_
  show own_R _ _ _ _ (s₁.setTop (mkF m 9 #[.val (.int p1), .val (.int p2), .val (.int p3), .val (.int p4), .val (.int p5), .val (.int p6), .val (.int kk), .unset, .unset, .unset, .unset, .unset, .unset, .unset, .unset, .unset] [(.int (1 : Int32))]))
  refine own_go (fun _ k => XS.iload X0.here hx rfl (hb hby at_9) rfl k) ?_
  show own_R _ _ _ _ (s₁.setTop (mkF m 11 #[.val (.int p1), .val (.int p2), .val (.int p3), .val (.int p4), .val (.int p5), .val (.int p6), .val (.int kk), .unset, .unset, .unset, .unset, .unset, .unset, .unset, .unset, .unset] [(.int kk), (.int (1 : Int32))]))
  refine own_go (fun _ k => XS.ishl X0.here hx rfl (hb hby at_11) rfl k) ?_
  show own_R _ _ _ _ (s₁.setTop (mkF m 12 #[.val (.int p1), .val (.int p2), .val (.int p3), .val (.int p4), .val (.int p5), .val (.int p6), .val (.int kk), .unset, .unset, .unset, .unset, .unset, .unset, .unset, .unset, .unset] [(.int ((1 : Int32) <<< (kk &&& 31)))]))
  rw [hsh]
  show own_R _ _ _ _ (s₁.setTop (mkF m 12 #[.val (.int p1), .val (.int p2), .val (.int p3), .val (.int p4), .val (.int p5), .val (.int p6), .val (.int kk), .unset, .unset, .unset, .unset, .unset, .unset, .unset, .unset, .unset] [(.int (Int32.ofNat n))]))
  refine own_go (fun _ k => XS.iconst X0.here hx rfl (hb hby at_12) k) ?_
  show own_R _ _ _ _ (s₁.setTop (mkF m 13 #[.val (.int p1), .val (.int p2), .val (.int p3), .val (.int p4), .val (.int p5), .val (.int p6), .val (.int kk), .unset, .unset, .unset, .unset, .unset, .unset, .unset, .unset, .unset] [(.int (1 : Int32)), (.int (Int32.ofNat n))]))
  refine own_go (fun _ k => XS.isub X0.here hx rfl (hb hby at_13) rfl k) ?_
  show own_R _ _ _ _ (s₁.setTop (mkF m 14 #[.val (.int p1), .val (.int p2), .val (.int p3), .val (.int p4), .val (.int p5), .val (.int p6), .val (.int kk), .unset, .unset, .unset, .unset, .unset, .unset, .unset, .unset, .unset] [(.int ((Int32.ofNat n) - (1 : Int32)))]))
  refine own_go (fun _ k => XS.istore X0.here hx rfl (hb hby at_14) rfl (l' := #[.val (.int p1), .val (.int p2), .val (.int p3), .val (.int p4), .val (.int p5), .val (.int p6), .val (.int kk), .val (.int ((Int32.ofNat n) - (1 : Int32))), .unset, .unset, .unset, .unset, .unset, .unset, .unset, .unset]) rfl k) ?_
  show own_R _ _ _ _ (s₁.setTop (mkF m 16 #[.val (.int p1), .val (.int p2), .val (.int p3), .val (.int p4), .val (.int p5), .val (.int p6), .val (.int kk), .val (.int ((Int32.ofNat n) - (1 : Int32))), .unset, .unset, .unset, .unset, .unset, .unset, .unset, .unset] []))
  obtain ⟨_, ⟨ww, hs27, rfl⟩, sg27⟩ : own_R p.tables e below (fun U => ∃ (ww : Int32), (True) ∧ U = s₁.setTop (mkF m 32 #[.val (.int p1), .val (.int p2), .val (.int p3), .val (.int p4), .val (.int p5), .val (.int p6), .val (.int kk), .val (.int ((Int32.ofNat n) - (1 : Int32))), .unset, .unset, .unset, .unset, .unset, .unset, .unset, .unset] [(.int ww)])) (s₁.setTop (mkF m 16 #[.val (.int p1), .val (.int p2), .val (.int p3), .val (.int p4), .val (.int p5), .val (.int p6), .val (.int kk), .val (.int ((Int32.ofNat n) - (1 : Int32))), .unset, .unset, .unset, .unset, .unset, .unset, .unset, .unset] [])) := by
    refine own_go (fun _ k => XS.iloadN X0.here hx rfl (hb hby at_16) rfl k) ?_
    show own_R _ _ _ _ (s₁.setTop (mkF m 17 #[.val (.int p1), .val (.int p2), .val (.int p3), .val (.int p4), .val (.int p5), .val (.int p6), .val (.int kk), .val (.int ((Int32.ofNat n) - (1 : Int32))), .unset, .unset, .unset, .unset, .unset, .unset, .unset, .unset] [(.int p1)]))
    refine own_go (fun _ k => XS.iconst X0.here hx rfl (hb hby at_17) k) ?_
    show own_R _ _ _ _ (s₁.setTop (mkF m 18 #[.val (.int p1), .val (.int p2), .val (.int p3), .val (.int p4), .val (.int p5), .val (.int p6), .val (.int kk), .val (.int ((Int32.ofNat n) - (1 : Int32))), .unset, .unset, .unset, .unset, .unset, .unset, .unset, .unset] [(.int (1 : Int32)), (.int p1)]))
    refine own_go (fun _ k => XS.iand X0.here hx rfl (hb hby at_18) rfl k) ?_
    show own_R _ _ _ _ (s₁.setTop (mkF m 19 #[.val (.int p1), .val (.int p2), .val (.int p3), .val (.int p4), .val (.int p5), .val (.int p6), .val (.int kk), .val (.int ((Int32.ofNat n) - (1 : Int32))), .unset, .unset, .unset, .unset, .unset, .unset, .unset, .unset] [(.int (p1 &&& (1 : Int32)))]))
    by_cases hc28 : (p1 &&& (1 : Int32)) = (0 : Int32)
    · refine own_go (fun _ k => XS.ifYes X0.here hx rfl (pc0 := 19) (pc' := 31) rfl (hb hby at_19) rfl ((if0 _ _).trans (teq hc28).1) (by decide) (by decide) k) ?_
      show own_R _ _ _ _ (s₁.setTop (mkF m 31 #[.val (.int p1), .val (.int p2), .val (.int p3), .val (.int p4), .val (.int p5), .val (.int p6), .val (.int kk), .val (.int ((Int32.ofNat n) - (1 : Int32))), .unset, .unset, .unset, .unset, .unset, .unset, .unset, .unset] []))
      refine own_go (fun _ k => XS.iloadN X0.here hx rfl (hb hby at_31) rfl k) ?_
      show own_R _ _ _ _ (s₁.setTop (mkF m 32 #[.val (.int p1), .val (.int p2), .val (.int p3), .val (.int p4), .val (.int p5), .val (.int p6), .val (.int kk), .val (.int ((Int32.ofNat n) - (1 : Int32))), .unset, .unset, .unset, .unset, .unset, .unset, .unset, .unset] [(.int p4)]))
      exact own_leaf ⟨p4, trivial, rfl⟩
    · refine own_go (fun _ k => XS.ifNo X0.here hx rfl (hb hby at_19) rfl ((if0 _ _).trans (feq hc28).1) k) ?_
      show own_R _ _ _ _ (s₁.setTop (mkF m 22 #[.val (.int p1), .val (.int p2), .val (.int p3), .val (.int p4), .val (.int p5), .val (.int p6), .val (.int kk), .val (.int ((Int32.ofNat n) - (1 : Int32))), .unset, .unset, .unset, .unset, .unset, .unset, .unset, .unset] []))
      refine own_go (fun _ k => XS.iloadN X0.here hx rfl (hb hby at_22) rfl k) ?_
      show own_R _ _ _ _ (s₁.setTop (mkF m 23 #[.val (.int p1), .val (.int p2), .val (.int p3), .val (.int p4), .val (.int p5), .val (.int p6), .val (.int kk), .val (.int ((Int32.ofNat n) - (1 : Int32))), .unset, .unset, .unset, .unset, .unset, .unset, .unset, .unset] [(.int p2)]))
      refine own_go (fun _ k => XS.iloadN X0.here hx rfl (hb hby at_23) rfl k) ?_
      show own_R _ _ _ _ (s₁.setTop (mkF m 24 #[.val (.int p1), .val (.int p2), .val (.int p3), .val (.int p4), .val (.int p5), .val (.int p6), .val (.int kk), .val (.int ((Int32.ofNat n) - (1 : Int32))), .unset, .unset, .unset, .unset, .unset, .unset, .unset, .unset] [(.int p4), (.int p2)]))
      refine own_go (fun _ k => XS.iload X0.here hx rfl (hb hby at_24) rfl k) ?_
      show own_R _ _ _ _ (s₁.setTop (mkF m 26 #[.val (.int p1), .val (.int p2), .val (.int p3), .val (.int p4), .val (.int p5), .val (.int p6), .val (.int kk), .val (.int ((Int32.ofNat n) - (1 : Int32))), .unset, .unset, .unset, .unset, .unset, .unset, .unset, .unset] [(.int kk), (.int p4), (.int p2)]))
      refine own_go (fun _ k => XS.ishl X0.here hx rfl (hb hby at_26) rfl k) ?_
      show own_R _ _ _ _ (s₁.setTop (mkF m 27 #[.val (.int p1), .val (.int p2), .val (.int p3), .val (.int p4), .val (.int p5), .val (.int p6), .val (.int kk), .val (.int ((Int32.ofNat n) - (1 : Int32))), .unset, .unset, .unset, .unset, .unset, .unset, .unset, .unset] [(.int (p4 <<< (kk &&& 31))), (.int p2)]))
      refine own_go (fun _ k => XS.iadd X0.here hx rfl (hb hby at_27) rfl k) ?_
      show own_R _ _ _ _ (s₁.setTop (mkF m 28 #[.val (.int p1), .val (.int p2), .val (.int p3), .val (.int p4), .val (.int p5), .val (.int p6), .val (.int kk), .val (.int ((Int32.ofNat n) - (1 : Int32))), .unset, .unset, .unset, .unset, .unset, .unset, .unset, .unset] [(.int (p2 + (p4 <<< (kk &&& 31))))]))
      refine own_go (fun _ k => XS.goto X0.here hx rfl (pc0 := 28) (pc' := 32) rfl (hb hby at_28) (by decide) (by decide) k) ?_
      show own_R _ _ _ _ (s₁.setTop (mkF m 32 #[.val (.int p1), .val (.int p2), .val (.int p3), .val (.int p4), .val (.int p5), .val (.int p6), .val (.int kk), .val (.int ((Int32.ofNat n) - (1 : Int32))), .unset, .unset, .unset, .unset, .unset, .unset, .unset, .unset] [(.int (p2 + (p4 <<< (kk &&& 31))))]))
      exact own_leaf ⟨(p2 + (p4 <<< (kk &&& 31))), trivial, rfl⟩
  refine own_go sg27 ?_
  show own_R _ _ _ _ (s₁.setTop (mkF m 32 #[.val (.int p1), .val (.int p2), .val (.int p3), .val (.int p4), .val (.int p5), .val (.int p6), .val (.int kk), .val (.int ((Int32.ofNat n) - (1 : Int32))), .unset, .unset, .unset, .unset, .unset, .unset, .unset, .unset] [(.int ww)]))
  refine own_go (fun _ k => XS.istore X0.here hx rfl (hb hby at_32) rfl (l' := #[.val (.int p1), .val (.int p2), .val (.int p3), .val (.int p4), .val (.int p5), .val (.int p6), .val (.int kk), .val (.int ((Int32.ofNat n) - (1 : Int32))), .val (.int ww), .unset, .unset, .unset, .unset, .unset, .unset, .unset]) rfl k) ?_
  show own_R _ _ _ _ (s₁.setTop (mkF m 34 #[.val (.int p1), .val (.int p2), .val (.int p3), .val (.int p4), .val (.int p5), .val (.int p6), .val (.int kk), .val (.int ((Int32.ofNat n) - (1 : Int32))), .val (.int ww), .unset, .unset, .unset, .unset, .unset, .unset, .unset] []))
  obtain ⟨_, ⟨uu, hs29, rfl⟩, sg29⟩ : own_R p.tables e below (fun U => ∃ (uu : Int32), (True) ∧ U = s₁.setTop (mkF m 52 #[.val (.int p1), .val (.int p2), .val (.int p3), .val (.int p4), .val (.int p5), .val (.int p6), .val (.int kk), .val (.int ((Int32.ofNat n) - (1 : Int32))), .val (.int ww), .unset, .unset, .unset, .unset, .unset, .unset, .unset] [(.int uu)])) (s₁.setTop (mkF m 34 #[.val (.int p1), .val (.int p2), .val (.int p3), .val (.int p4), .val (.int p5), .val (.int p6), .val (.int kk), .val (.int ((Int32.ofNat n) - (1 : Int32))), .val (.int ww), .unset, .unset, .unset, .unset, .unset, .unset, .unset] [])) := by
    refine own_go (fun _ k => XS.iloadN X0.here hx rfl (hb hby at_34) rfl k) ?_
    show own_R _ _ _ _ (s₁.setTop (mkF m 35 #[.val (.int p1), .val (.int p2), .val (.int p3), .val (.int p4), .val (.int p5), .val (.int p6), .val (.int kk), .val (.int ((Int32.ofNat n) - (1 : Int32))), .val (.int ww), .unset, .unset, .unset, .unset, .unset, .unset, .unset] [(.int p1)]))
    refine own_go (fun _ k => XS.iconst X0.here hx rfl (hb hby at_35) k) ?_
    show own_R _ _ _ _ (s₁.setTop (mkF m 36 #[.val (.int p1), .val (.int p2), .val (.int p3), .val (.int p4), .val (.int p5), .val (.int p6), .val (.int kk), .val (.int ((Int32.ofNat n) - (1 : Int32))), .val (.int ww), .unset, .unset, .unset, .unset, .unset, .unset, .unset] [(.int (2 : Int32)), (.int p1)]))
    refine own_go (fun _ k => XS.iand X0.here hx rfl (hb hby at_36) rfl k) ?_
    show own_R _ _ _ _ (s₁.setTop (mkF m 37 #[.val (.int p1), .val (.int p2), .val (.int p3), .val (.int p4), .val (.int p5), .val (.int p6), .val (.int kk), .val (.int ((Int32.ofNat n) - (1 : Int32))), .val (.int ww), .unset, .unset, .unset, .unset, .unset, .unset, .unset] [(.int (p1 &&& (2 : Int32)))]))
    by_cases hc30 : (p1 &&& (2 : Int32)) = (0 : Int32)
    · refine own_go (fun _ k => XS.ifYes X0.here hx rfl (pc0 := 37) (pc' := 50) rfl (hb hby at_37) rfl ((if0 _ _).trans (teq hc30).1) (by decide) (by decide) k) ?_
      show own_R _ _ _ _ (s₁.setTop (mkF m 50 #[.val (.int p1), .val (.int p2), .val (.int p3), .val (.int p4), .val (.int p5), .val (.int p6), .val (.int kk), .val (.int ((Int32.ofNat n) - (1 : Int32))), .val (.int ww), .unset, .unset, .unset, .unset, .unset, .unset, .unset] []))
      refine own_go (fun _ k => XS.iload X0.here hx rfl (hb hby at_50) rfl k) ?_
      show own_R _ _ _ _ (s₁.setTop (mkF m 52 #[.val (.int p1), .val (.int p2), .val (.int p3), .val (.int p4), .val (.int p5), .val (.int p6), .val (.int kk), .val (.int ((Int32.ofNat n) - (1 : Int32))), .val (.int ww), .unset, .unset, .unset, .unset, .unset, .unset, .unset] [(.int p6)]))
      exact own_leaf ⟨p6, trivial, rfl⟩
    · refine own_go (fun _ k => XS.ifNo X0.here hx rfl (hb hby at_37) rfl ((if0 _ _).trans (feq hc30).1) k) ?_
      show own_R _ _ _ _ (s₁.setTop (mkF m 40 #[.val (.int p1), .val (.int p2), .val (.int p3), .val (.int p4), .val (.int p5), .val (.int p6), .val (.int kk), .val (.int ((Int32.ofNat n) - (1 : Int32))), .val (.int ww), .unset, .unset, .unset, .unset, .unset, .unset, .unset] []))
      refine own_go (fun _ k => XS.iloadN X0.here hx rfl (hb hby at_40) rfl k) ?_
      show own_R _ _ _ _ (s₁.setTop (mkF m 41 #[.val (.int p1), .val (.int p2), .val (.int p3), .val (.int p4), .val (.int p5), .val (.int p6), .val (.int kk), .val (.int ((Int32.ofNat n) - (1 : Int32))), .val (.int ww), .unset, .unset, .unset, .unset, .unset, .unset, .unset] [(.int p2)]))
      refine own_go (fun _ k => XS.iload X0.here hx rfl (hb hby at_41) rfl k) ?_
      show own_R _ _ _ _ (s₁.setTop (mkF m 43 #[.val (.int p1), .val (.int p2), .val (.int p3), .val (.int p4), .val (.int p5), .val (.int p6), .val (.int kk), .val (.int ((Int32.ofNat n) - (1 : Int32))), .val (.int ww), .unset, .unset, .unset, .unset, .unset, .unset, .unset] [(.int p6), (.int p2)]))
      refine own_go (fun _ k => XS.iload X0.here hx rfl (hb hby at_43) rfl k) ?_
      show own_R _ _ _ _ (s₁.setTop (mkF m 45 #[.val (.int p1), .val (.int p2), .val (.int p3), .val (.int p4), .val (.int p5), .val (.int p6), .val (.int kk), .val (.int ((Int32.ofNat n) - (1 : Int32))), .val (.int ww), .unset, .unset, .unset, .unset, .unset, .unset, .unset] [(.int kk), (.int p6), (.int p2)]))
      refine own_go (fun _ k => XS.ishl X0.here hx rfl (hb hby at_45) rfl k) ?_
      show own_R _ _ _ _ (s₁.setTop (mkF m 46 #[.val (.int p1), .val (.int p2), .val (.int p3), .val (.int p4), .val (.int p5), .val (.int p6), .val (.int kk), .val (.int ((Int32.ofNat n) - (1 : Int32))), .val (.int ww), .unset, .unset, .unset, .unset, .unset, .unset, .unset] [(.int (p6 <<< (kk &&& 31))), (.int p2)]))
      refine own_go (fun _ k => XS.iadd X0.here hx rfl (hb hby at_46) rfl k) ?_
      show own_R _ _ _ _ (s₁.setTop (mkF m 47 #[.val (.int p1), .val (.int p2), .val (.int p3), .val (.int p4), .val (.int p5), .val (.int p6), .val (.int kk), .val (.int ((Int32.ofNat n) - (1 : Int32))), .val (.int ww), .unset, .unset, .unset, .unset, .unset, .unset, .unset] [(.int (p2 + (p6 <<< (kk &&& 31))))]))
      refine own_go (fun _ k => XS.goto X0.here hx rfl (pc0 := 47) (pc' := 52) rfl (hb hby at_47) (by decide) (by decide) k) ?_
      show own_R _ _ _ _ (s₁.setTop (mkF m 52 #[.val (.int p1), .val (.int p2), .val (.int p3), .val (.int p4), .val (.int p5), .val (.int p6), .val (.int kk), .val (.int ((Int32.ofNat n) - (1 : Int32))), .val (.int ww), .unset, .unset, .unset, .unset, .unset, .unset, .unset] [(.int (p2 + (p6 <<< (kk &&& 31))))]))
      exact own_leaf ⟨(p2 + (p6 <<< (kk &&& 31))), trivial, rfl⟩
  refine own_go sg29 ?_
  show own_R _ _ _ _ (s₁.setTop (mkF m 52 #[.val (.int p1), .val (.int p2), .val (.int p3), .val (.int p4), .val (.int p5), .val (.int p6), .val (.int kk), .val (.int ((Int32.ofNat n) - (1 : Int32))), .val (.int ww), .unset, .unset, .unset, .unset, .unset, .unset, .unset] [(.int uu)]))
  refine own_go (fun _ k => XS.istore X0.here hx rfl (hb hby at_52) rfl (l' := #[.val (.int p1), .val (.int p2), .val (.int p3), .val (.int p4), .val (.int p5), .val (.int p6), .val (.int kk), .val (.int ((Int32.ofNat n) - (1 : Int32))), .val (.int ww), .val (.int uu), .unset, .unset, .unset, .unset, .unset, .unset]) rfl k) ?_
  show own_R _ _ _ _ (s₁.setTop (mkF m 54 #[.val (.int p1), .val (.int p2), .val (.int p3), .val (.int p4), .val (.int p5), .val (.int p6), .val (.int kk), .val (.int ((Int32.ofNat n) - (1 : Int32))), .val (.int ww), .val (.int uu), .unset, .unset, .unset, .unset, .unset, .unset] []))
  obtain ⟨T31, h31, X31, e31, E31, A31, D31, -, st31⟩ := newO X0 hx hZ hown (hw _ (List.mem_of_getElem? (i := 0) rfl)) (hw _ (List.mem_of_getElem? (i := 1) rfl)) (hw _ (List.mem_of_getElem? (i := 2) rfl)) e0 (g := (mkF m 54 #[.val (.int p1), .val (.int p2), .val (.int p3), .val (.int p4), .val (.int p5), .val (.int p6), .val (.int kk), .val (.int ((Int32.ofNat n) - (1 : Int32))), .val (.int ww), .val (.int uu), .unset, .unset, .unset, .unset, .unset, .unset] [])) rfl (hb hby at_54) (by decide) (by decide)
  obtain ⟨b31, g31⟩ : ∃ z, z = h0.size := ⟨_, rfl⟩
  rw [← g31] at A31 D31 st31
  refine own_go st31 ?_
  have g_b31 : n0 ≤ b31 := Nat.le_trans ZS (Nat.le_of_eq g31.symm)
  have sz_b31 : h0.size ≤ b31 := Nat.le_trans KP.1 (Nat.le_of_eq g31.symm)
  have ZS := Nat.le_trans ZS E31.1
  have KP := KP.ext E31
  have E_b31 := A31
  have F_slots_b31 : Fld Z h31 b31 "com/example/strict_pattern/strictpattern/regex/WritePlaces" "slots" "[J" .null := D31 (Or.inr (hw _ (List.mem_of_getElem? (i := 27) rfl))) (ty := (.array .long)) (by decide)
  have F_mask_b31 : Fld Z h31 b31 "com/example/strict_pattern/strictpattern/regex/WritePlaces" "mask" "I" (.int (0 : Int32)) := D31 (Or.inr (hw _ (List.mem_of_getElem? (i := 29) rfl))) (ty := .int) (by decide)
  show own_R _ _ _ _ (T31.setTop (mkF m 57 #[.val (.int p1), .val (.int p2), .val (.int p3), .val (.int p4), .val (.int p5), .val (.int p6), .val (.int kk), .val (.int ((Int32.ofNat n) - (1 : Int32))), .val (.int ww), .val (.int uu), .unset, .unset, .unset, .unset, .unset, .unset] [(.ref b31)]))
  refine own_go (fun _ k => XS.dup X31.here hx rfl (hb hby at_57) rfl rfl k) ?_
  show own_R _ _ _ _ (T31.setTop (mkF m 58 #[.val (.int p1), .val (.int p2), .val (.int p3), .val (.int p4), .val (.int p5), .val (.int p6), .val (.int kk), .val (.int ((Int32.ofNat n) - (1 : Int32))), .val (.int ww), .val (.int uu), .unset, .unset, .unset, .unset, .unset, .unset] [(.ref b31), (.ref b31)]))
  refine own_go (fun _ k => XS.iconst X31.here hx rfl (hb hby at_58) k) ?_
  show own_R _ _ _ _ (T31.setTop (mkF m 59 #[.val (.int p1), .val (.int p2), .val (.int p3), .val (.int p4), .val (.int p5), .val (.int p6), .val (.int kk), .val (.int ((Int32.ofNat n) - (1 : Int32))), .val (.int ww), .val (.int uu), .unset, .unset, .unset, .unset, .unset, .unset] [(.int (1 : Int32)), (.ref b31), (.ref b31)]))
  refine own_go (fun _ k => XS.iload X31.here hx rfl (hb hby at_59) rfl k) ?_
  show own_R _ _ _ _ (T31.setTop (mkF m 61 #[.val (.int p1), .val (.int p2), .val (.int p3), .val (.int p4), .val (.int p5), .val (.int p6), .val (.int kk), .val (.int ((Int32.ofNat n) - (1 : Int32))), .val (.int ww), .val (.int uu), .unset, .unset, .unset, .unset, .unset, .unset] [(.int kk), (.int (1 : Int32)), (.ref b31), (.ref b31)]))
  refine own_go (fun _ k => XS.ishl X31.here hx rfl (hb hby at_61) rfl k) ?_
  show own_R _ _ _ _ (T31.setTop (mkF m 62 #[.val (.int p1), .val (.int p2), .val (.int p3), .val (.int p4), .val (.int p5), .val (.int p6), .val (.int kk), .val (.int ((Int32.ofNat n) - (1 : Int32))), .val (.int ww), .val (.int uu), .unset, .unset, .unset, .unset, .unset, .unset] [(.int ((1 : Int32) <<< (kk &&& 31))), (.ref b31), (.ref b31)]))
  rw [hsh]
  show own_R _ _ _ _ (T31.setTop (mkF m 62 #[.val (.int p1), .val (.int p2), .val (.int p3), .val (.int p4), .val (.int p5), .val (.int p6), .val (.int kk), .val (.int ((Int32.ofNat n) - (1 : Int32))), .val (.int ww), .val (.int uu), .unset, .unset, .unset, .unset, .unset, .unset] [(.int (Int32.ofNat n)), (.ref b31), (.ref b31)]))
  obtain ⟨_, _, ⟨T32, L32, k32, n32⟩, -, X32, ⟨Lc32, hQ32, l32, y32, z32⟩, st32⟩ := X31.specialBack hx (y := (⟨"com/example/strict_pattern/strictpattern/regex/WritePlaces", "<init>", "(I)V"⟩ : MethodName)) rfl hown (mvT hZ (hw _ (List.mem_of_getElem? (i := 3) rfl))) (mvT hZ (hw _ (List.mem_of_getElem? (i := 4) rfl))) (mvT hZ (hw _ (List.mem_of_getElem? (i := 5) rfl))) (by decide) (backOf (W := 1) (rm1 l Z a0 hw [] b31 (Int32.ofNat n) .null (.int (0 : Int32)) n h31 n0 ZS E_b31 F_slots_b31 F_mask_b31 g_b31 hm0 hm1 hcnt hn) hZ (hw _ (List.mem_of_getElem? (i := 5) rfl)) (hw _ (List.mem_of_getElem? (i := 2) rfl)) (by decide) (by decide)) (g := (mkF m 62 #[.val (.int p1), .val (.int p2), .val (.int p3), .val (.int p4), .val (.int p5), .val (.int p6), .val (.int kk), .val (.int ((Int32.ofNat n) - (1 : Int32))), .val (.int ww), .val (.int uu), .unset, .unset, .unset, .unset, .unset, .unset] [(.int (Int32.ofNat n)), (.ref b31), (.ref b31)])) rfl (by rw [hml]; rfl) (Steps.refl _) (a := b31) (argsL := [(.int (Int32.ofNat n))]) (rest := [(.ref b31)]) (lenOf pd_3 rfl) rfl (by show 2 * 0 + _ ≤ _; exact Nat.le_of_eq rfl) (hb hby at_62) (fun _ _ => ⟨rfl, e31, (by decide : 1 + 1 ≤ _), (by decide : 2 + 1024 ≤ _)⟩)
  dsimp only [Pt.U, Pt.locs, Pt.cells, Pt.slots] at X32 l32 y32 z32 st32 hQ32
  subst l32 y32 z32
  obtain ⟨h32, e32'⟩ : ∃ z, z = T32.heap := ⟨_, rfl⟩
  rw [← e32'] at hQ32
  have e32 : T32.heap = h32 := e32'.symm
  obtain ⟨rfl, N32q, K32, pp1, c33, pp2, hbc33, kc33, Vc33'⟩ := hQ32
  have NF := Fr.app NF N32q
  refine own_go (fun _ k => st32.trans k) ?_
  have ne_b31_c33 : b31 ≠ c33 := Nat.ne_of_lt (Nat.lt_of_lt_of_le E_b31.lt hbc33)
  have g_c33 : n0 ≤ c33 := Nat.le_trans ZS hbc33
  have sz_c33 : h0.size ≤ c33 := Nat.le_trans KP.1 hbc33
  have E_b31 := E_b31.keep K32
  have ZS := Nat.le_trans ZS K32.1
  have KP := KP.trans K32 (allS (Or.inr sz_b31) all0)
  have F_mask_b31 := pp1
  have F_slots_b31 := pp2
  have V_c33 := Vc33'
  show own_R _ _ _ _ (T32.setTop (mkF m 65 #[.val (.int p1), .val (.int p2), .val (.int p3), .val (.int p4), .val (.int p5), .val (.int p6), .val (.int kk), .val (.int ((Int32.ofNat n) - (1 : Int32))), .val (.int ww), .val (.int uu), .unset, .unset, .unset, .unset, .unset, .unset] [(.ref b31)]))
  refine own_go (fun _ k => XS.astore X32.here hx rfl (hb hby at_65) rfl rfl (l' := #[.val (.int p1), .val (.int p2), .val (.int p3), .val (.int p4), .val (.int p5), .val (.int p6), .val (.int kk), .val (.int ((Int32.ofNat n) - (1 : Int32))), .val (.int ww), .val (.int uu), .val (.ref b31), .unset, .unset, .unset, .unset, .unset]) rfl k) ?_
  show own_R _ _ _ _ (T32.setTop (mkF m 67 #[.val (.int p1), .val (.int p2), .val (.int p3), .val (.int p4), .val (.int p5), .val (.int p6), .val (.int kk), .val (.int ((Int32.ofNat n) - (1 : Int32))), .val (.int ww), .val (.int uu), .val (.ref b31), .unset, .unset, .unset, .unset, .unset] []))
  refine own_go (fun _ k => XS.aload X32.here hx rfl (hb hby at_67) rfl rfl k) ?_
  show own_R _ _ _ _ (T32.setTop (mkF m 69 #[.val (.int p1), .val (.int p2), .val (.int p3), .val (.int p4), .val (.int p5), .val (.int p6), .val (.int kk), .val (.int ((Int32.ofNat n) - (1 : Int32))), .val (.int ww), .val (.int uu), .val (.ref b31), .unset, .unset, .unset, .unset, .unset] [(.ref b31)]))
  refine own_go (fun _ k => XS.iload X32.here hx rfl (hb hby at_69) rfl k) ?_
  show own_R _ _ _ _ (T32.setTop (mkF m 71 #[.val (.int p1), .val (.int p2), .val (.int p3), .val (.int p4), .val (.int p5), .val (.int p6), .val (.int kk), .val (.int ((Int32.ofNat n) - (1 : Int32))), .val (.int ww), .val (.int uu), .val (.ref b31), .unset, .unset, .unset, .unset, .unset] [(.int ww), (.ref b31)]))
  refine own_go (fun _ k => XS.iload X32.here hx rfl (hb hby at_71) rfl k) ?_
  show own_R _ _ _ _ (T32.setTop (mkF m 73 #[.val (.int p1), .val (.int p2), .val (.int p3), .val (.int p4), .val (.int p5), .val (.int p6), .val (.int kk), .val (.int ((Int32.ofNat n) - (1 : Int32))), .val (.int ww), .val (.int uu), .val (.ref b31), .unset, .unset, .unset, .unset, .unset] [(.int p5), (.int ww), (.ref b31)]))
  obtain ⟨cq33, kq33, q33a, q33b, q33c⟩ := isOf hZ e32 E_b31
  obtain ⟨_, _, ⟨T33, L33, k33, n33⟩, -, X33, ⟨Lc33, hQ33, l33, y33, z33⟩, st33⟩ := X32.virtualBack hx (y := (⟨"com/example/strict_pattern/strictpattern/regex/WritePlaces", "set", "(II)V"⟩ : MethodName)) (z := (⟨"com/example/strict_pattern/strictpattern/regex/WritePlaces", "set", "(II)V"⟩ : MethodName)) hown (mvT hZ (hw _ (List.mem_of_getElem? (i := 35) rfl))) (mvT hZ (hw _ (List.mem_of_getElem? (i := 36) rfl))) (notFace_of_selects (args := #[]) (mvT hZ (hw _ (List.mem_of_getElem? (i := 38) rfl)))) (mvT hZ (hw _ (List.mem_of_getElem? (i := 38) rfl))) (mvT hZ (hw _ (List.mem_of_getElem? (i := 37) rfl))) (by decide) (backOf (W := 0) (rm8 l Z a0 hw [] b31 ww p5 c33 kc33 n (List.replicate n (-1 : Int64)) h32 n0 ZS F_slots_b31 F_mask_b31 V_c33 hn1 hn g_c33 ne_b31_c33 (by simp only [List.length_set, List.length_replicate])) hZ (hw _ (List.mem_of_getElem? (i := 39) rfl)) (hw _ (List.mem_of_getElem? (i := 2) rfl)) (by decide) (by decide)) q33a q33c (g := (mkF m 73 #[.val (.int p1), .val (.int p2), .val (.int p3), .val (.int p4), .val (.int p5), .val (.int p6), .val (.int kk), .val (.int ((Int32.ofNat n) - (1 : Int32))), .val (.int ww), .val (.int uu), .val (.ref b31), .unset, .unset, .unset, .unset, .unset] [(.int p5), (.int ww), (.ref b31)])) rfl (by rw [hml]; rfl) (Steps.refl _) (argsL := [(.int ww), (.int p5)]) (rest := []) (lenOf pd_4 rfl) rfl (by show 2 * 0 + _ ≤ _; exact Nat.le_of_eq rfl) (hb hby at_73) (fun _ _ => ⟨rfl, e32, (by decide : 2 + 0 ≤ _), (by decide : 1026 + 0 ≤ _)⟩)
  dsimp only [Pt.U, Pt.locs, Pt.cells, Pt.slots] at X33 l33 y33 z33 st33 hQ33
  subst l33 y33 z33
  obtain ⟨h33, e33'⟩ : ∃ z, z = T33.heap := ⟨_, rfl⟩
  rw [← e33'] at hQ33
  have e33 : T33.heap = h33 := e33'.symm
  obtain ⟨rfl, N33q, K33, pp1⟩ := hQ33
  have NF := Fr.app NF N33q
  refine own_go (fun _ k => st33.trans k) ?_
  have E_b31 := E_b31.keep K33
  have F_mask_b31 := F_mask_b31.keep K33 (ninS ne_b31_c33 nin0)
  have F_slots_b31 := F_slots_b31.keep K33 (ninS ne_b31_c33 nin0)
  have ZS := Nat.le_trans ZS K33.1
  have KP := KP.trans K33 (allS (Or.inr sz_c33) all0)
  have V_c33 := pp1
  show own_R _ _ _ _ (T33.setTop (mkF m 76 #[.val (.int p1), .val (.int p2), .val (.int p3), .val (.int p4), .val (.int p5), .val (.int p6), .val (.int kk), .val (.int ((Int32.ofNat n) - (1 : Int32))), .val (.int ww), .val (.int uu), .val (.ref b31), .unset, .unset, .unset, .unset, .unset] []))
  refine own_go (fun _ k => XS.aload X33.here hx rfl (hb hby at_76) rfl rfl k) ?_
  show own_R _ _ _ _ (T33.setTop (mkF m 78 #[.val (.int p1), .val (.int p2), .val (.int p3), .val (.int p4), .val (.int p5), .val (.int p6), .val (.int kk), .val (.int ((Int32.ofNat n) - (1 : Int32))), .val (.int ww), .val (.int uu), .val (.ref b31), .unset, .unset, .unset, .unset, .unset] [(.ref b31)]))
  refine own_go (fun _ k => XS.iloadN X33.here hx rfl (hb hby at_78) rfl k) ?_
  show own_R _ _ _ _ (T33.setTop (mkF m 79 #[.val (.int p1), .val (.int p2), .val (.int p3), .val (.int p4), .val (.int p5), .val (.int p6), .val (.int kk), .val (.int ((Int32.ofNat n) - (1 : Int32))), .val (.int ww), .val (.int uu), .val (.ref b31), .unset, .unset, .unset, .unset, .unset] [(.int p2), (.ref b31)]))
  refine own_go (fun _ k => XS.iloadN X33.here hx rfl (hb hby at_79) rfl k) ?_
  show own_R _ _ _ _ (T33.setTop (mkF m 80 #[.val (.int p1), .val (.int p2), .val (.int p3), .val (.int p4), .val (.int p5), .val (.int p6), .val (.int kk), .val (.int ((Int32.ofNat n) - (1 : Int32))), .val (.int ww), .val (.int uu), .val (.ref b31), .unset, .unset, .unset, .unset, .unset] [(.int p3), (.int p2), (.ref b31)]))
  obtain ⟨cq34, kq34, q34a, q34b, q34c⟩ := isOf hZ e33 E_b31
  obtain ⟨_, _, ⟨T34, L34, k34, n34⟩, -, X34, ⟨Lc34, hQ34, l34, y34, z34⟩, st34⟩ := X33.virtualBack hx (y := (⟨"com/example/strict_pattern/strictpattern/regex/WritePlaces", "set", "(II)V"⟩ : MethodName)) (z := (⟨"com/example/strict_pattern/strictpattern/regex/WritePlaces", "set", "(II)V"⟩ : MethodName)) hown (mvT hZ (hw _ (List.mem_of_getElem? (i := 35) rfl))) (mvT hZ (hw _ (List.mem_of_getElem? (i := 36) rfl))) (notFace_of_selects (args := #[]) (mvT hZ (hw _ (List.mem_of_getElem? (i := 38) rfl)))) (mvT hZ (hw _ (List.mem_of_getElem? (i := 38) rfl))) (mvT hZ (hw _ (List.mem_of_getElem? (i := 37) rfl))) (by decide) (backOf (W := 0) (rm8 l Z a0 hw [] b31 p2 p3 c33 kc33 n ((List.replicate n (-1 : Int64)).set (own_ix ww n) (own_key ww p5)) h33 n0 ZS F_slots_b31 F_mask_b31 V_c33 hn1 hn g_c33 ne_b31_c33 (by simp only [List.length_set, List.length_replicate])) hZ (hw _ (List.mem_of_getElem? (i := 39) rfl)) (hw _ (List.mem_of_getElem? (i := 2) rfl)) (by decide) (by decide)) q34a q34c (g := (mkF m 80 #[.val (.int p1), .val (.int p2), .val (.int p3), .val (.int p4), .val (.int p5), .val (.int p6), .val (.int kk), .val (.int ((Int32.ofNat n) - (1 : Int32))), .val (.int ww), .val (.int uu), .val (.ref b31), .unset, .unset, .unset, .unset, .unset] [(.int p3), (.int p2), (.ref b31)])) rfl (by rw [hml]; rfl) (Steps.refl _) (argsL := [(.int p2), (.int p3)]) (rest := []) (lenOf pd_4 rfl) rfl (by show 2 * 0 + _ ≤ _; exact Nat.le_of_eq rfl) (hb hby at_80) (fun _ _ => ⟨rfl, e33, (by decide : 2 + 0 ≤ _), (by decide : 1026 + 0 ≤ _)⟩)
  dsimp only [Pt.U, Pt.locs, Pt.cells, Pt.slots] at X34 l34 y34 z34 st34 hQ34
  subst l34 y34 z34
  obtain ⟨h34, e34'⟩ : ∃ z, z = T34.heap := ⟨_, rfl⟩
  rw [← e34'] at hQ34
  have e34 : T34.heap = h34 := e34'.symm
  obtain ⟨rfl, N34q, K34, pp1⟩ := hQ34
  have NF := Fr.app NF N34q
  refine own_go (fun _ k => st34.trans k) ?_
  have E_b31 := E_b31.keep K34
  have F_mask_b31 := F_mask_b31.keep K34 (ninS ne_b31_c33 nin0)
  have F_slots_b31 := F_slots_b31.keep K34 (ninS ne_b31_c33 nin0)
  have ZS := Nat.le_trans ZS K34.1
  have KP := KP.trans K34 (allS (Or.inr sz_c33) all0)
  have V_c33 := pp1
  show own_R _ _ _ _ (T34.setTop (mkF m 83 #[.val (.int p1), .val (.int p2), .val (.int p3), .val (.int p4), .val (.int p5), .val (.int p6), .val (.int kk), .val (.int ((Int32.ofNat n) - (1 : Int32))), .val (.int ww), .val (.int uu), .val (.ref b31), .unset, .unset, .unset, .unset, .unset] []))
  refine own_go (fun _ k => XS.aload X34.here hx rfl (hb hby at_83) rfl rfl k) ?_
  show own_R _ _ _ _ (T34.setTop (mkF m 85 #[.val (.int p1), .val (.int p2), .val (.int p3), .val (.int p4), .val (.int p5), .val (.int p6), .val (.int kk), .val (.int ((Int32.ofNat n) - (1 : Int32))), .val (.int ww), .val (.int uu), .val (.ref b31), .unset, .unset, .unset, .unset, .unset] [(.ref b31)]))
  refine own_go (fun _ k => XS.iloadN X34.here hx rfl (hb hby at_85) rfl k) ?_
  show own_R _ _ _ _ (T34.setTop (mkF m 86 #[.val (.int p1), .val (.int p2), .val (.int p3), .val (.int p4), .val (.int p5), .val (.int p6), .val (.int kk), .val (.int ((Int32.ofNat n) - (1 : Int32))), .val (.int ww), .val (.int uu), .val (.ref b31), .unset, .unset, .unset, .unset, .unset] [(.int p2), (.ref b31)]))
  obtain ⟨cq35, kq35, q35a, q35b, q35c⟩ := isOf hZ e34 E_b31
  obtain ⟨_, _, ⟨T35, L35, k35, n35⟩, -, X35, ⟨Lc35, hQ35, l35, y35, z35⟩, st35⟩ := X34.virtualBack hx (y := (⟨"com/example/strict_pattern/strictpattern/regex/WritePlaces", "get", "(I)I"⟩ : MethodName)) (z := (⟨"com/example/strict_pattern/strictpattern/regex/WritePlaces", "get", "(I)I"⟩ : MethodName)) hown (mvT hZ (hw _ (List.mem_of_getElem? (i := 41) rfl))) (mvT hZ (hw _ (List.mem_of_getElem? (i := 42) rfl))) (notFace_of_selects (args := #[]) (mvT hZ (hw _ (List.mem_of_getElem? (i := 44) rfl)))) (mvT hZ (hw _ (List.mem_of_getElem? (i := 44) rfl))) (mvT hZ (hw _ (List.mem_of_getElem? (i := 43) rfl))) (by decide) (backOf (W := 0) (rm9 l Z a0 hw [] b31 p2 c33 kc33 n (((List.replicate n (-1 : Int64)).set (own_ix ww n) (own_key ww p5)).set (own_ix p2 n) (own_key p2 p3)) h34 n0 ZS F_slots_b31 F_mask_b31 V_c33 hn1 hn) hZ (hw _ (List.mem_of_getElem? (i := 45) rfl)) (hw _ (List.mem_of_getElem? (i := 2) rfl)) (by decide) (by decide)) q35a q35c (g := (mkF m 86 #[.val (.int p1), .val (.int p2), .val (.int p3), .val (.int p4), .val (.int p5), .val (.int p6), .val (.int kk), .val (.int ((Int32.ofNat n) - (1 : Int32))), .val (.int ww), .val (.int uu), .val (.ref b31), .unset, .unset, .unset, .unset, .unset] [(.int p2), (.ref b31)])) rfl (by rw [hml]; rfl) (Steps.refl _) (argsL := [(.int p2)]) (rest := []) (lenOf pd_0 rfl) rfl (by show 2 * 0 + _ ≤ _; exact Nat.le_of_eq rfl) (hb hby at_86) (fun _ _ => ⟨rfl, e34, (by decide : 2 + 0 ≤ _), (by decide : 1026 + 0 ≤ _)⟩)
  dsimp only [Pt.U, Pt.locs, Pt.cells, Pt.slots] at X35 l35 y35 z35 st35 hQ35
  subst l35 y35 z35
  obtain ⟨rfl, N35q, e35⟩ := hQ35
  have NF := Fr.app NF N35q
  refine own_go (fun _ k => st35.trans k) ?_
  show own_R _ _ _ _ (T35.setTop (mkF m 89 #[.val (.int p1), .val (.int p2), .val (.int p3), .val (.int p4), .val (.int p5), .val (.int p6), .val (.int kk), .val (.int ((Int32.ofNat n) - (1 : Int32))), .val (.int ww), .val (.int uu), .val (.ref b31), .unset, .unset, .unset, .unset, .unset] [(.int (own_get ((((List.replicate n (-1 : Int64)).set (own_ix ww n) (own_key ww p5)).set (own_ix p2 n) (own_key p2 p3)).getD (own_ix p2 n) 0) p2))]))
  refine own_go (fun _ k => XS.istore X35.here hx rfl (hb hby at_89) rfl (l' := #[.val (.int p1), .val (.int p2), .val (.int p3), .val (.int p4), .val (.int p5), .val (.int p6), .val (.int kk), .val (.int ((Int32.ofNat n) - (1 : Int32))), .val (.int ww), .val (.int uu), .val (.ref b31), .val (.int (own_get ((((List.replicate n (-1 : Int64)).set (own_ix ww n) (own_key ww p5)).set (own_ix p2 n) (own_key p2 p3)).getD (own_ix p2 n) 0) p2)), .unset, .unset, .unset, .unset]) rfl k) ?_
  show own_R _ _ _ _ (T35.setTop (mkF m 91 #[.val (.int p1), .val (.int p2), .val (.int p3), .val (.int p4), .val (.int p5), .val (.int p6), .val (.int kk), .val (.int ((Int32.ofNat n) - (1 : Int32))), .val (.int ww), .val (.int uu), .val (.ref b31), .val (.int (own_get ((((List.replicate n (-1 : Int64)).set (own_ix ww n) (own_key ww p5)).set (own_ix p2 n) (own_key p2 p3)).getD (own_ix p2 n) 0) p2)), .unset, .unset, .unset, .unset] []))
  refine own_go (fun _ k => XS.aload X35.here hx rfl (hb hby at_91) rfl rfl k) ?_
  show own_R _ _ _ _ (T35.setTop (mkF m 93 #[.val (.int p1), .val (.int p2), .val (.int p3), .val (.int p4), .val (.int p5), .val (.int p6), .val (.int kk), .val (.int ((Int32.ofNat n) - (1 : Int32))), .val (.int ww), .val (.int uu), .val (.ref b31), .val (.int (own_get ((((List.replicate n (-1 : Int64)).set (own_ix ww n) (own_key ww p5)).set (own_ix p2 n) (own_key p2 p3)).getD (own_ix p2 n) 0) p2)), .unset, .unset, .unset, .unset] [(.ref b31)]))
  refine own_go (fun _ k => XS.iload X35.here hx rfl (hb hby at_93) rfl k) ?_
  show own_R _ _ _ _ (T35.setTop (mkF m 95 #[.val (.int p1), .val (.int p2), .val (.int p3), .val (.int p4), .val (.int p5), .val (.int p6), .val (.int kk), .val (.int ((Int32.ofNat n) - (1 : Int32))), .val (.int ww), .val (.int uu), .val (.ref b31), .val (.int (own_get ((((List.replicate n (-1 : Int64)).set (own_ix ww n) (own_key ww p5)).set (own_ix p2 n) (own_key p2 p3)).getD (own_ix p2 n) 0) p2)), .unset, .unset, .unset, .unset] [(.int ww), (.ref b31)]))
  obtain ⟨cq36, kq36, q36a, q36b, q36c⟩ := isOf hZ e35 E_b31
  obtain ⟨_, _, ⟨T36, L36, k36, n36⟩, -, X36, ⟨Lc36, hQ36, l36, y36, z36⟩, st36⟩ := X35.virtualBack hx (y := (⟨"com/example/strict_pattern/strictpattern/regex/WritePlaces", "get", "(I)I"⟩ : MethodName)) (z := (⟨"com/example/strict_pattern/strictpattern/regex/WritePlaces", "get", "(I)I"⟩ : MethodName)) hown (mvT hZ (hw _ (List.mem_of_getElem? (i := 41) rfl))) (mvT hZ (hw _ (List.mem_of_getElem? (i := 42) rfl))) (notFace_of_selects (args := #[]) (mvT hZ (hw _ (List.mem_of_getElem? (i := 44) rfl)))) (mvT hZ (hw _ (List.mem_of_getElem? (i := 44) rfl))) (mvT hZ (hw _ (List.mem_of_getElem? (i := 43) rfl))) (by decide) (backOf (W := 0) (rm9 l Z a0 hw [] b31 ww c33 kc33 n (((List.replicate n (-1 : Int64)).set (own_ix ww n) (own_key ww p5)).set (own_ix p2 n) (own_key p2 p3)) h34 n0 ZS F_slots_b31 F_mask_b31 V_c33 hn1 hn) hZ (hw _ (List.mem_of_getElem? (i := 45) rfl)) (hw _ (List.mem_of_getElem? (i := 2) rfl)) (by decide) (by decide)) q36a q36c (g := (mkF m 95 #[.val (.int p1), .val (.int p2), .val (.int p3), .val (.int p4), .val (.int p5), .val (.int p6), .val (.int kk), .val (.int ((Int32.ofNat n) - (1 : Int32))), .val (.int ww), .val (.int uu), .val (.ref b31), .val (.int (own_get ((((List.replicate n (-1 : Int64)).set (own_ix ww n) (own_key ww p5)).set (own_ix p2 n) (own_key p2 p3)).getD (own_ix p2 n) 0) p2)), .unset, .unset, .unset, .unset] [(.int ww), (.ref b31)])) rfl (by rw [hml]; rfl) (Steps.refl _) (argsL := [(.int ww)]) (rest := []) (lenOf pd_0 rfl) rfl (by show 2 * 0 + _ ≤ _; exact Nat.le_of_eq rfl) (hb hby at_95) (fun _ _ => ⟨rfl, e35, (by decide : 2 + 0 ≤ _), (by decide : 1026 + 0 ≤ _)⟩)
  dsimp only [Pt.U, Pt.locs, Pt.cells, Pt.slots] at X36 l36 y36 z36 st36 hQ36
  subst l36 y36 z36
  obtain ⟨rfl, N36q, e36⟩ := hQ36
  have NF := Fr.app NF N36q
  refine own_go (fun _ k => st36.trans k) ?_
  show own_R _ _ _ _ (T36.setTop (mkF m 98 #[.val (.int p1), .val (.int p2), .val (.int p3), .val (.int p4), .val (.int p5), .val (.int p6), .val (.int kk), .val (.int ((Int32.ofNat n) - (1 : Int32))), .val (.int ww), .val (.int uu), .val (.ref b31), .val (.int (own_get ((((List.replicate n (-1 : Int64)).set (own_ix ww n) (own_key ww p5)).set (own_ix p2 n) (own_key p2 p3)).getD (own_ix p2 n) 0) p2)), .unset, .unset, .unset, .unset] [(.int (own_get ((((List.replicate n (-1 : Int64)).set (own_ix ww n) (own_key ww p5)).set (own_ix p2 n) (own_key p2 p3)).getD (own_ix ww n) 0) ww))]))
  refine own_go (fun _ k => XS.istore X36.here hx rfl (hb hby at_98) rfl (l' := #[.val (.int p1), .val (.int p2), .val (.int p3), .val (.int p4), .val (.int p5), .val (.int p6), .val (.int kk), .val (.int ((Int32.ofNat n) - (1 : Int32))), .val (.int ww), .val (.int uu), .val (.ref b31), .val (.int (own_get ((((List.replicate n (-1 : Int64)).set (own_ix ww n) (own_key ww p5)).set (own_ix p2 n) (own_key p2 p3)).getD (own_ix p2 n) 0) p2)), .val (.int (own_get ((((List.replicate n (-1 : Int64)).set (own_ix ww n) (own_key ww p5)).set (own_ix p2 n) (own_key p2 p3)).getD (own_ix ww n) 0) ww)), .unset, .unset, .unset]) rfl k) ?_
  show own_R _ _ _ _ (T36.setTop (mkF m 100 #[.val (.int p1), .val (.int p2), .val (.int p3), .val (.int p4), .val (.int p5), .val (.int p6), .val (.int kk), .val (.int ((Int32.ofNat n) - (1 : Int32))), .val (.int ww), .val (.int uu), .val (.ref b31), .val (.int (own_get ((((List.replicate n (-1 : Int64)).set (own_ix ww n) (own_key ww p5)).set (own_ix p2 n) (own_key p2 p3)).getD (own_ix p2 n) 0) p2)), .val (.int (own_get ((((List.replicate n (-1 : Int64)).set (own_ix ww n) (own_key ww p5)).set (own_ix p2 n) (own_key p2 p3)).getD (own_ix ww n) 0) ww)), .unset, .unset, .unset] []))
  refine own_go (fun _ k => XS.aload X36.here hx rfl (hb hby at_100) rfl rfl k) ?_
  show own_R _ _ _ _ (T36.setTop (mkF m 102 #[.val (.int p1), .val (.int p2), .val (.int p3), .val (.int p4), .val (.int p5), .val (.int p6), .val (.int kk), .val (.int ((Int32.ofNat n) - (1 : Int32))), .val (.int ww), .val (.int uu), .val (.ref b31), .val (.int (own_get ((((List.replicate n (-1 : Int64)).set (own_ix ww n) (own_key ww p5)).set (own_ix p2 n) (own_key p2 p3)).getD (own_ix p2 n) 0) p2)), .val (.int (own_get ((((List.replicate n (-1 : Int64)).set (own_ix ww n) (own_key ww p5)).set (own_ix p2 n) (own_key p2 p3)).getD (own_ix ww n) 0) ww)), .unset, .unset, .unset] [(.ref b31)]))
  refine own_go (fun _ k => XS.iload X36.here hx rfl (hb hby at_102) rfl k) ?_
  show own_R _ _ _ _ (T36.setTop (mkF m 104 #[.val (.int p1), .val (.int p2), .val (.int p3), .val (.int p4), .val (.int p5), .val (.int p6), .val (.int kk), .val (.int ((Int32.ofNat n) - (1 : Int32))), .val (.int ww), .val (.int uu), .val (.ref b31), .val (.int (own_get ((((List.replicate n (-1 : Int64)).set (own_ix ww n) (own_key ww p5)).set (own_ix p2 n) (own_key p2 p3)).getD (own_ix p2 n) 0) p2)), .val (.int (own_get ((((List.replicate n (-1 : Int64)).set (own_ix ww n) (own_key ww p5)).set (own_ix p2 n) (own_key p2 p3)).getD (own_ix ww n) 0) ww)), .unset, .unset, .unset] [(.int uu), (.ref b31)]))
  obtain ⟨cq37, kq37, q37a, q37b, q37c⟩ := isOf hZ e36 E_b31
  obtain ⟨_, _, ⟨T37, L37, k37, n37⟩, -, X37, ⟨Lc37, hQ37, l37, y37, z37⟩, st37⟩ := X36.virtualBack hx (y := (⟨"com/example/strict_pattern/strictpattern/regex/WritePlaces", "get", "(I)I"⟩ : MethodName)) (z := (⟨"com/example/strict_pattern/strictpattern/regex/WritePlaces", "get", "(I)I"⟩ : MethodName)) hown (mvT hZ (hw _ (List.mem_of_getElem? (i := 41) rfl))) (mvT hZ (hw _ (List.mem_of_getElem? (i := 42) rfl))) (notFace_of_selects (args := #[]) (mvT hZ (hw _ (List.mem_of_getElem? (i := 44) rfl)))) (mvT hZ (hw _ (List.mem_of_getElem? (i := 44) rfl))) (mvT hZ (hw _ (List.mem_of_getElem? (i := 43) rfl))) (by decide) (backOf (W := 0) (rm9 l Z a0 hw [] b31 uu c33 kc33 n (((List.replicate n (-1 : Int64)).set (own_ix ww n) (own_key ww p5)).set (own_ix p2 n) (own_key p2 p3)) h34 n0 ZS F_slots_b31 F_mask_b31 V_c33 hn1 hn) hZ (hw _ (List.mem_of_getElem? (i := 45) rfl)) (hw _ (List.mem_of_getElem? (i := 2) rfl)) (by decide) (by decide)) q37a q37c (g := (mkF m 104 #[.val (.int p1), .val (.int p2), .val (.int p3), .val (.int p4), .val (.int p5), .val (.int p6), .val (.int kk), .val (.int ((Int32.ofNat n) - (1 : Int32))), .val (.int ww), .val (.int uu), .val (.ref b31), .val (.int (own_get ((((List.replicate n (-1 : Int64)).set (own_ix ww n) (own_key ww p5)).set (own_ix p2 n) (own_key p2 p3)).getD (own_ix p2 n) 0) p2)), .val (.int (own_get ((((List.replicate n (-1 : Int64)).set (own_ix ww n) (own_key ww p5)).set (own_ix p2 n) (own_key p2 p3)).getD (own_ix ww n) 0) ww)), .unset, .unset, .unset] [(.int uu), (.ref b31)])) rfl (by rw [hml]; rfl) (Steps.refl _) (argsL := [(.int uu)]) (rest := []) (lenOf pd_0 rfl) rfl (by show 2 * 0 + _ ≤ _; exact Nat.le_of_eq rfl) (hb hby at_104) (fun _ _ => ⟨rfl, e36, (by decide : 2 + 0 ≤ _), (by decide : 1026 + 0 ≤ _)⟩)
  dsimp only [Pt.U, Pt.locs, Pt.cells, Pt.slots] at X37 l37 y37 z37 st37 hQ37
  subst l37 y37 z37
  obtain ⟨rfl, N37q, e37⟩ := hQ37
  have NF := Fr.app NF N37q
  refine own_go (fun _ k => st37.trans k) ?_
  show own_R _ _ _ _ (T37.setTop (mkF m 107 #[.val (.int p1), .val (.int p2), .val (.int p3), .val (.int p4), .val (.int p5), .val (.int p6), .val (.int kk), .val (.int ((Int32.ofNat n) - (1 : Int32))), .val (.int ww), .val (.int uu), .val (.ref b31), .val (.int (own_get ((((List.replicate n (-1 : Int64)).set (own_ix ww n) (own_key ww p5)).set (own_ix p2 n) (own_key p2 p3)).getD (own_ix p2 n) 0) p2)), .val (.int (own_get ((((List.replicate n (-1 : Int64)).set (own_ix ww n) (own_key ww p5)).set (own_ix p2 n) (own_key p2 p3)).getD (own_ix ww n) 0) ww)), .unset, .unset, .unset] [(.int (own_get ((((List.replicate n (-1 : Int64)).set (own_ix ww n) (own_key ww p5)).set (own_ix p2 n) (own_key p2 p3)).getD (own_ix uu n) 0) uu))]))
  refine own_go (fun _ k => XS.istore X37.here hx rfl (hb hby at_107) rfl (l' := #[.val (.int p1), .val (.int p2), .val (.int p3), .val (.int p4), .val (.int p5), .val (.int p6), .val (.int kk), .val (.int ((Int32.ofNat n) - (1 : Int32))), .val (.int ww), .val (.int uu), .val (.ref b31), .val (.int (own_get ((((List.replicate n (-1 : Int64)).set (own_ix ww n) (own_key ww p5)).set (own_ix p2 n) (own_key p2 p3)).getD (own_ix p2 n) 0) p2)), .val (.int (own_get ((((List.replicate n (-1 : Int64)).set (own_ix ww n) (own_key ww p5)).set (own_ix p2 n) (own_key p2 p3)).getD (own_ix ww n) 0) ww)), .val (.int (own_get ((((List.replicate n (-1 : Int64)).set (own_ix ww n) (own_key ww p5)).set (own_ix p2 n) (own_key p2 p3)).getD (own_ix uu n) 0) uu)), .unset, .unset]) rfl k) ?_
  show own_R _ _ _ _ (T37.setTop (mkF m 109 #[.val (.int p1), .val (.int p2), .val (.int p3), .val (.int p4), .val (.int p5), .val (.int p6), .val (.int kk), .val (.int ((Int32.ofNat n) - (1 : Int32))), .val (.int ww), .val (.int uu), .val (.ref b31), .val (.int (own_get ((((List.replicate n (-1 : Int64)).set (own_ix ww n) (own_key ww p5)).set (own_ix p2 n) (own_key p2 p3)).getD (own_ix p2 n) 0) p2)), .val (.int (own_get ((((List.replicate n (-1 : Int64)).set (own_ix ww n) (own_key ww p5)).set (own_ix p2 n) (own_key p2 p3)).getD (own_ix ww n) 0) ww)), .val (.int (own_get ((((List.replicate n (-1 : Int64)).set (own_ix ww n) (own_key ww p5)).set (own_ix p2 n) (own_key p2 p3)).getD (own_ix uu n) 0) uu)), .unset, .unset] []))
  obtain ⟨_, ⟨bW, hs38, rfl⟩, sg38⟩ : own_R p.tables e below (fun U => ∃ (bW : Int32), (bW = own_eW ww p2 p3 p5 n) ∧ U = T37.setTop (mkF m 141 #[.val (.int p1), .val (.int p2), .val (.int p3), .val (.int p4), .val (.int p5), .val (.int p6), .val (.int kk), .val (.int ((Int32.ofNat n) - (1 : Int32))), .val (.int ww), .val (.int uu), .val (.ref b31), .val (.int (own_get ((((List.replicate n (-1 : Int64)).set (own_ix ww n) (own_key ww p5)).set (own_ix p2 n) (own_key p2 p3)).getD (own_ix p2 n) 0) p2)), .val (.int (own_get ((((List.replicate n (-1 : Int64)).set (own_ix ww n) (own_key ww p5)).set (own_ix p2 n) (own_key p2 p3)).getD (own_ix ww n) 0) ww)), .val (.int (own_get ((((List.replicate n (-1 : Int64)).set (own_ix ww n) (own_key ww p5)).set (own_ix p2 n) (own_key p2 p3)).getD (own_ix uu n) 0) uu)), .val (.int bW), .unset] [])) (T37.setTop (mkF m 109 #[.val (.int p1), .val (.int p2), .val (.int p3), .val (.int p4), .val (.int p5), .val (.int p6), .val (.int kk), .val (.int ((Int32.ofNat n) - (1 : Int32))), .val (.int ww), .val (.int uu), .val (.ref b31), .val (.int (own_get ((((List.replicate n (-1 : Int64)).set (own_ix ww n) (own_key ww p5)).set (own_ix p2 n) (own_key p2 p3)).getD (own_ix p2 n) 0) p2)), .val (.int (own_get ((((List.replicate n (-1 : Int64)).set (own_ix ww n) (own_key ww p5)).set (own_ix p2 n) (own_key p2 p3)).getD (own_ix ww n) 0) ww)), .val (.int (own_get ((((List.replicate n (-1 : Int64)).set (own_ix ww n) (own_key ww p5)).set (own_ix p2 n) (own_key p2 p3)).getD (own_ix uu n) 0) uu)), .unset, .unset] [])) := by
    refine own_go (fun _ k => XS.iload X37.here hx rfl (hb hby at_109) rfl k) ?_
    show own_R _ _ _ _ (T37.setTop (mkF m 111 #[.val (.int p1), .val (.int p2), .val (.int p3), .val (.int p4), .val (.int p5), .val (.int p6), .val (.int kk), .val (.int ((Int32.ofNat n) - (1 : Int32))), .val (.int ww), .val (.int uu), .val (.ref b31), .val (.int (own_get ((((List.replicate n (-1 : Int64)).set (own_ix ww n) (own_key ww p5)).set (own_ix p2 n) (own_key p2 p3)).getD (own_ix p2 n) 0) p2)), .val (.int (own_get ((((List.replicate n (-1 : Int64)).set (own_ix ww n) (own_key ww p5)).set (own_ix p2 n) (own_key p2 p3)).getD (own_ix ww n) 0) ww)), .val (.int (own_get ((((List.replicate n (-1 : Int64)).set (own_ix ww n) (own_key ww p5)).set (own_ix p2 n) (own_key p2 p3)).getD (own_ix uu n) 0) uu)), .unset, .unset] [(.int ww)]))
    refine own_go (fun _ k => XS.iloadN X37.here hx rfl (hb hby at_111) rfl k) ?_
    show own_R _ _ _ _ (T37.setTop (mkF m 112 #[.val (.int p1), .val (.int p2), .val (.int p3), .val (.int p4), .val (.int p5), .val (.int p6), .val (.int kk), .val (.int ((Int32.ofNat n) - (1 : Int32))), .val (.int ww), .val (.int uu), .val (.ref b31), .val (.int (own_get ((((List.replicate n (-1 : Int64)).set (own_ix ww n) (own_key ww p5)).set (own_ix p2 n) (own_key p2 p3)).getD (own_ix p2 n) 0) p2)), .val (.int (own_get ((((List.replicate n (-1 : Int64)).set (own_ix ww n) (own_key ww p5)).set (own_ix p2 n) (own_key p2 p3)).getD (own_ix ww n) 0) ww)), .val (.int (own_get ((((List.replicate n (-1 : Int64)).set (own_ix ww n) (own_key ww p5)).set (own_ix p2 n) (own_key p2 p3)).getD (own_ix uu n) 0) uu)), .unset, .unset] [(.int p2), (.int ww)]))
    by_cases hc39 : ww = p2
    · refine own_go (fun _ k => XS.icmpNo X37.here hx rfl (hb hby at_112) rfl (teq hc39).2 k) ?_
      show own_R _ _ _ _ (T37.setTop (mkF m 115 #[.val (.int p1), .val (.int p2), .val (.int p3), .val (.int p4), .val (.int p5), .val (.int p6), .val (.int kk), .val (.int ((Int32.ofNat n) - (1 : Int32))), .val (.int ww), .val (.int uu), .val (.ref b31), .val (.int (own_get ((((List.replicate n (-1 : Int64)).set (own_ix ww n) (own_key ww p5)).set (own_ix p2 n) (own_key p2 p3)).getD (own_ix p2 n) 0) p2)), .val (.int (own_get ((((List.replicate n (-1 : Int64)).set (own_ix ww n) (own_key ww p5)).set (own_ix p2 n) (own_key p2 p3)).getD (own_ix ww n) 0) ww)), .val (.int (own_get ((((List.replicate n (-1 : Int64)).set (own_ix ww n) (own_key ww p5)).set (own_ix p2 n) (own_key p2 p3)).getD (own_ix uu n) 0) uu)), .unset, .unset] []))
      refine own_go (fun _ k => XS.iloadN X37.here hx rfl (hb hby at_115) rfl k) ?_
      show own_R _ _ _ _ (T37.setTop (mkF m 116 #[.val (.int p1), .val (.int p2), .val (.int p3), .val (.int p4), .val (.int p5), .val (.int p6), .val (.int kk), .val (.int ((Int32.ofNat n) - (1 : Int32))), .val (.int ww), .val (.int uu), .val (.ref b31), .val (.int (own_get ((((List.replicate n (-1 : Int64)).set (own_ix ww n) (own_key ww p5)).set (own_ix p2 n) (own_key p2 p3)).getD (own_ix p2 n) 0) p2)), .val (.int (own_get ((((List.replicate n (-1 : Int64)).set (own_ix ww n) (own_key ww p5)).set (own_ix p2 n) (own_key p2 p3)).getD (own_ix ww n) 0) ww)), .val (.int (own_get ((((List.replicate n (-1 : Int64)).set (own_ix ww n) (own_key ww p5)).set (own_ix p2 n) (own_key p2 p3)).getD (own_ix uu n) 0) uu)), .unset, .unset] [(.int p3)]))
      refine own_go (fun _ k => XS.istore X37.here hx rfl (hb hby at_116) rfl (l' := #[.val (.int p1), .val (.int p2), .val (.int p3), .val (.int p4), .val (.int p5), .val (.int p6), .val (.int kk), .val (.int ((Int32.ofNat n) - (1 : Int32))), .val (.int ww), .val (.int uu), .val (.ref b31), .val (.int (own_get ((((List.replicate n (-1 : Int64)).set (own_ix ww n) (own_key ww p5)).set (own_ix p2 n) (own_key p2 p3)).getD (own_ix p2 n) 0) p2)), .val (.int (own_get ((((List.replicate n (-1 : Int64)).set (own_ix ww n) (own_key ww p5)).set (own_ix p2 n) (own_key p2 p3)).getD (own_ix ww n) 0) ww)), .val (.int (own_get ((((List.replicate n (-1 : Int64)).set (own_ix ww n) (own_key ww p5)).set (own_ix p2 n) (own_key p2 p3)).getD (own_ix uu n) 0) uu)), .val (.int p3), .unset]) rfl k) ?_
      show own_R _ _ _ _ (T37.setTop (mkF m 118 #[.val (.int p1), .val (.int p2), .val (.int p3), .val (.int p4), .val (.int p5), .val (.int p6), .val (.int kk), .val (.int ((Int32.ofNat n) - (1 : Int32))), .val (.int ww), .val (.int uu), .val (.ref b31), .val (.int (own_get ((((List.replicate n (-1 : Int64)).set (own_ix ww n) (own_key ww p5)).set (own_ix p2 n) (own_key p2 p3)).getD (own_ix p2 n) 0) p2)), .val (.int (own_get ((((List.replicate n (-1 : Int64)).set (own_ix ww n) (own_key ww p5)).set (own_ix p2 n) (own_key p2 p3)).getD (own_ix ww n) 0) ww)), .val (.int (own_get ((((List.replicate n (-1 : Int64)).set (own_ix ww n) (own_key ww p5)).set (own_ix p2 n) (own_key p2 p3)).getD (own_ix uu n) 0) uu)), .val (.int p3), .unset] []))
      refine own_go (fun _ k => XS.goto X37.here hx rfl (pc0 := 118) (pc' := 141) rfl (hb hby at_118) (by decide) (by decide) k) ?_
      show own_R _ _ _ _ (T37.setTop (mkF m 141 #[.val (.int p1), .val (.int p2), .val (.int p3), .val (.int p4), .val (.int p5), .val (.int p6), .val (.int kk), .val (.int ((Int32.ofNat n) - (1 : Int32))), .val (.int ww), .val (.int uu), .val (.ref b31), .val (.int (own_get ((((List.replicate n (-1 : Int64)).set (own_ix ww n) (own_key ww p5)).set (own_ix p2 n) (own_key p2 p3)).getD (own_ix p2 n) 0) p2)), .val (.int (own_get ((((List.replicate n (-1 : Int64)).set (own_ix ww n) (own_key ww p5)).set (own_ix p2 n) (own_key p2 p3)).getD (own_ix ww n) 0) ww)), .val (.int (own_get ((((List.replicate n (-1 : Int64)).set (own_ix ww n) (own_key ww p5)).set (own_ix p2 n) (own_key p2 p3)).getD (own_ix uu n) 0) uu)), .val (.int p3), .unset] []))
      exact own_leaf ⟨p3, by rw [own_eW, if_pos hc39], rfl⟩
    · refine own_go (fun _ k => XS.icmpYes X37.here hx rfl (pc0 := 112) (pc' := 121) rfl (hb hby at_112) rfl (feq hc39).2 (by decide) (by decide) k) ?_
      show own_R _ _ _ _ (T37.setTop (mkF m 121 #[.val (.int p1), .val (.int p2), .val (.int p3), .val (.int p4), .val (.int p5), .val (.int p6), .val (.int kk), .val (.int ((Int32.ofNat n) - (1 : Int32))), .val (.int ww), .val (.int uu), .val (.ref b31), .val (.int (own_get ((((List.replicate n (-1 : Int64)).set (own_ix ww n) (own_key ww p5)).set (own_ix p2 n) (own_key p2 p3)).getD (own_ix p2 n) 0) p2)), .val (.int (own_get ((((List.replicate n (-1 : Int64)).set (own_ix ww n) (own_key ww p5)).set (own_ix p2 n) (own_key p2 p3)).getD (own_ix ww n) 0) ww)), .val (.int (own_get ((((List.replicate n (-1 : Int64)).set (own_ix ww n) (own_key ww p5)).set (own_ix p2 n) (own_key p2 p3)).getD (own_ix uu n) 0) uu)), .unset, .unset] []))
      refine own_go (fun _ k => XS.iload X37.here hx rfl (hb hby at_121) rfl k) ?_
      show own_R _ _ _ _ (T37.setTop (mkF m 123 #[.val (.int p1), .val (.int p2), .val (.int p3), .val (.int p4), .val (.int p5), .val (.int p6), .val (.int kk), .val (.int ((Int32.ofNat n) - (1 : Int32))), .val (.int ww), .val (.int uu), .val (.ref b31), .val (.int (own_get ((((List.replicate n (-1 : Int64)).set (own_ix ww n) (own_key ww p5)).set (own_ix p2 n) (own_key p2 p3)).getD (own_ix p2 n) 0) p2)), .val (.int (own_get ((((List.replicate n (-1 : Int64)).set (own_ix ww n) (own_key ww p5)).set (own_ix p2 n) (own_key p2 p3)).getD (own_ix ww n) 0) ww)), .val (.int (own_get ((((List.replicate n (-1 : Int64)).set (own_ix ww n) (own_key ww p5)).set (own_ix p2 n) (own_key p2 p3)).getD (own_ix uu n) 0) uu)), .unset, .unset] [(.int ww)]))
      refine own_go (fun _ k => XS.iloadN X37.here hx rfl (hb hby at_123) rfl k) ?_
      show own_R _ _ _ _ (T37.setTop (mkF m 124 #[.val (.int p1), .val (.int p2), .val (.int p3), .val (.int p4), .val (.int p5), .val (.int p6), .val (.int kk), .val (.int ((Int32.ofNat n) - (1 : Int32))), .val (.int ww), .val (.int uu), .val (.ref b31), .val (.int (own_get ((((List.replicate n (-1 : Int64)).set (own_ix ww n) (own_key ww p5)).set (own_ix p2 n) (own_key p2 p3)).getD (own_ix p2 n) 0) p2)), .val (.int (own_get ((((List.replicate n (-1 : Int64)).set (own_ix ww n) (own_key ww p5)).set (own_ix p2 n) (own_key p2 p3)).getD (own_ix ww n) 0) ww)), .val (.int (own_get ((((List.replicate n (-1 : Int64)).set (own_ix ww n) (own_key ww p5)).set (own_ix p2 n) (own_key p2 p3)).getD (own_ix uu n) 0) uu)), .unset, .unset] [(.int p2), (.int ww)]))
      refine own_go (fun _ k => XS.ixor X37.here hx rfl (hb hby at_124) rfl k) ?_
      show own_R _ _ _ _ (T37.setTop (mkF m 125 #[.val (.int p1), .val (.int p2), .val (.int p3), .val (.int p4), .val (.int p5), .val (.int p6), .val (.int kk), .val (.int ((Int32.ofNat n) - (1 : Int32))), .val (.int ww), .val (.int uu), .val (.ref b31), .val (.int (own_get ((((List.replicate n (-1 : Int64)).set (own_ix ww n) (own_key ww p5)).set (own_ix p2 n) (own_key p2 p3)).getD (own_ix p2 n) 0) p2)), .val (.int (own_get ((((List.replicate n (-1 : Int64)).set (own_ix ww n) (own_key ww p5)).set (own_ix p2 n) (own_key p2 p3)).getD (own_ix ww n) 0) ww)), .val (.int (own_get ((((List.replicate n (-1 : Int64)).set (own_ix ww n) (own_key ww p5)).set (own_ix p2 n) (own_key p2 p3)).getD (own_ix uu n) 0) uu)), .unset, .unset] [(.int (ww ^^^ p2))]))
      refine own_go (fun _ k => XS.iload X37.here hx rfl (hb hby at_125) rfl k) ?_
      show own_R _ _ _ _ (T37.setTop (mkF m 127 #[.val (.int p1), .val (.int p2), .val (.int p3), .val (.int p4), .val (.int p5), .val (.int p6), .val (.int kk), .val (.int ((Int32.ofNat n) - (1 : Int32))), .val (.int ww), .val (.int uu), .val (.ref b31), .val (.int (own_get ((((List.replicate n (-1 : Int64)).set (own_ix ww n) (own_key ww p5)).set (own_ix p2 n) (own_key p2 p3)).getD (own_ix p2 n) 0) p2)), .val (.int (own_get ((((List.replicate n (-1 : Int64)).set (own_ix ww n) (own_key ww p5)).set (own_ix p2 n) (own_key p2 p3)).getD (own_ix ww n) 0) ww)), .val (.int (own_get ((((List.replicate n (-1 : Int64)).set (own_ix ww n) (own_key ww p5)).set (own_ix p2 n) (own_key p2 p3)).getD (own_ix uu n) 0) uu)), .unset, .unset] [(.int ((Int32.ofNat n) - (1 : Int32))), (.int (ww ^^^ p2))]))
      refine own_go (fun _ k => XS.iand X37.here hx rfl (hb hby at_127) rfl k) ?_
      show own_R _ _ _ _ (T37.setTop (mkF m 128 #[.val (.int p1), .val (.int p2), .val (.int p3), .val (.int p4), .val (.int p5), .val (.int p6), .val (.int kk), .val (.int ((Int32.ofNat n) - (1 : Int32))), .val (.int ww), .val (.int uu), .val (.ref b31), .val (.int (own_get ((((List.replicate n (-1 : Int64)).set (own_ix ww n) (own_key ww p5)).set (own_ix p2 n) (own_key p2 p3)).getD (own_ix p2 n) 0) p2)), .val (.int (own_get ((((List.replicate n (-1 : Int64)).set (own_ix ww n) (own_key ww p5)).set (own_ix p2 n) (own_key p2 p3)).getD (own_ix ww n) 0) ww)), .val (.int (own_get ((((List.replicate n (-1 : Int64)).set (own_ix ww n) (own_key ww p5)).set (own_ix p2 n) (own_key p2 p3)).getD (own_ix uu n) 0) uu)), .unset, .unset] [(.int ((ww ^^^ p2) &&& ((Int32.ofNat n) - (1 : Int32))))]))
      by_cases hc40 : ((ww ^^^ p2) &&& ((Int32.ofNat n) - (1 : Int32))) = (0 : Int32)
      · refine own_go (fun _ k => XS.ifNo X37.here hx rfl (hb hby at_128) rfl ((if0 _ _).trans (teq hc40).2) k) ?_
        show own_R _ _ _ _ (T37.setTop (mkF m 131 #[.val (.int p1), .val (.int p2), .val (.int p3), .val (.int p4), .val (.int p5), .val (.int p6), .val (.int kk), .val (.int ((Int32.ofNat n) - (1 : Int32))), .val (.int ww), .val (.int uu), .val (.ref b31), .val (.int (own_get ((((List.replicate n (-1 : Int64)).set (own_ix ww n) (own_key ww p5)).set (own_ix p2 n) (own_key p2 p3)).getD (own_ix p2 n) 0) p2)), .val (.int (own_get ((((List.replicate n (-1 : Int64)).set (own_ix ww n) (own_key ww p5)).set (own_ix p2 n) (own_key p2 p3)).getD (own_ix ww n) 0) ww)), .val (.int (own_get ((((List.replicate n (-1 : Int64)).set (own_ix ww n) (own_key ww p5)).set (own_ix p2 n) (own_key p2 p3)).getD (own_ix uu n) 0) uu)), .unset, .unset] []))
        refine own_go (fun _ k => XS.iconst X37.here hx rfl (hb hby at_131) k) ?_
        show own_R _ _ _ _ (T37.setTop (mkF m 132 #[.val (.int p1), .val (.int p2), .val (.int p3), .val (.int p4), .val (.int p5), .val (.int p6), .val (.int kk), .val (.int ((Int32.ofNat n) - (1 : Int32))), .val (.int ww), .val (.int uu), .val (.ref b31), .val (.int (own_get ((((List.replicate n (-1 : Int64)).set (own_ix ww n) (own_key ww p5)).set (own_ix p2 n) (own_key p2 p3)).getD (own_ix p2 n) 0) p2)), .val (.int (own_get ((((List.replicate n (-1 : Int64)).set (own_ix ww n) (own_key ww p5)).set (own_ix p2 n) (own_key p2 p3)).getD (own_ix ww n) 0) ww)), .val (.int (own_get ((((List.replicate n (-1 : Int64)).set (own_ix ww n) (own_key ww p5)).set (own_ix p2 n) (own_key p2 p3)).getD (own_ix uu n) 0) uu)), .unset, .unset] [(.int (-1 : Int32))]))
        refine own_go (fun _ k => XS.istore X37.here hx rfl (hb hby at_132) rfl (l' := #[.val (.int p1), .val (.int p2), .val (.int p3), .val (.int p4), .val (.int p5), .val (.int p6), .val (.int kk), .val (.int ((Int32.ofNat n) - (1 : Int32))), .val (.int ww), .val (.int uu), .val (.ref b31), .val (.int (own_get ((((List.replicate n (-1 : Int64)).set (own_ix ww n) (own_key ww p5)).set (own_ix p2 n) (own_key p2 p3)).getD (own_ix p2 n) 0) p2)), .val (.int (own_get ((((List.replicate n (-1 : Int64)).set (own_ix ww n) (own_key ww p5)).set (own_ix p2 n) (own_key p2 p3)).getD (own_ix ww n) 0) ww)), .val (.int (own_get ((((List.replicate n (-1 : Int64)).set (own_ix ww n) (own_key ww p5)).set (own_ix p2 n) (own_key p2 p3)).getD (own_ix uu n) 0) uu)), .val (.int (-1 : Int32)), .unset]) rfl k) ?_
        show own_R _ _ _ _ (T37.setTop (mkF m 134 #[.val (.int p1), .val (.int p2), .val (.int p3), .val (.int p4), .val (.int p5), .val (.int p6), .val (.int kk), .val (.int ((Int32.ofNat n) - (1 : Int32))), .val (.int ww), .val (.int uu), .val (.ref b31), .val (.int (own_get ((((List.replicate n (-1 : Int64)).set (own_ix ww n) (own_key ww p5)).set (own_ix p2 n) (own_key p2 p3)).getD (own_ix p2 n) 0) p2)), .val (.int (own_get ((((List.replicate n (-1 : Int64)).set (own_ix ww n) (own_key ww p5)).set (own_ix p2 n) (own_key p2 p3)).getD (own_ix ww n) 0) ww)), .val (.int (own_get ((((List.replicate n (-1 : Int64)).set (own_ix ww n) (own_key ww p5)).set (own_ix p2 n) (own_key p2 p3)).getD (own_ix uu n) 0) uu)), .val (.int (-1 : Int32)), .unset] []))
        refine own_go (fun _ k => XS.goto X37.here hx rfl (pc0 := 134) (pc' := 141) rfl (hb hby at_134) (by decide) (by decide) k) ?_
        show own_R _ _ _ _ (T37.setTop (mkF m 141 #[.val (.int p1), .val (.int p2), .val (.int p3), .val (.int p4), .val (.int p5), .val (.int p6), .val (.int kk), .val (.int ((Int32.ofNat n) - (1 : Int32))), .val (.int ww), .val (.int uu), .val (.ref b31), .val (.int (own_get ((((List.replicate n (-1 : Int64)).set (own_ix ww n) (own_key ww p5)).set (own_ix p2 n) (own_key p2 p3)).getD (own_ix p2 n) 0) p2)), .val (.int (own_get ((((List.replicate n (-1 : Int64)).set (own_ix ww n) (own_key ww p5)).set (own_ix p2 n) (own_key p2 p3)).getD (own_ix ww n) 0) ww)), .val (.int (own_get ((((List.replicate n (-1 : Int64)).set (own_ix ww n) (own_key ww p5)).set (own_ix p2 n) (own_key p2 p3)).getD (own_ix uu n) 0) uu)), .val (.int (-1 : Int32)), .unset] []))
        exact own_leaf ⟨(-1 : Int32), by rw [own_eW, if_neg hc39, if_pos hc40], rfl⟩
      · refine own_go (fun _ k => XS.ifYes X37.here hx rfl (pc0 := 128) (pc' := 137) rfl (hb hby at_128) rfl ((if0 _ _).trans (feq hc40).2) (by decide) (by decide) k) ?_
        show own_R _ _ _ _ (T37.setTop (mkF m 137 #[.val (.int p1), .val (.int p2), .val (.int p3), .val (.int p4), .val (.int p5), .val (.int p6), .val (.int kk), .val (.int ((Int32.ofNat n) - (1 : Int32))), .val (.int ww), .val (.int uu), .val (.ref b31), .val (.int (own_get ((((List.replicate n (-1 : Int64)).set (own_ix ww n) (own_key ww p5)).set (own_ix p2 n) (own_key p2 p3)).getD (own_ix p2 n) 0) p2)), .val (.int (own_get ((((List.replicate n (-1 : Int64)).set (own_ix ww n) (own_key ww p5)).set (own_ix p2 n) (own_key p2 p3)).getD (own_ix ww n) 0) ww)), .val (.int (own_get ((((List.replicate n (-1 : Int64)).set (own_ix ww n) (own_key ww p5)).set (own_ix p2 n) (own_key p2 p3)).getD (own_ix uu n) 0) uu)), .unset, .unset] []))
        refine own_go (fun _ k => XS.iload X37.here hx rfl (hb hby at_137) rfl k) ?_
        show own_R _ _ _ _ (T37.setTop (mkF m 139 #[.val (.int p1), .val (.int p2), .val (.int p3), .val (.int p4), .val (.int p5), .val (.int p6), .val (.int kk), .val (.int ((Int32.ofNat n) - (1 : Int32))), .val (.int ww), .val (.int uu), .val (.ref b31), .val (.int (own_get ((((List.replicate n (-1 : Int64)).set (own_ix ww n) (own_key ww p5)).set (own_ix p2 n) (own_key p2 p3)).getD (own_ix p2 n) 0) p2)), .val (.int (own_get ((((List.replicate n (-1 : Int64)).set (own_ix ww n) (own_key ww p5)).set (own_ix p2 n) (own_key p2 p3)).getD (own_ix ww n) 0) ww)), .val (.int (own_get ((((List.replicate n (-1 : Int64)).set (own_ix ww n) (own_key ww p5)).set (own_ix p2 n) (own_key p2 p3)).getD (own_ix uu n) 0) uu)), .unset, .unset] [(.int p5)]))
        refine own_go (fun _ k => XS.istore X37.here hx rfl (hb hby at_139) rfl (l' := #[.val (.int p1), .val (.int p2), .val (.int p3), .val (.int p4), .val (.int p5), .val (.int p6), .val (.int kk), .val (.int ((Int32.ofNat n) - (1 : Int32))), .val (.int ww), .val (.int uu), .val (.ref b31), .val (.int (own_get ((((List.replicate n (-1 : Int64)).set (own_ix ww n) (own_key ww p5)).set (own_ix p2 n) (own_key p2 p3)).getD (own_ix p2 n) 0) p2)), .val (.int (own_get ((((List.replicate n (-1 : Int64)).set (own_ix ww n) (own_key ww p5)).set (own_ix p2 n) (own_key p2 p3)).getD (own_ix ww n) 0) ww)), .val (.int (own_get ((((List.replicate n (-1 : Int64)).set (own_ix ww n) (own_key ww p5)).set (own_ix p2 n) (own_key p2 p3)).getD (own_ix uu n) 0) uu)), .val (.int p5), .unset]) rfl k) ?_
        show own_R _ _ _ _ (T37.setTop (mkF m 141 #[.val (.int p1), .val (.int p2), .val (.int p3), .val (.int p4), .val (.int p5), .val (.int p6), .val (.int kk), .val (.int ((Int32.ofNat n) - (1 : Int32))), .val (.int ww), .val (.int uu), .val (.ref b31), .val (.int (own_get ((((List.replicate n (-1 : Int64)).set (own_ix ww n) (own_key ww p5)).set (own_ix p2 n) (own_key p2 p3)).getD (own_ix p2 n) 0) p2)), .val (.int (own_get ((((List.replicate n (-1 : Int64)).set (own_ix ww n) (own_key ww p5)).set (own_ix p2 n) (own_key p2 p3)).getD (own_ix ww n) 0) ww)), .val (.int (own_get ((((List.replicate n (-1 : Int64)).set (own_ix ww n) (own_key ww p5)).set (own_ix p2 n) (own_key p2 p3)).getD (own_ix uu n) 0) uu)), .val (.int p5), .unset] []))
        exact own_leaf ⟨p5, by rw [own_eW, if_neg hc39, if_neg hc40], rfl⟩
  refine own_go sg38 ?_
  show own_R _ _ _ _ (T37.setTop (mkF m 141 #[.val (.int p1), .val (.int p2), .val (.int p3), .val (.int p4), .val (.int p5), .val (.int p6), .val (.int kk), .val (.int ((Int32.ofNat n) - (1 : Int32))), .val (.int ww), .val (.int uu), .val (.ref b31), .val (.int (own_get ((((List.replicate n (-1 : Int64)).set (own_ix ww n) (own_key ww p5)).set (own_ix p2 n) (own_key p2 p3)).getD (own_ix p2 n) 0) p2)), .val (.int (own_get ((((List.replicate n (-1 : Int64)).set (own_ix ww n) (own_key ww p5)).set (own_ix p2 n) (own_key p2 p3)).getD (own_ix ww n) 0) ww)), .val (.int (own_get ((((List.replicate n (-1 : Int64)).set (own_ix ww n) (own_key ww p5)).set (own_ix p2 n) (own_key p2 p3)).getD (own_ix uu n) 0) uu)), .val (.int bW), .unset] []))
  obtain ⟨_, ⟨bU, hs41, rfl⟩, sg41⟩ : own_R p.tables e below (fun U => ∃ (bU : Int32), (bU = own_eU uu ww p2 p3 p5 n) ∧ U = T37.setTop (mkF m 180 #[.val (.int p1), .val (.int p2), .val (.int p3), .val (.int p4), .val (.int p5), .val (.int p6), .val (.int kk), .val (.int ((Int32.ofNat n) - (1 : Int32))), .val (.int ww), .val (.int uu), .val (.ref b31), .val (.int (own_get ((((List.replicate n (-1 : Int64)).set (own_ix ww n) (own_key ww p5)).set (own_ix p2 n) (own_key p2 p3)).getD (own_ix p2 n) 0) p2)), .val (.int (own_get ((((List.replicate n (-1 : Int64)).set (own_ix ww n) (own_key ww p5)).set (own_ix p2 n) (own_key p2 p3)).getD (own_ix ww n) 0) ww)), .val (.int (own_get ((((List.replicate n (-1 : Int64)).set (own_ix ww n) (own_key ww p5)).set (own_ix p2 n) (own_key p2 p3)).getD (own_ix uu n) 0) uu)), .val (.int bW), .val (.int bU)] [])) (T37.setTop (mkF m 141 #[.val (.int p1), .val (.int p2), .val (.int p3), .val (.int p4), .val (.int p5), .val (.int p6), .val (.int kk), .val (.int ((Int32.ofNat n) - (1 : Int32))), .val (.int ww), .val (.int uu), .val (.ref b31), .val (.int (own_get ((((List.replicate n (-1 : Int64)).set (own_ix ww n) (own_key ww p5)).set (own_ix p2 n) (own_key p2 p3)).getD (own_ix p2 n) 0) p2)), .val (.int (own_get ((((List.replicate n (-1 : Int64)).set (own_ix ww n) (own_key ww p5)).set (own_ix p2 n) (own_key p2 p3)).getD (own_ix ww n) 0) ww)), .val (.int (own_get ((((List.replicate n (-1 : Int64)).set (own_ix ww n) (own_key ww p5)).set (own_ix p2 n) (own_key p2 p3)).getD (own_ix uu n) 0) uu)), .val (.int bW), .unset] [])) := by
    refine own_go (fun _ k => XS.iload X37.here hx rfl (hb hby at_141) rfl k) ?_
    show own_R _ _ _ _ (T37.setTop (mkF m 143 #[.val (.int p1), .val (.int p2), .val (.int p3), .val (.int p4), .val (.int p5), .val (.int p6), .val (.int kk), .val (.int ((Int32.ofNat n) - (1 : Int32))), .val (.int ww), .val (.int uu), .val (.ref b31), .val (.int (own_get ((((List.replicate n (-1 : Int64)).set (own_ix ww n) (own_key ww p5)).set (own_ix p2 n) (own_key p2 p3)).getD (own_ix p2 n) 0) p2)), .val (.int (own_get ((((List.replicate n (-1 : Int64)).set (own_ix ww n) (own_key ww p5)).set (own_ix p2 n) (own_key p2 p3)).getD (own_ix ww n) 0) ww)), .val (.int (own_get ((((List.replicate n (-1 : Int64)).set (own_ix ww n) (own_key ww p5)).set (own_ix p2 n) (own_key p2 p3)).getD (own_ix uu n) 0) uu)), .val (.int bW), .unset] [(.int uu)]))
    refine own_go (fun _ k => XS.iloadN X37.here hx rfl (hb hby at_143) rfl k) ?_
    show own_R _ _ _ _ (T37.setTop (mkF m 144 #[.val (.int p1), .val (.int p2), .val (.int p3), .val (.int p4), .val (.int p5), .val (.int p6), .val (.int kk), .val (.int ((Int32.ofNat n) - (1 : Int32))), .val (.int ww), .val (.int uu), .val (.ref b31), .val (.int (own_get ((((List.replicate n (-1 : Int64)).set (own_ix ww n) (own_key ww p5)).set (own_ix p2 n) (own_key p2 p3)).getD (own_ix p2 n) 0) p2)), .val (.int (own_get ((((List.replicate n (-1 : Int64)).set (own_ix ww n) (own_key ww p5)).set (own_ix p2 n) (own_key p2 p3)).getD (own_ix ww n) 0) ww)), .val (.int (own_get ((((List.replicate n (-1 : Int64)).set (own_ix ww n) (own_key ww p5)).set (own_ix p2 n) (own_key p2 p3)).getD (own_ix uu n) 0) uu)), .val (.int bW), .unset] [(.int p2), (.int uu)]))
    by_cases hc42 : uu = p2
    · refine own_go (fun _ k => XS.icmpNo X37.here hx rfl (hb hby at_144) rfl (teq hc42).2 k) ?_
      show own_R _ _ _ _ (T37.setTop (mkF m 147 #[.val (.int p1), .val (.int p2), .val (.int p3), .val (.int p4), .val (.int p5), .val (.int p6), .val (.int kk), .val (.int ((Int32.ofNat n) - (1 : Int32))), .val (.int ww), .val (.int uu), .val (.ref b31), .val (.int (own_get ((((List.replicate n (-1 : Int64)).set (own_ix ww n) (own_key ww p5)).set (own_ix p2 n) (own_key p2 p3)).getD (own_ix p2 n) 0) p2)), .val (.int (own_get ((((List.replicate n (-1 : Int64)).set (own_ix ww n) (own_key ww p5)).set (own_ix p2 n) (own_key p2 p3)).getD (own_ix ww n) 0) ww)), .val (.int (own_get ((((List.replicate n (-1 : Int64)).set (own_ix ww n) (own_key ww p5)).set (own_ix p2 n) (own_key p2 p3)).getD (own_ix uu n) 0) uu)), .val (.int bW), .unset] []))
      refine own_go (fun _ k => XS.iloadN X37.here hx rfl (hb hby at_147) rfl k) ?_
      show own_R _ _ _ _ (T37.setTop (mkF m 148 #[.val (.int p1), .val (.int p2), .val (.int p3), .val (.int p4), .val (.int p5), .val (.int p6), .val (.int kk), .val (.int ((Int32.ofNat n) - (1 : Int32))), .val (.int ww), .val (.int uu), .val (.ref b31), .val (.int (own_get ((((List.replicate n (-1 : Int64)).set (own_ix ww n) (own_key ww p5)).set (own_ix p2 n) (own_key p2 p3)).getD (own_ix p2 n) 0) p2)), .val (.int (own_get ((((List.replicate n (-1 : Int64)).set (own_ix ww n) (own_key ww p5)).set (own_ix p2 n) (own_key p2 p3)).getD (own_ix ww n) 0) ww)), .val (.int (own_get ((((List.replicate n (-1 : Int64)).set (own_ix ww n) (own_key ww p5)).set (own_ix p2 n) (own_key p2 p3)).getD (own_ix uu n) 0) uu)), .val (.int bW), .unset] [(.int p3)]))
      refine own_go (fun _ k => XS.istore X37.here hx rfl (hb hby at_148) rfl (l' := #[.val (.int p1), .val (.int p2), .val (.int p3), .val (.int p4), .val (.int p5), .val (.int p6), .val (.int kk), .val (.int ((Int32.ofNat n) - (1 : Int32))), .val (.int ww), .val (.int uu), .val (.ref b31), .val (.int (own_get ((((List.replicate n (-1 : Int64)).set (own_ix ww n) (own_key ww p5)).set (own_ix p2 n) (own_key p2 p3)).getD (own_ix p2 n) 0) p2)), .val (.int (own_get ((((List.replicate n (-1 : Int64)).set (own_ix ww n) (own_key ww p5)).set (own_ix p2 n) (own_key p2 p3)).getD (own_ix ww n) 0) ww)), .val (.int (own_get ((((List.replicate n (-1 : Int64)).set (own_ix ww n) (own_key ww p5)).set (own_ix p2 n) (own_key p2 p3)).getD (own_ix uu n) 0) uu)), .val (.int bW), .val (.int p3)]) rfl k) ?_
      show own_R _ _ _ _ (T37.setTop (mkF m 150 #[.val (.int p1), .val (.int p2), .val (.int p3), .val (.int p4), .val (.int p5), .val (.int p6), .val (.int kk), .val (.int ((Int32.ofNat n) - (1 : Int32))), .val (.int ww), .val (.int uu), .val (.ref b31), .val (.int (own_get ((((List.replicate n (-1 : Int64)).set (own_ix ww n) (own_key ww p5)).set (own_ix p2 n) (own_key p2 p3)).getD (own_ix p2 n) 0) p2)), .val (.int (own_get ((((List.replicate n (-1 : Int64)).set (own_ix ww n) (own_key ww p5)).set (own_ix p2 n) (own_key p2 p3)).getD (own_ix ww n) 0) ww)), .val (.int (own_get ((((List.replicate n (-1 : Int64)).set (own_ix ww n) (own_key ww p5)).set (own_ix p2 n) (own_key p2 p3)).getD (own_ix uu n) 0) uu)), .val (.int bW), .val (.int p3)] []))
      refine own_go (fun _ k => XS.goto X37.here hx rfl (pc0 := 150) (pc' := 180) rfl (hb hby at_150) (by decide) (by decide) k) ?_
      show own_R _ _ _ _ (T37.setTop (mkF m 180 #[.val (.int p1), .val (.int p2), .val (.int p3), .val (.int p4), .val (.int p5), .val (.int p6), .val (.int kk), .val (.int ((Int32.ofNat n) - (1 : Int32))), .val (.int ww), .val (.int uu), .val (.ref b31), .val (.int (own_get ((((List.replicate n (-1 : Int64)).set (own_ix ww n) (own_key ww p5)).set (own_ix p2 n) (own_key p2 p3)).getD (own_ix p2 n) 0) p2)), .val (.int (own_get ((((List.replicate n (-1 : Int64)).set (own_ix ww n) (own_key ww p5)).set (own_ix p2 n) (own_key p2 p3)).getD (own_ix ww n) 0) ww)), .val (.int (own_get ((((List.replicate n (-1 : Int64)).set (own_ix ww n) (own_key ww p5)).set (own_ix p2 n) (own_key p2 p3)).getD (own_ix uu n) 0) uu)), .val (.int bW), .val (.int p3)] []))
      exact own_leaf ⟨p3, by rw [own_eU, if_pos hc42], rfl⟩
    · refine own_go (fun _ k => XS.icmpYes X37.here hx rfl (pc0 := 144) (pc' := 153) rfl (hb hby at_144) rfl (feq hc42).2 (by decide) (by decide) k) ?_
      show own_R _ _ _ _ (T37.setTop (mkF m 153 #[.val (.int p1), .val (.int p2), .val (.int p3), .val (.int p4), .val (.int p5), .val (.int p6), .val (.int kk), .val (.int ((Int32.ofNat n) - (1 : Int32))), .val (.int ww), .val (.int uu), .val (.ref b31), .val (.int (own_get ((((List.replicate n (-1 : Int64)).set (own_ix ww n) (own_key ww p5)).set (own_ix p2 n) (own_key p2 p3)).getD (own_ix p2 n) 0) p2)), .val (.int (own_get ((((List.replicate n (-1 : Int64)).set (own_ix ww n) (own_key ww p5)).set (own_ix p2 n) (own_key p2 p3)).getD (own_ix ww n) 0) ww)), .val (.int (own_get ((((List.replicate n (-1 : Int64)).set (own_ix ww n) (own_key ww p5)).set (own_ix p2 n) (own_key p2 p3)).getD (own_ix uu n) 0) uu)), .val (.int bW), .unset] []))
      refine own_go (fun _ k => XS.iload X37.here hx rfl (hb hby at_153) rfl k) ?_
      show own_R _ _ _ _ (T37.setTop (mkF m 155 #[.val (.int p1), .val (.int p2), .val (.int p3), .val (.int p4), .val (.int p5), .val (.int p6), .val (.int kk), .val (.int ((Int32.ofNat n) - (1 : Int32))), .val (.int ww), .val (.int uu), .val (.ref b31), .val (.int (own_get ((((List.replicate n (-1 : Int64)).set (own_ix ww n) (own_key ww p5)).set (own_ix p2 n) (own_key p2 p3)).getD (own_ix p2 n) 0) p2)), .val (.int (own_get ((((List.replicate n (-1 : Int64)).set (own_ix ww n) (own_key ww p5)).set (own_ix p2 n) (own_key p2 p3)).getD (own_ix ww n) 0) ww)), .val (.int (own_get ((((List.replicate n (-1 : Int64)).set (own_ix ww n) (own_key ww p5)).set (own_ix p2 n) (own_key p2 p3)).getD (own_ix uu n) 0) uu)), .val (.int bW), .unset] [(.int uu)]))
      refine own_go (fun _ k => XS.iload X37.here hx rfl (hb hby at_155) rfl k) ?_
      show own_R _ _ _ _ (T37.setTop (mkF m 157 #[.val (.int p1), .val (.int p2), .val (.int p3), .val (.int p4), .val (.int p5), .val (.int p6), .val (.int kk), .val (.int ((Int32.ofNat n) - (1 : Int32))), .val (.int ww), .val (.int uu), .val (.ref b31), .val (.int (own_get ((((List.replicate n (-1 : Int64)).set (own_ix ww n) (own_key ww p5)).set (own_ix p2 n) (own_key p2 p3)).getD (own_ix p2 n) 0) p2)), .val (.int (own_get ((((List.replicate n (-1 : Int64)).set (own_ix ww n) (own_key ww p5)).set (own_ix p2 n) (own_key p2 p3)).getD (own_ix ww n) 0) ww)), .val (.int (own_get ((((List.replicate n (-1 : Int64)).set (own_ix ww n) (own_key ww p5)).set (own_ix p2 n) (own_key p2 p3)).getD (own_ix uu n) 0) uu)), .val (.int bW), .unset] [(.int ww), (.int uu)]))
      by_cases hc43 : uu = ww
      · refine own_go (fun _ k => XS.icmpNo X37.here hx rfl (hb hby at_157) rfl (teq hc43).2 k) ?_
        show own_R _ _ _ _ (T37.setTop (mkF m 160 #[.val (.int p1), .val (.int p2), .val (.int p3), .val (.int p4), .val (.int p5), .val (.int p6), .val (.int kk), .val (.int ((Int32.ofNat n) - (1 : Int32))), .val (.int ww), .val (.int uu), .val (.ref b31), .val (.int (own_get ((((List.replicate n (-1 : Int64)).set (own_ix ww n) (own_key ww p5)).set (own_ix p2 n) (own_key p2 p3)).getD (own_ix p2 n) 0) p2)), .val (.int (own_get ((((List.replicate n (-1 : Int64)).set (own_ix ww n) (own_key ww p5)).set (own_ix p2 n) (own_key p2 p3)).getD (own_ix ww n) 0) ww)), .val (.int (own_get ((((List.replicate n (-1 : Int64)).set (own_ix ww n) (own_key ww p5)).set (own_ix p2 n) (own_key p2 p3)).getD (own_ix uu n) 0) uu)), .val (.int bW), .unset] []))
        refine own_go (fun _ k => XS.iload X37.here hx rfl (hb hby at_160) rfl k) ?_
        show own_R _ _ _ _ (T37.setTop (mkF m 162 #[.val (.int p1), .val (.int p2), .val (.int p3), .val (.int p4), .val (.int p5), .val (.int p6), .val (.int kk), .val (.int ((Int32.ofNat n) - (1 : Int32))), .val (.int ww), .val (.int uu), .val (.ref b31), .val (.int (own_get ((((List.replicate n (-1 : Int64)).set (own_ix ww n) (own_key ww p5)).set (own_ix p2 n) (own_key p2 p3)).getD (own_ix p2 n) 0) p2)), .val (.int (own_get ((((List.replicate n (-1 : Int64)).set (own_ix ww n) (own_key ww p5)).set (own_ix p2 n) (own_key p2 p3)).getD (own_ix ww n) 0) ww)), .val (.int (own_get ((((List.replicate n (-1 : Int64)).set (own_ix ww n) (own_key ww p5)).set (own_ix p2 n) (own_key p2 p3)).getD (own_ix uu n) 0) uu)), .val (.int bW), .unset] [(.int ww)]))
        refine own_go (fun _ k => XS.iloadN X37.here hx rfl (hb hby at_162) rfl k) ?_
        show own_R _ _ _ _ (T37.setTop (mkF m 163 #[.val (.int p1), .val (.int p2), .val (.int p3), .val (.int p4), .val (.int p5), .val (.int p6), .val (.int kk), .val (.int ((Int32.ofNat n) - (1 : Int32))), .val (.int ww), .val (.int uu), .val (.ref b31), .val (.int (own_get ((((List.replicate n (-1 : Int64)).set (own_ix ww n) (own_key ww p5)).set (own_ix p2 n) (own_key p2 p3)).getD (own_ix p2 n) 0) p2)), .val (.int (own_get ((((List.replicate n (-1 : Int64)).set (own_ix ww n) (own_key ww p5)).set (own_ix p2 n) (own_key p2 p3)).getD (own_ix ww n) 0) ww)), .val (.int (own_get ((((List.replicate n (-1 : Int64)).set (own_ix ww n) (own_key ww p5)).set (own_ix p2 n) (own_key p2 p3)).getD (own_ix uu n) 0) uu)), .val (.int bW), .unset] [(.int p2), (.int ww)]))
        refine own_go (fun _ k => XS.ixor X37.here hx rfl (hb hby at_163) rfl k) ?_
        show own_R _ _ _ _ (T37.setTop (mkF m 164 #[.val (.int p1), .val (.int p2), .val (.int p3), .val (.int p4), .val (.int p5), .val (.int p6), .val (.int kk), .val (.int ((Int32.ofNat n) - (1 : Int32))), .val (.int ww), .val (.int uu), .val (.ref b31), .val (.int (own_get ((((List.replicate n (-1 : Int64)).set (own_ix ww n) (own_key ww p5)).set (own_ix p2 n) (own_key p2 p3)).getD (own_ix p2 n) 0) p2)), .val (.int (own_get ((((List.replicate n (-1 : Int64)).set (own_ix ww n) (own_key ww p5)).set (own_ix p2 n) (own_key p2 p3)).getD (own_ix ww n) 0) ww)), .val (.int (own_get ((((List.replicate n (-1 : Int64)).set (own_ix ww n) (own_key ww p5)).set (own_ix p2 n) (own_key p2 p3)).getD (own_ix uu n) 0) uu)), .val (.int bW), .unset] [(.int (ww ^^^ p2))]))
        refine own_go (fun _ k => XS.iload X37.here hx rfl (hb hby at_164) rfl k) ?_
        show own_R _ _ _ _ (T37.setTop (mkF m 166 #[.val (.int p1), .val (.int p2), .val (.int p3), .val (.int p4), .val (.int p5), .val (.int p6), .val (.int kk), .val (.int ((Int32.ofNat n) - (1 : Int32))), .val (.int ww), .val (.int uu), .val (.ref b31), .val (.int (own_get ((((List.replicate n (-1 : Int64)).set (own_ix ww n) (own_key ww p5)).set (own_ix p2 n) (own_key p2 p3)).getD (own_ix p2 n) 0) p2)), .val (.int (own_get ((((List.replicate n (-1 : Int64)).set (own_ix ww n) (own_key ww p5)).set (own_ix p2 n) (own_key p2 p3)).getD (own_ix ww n) 0) ww)), .val (.int (own_get ((((List.replicate n (-1 : Int64)).set (own_ix ww n) (own_key ww p5)).set (own_ix p2 n) (own_key p2 p3)).getD (own_ix uu n) 0) uu)), .val (.int bW), .unset] [(.int ((Int32.ofNat n) - (1 : Int32))), (.int (ww ^^^ p2))]))
        refine own_go (fun _ k => XS.iand X37.here hx rfl (hb hby at_166) rfl k) ?_
        show own_R _ _ _ _ (T37.setTop (mkF m 167 #[.val (.int p1), .val (.int p2), .val (.int p3), .val (.int p4), .val (.int p5), .val (.int p6), .val (.int kk), .val (.int ((Int32.ofNat n) - (1 : Int32))), .val (.int ww), .val (.int uu), .val (.ref b31), .val (.int (own_get ((((List.replicate n (-1 : Int64)).set (own_ix ww n) (own_key ww p5)).set (own_ix p2 n) (own_key p2 p3)).getD (own_ix p2 n) 0) p2)), .val (.int (own_get ((((List.replicate n (-1 : Int64)).set (own_ix ww n) (own_key ww p5)).set (own_ix p2 n) (own_key p2 p3)).getD (own_ix ww n) 0) ww)), .val (.int (own_get ((((List.replicate n (-1 : Int64)).set (own_ix ww n) (own_key ww p5)).set (own_ix p2 n) (own_key p2 p3)).getD (own_ix uu n) 0) uu)), .val (.int bW), .unset] [(.int ((ww ^^^ p2) &&& ((Int32.ofNat n) - (1 : Int32))))]))
        by_cases hc44 : ((ww ^^^ p2) &&& ((Int32.ofNat n) - (1 : Int32))) = (0 : Int32)
        · refine own_go (fun _ k => XS.ifYes X37.here hx rfl (pc0 := 167) (pc' := 177) rfl (hb hby at_167) rfl ((if0 _ _).trans (teq hc44).1) (by decide) (by decide) k) ?_
          show own_R _ _ _ _ (T37.setTop (mkF m 177 #[.val (.int p1), .val (.int p2), .val (.int p3), .val (.int p4), .val (.int p5), .val (.int p6), .val (.int kk), .val (.int ((Int32.ofNat n) - (1 : Int32))), .val (.int ww), .val (.int uu), .val (.ref b31), .val (.int (own_get ((((List.replicate n (-1 : Int64)).set (own_ix ww n) (own_key ww p5)).set (own_ix p2 n) (own_key p2 p3)).getD (own_ix p2 n) 0) p2)), .val (.int (own_get ((((List.replicate n (-1 : Int64)).set (own_ix ww n) (own_key ww p5)).set (own_ix p2 n) (own_key p2 p3)).getD (own_ix ww n) 0) ww)), .val (.int (own_get ((((List.replicate n (-1 : Int64)).set (own_ix ww n) (own_key ww p5)).set (own_ix p2 n) (own_key p2 p3)).getD (own_ix uu n) 0) uu)), .val (.int bW), .unset] []))
          refine own_go (fun _ k => XS.iconst X37.here hx rfl (hb hby at_177) k) ?_
          show own_R _ _ _ _ (T37.setTop (mkF m 178 #[.val (.int p1), .val (.int p2), .val (.int p3), .val (.int p4), .val (.int p5), .val (.int p6), .val (.int kk), .val (.int ((Int32.ofNat n) - (1 : Int32))), .val (.int ww), .val (.int uu), .val (.ref b31), .val (.int (own_get ((((List.replicate n (-1 : Int64)).set (own_ix ww n) (own_key ww p5)).set (own_ix p2 n) (own_key p2 p3)).getD (own_ix p2 n) 0) p2)), .val (.int (own_get ((((List.replicate n (-1 : Int64)).set (own_ix ww n) (own_key ww p5)).set (own_ix p2 n) (own_key p2 p3)).getD (own_ix ww n) 0) ww)), .val (.int (own_get ((((List.replicate n (-1 : Int64)).set (own_ix ww n) (own_key ww p5)).set (own_ix p2 n) (own_key p2 p3)).getD (own_ix uu n) 0) uu)), .val (.int bW), .unset] [(.int (-1 : Int32))]))
          refine own_go (fun _ k => XS.istore X37.here hx rfl (hb hby at_178) rfl (l' := #[.val (.int p1), .val (.int p2), .val (.int p3), .val (.int p4), .val (.int p5), .val (.int p6), .val (.int kk), .val (.int ((Int32.ofNat n) - (1 : Int32))), .val (.int ww), .val (.int uu), .val (.ref b31), .val (.int (own_get ((((List.replicate n (-1 : Int64)).set (own_ix ww n) (own_key ww p5)).set (own_ix p2 n) (own_key p2 p3)).getD (own_ix p2 n) 0) p2)), .val (.int (own_get ((((List.replicate n (-1 : Int64)).set (own_ix ww n) (own_key ww p5)).set (own_ix p2 n) (own_key p2 p3)).getD (own_ix ww n) 0) ww)), .val (.int (own_get ((((List.replicate n (-1 : Int64)).set (own_ix ww n) (own_key ww p5)).set (own_ix p2 n) (own_key p2 p3)).getD (own_ix uu n) 0) uu)), .val (.int bW), .val (.int (-1 : Int32))]) rfl k) ?_
          show own_R _ _ _ _ (T37.setTop (mkF m 180 #[.val (.int p1), .val (.int p2), .val (.int p3), .val (.int p4), .val (.int p5), .val (.int p6), .val (.int kk), .val (.int ((Int32.ofNat n) - (1 : Int32))), .val (.int ww), .val (.int uu), .val (.ref b31), .val (.int (own_get ((((List.replicate n (-1 : Int64)).set (own_ix ww n) (own_key ww p5)).set (own_ix p2 n) (own_key p2 p3)).getD (own_ix p2 n) 0) p2)), .val (.int (own_get ((((List.replicate n (-1 : Int64)).set (own_ix ww n) (own_key ww p5)).set (own_ix p2 n) (own_key p2 p3)).getD (own_ix ww n) 0) ww)), .val (.int (own_get ((((List.replicate n (-1 : Int64)).set (own_ix ww n) (own_key ww p5)).set (own_ix p2 n) (own_key p2 p3)).getD (own_ix uu n) 0) uu)), .val (.int bW), .val (.int (-1 : Int32))] []))
          exact own_leaf ⟨(-1 : Int32), by rw [own_eU, if_neg hc42, if_neg (fun z => z.2 hc44)], rfl⟩
        · refine own_go (fun _ k => XS.ifNo X37.here hx rfl (hb hby at_167) rfl ((if0 _ _).trans (feq hc44).1) k) ?_
          show own_R _ _ _ _ (T37.setTop (mkF m 170 #[.val (.int p1), .val (.int p2), .val (.int p3), .val (.int p4), .val (.int p5), .val (.int p6), .val (.int kk), .val (.int ((Int32.ofNat n) - (1 : Int32))), .val (.int ww), .val (.int uu), .val (.ref b31), .val (.int (own_get ((((List.replicate n (-1 : Int64)).set (own_ix ww n) (own_key ww p5)).set (own_ix p2 n) (own_key p2 p3)).getD (own_ix p2 n) 0) p2)), .val (.int (own_get ((((List.replicate n (-1 : Int64)).set (own_ix ww n) (own_key ww p5)).set (own_ix p2 n) (own_key p2 p3)).getD (own_ix ww n) 0) ww)), .val (.int (own_get ((((List.replicate n (-1 : Int64)).set (own_ix ww n) (own_key ww p5)).set (own_ix p2 n) (own_key p2 p3)).getD (own_ix uu n) 0) uu)), .val (.int bW), .unset] []))
          refine own_go (fun _ k => XS.iload X37.here hx rfl (hb hby at_170) rfl k) ?_
          show own_R _ _ _ _ (T37.setTop (mkF m 172 #[.val (.int p1), .val (.int p2), .val (.int p3), .val (.int p4), .val (.int p5), .val (.int p6), .val (.int kk), .val (.int ((Int32.ofNat n) - (1 : Int32))), .val (.int ww), .val (.int uu), .val (.ref b31), .val (.int (own_get ((((List.replicate n (-1 : Int64)).set (own_ix ww n) (own_key ww p5)).set (own_ix p2 n) (own_key p2 p3)).getD (own_ix p2 n) 0) p2)), .val (.int (own_get ((((List.replicate n (-1 : Int64)).set (own_ix ww n) (own_key ww p5)).set (own_ix p2 n) (own_key p2 p3)).getD (own_ix ww n) 0) ww)), .val (.int (own_get ((((List.replicate n (-1 : Int64)).set (own_ix ww n) (own_key ww p5)).set (own_ix p2 n) (own_key p2 p3)).getD (own_ix uu n) 0) uu)), .val (.int bW), .unset] [(.int p5)]))
          refine own_go (fun _ k => XS.istore X37.here hx rfl (hb hby at_172) rfl (l' := #[.val (.int p1), .val (.int p2), .val (.int p3), .val (.int p4), .val (.int p5), .val (.int p6), .val (.int kk), .val (.int ((Int32.ofNat n) - (1 : Int32))), .val (.int ww), .val (.int uu), .val (.ref b31), .val (.int (own_get ((((List.replicate n (-1 : Int64)).set (own_ix ww n) (own_key ww p5)).set (own_ix p2 n) (own_key p2 p3)).getD (own_ix p2 n) 0) p2)), .val (.int (own_get ((((List.replicate n (-1 : Int64)).set (own_ix ww n) (own_key ww p5)).set (own_ix p2 n) (own_key p2 p3)).getD (own_ix ww n) 0) ww)), .val (.int (own_get ((((List.replicate n (-1 : Int64)).set (own_ix ww n) (own_key ww p5)).set (own_ix p2 n) (own_key p2 p3)).getD (own_ix uu n) 0) uu)), .val (.int bW), .val (.int p5)]) rfl k) ?_
          show own_R _ _ _ _ (T37.setTop (mkF m 174 #[.val (.int p1), .val (.int p2), .val (.int p3), .val (.int p4), .val (.int p5), .val (.int p6), .val (.int kk), .val (.int ((Int32.ofNat n) - (1 : Int32))), .val (.int ww), .val (.int uu), .val (.ref b31), .val (.int (own_get ((((List.replicate n (-1 : Int64)).set (own_ix ww n) (own_key ww p5)).set (own_ix p2 n) (own_key p2 p3)).getD (own_ix p2 n) 0) p2)), .val (.int (own_get ((((List.replicate n (-1 : Int64)).set (own_ix ww n) (own_key ww p5)).set (own_ix p2 n) (own_key p2 p3)).getD (own_ix ww n) 0) ww)), .val (.int (own_get ((((List.replicate n (-1 : Int64)).set (own_ix ww n) (own_key ww p5)).set (own_ix p2 n) (own_key p2 p3)).getD (own_ix uu n) 0) uu)), .val (.int bW), .val (.int p5)] []))
          refine own_go (fun _ k => XS.goto X37.here hx rfl (pc0 := 174) (pc' := 180) rfl (hb hby at_174) (by decide) (by decide) k) ?_
          show own_R _ _ _ _ (T37.setTop (mkF m 180 #[.val (.int p1), .val (.int p2), .val (.int p3), .val (.int p4), .val (.int p5), .val (.int p6), .val (.int kk), .val (.int ((Int32.ofNat n) - (1 : Int32))), .val (.int ww), .val (.int uu), .val (.ref b31), .val (.int (own_get ((((List.replicate n (-1 : Int64)).set (own_ix ww n) (own_key ww p5)).set (own_ix p2 n) (own_key p2 p3)).getD (own_ix p2 n) 0) p2)), .val (.int (own_get ((((List.replicate n (-1 : Int64)).set (own_ix ww n) (own_key ww p5)).set (own_ix p2 n) (own_key p2 p3)).getD (own_ix ww n) 0) ww)), .val (.int (own_get ((((List.replicate n (-1 : Int64)).set (own_ix ww n) (own_key ww p5)).set (own_ix p2 n) (own_key p2 p3)).getD (own_ix uu n) 0) uu)), .val (.int bW), .val (.int p5)] []))
          exact own_leaf ⟨p5, by rw [own_eU, if_neg hc42, if_pos ⟨hc43, hc44⟩], rfl⟩
      · refine own_go (fun _ k => XS.icmpYes X37.here hx rfl (pc0 := 157) (pc' := 177) rfl (hb hby at_157) rfl (feq hc43).2 (by decide) (by decide) k) ?_
        show own_R _ _ _ _ (T37.setTop (mkF m 177 #[.val (.int p1), .val (.int p2), .val (.int p3), .val (.int p4), .val (.int p5), .val (.int p6), .val (.int kk), .val (.int ((Int32.ofNat n) - (1 : Int32))), .val (.int ww), .val (.int uu), .val (.ref b31), .val (.int (own_get ((((List.replicate n (-1 : Int64)).set (own_ix ww n) (own_key ww p5)).set (own_ix p2 n) (own_key p2 p3)).getD (own_ix p2 n) 0) p2)), .val (.int (own_get ((((List.replicate n (-1 : Int64)).set (own_ix ww n) (own_key ww p5)).set (own_ix p2 n) (own_key p2 p3)).getD (own_ix ww n) 0) ww)), .val (.int (own_get ((((List.replicate n (-1 : Int64)).set (own_ix ww n) (own_key ww p5)).set (own_ix p2 n) (own_key p2 p3)).getD (own_ix uu n) 0) uu)), .val (.int bW), .unset] []))
        refine own_go (fun _ k => XS.iconst X37.here hx rfl (hb hby at_177) k) ?_
        show own_R _ _ _ _ (T37.setTop (mkF m 178 #[.val (.int p1), .val (.int p2), .val (.int p3), .val (.int p4), .val (.int p5), .val (.int p6), .val (.int kk), .val (.int ((Int32.ofNat n) - (1 : Int32))), .val (.int ww), .val (.int uu), .val (.ref b31), .val (.int (own_get ((((List.replicate n (-1 : Int64)).set (own_ix ww n) (own_key ww p5)).set (own_ix p2 n) (own_key p2 p3)).getD (own_ix p2 n) 0) p2)), .val (.int (own_get ((((List.replicate n (-1 : Int64)).set (own_ix ww n) (own_key ww p5)).set (own_ix p2 n) (own_key p2 p3)).getD (own_ix ww n) 0) ww)), .val (.int (own_get ((((List.replicate n (-1 : Int64)).set (own_ix ww n) (own_key ww p5)).set (own_ix p2 n) (own_key p2 p3)).getD (own_ix uu n) 0) uu)), .val (.int bW), .unset] [(.int (-1 : Int32))]))
        refine own_go (fun _ k => XS.istore X37.here hx rfl (hb hby at_178) rfl (l' := #[.val (.int p1), .val (.int p2), .val (.int p3), .val (.int p4), .val (.int p5), .val (.int p6), .val (.int kk), .val (.int ((Int32.ofNat n) - (1 : Int32))), .val (.int ww), .val (.int uu), .val (.ref b31), .val (.int (own_get ((((List.replicate n (-1 : Int64)).set (own_ix ww n) (own_key ww p5)).set (own_ix p2 n) (own_key p2 p3)).getD (own_ix p2 n) 0) p2)), .val (.int (own_get ((((List.replicate n (-1 : Int64)).set (own_ix ww n) (own_key ww p5)).set (own_ix p2 n) (own_key p2 p3)).getD (own_ix ww n) 0) ww)), .val (.int (own_get ((((List.replicate n (-1 : Int64)).set (own_ix ww n) (own_key ww p5)).set (own_ix p2 n) (own_key p2 p3)).getD (own_ix uu n) 0) uu)), .val (.int bW), .val (.int (-1 : Int32))]) rfl k) ?_
        show own_R _ _ _ _ (T37.setTop (mkF m 180 #[.val (.int p1), .val (.int p2), .val (.int p3), .val (.int p4), .val (.int p5), .val (.int p6), .val (.int kk), .val (.int ((Int32.ofNat n) - (1 : Int32))), .val (.int ww), .val (.int uu), .val (.ref b31), .val (.int (own_get ((((List.replicate n (-1 : Int64)).set (own_ix ww n) (own_key ww p5)).set (own_ix p2 n) (own_key p2 p3)).getD (own_ix p2 n) 0) p2)), .val (.int (own_get ((((List.replicate n (-1 : Int64)).set (own_ix ww n) (own_key ww p5)).set (own_ix p2 n) (own_key p2 p3)).getD (own_ix ww n) 0) ww)), .val (.int (own_get ((((List.replicate n (-1 : Int64)).set (own_ix ww n) (own_key ww p5)).set (own_ix p2 n) (own_key p2 p3)).getD (own_ix uu n) 0) uu)), .val (.int bW), .val (.int (-1 : Int32))] []))
        exact own_leaf ⟨(-1 : Int32), by rw [own_eU, if_neg hc42, if_neg (fun z => hc43 z.1)], rfl⟩
  refine own_go sg41 ?_
  show own_R _ _ _ _ (T37.setTop (mkF m 180 #[.val (.int p1), .val (.int p2), .val (.int p3), .val (.int p4), .val (.int p5), .val (.int p6), .val (.int kk), .val (.int ((Int32.ofNat n) - (1 : Int32))), .val (.int ww), .val (.int uu), .val (.ref b31), .val (.int (own_get ((((List.replicate n (-1 : Int64)).set (own_ix ww n) (own_key ww p5)).set (own_ix p2 n) (own_key p2 p3)).getD (own_ix p2 n) 0) p2)), .val (.int (own_get ((((List.replicate n (-1 : Int64)).set (own_ix ww n) (own_key ww p5)).set (own_ix p2 n) (own_key p2 p3)).getD (own_ix ww n) 0) ww)), .val (.int (own_get ((((List.replicate n (-1 : Int64)).set (own_ix ww n) (own_key ww p5)).set (own_ix p2 n) (own_key p2 p3)).getD (own_ix uu n) 0) uu)), .val (.int bW), .val (.int bU)] []))
  refine own_go (fun _ k => XS.iload X37.here hx rfl (hb hby at_180) rfl k) ?_
  show own_R _ _ _ _ (T37.setTop (mkF m 182 #[.val (.int p1), .val (.int p2), .val (.int p3), .val (.int p4), .val (.int p5), .val (.int p6), .val (.int kk), .val (.int ((Int32.ofNat n) - (1 : Int32))), .val (.int ww), .val (.int uu), .val (.ref b31), .val (.int (own_get ((((List.replicate n (-1 : Int64)).set (own_ix ww n) (own_key ww p5)).set (own_ix p2 n) (own_key p2 p3)).getD (own_ix p2 n) 0) p2)), .val (.int (own_get ((((List.replicate n (-1 : Int64)).set (own_ix ww n) (own_key ww p5)).set (own_ix p2 n) (own_key p2 p3)).getD (own_ix ww n) 0) ww)), .val (.int (own_get ((((List.replicate n (-1 : Int64)).set (own_ix ww n) (own_key ww p5)).set (own_ix p2 n) (own_key p2 p3)).getD (own_ix uu n) 0) uu)), .val (.int bW), .val (.int bU)] [(.int (own_get ((((List.replicate n (-1 : Int64)).set (own_ix ww n) (own_key ww p5)).set (own_ix p2 n) (own_key p2 p3)).getD (own_ix p2 n) 0) p2))]))
  refine own_go (fun _ k => XS.iloadN X37.here hx rfl (hb hby at_182) rfl k) ?_
  show own_R _ _ _ _ (T37.setTop (mkF m 183 #[.val (.int p1), .val (.int p2), .val (.int p3), .val (.int p4), .val (.int p5), .val (.int p6), .val (.int kk), .val (.int ((Int32.ofNat n) - (1 : Int32))), .val (.int ww), .val (.int uu), .val (.ref b31), .val (.int (own_get ((((List.replicate n (-1 : Int64)).set (own_ix ww n) (own_key ww p5)).set (own_ix p2 n) (own_key p2 p3)).getD (own_ix p2 n) 0) p2)), .val (.int (own_get ((((List.replicate n (-1 : Int64)).set (own_ix ww n) (own_key ww p5)).set (own_ix p2 n) (own_key p2 p3)).getD (own_ix ww n) 0) ww)), .val (.int (own_get ((((List.replicate n (-1 : Int64)).set (own_ix ww n) (own_key ww p5)).set (own_ix p2 n) (own_key p2 p3)).getD (own_ix uu n) 0) uu)), .val (.int bW), .val (.int bU)] [(.int p3), (.int (own_get ((((List.replicate n (-1 : Int64)).set (own_ix ww n) (own_key ww p5)).set (own_ix p2 n) (own_key p2 p3)).getD (own_ix p2 n) 0) p2))]))
  refine own_go (fun _ k => XS.icmpNo X37.here hx rfl (hb hby at_183) rfl (teq (own_law1 ww p2 p3 p5 hn1 hn)).2 k) ?_
  show own_R _ _ _ _ (T37.setTop (mkF m 186 #[.val (.int p1), .val (.int p2), .val (.int p3), .val (.int p4), .val (.int p5), .val (.int p6), .val (.int kk), .val (.int ((Int32.ofNat n) - (1 : Int32))), .val (.int ww), .val (.int uu), .val (.ref b31), .val (.int (own_get ((((List.replicate n (-1 : Int64)).set (own_ix ww n) (own_key ww p5)).set (own_ix p2 n) (own_key p2 p3)).getD (own_ix p2 n) 0) p2)), .val (.int (own_get ((((List.replicate n (-1 : Int64)).set (own_ix ww n) (own_key ww p5)).set (own_ix p2 n) (own_key p2 p3)).getD (own_ix ww n) 0) ww)), .val (.int (own_get ((((List.replicate n (-1 : Int64)).set (own_ix ww n) (own_key ww p5)).set (own_ix p2 n) (own_key p2 p3)).getD (own_ix uu n) 0) uu)), .val (.int bW), .val (.int bU)] []))
  refine own_go (fun _ k => XS.iload X37.here hx rfl (hb hby at_186) rfl k) ?_
  show own_R _ _ _ _ (T37.setTop (mkF m 188 #[.val (.int p1), .val (.int p2), .val (.int p3), .val (.int p4), .val (.int p5), .val (.int p6), .val (.int kk), .val (.int ((Int32.ofNat n) - (1 : Int32))), .val (.int ww), .val (.int uu), .val (.ref b31), .val (.int (own_get ((((List.replicate n (-1 : Int64)).set (own_ix ww n) (own_key ww p5)).set (own_ix p2 n) (own_key p2 p3)).getD (own_ix p2 n) 0) p2)), .val (.int (own_get ((((List.replicate n (-1 : Int64)).set (own_ix ww n) (own_key ww p5)).set (own_ix p2 n) (own_key p2 p3)).getD (own_ix ww n) 0) ww)), .val (.int (own_get ((((List.replicate n (-1 : Int64)).set (own_ix ww n) (own_key ww p5)).set (own_ix p2 n) (own_key p2 p3)).getD (own_ix uu n) 0) uu)), .val (.int bW), .val (.int bU)] [(.int (own_get ((((List.replicate n (-1 : Int64)).set (own_ix ww n) (own_key ww p5)).set (own_ix p2 n) (own_key p2 p3)).getD (own_ix ww n) 0) ww))]))
  refine own_go (fun _ k => XS.iload X37.here hx rfl (hb hby at_188) rfl k) ?_
  show own_R _ _ _ _ (T37.setTop (mkF m 190 #[.val (.int p1), .val (.int p2), .val (.int p3), .val (.int p4), .val (.int p5), .val (.int p6), .val (.int kk), .val (.int ((Int32.ofNat n) - (1 : Int32))), .val (.int ww), .val (.int uu), .val (.ref b31), .val (.int (own_get ((((List.replicate n (-1 : Int64)).set (own_ix ww n) (own_key ww p5)).set (own_ix p2 n) (own_key p2 p3)).getD (own_ix p2 n) 0) p2)), .val (.int (own_get ((((List.replicate n (-1 : Int64)).set (own_ix ww n) (own_key ww p5)).set (own_ix p2 n) (own_key p2 p3)).getD (own_ix ww n) 0) ww)), .val (.int (own_get ((((List.replicate n (-1 : Int64)).set (own_ix ww n) (own_key ww p5)).set (own_ix p2 n) (own_key p2 p3)).getD (own_ix uu n) 0) uu)), .val (.int bW), .val (.int bU)] [(.int bW), (.int (own_get ((((List.replicate n (-1 : Int64)).set (own_ix ww n) (own_key ww p5)).set (own_ix p2 n) (own_key p2 p3)).getD (own_ix ww n) 0) ww))]))
  refine own_go (fun _ k => XS.icmpNo X37.here hx rfl (hb hby at_190) rfl (teq ((own_law2 ww p2 p3 p5 hn1 hn).trans hs38.symm)).2 k) ?_
  show own_R _ _ _ _ (T37.setTop (mkF m 193 #[.val (.int p1), .val (.int p2), .val (.int p3), .val (.int p4), .val (.int p5), .val (.int p6), .val (.int kk), .val (.int ((Int32.ofNat n) - (1 : Int32))), .val (.int ww), .val (.int uu), .val (.ref b31), .val (.int (own_get ((((List.replicate n (-1 : Int64)).set (own_ix ww n) (own_key ww p5)).set (own_ix p2 n) (own_key p2 p3)).getD (own_ix p2 n) 0) p2)), .val (.int (own_get ((((List.replicate n (-1 : Int64)).set (own_ix ww n) (own_key ww p5)).set (own_ix p2 n) (own_key p2 p3)).getD (own_ix ww n) 0) ww)), .val (.int (own_get ((((List.replicate n (-1 : Int64)).set (own_ix ww n) (own_key ww p5)).set (own_ix p2 n) (own_key p2 p3)).getD (own_ix uu n) 0) uu)), .val (.int bW), .val (.int bU)] []))
  refine own_go (fun _ k => XS.iload X37.here hx rfl (hb hby at_193) rfl k) ?_
  show own_R _ _ _ _ (T37.setTop (mkF m 195 #[.val (.int p1), .val (.int p2), .val (.int p3), .val (.int p4), .val (.int p5), .val (.int p6), .val (.int kk), .val (.int ((Int32.ofNat n) - (1 : Int32))), .val (.int ww), .val (.int uu), .val (.ref b31), .val (.int (own_get ((((List.replicate n (-1 : Int64)).set (own_ix ww n) (own_key ww p5)).set (own_ix p2 n) (own_key p2 p3)).getD (own_ix p2 n) 0) p2)), .val (.int (own_get ((((List.replicate n (-1 : Int64)).set (own_ix ww n) (own_key ww p5)).set (own_ix p2 n) (own_key p2 p3)).getD (own_ix ww n) 0) ww)), .val (.int (own_get ((((List.replicate n (-1 : Int64)).set (own_ix ww n) (own_key ww p5)).set (own_ix p2 n) (own_key p2 p3)).getD (own_ix uu n) 0) uu)), .val (.int bW), .val (.int bU)] [(.int (own_get ((((List.replicate n (-1 : Int64)).set (own_ix ww n) (own_key ww p5)).set (own_ix p2 n) (own_key p2 p3)).getD (own_ix uu n) 0) uu))]))
  refine own_go (fun _ k => XS.iload X37.here hx rfl (hb hby at_195) rfl k) ?_
  show own_R _ _ _ _ (T37.setTop (mkF m 197 #[.val (.int p1), .val (.int p2), .val (.int p3), .val (.int p4), .val (.int p5), .val (.int p6), .val (.int kk), .val (.int ((Int32.ofNat n) - (1 : Int32))), .val (.int ww), .val (.int uu), .val (.ref b31), .val (.int (own_get ((((List.replicate n (-1 : Int64)).set (own_ix ww n) (own_key ww p5)).set (own_ix p2 n) (own_key p2 p3)).getD (own_ix p2 n) 0) p2)), .val (.int (own_get ((((List.replicate n (-1 : Int64)).set (own_ix ww n) (own_key ww p5)).set (own_ix p2 n) (own_key p2 p3)).getD (own_ix ww n) 0) ww)), .val (.int (own_get ((((List.replicate n (-1 : Int64)).set (own_ix ww n) (own_key ww p5)).set (own_ix p2 n) (own_key p2 p3)).getD (own_ix uu n) 0) uu)), .val (.int bW), .val (.int bU)] [(.int bU), (.int (own_get ((((List.replicate n (-1 : Int64)).set (own_ix ww n) (own_key ww p5)).set (own_ix p2 n) (own_key p2 p3)).getD (own_ix uu n) 0) uu))]))
  refine own_go (fun _ k => XS.icmpNo X37.here hx rfl (hb hby at_197) rfl (teq ((own_law3 uu ww p2 p3 p5 hn1 hn).trans hs41.symm)).2 k) ?_
  show own_R _ _ _ _ (T37.setTop (mkF m 200 #[.val (.int p1), .val (.int p2), .val (.int p3), .val (.int p4), .val (.int p5), .val (.int p6), .val (.int kk), .val (.int ((Int32.ofNat n) - (1 : Int32))), .val (.int ww), .val (.int uu), .val (.ref b31), .val (.int (own_get ((((List.replicate n (-1 : Int64)).set (own_ix ww n) (own_key ww p5)).set (own_ix p2 n) (own_key p2 p3)).getD (own_ix p2 n) 0) p2)), .val (.int (own_get ((((List.replicate n (-1 : Int64)).set (own_ix ww n) (own_key ww p5)).set (own_ix p2 n) (own_key p2 p3)).getD (own_ix ww n) 0) ww)), .val (.int (own_get ((((List.replicate n (-1 : Int64)).set (own_ix ww n) (own_key ww p5)).set (own_ix p2 n) (own_key p2 p3)).getD (own_ix uu n) 0) uu)), .val (.int bW), .val (.int bU)] []))
  refine own_go (fun _ k => XS.iconst X37.here hx rfl (hb hby at_200) k) ?_
  show own_R _ _ _ _ (T37.setTop (mkF m 201 #[.val (.int p1), .val (.int p2), .val (.int p3), .val (.int p4), .val (.int p5), .val (.int p6), .val (.int kk), .val (.int ((Int32.ofNat n) - (1 : Int32))), .val (.int ww), .val (.int uu), .val (.ref b31), .val (.int (own_get ((((List.replicate n (-1 : Int64)).set (own_ix ww n) (own_key ww p5)).set (own_ix p2 n) (own_key p2 p3)).getD (own_ix p2 n) 0) p2)), .val (.int (own_get ((((List.replicate n (-1 : Int64)).set (own_ix ww n) (own_key ww p5)).set (own_ix p2 n) (own_key p2 p3)).getD (own_ix ww n) 0) ww)), .val (.int (own_get ((((List.replicate n (-1 : Int64)).set (own_ix ww n) (own_key ww p5)).set (own_ix p2 n) (own_key p2 p3)).getD (own_ix uu n) 0) uu)), .val (.int bW), .val (.int bU)] [(.int (1 : Int32))]))
  refine own_go (fun _ k => XS.goto X37.here hx rfl (pc0 := 201) (pc' := 205) rfl (hb hby at_201) (by decide) (by decide) k) ?_
  show own_R _ _ _ _ (T37.setTop (mkF m 205 #[.val (.int p1), .val (.int p2), .val (.int p3), .val (.int p4), .val (.int p5), .val (.int p6), .val (.int kk), .val (.int ((Int32.ofNat n) - (1 : Int32))), .val (.int ww), .val (.int uu), .val (.ref b31), .val (.int (own_get ((((List.replicate n (-1 : Int64)).set (own_ix ww n) (own_key ww p5)).set (own_ix p2 n) (own_key p2 p3)).getD (own_ix p2 n) 0) p2)), .val (.int (own_get ((((List.replicate n (-1 : Int64)).set (own_ix ww n) (own_key ww p5)).set (own_ix p2 n) (own_key p2 p3)).getD (own_ix ww n) 0) ww)), .val (.int (own_get ((((List.replicate n (-1 : Int64)).set (own_ix ww n) (own_key ww p5)).set (own_ix p2 n) (own_key p2 p3)).getD (own_ix uu n) 0) uu)), .val (.int bW), .val (.int bU)] [(.int (1 : Int32))]))
  exact own_retN X37 hx (t := .boolean) (by simp) Bd.returns (hb hby at_205) hlk ⟨rfl, NF⟩ (by decide) (by decide)
set_option maxRecDepth 65536 in
set_option maxHeartbeats 40000000 in
theorem comes_1 {Post : Tables → Env → Array Value → State → Outcome → State → Prop} (hpost : ∀ tb e args s v u, (limb_1_1.after args s (.returned v) u = true ∧ limb_1_2.after args s (.returned v) u = true ∧ True) → FrameEnd s (.returned v) u (Jvm.fieldLocs frame_1_writes args s ++ Jvm.arrayLocs frame_1_arrays args s ++ Jvm.staticLocs frame_1_statics s) 16 2176 → Post tb e args s (.returned v) u) :
    ArmFor flags0 classFile x code maxLocals ret World_1 tables_1 room_1 Calls_1 rest_1 Pre_1 Post := by
  intro l hfl _ _ p e ha hc hk s m args below hf hA hF happ hP
  obtain ⟨hcalls, hrest, hpre⟩ := hP
  obtain ⟨-, -, -, hnamed, -, -, -, hat⟩ := (Spec.applies_iff hf).mp happ
  obtain ⟨hg, hn⟩ := and_e (Cond.before_iff.mp (show (Jvm.Cond.and given_1 narrow_1).before args s = true from hpre))
  obtain ⟨g1, g2⟩ := and_e hg
  obtain ⟨g3, g4⟩ := and_e g2
  obtain ⟨g5, g6⟩ := and_e g4
  obtain ⟨g7, g8⟩ := and_e g6
  obtain ⟨g9, g10⟩ := and_e g8
  obtain ⟨g11, g12⟩ := and_e g10
  obtain ⟨w0, w1, w2, w3, w4, w5, rfl⟩ : ∃ w0 w1 w2 w3 w4 w5 : Value, args = #[w0, w1, w2, w3, w4, w5] := by
    have hs : args.size = 6 := by simpa [Cond.value, given_1] using g1
    obtain ⟨L⟩ := args
    match L, hs with
    | [w0, w1, w2, w3, w4, w5], _ => exact ⟨w0, w1, w2, w3, w4, w5, rfl⟩
  have hw := fun d (hd : d ∈ tables_1) => atoms_spec (ws := Jvm.Cond.code x code maxLocals ret :: tables_1) hat d (List.mem_cons_of_mem _ hd)
  have hfit : Fit s := fun {y c} hc i hi => by
    obtain ⟨ha, rfl⟩ := Array.getElem?_eq_some_iff.mp hc
    have q := List.all_eq_true.mp ((Array.all_eq_true_iff_forall_mem.mp hF) _ (Array.getElem_mem ha)) i (List.mem_range.mpr hi)
    simpa [Array.getElem?_eq_getElem hi] using q
  obtain ⟨i0, ei0⟩ := is_v g3
  obtain rfl : w0 = (.int i0) := Option.some.inj ei0
  obtain ⟨i1, ei1⟩ := is_v g5
  obtain rfl : w1 = (.int i1) := Option.some.inj ei1
  obtain ⟨i2, ei2⟩ := is_v g7
  obtain rfl : w2 = (.int i2) := Option.some.inj ei2
  obtain ⟨i3, ei3⟩ := is_v g9
  obtain rfl : w3 = (.int i3) := Option.some.inj ei3
  obtain ⟨i4, ei4⟩ := is_v g11
  obtain rfl : w4 = (.int i4) := Option.some.inj ei4
  obtain ⟨i5, ei5⟩ := is_v g12
  obtain rfl : w5 = (.int i5) := Option.some.inj ei5
  obtain ⟨n, o, h1, h2, h3, _, L, rfl, ⟨rfl, N⟩, hq⟩ := rm0 l s _ hw tables_1 i0 i1 i2 i3 i4 i5 s.heap s.heap.size (Nat.le_refl _) p e ha hc hk s m _ below hf ((Spec.applies_iff_loose hf).mp happ).1 ⟨rfl, State.Warmed39.refl s, rfl⟩ trivial
  refine ⟨n, _, h1, h2, h3, hpost _ _ _ _ _ _ ⟨Cond.after_iff.mpr rfl, Cond.after_iff.mpr (eq_i res_at (Term.int_eval (1)) rfl), trivial⟩ ⟨hq.1, hq.2.1, (hq.2.2.sift fun y hy => Or.inr (N y hy)).mono (by decide) (by decide)⟩⟩
theorem main_1_1 : Claimed_1_1 := comes_1 fun _ _ _ _ _ _ h hF => ⟨h.1, hF⟩
theorem main_1_2 : Claimed_1_2 := comes_1 fun _ _ _ _ _ _ h hF => ⟨h.2.1, hF⟩
end Jvm.Pilot.@@N@@
namespace Jvm.Pilot.@@N@@
open Jvm Jvm.ClassFile Sem Op Lib Jvm.Free Jvm.Stand Jvm.Pilot.@@N@@.Jvm.D
/-! MADE BY PROGRAM (witnessworld.py) out of the Statement's table words and the real class files: 18 classes; the members and pool entries that the words name. The judged class is class 1, her method 1. -/
namespace start1
open Jvm.ClassFile
def u (s : String) : CpInfo := .utf8 (stringToUtf16 s)
/-- a pool by its gaps: so many unusable entries, then the entry; so many at the end -/
def gap : Nat → List CpInfo → List CpInfo
  | 0, r => r
  | n + 1, r => .unusable :: gap n r
def poolList (es : List (Nat × CpInfo)) (last : Nat) : List CpInfo := es.foldr (fun e r => gap e.1 (e.2 :: r)) (gap last [])
def pool (es : List (Nat × CpInfo)) (last : Nat) : Array CpInfo := ⟨poolList es last⟩
def fileOf (pool : Array CpInfo) (this : Nat) (attrs : Array Attribute := #[]) (ms : Array MethodInfo := #[]) (fl : Nat := 33) (sup : Nat := 0) (ifs : Array Nat := #[]) (fds : Array FieldInfo := #[]) : ClassFile where
  minorVersion := 0
  majorVersion := 65
  constantPool := pool
  accessFlags := fl
  thisClass := this
  superClass := sup
  interfaces := ifs
  fields := fds
  methods := ms
  attributes := attrs
def plain (name : String) (sup : Option ClassId) : Class where
  name := name
  kind := .ordinary
  loader := none
  accessFlags := 33
  super := sup
  interfaces := #[]
  cf := none
  fields := #[]
  methods := #[]
  instanceTypes := #[]
  staticTypes := #[]
  resolved := #[]
  callSites := []
  init := .initialized
  statics := none
  mirror := none

def pool0 : Array CpInfo := pool [(5, u "<init>"), (0, u "()V"), (1, .class_ 10), (1, u "java/lang/Object")] 113

def k0c0 : Code := { maxStack := 0, maxLocals := 1, code := object_method_1_code, exceptionTable := #[], attributes := #[] }
def k0m0 : Method := { name := "<init>", desc := "()V", sig := { parameters := [], returnType := none }, accessFlags := 1, code := some k0c0 }
/-- java/lang/Object -/
def k0 : Class := { plain "java/lang/Object" none with
  accessFlags := 33
  interfaces := #[]
  cf := some (fileOf pool0 8 #[] #[{ accessFlags := 1, nameIndex := 5, descriptorIndex := 6, attributes := #[] }] 33 0 #[] #[])
  fields := #[]
  methods := #[k0m0]
  instanceTypes := #[]
  staticTypes := #[]
  resolved := Array.replicate 124 none
  statics := none }

def pool1 : Array CpInfo := pool [(2, .class_ 4), (1, u "java/lang/Object"), (0, u "<init>"), (0, u "()V"), (0, .class_ 8), (0, u "com/example/strict_pattern/strictpattern/regex/WritePlaces"), (0, .methodref 7 10), (0, .nameAndType 5 11), (0, u "(I)V"), (0, .methodref 7 13), (0, .nameAndType 14 15), (0, u "set"), (0, u "(II)V"), (0, .methodref 7 17), (0, .nameAndType 18 19), (0, u "get"), (0, u "(I)I"), (0, .class_ 21), (0, u "com/example/strict_pattern/strictpattern/regex/WritePlacesSetPinLaw"), (2, u "law"), (0, u "(IIIIII)Z")] 3

def k1m0 : Method := { name := "<init>", desc := "()V", sig := { parameters := [], returnType := none }, accessFlags := 2, code := none }
def k1c1 : Code := { maxStack := 4, maxLocals := 16, code := code, exceptionTable := #[], attributes := #[] }
def k1m1 : Method := { name := "law", desc := "(IIIIII)Z", sig := { parameters := [.int, .int, .int, .int, .int, .int], returnType := some .boolean }, accessFlags := 9, code := some k1c1 }
/-- com/example/strict_pattern/strictpattern/regex/WritePlacesSetPinLaw -/
def k1 : Class := { plain "com/example/strict_pattern/strictpattern/regex/WritePlacesSetPinLaw" (some 0) with
  accessFlags := 49
  interfaces := #[]
  cf := some (fileOf pool1 20 #[] #[{ accessFlags := 2, nameIndex := 5, descriptorIndex := 6, attributes := #[] }, { accessFlags := 9, nameIndex := 24, descriptorIndex := 25, attributes := #[] }] 49 2 #[] #[])
  fields := #[]
  methods := #[k1m0, k1m1]
  instanceTypes := #[]
  staticTypes := #[]
  resolved := Array.replicate 29 none
  statics := none }

def pool2 : Array CpInfo := pool [(1, .methodref 2 3), (0, .class_ 4), (0, .nameAndType 5 6), (0, u "java/lang/Object"), (0, u "<init>"), (0, u "()V"), (0, .methodref 8 9), (0, .class_ 10), (0, .nameAndType 11 12), (0, u "java/lang/Math"), (0, u "max"), (0, u "(II)I"), (0, .methodref 14 15), (0, .class_ 16), (0, .nameAndType 17 18), (0, u "java/lang/Integer"), (0, u "highestOneBit"), (0, u "(I)I"), (0, .class_ 20), (0, u "com/example/strict_pattern/strictpattern/regex/WritePlaces"), (0, .methodref 8 22), (0, .nameAndType 23 12), (0, u "min"), (0, .fieldref 19 25), (0, .nameAndType 26 27), (0, u "slots"), (0, u "[J"), (0, .fieldref 19 29), (0, .nameAndType 30 31), (0, u "mask"), (0, u "I"), (0, .long 18446744073709551615), (1, .methodref 35 36), (0, .class_ 37), (0, .nameAndType 38 39), (0, u "java/util/Arrays"), (0, u "fill"), (0, u "([JJ)V"), (0, .long 4294967295), (1, u "MAX_SLOTS"), (2, u "EMPTY"), (0, u "J"), (0, u "(I)V"), (2, u "get"), (1, u "set"), (0, u "(II)V")] 2

def k2c0 : Code := { maxStack := 3, maxLocals := 3, code := prog_61_method_1_code, exceptionTable := #[], attributes := #[] }
def k2m0 : Method := { name := "<init>", desc := "(I)V", sig := { parameters := [.int], returnType := none }, accessFlags := 0, code := some k2c0 }
def k2c1 : Code := { maxStack := 3, maxLocals := 4, code := prog_61_method_2_code, exceptionTable := #[], attributes := #[] }
def k2m1 : Method := { name := "get", desc := "(I)I", sig := { parameters := [.int], returnType := some .int }, accessFlags := 0, code := some k2c1 }
def k2c2 : Code := { maxStack := 8, maxLocals := 3, code := prog_61_method_3_code, exceptionTable := #[], attributes := #[] }
def k2m2 : Method := { name := "set", desc := "(II)V", sig := { parameters := [.int, .int], returnType := none }, accessFlags := 0, code := some k2c2 }
/-- com/example/strict_pattern/strictpattern/regex/WritePlaces -/
def k2 : Class := { plain "com/example/strict_pattern/strictpattern/regex/WritePlaces" (some 0) with
  accessFlags := 32
  interfaces := #[]
  cf := some (fileOf pool2 19 #[] #[{ accessFlags := 0, nameIndex := 5, descriptorIndex := 47, attributes := #[] }, { accessFlags := 0, nameIndex := 50, descriptorIndex := 18, attributes := #[] }, { accessFlags := 0, nameIndex := 52, descriptorIndex := 53, attributes := #[] }] 32 2 #[] #[{ accessFlags := 26, nameIndex := 42, descriptorIndex := 31, attributes := #[] }, { accessFlags := 26, nameIndex := 45, descriptorIndex := 46, attributes := #[] }, { accessFlags := 18, nameIndex := 26, descriptorIndex := 27, attributes := #[] }, { accessFlags := 18, nameIndex := 30, descriptorIndex := 31, attributes := #[] }])
  fields := #[{ name := "MAX_SLOTS", type := .int, accessFlags := 26, slot := 0, constantValue := 0 }, { name := "EMPTY", type := .long, accessFlags := 26, slot := 1, constantValue := 0 }, { name := "slots", type := (.array .long), accessFlags := 18, slot := 0, constantValue := 0 }, { name := "mask", type := .int, accessFlags := 18, slot := 1, constantValue := 0 }]
  methods := #[k2m0, k2m1, k2m2]
  instanceTypes := #[(.array .long), .int]
  staticTypes := #[.int, .long]
  resolved := Array.replicate 56 none
  statics := none }

def pool3 : Array CpInfo := pool [(1, .class_ 2), (0, u "java/lang/Math"), (1, .class_ 6), (1, u "java/lang/Object"), (0, u "<init>"), (0, u "()V"), (89, .class_ 100), (1, u "java/lang/Math$RandomNumberGeneratorHolder"), (71, u "negativeZeroFloatBits"), (0, u "J"), (2, u "negativeZeroDoubleBits"), (21, u "max"), (2, u "min"), (43, u "$assertionsDisabled"), (0, u "Z"), (88, u "(II)I"), (2, u "twoToTheDoubleScaleDown"), (0, u "D"), (4, u "twoToTheDoubleScaleUp"), (9, u "E"), (3, u "PI"), (2, u "TAU"), (2, u "DEGREES_TO_RADIANS"), (0, u "RADIANS_TO_DEGREES")] 94

def k3m0 : Method := { name := "<init>", desc := "()V", sig := { parameters := [], returnType := none }, accessFlags := 2, code := none }
def k3c1 : Code := { maxStack := 2, maxLocals := 2, code := jdk_29_method_65_code, exceptionTable := #[], attributes := #[] }
def k3m1 : Method := { name := "max", desc := "(II)I", sig := { parameters := [.int, .int], returnType := some .int }, accessFlags := 9, code := some k3c1 }
def k3c2 : Code := { maxStack := 2, maxLocals := 2, code := jdk_29_method_69_code, exceptionTable := #[], attributes := #[] }
def k3m2 : Method := { name := "min", desc := "(II)I", sig := { parameters := [.int, .int], returnType := some .int }, accessFlags := 9, code := some k3c2 }
/-- java/lang/Math -/
def k3 : Class := { plain "java/lang/Math" (some 0) with
  accessFlags := 49
  interfaces := #[]
  cf := some (fileOf pool3 1 #[.nestMembers #[98]] #[{ accessFlags := 2, nameIndex := 7, descriptorIndex := 8, attributes := #[] }, { accessFlags := 9, nameIndex := 198, descriptorIndex := 335, attributes := #[] }, { accessFlags := 9, nameIndex := 201, descriptorIndex := 335, attributes := #[] }] 49 4 #[] #[{ accessFlags := 25, nameIndex := 354, descriptorIndex := 339, attributes := #[] }, { accessFlags := 25, nameIndex := 358, descriptorIndex := 339, attributes := #[] }, { accessFlags := 25, nameIndex := 361, descriptorIndex := 339, attributes := #[] }, { accessFlags := 26, nameIndex := 364, descriptorIndex := 339, attributes := #[] }, { accessFlags := 26, nameIndex := 365, descriptorIndex := 339, attributes := #[] }, { accessFlags := 26, nameIndex := 172, descriptorIndex := 173, attributes := #[] }, { accessFlags := 26, nameIndex := 176, descriptorIndex := 173, attributes := #[] }, { accessFlags := 8, nameIndex := 344, descriptorIndex := 339, attributes := #[] }, { accessFlags := 8, nameIndex := 338, descriptorIndex := 339, attributes := #[] }, { accessFlags := 4120, nameIndex := 245, descriptorIndex := 246, attributes := #[] }])
  fields := #[{ name := "E", type := .double, accessFlags := 25, slot := 0, constantValue := 0 }, { name := "PI", type := .double, accessFlags := 25, slot := 1, constantValue := 0 }, { name := "TAU", type := .double, accessFlags := 25, slot := 2, constantValue := 0 }, { name := "DEGREES_TO_RADIANS", type := .double, accessFlags := 26, slot := 3, constantValue := 0 }, { name := "RADIANS_TO_DEGREES", type := .double, accessFlags := 26, slot := 4, constantValue := 0 }, { name := "negativeZeroFloatBits", type := .long, accessFlags := 26, slot := 5, constantValue := 0 }, { name := "negativeZeroDoubleBits", type := .long, accessFlags := 26, slot := 6, constantValue := 0 }, { name := "twoToTheDoubleScaleUp", type := .double, accessFlags := 8, slot := 7, constantValue := 0 }, { name := "twoToTheDoubleScaleDown", type := .double, accessFlags := 8, slot := 8, constantValue := 0 }, { name := "$assertionsDisabled", type := .boolean, accessFlags := 4120, slot := 9, constantValue := 0 }]
  methods := #[k3m0, k3m1, k3m2]
  instanceTypes := #[]
  staticTypes := #[.double, .double, .double, .double, .double, .long, .long, .double, .double, .boolean]
  resolved := Array.replicate 460 none
  statics := none }

def pool4 : Array CpInfo := pool [(1, .class_ 2), (0, u "java/io/Serializable"), (0, .class_ 4), (0, u "java/lang/Object")] 2

/-- java/io/Serializable -/
def k4 : Class := { plain "java/io/Serializable" (some 0) with
  accessFlags := 1537
  interfaces := #[]
  cf := some (fileOf pool4 1 #[] #[] 1537 3 #[] #[])
  fields := #[]
  methods := #[]
  instanceTypes := #[]
  staticTypes := #[]
  resolved := Array.replicate 7 none
  statics := none }

def pool5 : Array CpInfo := pool [(2, .class_ 4), (1, u "java/lang/Object"), (0, u "<init>"), (0, u "()V"), (1, .class_ 10), (1, u "java/lang/Number"), (2, .class_ 14), (0, u "java/io/Serializable"), (0, u "serialVersionUID"), (0, u "J")] 20

def k5m0 : Method := { name := "<init>", desc := "()V", sig := { parameters := [], returnType := none }, accessFlags := 1, code := none }
/-- java/lang/Number -/
def k5 : Class := { plain "java/lang/Number" (some 0) with
  accessFlags := 1057
  interfaces := #[4]
  cf := some (fileOf pool5 8 #[] #[{ accessFlags := 1, nameIndex := 5, descriptorIndex := 6, attributes := #[] }] 1057 2 #[13] #[{ accessFlags := 26, nameIndex := 15, descriptorIndex := 16, attributes := #[] }])
  fields := #[{ name := "serialVersionUID", type := .long, accessFlags := 26, slot := 0, constantValue := 0 }]
  methods := #[k5m0]
  instanceTypes := #[]
  staticTypes := #[.long]
  resolved := Array.replicate 37 none
  statics := none }

def pool6 : Array CpInfo := pool [(1, .class_ 2), (0, u "java/lang/Comparable"), (0, .class_ 4), (0, u "java/lang/Object")] 7

/-- java/lang/Comparable -/
def k6 : Class := { plain "java/lang/Comparable" (some 0) with
  accessFlags := 1537
  interfaces := #[]
  cf := some (fileOf pool6 1 #[] #[] 1537 3 #[] #[])
  fields := #[]
  methods := #[]
  instanceTypes := #[]
  staticTypes := #[]
  resolved := Array.replicate 12 none
  statics := none }

def pool7 : Array CpInfo := pool [(1, .class_ 2), (0, u "java/lang/constant/Constable"), (0, .class_ 4), (0, u "java/lang/Object")] 6

/-- java/lang/constant/Constable -/
def k7 : Class := { plain "java/lang/constant/Constable" (some 0) with
  accessFlags := 1537
  interfaces := #[]
  cf := some (fileOf pool7 1 #[] #[] 1537 3 #[] #[])
  fields := #[]
  methods := #[]
  instanceTypes := #[]
  staticTypes := #[]
  resolved := Array.replicate 11 none
  statics := none }

def pool8 : Array CpInfo := pool [(1, .class_ 2), (0, u "java/lang/constant/ConstantDesc"), (0, .class_ 4), (0, u "java/lang/Object")] 32

/-- java/lang/constant/ConstantDesc -/
def k8 : Class := { plain "java/lang/constant/ConstantDesc" (some 0) with
  accessFlags := 1537
  interfaces := #[]
  cf := some (fileOf pool8 1 #[] #[] 1537 3 #[] #[])
  fields := #[]
  methods := #[]
  instanceTypes := #[]
  staticTypes := #[]
  resolved := Array.replicate 37 none
  statics := none }

def pool9 : Array CpInfo := pool [(1, .class_ 2), (0, u "java/lang/Integer"), (16, u "digits"), (0, u "[C"), (30, .methodref 1 52), (0, .nameAndType 53 54), (0, u "numberOfLeadingZeros"), (0, u "(I)I"), (30, u "DigitOnes"), (0, u "[B"), (2, u "DigitTens"), (37, .integer 2147483648), (61, .class_ 190), (0, u "java/lang/Integer$IntegerCache"), (3, u "I"), (8, .class_ 204), (0, u "java/lang/Number"), (2, u "value"), (56, .integer 65536), (37, u "TYPE"), (0, u "Ljava/lang/Class;"), (0, .class_ 305), (0, u "java/lang/Comparable"), (0, .class_ 307), (0, u "java/lang/constant/Constable"), (0, .class_ 309), (0, u "java/lang/constant/ConstantDesc"), (0, u "MIN_VALUE"), (1, u "MAX_VALUE"), (3, u "SIZE"), (1, u "BYTES"), (1, u "serialVersionUID"), (0, u "J"), (81, u "highestOneBit")] 49

def k9c0 : Code := { maxStack := 3, maxLocals := 1, code := jdk_33_method_45_code, exceptionTable := #[], attributes := #[] }
def k9m0 : Method := { name := "highestOneBit", desc := "(I)I", sig := { parameters := [.int], returnType := some .int }, accessFlags := 9, code := some k9c0 }
def k9c1 : Code := { maxStack := 3, maxLocals := 2, code := jdk_33_method_47_code, exceptionTable := #[], attributes := #[] }
def k9m1 : Method := { name := "numberOfLeadingZeros", desc := "(I)I", sig := { parameters := [.int], returnType := some .int }, accessFlags := 9, code := some k9c1 }
/-- java/lang/Integer -/
def k9 : Class := { plain "java/lang/Integer" (some 5) with
  accessFlags := 49
  interfaces := #[6, 7, 8]
  cf := some (fileOf pool9 1 #[.nestMembers #[189]] #[{ accessFlags := 9, nameIndex := 403, descriptorIndex := 54, attributes := #[] }, { accessFlags := 9, nameIndex := 53, descriptorIndex := 54, attributes := #[] }] 49 203 #[304, 306, 308] #[{ accessFlags := 25, nameIndex := 310, descriptorIndex := 194, attributes := #[] }, { accessFlags := 25, nameIndex := 312, descriptorIndex := 194, attributes := #[] }, { accessFlags := 25, nameIndex := 302, descriptorIndex := 303, attributes := #[] }, { accessFlags := 24, nameIndex := 19, descriptorIndex := 20, attributes := #[] }, { accessFlags := 24, nameIndex := 89, descriptorIndex := 86, attributes := #[] }, { accessFlags := 24, nameIndex := 85, descriptorIndex := 86, attributes := #[] }, { accessFlags := 18, nameIndex := 207, descriptorIndex := 194, attributes := #[] }, { accessFlags := 25, nameIndex := 316, descriptorIndex := 194, attributes := #[] }, { accessFlags := 25, nameIndex := 318, descriptorIndex := 194, attributes := #[] }, { accessFlags := 26, nameIndex := 320, descriptorIndex := 321, attributes := #[] }])
  fields := #[{ name := "MIN_VALUE", type := .int, accessFlags := 25, slot := 0, constantValue := 0 }, { name := "MAX_VALUE", type := .int, accessFlags := 25, slot := 1, constantValue := 0 }, { name := "TYPE", type := (.object "java/lang/Class"), accessFlags := 25, slot := 2, constantValue := 0 }, { name := "digits", type := (.array .char), accessFlags := 24, slot := 3, constantValue := 0 }, { name := "DigitTens", type := (.array .byte), accessFlags := 24, slot := 4, constantValue := 0 }, { name := "DigitOnes", type := (.array .byte), accessFlags := 24, slot := 5, constantValue := 0 }, { name := "value", type := .int, accessFlags := 18, slot := 0, constantValue := 0 }, { name := "SIZE", type := .int, accessFlags := 25, slot := 6, constantValue := 0 }, { name := "BYTES", type := .int, accessFlags := 25, slot := 7, constantValue := 0 }, { name := "serialVersionUID", type := .long, accessFlags := 26, slot := 8, constantValue := 0 }]
  methods := #[k9m0, k9m1]
  instanceTypes := #[.int]
  staticTypes := #[.int, .int, (.object "java/lang/Class"), (.array .char), (.array .byte), (.array .byte), .int, .int, .long]
  resolved := Array.replicate 453 none
  statics := none }

def pool10 : Array CpInfo := pool [(2, .class_ 4), (1, u "java/lang/Object"), (0, u "<init>"), (0, u "()V"), (7, .class_ 16), (1, u "java/util/Arrays"), (57, .class_ 76), (1, u "java/util/Arrays$NaturalOrder"), (36, .class_ 115), (1, u "java/util/Arrays$LegacyMergeSort"), (1, u "Z"), (257, .class_ 376), (0, u "java/util/Arrays$ArrayList"), (68, u "$assertionsDisabled"), (269, u "MIN_ARRAY_SORT_GRAN"), (0, u "I"), (2, u "INSERTIONSORT_THRESHOLD"), (120, u "fill"), (0, u "([JJ)V"), (133, .class_ 976), (0, u "java/util/Arrays$ArrayItr")] 52

def k10m0 : Method := { name := "<init>", desc := "()V", sig := { parameters := [], returnType := none }, accessFlags := 2, code := none }
def k10c1 : Code := { maxStack := 4, maxLocals := 5, code := jdk_65_method_101_code, exceptionTable := #[], attributes := #[] }
def k10m1 : Method := { name := "fill", desc := "([JJ)V", sig := { parameters := [(.array .long), .long], returnType := none }, accessFlags := 9, code := some k10c1 }
/-- java/util/Arrays -/
def k10 : Class := { plain "java/util/Arrays" (some 0) with
  accessFlags := 49
  interfaces := #[]
  cf := some (fileOf pool10 14 #[.nestMembers #[975, 375, 113, 74]] #[{ accessFlags := 2, nameIndex := 5, descriptorIndex := 6, attributes := #[] }, { accessFlags := 9, nameIndex := 840, descriptorIndex := 841, attributes := #[] }] 49 2 #[] #[{ accessFlags := 26, nameIndex := 715, descriptorIndex := 716, attributes := #[] }, { accessFlags := 26, nameIndex := 719, descriptorIndex := 716, attributes := #[] }, { accessFlags := 4120, nameIndex := 445, descriptorIndex := 117, attributes := #[] }])
  fields := #[{ name := "MIN_ARRAY_SORT_GRAN", type := .int, accessFlags := 26, slot := 0, constantValue := 0 }, { name := "INSERTIONSORT_THRESHOLD", type := .int, accessFlags := 26, slot := 1, constantValue := 0 }, { name := "$assertionsDisabled", type := .boolean, accessFlags := 4120, slot := 2, constantValue := 0 }]
  methods := #[k10m0, k10m1]
  instanceTypes := #[]
  staticTypes := #[.int, .int, .boolean]
  resolved := Array.replicate 1029 none
  statics := none }

def pool11 : Array CpInfo := pool [(1, u "java/lang/Cloneable"), (0, .class_ 1), (0, u "java/lang/Object"), (0, .class_ 3)] 3

/-- java/lang/Cloneable -/
def k11 : Class := { plain "java/lang/Cloneable" (some 0) with
  accessFlags := 1537
  interfaces := #[]
  cf := some (fileOf pool11 2 #[] #[] 1537 4 #[] #[])
  fields := #[]
  methods := #[]
  instanceTypes := #[]
  staticTypes := #[]
  resolved := Array.replicate 8 none
  statics := none }

/-- the primitive byte -/
def k12 : Class := { plain "byte" none with kind := .primitive 'B', accessFlags := 0x411 }
/-- [B -/
def k13 : Class := { plain "[B" (some 0) with kind := .array 12 .byte, interfaces := #[11, 4], accessFlags := 1041 }

/-- the primitive int -/
def k14 : Class := { plain "int" none with kind := .primitive 'I', accessFlags := 0x411 }
/-- [I -/
def k15 : Class := { plain "[I" (some 0) with kind := .array 14 .int, interfaces := #[11, 4], accessFlags := 1041 }

/-- the primitive long -/
def k16 : Class := { plain "long" none with kind := .primitive 'J', accessFlags := 0x411 }
/-- [J -/
def k17 : Class := { plain "[J" (some 0) with kind := .array 16 .long, interfaces := #[11, 4], accessFlags := 1041 }

def heap : Heap := #[]
def classes : Array Class := #[k0, k1, k2, k3, k4, k5, k6, k7, k8, k9, k10, k11, k12, k13, k14, k15, k16, k17]
def interned : List (Array UInt16 × Addr) := []
def slotsUsed : Nat := 0
def theMethod : MethodId := ⟨1, 1⟩
def args0 : Array Value := #[.int 5, .int 5, .int 5, .int 5, .int 5, .int 5]
def aboutOver (below : List Frame) : State where
  vm := { classes := classes, interned := interned.toArray }
  heap := heap
  slotsUsed := slotsUsed
  threads := #[{ frames := .invoking theMethod args0 :: below }]
def below0 : List Frame := [.native { method := ⟨0, 0⟩, args := #[] }]
def about1 : State := aboutOver below0
def p0 : Program := .bare "" "" ""
def e0 : Env := launch0.env 0 0 0
theorem w_frames : about1.frames = Frame.invoking theMethod args0 :: below0 := rfl
set_option maxRecDepth 65536 in
theorem w_args : argsFit about1.vm theMethod args0 = true := by decide +kernel
set_option maxRecDepth 65536 in
theorem w_heap : heapFits about1 = true := by decide +kernel
set_option maxRecDepth 65536 in
theorem w_runnable : about1.curStatus? = some .runnable := by decide +kernel
set_option maxRecDepth 65536 in
theorem w_alone : about1.alone = true := by decide +kernel
set_option maxRecDepth 65536 in
theorem w_named : about1.methodNamed? x = some theMethod := by decide +kernel
set_option maxRecDepth 65536 in
theorem w_hears : about1.hears theMethod below0 = true := by decide +kernel
set_option maxRecDepth 65536 in
theorem w_ripe : about1.ripe theMethod args0 below0 = true := by decide +kernel
theorem w_running : about1.status = .running := rfl
set_option maxRecDepth 65536 in
theorem w_room : about1.hasRoom e0.platform room_1 = true :=
  launch0.hasRoom_least _ room_1 (by decide +kernel) (by decide +kernel) (by decide +kernel) (by decide +kernel) (by decide +kernel) (by decide +kernel)
theorem allAtoms_all (ts : List Jvm.Cond) (a : Array Jvm.Value) (st : Jvm.State) : (allAtoms ts).before a st = ts.all (fun c => c.before a st) := by
  induction ts with
  | nil => rfl
  | cons c t ih =>
    show (Jvm.Cond.and c (allAtoms t)).before a st = _
    rw [Jvm.Cond.before_and, ih, List.all_cons]
def words1 : List Jvm.Cond := Jvm.Cond.code x code maxLocals ret :: tables_1
/-- a 'code' word, met by the world's own term for the bytes: nothing is compared byte by byte -/
theorem code_word {y : MethodName} {bytes : ByteArray} {mx : Nat} {rt : Option FieldType} {a : Array Value} {s : State} {m : MethodId} {meth : Method} {c : Code} (h1 : s.methodNamed? y = some m) (h2 : s.vm.method? m = some meth) (h3 : meth.code = some c) (h4 : c.code = bytes)
    (h5 : (c.maxLocals == mx && c.exceptionTable.isEmpty && decide (c.maxStack ≤ mostOperands) && decide (meth.sig.returnType = rt) && !meth.locks && decide (parseMethodDescriptor y.desc = some meth.sig)) = true) : (Jvm.Cond.code y bytes mx rt).before a s = true := by
  simp only [Bool.and_eq_true, beq_iff_eq, Bool.not_eq_true', decide_eq_true_eq] at h5
  obtain ⟨⟨⟨⟨⟨g1, g2⟩, g3⟩, g4⟩, g5⟩, g6⟩ := h5
  simp [Cond.before, Cond.holds, Cond.value, h1, h2, h3, h4, g1, g2, g3, g4, g5, g6]
def isCode : Jvm.Cond → Bool
  | .code _ _ _ _ => true
  | _ => false
theorem all_split {L : List Jvm.Cond} {P : Jvm.Cond → Bool} (h1 : L.all (fun c => isCode c || P c) = true) (h2 : ∀ c ∈ L.filter isCode, P c = true) : L.all P = true := by
  refine List.all_eq_true.mpr fun c hc => ?_
  have h := List.all_eq_true.mp h1 c hc
  rcases Bool.eq_false_or_eq_true (isCode c) with hi | hi
  · exact h2 c (List.mem_filter.mpr ⟨hc, hi⟩)
  · simpa [hi] using h
set_option maxRecDepth 65536 in
theorem w_c0 : (Jvm.Cond.code x code maxLocals ret).before args0 about1 = true := code_word (m := ⟨1, 1⟩) (meth := k1m1) (c := k1c1) (by decide +kernel) rfl rfl rfl (by decide +kernel)
set_option maxRecDepth 65536 in
theorem w_c1 : (Jvm.Cond.code ({ cls := "com/example/strict_pattern/strictpattern/regex/WritePlaces", name := "<init>", desc := "(I)V" } : Jvm.MethodName) prog_61_method_1_code (3 : Nat) (Option.none : Option Jvm.ClassFile.FieldType)).before args0 about1 = true := code_word (m := ⟨2, 0⟩) (meth := k2m0) (c := k2c0) (by decide +kernel) rfl rfl rfl (by decide +kernel)
set_option maxRecDepth 65536 in
theorem w_c2 : (Jvm.Cond.code ({ cls := "java/lang/Object", name := "<init>", desc := "()V" } : Jvm.MethodName) object_method_1_code (1 : Nat) (Option.none : Option Jvm.ClassFile.FieldType)).before args0 about1 = true := code_word (m := ⟨0, 0⟩) (meth := k0m0) (c := k0c0) (by decide +kernel) rfl rfl rfl (by decide +kernel)
set_option maxRecDepth 65536 in
theorem w_c3 : (Jvm.Cond.code ({ cls := "java/lang/Math", name := "max", desc := "(II)I" } : Jvm.MethodName) jdk_29_method_65_code (2 : Nat) (Option.some Jvm.ClassFile.FieldType.int)).before args0 about1 = true := code_word (m := ⟨3, 1⟩) (meth := k3m1) (c := k3c1) (by decide +kernel) rfl rfl rfl (by decide +kernel)
set_option maxRecDepth 65536 in
theorem w_c4 : (Jvm.Cond.code ({ cls := "java/lang/Integer", name := "highestOneBit", desc := "(I)I" } : Jvm.MethodName) jdk_33_method_45_code (1 : Nat) (Option.some Jvm.ClassFile.FieldType.int)).before args0 about1 = true := code_word (m := ⟨9, 0⟩) (meth := k9m0) (c := k9c0) (by decide +kernel) rfl rfl rfl (by decide +kernel)
set_option maxRecDepth 65536 in
theorem w_c5 : (Jvm.Cond.code ({ cls := "java/lang/Integer", name := "numberOfLeadingZeros", desc := "(I)I" } : Jvm.MethodName) jdk_33_method_47_code (2 : Nat) (Option.some Jvm.ClassFile.FieldType.int)).before args0 about1 = true := code_word (m := ⟨9, 1⟩) (meth := k9m1) (c := k9c1) (by decide +kernel) rfl rfl rfl (by decide +kernel)
set_option maxRecDepth 65536 in
theorem w_c6 : (Jvm.Cond.code ({ cls := "java/lang/Math", name := "min", desc := "(II)I" } : Jvm.MethodName) jdk_29_method_69_code (2 : Nat) (Option.some Jvm.ClassFile.FieldType.int)).before args0 about1 = true := code_word (m := ⟨3, 2⟩) (meth := k3m2) (c := k3c2) (by decide +kernel) rfl rfl rfl (by decide +kernel)
set_option maxRecDepth 65536 in
theorem w_c7 : (Jvm.Cond.code ({ cls := "java/util/Arrays", name := "fill", desc := "([JJ)V" } : Jvm.MethodName) jdk_65_method_101_code (5 : Nat) (Option.none : Option Jvm.ClassFile.FieldType)).before args0 about1 = true := code_word (m := ⟨10, 1⟩) (meth := k10m1) (c := k10c1) (by decide +kernel) rfl rfl rfl (by decide +kernel)
set_option maxRecDepth 65536 in
theorem w_c8 : (Jvm.Cond.code ({ cls := "com/example/strict_pattern/strictpattern/regex/WritePlaces", name := "set", desc := "(II)V" } : Jvm.MethodName) prog_61_method_3_code (3 : Nat) (Option.none : Option Jvm.ClassFile.FieldType)).before args0 about1 = true := code_word (m := ⟨2, 2⟩) (meth := k2m2) (c := k2c2) (by decide +kernel) rfl rfl rfl (by decide +kernel)
set_option maxRecDepth 65536 in
theorem w_c9 : (Jvm.Cond.code ({ cls := "com/example/strict_pattern/strictpattern/regex/WritePlaces", name := "get", desc := "(I)I" } : Jvm.MethodName) prog_61_method_2_code (4 : Nat) (Option.some Jvm.ClassFile.FieldType.int)).before args0 about1 = true := code_word (m := ⟨2, 1⟩) (meth := k2m1) (c := k2c1) (by decide +kernel) rfl rfl rfl (by decide +kernel)
def codes1 : List Jvm.Cond := [Jvm.Cond.code x code maxLocals ret, Jvm.Cond.code ({ cls := "com/example/strict_pattern/strictpattern/regex/WritePlaces", name := "<init>", desc := "(I)V" } : Jvm.MethodName) prog_61_method_1_code (3 : Nat) (Option.none : Option Jvm.ClassFile.FieldType), Jvm.Cond.code ({ cls := "java/lang/Object", name := "<init>", desc := "()V" } : Jvm.MethodName) object_method_1_code (1 : Nat) (Option.none : Option Jvm.ClassFile.FieldType), Jvm.Cond.code ({ cls := "java/lang/Math", name := "max", desc := "(II)I" } : Jvm.MethodName) jdk_29_method_65_code (2 : Nat) (Option.some Jvm.ClassFile.FieldType.int), Jvm.Cond.code ({ cls := "java/lang/Integer", name := "highestOneBit", desc := "(I)I" } : Jvm.MethodName) jdk_33_method_45_code (1 : Nat) (Option.some Jvm.ClassFile.FieldType.int), Jvm.Cond.code ({ cls := "java/lang/Integer", name := "numberOfLeadingZeros", desc := "(I)I" } : Jvm.MethodName) jdk_33_method_47_code (2 : Nat) (Option.some Jvm.ClassFile.FieldType.int), Jvm.Cond.code ({ cls := "java/lang/Math", name := "min", desc := "(II)I" } : Jvm.MethodName) jdk_29_method_69_code (2 : Nat) (Option.some Jvm.ClassFile.FieldType.int), Jvm.Cond.code ({ cls := "java/util/Arrays", name := "fill", desc := "([JJ)V" } : Jvm.MethodName) jdk_65_method_101_code (5 : Nat) (Option.none : Option Jvm.ClassFile.FieldType), Jvm.Cond.code ({ cls := "com/example/strict_pattern/strictpattern/regex/WritePlaces", name := "set", desc := "(II)V" } : Jvm.MethodName) prog_61_method_3_code (3 : Nat) (Option.none : Option Jvm.ClassFile.FieldType), Jvm.Cond.code ({ cls := "com/example/strict_pattern/strictpattern/regex/WritePlaces", name := "get", desc := "(I)I" } : Jvm.MethodName) prog_61_method_2_code (4 : Nat) (Option.some Jvm.ClassFile.FieldType.int)]
set_option maxRecDepth 65536 in
theorem codes_eq : words1.filter isCode = codes1 := rfl
theorem w_codes : ∀ c ∈ words1.filter isCode, c.before args0 about1 = true := by
  rw [codes_eq]
  intro c hc
  simp only [codes1, List.mem_cons, List.not_mem_nil, or_false] at hc
  rcases hc with rfl | rfl | rfl | rfl | rfl | rfl | rfl | rfl | rfl | rfl
  · exact w_c0
  · exact w_c1
  · exact w_c2
  · exact w_c3
  · exact w_c4
  · exact w_c5
  · exact w_c6
  · exact w_c7
  · exact w_c8
  · exact w_c9
set_option maxRecDepth 65536 in
theorem w_t1 : (words1.take 24).all (fun c => isCode c || c.before args0 about1) = true := by decide +kernel
set_option maxRecDepth 65536 in
theorem w_t2 : (words1.drop 24).all (fun c => isCode c || c.before args0 about1) = true := by decide +kernel
theorem w_tables : (allAtoms (Jvm.Cond.code x code maxLocals ret :: tables_1)).before args0 about1 = true := by
  rw [allAtoms_all]
  show words1.all (fun c => c.before args0 about1) = true
  refine all_split ?_ w_codes
  rw [← List.take_append_drop 24 words1, List.all_append, w_t1, w_t2]
  rfl
set_option maxRecDepth 65536 in
theorem w_case : (Jvm.Cond.and given_1 narrow_1).before args0 about1 = true := by decide +kernel
theorem w_applies : (headSpec (Jvm.Cond.code x code maxLocals ret :: tables_1) room_1).applies x e0.platform about1 = true :=
  (Spec.applies_iff w_frames).mpr ⟨w_running, w_runnable, w_alone, w_named, w_hears, w_ripe, w_room, w_tables⟩
theorem atStart : AtStart classFile x code maxLocals ret World_1 tables_1 room_1 Calls_1 rest_1 Pre_1 launch0 p0 e0 about1 theMethod args0 below0 :=
  ⟨lists_1, trivial, launch0.admits_env _ _ _, launch0.least_env, fairChoices_fair.cas, fairChoices_fair.clock, w_frames, w_args, w_heap, w_applies, trivial, trivial, w_case⟩
end start1
theorem witness_1 : WitnessClaimed_1 := ⟨start1.p0, start1.e0, start1.about1, start1.theMethod, start1.args0, start1.below0, start1.atStart⟩
end Jvm.Pilot.@@N@@
