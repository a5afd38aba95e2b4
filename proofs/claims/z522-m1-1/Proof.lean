import JvmDerived
import JvmDerived.Pilot.@@N@@Statement
import JvmDerived.Pilot.@@N@@Code
set_option linter.unusedVariables false
set_option linter.unusedSimpArgs false
namespace Jvm.RoadKit
open Sem ClassFile Op Lib Jvm.Stand Jvm.Free Jvm.LawKit
/-- from T the run comes to a state of which Φ holds -/
def own_R (tb : Tables) (e : Env) (below : List Frame) (Φ : State → Prop) (T : State) : Prop := ∃ T', Φ T' ∧ ∀ t, Steps tb e below T' t → Steps tb e below T t
theorem own_leaf {tb : Tables} {e : Env} {below : List Frame} {Φ : State → Prop} {T : State} (h : Φ T) : own_R tb e below Φ T := ⟨T, h, fun _ k => k⟩
theorem own_go {tb : Tables} {e : Env} {below : List Frame} {Φ : State → Prop} {T T1 : State} (h : ∀ t, Steps tb e below T1 t → Steps tb e below T t) (g : own_R tb e below Φ T1) : own_R tb e below Φ T := by
  obtain ⟨T', h1, h2⟩ := g
  exact ⟨T', h1, fun t k => h t (h2 t k)⟩
theorem own_to {tb : Tables} {e : Env} {below : List Frame} {Φ Ψ : State → Prop} {T : State} (h : own_R tb e below Φ T) (g : ∀ U, Φ U → own_R tb e below Ψ U) : own_R tb e below Ψ T := by
  obtain ⟨T', h1, h2⟩ := h
  exact own_go h2 (g T' h1)
/-- the call has come to its end: what it returns and leaves -/
def own_F (below : List Frame) (s : State) (Q : Option Value → Heap → List Loc → Prop) (rc rs : Nat) (U : State) : Prop := U.status = .running ∧ ∃ v L, Ended U below (.returned v) ∧ Q v U.heap L ∧ FrameEnd s (.returned v) U L rc rs
theorem own_fin {tb : Tables} {e : Env} {below : List Frame} {s : State} {Q : Option Value → Heap → List Loc → Prop} {rc rs : Nat} {T : State} (h : own_R tb e below (own_F below s Q rc rs) T) :
    ∃ s₂ o, Steps tb e below T s₂ ∧ s₂.status = .running ∧ Ended s₂ below o ∧ ∃ v L, o = .returned v ∧ Q v s₂.heap L ∧ FrameEnd s o s₂ L rc rs := by
  obtain ⟨T', ⟨h1, v, L, h2, h3, h4⟩, h5⟩ := h
  exact ⟨T', .returned v, h5 _ (Steps.refl _), h1, h2, v, L, rfl, h3, h4⟩
section New
variable {p : Program} {l : Launch} {e : Env} {R : Room} {s : State} {m : MethodId} {args : Array Value} {below : List Frame} {meth : Method} {c : Code} {T : State} {locs : List Loc} {cells slots : Nat}
theorem retI (X : Stand p l e R s m args below meth c T locs cells slots) (hx : p.tables.exec = Jvm.exec) {pc : Nat} {Ls : Array Slot} {z : Int32} {rest : List Value} (hret : meth.sig.returnType = some .int) (hd : decode c.code pc = .ok (.ireturn, 1)) {fs : List Frame}
    (hl : ∀ (f : JFrame) (acts : List Action), f.method = m → f.locked = none → f.entered = [] → (doReturn e (T.setTop f) acts (some (.int z))).1 = T.setFrames fs) : Steps p.tables e below (T.setTop (mkF m pc Ls (.int z :: rest))) (T.setFrames fs) := by
  have hm' : T.vm.method? m = some meth := X.method'
  have hn : narrow .int (.int z) = .int z := rfl
  show Steps p.tables e below (T.setTop { method := m, pc := pc, locals := Ls, stack := _ :: rest, locked := none }) _
  jvm_step X.here [X.here.top, hx, hd, hm', hret, hn]
  first | (intro acts; rw [hl _ acts rfl rfl rfl]) | rw [hl _ _ rfl rfl rfl]
  exact Steps.refl _
variable {Q : Option Value → Heap → List Loc → Prop} {rc rs : Nat}
theorem own_end (X : Stand p l e R s m args below meth c T locs cells slots) (hlk : meth.locks = false) {v : Option Value} (hv : meth.sig.returnType = none → v = none) (hQ : Q v T.heap locs) (hc : cells ≤ rc) (hs : slots ≤ rs) {g : JFrame}
    (hst : ∀ fs, (∀ (f : JFrame) (acts : List Action), f.method = m → f.locked = none → f.entered = [] → (doReturn e (T.setTop f) acts v).1 = T.setFrames fs) → Steps p.tables e below (T.setTop g) (T.setFrames fs)) : own_R p.tables e below (own_F below s Q rc rs) (T.setTop g) := by
  obtain ⟨fs, hr, hrun, hended, hW, hsame⟩ := X.leave hv hlk
  exact ⟨T.setFrames fs, ⟨hrun, v, locs, hended, hQ, ⟨_, rfl⟩, hW, hsame.mono hc hs⟩, fun t k => (hst fs hr).trans k⟩
theorem own_ret0 (X : Stand p l e R s m args below meth c T locs cells slots) (hx : p.tables.exec = Jvm.exec) {pc : Nat} {Ls : Array Slot} (hret : meth.sig.returnType = none) (hd : decode c.code pc = .ok (.return_, 1)) (hlk : meth.locks = false) (hQ : Q none T.heap locs) (hc : cells ≤ rc) (hs : slots ≤ rs) :
    own_R p.tables e below (own_F below s Q rc rs) (T.setTop (mkF m pc Ls [])) := own_end X hlk (fun _ => rfl) hQ hc hs fun _ hr => X.returnOut hx hret hd hr
theorem own_retI (X : Stand p l e R s m args below meth c T locs cells slots) (hx : p.tables.exec = Jvm.exec) {pc : Nat} {Ls : Array Slot} {z : Int32} {rest : List Value} (hret : meth.sig.returnType = some .int) (hd : decode c.code pc = .ok (.ireturn, 1)) (hlk : meth.locks = false) (hQ : Q (some (.int z)) T.heap locs) (hc : cells ≤ rc) (hs : slots ≤ rs) :
    own_R p.tables e below (own_F below s Q rc rs) (T.setTop (mkF m pc Ls (.int z :: rest))) := own_end X hlk (fun h => by rw [hret] at h; cases h) hQ hc hs fun _ hr => retI X hx hret hd hr
theorem own_retN (X : Stand p l e R s m args below meth c T locs cells slots) (hx : p.tables.exec = Jvm.exec) {t : FieldType} (ht : t = .boolean ∨ t = .byte ∨ t = .char ∨ t = .short) {pc : Nat} {Ls : Array Slot} {z : Int32} {rest : List Value} (hret : meth.sig.returnType = some t) (hd : decode c.code pc = .ok (.ireturn, 1)) (hlk : meth.locks = false) (hQ : Q (some (.int (nar t z))) T.heap locs) (hc : cells ≤ rc) (hs : slots ≤ rs) :
    own_R p.tables e below (own_F below s Q rc rs) (T.setTop (mkF m pc Ls (.int z :: rest))) := own_end X hlk (fun h => by rw [hret] at h; cases h) hQ hc hs fun _ hr => retN X hx hret ht hd hr
theorem own_retL (X : Stand p l e R s m args below meth c T locs cells slots) (hx : p.tables.exec = Jvm.exec) {pc : Nat} {Ls : Array Slot} {z : Int64} {rest : List Value} (hret : meth.sig.returnType = some .long) (hd : decode c.code pc = .ok (.lreturn, 1)) (hlk : meth.locks = false) (hQ : Q (some (.long z)) T.heap locs) (hc : cells ≤ rc) (hs : slots ≤ rs) :
    own_R p.tables e below (own_F below s Q rc rs) (T.setTop (mkF m pc Ls (.long z :: rest))) := own_end X hlk (fun h => by rw [hret] at h; cases h) hQ hc hs fun _ hr => retOut X hx hret rfl (Or.inr (Or.inl ⟨rfl, rfl, z, rfl⟩)) hd hr
theorem own_retA (X : Stand p l e R s m args below meth c T locs cells slots) (hx : p.tables.exec = Jvm.exec) {t : FieldType} {pc : Nat} {Ls : Array Slot} {w : Value} {rest : List Value} (ht : t.isReference = true) (hw : w.isRef = true) (hret : meth.sig.returnType = some t) (hd : decode c.code pc = .ok (.areturn, 1)) (hlk : meth.locks = false) (hQ : Q (some w) T.heap locs) (hc : cells ≤ rc) (hs : slots ≤ rs) :
    own_R p.tables e below (own_F below s Q rc rs) (T.setTop (mkF m pc Ls (w :: rest))) := own_end X hlk (fun h => by rw [hret] at h; cases h) hQ hc hs fun _ hr => retOut X hx hret (by cases t <;> first | rfl | cases ht) (Or.inr (Or.inr (Or.inr (Or.inr ⟨rfl, ht, hw⟩)))) hd hr
variable {Z : State} {h : Heap} {a : Addr} {k : ClassId} {n : Int32} {vs : List Value} {dv : Value}
theorem own_len (X : Stand p l e R s m args below meth c T locs cells slots) (hx : p.tables.exec = Jvm.exec) (hZ : Z.Warmed39 s.vm) (eT : T.heap = h) {ty : FieldType} (V : Arv Z h a k ty n vs dv) {g : JFrame} (hg : g.method = m) {rest : List Value} (hs : g.stack = .ref a :: rest) (hd : decode c.code g.pc = .ok (.arraylength, 1)) :
    ∀ target, Steps p.tables e below (T.setTop { g with pc := g.pc + 1, stack := .int n :: rest }) target → Steps p.tables e below (T.setTop g) target := by
  obtain ⟨cl, A, -, S, N, -, -⟩ := V
  intro t kt
  refine X.arraylength hx (by rw [eT]; exact A.1) (State.isArrayOf_alike hZ.alike A.2.1) hg hs hd t ?_
  rw [len_of S N]; exact kt
theorem own_ldI (X : Stand p l e R s m args below meth c T locs cells slots) (hx : p.tables.exec = Jvm.exec) (hZ : Z.Warmed39 s.vm) (eT : T.heap = h) (V : Arv Z h a k .int n vs dv) {j : Int32} {i : Nat} (hj : ¬ j < 0 ∧ j < n) (hi : j.toNatClampNeg = i) {v : Value} (hv : vs.getD i dv = v) {g : JFrame} (hg : g.method = m) {rest : List Value} (hs : g.stack = .int j :: .ref a :: rest) (hd : decode c.code g.pc = .ok (.iaload, 1)) :
    ∀ target, Steps p.tables e below (T.setTop { g with pc := g.pc + 1, stack := v :: rest }) target → Steps p.tables e below (T.setTop g) target := by
  obtain ⟨cl, A, -, S, N, H, -⟩ := V
  subst hi
  intro t kt
  exact X.iaload hx (by rw [eT]; exact A.1) (State.isArrayOf_alike hZ.alike A.2.1) A.2.2 (inb_of S hj) (H.at (inb_of S hj) hv) hg hs hd t kt
theorem own_ldJ (X : Stand p l e R s m args below meth c T locs cells slots) (hx : p.tables.exec = Jvm.exec) (hZ : Z.Warmed39 s.vm) (eT : T.heap = h) (V : Arv Z h a k .long n vs dv) {j : Int32} {i : Nat} (hj : ¬ j < 0 ∧ j < n) (hi : j.toNatClampNeg = i) {v : Value} (hv : vs.getD i dv = v) {g : JFrame} (hg : g.method = m) {rest : List Value} (hs : g.stack = .int j :: .ref a :: rest) (hd : decode c.code g.pc = .ok (.laload, 1)) :
    ∀ target, Steps p.tables e below (T.setTop { g with pc := g.pc + 1, stack := v :: rest }) target → Steps p.tables e below (T.setTop g) target := by
  obtain ⟨cl, A, -, S, N, H, -⟩ := V
  subst hi
  intro t kt
  exact X.laload hx (by rw [eT]; exact A.1) (State.isArrayOf_alike hZ.alike A.2.1) A.2.2 (inb_of S hj) (H.at (inb_of S hj) hv) hg hs hd t kt
theorem own_ldB (X : Stand p l e R s m args below meth c T locs cells slots) (hx : p.tables.exec = Jvm.exec) (hZ : Z.Warmed39 s.vm) (eT : T.heap = h) (V : Arv Z h a k .byte n vs dv) {j : Int32} {i : Nat} (hj : ¬ j < 0 ∧ j < n) (hi : j.toNatClampNeg = i) {v : Value} (hv : vs.getD i dv = v) {g : JFrame} (hg : g.method = m) {rest : List Value} (hs : g.stack = .int j :: .ref a :: rest) (hd : decode c.code g.pc = .ok (.baload, 1)) :
    ∀ target, Steps p.tables e below (T.setTop { g with pc := g.pc + 1, stack := v :: rest }) target → Steps p.tables e below (T.setTop g) target := by
  obtain ⟨cl, A, -, S, N, H, -⟩ := V
  subst hi
  intro t kt
  exact X.baloadBytes hx (by rw [eT]; exact A.1) (State.isArrayOf_alike hZ.alike A.2.1) A.2.2 (inb_of S hj) (H.at (inb_of S hj) hv) hg hs hd t kt
theorem own_stI (X : Stand p l e R s m args below meth c T locs cells slots) (hx : p.tables.exec = Jvm.exec) (hZ : Z.Warmed39 s.vm) (eT : T.heap = h) (V : Arv Z h a k .int n vs dv) {j : Int32} {i : Nat} (hj : ¬ j < 0 ∧ j < n) (hi : j.toNatClampNeg = i) (hlen : i < vs.length) {x : Int32} {w : Value} (hw : w = .int x) {g : JFrame} (hg : g.method = m) {rest : List Value} (hs : g.stack = .int x :: .int j :: .ref a :: rest) (hd : decode c.code g.pc = .ok (.iastore, 1)) :
    ∃ T' h' sl, Stand p l e R s m args below meth c T' (locs ++ [⟨a, sl⟩]) cells slots ∧ T'.heap = h' ∧ Wr h h' a sl w ∧ Arv Z h' a k .int n (vs.set i w) dv ∧ ∀ target, Steps p.tables e below (T'.setTop { g with pc := g.pc + 1, stack := rest }) target → Steps p.tables e below (T.setTop g) target := by
  obtain ⟨cl, A, q1, S, N, H, G⟩ := V
  subst hw
  obtain ⟨T', h', X', e', W', st⟩ := stI X hx hZ eT A (j := j) (inb_of S hj) hg hs hd
  exact ⟨T', h', _, X', e', W', Arv.set A q1 S N H G rfl W' i hi hlen, st⟩
theorem own_stJ (X : Stand p l e R s m args below meth c T locs cells slots) (hx : p.tables.exec = Jvm.exec) (hZ : Z.Warmed39 s.vm) (eT : T.heap = h) (V : Arv Z h a k .long n vs dv) {j : Int32} {i : Nat} (hj : ¬ j < 0 ∧ j < n) (hi : j.toNatClampNeg = i) (hlen : i < vs.length) {x : Int64} {w : Value} (hw : w = .long x) {g : JFrame} (hg : g.method = m) {rest : List Value} (hs : g.stack = .long x :: .int j :: .ref a :: rest) (hd : decode c.code g.pc = .ok (.lastore, 1)) :
    ∃ T' h' sl, Stand p l e R s m args below meth c T' (locs ++ [⟨a, sl⟩]) cells slots ∧ T'.heap = h' ∧ Wr h h' a sl w ∧ Arv Z h' a k .long n (vs.set i w) dv ∧ ∀ target, Steps p.tables e below (T'.setTop { g with pc := g.pc + 1, stack := rest }) target → Steps p.tables e below (T.setTop g) target := by
  obtain ⟨cl, A, q1, S, N, H, G⟩ := V
  subst hw
  obtain ⟨T', h', X', e', W', st⟩ := stJ X hx hZ eT A (j := j) (inb_of S hj) hg hs hd
  exact ⟨T', h', _, X', e', W', Arv.set A q1 S N H G rfl W' i hi hlen, st⟩
end New
end Jvm.RoadKit
namespace Jvm.Pilot.@@N@@
open Jvm Jvm.ClassFile Sem Op Lib Jvm.Free Jvm.Stand Jvm.LawKit Jvm.RoadKit Bundle Jvm.Pilot.@@N@@.Jvm.D
theorem pd_0 : parseMethodDescriptor "(I)Z" = some ⟨[.int], some .boolean⟩ := by decide +kernel

def own_pl (p : Int32) : Int32 := if (¬ p < 97 ∧ ¬ 122 < p) ∨ (¬ p < 65 ∧ ¬ 90 < p) ∨ (¬ p < 48 ∧ ¬ 57 < p) ∨ p = 95 ∨ p = 46 ∨ p = 58 ∨ p = 64 ∨ p = 35 ∨ p = 45 then 1 else 0
def own_lo (p : Int32) : Int32 := lcmpW ((((576284864802717696 : Int64).toUInt64 >>> (p &&& 0x3f).toInt64.toUInt64).toInt64) &&& 1) 0
def own_hi (p : Int32) : Int32 := lcmpW ((((576460745995190271 : Int64).toUInt64 >>> ((p - 64) &&& 0x3f).toInt64.toUInt64).toInt64) &&& 1) 0
def own_ref (p : Int32) : Int32 := if p < 0 ∨ 127 < p then 0 else if p < 64 then (if own_lo p = 0 then 0 else 1) else (if own_hi p = 0 then 0 else 1)
theorem own_small : ∀ i : Fin 128, own_pl (Int32.ofNat i.val) = own_ref (Int32.ofNat i.val) := by decide +kernel
theorem own_law (c : Int32) : own_pl c = own_ref c := by
  by_cases h0 : c < 0
  · have e : ∀ k : Int32, ¬ k < 0 → c < k := fun k hk => by
      rw [Int32.lt_iff_toInt_lt] at *; have : (0 : Int32).toInt = 0 := rfl; omega
    have d : ∀ k : Int32, ¬ k < 0 → ¬ c = k := fun k hk q => by subst q; exact hk h0
    rw [own_ref, if_pos (Or.inl h0), own_pl, if_neg]
    simp [e 97 (by decide), e 65 (by decide), e 48 (by decide), d 95 (by decide), d 46 (by decide), d 58 (by decide), d 64 (by decide), d 35 (by decide), d 45 (by decide)]
  · by_cases h1 : 127 < c
    · have e : ∀ k : Int32, ¬ 127 < k → k < c := fun k hk => by
        rw [Int32.lt_iff_toInt_lt] at *; omega
      have d : ∀ k : Int32, ¬ 127 < k → ¬ c = k := fun k hk q => by subst q; exact hk h1
      rw [own_ref, if_pos (Or.inr h1), own_pl, if_neg]
      simp [e 122 (by decide), e 90 (by decide), e 57 (by decide), d 95 (by decide), d 46 (by decide), d 58 (by decide), d 64 (by decide), d 35 (by decide), d 45 (by decide)]
    · rw [Int32.lt_iff_toInt_lt] at h0 h1
      have z0 : (0 : Int32).toInt = 0 := rfl
      have z1 : (127 : Int32).toInt = 127 := rfl
      have e : c = Int32.ofNat c.toInt.toNat := by
        apply Int32.toInt_inj.mp
        rw [Int32.toInt_ofNat_of_lt (by omega)]; omega
      have q := own_small ⟨c.toInt.toNat, by omega⟩
      simp only [← e] at q
      exact q
theorem d1_0 : decode prog_47_method_6_code 0 = .ok (.iload_n 0, 1) := by decide +kernel
theorem d1_1 : decode prog_47_method_6_code 1 = .ok (.bipush 97, 2) := by decide +kernel
theorem d1_3 : decode prog_47_method_6_code 3 = .ok (.if_icmp .lt 9, 3) := by decide +kernel
theorem d1_6 : decode prog_47_method_6_code 6 = .ok (.iload_n 0, 1) := by decide +kernel
theorem d1_7 : decode prog_47_method_6_code 7 = .ok (.bipush 122, 2) := by decide +kernel
theorem d1_9 : decode prog_47_method_6_code 9 = .ok (.if_icmp .le 63, 3) := by decide +kernel
theorem d1_12 : decode prog_47_method_6_code 12 = .ok (.iload_n 0, 1) := by decide +kernel
theorem d1_13 : decode prog_47_method_6_code 13 = .ok (.bipush 65, 2) := by decide +kernel
theorem d1_15 : decode prog_47_method_6_code 15 = .ok (.if_icmp .lt 9, 3) := by decide +kernel
theorem d1_18 : decode prog_47_method_6_code 18 = .ok (.iload_n 0, 1) := by decide +kernel
theorem d1_19 : decode prog_47_method_6_code 19 = .ok (.bipush 90, 2) := by decide +kernel
theorem d1_21 : decode prog_47_method_6_code 21 = .ok (.if_icmp .le 51, 3) := by decide +kernel
theorem d1_24 : decode prog_47_method_6_code 24 = .ok (.iload_n 0, 1) := by decide +kernel
theorem d1_25 : decode prog_47_method_6_code 25 = .ok (.bipush 48, 2) := by decide +kernel
theorem d1_27 : decode prog_47_method_6_code 27 = .ok (.if_icmp .lt 9, 3) := by decide +kernel
theorem d1_30 : decode prog_47_method_6_code 30 = .ok (.iload_n 0, 1) := by decide +kernel
theorem d1_31 : decode prog_47_method_6_code 31 = .ok (.bipush 57, 2) := by decide +kernel
theorem d1_33 : decode prog_47_method_6_code 33 = .ok (.if_icmp .le 39, 3) := by decide +kernel
theorem d1_36 : decode prog_47_method_6_code 36 = .ok (.iload_n 0, 1) := by decide +kernel
theorem d1_37 : decode prog_47_method_6_code 37 = .ok (.bipush 95, 2) := by decide +kernel
theorem d1_39 : decode prog_47_method_6_code 39 = .ok (.if_icmp .eq 33, 3) := by decide +kernel
theorem d1_42 : decode prog_47_method_6_code 42 = .ok (.iload_n 0, 1) := by decide +kernel
theorem d1_43 : decode prog_47_method_6_code 43 = .ok (.bipush 46, 2) := by decide +kernel
theorem d1_45 : decode prog_47_method_6_code 45 = .ok (.if_icmp .eq 27, 3) := by decide +kernel
theorem d1_48 : decode prog_47_method_6_code 48 = .ok (.iload_n 0, 1) := by decide +kernel
theorem d1_49 : decode prog_47_method_6_code 49 = .ok (.bipush 58, 2) := by decide +kernel
theorem d1_51 : decode prog_47_method_6_code 51 = .ok (.if_icmp .eq 21, 3) := by decide +kernel
theorem d1_54 : decode prog_47_method_6_code 54 = .ok (.iload_n 0, 1) := by decide +kernel
theorem d1_55 : decode prog_47_method_6_code 55 = .ok (.bipush 64, 2) := by decide +kernel
theorem d1_57 : decode prog_47_method_6_code 57 = .ok (.if_icmp .eq 15, 3) := by decide +kernel
theorem d1_60 : decode prog_47_method_6_code 60 = .ok (.iload_n 0, 1) := by decide +kernel
theorem d1_61 : decode prog_47_method_6_code 61 = .ok (.bipush 35, 2) := by decide +kernel
theorem d1_63 : decode prog_47_method_6_code 63 = .ok (.if_icmp .eq 9, 3) := by decide +kernel
theorem d1_66 : decode prog_47_method_6_code 66 = .ok (.iload_n 0, 1) := by decide +kernel
theorem d1_67 : decode prog_47_method_6_code 67 = .ok (.bipush 45, 2) := by decide +kernel
theorem d1_69 : decode prog_47_method_6_code 69 = .ok (.if_icmp .ne 7, 3) := by decide +kernel
theorem d1_72 : decode prog_47_method_6_code 72 = .ok (.iconst 1, 1) := by decide +kernel
theorem d1_73 : decode prog_47_method_6_code 73 = .ok (.goto 4, 3) := by decide +kernel
theorem d1_76 : decode prog_47_method_6_code 76 = .ok (.iconst 0, 1) := by decide +kernel
theorem d1_77 : decode prog_47_method_6_code 77 = .ok (.ireturn, 1) := by decide +kernel
theorem pn_1 : plainName "com/example/parametree/parametree/Lexer" = true := by first | (simp [plainName, overriddenIn]; done) | decide +kernel
theorem ef_1 (m : MethodId) (x0 : Int32) : entryFrame m #[(.int x0)] 1 = mkF m 0 #[.val (.int x0)] [] := by first | (simp [entryFrame, mkF, argsToLocals, Value.category]; done) | rfl
def Q1 (Z : State) (p1 : Int32) (h0 : Heap) (n0 : Nat) (v : Option Value) (h : Heap) (L : List Loc) : Prop := v = some (.int (own_pl p1)) ∧ Fr n0 L ∧ h = h0
set_option maxRecDepth 65536 in
set_option maxHeartbeats 40000000 in
theorem rm1 (l : Launch) (Z : State) (a0 : Array Value) (hw : ∀ d ∈ tables_1, d.before a0 Z = true) (ws : List Jvm.Cond) (p1 : Int32) (h0 : Heap) (n0 : Nat) (ZS : n0 ≤ h0.size) :
    MetFree l (⟨"com/example/parametree/parametree/Lexer", "isPlainChar", "(I)Z"⟩ : MethodName) (head1 (Jvm.Cond.code (⟨"com/example/parametree/parametree/Lexer", "isPlainChar", "(I)Z"⟩ : MethodName) prog_47_method_6_code 1 (some .boolean) :: ws) ({ frames := 0, cells := 0, slots := 0, locals := 0 } : Room)) (fun a U => a = #[(.int p1)] ∧ Z.Warmed39 U.vm ∧ U.heap = h0) (fun _ _ _ _ _ => True) (fun _ U o U' => ∃ v L, o = .returned v ∧ Q1 Z p1 h0 n0 v U'.heap L ∧ FrameEnd U o U' L ({ frames := 0, cells := 0, slots := 0, locals := 0 } : Room).cells ({ frames := 0, cells := 0, slots := 0, locals := 0 } : Room).slots) := by
  refine MetFree.of_bodySF (plainFor_of_name pn_1) hisR ?_
  intro p e s m args below meth c s₁ Bd hml0 hP hK
  obtain ⟨rfl, hZ, hh⟩ := hP
  have hx := Bd.exec
  have hby := Bd.bytes
  have hml : c.maxLocals = 1 := hml0
  have hown : s.vm.findClass "com/example/parametree/parametree/Lexer" = some m.cls := findClass_of_methodNamed Bd.named
  have hnm := (name_of_methodNamed Bd.named Bd.method).1
  have hlk : meth.locks = false := Bd.notSynchronized
  have X0 : Stand p l e ({ frames := 0, cells := 0, slots := 0, locals := 0 } : Room) s m #[(.int p1)] below meth c s₁ [] 0 0 := Stand.of_body Bd
  have e0 : s₁.heap = h0 := by rw [← hh, Bd.state]; rfl
  have NF := Fr.nil n0
  have KP : Keep h0 h0 [] := Keep.refl _ _
  refine own_fin (s := s) (Q := Q1 Z p1 h0 n0) (rc := ({ frames := 0, cells := 0, slots := 0, locals := 0 } : Room).cells) (rs := ({ frames := 0, cells := 0, slots := 0, locals := 0 } : Room).slots) ?_
  refine own_go (fun t k => castTop (ef_1 m p1) k) ?_
  show own_R _ _ _ _ (s₁.setTop (mkF m 0 #[.val (.int p1)] []))
  refine own_go (fun _ k => XS.iloadN X0.here hx rfl (hb hby d1_0) rfl k) ?_
  show own_R _ _ _ _ (s₁.setTop (mkF m 1 #[.val (.int p1)] [(.int p1)]))
  refine own_go (fun _ k => XS.bipush X0.here hx rfl (hb hby d1_1) k) ?_
  show own_R _ _ _ _ (s₁.setTop (mkF m 3 #[.val (.int p1)] [(.int (97 : Int32)), (.int p1)]))
  by_cases hc1 : p1 < (97 : Int32)
  · refine own_go (fun _ k => XS.icmpYes X0.here hx rfl (pc0 := 3) (pc' := 12) rfl (hb hby d1_3) rfl (tlt hc1).1 (by decide) (by decide) k) ?_
    show own_R _ _ _ _ (s₁.setTop (mkF m 12 #[.val (.int p1)] []))
    refine own_go (fun _ k => XS.iloadN X0.here hx rfl (hb hby d1_12) rfl k) ?_
    show own_R _ _ _ _ (s₁.setTop (mkF m 13 #[.val (.int p1)] [(.int p1)]))
    refine own_go (fun _ k => XS.bipush X0.here hx rfl (hb hby d1_13) k) ?_
    show own_R _ _ _ _ (s₁.setTop (mkF m 15 #[.val (.int p1)] [(.int (65 : Int32)), (.int p1)]))
    by_cases hc2 : p1 < (65 : Int32)
    · refine own_go (fun _ k => XS.icmpYes X0.here hx rfl (pc0 := 15) (pc' := 24) rfl (hb hby d1_15) rfl (tlt hc2).1 (by decide) (by decide) k) ?_
      show own_R _ _ _ _ (s₁.setTop (mkF m 24 #[.val (.int p1)] []))
      refine own_go (fun _ k => XS.iloadN X0.here hx rfl (hb hby d1_24) rfl k) ?_
      show own_R _ _ _ _ (s₁.setTop (mkF m 25 #[.val (.int p1)] [(.int p1)]))
      refine own_go (fun _ k => XS.bipush X0.here hx rfl (hb hby d1_25) k) ?_
      show own_R _ _ _ _ (s₁.setTop (mkF m 27 #[.val (.int p1)] [(.int (48 : Int32)), (.int p1)]))
      by_cases hc3 : p1 < (48 : Int32)
      · refine own_go (fun _ k => XS.icmpYes X0.here hx rfl (pc0 := 27) (pc' := 36) rfl (hb hby d1_27) rfl (tlt hc3).1 (by decide) (by decide) k) ?_
        show own_R _ _ _ _ (s₁.setTop (mkF m 36 #[.val (.int p1)] []))
        refine own_go (fun _ k => XS.iloadN X0.here hx rfl (hb hby d1_36) rfl k) ?_
        show own_R _ _ _ _ (s₁.setTop (mkF m 37 #[.val (.int p1)] [(.int p1)]))
        refine own_go (fun _ k => XS.bipush X0.here hx rfl (hb hby d1_37) k) ?_
        show own_R _ _ _ _ (s₁.setTop (mkF m 39 #[.val (.int p1)] [(.int (95 : Int32)), (.int p1)]))
        by_cases hc4 : p1 = (95 : Int32)
        · refine own_go (fun _ k => XS.icmpYes X0.here hx rfl (pc0 := 39) (pc' := 72) rfl (hb hby d1_39) rfl (teq hc4).1 (by decide) (by decide) k) ?_
          show own_R _ _ _ _ (s₁.setTop (mkF m 72 #[.val (.int p1)] []))
          refine own_go (fun _ k => XS.iconst X0.here hx rfl (hb hby d1_72) k) ?_
          show own_R _ _ _ _ (s₁.setTop (mkF m 73 #[.val (.int p1)] [(.int (1 : Int32))]))
          refine own_go (fun _ k => XS.goto X0.here hx rfl (pc0 := 73) (pc' := 77) rfl (hb hby d1_73) (by decide) (by decide) k) ?_
          show own_R _ _ _ _ (s₁.setTop (mkF m 77 #[.val (.int p1)] [(.int (1 : Int32))]))
          exact own_retN X0 hx (t := .boolean) (by simp) Bd.returns (hb hby d1_77) hlk ⟨by rw [show own_pl p1 = (1 : Int32) from by simp [own_pl, hc1, hc2, hc3, hc4]]; rfl, NF, e0⟩ (by decide) (by decide)
        · refine own_go (fun _ k => XS.icmpNo X0.here hx rfl (hb hby d1_39) rfl (feq hc4).1 k) ?_
          show own_R _ _ _ _ (s₁.setTop (mkF m 42 #[.val (.int p1)] []))
          refine own_go (fun _ k => XS.iloadN X0.here hx rfl (hb hby d1_42) rfl k) ?_
          show own_R _ _ _ _ (s₁.setTop (mkF m 43 #[.val (.int p1)] [(.int p1)]))
          refine own_go (fun _ k => XS.bipush X0.here hx rfl (hb hby d1_43) k) ?_
          show own_R _ _ _ _ (s₁.setTop (mkF m 45 #[.val (.int p1)] [(.int (46 : Int32)), (.int p1)]))
          by_cases hc5 : p1 = (46 : Int32)
          · refine own_go (fun _ k => XS.icmpYes X0.here hx rfl (pc0 := 45) (pc' := 72) rfl (hb hby d1_45) rfl (teq hc5).1 (by decide) (by decide) k) ?_
            show own_R _ _ _ _ (s₁.setTop (mkF m 72 #[.val (.int p1)] []))
            refine own_go (fun _ k => XS.iconst X0.here hx rfl (hb hby d1_72) k) ?_
            show own_R _ _ _ _ (s₁.setTop (mkF m 73 #[.val (.int p1)] [(.int (1 : Int32))]))
            refine own_go (fun _ k => XS.goto X0.here hx rfl (pc0 := 73) (pc' := 77) rfl (hb hby d1_73) (by decide) (by decide) k) ?_
            show own_R _ _ _ _ (s₁.setTop (mkF m 77 #[.val (.int p1)] [(.int (1 : Int32))]))
            exact own_retN X0 hx (t := .boolean) (by simp) Bd.returns (hb hby d1_77) hlk ⟨by rw [show own_pl p1 = (1 : Int32) from by simp [own_pl, hc1, hc2, hc3, hc4, hc5]]; rfl, NF, e0⟩ (by decide) (by decide)
          · refine own_go (fun _ k => XS.icmpNo X0.here hx rfl (hb hby d1_45) rfl (feq hc5).1 k) ?_
            show own_R _ _ _ _ (s₁.setTop (mkF m 48 #[.val (.int p1)] []))
            refine own_go (fun _ k => XS.iloadN X0.here hx rfl (hb hby d1_48) rfl k) ?_
            show own_R _ _ _ _ (s₁.setTop (mkF m 49 #[.val (.int p1)] [(.int p1)]))
            refine own_go (fun _ k => XS.bipush X0.here hx rfl (hb hby d1_49) k) ?_
            show own_R _ _ _ _ (s₁.setTop (mkF m 51 #[.val (.int p1)] [(.int (58 : Int32)), (.int p1)]))
            by_cases hc6 : p1 = (58 : Int32)
            · refine own_go (fun _ k => XS.icmpYes X0.here hx rfl (pc0 := 51) (pc' := 72) rfl (hb hby d1_51) rfl (teq hc6).1 (by decide) (by decide) k) ?_
              show own_R _ _ _ _ (s₁.setTop (mkF m 72 #[.val (.int p1)] []))
              refine own_go (fun _ k => XS.iconst X0.here hx rfl (hb hby d1_72) k) ?_
              show own_R _ _ _ _ (s₁.setTop (mkF m 73 #[.val (.int p1)] [(.int (1 : Int32))]))
              refine own_go (fun _ k => XS.goto X0.here hx rfl (pc0 := 73) (pc' := 77) rfl (hb hby d1_73) (by decide) (by decide) k) ?_
              show own_R _ _ _ _ (s₁.setTop (mkF m 77 #[.val (.int p1)] [(.int (1 : Int32))]))
              exact own_retN X0 hx (t := .boolean) (by simp) Bd.returns (hb hby d1_77) hlk ⟨by rw [show own_pl p1 = (1 : Int32) from by simp [own_pl, hc1, hc2, hc3, hc4, hc5, hc6]]; rfl, NF, e0⟩ (by decide) (by decide)
            · refine own_go (fun _ k => XS.icmpNo X0.here hx rfl (hb hby d1_51) rfl (feq hc6).1 k) ?_
              show own_R _ _ _ _ (s₁.setTop (mkF m 54 #[.val (.int p1)] []))
              refine own_go (fun _ k => XS.iloadN X0.here hx rfl (hb hby d1_54) rfl k) ?_
              show own_R _ _ _ _ (s₁.setTop (mkF m 55 #[.val (.int p1)] [(.int p1)]))
              refine own_go (fun _ k => XS.bipush X0.here hx rfl (hb hby d1_55) k) ?_
              show own_R _ _ _ _ (s₁.setTop (mkF m 57 #[.val (.int p1)] [(.int (64 : Int32)), (.int p1)]))
              by_cases hc7 : p1 = (64 : Int32)
              · refine own_go (fun _ k => XS.icmpYes X0.here hx rfl (pc0 := 57) (pc' := 72) rfl (hb hby d1_57) rfl (teq hc7).1 (by decide) (by decide) k) ?_
                show own_R _ _ _ _ (s₁.setTop (mkF m 72 #[.val (.int p1)] []))
                refine own_go (fun _ k => XS.iconst X0.here hx rfl (hb hby d1_72) k) ?_
                show own_R _ _ _ _ (s₁.setTop (mkF m 73 #[.val (.int p1)] [(.int (1 : Int32))]))
                refine own_go (fun _ k => XS.goto X0.here hx rfl (pc0 := 73) (pc' := 77) rfl (hb hby d1_73) (by decide) (by decide) k) ?_
                show own_R _ _ _ _ (s₁.setTop (mkF m 77 #[.val (.int p1)] [(.int (1 : Int32))]))
                exact own_retN X0 hx (t := .boolean) (by simp) Bd.returns (hb hby d1_77) hlk ⟨by rw [show own_pl p1 = (1 : Int32) from by simp [own_pl, hc1, hc2, hc3, hc4, hc5, hc6, hc7]]; rfl, NF, e0⟩ (by decide) (by decide)
              · refine own_go (fun _ k => XS.icmpNo X0.here hx rfl (hb hby d1_57) rfl (feq hc7).1 k) ?_
                show own_R _ _ _ _ (s₁.setTop (mkF m 60 #[.val (.int p1)] []))
                refine own_go (fun _ k => XS.iloadN X0.here hx rfl (hb hby d1_60) rfl k) ?_
                show own_R _ _ _ _ (s₁.setTop (mkF m 61 #[.val (.int p1)] [(.int p1)]))
                refine own_go (fun _ k => XS.bipush X0.here hx rfl (hb hby d1_61) k) ?_
                show own_R _ _ _ _ (s₁.setTop (mkF m 63 #[.val (.int p1)] [(.int (35 : Int32)), (.int p1)]))
                by_cases hc8 : p1 = (35 : Int32)
                · refine own_go (fun _ k => XS.icmpYes X0.here hx rfl (pc0 := 63) (pc' := 72) rfl (hb hby d1_63) rfl (teq hc8).1 (by decide) (by decide) k) ?_
                  show own_R _ _ _ _ (s₁.setTop (mkF m 72 #[.val (.int p1)] []))
                  refine own_go (fun _ k => XS.iconst X0.here hx rfl (hb hby d1_72) k) ?_
                  show own_R _ _ _ _ (s₁.setTop (mkF m 73 #[.val (.int p1)] [(.int (1 : Int32))]))
                  refine own_go (fun _ k => XS.goto X0.here hx rfl (pc0 := 73) (pc' := 77) rfl (hb hby d1_73) (by decide) (by decide) k) ?_
                  show own_R _ _ _ _ (s₁.setTop (mkF m 77 #[.val (.int p1)] [(.int (1 : Int32))]))
                  exact own_retN X0 hx (t := .boolean) (by simp) Bd.returns (hb hby d1_77) hlk ⟨by rw [show own_pl p1 = (1 : Int32) from by simp [own_pl, hc1, hc2, hc3, hc4, hc5, hc6, hc7, hc8]]; rfl, NF, e0⟩ (by decide) (by decide)
                · refine own_go (fun _ k => XS.icmpNo X0.here hx rfl (hb hby d1_63) rfl (feq hc8).1 k) ?_
                  show own_R _ _ _ _ (s₁.setTop (mkF m 66 #[.val (.int p1)] []))
                  refine own_go (fun _ k => XS.iloadN X0.here hx rfl (hb hby d1_66) rfl k) ?_
                  show own_R _ _ _ _ (s₁.setTop (mkF m 67 #[.val (.int p1)] [(.int p1)]))
                  refine own_go (fun _ k => XS.bipush X0.here hx rfl (hb hby d1_67) k) ?_
                  show own_R _ _ _ _ (s₁.setTop (mkF m 69 #[.val (.int p1)] [(.int (45 : Int32)), (.int p1)]))
                  by_cases hc9 : p1 = (45 : Int32)
                  · refine own_go (fun _ k => XS.icmpNo X0.here hx rfl (hb hby d1_69) rfl (teq hc9).2 k) ?_
                    show own_R _ _ _ _ (s₁.setTop (mkF m 72 #[.val (.int p1)] []))
                    refine own_go (fun _ k => XS.iconst X0.here hx rfl (hb hby d1_72) k) ?_
                    show own_R _ _ _ _ (s₁.setTop (mkF m 73 #[.val (.int p1)] [(.int (1 : Int32))]))
                    refine own_go (fun _ k => XS.goto X0.here hx rfl (pc0 := 73) (pc' := 77) rfl (hb hby d1_73) (by decide) (by decide) k) ?_
                    show own_R _ _ _ _ (s₁.setTop (mkF m 77 #[.val (.int p1)] [(.int (1 : Int32))]))
                    exact own_retN X0 hx (t := .boolean) (by simp) Bd.returns (hb hby d1_77) hlk ⟨by rw [show own_pl p1 = (1 : Int32) from by simp [own_pl, hc1, hc2, hc3, hc4, hc5, hc6, hc7, hc8, hc9]]; rfl, NF, e0⟩ (by decide) (by decide)
                  · refine own_go (fun _ k => XS.icmpYes X0.here hx rfl (pc0 := 69) (pc' := 76) rfl (hb hby d1_69) rfl (feq hc9).2 (by decide) (by decide) k) ?_
                    show own_R _ _ _ _ (s₁.setTop (mkF m 76 #[.val (.int p1)] []))
                    refine own_go (fun _ k => XS.iconst X0.here hx rfl (hb hby d1_76) k) ?_
                    show own_R _ _ _ _ (s₁.setTop (mkF m 77 #[.val (.int p1)] [(.int (0 : Int32))]))
                    exact own_retN X0 hx (t := .boolean) (by simp) Bd.returns (hb hby d1_77) hlk ⟨by rw [show own_pl p1 = (0 : Int32) from by simp [own_pl, hc1, hc2, hc3, hc4, hc5, hc6, hc7, hc8, hc9]]; rfl, NF, e0⟩ (by decide) (by decide)
      · refine own_go (fun _ k => XS.icmpNo X0.here hx rfl (hb hby d1_27) rfl (flt hc3).1 k) ?_
        show own_R _ _ _ _ (s₁.setTop (mkF m 30 #[.val (.int p1)] []))
        refine own_go (fun _ k => XS.iloadN X0.here hx rfl (hb hby d1_30) rfl k) ?_
        show own_R _ _ _ _ (s₁.setTop (mkF m 31 #[.val (.int p1)] [(.int p1)]))
        refine own_go (fun _ k => XS.bipush X0.here hx rfl (hb hby d1_31) k) ?_
        show own_R _ _ _ _ (s₁.setTop (mkF m 33 #[.val (.int p1)] [(.int (57 : Int32)), (.int p1)]))
        by_cases hc10 : (57 : Int32) < p1
        · refine own_go (fun _ k => XS.icmpNo X0.here hx rfl (hb hby d1_33) rfl (tlt hc10).2.2.2 k) ?_
          show own_R _ _ _ _ (s₁.setTop (mkF m 36 #[.val (.int p1)] []))
          refine own_go (fun _ k => XS.iloadN X0.here hx rfl (hb hby d1_36) rfl k) ?_
          show own_R _ _ _ _ (s₁.setTop (mkF m 37 #[.val (.int p1)] [(.int p1)]))
          refine own_go (fun _ k => XS.bipush X0.here hx rfl (hb hby d1_37) k) ?_
          show own_R _ _ _ _ (s₁.setTop (mkF m 39 #[.val (.int p1)] [(.int (95 : Int32)), (.int p1)]))
          by_cases hc11 : p1 = (95 : Int32)
          · refine own_go (fun _ k => XS.icmpYes X0.here hx rfl (pc0 := 39) (pc' := 72) rfl (hb hby d1_39) rfl (teq hc11).1 (by decide) (by decide) k) ?_
            show own_R _ _ _ _ (s₁.setTop (mkF m 72 #[.val (.int p1)] []))
            refine own_go (fun _ k => XS.iconst X0.here hx rfl (hb hby d1_72) k) ?_
            show own_R _ _ _ _ (s₁.setTop (mkF m 73 #[.val (.int p1)] [(.int (1 : Int32))]))
            refine own_go (fun _ k => XS.goto X0.here hx rfl (pc0 := 73) (pc' := 77) rfl (hb hby d1_73) (by decide) (by decide) k) ?_
            show own_R _ _ _ _ (s₁.setTop (mkF m 77 #[.val (.int p1)] [(.int (1 : Int32))]))
            exact own_retN X0 hx (t := .boolean) (by simp) Bd.returns (hb hby d1_77) hlk ⟨by rw [show own_pl p1 = (1 : Int32) from by simp [own_pl, hc1, hc2, hc3, hc10, hc11]]; rfl, NF, e0⟩ (by decide) (by decide)
          · refine own_go (fun _ k => XS.icmpNo X0.here hx rfl (hb hby d1_39) rfl (feq hc11).1 k) ?_
            show own_R _ _ _ _ (s₁.setTop (mkF m 42 #[.val (.int p1)] []))
            refine own_go (fun _ k => XS.iloadN X0.here hx rfl (hb hby d1_42) rfl k) ?_
            show own_R _ _ _ _ (s₁.setTop (mkF m 43 #[.val (.int p1)] [(.int p1)]))
            refine own_go (fun _ k => XS.bipush X0.here hx rfl (hb hby d1_43) k) ?_
            show own_R _ _ _ _ (s₁.setTop (mkF m 45 #[.val (.int p1)] [(.int (46 : Int32)), (.int p1)]))
            by_cases hc12 : p1 = (46 : Int32)
            · refine own_go (fun _ k => XS.icmpYes X0.here hx rfl (pc0 := 45) (pc' := 72) rfl (hb hby d1_45) rfl (teq hc12).1 (by decide) (by decide) k) ?_
              show own_R _ _ _ _ (s₁.setTop (mkF m 72 #[.val (.int p1)] []))
              refine own_go (fun _ k => XS.iconst X0.here hx rfl (hb hby d1_72) k) ?_
              show own_R _ _ _ _ (s₁.setTop (mkF m 73 #[.val (.int p1)] [(.int (1 : Int32))]))
              refine own_go (fun _ k => XS.goto X0.here hx rfl (pc0 := 73) (pc' := 77) rfl (hb hby d1_73) (by decide) (by decide) k) ?_
              show own_R _ _ _ _ (s₁.setTop (mkF m 77 #[.val (.int p1)] [(.int (1 : Int32))]))
              exact own_retN X0 hx (t := .boolean) (by simp) Bd.returns (hb hby d1_77) hlk ⟨by rw [show own_pl p1 = (1 : Int32) from by simp [own_pl, hc1, hc2, hc3, hc10, hc11, hc12]]; rfl, NF, e0⟩ (by decide) (by decide)
            · refine own_go (fun _ k => XS.icmpNo X0.here hx rfl (hb hby d1_45) rfl (feq hc12).1 k) ?_
              show own_R _ _ _ _ (s₁.setTop (mkF m 48 #[.val (.int p1)] []))
              refine own_go (fun _ k => XS.iloadN X0.here hx rfl (hb hby d1_48) rfl k) ?_
              show own_R _ _ _ _ (s₁.setTop (mkF m 49 #[.val (.int p1)] [(.int p1)]))
              refine own_go (fun _ k => XS.bipush X0.here hx rfl (hb hby d1_49) k) ?_
              show own_R _ _ _ _ (s₁.setTop (mkF m 51 #[.val (.int p1)] [(.int (58 : Int32)), (.int p1)]))
              by_cases hc13 : p1 = (58 : Int32)
              · refine own_go (fun _ k => XS.icmpYes X0.here hx rfl (pc0 := 51) (pc' := 72) rfl (hb hby d1_51) rfl (teq hc13).1 (by decide) (by decide) k) ?_
                show own_R _ _ _ _ (s₁.setTop (mkF m 72 #[.val (.int p1)] []))
                refine own_go (fun _ k => XS.iconst X0.here hx rfl (hb hby d1_72) k) ?_
                show own_R _ _ _ _ (s₁.setTop (mkF m 73 #[.val (.int p1)] [(.int (1 : Int32))]))
                refine own_go (fun _ k => XS.goto X0.here hx rfl (pc0 := 73) (pc' := 77) rfl (hb hby d1_73) (by decide) (by decide) k) ?_
                show own_R _ _ _ _ (s₁.setTop (mkF m 77 #[.val (.int p1)] [(.int (1 : Int32))]))
                exact own_retN X0 hx (t := .boolean) (by simp) Bd.returns (hb hby d1_77) hlk ⟨by rw [show own_pl p1 = (1 : Int32) from by simp [own_pl, hc1, hc2, hc3, hc10, hc11, hc12, hc13]]; rfl, NF, e0⟩ (by decide) (by decide)
              · refine own_go (fun _ k => XS.icmpNo X0.here hx rfl (hb hby d1_51) rfl (feq hc13).1 k) ?_
                show own_R _ _ _ _ (s₁.setTop (mkF m 54 #[.val (.int p1)] []))
                refine own_go (fun _ k => XS.iloadN X0.here hx rfl (hb hby d1_54) rfl k) ?_
                show own_R _ _ _ _ (s₁.setTop (mkF m 55 #[.val (.int p1)] [(.int p1)]))
                refine own_go (fun _ k => XS.bipush X0.here hx rfl (hb hby d1_55) k) ?_
                show own_R _ _ _ _ (s₁.setTop (mkF m 57 #[.val (.int p1)] [(.int (64 : Int32)), (.int p1)]))
                by_cases hc14 : p1 = (64 : Int32)
                · refine own_go (fun _ k => XS.icmpYes X0.here hx rfl (pc0 := 57) (pc' := 72) rfl (hb hby d1_57) rfl (teq hc14).1 (by decide) (by decide) k) ?_
                  show own_R _ _ _ _ (s₁.setTop (mkF m 72 #[.val (.int p1)] []))
                  refine own_go (fun _ k => XS.iconst X0.here hx rfl (hb hby d1_72) k) ?_
                  show own_R _ _ _ _ (s₁.setTop (mkF m 73 #[.val (.int p1)] [(.int (1 : Int32))]))
                  refine own_go (fun _ k => XS.goto X0.here hx rfl (pc0 := 73) (pc' := 77) rfl (hb hby d1_73) (by decide) (by decide) k) ?_
                  show own_R _ _ _ _ (s₁.setTop (mkF m 77 #[.val (.int p1)] [(.int (1 : Int32))]))
                  exact own_retN X0 hx (t := .boolean) (by simp) Bd.returns (hb hby d1_77) hlk ⟨by rw [show own_pl p1 = (1 : Int32) from by simp [own_pl, hc1, hc2, hc3, hc10, hc11, hc12, hc13, hc14]]; rfl, NF, e0⟩ (by decide) (by decide)
                · refine own_go (fun _ k => XS.icmpNo X0.here hx rfl (hb hby d1_57) rfl (feq hc14).1 k) ?_
                  show own_R _ _ _ _ (s₁.setTop (mkF m 60 #[.val (.int p1)] []))
                  refine own_go (fun _ k => XS.iloadN X0.here hx rfl (hb hby d1_60) rfl k) ?_
                  show own_R _ _ _ _ (s₁.setTop (mkF m 61 #[.val (.int p1)] [(.int p1)]))
                  refine own_go (fun _ k => XS.bipush X0.here hx rfl (hb hby d1_61) k) ?_
                  show own_R _ _ _ _ (s₁.setTop (mkF m 63 #[.val (.int p1)] [(.int (35 : Int32)), (.int p1)]))
                  by_cases hc15 : p1 = (35 : Int32)
                  · refine own_go (fun _ k => XS.icmpYes X0.here hx rfl (pc0 := 63) (pc' := 72) rfl (hb hby d1_63) rfl (teq hc15).1 (by decide) (by decide) k) ?_
                    show own_R _ _ _ _ (s₁.setTop (mkF m 72 #[.val (.int p1)] []))
                    refine own_go (fun _ k => XS.iconst X0.here hx rfl (hb hby d1_72) k) ?_
                    show own_R _ _ _ _ (s₁.setTop (mkF m 73 #[.val (.int p1)] [(.int (1 : Int32))]))
                    refine own_go (fun _ k => XS.goto X0.here hx rfl (pc0 := 73) (pc' := 77) rfl (hb hby d1_73) (by decide) (by decide) k) ?_
                    show own_R _ _ _ _ (s₁.setTop (mkF m 77 #[.val (.int p1)] [(.int (1 : Int32))]))
                    exact own_retN X0 hx (t := .boolean) (by simp) Bd.returns (hb hby d1_77) hlk ⟨by rw [show own_pl p1 = (1 : Int32) from by simp [own_pl, hc1, hc2, hc3, hc10, hc11, hc12, hc13, hc14, hc15]]; rfl, NF, e0⟩ (by decide) (by decide)
                  · refine own_go (fun _ k => XS.icmpNo X0.here hx rfl (hb hby d1_63) rfl (feq hc15).1 k) ?_
                    show own_R _ _ _ _ (s₁.setTop (mkF m 66 #[.val (.int p1)] []))
                    refine own_go (fun _ k => XS.iloadN X0.here hx rfl (hb hby d1_66) rfl k) ?_
                    show own_R _ _ _ _ (s₁.setTop (mkF m 67 #[.val (.int p1)] [(.int p1)]))
                    refine own_go (fun _ k => XS.bipush X0.here hx rfl (hb hby d1_67) k) ?_
                    show own_R _ _ _ _ (s₁.setTop (mkF m 69 #[.val (.int p1)] [(.int (45 : Int32)), (.int p1)]))
                    by_cases hc16 : p1 = (45 : Int32)
                    · refine own_go (fun _ k => XS.icmpNo X0.here hx rfl (hb hby d1_69) rfl (teq hc16).2 k) ?_
                      show own_R _ _ _ _ (s₁.setTop (mkF m 72 #[.val (.int p1)] []))
                      refine own_go (fun _ k => XS.iconst X0.here hx rfl (hb hby d1_72) k) ?_
                      show own_R _ _ _ _ (s₁.setTop (mkF m 73 #[.val (.int p1)] [(.int (1 : Int32))]))
                      refine own_go (fun _ k => XS.goto X0.here hx rfl (pc0 := 73) (pc' := 77) rfl (hb hby d1_73) (by decide) (by decide) k) ?_
                      show own_R _ _ _ _ (s₁.setTop (mkF m 77 #[.val (.int p1)] [(.int (1 : Int32))]))
                      exact own_retN X0 hx (t := .boolean) (by simp) Bd.returns (hb hby d1_77) hlk ⟨by rw [show own_pl p1 = (1 : Int32) from by simp [own_pl, hc1, hc2, hc3, hc10, hc11, hc12, hc13, hc14, hc15, hc16]]; rfl, NF, e0⟩ (by decide) (by decide)
                    · refine own_go (fun _ k => XS.icmpYes X0.here hx rfl (pc0 := 69) (pc' := 76) rfl (hb hby d1_69) rfl (feq hc16).2 (by decide) (by decide) k) ?_
                      show own_R _ _ _ _ (s₁.setTop (mkF m 76 #[.val (.int p1)] []))
                      refine own_go (fun _ k => XS.iconst X0.here hx rfl (hb hby d1_76) k) ?_
                      show own_R _ _ _ _ (s₁.setTop (mkF m 77 #[.val (.int p1)] [(.int (0 : Int32))]))
                      exact own_retN X0 hx (t := .boolean) (by simp) Bd.returns (hb hby d1_77) hlk ⟨by rw [show own_pl p1 = (0 : Int32) from by simp [own_pl, hc1, hc2, hc3, hc10, hc11, hc12, hc13, hc14, hc15, hc16]]; rfl, NF, e0⟩ (by decide) (by decide)
        · refine own_go (fun _ k => XS.icmpYes X0.here hx rfl (pc0 := 33) (pc' := 72) rfl (hb hby d1_33) rfl (flt hc10).2.2.2 (by decide) (by decide) k) ?_
          show own_R _ _ _ _ (s₁.setTop (mkF m 72 #[.val (.int p1)] []))
          refine own_go (fun _ k => XS.iconst X0.here hx rfl (hb hby d1_72) k) ?_
          show own_R _ _ _ _ (s₁.setTop (mkF m 73 #[.val (.int p1)] [(.int (1 : Int32))]))
          refine own_go (fun _ k => XS.goto X0.here hx rfl (pc0 := 73) (pc' := 77) rfl (hb hby d1_73) (by decide) (by decide) k) ?_
          show own_R _ _ _ _ (s₁.setTop (mkF m 77 #[.val (.int p1)] [(.int (1 : Int32))]))
          exact own_retN X0 hx (t := .boolean) (by simp) Bd.returns (hb hby d1_77) hlk ⟨by rw [show own_pl p1 = (1 : Int32) from by simp [own_pl, hc1, hc2, hc3, hc10]]; rfl, NF, e0⟩ (by decide) (by decide)
    · refine own_go (fun _ k => XS.icmpNo X0.here hx rfl (hb hby d1_15) rfl (flt hc2).1 k) ?_
      show own_R _ _ _ _ (s₁.setTop (mkF m 18 #[.val (.int p1)] []))
      refine own_go (fun _ k => XS.iloadN X0.here hx rfl (hb hby d1_18) rfl k) ?_
      show own_R _ _ _ _ (s₁.setTop (mkF m 19 #[.val (.int p1)] [(.int p1)]))
      refine own_go (fun _ k => XS.bipush X0.here hx rfl (hb hby d1_19) k) ?_
      show own_R _ _ _ _ (s₁.setTop (mkF m 21 #[.val (.int p1)] [(.int (90 : Int32)), (.int p1)]))
      by_cases hc17 : (90 : Int32) < p1
      · refine own_go (fun _ k => XS.icmpNo X0.here hx rfl (hb hby d1_21) rfl (tlt hc17).2.2.2 k) ?_
        show own_R _ _ _ _ (s₁.setTop (mkF m 24 #[.val (.int p1)] []))
        refine own_go (fun _ k => XS.iloadN X0.here hx rfl (hb hby d1_24) rfl k) ?_
        show own_R _ _ _ _ (s₁.setTop (mkF m 25 #[.val (.int p1)] [(.int p1)]))
        refine own_go (fun _ k => XS.bipush X0.here hx rfl (hb hby d1_25) k) ?_
        show own_R _ _ _ _ (s₁.setTop (mkF m 27 #[.val (.int p1)] [(.int (48 : Int32)), (.int p1)]))
        by_cases hc18 : p1 < (48 : Int32)
        · refine own_go (fun _ k => XS.icmpYes X0.here hx rfl (pc0 := 27) (pc' := 36) rfl (hb hby d1_27) rfl (tlt hc18).1 (by decide) (by decide) k) ?_
          show own_R _ _ _ _ (s₁.setTop (mkF m 36 #[.val (.int p1)] []))
          refine own_go (fun _ k => XS.iloadN X0.here hx rfl (hb hby d1_36) rfl k) ?_
          show own_R _ _ _ _ (s₁.setTop (mkF m 37 #[.val (.int p1)] [(.int p1)]))
          refine own_go (fun _ k => XS.bipush X0.here hx rfl (hb hby d1_37) k) ?_
          show own_R _ _ _ _ (s₁.setTop (mkF m 39 #[.val (.int p1)] [(.int (95 : Int32)), (.int p1)]))
          by_cases hc19 : p1 = (95 : Int32)
          · refine own_go (fun _ k => XS.icmpYes X0.here hx rfl (pc0 := 39) (pc' := 72) rfl (hb hby d1_39) rfl (teq hc19).1 (by decide) (by decide) k) ?_
            show own_R _ _ _ _ (s₁.setTop (mkF m 72 #[.val (.int p1)] []))
            refine own_go (fun _ k => XS.iconst X0.here hx rfl (hb hby d1_72) k) ?_
            show own_R _ _ _ _ (s₁.setTop (mkF m 73 #[.val (.int p1)] [(.int (1 : Int32))]))
            refine own_go (fun _ k => XS.goto X0.here hx rfl (pc0 := 73) (pc' := 77) rfl (hb hby d1_73) (by decide) (by decide) k) ?_
            show own_R _ _ _ _ (s₁.setTop (mkF m 77 #[.val (.int p1)] [(.int (1 : Int32))]))
            exact own_retN X0 hx (t := .boolean) (by simp) Bd.returns (hb hby d1_77) hlk ⟨by rw [show own_pl p1 = (1 : Int32) from by simp [own_pl, hc1, hc2, hc17, hc18, hc19]]; rfl, NF, e0⟩ (by decide) (by decide)
          · refine own_go (fun _ k => XS.icmpNo X0.here hx rfl (hb hby d1_39) rfl (feq hc19).1 k) ?_
            show own_R _ _ _ _ (s₁.setTop (mkF m 42 #[.val (.int p1)] []))
            refine own_go (fun _ k => XS.iloadN X0.here hx rfl (hb hby d1_42) rfl k) ?_
            show own_R _ _ _ _ (s₁.setTop (mkF m 43 #[.val (.int p1)] [(.int p1)]))
            refine own_go (fun _ k => XS.bipush X0.here hx rfl (hb hby d1_43) k) ?_
            show own_R _ _ _ _ (s₁.setTop (mkF m 45 #[.val (.int p1)] [(.int (46 : Int32)), (.int p1)]))
            by_cases hc20 : p1 = (46 : Int32)
            · refine own_go (fun _ k => XS.icmpYes X0.here hx rfl (pc0 := 45) (pc' := 72) rfl (hb hby d1_45) rfl (teq hc20).1 (by decide) (by decide) k) ?_
              show own_R _ _ _ _ (s₁.setTop (mkF m 72 #[.val (.int p1)] []))
              refine own_go (fun _ k => XS.iconst X0.here hx rfl (hb hby d1_72) k) ?_
              show own_R _ _ _ _ (s₁.setTop (mkF m 73 #[.val (.int p1)] [(.int (1 : Int32))]))
              refine own_go (fun _ k => XS.goto X0.here hx rfl (pc0 := 73) (pc' := 77) rfl (hb hby d1_73) (by decide) (by decide) k) ?_
              show own_R _ _ _ _ (s₁.setTop (mkF m 77 #[.val (.int p1)] [(.int (1 : Int32))]))
              exact own_retN X0 hx (t := .boolean) (by simp) Bd.returns (hb hby d1_77) hlk ⟨by rw [show own_pl p1 = (1 : Int32) from by simp [own_pl, hc1, hc2, hc17, hc18, hc19, hc20]]; rfl, NF, e0⟩ (by decide) (by decide)
            · refine own_go (fun _ k => XS.icmpNo X0.here hx rfl (hb hby d1_45) rfl (feq hc20).1 k) ?_
              show own_R _ _ _ _ (s₁.setTop (mkF m 48 #[.val (.int p1)] []))
              refine own_go (fun _ k => XS.iloadN X0.here hx rfl (hb hby d1_48) rfl k) ?_
              show own_R _ _ _ _ (s₁.setTop (mkF m 49 #[.val (.int p1)] [(.int p1)]))
              refine own_go (fun _ k => XS.bipush X0.here hx rfl (hb hby d1_49) k) ?_
              show own_R _ _ _ _ (s₁.setTop (mkF m 51 #[.val (.int p1)] [(.int (58 : Int32)), (.int p1)]))
              by_cases hc21 : p1 = (58 : Int32)
              · refine own_go (fun _ k => XS.icmpYes X0.here hx rfl (pc0 := 51) (pc' := 72) rfl (hb hby d1_51) rfl (teq hc21).1 (by decide) (by decide) k) ?_
                show own_R _ _ _ _ (s₁.setTop (mkF m 72 #[.val (.int p1)] []))
                refine own_go (fun _ k => XS.iconst X0.here hx rfl (hb hby d1_72) k) ?_
                show own_R _ _ _ _ (s₁.setTop (mkF m 73 #[.val (.int p1)] [(.int (1 : Int32))]))
                refine own_go (fun _ k => XS.goto X0.here hx rfl (pc0 := 73) (pc' := 77) rfl (hb hby d1_73) (by decide) (by decide) k) ?_
                show own_R _ _ _ _ (s₁.setTop (mkF m 77 #[.val (.int p1)] [(.int (1 : Int32))]))
                exact own_retN X0 hx (t := .boolean) (by simp) Bd.returns (hb hby d1_77) hlk ⟨by rw [show own_pl p1 = (1 : Int32) from by simp [own_pl, hc1, hc2, hc17, hc18, hc19, hc20, hc21]]; rfl, NF, e0⟩ (by decide) (by decide)
              · refine own_go (fun _ k => XS.icmpNo X0.here hx rfl (hb hby d1_51) rfl (feq hc21).1 k) ?_
                show own_R _ _ _ _ (s₁.setTop (mkF m 54 #[.val (.int p1)] []))
                refine own_go (fun _ k => XS.iloadN X0.here hx rfl (hb hby d1_54) rfl k) ?_
                show own_R _ _ _ _ (s₁.setTop (mkF m 55 #[.val (.int p1)] [(.int p1)]))
                refine own_go (fun _ k => XS.bipush X0.here hx rfl (hb hby d1_55) k) ?_
                show own_R _ _ _ _ (s₁.setTop (mkF m 57 #[.val (.int p1)] [(.int (64 : Int32)), (.int p1)]))
                by_cases hc22 : p1 = (64 : Int32)
                · refine own_go (fun _ k => XS.icmpYes X0.here hx rfl (pc0 := 57) (pc' := 72) rfl (hb hby d1_57) rfl (teq hc22).1 (by decide) (by decide) k) ?_
                  show own_R _ _ _ _ (s₁.setTop (mkF m 72 #[.val (.int p1)] []))
                  refine own_go (fun _ k => XS.iconst X0.here hx rfl (hb hby d1_72) k) ?_
                  show own_R _ _ _ _ (s₁.setTop (mkF m 73 #[.val (.int p1)] [(.int (1 : Int32))]))
                  refine own_go (fun _ k => XS.goto X0.here hx rfl (pc0 := 73) (pc' := 77) rfl (hb hby d1_73) (by decide) (by decide) k) ?_
                  show own_R _ _ _ _ (s₁.setTop (mkF m 77 #[.val (.int p1)] [(.int (1 : Int32))]))
                  exact own_retN X0 hx (t := .boolean) (by simp) Bd.returns (hb hby d1_77) hlk ⟨by rw [show own_pl p1 = (1 : Int32) from by simp [own_pl, hc1, hc2, hc17, hc18, hc19, hc20, hc21, hc22]]; rfl, NF, e0⟩ (by decide) (by decide)
                · refine own_go (fun _ k => XS.icmpNo X0.here hx rfl (hb hby d1_57) rfl (feq hc22).1 k) ?_
                  show own_R _ _ _ _ (s₁.setTop (mkF m 60 #[.val (.int p1)] []))
                  refine own_go (fun _ k => XS.iloadN X0.here hx rfl (hb hby d1_60) rfl k) ?_
                  show own_R _ _ _ _ (s₁.setTop (mkF m 61 #[.val (.int p1)] [(.int p1)]))
                  refine own_go (fun _ k => XS.bipush X0.here hx rfl (hb hby d1_61) k) ?_
                  show own_R _ _ _ _ (s₁.setTop (mkF m 63 #[.val (.int p1)] [(.int (35 : Int32)), (.int p1)]))
                  by_cases hc23 : p1 = (35 : Int32)
                  · refine own_go (fun _ k => XS.icmpYes X0.here hx rfl (pc0 := 63) (pc' := 72) rfl (hb hby d1_63) rfl (teq hc23).1 (by decide) (by decide) k) ?_
                    show own_R _ _ _ _ (s₁.setTop (mkF m 72 #[.val (.int p1)] []))
                    refine own_go (fun _ k => XS.iconst X0.here hx rfl (hb hby d1_72) k) ?_
                    show own_R _ _ _ _ (s₁.setTop (mkF m 73 #[.val (.int p1)] [(.int (1 : Int32))]))
                    refine own_go (fun _ k => XS.goto X0.here hx rfl (pc0 := 73) (pc' := 77) rfl (hb hby d1_73) (by decide) (by decide) k) ?_
                    show own_R _ _ _ _ (s₁.setTop (mkF m 77 #[.val (.int p1)] [(.int (1 : Int32))]))
                    exact own_retN X0 hx (t := .boolean) (by simp) Bd.returns (hb hby d1_77) hlk ⟨by rw [show own_pl p1 = (1 : Int32) from by simp [own_pl, hc1, hc2, hc17, hc18, hc19, hc20, hc21, hc22, hc23]]; rfl, NF, e0⟩ (by decide) (by decide)
                  · refine own_go (fun _ k => XS.icmpNo X0.here hx rfl (hb hby d1_63) rfl (feq hc23).1 k) ?_
                    show own_R _ _ _ _ (s₁.setTop (mkF m 66 #[.val (.int p1)] []))
                    refine own_go (fun _ k => XS.iloadN X0.here hx rfl (hb hby d1_66) rfl k) ?_
                    show own_R _ _ _ _ (s₁.setTop (mkF m 67 #[.val (.int p1)] [(.int p1)]))
                    refine own_go (fun _ k => XS.bipush X0.here hx rfl (hb hby d1_67) k) ?_
                    show own_R _ _ _ _ (s₁.setTop (mkF m 69 #[.val (.int p1)] [(.int (45 : Int32)), (.int p1)]))
                    by_cases hc24 : p1 = (45 : Int32)
                    · refine own_go (fun _ k => XS.icmpNo X0.here hx rfl (hb hby d1_69) rfl (teq hc24).2 k) ?_
                      show own_R _ _ _ _ (s₁.setTop (mkF m 72 #[.val (.int p1)] []))
                      refine own_go (fun _ k => XS.iconst X0.here hx rfl (hb hby d1_72) k) ?_
                      show own_R _ _ _ _ (s₁.setTop (mkF m 73 #[.val (.int p1)] [(.int (1 : Int32))]))
                      refine own_go (fun _ k => XS.goto X0.here hx rfl (pc0 := 73) (pc' := 77) rfl (hb hby d1_73) (by decide) (by decide) k) ?_
                      show own_R _ _ _ _ (s₁.setTop (mkF m 77 #[.val (.int p1)] [(.int (1 : Int32))]))
                      exact own_retN X0 hx (t := .boolean) (by simp) Bd.returns (hb hby d1_77) hlk ⟨by rw [show own_pl p1 = (1 : Int32) from by simp [own_pl, hc1, hc2, hc17, hc18, hc19, hc20, hc21, hc22, hc23, hc24]]; rfl, NF, e0⟩ (by decide) (by decide)
                    · refine own_go (fun _ k => XS.icmpYes X0.here hx rfl (pc0 := 69) (pc' := 76) rfl (hb hby d1_69) rfl (feq hc24).2 (by decide) (by decide) k) ?_
                      show own_R _ _ _ _ (s₁.setTop (mkF m 76 #[.val (.int p1)] []))
                      refine own_go (fun _ k => XS.iconst X0.here hx rfl (hb hby d1_76) k) ?_
                      show own_R _ _ _ _ (s₁.setTop (mkF m 77 #[.val (.int p1)] [(.int (0 : Int32))]))
                      exact own_retN X0 hx (t := .boolean) (by simp) Bd.returns (hb hby d1_77) hlk ⟨by rw [show own_pl p1 = (0 : Int32) from by simp [own_pl, hc1, hc2, hc17, hc18, hc19, hc20, hc21, hc22, hc23, hc24]]; rfl, NF, e0⟩ (by decide) (by decide)
        · refine own_go (fun _ k => XS.icmpNo X0.here hx rfl (hb hby d1_27) rfl (flt hc18).1 k) ?_
          show own_R _ _ _ _ (s₁.setTop (mkF m 30 #[.val (.int p1)] []))
          refine own_go (fun _ k => XS.iloadN X0.here hx rfl (hb hby d1_30) rfl k) ?_
          show own_R _ _ _ _ (s₁.setTop (mkF m 31 #[.val (.int p1)] [(.int p1)]))
          refine own_go (fun _ k => XS.bipush X0.here hx rfl (hb hby d1_31) k) ?_
          show own_R _ _ _ _ (s₁.setTop (mkF m 33 #[.val (.int p1)] [(.int (57 : Int32)), (.int p1)]))
          by_cases hc25 : (57 : Int32) < p1
          · refine own_go (fun _ k => XS.icmpNo X0.here hx rfl (hb hby d1_33) rfl (tlt hc25).2.2.2 k) ?_
            show own_R _ _ _ _ (s₁.setTop (mkF m 36 #[.val (.int p1)] []))
            refine own_go (fun _ k => XS.iloadN X0.here hx rfl (hb hby d1_36) rfl k) ?_
            show own_R _ _ _ _ (s₁.setTop (mkF m 37 #[.val (.int p1)] [(.int p1)]))
            refine own_go (fun _ k => XS.bipush X0.here hx rfl (hb hby d1_37) k) ?_
            show own_R _ _ _ _ (s₁.setTop (mkF m 39 #[.val (.int p1)] [(.int (95 : Int32)), (.int p1)]))
            by_cases hc26 : p1 = (95 : Int32)
            · refine own_go (fun _ k => XS.icmpYes X0.here hx rfl (pc0 := 39) (pc' := 72) rfl (hb hby d1_39) rfl (teq hc26).1 (by decide) (by decide) k) ?_
              show own_R _ _ _ _ (s₁.setTop (mkF m 72 #[.val (.int p1)] []))
              refine own_go (fun _ k => XS.iconst X0.here hx rfl (hb hby d1_72) k) ?_
              show own_R _ _ _ _ (s₁.setTop (mkF m 73 #[.val (.int p1)] [(.int (1 : Int32))]))
              refine own_go (fun _ k => XS.goto X0.here hx rfl (pc0 := 73) (pc' := 77) rfl (hb hby d1_73) (by decide) (by decide) k) ?_
              show own_R _ _ _ _ (s₁.setTop (mkF m 77 #[.val (.int p1)] [(.int (1 : Int32))]))
              exact own_retN X0 hx (t := .boolean) (by simp) Bd.returns (hb hby d1_77) hlk ⟨by rw [show own_pl p1 = (1 : Int32) from by simp [own_pl, hc1, hc2, hc17, hc18, hc25, hc26]]; rfl, NF, e0⟩ (by decide) (by decide)
            · refine own_go (fun _ k => XS.icmpNo X0.here hx rfl (hb hby d1_39) rfl (feq hc26).1 k) ?_
              show own_R _ _ _ _ (s₁.setTop (mkF m 42 #[.val (.int p1)] []))
              refine own_go (fun _ k => XS.iloadN X0.here hx rfl (hb hby d1_42) rfl k) ?_
              show own_R _ _ _ _ (s₁.setTop (mkF m 43 #[.val (.int p1)] [(.int p1)]))
              refine own_go (fun _ k => XS.bipush X0.here hx rfl (hb hby d1_43) k) ?_
              show own_R _ _ _ _ (s₁.setTop (mkF m 45 #[.val (.int p1)] [(.int (46 : Int32)), (.int p1)]))
              by_cases hc27 : p1 = (46 : Int32)
              · refine own_go (fun _ k => XS.icmpYes X0.here hx rfl (pc0 := 45) (pc' := 72) rfl (hb hby d1_45) rfl (teq hc27).1 (by decide) (by decide) k) ?_
                show own_R _ _ _ _ (s₁.setTop (mkF m 72 #[.val (.int p1)] []))
                refine own_go (fun _ k => XS.iconst X0.here hx rfl (hb hby d1_72) k) ?_
                show own_R _ _ _ _ (s₁.setTop (mkF m 73 #[.val (.int p1)] [(.int (1 : Int32))]))
                refine own_go (fun _ k => XS.goto X0.here hx rfl (pc0 := 73) (pc' := 77) rfl (hb hby d1_73) (by decide) (by decide) k) ?_
                show own_R _ _ _ _ (s₁.setTop (mkF m 77 #[.val (.int p1)] [(.int (1 : Int32))]))
                exact own_retN X0 hx (t := .boolean) (by simp) Bd.returns (hb hby d1_77) hlk ⟨by rw [show own_pl p1 = (1 : Int32) from by simp [own_pl, hc1, hc2, hc17, hc18, hc25, hc26, hc27]]; rfl, NF, e0⟩ (by decide) (by decide)
              · refine own_go (fun _ k => XS.icmpNo X0.here hx rfl (hb hby d1_45) rfl (feq hc27).1 k) ?_
                show own_R _ _ _ _ (s₁.setTop (mkF m 48 #[.val (.int p1)] []))
                refine own_go (fun _ k => XS.iloadN X0.here hx rfl (hb hby d1_48) rfl k) ?_
                show own_R _ _ _ _ (s₁.setTop (mkF m 49 #[.val (.int p1)] [(.int p1)]))
                refine own_go (fun _ k => XS.bipush X0.here hx rfl (hb hby d1_49) k) ?_
                show own_R _ _ _ _ (s₁.setTop (mkF m 51 #[.val (.int p1)] [(.int (58 : Int32)), (.int p1)]))
                by_cases hc28 : p1 = (58 : Int32)
                · refine own_go (fun _ k => XS.icmpYes X0.here hx rfl (pc0 := 51) (pc' := 72) rfl (hb hby d1_51) rfl (teq hc28).1 (by decide) (by decide) k) ?_
                  show own_R _ _ _ _ (s₁.setTop (mkF m 72 #[.val (.int p1)] []))
                  refine own_go (fun _ k => XS.iconst X0.here hx rfl (hb hby d1_72) k) ?_
                  show own_R _ _ _ _ (s₁.setTop (mkF m 73 #[.val (.int p1)] [(.int (1 : Int32))]))
                  refine own_go (fun _ k => XS.goto X0.here hx rfl (pc0 := 73) (pc' := 77) rfl (hb hby d1_73) (by decide) (by decide) k) ?_
                  show own_R _ _ _ _ (s₁.setTop (mkF m 77 #[.val (.int p1)] [(.int (1 : Int32))]))
                  exact own_retN X0 hx (t := .boolean) (by simp) Bd.returns (hb hby d1_77) hlk ⟨by rw [show own_pl p1 = (1 : Int32) from by simp [own_pl, hc1, hc2, hc17, hc18, hc25, hc26, hc27, hc28]]; rfl, NF, e0⟩ (by decide) (by decide)
                · refine own_go (fun _ k => XS.icmpNo X0.here hx rfl (hb hby d1_51) rfl (feq hc28).1 k) ?_
                  show own_R _ _ _ _ (s₁.setTop (mkF m 54 #[.val (.int p1)] []))
                  refine own_go (fun _ k => XS.iloadN X0.here hx rfl (hb hby d1_54) rfl k) ?_
                  show own_R _ _ _ _ (s₁.setTop (mkF m 55 #[.val (.int p1)] [(.int p1)]))
                  refine own_go (fun _ k => XS.bipush X0.here hx rfl (hb hby d1_55) k) ?_
                  show own_R _ _ _ _ (s₁.setTop (mkF m 57 #[.val (.int p1)] [(.int (64 : Int32)), (.int p1)]))
                  by_cases hc29 : p1 = (64 : Int32)
                  · refine own_go (fun _ k => XS.icmpYes X0.here hx rfl (pc0 := 57) (pc' := 72) rfl (hb hby d1_57) rfl (teq hc29).1 (by decide) (by decide) k) ?_
                    show own_R _ _ _ _ (s₁.setTop (mkF m 72 #[.val (.int p1)] []))
                    refine own_go (fun _ k => XS.iconst X0.here hx rfl (hb hby d1_72) k) ?_
                    show own_R _ _ _ _ (s₁.setTop (mkF m 73 #[.val (.int p1)] [(.int (1 : Int32))]))
                    refine own_go (fun _ k => XS.goto X0.here hx rfl (pc0 := 73) (pc' := 77) rfl (hb hby d1_73) (by decide) (by decide) k) ?_
                    show own_R _ _ _ _ (s₁.setTop (mkF m 77 #[.val (.int p1)] [(.int (1 : Int32))]))
                    exact own_retN X0 hx (t := .boolean) (by simp) Bd.returns (hb hby d1_77) hlk ⟨by rw [show own_pl p1 = (1 : Int32) from by simp [own_pl, hc1, hc2, hc17, hc18, hc25, hc26, hc27, hc28, hc29]]; rfl, NF, e0⟩ (by decide) (by decide)
                  · refine own_go (fun _ k => XS.icmpNo X0.here hx rfl (hb hby d1_57) rfl (feq hc29).1 k) ?_
                    show own_R _ _ _ _ (s₁.setTop (mkF m 60 #[.val (.int p1)] []))
                    refine own_go (fun _ k => XS.iloadN X0.here hx rfl (hb hby d1_60) rfl k) ?_
                    show own_R _ _ _ _ (s₁.setTop (mkF m 61 #[.val (.int p1)] [(.int p1)]))
                    refine own_go (fun _ k => XS.bipush X0.here hx rfl (hb hby d1_61) k) ?_
                    show own_R _ _ _ _ (s₁.setTop (mkF m 63 #[.val (.int p1)] [(.int (35 : Int32)), (.int p1)]))
                    by_cases hc30 : p1 = (35 : Int32)
                    · refine own_go (fun _ k => XS.icmpYes X0.here hx rfl (pc0 := 63) (pc' := 72) rfl (hb hby d1_63) rfl (teq hc30).1 (by decide) (by decide) k) ?_
                      show own_R _ _ _ _ (s₁.setTop (mkF m 72 #[.val (.int p1)] []))
                      refine own_go (fun _ k => XS.iconst X0.here hx rfl (hb hby d1_72) k) ?_
                      show own_R _ _ _ _ (s₁.setTop (mkF m 73 #[.val (.int p1)] [(.int (1 : Int32))]))
                      refine own_go (fun _ k => XS.goto X0.here hx rfl (pc0 := 73) (pc' := 77) rfl (hb hby d1_73) (by decide) (by decide) k) ?_
                      show own_R _ _ _ _ (s₁.setTop (mkF m 77 #[.val (.int p1)] [(.int (1 : Int32))]))
                      exact own_retN X0 hx (t := .boolean) (by simp) Bd.returns (hb hby d1_77) hlk ⟨by rw [show own_pl p1 = (1 : Int32) from by simp [own_pl, hc1, hc2, hc17, hc18, hc25, hc26, hc27, hc28, hc29, hc30]]; rfl, NF, e0⟩ (by decide) (by decide)
                    · refine own_go (fun _ k => XS.icmpNo X0.here hx rfl (hb hby d1_63) rfl (feq hc30).1 k) ?_
                      show own_R _ _ _ _ (s₁.setTop (mkF m 66 #[.val (.int p1)] []))
                      refine own_go (fun _ k => XS.iloadN X0.here hx rfl (hb hby d1_66) rfl k) ?_
                      show own_R _ _ _ _ (s₁.setTop (mkF m 67 #[.val (.int p1)] [(.int p1)]))
                      refine own_go (fun _ k => XS.bipush X0.here hx rfl (hb hby d1_67) k) ?_
                      show own_R _ _ _ _ (s₁.setTop (mkF m 69 #[.val (.int p1)] [(.int (45 : Int32)), (.int p1)]))
                      by_cases hc31 : p1 = (45 : Int32)
                      · refine own_go (fun _ k => XS.icmpNo X0.here hx rfl (hb hby d1_69) rfl (teq hc31).2 k) ?_
                        show own_R _ _ _ _ (s₁.setTop (mkF m 72 #[.val (.int p1)] []))
                        refine own_go (fun _ k => XS.iconst X0.here hx rfl (hb hby d1_72) k) ?_
                        show own_R _ _ _ _ (s₁.setTop (mkF m 73 #[.val (.int p1)] [(.int (1 : Int32))]))
                        refine own_go (fun _ k => XS.goto X0.here hx rfl (pc0 := 73) (pc' := 77) rfl (hb hby d1_73) (by decide) (by decide) k) ?_
                        show own_R _ _ _ _ (s₁.setTop (mkF m 77 #[.val (.int p1)] [(.int (1 : Int32))]))
                        exact own_retN X0 hx (t := .boolean) (by simp) Bd.returns (hb hby d1_77) hlk ⟨by rw [show own_pl p1 = (1 : Int32) from by simp [own_pl, hc1, hc2, hc17, hc18, hc25, hc26, hc27, hc28, hc29, hc30, hc31]]; rfl, NF, e0⟩ (by decide) (by decide)
                      · refine own_go (fun _ k => XS.icmpYes X0.here hx rfl (pc0 := 69) (pc' := 76) rfl (hb hby d1_69) rfl (feq hc31).2 (by decide) (by decide) k) ?_
                        show own_R _ _ _ _ (s₁.setTop (mkF m 76 #[.val (.int p1)] []))
                        refine own_go (fun _ k => XS.iconst X0.here hx rfl (hb hby d1_76) k) ?_
                        show own_R _ _ _ _ (s₁.setTop (mkF m 77 #[.val (.int p1)] [(.int (0 : Int32))]))
                        exact own_retN X0 hx (t := .boolean) (by simp) Bd.returns (hb hby d1_77) hlk ⟨by rw [show own_pl p1 = (0 : Int32) from by simp [own_pl, hc1, hc2, hc17, hc18, hc25, hc26, hc27, hc28, hc29, hc30, hc31]]; rfl, NF, e0⟩ (by decide) (by decide)
          · refine own_go (fun _ k => XS.icmpYes X0.here hx rfl (pc0 := 33) (pc' := 72) rfl (hb hby d1_33) rfl (flt hc25).2.2.2 (by decide) (by decide) k) ?_
            show own_R _ _ _ _ (s₁.setTop (mkF m 72 #[.val (.int p1)] []))
            refine own_go (fun _ k => XS.iconst X0.here hx rfl (hb hby d1_72) k) ?_
            show own_R _ _ _ _ (s₁.setTop (mkF m 73 #[.val (.int p1)] [(.int (1 : Int32))]))
            refine own_go (fun _ k => XS.goto X0.here hx rfl (pc0 := 73) (pc' := 77) rfl (hb hby d1_73) (by decide) (by decide) k) ?_
            show own_R _ _ _ _ (s₁.setTop (mkF m 77 #[.val (.int p1)] [(.int (1 : Int32))]))
            exact own_retN X0 hx (t := .boolean) (by simp) Bd.returns (hb hby d1_77) hlk ⟨by rw [show own_pl p1 = (1 : Int32) from by simp [own_pl, hc1, hc2, hc17, hc18, hc25]]; rfl, NF, e0⟩ (by decide) (by decide)
      · refine own_go (fun _ k => XS.icmpYes X0.here hx rfl (pc0 := 21) (pc' := 72) rfl (hb hby d1_21) rfl (flt hc17).2.2.2 (by decide) (by decide) k) ?_
        show own_R _ _ _ _ (s₁.setTop (mkF m 72 #[.val (.int p1)] []))
        refine own_go (fun _ k => XS.iconst X0.here hx rfl (hb hby d1_72) k) ?_
        show own_R _ _ _ _ (s₁.setTop (mkF m 73 #[.val (.int p1)] [(.int (1 : Int32))]))
        refine own_go (fun _ k => XS.goto X0.here hx rfl (pc0 := 73) (pc' := 77) rfl (hb hby d1_73) (by decide) (by decide) k) ?_
        show own_R _ _ _ _ (s₁.setTop (mkF m 77 #[.val (.int p1)] [(.int (1 : Int32))]))
        exact own_retN X0 hx (t := .boolean) (by simp) Bd.returns (hb hby d1_77) hlk ⟨by rw [show own_pl p1 = (1 : Int32) from by simp [own_pl, hc1, hc2, hc17]]; rfl, NF, e0⟩ (by decide) (by decide)
  · refine own_go (fun _ k => XS.icmpNo X0.here hx rfl (hb hby d1_3) rfl (flt hc1).1 k) ?_
    show own_R _ _ _ _ (s₁.setTop (mkF m 6 #[.val (.int p1)] []))
    refine own_go (fun _ k => XS.iloadN X0.here hx rfl (hb hby d1_6) rfl k) ?_
    show own_R _ _ _ _ (s₁.setTop (mkF m 7 #[.val (.int p1)] [(.int p1)]))
    refine own_go (fun _ k => XS.bipush X0.here hx rfl (hb hby d1_7) k) ?_
    show own_R _ _ _ _ (s₁.setTop (mkF m 9 #[.val (.int p1)] [(.int (122 : Int32)), (.int p1)]))
    by_cases hc32 : (122 : Int32) < p1
    · refine own_go (fun _ k => XS.icmpNo X0.here hx rfl (hb hby d1_9) rfl (tlt hc32).2.2.2 k) ?_
      show own_R _ _ _ _ (s₁.setTop (mkF m 12 #[.val (.int p1)] []))
      refine own_go (fun _ k => XS.iloadN X0.here hx rfl (hb hby d1_12) rfl k) ?_
      show own_R _ _ _ _ (s₁.setTop (mkF m 13 #[.val (.int p1)] [(.int p1)]))
      refine own_go (fun _ k => XS.bipush X0.here hx rfl (hb hby d1_13) k) ?_
      show own_R _ _ _ _ (s₁.setTop (mkF m 15 #[.val (.int p1)] [(.int (65 : Int32)), (.int p1)]))
      by_cases hc33 : p1 < (65 : Int32)
      · refine own_go (fun _ k => XS.icmpYes X0.here hx rfl (pc0 := 15) (pc' := 24) rfl (hb hby d1_15) rfl (tlt hc33).1 (by decide) (by decide) k) ?_
        show own_R _ _ _ _ (s₁.setTop (mkF m 24 #[.val (.int p1)] []))
        refine own_go (fun _ k => XS.iloadN X0.here hx rfl (hb hby d1_24) rfl k) ?_
        show own_R _ _ _ _ (s₁.setTop (mkF m 25 #[.val (.int p1)] [(.int p1)]))
        refine own_go (fun _ k => XS.bipush X0.here hx rfl (hb hby d1_25) k) ?_
        show own_R _ _ _ _ (s₁.setTop (mkF m 27 #[.val (.int p1)] [(.int (48 : Int32)), (.int p1)]))
        by_cases hc34 : p1 < (48 : Int32)
        · refine own_go (fun _ k => XS.icmpYes X0.here hx rfl (pc0 := 27) (pc' := 36) rfl (hb hby d1_27) rfl (tlt hc34).1 (by decide) (by decide) k) ?_
          show own_R _ _ _ _ (s₁.setTop (mkF m 36 #[.val (.int p1)] []))
          refine own_go (fun _ k => XS.iloadN X0.here hx rfl (hb hby d1_36) rfl k) ?_
          show own_R _ _ _ _ (s₁.setTop (mkF m 37 #[.val (.int p1)] [(.int p1)]))
          refine own_go (fun _ k => XS.bipush X0.here hx rfl (hb hby d1_37) k) ?_
          show own_R _ _ _ _ (s₁.setTop (mkF m 39 #[.val (.int p1)] [(.int (95 : Int32)), (.int p1)]))
          by_cases hc35 : p1 = (95 : Int32)
          · refine own_go (fun _ k => XS.icmpYes X0.here hx rfl (pc0 := 39) (pc' := 72) rfl (hb hby d1_39) rfl (teq hc35).1 (by decide) (by decide) k) ?_
            show own_R _ _ _ _ (s₁.setTop (mkF m 72 #[.val (.int p1)] []))
            refine own_go (fun _ k => XS.iconst X0.here hx rfl (hb hby d1_72) k) ?_
            show own_R _ _ _ _ (s₁.setTop (mkF m 73 #[.val (.int p1)] [(.int (1 : Int32))]))
            refine own_go (fun _ k => XS.goto X0.here hx rfl (pc0 := 73) (pc' := 77) rfl (hb hby d1_73) (by decide) (by decide) k) ?_
            show own_R _ _ _ _ (s₁.setTop (mkF m 77 #[.val (.int p1)] [(.int (1 : Int32))]))
            exact own_retN X0 hx (t := .boolean) (by simp) Bd.returns (hb hby d1_77) hlk ⟨by rw [show own_pl p1 = (1 : Int32) from by simp [own_pl, hc1, hc32, hc33, hc34, hc35]]; rfl, NF, e0⟩ (by decide) (by decide)
          · refine own_go (fun _ k => XS.icmpNo X0.here hx rfl (hb hby d1_39) rfl (feq hc35).1 k) ?_
            show own_R _ _ _ _ (s₁.setTop (mkF m 42 #[.val (.int p1)] []))
            refine own_go (fun _ k => XS.iloadN X0.here hx rfl (hb hby d1_42) rfl k) ?_
            show own_R _ _ _ _ (s₁.setTop (mkF m 43 #[.val (.int p1)] [(.int p1)]))
            refine own_go (fun _ k => XS.bipush X0.here hx rfl (hb hby d1_43) k) ?_
            show own_R _ _ _ _ (s₁.setTop (mkF m 45 #[.val (.int p1)] [(.int (46 : Int32)), (.int p1)]))
            by_cases hc36 : p1 = (46 : Int32)
            · refine own_go (fun _ k => XS.icmpYes X0.here hx rfl (pc0 := 45) (pc' := 72) rfl (hb hby d1_45) rfl (teq hc36).1 (by decide) (by decide) k) ?_
              show own_R _ _ _ _ (s₁.setTop (mkF m 72 #[.val (.int p1)] []))
              refine own_go (fun _ k => XS.iconst X0.here hx rfl (hb hby d1_72) k) ?_
              show own_R _ _ _ _ (s₁.setTop (mkF m 73 #[.val (.int p1)] [(.int (1 : Int32))]))
              refine own_go (fun _ k => XS.goto X0.here hx rfl (pc0 := 73) (pc' := 77) rfl (hb hby d1_73) (by decide) (by decide) k) ?_
              show own_R _ _ _ _ (s₁.setTop (mkF m 77 #[.val (.int p1)] [(.int (1 : Int32))]))
              exact own_retN X0 hx (t := .boolean) (by simp) Bd.returns (hb hby d1_77) hlk ⟨by rw [show own_pl p1 = (1 : Int32) from by simp [own_pl, hc1, hc32, hc33, hc34, hc35, hc36]]; rfl, NF, e0⟩ (by decide) (by decide)
            · refine own_go (fun _ k => XS.icmpNo X0.here hx rfl (hb hby d1_45) rfl (feq hc36).1 k) ?_
              show own_R _ _ _ _ (s₁.setTop (mkF m 48 #[.val (.int p1)] []))
              refine own_go (fun _ k => XS.iloadN X0.here hx rfl (hb hby d1_48) rfl k) ?_
              show own_R _ _ _ _ (s₁.setTop (mkF m 49 #[.val (.int p1)] [(.int p1)]))
              refine own_go (fun _ k => XS.bipush X0.here hx rfl (hb hby d1_49) k) ?_
              show own_R _ _ _ _ (s₁.setTop (mkF m 51 #[.val (.int p1)] [(.int (58 : Int32)), (.int p1)]))
              by_cases hc37 : p1 = (58 : Int32)
              · refine own_go (fun _ k => XS.icmpYes X0.here hx rfl (pc0 := 51) (pc' := 72) rfl (hb hby d1_51) rfl (teq hc37).1 (by decide) (by decide) k) ?_
                show own_R _ _ _ _ (s₁.setTop (mkF m 72 #[.val (.int p1)] []))
                refine own_go (fun _ k => XS.iconst X0.here hx rfl (hb hby d1_72) k) ?_
                show own_R _ _ _ _ (s₁.setTop (mkF m 73 #[.val (.int p1)] [(.int (1 : Int32))]))
                refine own_go (fun _ k => XS.goto X0.here hx rfl (pc0 := 73) (pc' := 77) rfl (hb hby d1_73) (by decide) (by decide) k) ?_
                show own_R _ _ _ _ (s₁.setTop (mkF m 77 #[.val (.int p1)] [(.int (1 : Int32))]))
                exact own_retN X0 hx (t := .boolean) (by simp) Bd.returns (hb hby d1_77) hlk ⟨by rw [show own_pl p1 = (1 : Int32) from by simp [own_pl, hc1, hc32, hc33, hc34, hc35, hc36, hc37]]; rfl, NF, e0⟩ (by decide) (by decide)
              · refine own_go (fun _ k => XS.icmpNo X0.here hx rfl (hb hby d1_51) rfl (feq hc37).1 k) ?_
                show own_R _ _ _ _ (s₁.setTop (mkF m 54 #[.val (.int p1)] []))
                refine own_go (fun _ k => XS.iloadN X0.here hx rfl (hb hby d1_54) rfl k) ?_
                show own_R _ _ _ _ (s₁.setTop (mkF m 55 #[.val (.int p1)] [(.int p1)]))
                refine own_go (fun _ k => XS.bipush X0.here hx rfl (hb hby d1_55) k) ?_
                show own_R _ _ _ _ (s₁.setTop (mkF m 57 #[.val (.int p1)] [(.int (64 : Int32)), (.int p1)]))
                by_cases hc38 : p1 = (64 : Int32)
                · refine own_go (fun _ k => XS.icmpYes X0.here hx rfl (pc0 := 57) (pc' := 72) rfl (hb hby d1_57) rfl (teq hc38).1 (by decide) (by decide) k) ?_
                  show own_R _ _ _ _ (s₁.setTop (mkF m 72 #[.val (.int p1)] []))
                  refine own_go (fun _ k => XS.iconst X0.here hx rfl (hb hby d1_72) k) ?_
                  show own_R _ _ _ _ (s₁.setTop (mkF m 73 #[.val (.int p1)] [(.int (1 : Int32))]))
                  refine own_go (fun _ k => XS.goto X0.here hx rfl (pc0 := 73) (pc' := 77) rfl (hb hby d1_73) (by decide) (by decide) k) ?_
                  show own_R _ _ _ _ (s₁.setTop (mkF m 77 #[.val (.int p1)] [(.int (1 : Int32))]))
                  exact own_retN X0 hx (t := .boolean) (by simp) Bd.returns (hb hby d1_77) hlk ⟨by rw [show own_pl p1 = (1 : Int32) from by simp [own_pl, hc1, hc32, hc33, hc34, hc35, hc36, hc37, hc38]]; rfl, NF, e0⟩ (by decide) (by decide)
                · refine own_go (fun _ k => XS.icmpNo X0.here hx rfl (hb hby d1_57) rfl (feq hc38).1 k) ?_
                  show own_R _ _ _ _ (s₁.setTop (mkF m 60 #[.val (.int p1)] []))
                  refine own_go (fun _ k => XS.iloadN X0.here hx rfl (hb hby d1_60) rfl k) ?_
                  show own_R _ _ _ _ (s₁.setTop (mkF m 61 #[.val (.int p1)] [(.int p1)]))
                  refine own_go (fun _ k => XS.bipush X0.here hx rfl (hb hby d1_61) k) ?_
                  show own_R _ _ _ _ (s₁.setTop (mkF m 63 #[.val (.int p1)] [(.int (35 : Int32)), (.int p1)]))
                  by_cases hc39 : p1 = (35 : Int32)
                  · refine own_go (fun _ k => XS.icmpYes X0.here hx rfl (pc0 := 63) (pc' := 72) rfl (hb hby d1_63) rfl (teq hc39).1 (by decide) (by decide) k) ?_
                    show own_R _ _ _ _ (s₁.setTop (mkF m 72 #[.val (.int p1)] []))
                    refine own_go (fun _ k => XS.iconst X0.here hx rfl (hb hby d1_72) k) ?_
                    show own_R _ _ _ _ (s₁.setTop (mkF m 73 #[.val (.int p1)] [(.int (1 : Int32))]))
                    refine own_go (fun _ k => XS.goto X0.here hx rfl (pc0 := 73) (pc' := 77) rfl (hb hby d1_73) (by decide) (by decide) k) ?_
                    show own_R _ _ _ _ (s₁.setTop (mkF m 77 #[.val (.int p1)] [(.int (1 : Int32))]))
                    exact own_retN X0 hx (t := .boolean) (by simp) Bd.returns (hb hby d1_77) hlk ⟨by rw [show own_pl p1 = (1 : Int32) from by simp [own_pl, hc1, hc32, hc33, hc34, hc35, hc36, hc37, hc38, hc39]]; rfl, NF, e0⟩ (by decide) (by decide)
                  · refine own_go (fun _ k => XS.icmpNo X0.here hx rfl (hb hby d1_63) rfl (feq hc39).1 k) ?_
                    show own_R _ _ _ _ (s₁.setTop (mkF m 66 #[.val (.int p1)] []))
                    refine own_go (fun _ k => XS.iloadN X0.here hx rfl (hb hby d1_66) rfl k) ?_
                    show own_R _ _ _ _ (s₁.setTop (mkF m 67 #[.val (.int p1)] [(.int p1)]))
                    refine own_go (fun _ k => XS.bipush X0.here hx rfl (hb hby d1_67) k) ?_
                    show own_R _ _ _ _ (s₁.setTop (mkF m 69 #[.val (.int p1)] [(.int (45 : Int32)), (.int p1)]))
                    by_cases hc40 : p1 = (45 : Int32)
                    · refine own_go (fun _ k => XS.icmpNo X0.here hx rfl (hb hby d1_69) rfl (teq hc40).2 k) ?_
                      show own_R _ _ _ _ (s₁.setTop (mkF m 72 #[.val (.int p1)] []))
                      refine own_go (fun _ k => XS.iconst X0.here hx rfl (hb hby d1_72) k) ?_
                      show own_R _ _ _ _ (s₁.setTop (mkF m 73 #[.val (.int p1)] [(.int (1 : Int32))]))
                      refine own_go (fun _ k => XS.goto X0.here hx rfl (pc0 := 73) (pc' := 77) rfl (hb hby d1_73) (by decide) (by decide) k) ?_
                      show own_R _ _ _ _ (s₁.setTop (mkF m 77 #[.val (.int p1)] [(.int (1 : Int32))]))
                      exact own_retN X0 hx (t := .boolean) (by simp) Bd.returns (hb hby d1_77) hlk ⟨by rw [show own_pl p1 = (1 : Int32) from by simp [own_pl, hc1, hc32, hc33, hc34, hc35, hc36, hc37, hc38, hc39, hc40]]; rfl, NF, e0⟩ (by decide) (by decide)
                    · refine own_go (fun _ k => XS.icmpYes X0.here hx rfl (pc0 := 69) (pc' := 76) rfl (hb hby d1_69) rfl (feq hc40).2 (by decide) (by decide) k) ?_
                      show own_R _ _ _ _ (s₁.setTop (mkF m 76 #[.val (.int p1)] []))
                      refine own_go (fun _ k => XS.iconst X0.here hx rfl (hb hby d1_76) k) ?_
                      show own_R _ _ _ _ (s₁.setTop (mkF m 77 #[.val (.int p1)] [(.int (0 : Int32))]))
                      exact own_retN X0 hx (t := .boolean) (by simp) Bd.returns (hb hby d1_77) hlk ⟨by rw [show own_pl p1 = (0 : Int32) from by simp [own_pl, hc1, hc32, hc33, hc34, hc35, hc36, hc37, hc38, hc39, hc40]]; rfl, NF, e0⟩ (by decide) (by decide)
        · refine own_go (fun _ k => XS.icmpNo X0.here hx rfl (hb hby d1_27) rfl (flt hc34).1 k) ?_
          show own_R _ _ _ _ (s₁.setTop (mkF m 30 #[.val (.int p1)] []))
          refine own_go (fun _ k => XS.iloadN X0.here hx rfl (hb hby d1_30) rfl k) ?_
          show own_R _ _ _ _ (s₁.setTop (mkF m 31 #[.val (.int p1)] [(.int p1)]))
          refine own_go (fun _ k => XS.bipush X0.here hx rfl (hb hby d1_31) k) ?_
          show own_R _ _ _ _ (s₁.setTop (mkF m 33 #[.val (.int p1)] [(.int (57 : Int32)), (.int p1)]))
          by_cases hc41 : (57 : Int32) < p1
          · refine own_go (fun _ k => XS.icmpNo X0.here hx rfl (hb hby d1_33) rfl (tlt hc41).2.2.2 k) ?_
            show own_R _ _ _ _ (s₁.setTop (mkF m 36 #[.val (.int p1)] []))
            refine own_go (fun _ k => XS.iloadN X0.here hx rfl (hb hby d1_36) rfl k) ?_
            show own_R _ _ _ _ (s₁.setTop (mkF m 37 #[.val (.int p1)] [(.int p1)]))
            refine own_go (fun _ k => XS.bipush X0.here hx rfl (hb hby d1_37) k) ?_
            show own_R _ _ _ _ (s₁.setTop (mkF m 39 #[.val (.int p1)] [(.int (95 : Int32)), (.int p1)]))
            by_cases hc42 : p1 = (95 : Int32)
            · refine own_go (fun _ k => XS.icmpYes X0.here hx rfl (pc0 := 39) (pc' := 72) rfl (hb hby d1_39) rfl (teq hc42).1 (by decide) (by decide) k) ?_
              show own_R _ _ _ _ (s₁.setTop (mkF m 72 #[.val (.int p1)] []))
              refine own_go (fun _ k => XS.iconst X0.here hx rfl (hb hby d1_72) k) ?_
              show own_R _ _ _ _ (s₁.setTop (mkF m 73 #[.val (.int p1)] [(.int (1 : Int32))]))
              refine own_go (fun _ k => XS.goto X0.here hx rfl (pc0 := 73) (pc' := 77) rfl (hb hby d1_73) (by decide) (by decide) k) ?_
              show own_R _ _ _ _ (s₁.setTop (mkF m 77 #[.val (.int p1)] [(.int (1 : Int32))]))
              exact own_retN X0 hx (t := .boolean) (by simp) Bd.returns (hb hby d1_77) hlk ⟨by rw [show own_pl p1 = (1 : Int32) from by simp [own_pl, hc1, hc32, hc33, hc34, hc41, hc42]]; rfl, NF, e0⟩ (by decide) (by decide)
            · refine own_go (fun _ k => XS.icmpNo X0.here hx rfl (hb hby d1_39) rfl (feq hc42).1 k) ?_
              show own_R _ _ _ _ (s₁.setTop (mkF m 42 #[.val (.int p1)] []))
              refine own_go (fun _ k => XS.iloadN X0.here hx rfl (hb hby d1_42) rfl k) ?_
              show own_R _ _ _ _ (s₁.setTop (mkF m 43 #[.val (.int p1)] [(.int p1)]))
              refine own_go (fun _ k => XS.bipush X0.here hx rfl (hb hby d1_43) k) ?_
              show own_R _ _ _ _ (s₁.setTop (mkF m 45 #[.val (.int p1)] [(.int (46 : Int32)), (.int p1)]))
              by_cases hc43 : p1 = (46 : Int32)
              · refine own_go (fun _ k => XS.icmpYes X0.here hx rfl (pc0 := 45) (pc' := 72) rfl (hb hby d1_45) rfl (teq hc43).1 (by decide) (by decide) k) ?_
                show own_R _ _ _ _ (s₁.setTop (mkF m 72 #[.val (.int p1)] []))
                refine own_go (fun _ k => XS.iconst X0.here hx rfl (hb hby d1_72) k) ?_
                show own_R _ _ _ _ (s₁.setTop (mkF m 73 #[.val (.int p1)] [(.int (1 : Int32))]))
                refine own_go (fun _ k => XS.goto X0.here hx rfl (pc0 := 73) (pc' := 77) rfl (hb hby d1_73) (by decide) (by decide) k) ?_
                show own_R _ _ _ _ (s₁.setTop (mkF m 77 #[.val (.int p1)] [(.int (1 : Int32))]))
                exact own_retN X0 hx (t := .boolean) (by simp) Bd.returns (hb hby d1_77) hlk ⟨by rw [show own_pl p1 = (1 : Int32) from by simp [own_pl, hc1, hc32, hc33, hc34, hc41, hc42, hc43]]; rfl, NF, e0⟩ (by decide) (by decide)
              · refine own_go (fun _ k => XS.icmpNo X0.here hx rfl (hb hby d1_45) rfl (feq hc43).1 k) ?_
                show own_R _ _ _ _ (s₁.setTop (mkF m 48 #[.val (.int p1)] []))
                refine own_go (fun _ k => XS.iloadN X0.here hx rfl (hb hby d1_48) rfl k) ?_
                show own_R _ _ _ _ (s₁.setTop (mkF m 49 #[.val (.int p1)] [(.int p1)]))
                refine own_go (fun _ k => XS.bipush X0.here hx rfl (hb hby d1_49) k) ?_
                show own_R _ _ _ _ (s₁.setTop (mkF m 51 #[.val (.int p1)] [(.int (58 : Int32)), (.int p1)]))
                by_cases hc44 : p1 = (58 : Int32)
                · refine own_go (fun _ k => XS.icmpYes X0.here hx rfl (pc0 := 51) (pc' := 72) rfl (hb hby d1_51) rfl (teq hc44).1 (by decide) (by decide) k) ?_
                  show own_R _ _ _ _ (s₁.setTop (mkF m 72 #[.val (.int p1)] []))
                  refine own_go (fun _ k => XS.iconst X0.here hx rfl (hb hby d1_72) k) ?_
                  show own_R _ _ _ _ (s₁.setTop (mkF m 73 #[.val (.int p1)] [(.int (1 : Int32))]))
                  refine own_go (fun _ k => XS.goto X0.here hx rfl (pc0 := 73) (pc' := 77) rfl (hb hby d1_73) (by decide) (by decide) k) ?_
                  show own_R _ _ _ _ (s₁.setTop (mkF m 77 #[.val (.int p1)] [(.int (1 : Int32))]))
                  exact own_retN X0 hx (t := .boolean) (by simp) Bd.returns (hb hby d1_77) hlk ⟨by rw [show own_pl p1 = (1 : Int32) from by simp [own_pl, hc1, hc32, hc33, hc34, hc41, hc42, hc43, hc44]]; rfl, NF, e0⟩ (by decide) (by decide)
                · refine own_go (fun _ k => XS.icmpNo X0.here hx rfl (hb hby d1_51) rfl (feq hc44).1 k) ?_
                  show own_R _ _ _ _ (s₁.setTop (mkF m 54 #[.val (.int p1)] []))
                  refine own_go (fun _ k => XS.iloadN X0.here hx rfl (hb hby d1_54) rfl k) ?_
                  show own_R _ _ _ _ (s₁.setTop (mkF m 55 #[.val (.int p1)] [(.int p1)]))
                  refine own_go (fun _ k => XS.bipush X0.here hx rfl (hb hby d1_55) k) ?_
                  show own_R _ _ _ _ (s₁.setTop (mkF m 57 #[.val (.int p1)] [(.int (64 : Int32)), (.int p1)]))
                  by_cases hc45 : p1 = (64 : Int32)
                  · refine own_go (fun _ k => XS.icmpYes X0.here hx rfl (pc0 := 57) (pc' := 72) rfl (hb hby d1_57) rfl (teq hc45).1 (by decide) (by decide) k) ?_
                    show own_R _ _ _ _ (s₁.setTop (mkF m 72 #[.val (.int p1)] []))
                    refine own_go (fun _ k => XS.iconst X0.here hx rfl (hb hby d1_72) k) ?_
                    show own_R _ _ _ _ (s₁.setTop (mkF m 73 #[.val (.int p1)] [(.int (1 : Int32))]))
                    refine own_go (fun _ k => XS.goto X0.here hx rfl (pc0 := 73) (pc' := 77) rfl (hb hby d1_73) (by decide) (by decide) k) ?_
                    show own_R _ _ _ _ (s₁.setTop (mkF m 77 #[.val (.int p1)] [(.int (1 : Int32))]))
                    exact own_retN X0 hx (t := .boolean) (by simp) Bd.returns (hb hby d1_77) hlk ⟨by rw [show own_pl p1 = (1 : Int32) from by simp [own_pl, hc1, hc32, hc33, hc34, hc41, hc42, hc43, hc44, hc45]]; rfl, NF, e0⟩ (by decide) (by decide)
                  · refine own_go (fun _ k => XS.icmpNo X0.here hx rfl (hb hby d1_57) rfl (feq hc45).1 k) ?_
                    show own_R _ _ _ _ (s₁.setTop (mkF m 60 #[.val (.int p1)] []))
                    refine own_go (fun _ k => XS.iloadN X0.here hx rfl (hb hby d1_60) rfl k) ?_
                    show own_R _ _ _ _ (s₁.setTop (mkF m 61 #[.val (.int p1)] [(.int p1)]))
                    refine own_go (fun _ k => XS.bipush X0.here hx rfl (hb hby d1_61) k) ?_
                    show own_R _ _ _ _ (s₁.setTop (mkF m 63 #[.val (.int p1)] [(.int (35 : Int32)), (.int p1)]))
                    by_cases hc46 : p1 = (35 : Int32)
                    · refine own_go (fun _ k => XS.icmpYes X0.here hx rfl (pc0 := 63) (pc' := 72) rfl (hb hby d1_63) rfl (teq hc46).1 (by decide) (by decide) k) ?_
                      show own_R _ _ _ _ (s₁.setTop (mkF m 72 #[.val (.int p1)] []))
                      refine own_go (fun _ k => XS.iconst X0.here hx rfl (hb hby d1_72) k) ?_
                      show own_R _ _ _ _ (s₁.setTop (mkF m 73 #[.val (.int p1)] [(.int (1 : Int32))]))
                      refine own_go (fun _ k => XS.goto X0.here hx rfl (pc0 := 73) (pc' := 77) rfl (hb hby d1_73) (by decide) (by decide) k) ?_
                      show own_R _ _ _ _ (s₁.setTop (mkF m 77 #[.val (.int p1)] [(.int (1 : Int32))]))
                      exact own_retN X0 hx (t := .boolean) (by simp) Bd.returns (hb hby d1_77) hlk ⟨by rw [show own_pl p1 = (1 : Int32) from by simp [own_pl, hc1, hc32, hc33, hc34, hc41, hc42, hc43, hc44, hc45, hc46]]; rfl, NF, e0⟩ (by decide) (by decide)
                    · refine own_go (fun _ k => XS.icmpNo X0.here hx rfl (hb hby d1_63) rfl (feq hc46).1 k) ?_
                      show own_R _ _ _ _ (s₁.setTop (mkF m 66 #[.val (.int p1)] []))
                      refine own_go (fun _ k => XS.iloadN X0.here hx rfl (hb hby d1_66) rfl k) ?_
                      show own_R _ _ _ _ (s₁.setTop (mkF m 67 #[.val (.int p1)] [(.int p1)]))
                      refine own_go (fun _ k => XS.bipush X0.here hx rfl (hb hby d1_67) k) ?_
                      show own_R _ _ _ _ (s₁.setTop (mkF m 69 #[.val (.int p1)] [(.int (45 : Int32)), (.int p1)]))
                      by_cases hc47 : p1 = (45 : Int32)
                      · refine own_go (fun _ k => XS.icmpNo X0.here hx rfl (hb hby d1_69) rfl (teq hc47).2 k) ?_
                        show own_R _ _ _ _ (s₁.setTop (mkF m 72 #[.val (.int p1)] []))
                        refine own_go (fun _ k => XS.iconst X0.here hx rfl (hb hby d1_72) k) ?_
                        show own_R _ _ _ _ (s₁.setTop (mkF m 73 #[.val (.int p1)] [(.int (1 : Int32))]))
                        refine own_go (fun _ k => XS.goto X0.here hx rfl (pc0 := 73) (pc' := 77) rfl (hb hby d1_73) (by decide) (by decide) k) ?_
                        show own_R _ _ _ _ (s₁.setTop (mkF m 77 #[.val (.int p1)] [(.int (1 : Int32))]))
                        exact own_retN X0 hx (t := .boolean) (by simp) Bd.returns (hb hby d1_77) hlk ⟨by rw [show own_pl p1 = (1 : Int32) from by simp [own_pl, hc1, hc32, hc33, hc34, hc41, hc42, hc43, hc44, hc45, hc46, hc47]]; rfl, NF, e0⟩ (by decide) (by decide)
                      · refine own_go (fun _ k => XS.icmpYes X0.here hx rfl (pc0 := 69) (pc' := 76) rfl (hb hby d1_69) rfl (feq hc47).2 (by decide) (by decide) k) ?_
                        show own_R _ _ _ _ (s₁.setTop (mkF m 76 #[.val (.int p1)] []))
                        refine own_go (fun _ k => XS.iconst X0.here hx rfl (hb hby d1_76) k) ?_
                        show own_R _ _ _ _ (s₁.setTop (mkF m 77 #[.val (.int p1)] [(.int (0 : Int32))]))
                        exact own_retN X0 hx (t := .boolean) (by simp) Bd.returns (hb hby d1_77) hlk ⟨by rw [show own_pl p1 = (0 : Int32) from by simp [own_pl, hc1, hc32, hc33, hc34, hc41, hc42, hc43, hc44, hc45, hc46, hc47]]; rfl, NF, e0⟩ (by decide) (by decide)
          · refine own_go (fun _ k => XS.icmpYes X0.here hx rfl (pc0 := 33) (pc' := 72) rfl (hb hby d1_33) rfl (flt hc41).2.2.2 (by decide) (by decide) k) ?_
            show own_R _ _ _ _ (s₁.setTop (mkF m 72 #[.val (.int p1)] []))
            refine own_go (fun _ k => XS.iconst X0.here hx rfl (hb hby d1_72) k) ?_
            show own_R _ _ _ _ (s₁.setTop (mkF m 73 #[.val (.int p1)] [(.int (1 : Int32))]))
            refine own_go (fun _ k => XS.goto X0.here hx rfl (pc0 := 73) (pc' := 77) rfl (hb hby d1_73) (by decide) (by decide) k) ?_
            show own_R _ _ _ _ (s₁.setTop (mkF m 77 #[.val (.int p1)] [(.int (1 : Int32))]))
            exact own_retN X0 hx (t := .boolean) (by simp) Bd.returns (hb hby d1_77) hlk ⟨by rw [show own_pl p1 = (1 : Int32) from by simp [own_pl, hc1, hc32, hc33, hc34, hc41]]; rfl, NF, e0⟩ (by decide) (by decide)
      · refine own_go (fun _ k => XS.icmpNo X0.here hx rfl (hb hby d1_15) rfl (flt hc33).1 k) ?_
        show own_R _ _ _ _ (s₁.setTop (mkF m 18 #[.val (.int p1)] []))
        refine own_go (fun _ k => XS.iloadN X0.here hx rfl (hb hby d1_18) rfl k) ?_
        show own_R _ _ _ _ (s₁.setTop (mkF m 19 #[.val (.int p1)] [(.int p1)]))
        refine own_go (fun _ k => XS.bipush X0.here hx rfl (hb hby d1_19) k) ?_
        show own_R _ _ _ _ (s₁.setTop (mkF m 21 #[.val (.int p1)] [(.int (90 : Int32)), (.int p1)]))
        by_cases hc48 : (90 : Int32) < p1
        · refine own_go (fun _ k => XS.icmpNo X0.here hx rfl (hb hby d1_21) rfl (tlt hc48).2.2.2 k) ?_
          show own_R _ _ _ _ (s₁.setTop (mkF m 24 #[.val (.int p1)] []))
          refine own_go (fun _ k => XS.iloadN X0.here hx rfl (hb hby d1_24) rfl k) ?_
          show own_R _ _ _ _ (s₁.setTop (mkF m 25 #[.val (.int p1)] [(.int p1)]))
          refine own_go (fun _ k => XS.bipush X0.here hx rfl (hb hby d1_25) k) ?_
          show own_R _ _ _ _ (s₁.setTop (mkF m 27 #[.val (.int p1)] [(.int (48 : Int32)), (.int p1)]))
          by_cases hc49 : p1 < (48 : Int32)
          · refine own_go (fun _ k => XS.icmpYes X0.here hx rfl (pc0 := 27) (pc' := 36) rfl (hb hby d1_27) rfl (tlt hc49).1 (by decide) (by decide) k) ?_
            show own_R _ _ _ _ (s₁.setTop (mkF m 36 #[.val (.int p1)] []))
            refine own_go (fun _ k => XS.iloadN X0.here hx rfl (hb hby d1_36) rfl k) ?_
            show own_R _ _ _ _ (s₁.setTop (mkF m 37 #[.val (.int p1)] [(.int p1)]))
            refine own_go (fun _ k => XS.bipush X0.here hx rfl (hb hby d1_37) k) ?_
            show own_R _ _ _ _ (s₁.setTop (mkF m 39 #[.val (.int p1)] [(.int (95 : Int32)), (.int p1)]))
            by_cases hc50 : p1 = (95 : Int32)
            · refine own_go (fun _ k => XS.icmpYes X0.here hx rfl (pc0 := 39) (pc' := 72) rfl (hb hby d1_39) rfl (teq hc50).1 (by decide) (by decide) k) ?_
              show own_R _ _ _ _ (s₁.setTop (mkF m 72 #[.val (.int p1)] []))
              refine own_go (fun _ k => XS.iconst X0.here hx rfl (hb hby d1_72) k) ?_
              show own_R _ _ _ _ (s₁.setTop (mkF m 73 #[.val (.int p1)] [(.int (1 : Int32))]))
              refine own_go (fun _ k => XS.goto X0.here hx rfl (pc0 := 73) (pc' := 77) rfl (hb hby d1_73) (by decide) (by decide) k) ?_
              show own_R _ _ _ _ (s₁.setTop (mkF m 77 #[.val (.int p1)] [(.int (1 : Int32))]))
              exact own_retN X0 hx (t := .boolean) (by simp) Bd.returns (hb hby d1_77) hlk ⟨by rw [show own_pl p1 = (1 : Int32) from by simp [own_pl, hc1, hc32, hc33, hc48, hc49, hc50]]; rfl, NF, e0⟩ (by decide) (by decide)
            · refine own_go (fun _ k => XS.icmpNo X0.here hx rfl (hb hby d1_39) rfl (feq hc50).1 k) ?_
              show own_R _ _ _ _ (s₁.setTop (mkF m 42 #[.val (.int p1)] []))
              refine own_go (fun _ k => XS.iloadN X0.here hx rfl (hb hby d1_42) rfl k) ?_
              show own_R _ _ _ _ (s₁.setTop (mkF m 43 #[.val (.int p1)] [(.int p1)]))
              refine own_go (fun _ k => XS.bipush X0.here hx rfl (hb hby d1_43) k) ?_
              show own_R _ _ _ _ (s₁.setTop (mkF m 45 #[.val (.int p1)] [(.int (46 : Int32)), (.int p1)]))
              by_cases hc51 : p1 = (46 : Int32)
              · refine own_go (fun _ k => XS.icmpYes X0.here hx rfl (pc0 := 45) (pc' := 72) rfl (hb hby d1_45) rfl (teq hc51).1 (by decide) (by decide) k) ?_
                show own_R _ _ _ _ (s₁.setTop (mkF m 72 #[.val (.int p1)] []))
                refine own_go (fun _ k => XS.iconst X0.here hx rfl (hb hby d1_72) k) ?_
                show own_R _ _ _ _ (s₁.setTop (mkF m 73 #[.val (.int p1)] [(.int (1 : Int32))]))
                refine own_go (fun _ k => XS.goto X0.here hx rfl (pc0 := 73) (pc' := 77) rfl (hb hby d1_73) (by decide) (by decide) k) ?_
                show own_R _ _ _ _ (s₁.setTop (mkF m 77 #[.val (.int p1)] [(.int (1 : Int32))]))
                exact own_retN X0 hx (t := .boolean) (by simp) Bd.returns (hb hby d1_77) hlk ⟨by rw [show own_pl p1 = (1 : Int32) from by simp [own_pl, hc1, hc32, hc33, hc48, hc49, hc50, hc51]]; rfl, NF, e0⟩ (by decide) (by decide)
              · refine own_go (fun _ k => XS.icmpNo X0.here hx rfl (hb hby d1_45) rfl (feq hc51).1 k) ?_
                show own_R _ _ _ _ (s₁.setTop (mkF m 48 #[.val (.int p1)] []))
                refine own_go (fun _ k => XS.iloadN X0.here hx rfl (hb hby d1_48) rfl k) ?_
                show own_R _ _ _ _ (s₁.setTop (mkF m 49 #[.val (.int p1)] [(.int p1)]))
                refine own_go (fun _ k => XS.bipush X0.here hx rfl (hb hby d1_49) k) ?_
                show own_R _ _ _ _ (s₁.setTop (mkF m 51 #[.val (.int p1)] [(.int (58 : Int32)), (.int p1)]))
                by_cases hc52 : p1 = (58 : Int32)
                · refine own_go (fun _ k => XS.icmpYes X0.here hx rfl (pc0 := 51) (pc' := 72) rfl (hb hby d1_51) rfl (teq hc52).1 (by decide) (by decide) k) ?_
                  show own_R _ _ _ _ (s₁.setTop (mkF m 72 #[.val (.int p1)] []))
                  refine own_go (fun _ k => XS.iconst X0.here hx rfl (hb hby d1_72) k) ?_
                  show own_R _ _ _ _ (s₁.setTop (mkF m 73 #[.val (.int p1)] [(.int (1 : Int32))]))
                  refine own_go (fun _ k => XS.goto X0.here hx rfl (pc0 := 73) (pc' := 77) rfl (hb hby d1_73) (by decide) (by decide) k) ?_
                  show own_R _ _ _ _ (s₁.setTop (mkF m 77 #[.val (.int p1)] [(.int (1 : Int32))]))
                  exact own_retN X0 hx (t := .boolean) (by simp) Bd.returns (hb hby d1_77) hlk ⟨by rw [show own_pl p1 = (1 : Int32) from by simp [own_pl, hc1, hc32, hc33, hc48, hc49, hc50, hc51, hc52]]; rfl, NF, e0⟩ (by decide) (by decide)
                · refine own_go (fun _ k => XS.icmpNo X0.here hx rfl (hb hby d1_51) rfl (feq hc52).1 k) ?_
                  show own_R _ _ _ _ (s₁.setTop (mkF m 54 #[.val (.int p1)] []))
                  refine own_go (fun _ k => XS.iloadN X0.here hx rfl (hb hby d1_54) rfl k) ?_
                  show own_R _ _ _ _ (s₁.setTop (mkF m 55 #[.val (.int p1)] [(.int p1)]))
                  refine own_go (fun _ k => XS.bipush X0.here hx rfl (hb hby d1_55) k) ?_
                  show own_R _ _ _ _ (s₁.setTop (mkF m 57 #[.val (.int p1)] [(.int (64 : Int32)), (.int p1)]))
                  by_cases hc53 : p1 = (64 : Int32)
                  · refine own_go (fun _ k => XS.icmpYes X0.here hx rfl (pc0 := 57) (pc' := 72) rfl (hb hby d1_57) rfl (teq hc53).1 (by decide) (by decide) k) ?_
                    show own_R _ _ _ _ (s₁.setTop (mkF m 72 #[.val (.int p1)] []))
                    refine own_go (fun _ k => XS.iconst X0.here hx rfl (hb hby d1_72) k) ?_
                    show own_R _ _ _ _ (s₁.setTop (mkF m 73 #[.val (.int p1)] [(.int (1 : Int32))]))
                    refine own_go (fun _ k => XS.goto X0.here hx rfl (pc0 := 73) (pc' := 77) rfl (hb hby d1_73) (by decide) (by decide) k) ?_
                    show own_R _ _ _ _ (s₁.setTop (mkF m 77 #[.val (.int p1)] [(.int (1 : Int32))]))
                    exact own_retN X0 hx (t := .boolean) (by simp) Bd.returns (hb hby d1_77) hlk ⟨by rw [show own_pl p1 = (1 : Int32) from by simp [own_pl, hc1, hc32, hc33, hc48, hc49, hc50, hc51, hc52, hc53]]; rfl, NF, e0⟩ (by decide) (by decide)
                  · refine own_go (fun _ k => XS.icmpNo X0.here hx rfl (hb hby d1_57) rfl (feq hc53).1 k) ?_
                    show own_R _ _ _ _ (s₁.setTop (mkF m 60 #[.val (.int p1)] []))
                    refine own_go (fun _ k => XS.iloadN X0.here hx rfl (hb hby d1_60) rfl k) ?_
                    show own_R _ _ _ _ (s₁.setTop (mkF m 61 #[.val (.int p1)] [(.int p1)]))
                    refine own_go (fun _ k => XS.bipush X0.here hx rfl (hb hby d1_61) k) ?_
                    show own_R _ _ _ _ (s₁.setTop (mkF m 63 #[.val (.int p1)] [(.int (35 : Int32)), (.int p1)]))
                    by_cases hc54 : p1 = (35 : Int32)
                    · refine own_go (fun _ k => XS.icmpYes X0.here hx rfl (pc0 := 63) (pc' := 72) rfl (hb hby d1_63) rfl (teq hc54).1 (by decide) (by decide) k) ?_
                      show own_R _ _ _ _ (s₁.setTop (mkF m 72 #[.val (.int p1)] []))
                      refine own_go (fun _ k => XS.iconst X0.here hx rfl (hb hby d1_72) k) ?_
                      show own_R _ _ _ _ (s₁.setTop (mkF m 73 #[.val (.int p1)] [(.int (1 : Int32))]))
                      refine own_go (fun _ k => XS.goto X0.here hx rfl (pc0 := 73) (pc' := 77) rfl (hb hby d1_73) (by decide) (by decide) k) ?_
                      show own_R _ _ _ _ (s₁.setTop (mkF m 77 #[.val (.int p1)] [(.int (1 : Int32))]))
                      exact own_retN X0 hx (t := .boolean) (by simp) Bd.returns (hb hby d1_77) hlk ⟨by rw [show own_pl p1 = (1 : Int32) from by simp [own_pl, hc1, hc32, hc33, hc48, hc49, hc50, hc51, hc52, hc53, hc54]]; rfl, NF, e0⟩ (by decide) (by decide)
                    · refine own_go (fun _ k => XS.icmpNo X0.here hx rfl (hb hby d1_63) rfl (feq hc54).1 k) ?_
                      show own_R _ _ _ _ (s₁.setTop (mkF m 66 #[.val (.int p1)] []))
                      refine own_go (fun _ k => XS.iloadN X0.here hx rfl (hb hby d1_66) rfl k) ?_
                      show own_R _ _ _ _ (s₁.setTop (mkF m 67 #[.val (.int p1)] [(.int p1)]))
                      refine own_go (fun _ k => XS.bipush X0.here hx rfl (hb hby d1_67) k) ?_
                      show own_R _ _ _ _ (s₁.setTop (mkF m 69 #[.val (.int p1)] [(.int (45 : Int32)), (.int p1)]))
                      by_cases hc55 : p1 = (45 : Int32)
                      · refine own_go (fun _ k => XS.icmpNo X0.here hx rfl (hb hby d1_69) rfl (teq hc55).2 k) ?_
                        show own_R _ _ _ _ (s₁.setTop (mkF m 72 #[.val (.int p1)] []))
                        refine own_go (fun _ k => XS.iconst X0.here hx rfl (hb hby d1_72) k) ?_
                        show own_R _ _ _ _ (s₁.setTop (mkF m 73 #[.val (.int p1)] [(.int (1 : Int32))]))
                        refine own_go (fun _ k => XS.goto X0.here hx rfl (pc0 := 73) (pc' := 77) rfl (hb hby d1_73) (by decide) (by decide) k) ?_
                        show own_R _ _ _ _ (s₁.setTop (mkF m 77 #[.val (.int p1)] [(.int (1 : Int32))]))
                        exact own_retN X0 hx (t := .boolean) (by simp) Bd.returns (hb hby d1_77) hlk ⟨by rw [show own_pl p1 = (1 : Int32) from by simp [own_pl, hc1, hc32, hc33, hc48, hc49, hc50, hc51, hc52, hc53, hc54, hc55]]; rfl, NF, e0⟩ (by decide) (by decide)
                      · refine own_go (fun _ k => XS.icmpYes X0.here hx rfl (pc0 := 69) (pc' := 76) rfl (hb hby d1_69) rfl (feq hc55).2 (by decide) (by decide) k) ?_
                        show own_R _ _ _ _ (s₁.setTop (mkF m 76 #[.val (.int p1)] []))
                        refine own_go (fun _ k => XS.iconst X0.here hx rfl (hb hby d1_76) k) ?_
                        show own_R _ _ _ _ (s₁.setTop (mkF m 77 #[.val (.int p1)] [(.int (0 : Int32))]))
                        exact own_retN X0 hx (t := .boolean) (by simp) Bd.returns (hb hby d1_77) hlk ⟨by rw [show own_pl p1 = (0 : Int32) from by simp [own_pl, hc1, hc32, hc33, hc48, hc49, hc50, hc51, hc52, hc53, hc54, hc55]]; rfl, NF, e0⟩ (by decide) (by decide)
          · refine own_go (fun _ k => XS.icmpNo X0.here hx rfl (hb hby d1_27) rfl (flt hc49).1 k) ?_
            show own_R _ _ _ _ (s₁.setTop (mkF m 30 #[.val (.int p1)] []))
            refine own_go (fun _ k => XS.iloadN X0.here hx rfl (hb hby d1_30) rfl k) ?_
            show own_R _ _ _ _ (s₁.setTop (mkF m 31 #[.val (.int p1)] [(.int p1)]))
            refine own_go (fun _ k => XS.bipush X0.here hx rfl (hb hby d1_31) k) ?_
            show own_R _ _ _ _ (s₁.setTop (mkF m 33 #[.val (.int p1)] [(.int (57 : Int32)), (.int p1)]))
            by_cases hc56 : (57 : Int32) < p1
            · refine own_go (fun _ k => XS.icmpNo X0.here hx rfl (hb hby d1_33) rfl (tlt hc56).2.2.2 k) ?_
              show own_R _ _ _ _ (s₁.setTop (mkF m 36 #[.val (.int p1)] []))
              refine own_go (fun _ k => XS.iloadN X0.here hx rfl (hb hby d1_36) rfl k) ?_
              show own_R _ _ _ _ (s₁.setTop (mkF m 37 #[.val (.int p1)] [(.int p1)]))
              refine own_go (fun _ k => XS.bipush X0.here hx rfl (hb hby d1_37) k) ?_
              show own_R _ _ _ _ (s₁.setTop (mkF m 39 #[.val (.int p1)] [(.int (95 : Int32)), (.int p1)]))
              by_cases hc57 : p1 = (95 : Int32)
              · refine own_go (fun _ k => XS.icmpYes X0.here hx rfl (pc0 := 39) (pc' := 72) rfl (hb hby d1_39) rfl (teq hc57).1 (by decide) (by decide) k) ?_
                show own_R _ _ _ _ (s₁.setTop (mkF m 72 #[.val (.int p1)] []))
                refine own_go (fun _ k => XS.iconst X0.here hx rfl (hb hby d1_72) k) ?_
                show own_R _ _ _ _ (s₁.setTop (mkF m 73 #[.val (.int p1)] [(.int (1 : Int32))]))
                refine own_go (fun _ k => XS.goto X0.here hx rfl (pc0 := 73) (pc' := 77) rfl (hb hby d1_73) (by decide) (by decide) k) ?_
                show own_R _ _ _ _ (s₁.setTop (mkF m 77 #[.val (.int p1)] [(.int (1 : Int32))]))
                exact own_retN X0 hx (t := .boolean) (by simp) Bd.returns (hb hby d1_77) hlk ⟨by rw [show own_pl p1 = (1 : Int32) from by simp [own_pl, hc1, hc32, hc33, hc48, hc49, hc56, hc57]]; rfl, NF, e0⟩ (by decide) (by decide)
              · refine own_go (fun _ k => XS.icmpNo X0.here hx rfl (hb hby d1_39) rfl (feq hc57).1 k) ?_
                show own_R _ _ _ _ (s₁.setTop (mkF m 42 #[.val (.int p1)] []))
                refine own_go (fun _ k => XS.iloadN X0.here hx rfl (hb hby d1_42) rfl k) ?_
                show own_R _ _ _ _ (s₁.setTop (mkF m 43 #[.val (.int p1)] [(.int p1)]))
                refine own_go (fun _ k => XS.bipush X0.here hx rfl (hb hby d1_43) k) ?_
                show own_R _ _ _ _ (s₁.setTop (mkF m 45 #[.val (.int p1)] [(.int (46 : Int32)), (.int p1)]))
                by_cases hc58 : p1 = (46 : Int32)
                · refine own_go (fun _ k => XS.icmpYes X0.here hx rfl (pc0 := 45) (pc' := 72) rfl (hb hby d1_45) rfl (teq hc58).1 (by decide) (by decide) k) ?_
                  show own_R _ _ _ _ (s₁.setTop (mkF m 72 #[.val (.int p1)] []))
                  refine own_go (fun _ k => XS.iconst X0.here hx rfl (hb hby d1_72) k) ?_
                  show own_R _ _ _ _ (s₁.setTop (mkF m 73 #[.val (.int p1)] [(.int (1 : Int32))]))
                  refine own_go (fun _ k => XS.goto X0.here hx rfl (pc0 := 73) (pc' := 77) rfl (hb hby d1_73) (by decide) (by decide) k) ?_
                  show own_R _ _ _ _ (s₁.setTop (mkF m 77 #[.val (.int p1)] [(.int (1 : Int32))]))
                  exact own_retN X0 hx (t := .boolean) (by simp) Bd.returns (hb hby d1_77) hlk ⟨by rw [show own_pl p1 = (1 : Int32) from by simp [own_pl, hc1, hc32, hc33, hc48, hc49, hc56, hc57, hc58]]; rfl, NF, e0⟩ (by decide) (by decide)
                · refine own_go (fun _ k => XS.icmpNo X0.here hx rfl (hb hby d1_45) rfl (feq hc58).1 k) ?_
                  show own_R _ _ _ _ (s₁.setTop (mkF m 48 #[.val (.int p1)] []))
                  refine own_go (fun _ k => XS.iloadN X0.here hx rfl (hb hby d1_48) rfl k) ?_
                  show own_R _ _ _ _ (s₁.setTop (mkF m 49 #[.val (.int p1)] [(.int p1)]))
                  refine own_go (fun _ k => XS.bipush X0.here hx rfl (hb hby d1_49) k) ?_
                  show own_R _ _ _ _ (s₁.setTop (mkF m 51 #[.val (.int p1)] [(.int (58 : Int32)), (.int p1)]))
                  by_cases hc59 : p1 = (58 : Int32)
                  · refine own_go (fun _ k => XS.icmpYes X0.here hx rfl (pc0 := 51) (pc' := 72) rfl (hb hby d1_51) rfl (teq hc59).1 (by decide) (by decide) k) ?_
                    show own_R _ _ _ _ (s₁.setTop (mkF m 72 #[.val (.int p1)] []))
                    refine own_go (fun _ k => XS.iconst X0.here hx rfl (hb hby d1_72) k) ?_
                    show own_R _ _ _ _ (s₁.setTop (mkF m 73 #[.val (.int p1)] [(.int (1 : Int32))]))
                    refine own_go (fun _ k => XS.goto X0.here hx rfl (pc0 := 73) (pc' := 77) rfl (hb hby d1_73) (by decide) (by decide) k) ?_
                    show own_R _ _ _ _ (s₁.setTop (mkF m 77 #[.val (.int p1)] [(.int (1 : Int32))]))
                    exact own_retN X0 hx (t := .boolean) (by simp) Bd.returns (hb hby d1_77) hlk ⟨by rw [show own_pl p1 = (1 : Int32) from by simp [own_pl, hc1, hc32, hc33, hc48, hc49, hc56, hc57, hc58, hc59]]; rfl, NF, e0⟩ (by decide) (by decide)
                  · refine own_go (fun _ k => XS.icmpNo X0.here hx rfl (hb hby d1_51) rfl (feq hc59).1 k) ?_
                    show own_R _ _ _ _ (s₁.setTop (mkF m 54 #[.val (.int p1)] []))
                    refine own_go (fun _ k => XS.iloadN X0.here hx rfl (hb hby d1_54) rfl k) ?_
                    show own_R _ _ _ _ (s₁.setTop (mkF m 55 #[.val (.int p1)] [(.int p1)]))
                    refine own_go (fun _ k => XS.bipush X0.here hx rfl (hb hby d1_55) k) ?_
                    show own_R _ _ _ _ (s₁.setTop (mkF m 57 #[.val (.int p1)] [(.int (64 : Int32)), (.int p1)]))
                    by_cases hc60 : p1 = (64 : Int32)
                    · refine own_go (fun _ k => XS.icmpYes X0.here hx rfl (pc0 := 57) (pc' := 72) rfl (hb hby d1_57) rfl (teq hc60).1 (by decide) (by decide) k) ?_
                      show own_R _ _ _ _ (s₁.setTop (mkF m 72 #[.val (.int p1)] []))
                      refine own_go (fun _ k => XS.iconst X0.here hx rfl (hb hby d1_72) k) ?_
                      show own_R _ _ _ _ (s₁.setTop (mkF m 73 #[.val (.int p1)] [(.int (1 : Int32))]))
                      refine own_go (fun _ k => XS.goto X0.here hx rfl (pc0 := 73) (pc' := 77) rfl (hb hby d1_73) (by decide) (by decide) k) ?_
                      show own_R _ _ _ _ (s₁.setTop (mkF m 77 #[.val (.int p1)] [(.int (1 : Int32))]))
                      exact own_retN X0 hx (t := .boolean) (by simp) Bd.returns (hb hby d1_77) hlk ⟨by rw [show own_pl p1 = (1 : Int32) from by simp [own_pl, hc1, hc32, hc33, hc48, hc49, hc56, hc57, hc58, hc59, hc60]]; rfl, NF, e0⟩ (by decide) (by decide)
                    · refine own_go (fun _ k => XS.icmpNo X0.here hx rfl (hb hby d1_57) rfl (feq hc60).1 k) ?_
                      show own_R _ _ _ _ (s₁.setTop (mkF m 60 #[.val (.int p1)] []))
                      refine own_go (fun _ k => XS.iloadN X0.here hx rfl (hb hby d1_60) rfl k) ?_
                      show own_R _ _ _ _ (s₁.setTop (mkF m 61 #[.val (.int p1)] [(.int p1)]))
                      refine own_go (fun _ k => XS.bipush X0.here hx rfl (hb hby d1_61) k) ?_
                      show own_R _ _ _ _ (s₁.setTop (mkF m 63 #[.val (.int p1)] [(.int (35 : Int32)), (.int p1)]))
                      by_cases hc61 : p1 = (35 : Int32)
                      · refine own_go (fun _ k => XS.icmpYes X0.here hx rfl (pc0 := 63) (pc' := 72) rfl (hb hby d1_63) rfl (teq hc61).1 (by decide) (by decide) k) ?_
                        show own_R _ _ _ _ (s₁.setTop (mkF m 72 #[.val (.int p1)] []))
                        refine own_go (fun _ k => XS.iconst X0.here hx rfl (hb hby d1_72) k) ?_
                        show own_R _ _ _ _ (s₁.setTop (mkF m 73 #[.val (.int p1)] [(.int (1 : Int32))]))
                        refine own_go (fun _ k => XS.goto X0.here hx rfl (pc0 := 73) (pc' := 77) rfl (hb hby d1_73) (by decide) (by decide) k) ?_
                        show own_R _ _ _ _ (s₁.setTop (mkF m 77 #[.val (.int p1)] [(.int (1 : Int32))]))
                        exact own_retN X0 hx (t := .boolean) (by simp) Bd.returns (hb hby d1_77) hlk ⟨by rw [show own_pl p1 = (1 : Int32) from by simp [own_pl, hc1, hc32, hc33, hc48, hc49, hc56, hc57, hc58, hc59, hc60, hc61]]; rfl, NF, e0⟩ (by decide) (by decide)
                      · refine own_go (fun _ k => XS.icmpNo X0.here hx rfl (hb hby d1_63) rfl (feq hc61).1 k) ?_
                        show own_R _ _ _ _ (s₁.setTop (mkF m 66 #[.val (.int p1)] []))
                        refine own_go (fun _ k => XS.iloadN X0.here hx rfl (hb hby d1_66) rfl k) ?_
                        show own_R _ _ _ _ (s₁.setTop (mkF m 67 #[.val (.int p1)] [(.int p1)]))
                        refine own_go (fun _ k => XS.bipush X0.here hx rfl (hb hby d1_67) k) ?_
                        show own_R _ _ _ _ (s₁.setTop (mkF m 69 #[.val (.int p1)] [(.int (45 : Int32)), (.int p1)]))
                        by_cases hc62 : p1 = (45 : Int32)
                        · refine own_go (fun _ k => XS.icmpNo X0.here hx rfl (hb hby d1_69) rfl (teq hc62).2 k) ?_
                          show own_R _ _ _ _ (s₁.setTop (mkF m 72 #[.val (.int p1)] []))
                          refine own_go (fun _ k => XS.iconst X0.here hx rfl (hb hby d1_72) k) ?_
                          show own_R _ _ _ _ (s₁.setTop (mkF m 73 #[.val (.int p1)] [(.int (1 : Int32))]))
                          refine own_go (fun _ k => XS.goto X0.here hx rfl (pc0 := 73) (pc' := 77) rfl (hb hby d1_73) (by decide) (by decide) k) ?_
                          show own_R _ _ _ _ (s₁.setTop (mkF m 77 #[.val (.int p1)] [(.int (1 : Int32))]))
                          exact own_retN X0 hx (t := .boolean) (by simp) Bd.returns (hb hby d1_77) hlk ⟨by rw [show own_pl p1 = (1 : Int32) from by simp [own_pl, hc1, hc32, hc33, hc48, hc49, hc56, hc57, hc58, hc59, hc60, hc61, hc62]]; rfl, NF, e0⟩ (by decide) (by decide)
                        · refine own_go (fun _ k => XS.icmpYes X0.here hx rfl (pc0 := 69) (pc' := 76) rfl (hb hby d1_69) rfl (feq hc62).2 (by decide) (by decide) k) ?_
                          show own_R _ _ _ _ (s₁.setTop (mkF m 76 #[.val (.int p1)] []))
                          refine own_go (fun _ k => XS.iconst X0.here hx rfl (hb hby d1_76) k) ?_
                          show own_R _ _ _ _ (s₁.setTop (mkF m 77 #[.val (.int p1)] [(.int (0 : Int32))]))
                          exact own_retN X0 hx (t := .boolean) (by simp) Bd.returns (hb hby d1_77) hlk ⟨by rw [show own_pl p1 = (0 : Int32) from by simp [own_pl, hc1, hc32, hc33, hc48, hc49, hc56, hc57, hc58, hc59, hc60, hc61, hc62]]; rfl, NF, e0⟩ (by decide) (by decide)
            · refine own_go (fun _ k => XS.icmpYes X0.here hx rfl (pc0 := 33) (pc' := 72) rfl (hb hby d1_33) rfl (flt hc56).2.2.2 (by decide) (by decide) k) ?_
              show own_R _ _ _ _ (s₁.setTop (mkF m 72 #[.val (.int p1)] []))
              refine own_go (fun _ k => XS.iconst X0.here hx rfl (hb hby d1_72) k) ?_
              show own_R _ _ _ _ (s₁.setTop (mkF m 73 #[.val (.int p1)] [(.int (1 : Int32))]))
              refine own_go (fun _ k => XS.goto X0.here hx rfl (pc0 := 73) (pc' := 77) rfl (hb hby d1_73) (by decide) (by decide) k) ?_
              show own_R _ _ _ _ (s₁.setTop (mkF m 77 #[.val (.int p1)] [(.int (1 : Int32))]))
              exact own_retN X0 hx (t := .boolean) (by simp) Bd.returns (hb hby d1_77) hlk ⟨by rw [show own_pl p1 = (1 : Int32) from by simp [own_pl, hc1, hc32, hc33, hc48, hc49, hc56]]; rfl, NF, e0⟩ (by decide) (by decide)
        · refine own_go (fun _ k => XS.icmpYes X0.here hx rfl (pc0 := 21) (pc' := 72) rfl (hb hby d1_21) rfl (flt hc48).2.2.2 (by decide) (by decide) k) ?_
          show own_R _ _ _ _ (s₁.setTop (mkF m 72 #[.val (.int p1)] []))
          refine own_go (fun _ k => XS.iconst X0.here hx rfl (hb hby d1_72) k) ?_
          show own_R _ _ _ _ (s₁.setTop (mkF m 73 #[.val (.int p1)] [(.int (1 : Int32))]))
          refine own_go (fun _ k => XS.goto X0.here hx rfl (pc0 := 73) (pc' := 77) rfl (hb hby d1_73) (by decide) (by decide) k) ?_
          show own_R _ _ _ _ (s₁.setTop (mkF m 77 #[.val (.int p1)] [(.int (1 : Int32))]))
          exact own_retN X0 hx (t := .boolean) (by simp) Bd.returns (hb hby d1_77) hlk ⟨by rw [show own_pl p1 = (1 : Int32) from by simp [own_pl, hc1, hc32, hc33, hc48]]; rfl, NF, e0⟩ (by decide) (by decide)
    · refine own_go (fun _ k => XS.icmpYes X0.here hx rfl (pc0 := 9) (pc' := 72) rfl (hb hby d1_9) rfl (flt hc32).2.2.2 (by decide) (by decide) k) ?_
      show own_R _ _ _ _ (s₁.setTop (mkF m 72 #[.val (.int p1)] []))
      refine own_go (fun _ k => XS.iconst X0.here hx rfl (hb hby d1_72) k) ?_
      show own_R _ _ _ _ (s₁.setTop (mkF m 73 #[.val (.int p1)] [(.int (1 : Int32))]))
      refine own_go (fun _ k => XS.goto X0.here hx rfl (pc0 := 73) (pc' := 77) rfl (hb hby d1_73) (by decide) (by decide) k) ?_
      show own_R _ _ _ _ (s₁.setTop (mkF m 77 #[.val (.int p1)] [(.int (1 : Int32))]))
      exact own_retN X0 hx (t := .boolean) (by simp) Bd.returns (hb hby d1_77) hlk ⟨by rw [show own_pl p1 = (1 : Int32) from by simp [own_pl, hc1, hc32]]; rfl, NF, e0⟩ (by decide) (by decide)
theorem d2_0 : decode method_2_code 0 = .ok (.iload_n 0, 1) := by decide +kernel
theorem d2_1 : decode method_2_code 1 = .ok (.ifCond .lt 9, 3) := by decide +kernel
theorem d2_4 : decode method_2_code 4 = .ok (.iload_n 0, 1) := by decide +kernel
theorem d2_5 : decode method_2_code 5 = .ok (.bipush 127, 2) := by decide +kernel
theorem d2_7 : decode method_2_code 7 = .ok (.if_icmp .le 5, 3) := by decide +kernel
theorem d2_10 : decode method_2_code 10 = .ok (.iconst 0, 1) := by decide +kernel
theorem d2_11 : decode method_2_code 11 = .ok (.ireturn, 1) := by decide +kernel
theorem d2_12 : decode method_2_code 12 = .ok (.iload_n 0, 1) := by decide +kernel
theorem d2_13 : decode method_2_code 13 = .ok (.bipush 64, 2) := by decide +kernel
theorem d2_15 : decode method_2_code 15 = .ok (.if_icmp .ge 21, 3) := by decide +kernel
theorem d2_18 : decode method_2_code 18 = .ok (.ldc2_w 9, 3) := by decide +kernel
theorem d2_21 : decode method_2_code 21 = .ok (.iload_n 0, 1) := by decide +kernel
theorem d2_22 : decode method_2_code 22 = .ok (.lushr, 1) := by decide +kernel
theorem d2_23 : decode method_2_code 23 = .ok (.lconst 1, 1) := by decide +kernel
theorem d2_24 : decode method_2_code 24 = .ok (.land, 1) := by decide +kernel
theorem d2_25 : decode method_2_code 25 = .ok (.lconst 0, 1) := by decide +kernel
theorem d2_26 : decode method_2_code 26 = .ok (.lcmp, 1) := by decide +kernel
theorem d2_27 : decode method_2_code 27 = .ok (.ifCond .eq 7, 3) := by decide +kernel
theorem d2_30 : decode method_2_code 30 = .ok (.iconst 1, 1) := by decide +kernel
theorem d2_31 : decode method_2_code 31 = .ok (.goto 4, 3) := by decide +kernel
theorem d2_34 : decode method_2_code 34 = .ok (.iconst 0, 1) := by decide +kernel
theorem d2_35 : decode method_2_code 35 = .ok (.ireturn, 1) := by decide +kernel
theorem d2_36 : decode method_2_code 36 = .ok (.ldc2_w 11, 3) := by decide +kernel
theorem d2_39 : decode method_2_code 39 = .ok (.iload_n 0, 1) := by decide +kernel
theorem d2_40 : decode method_2_code 40 = .ok (.bipush 64, 2) := by decide +kernel
theorem d2_42 : decode method_2_code 42 = .ok (.isub, 1) := by decide +kernel
theorem d2_43 : decode method_2_code 43 = .ok (.lushr, 1) := by decide +kernel
theorem d2_44 : decode method_2_code 44 = .ok (.lconst 1, 1) := by decide +kernel
theorem d2_45 : decode method_2_code 45 = .ok (.land, 1) := by decide +kernel
theorem d2_46 : decode method_2_code 46 = .ok (.lconst 0, 1) := by decide +kernel
theorem d2_47 : decode method_2_code 47 = .ok (.lcmp, 1) := by decide +kernel
theorem d2_48 : decode method_2_code 48 = .ok (.ifCond .eq 7, 3) := by decide +kernel
theorem d2_51 : decode method_2_code 51 = .ok (.iconst 1, 1) := by decide +kernel
theorem d2_52 : decode method_2_code 52 = .ok (.goto 4, 3) := by decide +kernel
theorem d2_55 : decode method_2_code 55 = .ok (.iconst 0, 1) := by decide +kernel
theorem d2_56 : decode method_2_code 56 = .ok (.ireturn, 1) := by decide +kernel
theorem pn_2 : plainName "com/example/parametree/parametree/LexerIsPlainCharPinLaw" = true := by first | (simp [plainName, overriddenIn]; done) | decide +kernel
theorem ef_2 (m : MethodId) (x0 : Int32) : entryFrame m #[(.int x0)] 1 = mkF m 0 #[.val (.int x0)] [] := by first | (simp [entryFrame, mkF, argsToLocals, Value.category]; done) | rfl
def Q2 (Z : State) (p1 : Int32) (h0 : Heap) (n0 : Nat) (v : Option Value) (h : Heap) (L : List Loc) : Prop := v = some (.int (own_ref p1)) ∧ Fr n0 L ∧ h = h0
set_option maxRecDepth 65536 in
set_option maxHeartbeats 40000000 in
theorem rm2 (l : Launch) (Z : State) (a0 : Array Value) (hw : ∀ d ∈ tables_1, d.before a0 Z = true) (ws : List Jvm.Cond) (p1 : Int32) (h0 : Heap) (n0 : Nat) (ZS : n0 ≤ h0.size) :
    MetFree l (⟨"com/example/parametree/parametree/LexerIsPlainCharPinLaw", "reference", "(I)Z"⟩ : MethodName) (head1 (Jvm.Cond.code (⟨"com/example/parametree/parametree/LexerIsPlainCharPinLaw", "reference", "(I)Z"⟩ : MethodName) method_2_code 1 (some .boolean) :: ws) ({ frames := 0, cells := 0, slots := 0, locals := 0 } : Room)) (fun a U => a = #[(.int p1)] ∧ Z.Warmed39 U.vm ∧ U.heap = h0) (fun _ _ _ _ _ => True) (fun _ U o U' => ∃ v L, o = .returned v ∧ Q2 Z p1 h0 n0 v U'.heap L ∧ FrameEnd U o U' L ({ frames := 0, cells := 0, slots := 0, locals := 0 } : Room).cells ({ frames := 0, cells := 0, slots := 0, locals := 0 } : Room).slots) := by
  refine MetFree.of_bodySF (plainFor_of_name pn_2) hisR ?_
  intro p e s m args below meth c s₁ Bd hml0 hP hK
  obtain ⟨rfl, hZ, hh⟩ := hP
  have hx := Bd.exec
  have hby := Bd.bytes
  have hml : c.maxLocals = 1 := hml0
  have hown : s.vm.findClass "com/example/parametree/parametree/LexerIsPlainCharPinLaw" = some m.cls := findClass_of_methodNamed Bd.named
  have hnm := (name_of_methodNamed Bd.named Bd.method).1
  have hlk : meth.locks = false := Bd.notSynchronized
  have X0 : Stand p l e ({ frames := 0, cells := 0, slots := 0, locals := 0 } : Room) s m #[(.int p1)] below meth c s₁ [] 0 0 := Stand.of_body Bd
  have e0 : s₁.heap = h0 := by rw [← hh, Bd.state]; rfl
  have NF := Fr.nil n0
  have KP : Keep h0 h0 [] := Keep.refl _ _
  refine own_fin (s := s) (Q := Q2 Z p1 h0 n0) (rc := ({ frames := 0, cells := 0, slots := 0, locals := 0 } : Room).cells) (rs := ({ frames := 0, cells := 0, slots := 0, locals := 0 } : Room).slots) ?_
  refine own_go (fun t k => castTop (ef_2 m p1) k) ?_
  show own_R _ _ _ _ (s₁.setTop (mkF m 0 #[.val (.int p1)] []))
  refine own_go (fun _ k => XS.iloadN X0.here hx rfl (hb hby d2_0) rfl k) ?_
  show own_R _ _ _ _ (s₁.setTop (mkF m 1 #[.val (.int p1)] [(.int p1)]))
  by_cases hc63 : p1 < (0 : Int32)
  · refine own_go (fun _ k => XS.ifYes X0.here hx rfl (pc0 := 1) (pc' := 10) rfl (hb hby d2_1) rfl ((if0 _ _).trans (tlt hc63).1) (by decide) (by decide) k) ?_
    show own_R _ _ _ _ (s₁.setTop (mkF m 10 #[.val (.int p1)] []))
    refine own_go (fun _ k => XS.iconst X0.here hx rfl (hb hby d2_10) k) ?_
    show own_R _ _ _ _ (s₁.setTop (mkF m 11 #[.val (.int p1)] [(.int (0 : Int32))]))
    exact own_retN X0 hx (t := .boolean) (by simp) Bd.returns (hb hby d2_11) hlk ⟨by rw [show own_ref p1 = (0 : Int32) from by rw [own_ref, if_pos (Or.inl hc63)]]; rfl, NF, e0⟩ (by decide) (by decide)
  · refine own_go (fun _ k => XS.ifNo X0.here hx rfl (hb hby d2_1) rfl ((if0 _ _).trans (flt hc63).1) k) ?_
    show own_R _ _ _ _ (s₁.setTop (mkF m 4 #[.val (.int p1)] []))
    refine own_go (fun _ k => XS.iloadN X0.here hx rfl (hb hby d2_4) rfl k) ?_
    show own_R _ _ _ _ (s₁.setTop (mkF m 5 #[.val (.int p1)] [(.int p1)]))
    refine own_go (fun _ k => XS.bipush X0.here hx rfl (hb hby d2_5) k) ?_
    show own_R _ _ _ _ (s₁.setTop (mkF m 7 #[.val (.int p1)] [(.int (127 : Int32)), (.int p1)]))
    by_cases hc64 : (127 : Int32) < p1
    · refine own_go (fun _ k => XS.icmpNo X0.here hx rfl (hb hby d2_7) rfl (tlt hc64).2.2.2 k) ?_
      show own_R _ _ _ _ (s₁.setTop (mkF m 10 #[.val (.int p1)] []))
      refine own_go (fun _ k => XS.iconst X0.here hx rfl (hb hby d2_10) k) ?_
      show own_R _ _ _ _ (s₁.setTop (mkF m 11 #[.val (.int p1)] [(.int (0 : Int32))]))
      exact own_retN X0 hx (t := .boolean) (by simp) Bd.returns (hb hby d2_11) hlk ⟨by rw [show own_ref p1 = (0 : Int32) from by rw [own_ref, if_pos (Or.inr hc64)]]; rfl, NF, e0⟩ (by decide) (by decide)
    · refine own_go (fun _ k => XS.icmpYes X0.here hx rfl (pc0 := 7) (pc' := 12) rfl (hb hby d2_7) rfl (flt hc64).2.2.2 (by decide) (by decide) k) ?_
      show own_R _ _ _ _ (s₁.setTop (mkF m 12 #[.val (.int p1)] []))
      refine own_go (fun _ k => XS.iloadN X0.here hx rfl (hb hby d2_12) rfl k) ?_
      show own_R _ _ _ _ (s₁.setTop (mkF m 13 #[.val (.int p1)] [(.int p1)]))
      refine own_go (fun _ k => XS.bipush X0.here hx rfl (hb hby d2_13) k) ?_
      show own_R _ _ _ _ (s₁.setTop (mkF m 15 #[.val (.int p1)] [(.int (64 : Int32)), (.int p1)]))
      by_cases hc65 : p1 < (64 : Int32)
      · refine own_go (fun _ k => XS.icmpNo X0.here hx rfl (hb hby d2_15) rfl (tlt hc65).2.1 k) ?_
        show own_R _ _ _ _ (s₁.setTop (mkF m 18 #[.val (.int p1)] []))
        refine own_go (X0.ldc2Long hx hown (mvT hZ (hw _ (List.mem_of_getElem? (i := 8) rfl))) (g := (mkF m 18 #[.val (.int p1)] [])) rfl (hb hby d2_18)) ?_
        show own_R _ _ _ _ (s₁.setTop (mkF m 21 #[.val (.int p1)] [(.long (576284864802717696 : Int64))]))
        refine own_go (fun _ k => XS.iloadN X0.here hx rfl (hb hby d2_21) rfl k) ?_
        show own_R _ _ _ _ (s₁.setTop (mkF m 22 #[.val (.int p1)] [(.int p1), (.long (576284864802717696 : Int64))]))
        refine own_go (fun _ k => XS.lushr X0.here hx rfl (hb hby d2_22) rfl k) ?_
        show own_R _ _ _ _ (s₁.setTop (mkF m 23 #[.val (.int p1)] [(.long (((576284864802717696 : Int64).toUInt64 >>> (p1 &&& 0x3f).toInt64.toUInt64).toInt64))]))
        refine own_go (fun _ k => XS.lconst X0.here hx rfl (hb hby d2_23) k) ?_
        show own_R _ _ _ _ (s₁.setTop (mkF m 24 #[.val (.int p1)] [(.long (1 : Int64)), (.long (((576284864802717696 : Int64).toUInt64 >>> (p1 &&& 0x3f).toInt64.toUInt64).toInt64))]))
        refine own_go (fun _ k => XS.land X0.here hx rfl (hb hby d2_24) rfl k) ?_
        show own_R _ _ _ _ (s₁.setTop (mkF m 25 #[.val (.int p1)] [(.long ((((576284864802717696 : Int64).toUInt64 >>> (p1 &&& 0x3f).toInt64.toUInt64).toInt64) &&& (1 : Int64)))]))
        refine own_go (fun _ k => XS.lconst X0.here hx rfl (hb hby d2_25) k) ?_
        show own_R _ _ _ _ (s₁.setTop (mkF m 26 #[.val (.int p1)] [(.long (0 : Int64)), (.long ((((576284864802717696 : Int64).toUInt64 >>> (p1 &&& 0x3f).toInt64.toUInt64).toInt64) &&& (1 : Int64)))]))
        refine own_go (fun _ k => XS.lcmp X0.here hx rfl (hb hby d2_26) rfl k) ?_
        show own_R _ _ _ _ (s₁.setTop (mkF m 27 #[.val (.int p1)] [(.int (lcmpW ((((576284864802717696 : Int64).toUInt64 >>> (p1 &&& 0x3f).toInt64.toUInt64).toInt64) &&& (1 : Int64)) (0 : Int64)))]))
        by_cases hc66 : (lcmpW ((((576284864802717696 : Int64).toUInt64 >>> (p1 &&& 0x3f).toInt64.toUInt64).toInt64) &&& (1 : Int64)) (0 : Int64)) = (0 : Int32)
        · refine own_go (fun _ k => XS.ifYes X0.here hx rfl (pc0 := 27) (pc' := 34) rfl (hb hby d2_27) rfl ((if0 _ _).trans (teq hc66).1) (by decide) (by decide) k) ?_
          show own_R _ _ _ _ (s₁.setTop (mkF m 34 #[.val (.int p1)] []))
          refine own_go (fun _ k => XS.iconst X0.here hx rfl (hb hby d2_34) k) ?_
          show own_R _ _ _ _ (s₁.setTop (mkF m 35 #[.val (.int p1)] [(.int (0 : Int32))]))
          exact own_retN X0 hx (t := .boolean) (by simp) Bd.returns (hb hby d2_35) hlk ⟨by rw [show own_ref p1 = (0 : Int32) from by rw [own_ref, if_neg (fun q => q.elim hc63 hc64), if_pos hc65, if_pos (show (own_lo p1 = 0) from hc66)]]; rfl, NF, e0⟩ (by decide) (by decide)
        · refine own_go (fun _ k => XS.ifNo X0.here hx rfl (hb hby d2_27) rfl ((if0 _ _).trans (feq hc66).1) k) ?_
          show own_R _ _ _ _ (s₁.setTop (mkF m 30 #[.val (.int p1)] []))
          refine own_go (fun _ k => XS.iconst X0.here hx rfl (hb hby d2_30) k) ?_
          show own_R _ _ _ _ (s₁.setTop (mkF m 31 #[.val (.int p1)] [(.int (1 : Int32))]))
          refine own_go (fun _ k => XS.goto X0.here hx rfl (pc0 := 31) (pc' := 35) rfl (hb hby d2_31) (by decide) (by decide) k) ?_
          show own_R _ _ _ _ (s₁.setTop (mkF m 35 #[.val (.int p1)] [(.int (1 : Int32))]))
          exact own_retN X0 hx (t := .boolean) (by simp) Bd.returns (hb hby d2_35) hlk ⟨by rw [show own_ref p1 = (1 : Int32) from by rw [own_ref, if_neg (fun q => q.elim hc63 hc64), if_pos hc65, if_neg (show ¬ (own_lo p1 = 0) from hc66)]]; rfl, NF, e0⟩ (by decide) (by decide)
      · refine own_go (fun _ k => XS.icmpYes X0.here hx rfl (pc0 := 15) (pc' := 36) rfl (hb hby d2_15) rfl (flt hc65).2.1 (by decide) (by decide) k) ?_
        show own_R _ _ _ _ (s₁.setTop (mkF m 36 #[.val (.int p1)] []))
        refine own_go (X0.ldc2Long hx hown (mvT hZ (hw _ (List.mem_of_getElem? (i := 9) rfl))) (g := (mkF m 36 #[.val (.int p1)] [])) rfl (hb hby d2_36)) ?_
        show own_R _ _ _ _ (s₁.setTop (mkF m 39 #[.val (.int p1)] [(.long (576460745995190271 : Int64))]))
        refine own_go (fun _ k => XS.iloadN X0.here hx rfl (hb hby d2_39) rfl k) ?_
        show own_R _ _ _ _ (s₁.setTop (mkF m 40 #[.val (.int p1)] [(.int p1), (.long (576460745995190271 : Int64))]))
        refine own_go (fun _ k => XS.bipush X0.here hx rfl (hb hby d2_40) k) ?_
        show own_R _ _ _ _ (s₁.setTop (mkF m 42 #[.val (.int p1)] [(.int (64 : Int32)), (.int p1), (.long (576460745995190271 : Int64))]))
        refine own_go (fun _ k => XS.isub X0.here hx rfl (hb hby d2_42) rfl k) ?_
        show own_R _ _ _ _ (s₁.setTop (mkF m 43 #[.val (.int p1)] [(.int (p1 - (64 : Int32))), (.long (576460745995190271 : Int64))]))
        refine own_go (fun _ k => XS.lushr X0.here hx rfl (hb hby d2_43) rfl k) ?_
        show own_R _ _ _ _ (s₁.setTop (mkF m 44 #[.val (.int p1)] [(.long (((576460745995190271 : Int64).toUInt64 >>> ((p1 - (64 : Int32)) &&& 0x3f).toInt64.toUInt64).toInt64))]))
        refine own_go (fun _ k => XS.lconst X0.here hx rfl (hb hby d2_44) k) ?_
        show own_R _ _ _ _ (s₁.setTop (mkF m 45 #[.val (.int p1)] [(.long (1 : Int64)), (.long (((576460745995190271 : Int64).toUInt64 >>> ((p1 - (64 : Int32)) &&& 0x3f).toInt64.toUInt64).toInt64))]))
        refine own_go (fun _ k => XS.land X0.here hx rfl (hb hby d2_45) rfl k) ?_
        show own_R _ _ _ _ (s₁.setTop (mkF m 46 #[.val (.int p1)] [(.long ((((576460745995190271 : Int64).toUInt64 >>> ((p1 - (64 : Int32)) &&& 0x3f).toInt64.toUInt64).toInt64) &&& (1 : Int64)))]))
        refine own_go (fun _ k => XS.lconst X0.here hx rfl (hb hby d2_46) k) ?_
        show own_R _ _ _ _ (s₁.setTop (mkF m 47 #[.val (.int p1)] [(.long (0 : Int64)), (.long ((((576460745995190271 : Int64).toUInt64 >>> ((p1 - (64 : Int32)) &&& 0x3f).toInt64.toUInt64).toInt64) &&& (1 : Int64)))]))
        refine own_go (fun _ k => XS.lcmp X0.here hx rfl (hb hby d2_47) rfl k) ?_
        show own_R _ _ _ _ (s₁.setTop (mkF m 48 #[.val (.int p1)] [(.int (lcmpW ((((576460745995190271 : Int64).toUInt64 >>> ((p1 - (64 : Int32)) &&& 0x3f).toInt64.toUInt64).toInt64) &&& (1 : Int64)) (0 : Int64)))]))
        by_cases hc67 : (lcmpW ((((576460745995190271 : Int64).toUInt64 >>> ((p1 - (64 : Int32)) &&& 0x3f).toInt64.toUInt64).toInt64) &&& (1 : Int64)) (0 : Int64)) = (0 : Int32)
        · refine own_go (fun _ k => XS.ifYes X0.here hx rfl (pc0 := 48) (pc' := 55) rfl (hb hby d2_48) rfl ((if0 _ _).trans (teq hc67).1) (by decide) (by decide) k) ?_
          show own_R _ _ _ _ (s₁.setTop (mkF m 55 #[.val (.int p1)] []))
          refine own_go (fun _ k => XS.iconst X0.here hx rfl (hb hby d2_55) k) ?_
          show own_R _ _ _ _ (s₁.setTop (mkF m 56 #[.val (.int p1)] [(.int (0 : Int32))]))
          exact own_retN X0 hx (t := .boolean) (by simp) Bd.returns (hb hby d2_56) hlk ⟨by rw [show own_ref p1 = (0 : Int32) from by rw [own_ref, if_neg (fun q => q.elim hc63 hc64), if_neg hc65, if_pos (show (own_hi p1 = 0) from hc67)]]; rfl, NF, e0⟩ (by decide) (by decide)
        · refine own_go (fun _ k => XS.ifNo X0.here hx rfl (hb hby d2_48) rfl ((if0 _ _).trans (feq hc67).1) k) ?_
          show own_R _ _ _ _ (s₁.setTop (mkF m 51 #[.val (.int p1)] []))
          refine own_go (fun _ k => XS.iconst X0.here hx rfl (hb hby d2_51) k) ?_
          show own_R _ _ _ _ (s₁.setTop (mkF m 52 #[.val (.int p1)] [(.int (1 : Int32))]))
          refine own_go (fun _ k => XS.goto X0.here hx rfl (pc0 := 52) (pc' := 56) rfl (hb hby d2_52) (by decide) (by decide) k) ?_
          show own_R _ _ _ _ (s₁.setTop (mkF m 56 #[.val (.int p1)] [(.int (1 : Int32))]))
          exact own_retN X0 hx (t := .boolean) (by simp) Bd.returns (hb hby d2_56) hlk ⟨by rw [show own_ref p1 = (1 : Int32) from by rw [own_ref, if_neg (fun q => q.elim hc63 hc64), if_neg hc65, if_neg (show ¬ (own_hi p1 = 0) from hc67)]]; rfl, NF, e0⟩ (by decide) (by decide)
theorem ef_0 (m : MethodId) (x0 : Int32) (x1 : Int32) : entryFrame m #[(.int x0), (.int x1)] maxLocals = mkF m 0 #[.val (.int x0), .val (.int x1), .unset, .unset, .unset] [] := by first | (simp [entryFrame, mkF, argsToLocals, Value.category, maxLocals]; done) | rfl
def Q0 (Z : State) (p1 : Int32) (p2 : Int32) (h0 : Heap) (n0 : Nat) (v : Option Value) (h : Heap) (L : List Loc) : Prop := v = some (.int 1) ∧ Fr n0 L
set_option maxRecDepth 65536 in
set_option maxHeartbeats 40000000 in
theorem rm0 (l : Launch) (Z : State) (a0 : Array Value) (hw : ∀ d ∈ tables_1, d.before a0 Z = true) (ws : List Jvm.Cond) (p1 : Int32) (p2 : Int32) (h0 : Heap) (n0 : Nat) (ZS : n0 ≤ h0.size) :
    MetFree l x (head1 (Jvm.Cond.code x code maxLocals ret :: ws) room_1) (fun a U => a = #[(.int p1), (.int p2)] ∧ Z.Warmed39 U.vm ∧ U.heap = h0) (fun _ _ _ _ _ => True) (fun _ U o U' => ∃ v L, o = .returned v ∧ Q0 Z p1 p2 h0 n0 v U'.heap L ∧ FrameEnd U o U' L 0 0) := by
  refine MetFree.of_bodySF (plainFor_of_name pn_2) hisR ?_
  intro p e s m args below meth c s₁ Bd hml0 hP hK
  obtain ⟨rfl, hZ, hh⟩ := hP
  have hx := Bd.exec
  have hby := Bd.bytes
  have hml : c.maxLocals = 5 := hml0
  have hown : s.vm.findClass "com/example/parametree/parametree/LexerIsPlainCharPinLaw" = some m.cls := findClass_of_methodNamed Bd.named
  have hnm := (name_of_methodNamed Bd.named Bd.method).1
  have hlk : meth.locks = false := Bd.notSynchronized
  have X0 : Stand p l e room_1 s m #[(.int p1), (.int p2)] below meth c s₁ [] 0 0 := Stand.of_body Bd
  have e0 : s₁.heap = h0 := by rw [← hh, Bd.state]; rfl
  have NF := Fr.nil n0
  have KP : Keep h0 h0 [] := Keep.refl _ _
  refine own_fin (s := s) (Q := Q0 Z p1 p2 h0 n0) (rc := 0) (rs := 0) ?_
  refine own_go (fun t k => castTop (ef_0 m p1 p2) k) ?_
  show own_R _ _ _ _ (s₁.setTop (mkF m 0 #[.val (.int p1), .val (.int p2), .unset, .unset, .unset] []))
  refine own_go (fun _ k => XS.iloadN X0.here hx rfl (hb hby at_0) rfl k) ?_
  show own_R _ _ _ _ (s₁.setTop (mkF m 1 #[.val (.int p1), .val (.int p2), .unset, .unset, .unset] [(.int p2)]))
  refine own_go (fun _ k => XS.sipush X0.here hx rfl (hb hby at_1) k) ?_
  show own_R _ _ _ _ (s₁.setTop (mkF m 4 #[.val (.int p1), .val (.int p2), .unset, .unset, .unset] [(.int (255 : Int32)), (.int p2)]))
  refine own_go (fun _ k => XS.iand X0.here hx rfl (hb hby at_4) rfl k) ?_
  show own_R _ _ _ _ (s₁.setTop (mkF m 5 #[.val (.int p1), .val (.int p2), .unset, .unset, .unset] [(.int (p2 &&& (255 : Int32)))]))
  refine own_go (fun _ k => XS.istoreN X0.here hx rfl (hb hby at_5) rfl (l' := #[.val (.int p1), .val (.int p2), .val (.int (p2 &&& (255 : Int32))), .unset, .unset]) rfl k) ?_
  show own_R _ _ _ _ (s₁.setTop (mkF m 6 #[.val (.int p1), .val (.int p2), .val (.int (p2 &&& (255 : Int32))), .unset, .unset] []))
  refine own_go (fun _ k => XS.iloadN X0.here hx rfl (hb hby at_6) rfl k) ?_
  show own_R _ _ _ _ (s₁.setTop (mkF m 7 #[.val (.int p1), .val (.int p2), .val (.int (p2 &&& (255 : Int32))), .unset, .unset] [(.int p1)]))
  obtain ⟨_, _, ⟨T68, L68, k68, n68⟩, -, X68, ⟨Lc68, hQ68, l68, y68, z68⟩, st68⟩ := Jvm.LawKit.callS X0 hx (y := (⟨"com/example/parametree/parametree/Lexer", "isPlainChar", "(I)Z"⟩ : MethodName)) hown (mvT hZ (hw _ (List.mem_of_getElem? (i := 0) rfl))) (mvT hZ (hw _ (List.mem_of_getElem? (i := 1) rfl))) (mvT hZ (hw _ (List.mem_of_getElem? (i := 2) rfl))) (mvT hZ (hw _ (List.mem_of_getElem? (i := 3) rfl))) (by decide) (backOf (W := 0) (rm1 l Z a0 hw [] p1 h0 n0 ZS) hZ (hw _ (List.mem_of_getElem? (i := 3) rfl)) (hw _ (List.mem_of_getElem? (i := 2) rfl)) (by decide) (by decide)) (g := (mkF m 7 #[.val (.int p1), .val (.int p2), .val (.int (p2 &&& (255 : Int32))), .unset, .unset] [(.int p1)])) rfl (by rw [hml]; rfl) (argsL := [(.int p1)]) (rest := []) (lenOf pd_0 rfl) rfl (by show 2 * 0 + _ ≤ _; exact Nat.le_of_eq rfl) (hb hby at_7) (fun _ _ => ⟨rfl, e0, (by decide : 0 + 0 ≤ _), (by decide : 0 + 0 ≤ _)⟩)
  dsimp only [Pt.U, Pt.locs, Pt.cells, Pt.slots] at X68 l68 y68 z68 st68 hQ68
  subst l68 y68 z68
  obtain ⟨rfl, N68q, e68⟩ := hQ68
  have NF := Fr.app NF N68q
  refine own_go st68 ?_
  show own_R _ _ _ _ (T68.setTop (mkF m 10 #[.val (.int p1), .val (.int p2), .val (.int (p2 &&& (255 : Int32))), .unset, .unset] [(.int (own_pl p1))]))
  refine own_go (fun _ k => XS.iloadN X68.here hx rfl (hb hby at_10) rfl k) ?_
  show own_R _ _ _ _ (T68.setTop (mkF m 11 #[.val (.int p1), .val (.int p2), .val (.int (p2 &&& (255 : Int32))), .unset, .unset] [(.int p1), (.int (own_pl p1))]))
  obtain ⟨_, _, ⟨T69, L69, k69, n69⟩, -, X69, ⟨Lc69, hQ69, l69, y69, z69⟩, st69⟩ := Jvm.LawKit.callS X68 hx (y := (⟨"com/example/parametree/parametree/LexerIsPlainCharPinLaw", "reference", "(I)Z"⟩ : MethodName)) hown (mvT hZ (hw _ (List.mem_of_getElem? (i := 4) rfl))) (mvT hZ (hw _ (List.mem_of_getElem? (i := 5) rfl))) (mvT hZ (hw _ (List.mem_of_getElem? (i := 6) rfl))) (mvT hZ (hw _ (List.mem_of_getElem? (i := 7) rfl))) (by decide) (backOf (W := 1) (rm2 l Z a0 hw [] p1 h0 n0 ZS) hZ (hw _ (List.mem_of_getElem? (i := 7) rfl)) (hw _ (List.mem_of_getElem? (i := 6) rfl)) (by decide) (by decide)) (g := (mkF m 11 #[.val (.int p1), .val (.int p2), .val (.int (p2 &&& (255 : Int32))), .unset, .unset] [(.int p1), (.int (own_pl p1))])) rfl (by rw [hml]; rfl) (argsL := [(.int p1)]) (rest := [(.int (own_pl p1))]) (lenOf pd_0 rfl) rfl (by show 2 * 0 + _ ≤ _; exact Nat.le_of_eq rfl) (hb hby at_11) (fun _ _ => ⟨rfl, e68, (by decide : 0 + 0 ≤ _), (by decide : 0 + 0 ≤ _)⟩)
  dsimp only [Pt.U, Pt.locs, Pt.cells, Pt.slots] at X69 l69 y69 z69 st69 hQ69
  subst l69 y69 z69
  obtain ⟨rfl, N69q, e69⟩ := hQ69
  have NF := Fr.app NF N69q
  refine own_go st69 ?_
  show own_R _ _ _ _ (T69.setTop (mkF m 14 #[.val (.int p1), .val (.int p2), .val (.int (p2 &&& (255 : Int32))), .unset, .unset] [(.int (own_ref p1)), (.int (own_pl p1))]))
  refine own_go (fun _ k => XS.icmpNo X69.here hx rfl (hb hby at_14) rfl (teq (own_law _)).2 k) ?_
  show own_R _ _ _ _ (T69.setTop (mkF m 17 #[.val (.int p1), .val (.int p2), .val (.int (p2 &&& (255 : Int32))), .unset, .unset] []))
  refine own_go (fun _ k => XS.iconst X69.here hx rfl (hb hby at_17) k) ?_
  show own_R _ _ _ _ (T69.setTop (mkF m 18 #[.val (.int p1), .val (.int p2), .val (.int (p2 &&& (255 : Int32))), .unset, .unset] [(.int (1 : Int32))]))
  refine own_go (fun _ k => XS.goto X69.here hx rfl (pc0 := 18) (pc' := 22) rfl (hb hby at_18) (by decide) (by decide) k) ?_
  show own_R _ _ _ _ (T69.setTop (mkF m 22 #[.val (.int p1), .val (.int p2), .val (.int (p2 &&& (255 : Int32))), .unset, .unset] [(.int (1 : Int32))]))
  refine own_go (fun _ k => XS.istoreN X69.here hx rfl (hb hby at_22) rfl (l' := #[.val (.int p1), .val (.int p2), .val (.int (p2 &&& (255 : Int32))), .val (.int (1 : Int32)), .unset]) rfl k) ?_
  show own_R _ _ _ _ (T69.setTop (mkF m 23 #[.val (.int p1), .val (.int p2), .val (.int (p2 &&& (255 : Int32))), .val (.int (1 : Int32)), .unset] []))
  refine own_go (fun _ k => XS.iloadN X69.here hx rfl (hb hby at_23) rfl k) ?_
  show own_R _ _ _ _ (T69.setTop (mkF m 24 #[.val (.int p1), .val (.int p2), .val (.int (p2 &&& (255 : Int32))), .val (.int (1 : Int32)), .unset] [(.int (p2 &&& (255 : Int32)))]))
  obtain ⟨_, _, ⟨T70, L70, k70, n70⟩, -, X70, ⟨Lc70, hQ70, l70, y70, z70⟩, st70⟩ := Jvm.LawKit.callS X69 hx (y := (⟨"com/example/parametree/parametree/Lexer", "isPlainChar", "(I)Z"⟩ : MethodName)) hown (mvT hZ (hw _ (List.mem_of_getElem? (i := 0) rfl))) (mvT hZ (hw _ (List.mem_of_getElem? (i := 1) rfl))) (mvT hZ (hw _ (List.mem_of_getElem? (i := 2) rfl))) (mvT hZ (hw _ (List.mem_of_getElem? (i := 3) rfl))) (by decide) (backOf (W := 0) (rm1 l Z a0 hw [] (p2 &&& (255 : Int32)) h0 n0 ZS) hZ (hw _ (List.mem_of_getElem? (i := 3) rfl)) (hw _ (List.mem_of_getElem? (i := 2) rfl)) (by decide) (by decide)) (g := (mkF m 24 #[.val (.int p1), .val (.int p2), .val (.int (p2 &&& (255 : Int32))), .val (.int (1 : Int32)), .unset] [(.int (p2 &&& (255 : Int32)))])) rfl (by rw [hml]; rfl) (argsL := [(.int (p2 &&& (255 : Int32)))]) (rest := []) (lenOf pd_0 rfl) rfl (by show 2 * 0 + _ ≤ _; exact Nat.le_of_eq rfl) (hb hby at_24) (fun _ _ => ⟨rfl, e69, (by decide : 0 + 0 ≤ _), (by decide : 0 + 0 ≤ _)⟩)
  dsimp only [Pt.U, Pt.locs, Pt.cells, Pt.slots] at X70 l70 y70 z70 st70 hQ70
  subst l70 y70 z70
  obtain ⟨rfl, N70q, e70⟩ := hQ70
  have NF := Fr.app NF N70q
  refine own_go st70 ?_
  show own_R _ _ _ _ (T70.setTop (mkF m 27 #[.val (.int p1), .val (.int p2), .val (.int (p2 &&& (255 : Int32))), .val (.int (1 : Int32)), .unset] [(.int (own_pl (p2 &&& (255 : Int32))))]))
  refine own_go (fun _ k => XS.iloadN X70.here hx rfl (hb hby at_27) rfl k) ?_
  show own_R _ _ _ _ (T70.setTop (mkF m 28 #[.val (.int p1), .val (.int p2), .val (.int (p2 &&& (255 : Int32))), .val (.int (1 : Int32)), .unset] [(.int (p2 &&& (255 : Int32))), (.int (own_pl (p2 &&& (255 : Int32))))]))
  obtain ⟨_, _, ⟨T71, L71, k71, n71⟩, -, X71, ⟨Lc71, hQ71, l71, y71, z71⟩, st71⟩ := Jvm.LawKit.callS X70 hx (y := (⟨"com/example/parametree/parametree/LexerIsPlainCharPinLaw", "reference", "(I)Z"⟩ : MethodName)) hown (mvT hZ (hw _ (List.mem_of_getElem? (i := 4) rfl))) (mvT hZ (hw _ (List.mem_of_getElem? (i := 5) rfl))) (mvT hZ (hw _ (List.mem_of_getElem? (i := 6) rfl))) (mvT hZ (hw _ (List.mem_of_getElem? (i := 7) rfl))) (by decide) (backOf (W := 1) (rm2 l Z a0 hw [] (p2 &&& (255 : Int32)) h0 n0 ZS) hZ (hw _ (List.mem_of_getElem? (i := 7) rfl)) (hw _ (List.mem_of_getElem? (i := 6) rfl)) (by decide) (by decide)) (g := (mkF m 28 #[.val (.int p1), .val (.int p2), .val (.int (p2 &&& (255 : Int32))), .val (.int (1 : Int32)), .unset] [(.int (p2 &&& (255 : Int32))), (.int (own_pl (p2 &&& (255 : Int32))))])) rfl (by rw [hml]; rfl) (argsL := [(.int (p2 &&& (255 : Int32)))]) (rest := [(.int (own_pl (p2 &&& (255 : Int32))))]) (lenOf pd_0 rfl) rfl (by show 2 * 0 + _ ≤ _; exact Nat.le_of_eq rfl) (hb hby at_28) (fun _ _ => ⟨rfl, e70, (by decide : 0 + 0 ≤ _), (by decide : 0 + 0 ≤ _)⟩)
  dsimp only [Pt.U, Pt.locs, Pt.cells, Pt.slots] at X71 l71 y71 z71 st71 hQ71
  subst l71 y71 z71
  obtain ⟨rfl, N71q, e71⟩ := hQ71
  have NF := Fr.app NF N71q
  refine own_go st71 ?_
  show own_R _ _ _ _ (T71.setTop (mkF m 31 #[.val (.int p1), .val (.int p2), .val (.int (p2 &&& (255 : Int32))), .val (.int (1 : Int32)), .unset] [(.int (own_ref (p2 &&& (255 : Int32)))), (.int (own_pl (p2 &&& (255 : Int32))))]))
  refine own_go (fun _ k => XS.icmpNo X71.here hx rfl (hb hby at_31) rfl (teq (own_law _)).2 k) ?_
  show own_R _ _ _ _ (T71.setTop (mkF m 34 #[.val (.int p1), .val (.int p2), .val (.int (p2 &&& (255 : Int32))), .val (.int (1 : Int32)), .unset] []))
  refine own_go (fun _ k => XS.iconst X71.here hx rfl (hb hby at_34) k) ?_
  show own_R _ _ _ _ (T71.setTop (mkF m 35 #[.val (.int p1), .val (.int p2), .val (.int (p2 &&& (255 : Int32))), .val (.int (1 : Int32)), .unset] [(.int (1 : Int32))]))
  refine own_go (fun _ k => XS.goto X71.here hx rfl (pc0 := 35) (pc' := 39) rfl (hb hby at_35) (by decide) (by decide) k) ?_
  show own_R _ _ _ _ (T71.setTop (mkF m 39 #[.val (.int p1), .val (.int p2), .val (.int (p2 &&& (255 : Int32))), .val (.int (1 : Int32)), .unset] [(.int (1 : Int32))]))
  refine own_go (fun _ k => XS.istore X71.here hx rfl (hb hby at_39) rfl (l' := #[.val (.int p1), .val (.int p2), .val (.int (p2 &&& (255 : Int32))), .val (.int (1 : Int32)), .val (.int (1 : Int32))]) rfl k) ?_
  show own_R _ _ _ _ (T71.setTop (mkF m 41 #[.val (.int p1), .val (.int p2), .val (.int (p2 &&& (255 : Int32))), .val (.int (1 : Int32)), .val (.int (1 : Int32))] []))
  refine own_go (fun _ k => XS.iloadN X71.here hx rfl (hb hby at_41) rfl k) ?_
  show own_R _ _ _ _ (T71.setTop (mkF m 42 #[.val (.int p1), .val (.int p2), .val (.int (p2 &&& (255 : Int32))), .val (.int (1 : Int32)), .val (.int (1 : Int32))] [(.int (1 : Int32))]))
  refine own_go (fun _ k => XS.ifNo X71.here hx rfl (hb hby at_42) rfl ((if0 _ _).trans (feq (by decide : ¬ ((1 : Int32) = (0 : Int32)))).1) k) ?_
  show own_R _ _ _ _ (T71.setTop (mkF m 45 #[.val (.int p1), .val (.int p2), .val (.int (p2 &&& (255 : Int32))), .val (.int (1 : Int32)), .val (.int (1 : Int32))] []))
  refine own_go (fun _ k => XS.iload X71.here hx rfl (hb hby at_45) rfl k) ?_
  show own_R _ _ _ _ (T71.setTop (mkF m 47 #[.val (.int p1), .val (.int p2), .val (.int (p2 &&& (255 : Int32))), .val (.int (1 : Int32)), .val (.int (1 : Int32))] [(.int (1 : Int32))]))
  refine own_go (fun _ k => XS.ifNo X71.here hx rfl (hb hby at_47) rfl ((if0 _ _).trans (feq (by decide : ¬ ((1 : Int32) = (0 : Int32)))).1) k) ?_
  show own_R _ _ _ _ (T71.setTop (mkF m 50 #[.val (.int p1), .val (.int p2), .val (.int (p2 &&& (255 : Int32))), .val (.int (1 : Int32)), .val (.int (1 : Int32))] []))
  refine own_go (fun _ k => XS.iconst X71.here hx rfl (hb hby at_50) k) ?_
  show own_R _ _ _ _ (T71.setTop (mkF m 51 #[.val (.int p1), .val (.int p2), .val (.int (p2 &&& (255 : Int32))), .val (.int (1 : Int32)), .val (.int (1 : Int32))] [(.int (1 : Int32))]))
  refine own_go (fun _ k => XS.goto X71.here hx rfl (pc0 := 51) (pc' := 55) rfl (hb hby at_51) (by decide) (by decide) k) ?_
  show own_R _ _ _ _ (T71.setTop (mkF m 55 #[.val (.int p1), .val (.int p2), .val (.int (p2 &&& (255 : Int32))), .val (.int (1 : Int32)), .val (.int (1 : Int32))] [(.int (1 : Int32))]))
  exact own_retN X71 hx (t := .boolean) (by simp) Bd.returns (hb hby at_55) hlk ⟨rfl, NF⟩ (by decide) (by decide)
set_option maxRecDepth 65536 in
set_option maxHeartbeats 40000000 in
theorem comes_1 {Post : Tables → Env → Array Value → State → Outcome → State → Prop} (hpost : ∀ tb e args s v u, (limb_1_1.after args s (.returned v) u = true ∧ limb_1_2.after args s (.returned v) u = true ∧ True) → FrameEnd s (.returned v) u (Jvm.fieldLocs frame_1_writes args s ++ Jvm.arrayLocs frame_1_arrays args s ++ Jvm.staticLocs frame_1_statics s) 0 0 → Post tb e args s (.returned v) u) :
    ArmFor flags0 classFile x code maxLocals ret World_1 tables_1 room_1 Calls_1 rest_1 Pre_1 Post := by
  intro l hfl _ _ p e ha hc hk s m args below hf hA hF happ hP
  obtain ⟨hcalls, hrest, hpre⟩ := hP
  obtain ⟨-, -, -, hnamed, -, -, -, hat⟩ := (Spec.applies_iff hf).mp happ
  obtain ⟨hg, hn⟩ := and_e (Cond.before_iff.mp (show (Jvm.Cond.and given_1 narrow_1).before args s = true from hpre))
  obtain ⟨g1, g2⟩ := and_e hg
  obtain ⟨g3, g4⟩ := and_e g2
  obtain ⟨w0, w1, rfl⟩ : ∃ w0 w1 : Value, args = #[w0, w1] := by
    have hs : args.size = 2 := by simpa [Cond.value, given_1] using g1
    obtain ⟨L⟩ := args
    match L, hs with
    | [w0, w1], _ => exact ⟨w0, w1, rfl⟩
  have hw := fun d (hd : d ∈ tables_1) => atoms_spec (ws := Jvm.Cond.code x code maxLocals ret :: tables_1) hat d (List.mem_cons_of_mem _ hd)
  have hfit : Fit s := fun {y c} hc i hi => by
    obtain ⟨ha, rfl⟩ := Array.getElem?_eq_some_iff.mp hc
    have q := List.all_eq_true.mp ((Array.all_eq_true_iff_forall_mem.mp hF) _ (Array.getElem_mem ha)) i (List.mem_range.mpr hi)
    simpa [Array.getElem?_eq_getElem hi] using q
  obtain ⟨i0, ei0⟩ := is_v g3
  obtain rfl : w0 = (.int i0) := Option.some.inj ei0
  obtain ⟨i1, ei1⟩ := is_v g4
  obtain rfl : w1 = (.int i1) := Option.some.inj ei1
  obtain ⟨n, o, h1, h2, h3, _, L, rfl, ⟨rfl, N⟩, hq⟩ := rm0 l s _ hw tables_1 i0 i1 s.heap s.heap.size (Nat.le_refl _) p e ha hc hk s m _ below hf ((Spec.applies_iff_loose hf).mp happ).1 ⟨rfl, State.Warmed39.refl s, rfl⟩ trivial
  refine ⟨n, _, h1, h2, h3, hpost _ _ _ _ _ _ ⟨Cond.after_iff.mpr rfl, Cond.after_iff.mpr (eq_i res_at (Term.int_eval (1)) rfl), trivial⟩ ⟨hq.1, hq.2.1, (hq.2.2.sift fun y hy => Or.inr (N y hy)).mono (by decide) (by decide)⟩⟩
theorem main_1_1 : Claimed_1_1 := comes_1 fun _ _ _ _ _ _ h hF => ⟨h.1, hF⟩
theorem main_1_2 : Claimed_1_2 := comes_1 fun _ _ _ _ _ _ h hF => ⟨h.2.1, hF⟩
end Jvm.Pilot.@@N@@
namespace Jvm.Pilot.@@N@@
open Jvm Jvm.ClassFile Sem Op Lib Jvm.Free Jvm.Stand Jvm.Pilot.@@N@@.Jvm.D
/-! MADE BY PROGRAM (witnessworld.py) out of the Statement's table words and the real class files: 9 classes; the members and pool entries that the words name. The judged class is class 1, her method 2. -/
namespace start1
open Jvm.ClassFile
def u (s : String) : CpInfo := .utf8 (stringToUtf16 s)
/-- a pool by its gaps: so many unusable entries, then the entry; so many at the end -/
def gap : Nat → List CpInfo → List CpInfo
  | 0, r => r
  | n + 1, r => .unusable :: gap n r
def poolList (es : List (Nat × CpInfo)) (last : Nat) : List CpInfo := es.foldr (fun e r => gap e.1 (e.2 :: r)) (gap last [])
def pool (es : List (Nat × CpInfo)) (last : Nat) : Array CpInfo := ⟨poolList es last⟩
def fileOf (pool : Array CpInfo) (this : Nat) (attrs : Array Attribute := #[]) (ms : Array MethodInfo := #[]) (fl : Nat := 33) (sup : Nat := 0) (ifs : Array Nat := #[]) (fds : Array FieldInfo := #[]) : ClassFile where
  minorVersion := 0
  majorVersion := 65
  constantPool := pool
  accessFlags := fl
  thisClass := this
  superClass := sup
  interfaces := ifs
  fields := fds
  methods := ms
  attributes := attrs
def plain (name : String) (sup : Option ClassId) : Class where
  name := name
  kind := .ordinary
  loader := none
  accessFlags := 33
  super := sup
  interfaces := #[]
  cf := none
  fields := #[]
  methods := #[]
  instanceTypes := #[]
  staticTypes := #[]
  resolved := #[]
  callSites := []
  init := .initialized
  statics := none
  mirror := none

def pool0 : Array CpInfo := pool [(5, u "<init>"), (0, u "()V"), (1, .class_ 10), (1, u "java/lang/Object")] 113

def k0m0 : Method := { name := "<init>", desc := "()V", sig := { parameters := [], returnType := none }, accessFlags := 1, code := none }
/-- java/lang/Object -/
def k0 : Class := { plain "java/lang/Object" none with
  accessFlags := 33
  interfaces := #[]
  cf := some (fileOf pool0 8 #[] #[{ accessFlags := 1, nameIndex := 5, descriptorIndex := 6, attributes := #[] }] 33 0 #[] #[])
  fields := #[]
  methods := #[k0m0]
  instanceTypes := #[]
  staticTypes := #[]
  resolved := Array.replicate 124 none
  statics := none }

def pool1 : Array CpInfo := pool [(2, .class_ 4), (1, u "java/lang/Object"), (0, u "<init>"), (0, u "()V"), (0, .class_ 8), (0, u "com/example/parametree/parametree/LexerIsPlainCharPinLaw"), (0, .long 576284864802717696), (1, .long 576460745995190271), (1, .methodref 14 15), (0, .class_ 16), (0, .nameAndType 17 18), (0, u "com/example/parametree/parametree/Lexer"), (0, u "isPlainChar"), (0, u "(I)Z"), (0, .methodref 7 20), (0, .nameAndType 21 18), (0, u "reference"), (0, u "LOW"), (0, u "J"), (1, u "HIGH"), (3, u "law"), (0, u "(II)Z")] 2

def k1m0 : Method := { name := "<init>", desc := "()V", sig := { parameters := [], returnType := none }, accessFlags := 2, code := none }
def k1c1 : Code := { maxStack := 4, maxLocals := 1, code := method_2_code, exceptionTable := #[], attributes := #[] }
def k1m1 : Method := { name := "reference", desc := "(I)Z", sig := { parameters := [.int], returnType := some .boolean }, accessFlags := 10, code := some k1c1 }
def k1c2 : Code := { maxStack := 2, maxLocals := 5, code := code, exceptionTable := #[], attributes := #[] }
def k1m2 : Method := { name := "law", desc := "(II)Z", sig := { parameters := [.int, .int], returnType := some .boolean }, accessFlags := 9, code := some k1c2 }
/-- com/example/parametree/parametree/LexerIsPlainCharPinLaw -/
def k1 : Class := { plain "com/example/parametree/parametree/LexerIsPlainCharPinLaw" (some 0) with
  accessFlags := 49
  interfaces := #[]
  cf := some (fileOf pool1 7 #[] #[{ accessFlags := 2, nameIndex := 5, descriptorIndex := 6, attributes := #[] }, { accessFlags := 10, nameIndex := 21, descriptorIndex := 18, attributes := #[] }, { accessFlags := 9, nameIndex := 29, descriptorIndex := 30, attributes := #[] }] 49 2 #[] #[{ accessFlags := 26, nameIndex := 22, descriptorIndex := 23, attributes := #[] }, { accessFlags := 26, nameIndex := 25, descriptorIndex := 23, attributes := #[] }])
  fields := #[{ name := "LOW", type := .long, accessFlags := 26, slot := 0, constantValue := 0 }, { name := "HIGH", type := .long, accessFlags := 26, slot := 1, constantValue := 0 }]
  methods := #[k1m0, k1m1, k1m2]
  instanceTypes := #[]
  staticTypes := #[.long, .long]
  resolved := Array.replicate 33 none
  statics := none }

def pool2 : Array CpInfo := pool [(2, .class_ 4), (1, u "com/example/parametree/parametree/Lexer"), (3, .class_ 10), (1, u "java/lang/Object"), (3, u "buffer"), (0, u "[C"), (2, u "line"), (0, u "I"), (2, u "previous"), (5, u "symbols"), (0, u "Ljava/util/HashMap;"), (5, u "text"), (0, u "Ljava/lang/StringBuilder;"), (2, u "in"), (0, u "Ljava/io/Reader;"), (2, u "declarations"), (0, u "Z"), (45, u "isPlainChar"), (0, u "(I)Z"), (2, u "held"), (1, .class_ 98), (1, u "com/example/parametree/parametree/Lexer$Kind"), (1, u "Lcom/example/parametree/parametree/Lexer$Kind;"), (2, u "kind"), (6, u "tokenLine"), (2, u "declarationLine"), (2, u "symbol"), (0, u "Ljava/lang/String;"), (2, u "quoted"), (5, u "startsLine"), (117, u "position"), (2, u "limit"), (2, u "ended"), (44, u "ESCAPED"), (1, u "ESCAPES")] 41

def k2c0 : Code := { maxStack := 2, maxLocals := 1, code := prog_47_method_6_code, exceptionTable := #[], attributes := #[] }
def k2m0 : Method := { name := "isPlainChar", desc := "(I)Z", sig := { parameters := [.int], returnType := some .boolean }, accessFlags := 8, code := some k2c0 }
/-- com/example/parametree/parametree/Lexer -/
def k2 : Class := { plain "com/example/parametree/parametree/Lexer" (some 0) with
  accessFlags := 32
  interfaces := #[]
  cf := some (fileOf pool2 2 #[.nestMembers #[96]] #[{ accessFlags := 8, nameIndex := 90, descriptorIndex := 91, attributes := #[] }] 32 8 #[] #[{ accessFlags := 18, nameIndex := 39, descriptorIndex := 40, attributes := #[] }, { accessFlags := 18, nameIndex := 43, descriptorIndex := 44, attributes := #[] }, { accessFlags := 18, nameIndex := 14, descriptorIndex := 15, attributes := #[] }, { accessFlags := 2, nameIndex := 244, descriptorIndex := 19, attributes := #[] }, { accessFlags := 2, nameIndex := 247, descriptorIndex := 19, attributes := #[] }, { accessFlags := 2, nameIndex := 250, descriptorIndex := 44, attributes := #[] }, { accessFlags := 2, nameIndex := 18, descriptorIndex := 19, attributes := #[] }, { accessFlags := 2, nameIndex := 22, descriptorIndex := 19, attributes := #[] }, { accessFlags := 18, nameIndex := 28, descriptorIndex := 29, attributes := #[] }, { accessFlags := 18, nameIndex := 35, descriptorIndex := 36, attributes := #[] }, { accessFlags := 2, nameIndex := 103, descriptorIndex := 100, attributes := #[] }, { accessFlags := 2, nameIndex := 116, descriptorIndex := 117, attributes := #[] }, { accessFlags := 2, nameIndex := 120, descriptorIndex := 44, attributes := #[] }, { accessFlags := 2, nameIndex := 110, descriptorIndex := 19, attributes := #[] }, { accessFlags := 2, nameIndex := 126, descriptorIndex := 44, attributes := #[] }, { accessFlags := 2, nameIndex := 94, descriptorIndex := 44, attributes := #[] }, { accessFlags := 2, nameIndex := 113, descriptorIndex := 19, attributes := #[] }, { accessFlags := 26, nameIndex := 295, descriptorIndex := 117, attributes := #[] }, { accessFlags := 26, nameIndex := 297, descriptorIndex := 117, attributes := #[] }])
  fields := #[{ name := "in", type := (.object "java/io/Reader"), accessFlags := 18, slot := 0, constantValue := 0 }, { name := "declarations", type := .boolean, accessFlags := 18, slot := 1, constantValue := 0 }, { name := "buffer", type := (.array .char), accessFlags := 18, slot := 2, constantValue := 0 }, { name := "position", type := .int, accessFlags := 2, slot := 3, constantValue := 0 }, { name := "limit", type := .int, accessFlags := 2, slot := 4, constantValue := 0 }, { name := "ended", type := .boolean, accessFlags := 2, slot := 5, constantValue := 0 }, { name := "line", type := .int, accessFlags := 2, slot := 6, constantValue := 0 }, { name := "previous", type := .int, accessFlags := 2, slot := 7, constantValue := 0 }, { name := "symbols", type := (.object "java/util/HashMap"), accessFlags := 18, slot := 8, constantValue := 0 }, { name := "text", type := (.object "java/lang/StringBuilder"), accessFlags := 18, slot := 9, constantValue := 0 }, { name := "kind", type := (.object "com/example/parametree/parametree/Lexer$Kind"), accessFlags := 2, slot := 10, constantValue := 0 }, { name := "symbol", type := (.object "java/lang/String"), accessFlags := 2, slot := 11, constantValue := 0 }, { name := "quoted", type := .boolean, accessFlags := 2, slot := 12, constantValue := 0 }, { name := "tokenLine", type := .int, accessFlags := 2, slot := 13, constantValue := 0 }, { name := "startsLine", type := .boolean, accessFlags := 2, slot := 14, constantValue := 0 }, { name := "held", type := .boolean, accessFlags := 2, slot := 15, constantValue := 0 }, { name := "declarationLine", type := .int, accessFlags := 2, slot := 16, constantValue := 0 }, { name := "ESCAPED", type := (.object "java/lang/String"), accessFlags := 26, slot := 0, constantValue := 0 }, { name := "ESCAPES", type := (.object "java/lang/String"), accessFlags := 26, slot := 1, constantValue := 0 }]
  methods := #[k2m0]
  instanceTypes := #[(.object "java/io/Reader"), .boolean, (.array .char), .int, .int, .boolean, .int, .int, (.object "java/util/HashMap"), (.object "java/lang/StringBuilder"), (.object "com/example/parametree/parametree/Lexer$Kind"), (.object "java/lang/String"), .boolean, .int, .boolean, .boolean, .int]
  staticTypes := #[(.object "java/lang/String"), (.object "java/lang/String")]
  resolved := Array.replicate 339 none
  statics := none }

def pool3 : Array CpInfo := pool [(1, u "java/lang/Cloneable"), (0, .class_ 1), (0, u "java/lang/Object"), (0, .class_ 3)] 3

/-- java/lang/Cloneable -/
def k3 : Class := { plain "java/lang/Cloneable" (some 0) with
  accessFlags := 1537
  interfaces := #[]
  cf := some (fileOf pool3 2 #[] #[] 1537 4 #[] #[])
  fields := #[]
  methods := #[]
  instanceTypes := #[]
  staticTypes := #[]
  resolved := Array.replicate 8 none
  statics := none }

def pool4 : Array CpInfo := pool [(1, u "java/io/Serializable"), (0, .class_ 1), (0, u "java/lang/Object"), (0, .class_ 3)] 3

/-- java/io/Serializable -/
def k4 : Class := { plain "java/io/Serializable" (some 0) with
  accessFlags := 1537
  interfaces := #[]
  cf := some (fileOf pool4 2 #[] #[] 1537 4 #[] #[])
  fields := #[]
  methods := #[]
  instanceTypes := #[]
  staticTypes := #[]
  resolved := Array.replicate 8 none
  statics := none }

/-- the primitive byte -/
def k5 : Class := { plain "byte" none with kind := .primitive 'B', accessFlags := 0x411 }
/-- [B -/
def k6 : Class := { plain "[B" (some 0) with kind := .array 5 .byte, interfaces := #[3, 4], accessFlags := 1041 }

/-- the primitive int -/
def k7 : Class := { plain "int" none with kind := .primitive 'I', accessFlags := 0x411 }
/-- [I -/
def k8 : Class := { plain "[I" (some 0) with kind := .array 7 .int, interfaces := #[3, 4], accessFlags := 1041 }

def heap : Heap := #[]
def classes : Array Class := #[k0, k1, k2, k3, k4, k5, k6, k7, k8]
def interned : List (Array UInt16 × Addr) := []
def slotsUsed : Nat := 0
def theMethod : MethodId := ⟨1, 2⟩
def args0 : Array Value := #[.int 5, .int 5]
def aboutOver (below : List Frame) : State where
  vm := { classes := classes, interned := interned.toArray }
  heap := heap
  slotsUsed := slotsUsed
  threads := #[{ frames := .invoking theMethod args0 :: below }]
def below0 : List Frame := [.native { method := ⟨0, 0⟩, args := #[] }]
def about1 : State := aboutOver below0
def p0 : Program := .bare "" "" ""
def e0 : Env := launch0.env 0 0 0
theorem w_frames : about1.frames = Frame.invoking theMethod args0 :: below0 := rfl
set_option maxRecDepth 65536 in
theorem w_args : argsFit about1.vm theMethod args0 = true := by decide +kernel
set_option maxRecDepth 65536 in
theorem w_heap : heapFits about1 = true := by decide +kernel
set_option maxRecDepth 65536 in
theorem w_runnable : about1.curStatus? = some .runnable := by decide +kernel
set_option maxRecDepth 65536 in
theorem w_alone : about1.alone = true := by decide +kernel
set_option maxRecDepth 65536 in
theorem w_named : about1.methodNamed? x = some theMethod := by decide +kernel
set_option maxRecDepth 65536 in
theorem w_hears : about1.hears theMethod below0 = true := by decide +kernel
set_option maxRecDepth 65536 in
theorem w_ripe : about1.ripe theMethod args0 below0 = true := by decide +kernel
theorem w_running : about1.status = .running := rfl
set_option maxRecDepth 65536 in
theorem w_room : about1.hasRoom e0.platform room_1 = true :=
  launch0.hasRoom_least _ room_1 (by decide +kernel) (by decide +kernel) (by decide +kernel) (by decide +kernel) (by decide +kernel) (by decide +kernel)
theorem allAtoms_all (ts : List Jvm.Cond) (a : Array Jvm.Value) (st : Jvm.State) : (allAtoms ts).before a st = ts.all (fun c => c.before a st) := by
  induction ts with
  | nil => rfl
  | cons c t ih =>
    show (Jvm.Cond.and c (allAtoms t)).before a st = _
    rw [Jvm.Cond.before_and, ih, List.all_cons]
def words1 : List Jvm.Cond := Jvm.Cond.code x code maxLocals ret :: tables_1
/-- a 'code' word, met by the world's own term for the bytes: nothing is compared byte by byte -/
theorem code_word {y : MethodName} {bytes : ByteArray} {mx : Nat} {rt : Option FieldType} {a : Array Value} {s : State} {m : MethodId} {meth : Method} {c : Code} (h1 : s.methodNamed? y = some m) (h2 : s.vm.method? m = some meth) (h3 : meth.code = some c) (h4 : c.code = bytes)
    (h5 : (c.maxLocals == mx && c.exceptionTable.isEmpty && decide (c.maxStack ≤ mostOperands) && decide (meth.sig.returnType = rt) && !meth.locks && decide (parseMethodDescriptor y.desc = some meth.sig)) = true) : (Jvm.Cond.code y bytes mx rt).before a s = true := by
  simp only [Bool.and_eq_true, beq_iff_eq, Bool.not_eq_true', decide_eq_true_eq] at h5
  obtain ⟨⟨⟨⟨⟨g1, g2⟩, g3⟩, g4⟩, g5⟩, g6⟩ := h5
  simp [Cond.before, Cond.holds, Cond.value, h1, h2, h3, h4, g1, g2, g3, g4, g5, g6]
def isCode : Jvm.Cond → Bool
  | .code _ _ _ _ => true
  | _ => false
theorem all_split {L : List Jvm.Cond} {P : Jvm.Cond → Bool} (h1 : L.all (fun c => isCode c || P c) = true) (h2 : ∀ c ∈ L.filter isCode, P c = true) : L.all P = true := by
  refine List.all_eq_true.mpr fun c hc => ?_
  have h := List.all_eq_true.mp h1 c hc
  rcases Bool.eq_false_or_eq_true (isCode c) with hi | hi
  · exact h2 c (List.mem_filter.mpr ⟨hc, hi⟩)
  · simpa [hi] using h
set_option maxRecDepth 65536 in
theorem w_c0 : (Jvm.Cond.code x code maxLocals ret).before args0 about1 = true := code_word (m := ⟨1, 2⟩) (meth := k1m2) (c := k1c2) (by decide +kernel) rfl rfl rfl (by decide +kernel)
set_option maxRecDepth 65536 in
theorem w_c1 : (Jvm.Cond.code ({ cls := "com/example/parametree/parametree/Lexer", name := "isPlainChar", desc := "(I)Z" } : Jvm.MethodName) prog_47_method_6_code (1 : Nat) (Option.some Jvm.ClassFile.FieldType.boolean)).before args0 about1 = true := code_word (m := ⟨2, 0⟩) (meth := k2m0) (c := k2c0) (by decide +kernel) rfl rfl rfl (by decide +kernel)
set_option maxRecDepth 65536 in
theorem w_c2 : (Jvm.Cond.code ({ cls := "com/example/parametree/parametree/LexerIsPlainCharPinLaw", name := "reference", desc := "(I)Z" } : Jvm.MethodName) method_2_code (1 : Nat) (Option.some Jvm.ClassFile.FieldType.boolean)).before args0 about1 = true := code_word (m := ⟨1, 1⟩) (meth := k1m1) (c := k1c1) (by decide +kernel) rfl rfl rfl (by decide +kernel)
def codes1 : List Jvm.Cond := [Jvm.Cond.code x code maxLocals ret, Jvm.Cond.code ({ cls := "com/example/parametree/parametree/Lexer", name := "isPlainChar", desc := "(I)Z" } : Jvm.MethodName) prog_47_method_6_code (1 : Nat) (Option.some Jvm.ClassFile.FieldType.boolean), Jvm.Cond.code ({ cls := "com/example/parametree/parametree/LexerIsPlainCharPinLaw", name := "reference", desc := "(I)Z" } : Jvm.MethodName) method_2_code (1 : Nat) (Option.some Jvm.ClassFile.FieldType.boolean)]
set_option maxRecDepth 65536 in
theorem codes_eq : words1.filter isCode = codes1 := rfl
theorem w_codes : ∀ c ∈ words1.filter isCode, c.before args0 about1 = true := by
  rw [codes_eq]
  intro c hc
  simp only [codes1, List.mem_cons, List.not_mem_nil, or_false] at hc
  rcases hc with rfl | rfl | rfl
  · exact w_c0
  · exact w_c1
  · exact w_c2
set_option maxRecDepth 65536 in
theorem w_t1 : words1.all (fun c => isCode c || c.before args0 about1) = true := by decide +kernel
theorem w_tables : (allAtoms (Jvm.Cond.code x code maxLocals ret :: tables_1)).before args0 about1 = true := by
  rw [allAtoms_all]
  show words1.all (fun c => c.before args0 about1) = true
  refine all_split ?_ w_codes
  rw [w_t1]
set_option maxRecDepth 65536 in
theorem w_case : (Jvm.Cond.and given_1 narrow_1).before args0 about1 = true := by decide +kernel
theorem w_applies : (headSpec (Jvm.Cond.code x code maxLocals ret :: tables_1) room_1).applies x e0.platform about1 = true :=
  (Spec.applies_iff w_frames).mpr ⟨w_running, w_runnable, w_alone, w_named, w_hears, w_ripe, w_room, w_tables⟩
theorem atStart : AtStart classFile x code maxLocals ret World_1 tables_1 room_1 Calls_1 rest_1 Pre_1 launch0 p0 e0 about1 theMethod args0 below0 :=
  ⟨lists_1, trivial, launch0.admits_env _ _ _, launch0.least_env, fairChoices_fair.cas, fairChoices_fair.clock, w_frames, w_args, w_heap, w_applies, trivial, trivial, w_case⟩
end start1
theorem witness_1 : WitnessClaimed_1 := ⟨start1.p0, start1.e0, start1.about1, start1.theMethod, start1.args0, start1.below0, start1.atStart⟩
end Jvm.Pilot.@@N@@
