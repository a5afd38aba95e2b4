import JvmDerived
import JvmDerived.Pilot.@@N@@Statement
import JvmDerived.Pilot.@@N@@Code
set_option linter.unusedVariables false
set_option linter.unusedSimpArgs false
namespace Jvm.RoadKit
open Sem ClassFile Op Lib Jvm.Stand Jvm.Free Jvm.LawKit
/-- from T the run comes to a state of which Φ holds -/
def own_R (tb : Tables) (e : Env) (below : List Frame) (Φ : State → Prop) (T : State) : Prop := ∃ T', Φ T' ∧ ∀ t, Steps tb e below T' t → Steps tb e below T t
theorem own_leaf {tb : Tables} {e : Env} {below : List Frame} {Φ : State → Prop} {T : State} (h : Φ T) : own_R tb e below Φ T := ⟨T, h, fun _ k => k⟩
theorem own_go {tb : Tables} {e : Env} {below : List Frame} {Φ : State → Prop} {T T1 : State} (h : ∀ t, Steps tb e below T1 t → Steps tb e below T t) (g : own_R tb e below Φ T1) : own_R tb e below Φ T := by
  obtain ⟨T', h1, h2⟩ := g
  exact ⟨T', h1, fun t k => h t (h2 t k)⟩
theorem own_to {tb : Tables} {e : Env} {below : List Frame} {Φ Ψ : State → Prop} {T : State} (h : own_R tb e below Φ T) (g : ∀ U, Φ U → own_R tb e below Ψ U) : own_R tb e below Ψ T := by
  obtain ⟨T', h1, h2⟩ := h
  exact own_go h2 (g T' h1)
/-- the call has come to its end: what it returns and leaves -/
def own_F (below : List Frame) (s : State) (Q : Option Value → Heap → List Loc → Prop) (rc rs : Nat) (U : State) : Prop := U.status = .running ∧ ∃ v L, Ended U below (.returned v) ∧ Q v U.heap L ∧ FrameEnd s (.returned v) U L rc rs
theorem own_fin {tb : Tables} {e : Env} {below : List Frame} {s : State} {Q : Option Value → Heap → List Loc → Prop} {rc rs : Nat} {T : State} (h : own_R tb e below (own_F below s Q rc rs) T) :
    ∃ s₂ o, Steps tb e below T s₂ ∧ s₂.status = .running ∧ Ended s₂ below o ∧ ∃ v L, o = .returned v ∧ Q v s₂.heap L ∧ FrameEnd s o s₂ L rc rs := by
  obtain ⟨T', ⟨h1, v, L, h2, h3, h4⟩, h5⟩ := h
  exact ⟨T', .returned v, h5 _ (Steps.refl _), h1, h2, v, L, rfl, h3, h4⟩
section New
variable {p : Program} {l : Launch} {e : Env} {R : Room} {s : State} {m : MethodId} {args : Array Value} {below : List Frame} {meth : Method} {c : Code} {T : State} {locs : List Loc} {cells slots : Nat}
theorem retI (X : Stand p l e R s m args below meth c T locs cells slots) (hx : p.tables.exec = Jvm.exec) {pc : Nat} {Ls : Array Slot} {z : Int32} {rest : List Value} (hret : meth.sig.returnType = some .int) (hd : decode c.code pc = .ok (.ireturn, 1)) {fs : List Frame}
    (hl : ∀ (f : JFrame) (acts : List Action), f.method = m → f.locked = none → f.entered = [] → (doReturn e (T.setTop f) acts (some (.int z))).1 = T.setFrames fs) : Steps p.tables e below (T.setTop (mkF m pc Ls (.int z :: rest))) (T.setFrames fs) := by
  have hm' : T.vm.method? m = some meth := X.method'
  have hn : narrow .int (.int z) = .int z := rfl
  show Steps p.tables e below (T.setTop { method := m, pc := pc, locals := Ls, stack := _ :: rest, locked := none }) _
  jvm_step X.here [X.here.top, hx, hd, hm', hret, hn]
  first | (intro acts; rw [hl _ acts rfl rfl rfl]) | rw [hl _ _ rfl rfl rfl]
  exact Steps.refl _
variable {Q : Option Value → Heap → List Loc → Prop} {rc rs : Nat}
theorem own_end (X : Stand p l e R s m args below meth c T locs cells slots) (hlk : meth.locks = false) {v : Option Value} (hv : meth.sig.returnType = none → v = none) (hQ : Q v T.heap locs) (hc : cells ≤ rc) (hs : slots ≤ rs) {g : JFrame}
    (hst : ∀ fs, (∀ (f : JFrame) (acts : List Action), f.method = m → f.locked = none → f.entered = [] → (doReturn e (T.setTop f) acts v).1 = T.setFrames fs) → Steps p.tables e below (T.setTop g) (T.setFrames fs)) : own_R p.tables e below (own_F below s Q rc rs) (T.setTop g) := by
  obtain ⟨fs, hr, hrun, hended, hW, hsame⟩ := X.leave hv hlk
  exact ⟨T.setFrames fs, ⟨hrun, v, locs, hended, hQ, ⟨_, rfl⟩, hW, hsame.mono hc hs⟩, fun t k => (hst fs hr).trans k⟩
theorem own_ret0 (X : Stand p l e R s m args below meth c T locs cells slots) (hx : p.tables.exec = Jvm.exec) {pc : Nat} {Ls : Array Slot} (hret : meth.sig.returnType = none) (hd : decode c.code pc = .ok (.return_, 1)) (hlk : meth.locks = false) (hQ : Q none T.heap locs) (hc : cells ≤ rc) (hs : slots ≤ rs) :
    own_R p.tables e below (own_F below s Q rc rs) (T.setTop (mkF m pc Ls [])) := own_end X hlk (fun _ => rfl) hQ hc hs fun _ hr => X.returnOut hx hret hd hr
theorem own_retI (X : Stand p l e R s m args below meth c T locs cells slots) (hx : p.tables.exec = Jvm.exec) {pc : Nat} {Ls : Array Slot} {z : Int32} {rest : List Value} (hret : meth.sig.returnType = some .int) (hd : decode c.code pc = .ok (.ireturn, 1)) (hlk : meth.locks = false) (hQ : Q (some (.int z)) T.heap locs) (hc : cells ≤ rc) (hs : slots ≤ rs) :
    own_R p.tables e below (own_F below s Q rc rs) (T.setTop (mkF m pc Ls (.int z :: rest))) := own_end X hlk (fun h => by rw [hret] at h; cases h) hQ hc hs fun _ hr => retI X hx hret hd hr
theorem own_retN (X : Stand p l e R s m args below meth c T locs cells slots) (hx : p.tables.exec = Jvm.exec) {t : FieldType} (ht : t = .boolean ∨ t = .byte ∨ t = .char ∨ t = .short) {pc : Nat} {Ls : Array Slot} {z : Int32} {rest : List Value} (hret : meth.sig.returnType = some t) (hd : decode c.code pc = .ok (.ireturn, 1)) (hlk : meth.locks = false) (hQ : Q (some (.int (nar t z))) T.heap locs) (hc : cells ≤ rc) (hs : slots ≤ rs) :
    own_R p.tables e below (own_F below s Q rc rs) (T.setTop (mkF m pc Ls (.int z :: rest))) := own_end X hlk (fun h => by rw [hret] at h; cases h) hQ hc hs fun _ hr => retN X hx hret ht hd hr
theorem own_retL (X : Stand p l e R s m args below meth c T locs cells slots) (hx : p.tables.exec = Jvm.exec) {pc : Nat} {Ls : Array Slot} {z : Int64} {rest : List Value} (hret : meth.sig.returnType = some .long) (hd : decode c.code pc = .ok (.lreturn, 1)) (hlk : meth.locks = false) (hQ : Q (some (.long z)) T.heap locs) (hc : cells ≤ rc) (hs : slots ≤ rs) :
    own_R p.tables e below (own_F below s Q rc rs) (T.setTop (mkF m pc Ls (.long z :: rest))) := own_end X hlk (fun h => by rw [hret] at h; cases h) hQ hc hs fun _ hr => retOut X hx hret rfl (Or.inr (Or.inl ⟨rfl, rfl, z, rfl⟩)) hd hr
theorem own_retA (X : Stand p l e R s m args below meth c T locs cells slots) (hx : p.tables.exec = Jvm.exec) {t : FieldType} {pc : Nat} {Ls : Array Slot} {w : Value} {rest : List Value} (ht : t.isReference = true) (hw : w.isRef = true) (hret : meth.sig.returnType = some t) (hd : decode c.code pc = .ok (.areturn, 1)) (hlk : meth.locks = false) (hQ : Q (some w) T.heap locs) (hc : cells ≤ rc) (hs : slots ≤ rs) :
    own_R p.tables e below (own_F below s Q rc rs) (T.setTop (mkF m pc Ls (w :: rest))) := own_end X hlk (fun h => by rw [hret] at h; cases h) hQ hc hs fun _ hr => retOut X hx hret (by cases t <;> first | rfl | cases ht) (Or.inr (Or.inr (Or.inr (Or.inr ⟨rfl, ht, hw⟩)))) hd hr
variable {Z : State} {h : Heap} {a : Addr} {k : ClassId} {n : Int32} {vs : List Value} {dv : Value}
theorem own_len (X : Stand p l e R s m args below meth c T locs cells slots) (hx : p.tables.exec = Jvm.exec) (hZ : Z.Warmed39 s.vm) (eT : T.heap = h) {ty : FieldType} (V : Arv Z h a k ty n vs dv) {g : JFrame} (hg : g.method = m) {rest : List Value} (hs : g.stack = .ref a :: rest) (hd : decode c.code g.pc = .ok (.arraylength, 1)) :
    ∀ target, Steps p.tables e below (T.setTop { g with pc := g.pc + 1, stack := .int n :: rest }) target → Steps p.tables e below (T.setTop g) target := by
  obtain ⟨cl, A, -, S, N, -, -⟩ := V
  intro t kt
  refine X.arraylength hx (by rw [eT]; exact A.1) (State.isArrayOf_alike hZ.alike A.2.1) hg hs hd t ?_
  rw [len_of S N]; exact kt
theorem own_ldI (X : Stand p l e R s m args below meth c T locs cells slots) (hx : p.tables.exec = Jvm.exec) (hZ : Z.Warmed39 s.vm) (eT : T.heap = h) (V : Arv Z h a k .int n vs dv) {j : Int32} {i : Nat} (hj : ¬ j < 0 ∧ j < n) (hi : j.toNatClampNeg = i) {v : Value} (hv : vs.getD i dv = v) {g : JFrame} (hg : g.method = m) {rest : List Value} (hs : g.stack = .int j :: .ref a :: rest) (hd : decode c.code g.pc = .ok (.iaload, 1)) :
    ∀ target, Steps p.tables e below (T.setTop { g with pc := g.pc + 1, stack := v :: rest }) target → Steps p.tables e below (T.setTop g) target := by
  obtain ⟨cl, A, -, S, N, H, -⟩ := V
  subst hi
  intro t kt
  exact X.iaload hx (by rw [eT]; exact A.1) (State.isArrayOf_alike hZ.alike A.2.1) A.2.2 (inb_of S hj) (H.at (inb_of S hj) hv) hg hs hd t kt
theorem own_ldJ (X : Stand p l e R s m args below meth c T locs cells slots) (hx : p.tables.exec = Jvm.exec) (hZ : Z.Warmed39 s.vm) (eT : T.heap = h) (V : Arv Z h a k .long n vs dv) {j : Int32} {i : Nat} (hj : ¬ j < 0 ∧ j < n) (hi : j.toNatClampNeg = i) {v : Value} (hv : vs.getD i dv = v) {g : JFrame} (hg : g.method = m) {rest : List Value} (hs : g.stack = .int j :: .ref a :: rest) (hd : decode c.code g.pc = .ok (.laload, 1)) :
    ∀ target, Steps p.tables e below (T.setTop { g with pc := g.pc + 1, stack := v :: rest }) target → Steps p.tables e below (T.setTop g) target := by
  obtain ⟨cl, A, -, S, N, H, -⟩ := V
  subst hi
  intro t kt
  exact X.laload hx (by rw [eT]; exact A.1) (State.isArrayOf_alike hZ.alike A.2.1) A.2.2 (inb_of S hj) (H.at (inb_of S hj) hv) hg hs hd t kt
theorem own_ldB (X : Stand p l e R s m args below meth c T locs cells slots) (hx : p.tables.exec = Jvm.exec) (hZ : Z.Warmed39 s.vm) (eT : T.heap = h) (V : Arv Z h a k .byte n vs dv) {j : Int32} {i : Nat} (hj : ¬ j < 0 ∧ j < n) (hi : j.toNatClampNeg = i) {v : Value} (hv : vs.getD i dv = v) {g : JFrame} (hg : g.method = m) {rest : List Value} (hs : g.stack = .int j :: .ref a :: rest) (hd : decode c.code g.pc = .ok (.baload, 1)) :
    ∀ target, Steps p.tables e below (T.setTop { g with pc := g.pc + 1, stack := v :: rest }) target → Steps p.tables e below (T.setTop g) target := by
  obtain ⟨cl, A, -, S, N, H, -⟩ := V
  subst hi
  intro t kt
  exact X.baloadBytes hx (by rw [eT]; exact A.1) (State.isArrayOf_alike hZ.alike A.2.1) A.2.2 (inb_of S hj) (H.at (inb_of S hj) hv) hg hs hd t kt
theorem own_stI (X : Stand p l e R s m args below meth c T locs cells slots) (hx : p.tables.exec = Jvm.exec) (hZ : Z.Warmed39 s.vm) (eT : T.heap = h) (V : Arv Z h a k .int n vs dv) {j : Int32} {i : Nat} (hj : ¬ j < 0 ∧ j < n) (hi : j.toNatClampNeg = i) (hlen : i < vs.length) {x : Int32} {w : Value} (hw : w = .int x) {g : JFrame} (hg : g.method = m) {rest : List Value} (hs : g.stack = .int x :: .int j :: .ref a :: rest) (hd : decode c.code g.pc = .ok (.iastore, 1)) :
    ∃ T' h' sl, Stand p l e R s m args below meth c T' (locs ++ [⟨a, sl⟩]) cells slots ∧ T'.heap = h' ∧ Wr h h' a sl w ∧ Arv Z h' a k .int n (vs.set i w) dv ∧ ∀ target, Steps p.tables e below (T'.setTop { g with pc := g.pc + 1, stack := rest }) target → Steps p.tables e below (T.setTop g) target := by
  obtain ⟨cl, A, q1, S, N, H, G⟩ := V
  subst hw
  obtain ⟨T', h', X', e', W', st⟩ := stI X hx hZ eT A (j := j) (inb_of S hj) hg hs hd
  exact ⟨T', h', _, X', e', W', Arv.set A q1 S N H G rfl W' i hi hlen, st⟩
theorem own_stJ (X : Stand p l e R s m args below meth c T locs cells slots) (hx : p.tables.exec = Jvm.exec) (hZ : Z.Warmed39 s.vm) (eT : T.heap = h) (V : Arv Z h a k .long n vs dv) {j : Int32} {i : Nat} (hj : ¬ j < 0 ∧ j < n) (hi : j.toNatClampNeg = i) (hlen : i < vs.length) {x : Int64} {w : Value} (hw : w = .long x) {g : JFrame} (hg : g.method = m) {rest : List Value} (hs : g.stack = .long x :: .int j :: .ref a :: rest) (hd : decode c.code g.pc = .ok (.lastore, 1)) :
    ∃ T' h' sl, Stand p l e R s m args below meth c T' (locs ++ [⟨a, sl⟩]) cells slots ∧ T'.heap = h' ∧ Wr h h' a sl w ∧ Arv Z h' a k .long n (vs.set i w) dv ∧ ∀ target, Steps p.tables e below (T'.setTop { g with pc := g.pc + 1, stack := rest }) target → Steps p.tables e below (T.setTop g) target := by
  obtain ⟨cl, A, q1, S, N, H, G⟩ := V
  subst hw
  obtain ⟨T', h', X', e', W', st⟩ := stJ X hx hZ eT A (j := j) (inb_of S hj) hg hs hd
  exact ⟨T', h', _, X', e', W', Arv.set A q1 S N H G rfl W' i hi hlen, st⟩
end New
end Jvm.RoadKit
namespace Jvm.Pilot.@@N@@
open Jvm Jvm.ClassFile Sem Op Lib Jvm.Free Jvm.Stand Jvm.LawKit Jvm.RoadKit Bundle Jvm.Pilot.@@N@@.Jvm.D
theorem pd_0 : parseMethodDescriptor "(I)Z" = some ⟨[.int], some .boolean⟩ := by decide +kernel

def own_smp (p : Int32) : Int32 := if ((p.toUInt32 >>> ((24 : Int32) &&& 31).toUInt32).toInt32) = 0 then 1 else 0
theorem own_smp_eq (p : Int32) : own_smp p = if ¬ p < 0 ∧ ¬ (16777215 : Int32) < p then 1 else 0 := by
  have h := c_iushr p 24 24 rfl (by decide)
  have r := rng32 p
  rw [own_smp]
  have e : (((p.toUInt32 >>> ((24 : Int32) &&& 31).toUInt32).toInt32) = 0) ↔ (¬ p < 0 ∧ ¬ (16777215 : Int32) < p) := by
    rw [← Int32.toInt_inj, h, Int32.lt_iff_toInt_lt, Int32.lt_iff_toInt_lt, show (0 : Int32).toInt = 0 from rfl, show (16777215 : Int32).toInt = 16777215 from rfl]
    omega
  simp only [e]
theorem own_step (q s : Int32) (h : (q &&& 3) - 2 = s) : -2 ≤ s.toInt ∧ s.toInt ≤ 1 := by
  have h1 := c_and q 3 (by decide)
  have h2 := c_isub (q &&& 3) 2
  have r := rng32 ((q &&& 3) - 2)
  rw [show (3 : Int32).toInt = 3 from rfl] at h1
  rw [show (2 : Int32).toInt = 2 from rfl] at h2
  rw [h] at h2 r
  omega
theorem own_low (q : Int32) (b : Int32) (hb : b = if ¬ ((q &&& 3) - 2) < 0 then 1 else 0) : own_smp ((q &&& 3) - 2) = b := by
  subst hb
  rw [own_smp_eq]
  obtain ⟨s, hs⟩ : ∃ s, (q &&& 3) - 2 = s := ⟨_, rfl⟩
  have h := own_step q s hs
  rw [hs]
  have e : (¬ s < 0 ∧ ¬ (16777215 : Int32) < s) ↔ ¬ s < 0 := by
    rw [Int32.lt_iff_toInt_lt, Int32.lt_iff_toInt_lt, show (0 : Int32).toInt = 0 from rfl, show (16777215 : Int32).toInt = 16777215 from rfl]
    omega
  simp only [e]
theorem own_high (q : Int32) (b : Int32) (hb : b = if ((16777216 : Int32) + ((q &&& 3) - 2)) < 16777216 then 1 else 0) : own_smp ((16777216 : Int32) + ((q &&& 3) - 2)) = b := by
  subst hb
  rw [own_smp_eq]
  obtain ⟨s, hs⟩ : ∃ s, (q &&& 3) - 2 = s := ⟨_, rfl⟩
  have h := own_step q s hs
  rw [hs]
  have h2 := c_iadd 16777216 s
  have r := rng32 ((16777216 : Int32) + s)
  rw [show (16777216 : Int32).toInt = 16777216 from rfl] at h2
  have e : (¬ ((16777216 : Int32) + s) < 0 ∧ ¬ (16777215 : Int32) < ((16777216 : Int32) + s)) ↔ ((16777216 : Int32) + s) < 16777216 := by
    rw [Int32.lt_iff_toInt_lt, Int32.lt_iff_toInt_lt, Int32.lt_iff_toInt_lt, show (0 : Int32).toInt = 0 from rfl, show (16777215 : Int32).toInt = 16777215 from rfl, show (16777216 : Int32).toInt = 16777216 from rfl]
    omega
  simp only [e]
theorem d1_0 : decode prog_105_method_4_code 0 = .ok (.iload_n 0, 1) := by decide +kernel
theorem d1_1 : decode prog_105_method_4_code 1 = .ok (.bipush 24, 2) := by decide +kernel
theorem d1_3 : decode prog_105_method_4_code 3 = .ok (.iushr, 1) := by decide +kernel
theorem d1_4 : decode prog_105_method_4_code 4 = .ok (.ifCond .ne 7, 3) := by decide +kernel
theorem d1_7 : decode prog_105_method_4_code 7 = .ok (.iconst 1, 1) := by decide +kernel
theorem d1_8 : decode prog_105_method_4_code 8 = .ok (.goto 4, 3) := by decide +kernel
theorem d1_11 : decode prog_105_method_4_code 11 = .ok (.iconst 0, 1) := by decide +kernel
theorem d1_12 : decode prog_105_method_4_code 12 = .ok (.ireturn, 1) := by decide +kernel
theorem pn_1 : plainName "com/example/parametree/parametree/Tree$Pairs" = true := by first | (simp [plainName, overriddenIn]; done) | decide +kernel
theorem ef_1 (m : MethodId) (x0 : Int32) : entryFrame m #[(.int x0)] 1 = mkF m 0 #[.val (.int x0)] [] := by first | (simp [entryFrame, mkF, argsToLocals, Value.category]; done) | rfl
def Q1 (Z : State) (p1 : Int32) (h0 : Heap) (n0 : Nat) (v : Option Value) (h : Heap) (L : List Loc) : Prop := v = some (.int (own_smp p1)) ∧ Fr n0 L ∧ h = h0
set_option maxRecDepth 65536 in
set_option maxHeartbeats 40000000 in
theorem rm1 (l : Launch) (Z : State) (a0 : Array Value) (hw : ∀ d ∈ tables_1, d.before a0 Z = true) (ws : List Jvm.Cond) (p1 : Int32) (h0 : Heap) (n0 : Nat) (ZS : n0 ≤ h0.size) :
    MetFree l (⟨"com/example/parametree/parametree/Tree$Pairs", "sampled", "(I)Z"⟩ : MethodName) (head1 (Jvm.Cond.code (⟨"com/example/parametree/parametree/Tree$Pairs", "sampled", "(I)Z"⟩ : MethodName) prog_105_method_4_code 1 (some .boolean) :: ws) ({ frames := 0, cells := 0, slots := 0, locals := 0 } : Room)) (fun a U => a = #[(.int p1)] ∧ Z.Warmed39 U.vm ∧ U.heap = h0) (fun _ _ _ _ _ => True) (fun _ U o U' => ∃ v L, o = .returned v ∧ Q1 Z p1 h0 n0 v U'.heap L ∧ FrameEnd U o U' L ({ frames := 0, cells := 0, slots := 0, locals := 0 } : Room).cells ({ frames := 0, cells := 0, slots := 0, locals := 0 } : Room).slots) := by
  refine MetFree.of_bodySF (plainFor_of_name pn_1) hisR ?_
  intro p e s m args below meth c s₁ Bd hml0 hP hK
  obtain ⟨rfl, hZ, hh⟩ := hP
  have hx := Bd.exec
  have hby := Bd.bytes
  have hml : c.maxLocals = 1 := hml0
  have hown : s.vm.findClass "com/example/parametree/parametree/Tree$Pairs" = some m.cls := findClass_of_methodNamed Bd.named
  have hnm := (name_of_methodNamed Bd.named Bd.method).1
  have hlk : meth.locks = false := Bd.notSynchronized
  have X0 : Stand p l e ({ frames := 0, cells := 0, slots := 0, locals := 0 } : Room) s m #[(.int p1)] below meth c s₁ [] 0 0 := Stand.of_body Bd
  have e0 : s₁.heap = h0 := by rw [← hh, Bd.state]; rfl
  have NF := Fr.nil n0
  have KP : Keep h0 h0 [] := Keep.refl _ _
  refine own_fin (s := s) (Q := Q1 Z p1 h0 n0) (rc := ({ frames := 0, cells := 0, slots := 0, locals := 0 } : Room).cells) (rs := ({ frames := 0, cells := 0, slots := 0, locals := 0 } : Room).slots) ?_
  refine own_go (fun t k => castTop (ef_1 m p1) k) ?_
  show own_R _ _ _ _ (s₁.setTop (mkF m 0 #[.val (.int p1)] []))
  refine own_go (fun _ k => XS.iloadN X0.here hx rfl (hb hby d1_0) rfl k) ?_
  show own_R _ _ _ _ (s₁.setTop (mkF m 1 #[.val (.int p1)] [(.int p1)]))
  refine own_go (fun _ k => XS.bipush X0.here hx rfl (hb hby d1_1) k) ?_
  show own_R _ _ _ _ (s₁.setTop (mkF m 3 #[.val (.int p1)] [(.int (24 : Int32)), (.int p1)]))
  refine own_go (fun _ k => XS.iushr X0.here hx rfl (hb hby d1_3) rfl k) ?_
  show own_R _ _ _ _ (s₁.setTop (mkF m 4 #[.val (.int p1)] [(.int ((p1.toUInt32 >>> ((24 : Int32) &&& 31).toUInt32).toInt32))]))
  by_cases hc1 : ((p1.toUInt32 >>> ((24 : Int32) &&& 31).toUInt32).toInt32) = (0 : Int32)
  · refine own_go (fun _ k => XS.ifNo X0.here hx rfl (hb hby d1_4) rfl ((if0 _ _).trans (teq hc1).2) k) ?_
    show own_R _ _ _ _ (s₁.setTop (mkF m 7 #[.val (.int p1)] []))
    refine own_go (fun _ k => XS.iconst X0.here hx rfl (hb hby d1_7) k) ?_
    show own_R _ _ _ _ (s₁.setTop (mkF m 8 #[.val (.int p1)] [(.int (1 : Int32))]))
    refine own_go (fun _ k => XS.goto X0.here hx rfl (pc0 := 8) (pc' := 12) rfl (hb hby d1_8) (by decide) (by decide) k) ?_
    show own_R _ _ _ _ (s₁.setTop (mkF m 12 #[.val (.int p1)] [(.int (1 : Int32))]))
    exact own_retN X0 hx (t := .boolean) (by simp) Bd.returns (hb hby d1_12) hlk ⟨by rw [show own_smp p1 = (1 : Int32) from by simp only [own_smp, hc1, if_true, if_false]]; rfl, NF, e0⟩ (by decide) (by decide)
  · refine own_go (fun _ k => XS.ifYes X0.here hx rfl (pc0 := 4) (pc' := 11) rfl (hb hby d1_4) rfl ((if0 _ _).trans (feq hc1).2) (by decide) (by decide) k) ?_
    show own_R _ _ _ _ (s₁.setTop (mkF m 11 #[.val (.int p1)] []))
    refine own_go (fun _ k => XS.iconst X0.here hx rfl (hb hby d1_11) k) ?_
    show own_R _ _ _ _ (s₁.setTop (mkF m 12 #[.val (.int p1)] [(.int (0 : Int32))]))
    exact own_retN X0 hx (t := .boolean) (by simp) Bd.returns (hb hby d1_12) hlk ⟨by rw [show own_smp p1 = (0 : Int32) from by simp only [own_smp, hc1, if_true, if_false]]; rfl, NF, e0⟩ (by decide) (by decide)
theorem pn_0 : plainName "com/example/parametree/parametree/PairsSampledPinLaw" = true := by first | (simp [plainName, overriddenIn]; done) | decide +kernel
theorem ef_0 (m : MethodId) (x0 : Int32) (x1 : Int32) : entryFrame m #[(.int x0), (.int x1)] maxLocals = mkF m 0 #[.val (.int x0), .val (.int x1), .unset, .unset, .unset, .unset, .unset, .unset, .unset, .unset, .unset] [] := by first | (simp [entryFrame, mkF, argsToLocals, Value.category, maxLocals]; done) | rfl
def Q0 (Z : State) (p1 : Int32) (p2 : Int32) (h0 : Heap) (n0 : Nat) (v : Option Value) (h : Heap) (L : List Loc) : Prop := v = some (.int 1) ∧ Fr n0 L
set_option maxRecDepth 65536 in
set_option maxHeartbeats 40000000 in
theorem rm0 (l : Launch) (Z : State) (a0 : Array Value) (hw : ∀ d ∈ tables_1, d.before a0 Z = true) (ws : List Jvm.Cond) (p1 : Int32) (p2 : Int32) (h0 : Heap) (n0 : Nat) (ZS : n0 ≤ h0.size) :
    MetFree l x (head1 (Jvm.Cond.code x code maxLocals ret :: ws) room_1) (fun a U => a = #[(.int p1), (.int p2)] ∧ Z.Warmed39 U.vm ∧ U.heap = h0) (fun _ _ _ _ _ => True) (fun _ U o U' => ∃ v L, o = .returned v ∧ Q0 Z p1 p2 h0 n0 v U'.heap L ∧ FrameEnd U o U' L 0 0) := by
  refine MetFree.of_bodySF (plainFor_of_name pn_0) hisR ?_
  intro p e s m args below meth c s₁ Bd hml0 hP hK
  obtain ⟨rfl, hZ, hh⟩ := hP
  have hx := Bd.exec
  have hby := Bd.bytes
  have hml : c.maxLocals = 11 := hml0
  have hown : s.vm.findClass "com/example/parametree/parametree/PairsSampledPinLaw" = some m.cls := findClass_of_methodNamed Bd.named
  have hnm := (name_of_methodNamed Bd.named Bd.method).1
  have hlk : meth.locks = false := Bd.notSynchronized
  have X0 : Stand p l e room_1 s m #[(.int p1), (.int p2)] below meth c s₁ [] 0 0 := Stand.of_body Bd
  have e0 : s₁.heap = h0 := by rw [← hh, Bd.state]; rfl
  have NF := Fr.nil n0
  have KP : Keep h0 h0 [] := Keep.refl _ _
  refine own_fin (s := s) (Q := Q0 Z p1 p2 h0 n0) (rc := 0) (rs := 0) ?_
  refine own_go (fun t k => castTop (ef_0 m p1 p2) k) ?_
  show own_R _ _ _ _ (s₁.setTop (mkF m 0 #[.val (.int p1), .val (.int p2), .unset, .unset, .unset, .unset, .unset, .unset, .unset, .unset, .unset] []))
  refine own_go (fun _ k => XS.iloadN X0.here hx rfl (hb hby at_0) rfl k) ?_
  show own_R _ _ _ _ (s₁.setTop (mkF m 1 #[.val (.int p1), .val (.int p2), .unset, .unset, .unset, .unset, .unset, .unset, .unset, .unset, .unset] [(.int p1)]))
  obtain ⟨_, _, ⟨T2, L2, k2, n2⟩, -, X2, ⟨Lc2, hQ2, l2, y2, z2⟩, st2⟩ := Jvm.LawKit.callS X0 hx (y := (⟨"com/example/parametree/parametree/Tree$Pairs", "sampled", "(I)Z"⟩ : MethodName)) hown (mvT hZ (hw _ (List.mem_of_getElem? (i := 0) rfl))) (mvT hZ (hw _ (List.mem_of_getElem? (i := 1) rfl))) (mvT hZ (hw _ (List.mem_of_getElem? (i := 2) rfl))) (mvT hZ (hw _ (List.mem_of_getElem? (i := 3) rfl))) (by decide) (backOf (W := 0) (rm1 l Z a0 hw [] p1 h0 n0 ZS) hZ (hw _ (List.mem_of_getElem? (i := 3) rfl)) (hw _ (List.mem_of_getElem? (i := 2) rfl)) (by decide) (by decide)) (g := (mkF m 1 #[.val (.int p1), .val (.int p2), .unset, .unset, .unset, .unset, .unset, .unset, .unset, .unset, .unset] [(.int p1)])) rfl (by rw [hml]; rfl) (argsL := [(.int p1)]) (rest := []) (lenOf pd_0 rfl) rfl (by show 2 * 0 + _ ≤ _; exact Nat.le_of_eq rfl) (hb hby at_1) (fun _ _ => ⟨rfl, e0, (by decide : 0 + 0 ≤ _), (by decide : 0 + 0 ≤ _)⟩)
  dsimp only [Pt.U, Pt.locs, Pt.cells, Pt.slots] at X2 l2 y2 z2 st2 hQ2
  subst l2 y2 z2
  obtain ⟨rfl, N2q, e2⟩ := hQ2
  have NF := Fr.app NF N2q
  refine own_go st2 ?_
  show own_R _ _ _ _ (T2.setTop (mkF m 4 #[.val (.int p1), .val (.int p2), .unset, .unset, .unset, .unset, .unset, .unset, .unset, .unset, .unset] [(.int (own_smp p1))]))
  refine own_go (fun _ k => XS.istoreN X2.here hx rfl (hb hby at_4) rfl (l' := #[.val (.int p1), .val (.int p2), .val (.int (own_smp p1)), .unset, .unset, .unset, .unset, .unset, .unset, .unset, .unset]) rfl k) ?_
  show own_R _ _ _ _ (T2.setTop (mkF m 5 #[.val (.int p1), .val (.int p2), .val (.int (own_smp p1)), .unset, .unset, .unset, .unset, .unset, .unset, .unset, .unset] []))
  obtain ⟨_, ⟨b1, hs3, rfl⟩, sg3⟩ : own_R p.tables e below (fun U => ∃ (b1 : Int32), (b1 = if ¬ p1 < 0 ∧ ¬ (16777215 : Int32) < p1 then 1 else 0) ∧ U = T2.setTop (mkF m 20 #[.val (.int p1), .val (.int p2), .val (.int (own_smp p1)), .unset, .unset, .unset, .unset, .unset, .unset, .unset, .unset] [(.int b1)])) (T2.setTop (mkF m 5 #[.val (.int p1), .val (.int p2), .val (.int (own_smp p1)), .unset, .unset, .unset, .unset, .unset, .unset, .unset, .unset] [])) := by
    refine own_go (fun _ k => XS.iloadN X2.here hx rfl (hb hby at_5) rfl k) ?_
    show own_R _ _ _ _ (T2.setTop (mkF m 6 #[.val (.int p1), .val (.int p2), .val (.int (own_smp p1)), .unset, .unset, .unset, .unset, .unset, .unset, .unset, .unset] [(.int p1)]))
    by_cases hc4 : p1 < (0 : Int32)
    · refine own_go (fun _ k => XS.ifYes X2.here hx rfl (pc0 := 6) (pc' := 19) rfl (hb hby at_6) rfl ((if0 _ _).trans (tlt hc4).1) (by decide) (by decide) k) ?_
      show own_R _ _ _ _ (T2.setTop (mkF m 19 #[.val (.int p1), .val (.int p2), .val (.int (own_smp p1)), .unset, .unset, .unset, .unset, .unset, .unset, .unset, .unset] []))
      refine own_go (fun _ k => XS.iconst X2.here hx rfl (hb hby at_19) k) ?_
      show own_R _ _ _ _ (T2.setTop (mkF m 20 #[.val (.int p1), .val (.int p2), .val (.int (own_smp p1)), .unset, .unset, .unset, .unset, .unset, .unset, .unset, .unset] [(.int (0 : Int32))]))
      exact own_leaf ⟨(0 : Int32), by simp [hc4], rfl⟩
    · refine own_go (fun _ k => XS.ifNo X2.here hx rfl (hb hby at_6) rfl ((if0 _ _).trans (flt hc4).1) k) ?_
      show own_R _ _ _ _ (T2.setTop (mkF m 9 #[.val (.int p1), .val (.int p2), .val (.int (own_smp p1)), .unset, .unset, .unset, .unset, .unset, .unset, .unset, .unset] []))
      refine own_go (fun _ k => XS.iloadN X2.here hx rfl (hb hby at_9) rfl k) ?_
      show own_R _ _ _ _ (T2.setTop (mkF m 10 #[.val (.int p1), .val (.int p2), .val (.int (own_smp p1)), .unset, .unset, .unset, .unset, .unset, .unset, .unset, .unset] [(.int p1)]))
      refine own_go (X2.ldcInt hx hown (mvT hZ (hw _ (List.mem_of_getElem? (i := 4) rfl))) (g := (mkF m 10 #[.val (.int p1), .val (.int p2), .val (.int (own_smp p1)), .unset, .unset, .unset, .unset, .unset, .unset, .unset, .unset] [(.int p1)])) rfl (hb hby at_10)) ?_
      show own_R _ _ _ _ (T2.setTop (mkF m 12 #[.val (.int p1), .val (.int p2), .val (.int (own_smp p1)), .unset, .unset, .unset, .unset, .unset, .unset, .unset, .unset] [(.int (16777215 : Int32)), (.int p1)]))
      by_cases hc5 : (16777215 : Int32) < p1
      · refine own_go (fun _ k => XS.icmpYes X2.here hx rfl (pc0 := 12) (pc' := 19) rfl (hb hby at_12) rfl (tlt hc5).2.2.1 (by decide) (by decide) k) ?_
        show own_R _ _ _ _ (T2.setTop (mkF m 19 #[.val (.int p1), .val (.int p2), .val (.int (own_smp p1)), .unset, .unset, .unset, .unset, .unset, .unset, .unset, .unset] []))
        refine own_go (fun _ k => XS.iconst X2.here hx rfl (hb hby at_19) k) ?_
        show own_R _ _ _ _ (T2.setTop (mkF m 20 #[.val (.int p1), .val (.int p2), .val (.int (own_smp p1)), .unset, .unset, .unset, .unset, .unset, .unset, .unset, .unset] [(.int (0 : Int32))]))
        exact own_leaf ⟨(0 : Int32), by simp [hc4, hc5], rfl⟩
      · refine own_go (fun _ k => XS.icmpNo X2.here hx rfl (hb hby at_12) rfl (flt hc5).2.2.1 k) ?_
        show own_R _ _ _ _ (T2.setTop (mkF m 15 #[.val (.int p1), .val (.int p2), .val (.int (own_smp p1)), .unset, .unset, .unset, .unset, .unset, .unset, .unset, .unset] []))
        refine own_go (fun _ k => XS.iconst X2.here hx rfl (hb hby at_15) k) ?_
        show own_R _ _ _ _ (T2.setTop (mkF m 16 #[.val (.int p1), .val (.int p2), .val (.int (own_smp p1)), .unset, .unset, .unset, .unset, .unset, .unset, .unset, .unset] [(.int (1 : Int32))]))
        refine own_go (fun _ k => XS.goto X2.here hx rfl (pc0 := 16) (pc' := 20) rfl (hb hby at_16) (by decide) (by decide) k) ?_
        show own_R _ _ _ _ (T2.setTop (mkF m 20 #[.val (.int p1), .val (.int p2), .val (.int (own_smp p1)), .unset, .unset, .unset, .unset, .unset, .unset, .unset, .unset] [(.int (1 : Int32))]))
        exact own_leaf ⟨(1 : Int32), by simp [hc4, hc5], rfl⟩
  refine own_go sg3 ?_
  show own_R _ _ _ _ (T2.setTop (mkF m 20 #[.val (.int p1), .val (.int p2), .val (.int (own_smp p1)), .unset, .unset, .unset, .unset, .unset, .unset, .unset, .unset] [(.int b1)]))
  refine own_go (fun _ k => XS.istoreN X2.here hx rfl (hb hby at_20) rfl (l' := #[.val (.int p1), .val (.int p2), .val (.int (own_smp p1)), .val (.int b1), .unset, .unset, .unset, .unset, .unset, .unset, .unset]) rfl k) ?_
  show own_R _ _ _ _ (T2.setTop (mkF m 21 #[.val (.int p1), .val (.int p2), .val (.int (own_smp p1)), .val (.int b1), .unset, .unset, .unset, .unset, .unset, .unset, .unset] []))
  refine own_go (fun _ k => XS.iloadN X2.here hx rfl (hb hby at_21) rfl k) ?_
  show own_R _ _ _ _ (T2.setTop (mkF m 22 #[.val (.int p1), .val (.int p2), .val (.int (own_smp p1)), .val (.int b1), .unset, .unset, .unset, .unset, .unset, .unset, .unset] [(.int p2)]))
  refine own_go (fun _ k => XS.iconst X2.here hx rfl (hb hby at_22) k) ?_
  show own_R _ _ _ _ (T2.setTop (mkF m 23 #[.val (.int p1), .val (.int p2), .val (.int (own_smp p1)), .val (.int b1), .unset, .unset, .unset, .unset, .unset, .unset, .unset] [(.int (3 : Int32)), (.int p2)]))
  refine own_go (fun _ k => XS.iand X2.here hx rfl (hb hby at_23) rfl k) ?_
  show own_R _ _ _ _ (T2.setTop (mkF m 24 #[.val (.int p1), .val (.int p2), .val (.int (own_smp p1)), .val (.int b1), .unset, .unset, .unset, .unset, .unset, .unset, .unset] [(.int (p2 &&& (3 : Int32)))]))
  refine own_go (fun _ k => XS.iconst X2.here hx rfl (hb hby at_24) k) ?_
  show own_R _ _ _ _ (T2.setTop (mkF m 25 #[.val (.int p1), .val (.int p2), .val (.int (own_smp p1)), .val (.int b1), .unset, .unset, .unset, .unset, .unset, .unset, .unset] [(.int (2 : Int32)), (.int (p2 &&& (3 : Int32)))]))
  refine own_go (fun _ k => XS.isub X2.here hx rfl (hb hby at_25) rfl k) ?_
  show own_R _ _ _ _ (T2.setTop (mkF m 26 #[.val (.int p1), .val (.int p2), .val (.int (own_smp p1)), .val (.int b1), .unset, .unset, .unset, .unset, .unset, .unset, .unset] [(.int ((p2 &&& (3 : Int32)) - (2 : Int32)))]))
  refine own_go (fun _ k => XS.istore X2.here hx rfl (hb hby at_26) rfl (l' := #[.val (.int p1), .val (.int p2), .val (.int (own_smp p1)), .val (.int b1), .val (.int ((p2 &&& (3 : Int32)) - (2 : Int32))), .unset, .unset, .unset, .unset, .unset, .unset]) rfl k) ?_
  show own_R _ _ _ _ (T2.setTop (mkF m 28 #[.val (.int p1), .val (.int p2), .val (.int (own_smp p1)), .val (.int b1), .val (.int ((p2 &&& (3 : Int32)) - (2 : Int32))), .unset, .unset, .unset, .unset, .unset, .unset] []))
  refine own_go (fun _ k => XS.iload X2.here hx rfl (hb hby at_28) rfl k) ?_
  show own_R _ _ _ _ (T2.setTop (mkF m 30 #[.val (.int p1), .val (.int p2), .val (.int (own_smp p1)), .val (.int b1), .val (.int ((p2 &&& (3 : Int32)) - (2 : Int32))), .unset, .unset, .unset, .unset, .unset, .unset] [(.int ((p2 &&& (3 : Int32)) - (2 : Int32)))]))
  refine own_go (fun _ k => XS.istore X2.here hx rfl (hb hby at_30) rfl (l' := #[.val (.int p1), .val (.int p2), .val (.int (own_smp p1)), .val (.int b1), .val (.int ((p2 &&& (3 : Int32)) - (2 : Int32))), .val (.int ((p2 &&& (3 : Int32)) - (2 : Int32))), .unset, .unset, .unset, .unset, .unset]) rfl k) ?_
  show own_R _ _ _ _ (T2.setTop (mkF m 32 #[.val (.int p1), .val (.int p2), .val (.int (own_smp p1)), .val (.int b1), .val (.int ((p2 &&& (3 : Int32)) - (2 : Int32))), .val (.int ((p2 &&& (3 : Int32)) - (2 : Int32))), .unset, .unset, .unset, .unset, .unset] []))
  refine own_go (X2.ldcInt hx hown (mvT hZ (hw _ (List.mem_of_getElem? (i := 5) rfl))) (g := (mkF m 32 #[.val (.int p1), .val (.int p2), .val (.int (own_smp p1)), .val (.int b1), .val (.int ((p2 &&& (3 : Int32)) - (2 : Int32))), .val (.int ((p2 &&& (3 : Int32)) - (2 : Int32))), .unset, .unset, .unset, .unset, .unset] [])) rfl (hb hby at_32)) ?_
  show own_R _ _ _ _ (T2.setTop (mkF m 34 #[.val (.int p1), .val (.int p2), .val (.int (own_smp p1)), .val (.int b1), .val (.int ((p2 &&& (3 : Int32)) - (2 : Int32))), .val (.int ((p2 &&& (3 : Int32)) - (2 : Int32))), .unset, .unset, .unset, .unset, .unset] [(.int (16777216 : Int32))]))
  refine own_go (fun _ k => XS.iload X2.here hx rfl (hb hby at_34) rfl k) ?_
  show own_R _ _ _ _ (T2.setTop (mkF m 36 #[.val (.int p1), .val (.int p2), .val (.int (own_smp p1)), .val (.int b1), .val (.int ((p2 &&& (3 : Int32)) - (2 : Int32))), .val (.int ((p2 &&& (3 : Int32)) - (2 : Int32))), .unset, .unset, .unset, .unset, .unset] [(.int ((p2 &&& (3 : Int32)) - (2 : Int32))), (.int (16777216 : Int32))]))
  refine own_go (fun _ k => XS.iadd X2.here hx rfl (hb hby at_36) rfl k) ?_
  show own_R _ _ _ _ (T2.setTop (mkF m 37 #[.val (.int p1), .val (.int p2), .val (.int (own_smp p1)), .val (.int b1), .val (.int ((p2 &&& (3 : Int32)) - (2 : Int32))), .val (.int ((p2 &&& (3 : Int32)) - (2 : Int32))), .unset, .unset, .unset, .unset, .unset] [(.int ((16777216 : Int32) + ((p2 &&& (3 : Int32)) - (2 : Int32))))]))
  refine own_go (fun _ k => XS.istore X2.here hx rfl (hb hby at_37) rfl (l' := #[.val (.int p1), .val (.int p2), .val (.int (own_smp p1)), .val (.int b1), .val (.int ((p2 &&& (3 : Int32)) - (2 : Int32))), .val (.int ((p2 &&& (3 : Int32)) - (2 : Int32))), .val (.int ((16777216 : Int32) + ((p2 &&& (3 : Int32)) - (2 : Int32)))), .unset, .unset, .unset, .unset]) rfl k) ?_
  show own_R _ _ _ _ (T2.setTop (mkF m 39 #[.val (.int p1), .val (.int p2), .val (.int (own_smp p1)), .val (.int b1), .val (.int ((p2 &&& (3 : Int32)) - (2 : Int32))), .val (.int ((p2 &&& (3 : Int32)) - (2 : Int32))), .val (.int ((16777216 : Int32) + ((p2 &&& (3 : Int32)) - (2 : Int32)))), .unset, .unset, .unset, .unset] []))
  refine own_go (fun _ k => XS.iload X2.here hx rfl (hb hby at_39) rfl k) ?_
  show own_R _ _ _ _ (T2.setTop (mkF m 41 #[.val (.int p1), .val (.int p2), .val (.int (own_smp p1)), .val (.int b1), .val (.int ((p2 &&& (3 : Int32)) - (2 : Int32))), .val (.int ((p2 &&& (3 : Int32)) - (2 : Int32))), .val (.int ((16777216 : Int32) + ((p2 &&& (3 : Int32)) - (2 : Int32)))), .unset, .unset, .unset, .unset] [(.int ((p2 &&& (3 : Int32)) - (2 : Int32)))]))
  obtain ⟨_, _, ⟨T6, L6, k6, n6⟩, -, X6, ⟨Lc6, hQ6, l6, y6, z6⟩, st6⟩ := Jvm.LawKit.callS X2 hx (y := (⟨"com/example/parametree/parametree/Tree$Pairs", "sampled", "(I)Z"⟩ : MethodName)) hown (mvT hZ (hw _ (List.mem_of_getElem? (i := 0) rfl))) (mvT hZ (hw _ (List.mem_of_getElem? (i := 1) rfl))) (mvT hZ (hw _ (List.mem_of_getElem? (i := 2) rfl))) (mvT hZ (hw _ (List.mem_of_getElem? (i := 3) rfl))) (by decide) (backOf (W := 0) (rm1 l Z a0 hw [] ((p2 &&& (3 : Int32)) - (2 : Int32)) h0 n0 ZS) hZ (hw _ (List.mem_of_getElem? (i := 3) rfl)) (hw _ (List.mem_of_getElem? (i := 2) rfl)) (by decide) (by decide)) (g := (mkF m 41 #[.val (.int p1), .val (.int p2), .val (.int (own_smp p1)), .val (.int b1), .val (.int ((p2 &&& (3 : Int32)) - (2 : Int32))), .val (.int ((p2 &&& (3 : Int32)) - (2 : Int32))), .val (.int ((16777216 : Int32) + ((p2 &&& (3 : Int32)) - (2 : Int32)))), .unset, .unset, .unset, .unset] [(.int ((p2 &&& (3 : Int32)) - (2 : Int32)))])) rfl (by rw [hml]; rfl) (argsL := [(.int ((p2 &&& (3 : Int32)) - (2 : Int32)))]) (rest := []) (lenOf pd_0 rfl) rfl (by show 2 * 0 + _ ≤ _; exact Nat.le_of_eq rfl) (hb hby at_41) (fun _ _ => ⟨rfl, e2, (by decide : 0 + 0 ≤ _), (by decide : 0 + 0 ≤ _)⟩)
  dsimp only [Pt.U, Pt.locs, Pt.cells, Pt.slots] at X6 l6 y6 z6 st6 hQ6
  subst l6 y6 z6
  obtain ⟨rfl, N6q, e6⟩ := hQ6
  have NF := Fr.app NF N6q
  refine own_go st6 ?_
  show own_R _ _ _ _ (T6.setTop (mkF m 44 #[.val (.int p1), .val (.int p2), .val (.int (own_smp p1)), .val (.int b1), .val (.int ((p2 &&& (3 : Int32)) - (2 : Int32))), .val (.int ((p2 &&& (3 : Int32)) - (2 : Int32))), .val (.int ((16777216 : Int32) + ((p2 &&& (3 : Int32)) - (2 : Int32)))), .unset, .unset, .unset, .unset] [(.int (own_smp ((p2 &&& (3 : Int32)) - (2 : Int32))))]))
  refine own_go (fun _ k => XS.istore X6.here hx rfl (hb hby at_44) rfl (l' := #[.val (.int p1), .val (.int p2), .val (.int (own_smp p1)), .val (.int b1), .val (.int ((p2 &&& (3 : Int32)) - (2 : Int32))), .val (.int ((p2 &&& (3 : Int32)) - (2 : Int32))), .val (.int ((16777216 : Int32) + ((p2 &&& (3 : Int32)) - (2 : Int32)))), .val (.int (own_smp ((p2 &&& (3 : Int32)) - (2 : Int32)))), .unset, .unset, .unset]) rfl k) ?_
  show own_R _ _ _ _ (T6.setTop (mkF m 46 #[.val (.int p1), .val (.int p2), .val (.int (own_smp p1)), .val (.int b1), .val (.int ((p2 &&& (3 : Int32)) - (2 : Int32))), .val (.int ((p2 &&& (3 : Int32)) - (2 : Int32))), .val (.int ((16777216 : Int32) + ((p2 &&& (3 : Int32)) - (2 : Int32)))), .val (.int (own_smp ((p2 &&& (3 : Int32)) - (2 : Int32)))), .unset, .unset, .unset] []))
  obtain ⟨_, ⟨b2, hs7, rfl⟩, sg7⟩ : own_R p.tables e below (fun U => ∃ (b2 : Int32), (b2 = if ¬ ((p2 &&& (3 : Int32)) - (2 : Int32)) < 0 then 1 else 0) ∧ U = T6.setTop (mkF m 56 #[.val (.int p1), .val (.int p2), .val (.int (own_smp p1)), .val (.int b1), .val (.int ((p2 &&& (3 : Int32)) - (2 : Int32))), .val (.int ((p2 &&& (3 : Int32)) - (2 : Int32))), .val (.int ((16777216 : Int32) + ((p2 &&& (3 : Int32)) - (2 : Int32)))), .val (.int (own_smp ((p2 &&& (3 : Int32)) - (2 : Int32)))), .unset, .unset, .unset] [(.int b2)])) (T6.setTop (mkF m 46 #[.val (.int p1), .val (.int p2), .val (.int (own_smp p1)), .val (.int b1), .val (.int ((p2 &&& (3 : Int32)) - (2 : Int32))), .val (.int ((p2 &&& (3 : Int32)) - (2 : Int32))), .val (.int ((16777216 : Int32) + ((p2 &&& (3 : Int32)) - (2 : Int32)))), .val (.int (own_smp ((p2 &&& (3 : Int32)) - (2 : Int32)))), .unset, .unset, .unset] [])) := by
    refine own_go (fun _ k => XS.iload X6.here hx rfl (hb hby at_46) rfl k) ?_
    show own_R _ _ _ _ (T6.setTop (mkF m 48 #[.val (.int p1), .val (.int p2), .val (.int (own_smp p1)), .val (.int b1), .val (.int ((p2 &&& (3 : Int32)) - (2 : Int32))), .val (.int ((p2 &&& (3 : Int32)) - (2 : Int32))), .val (.int ((16777216 : Int32) + ((p2 &&& (3 : Int32)) - (2 : Int32)))), .val (.int (own_smp ((p2 &&& (3 : Int32)) - (2 : Int32)))), .unset, .unset, .unset] [(.int ((p2 &&& (3 : Int32)) - (2 : Int32)))]))
    by_cases hc8 : ((p2 &&& (3 : Int32)) - (2 : Int32)) < (0 : Int32)
    · refine own_go (fun _ k => XS.ifYes X6.here hx rfl (pc0 := 48) (pc' := 55) rfl (hb hby at_48) rfl ((if0 _ _).trans (tlt hc8).1) (by decide) (by decide) k) ?_
      show own_R _ _ _ _ (T6.setTop (mkF m 55 #[.val (.int p1), .val (.int p2), .val (.int (own_smp p1)), .val (.int b1), .val (.int ((p2 &&& (3 : Int32)) - (2 : Int32))), .val (.int ((p2 &&& (3 : Int32)) - (2 : Int32))), .val (.int ((16777216 : Int32) + ((p2 &&& (3 : Int32)) - (2 : Int32)))), .val (.int (own_smp ((p2 &&& (3 : Int32)) - (2 : Int32)))), .unset, .unset, .unset] []))
      refine own_go (fun _ k => XS.iconst X6.here hx rfl (hb hby at_55) k) ?_
      show own_R _ _ _ _ (T6.setTop (mkF m 56 #[.val (.int p1), .val (.int p2), .val (.int (own_smp p1)), .val (.int b1), .val (.int ((p2 &&& (3 : Int32)) - (2 : Int32))), .val (.int ((p2 &&& (3 : Int32)) - (2 : Int32))), .val (.int ((16777216 : Int32) + ((p2 &&& (3 : Int32)) - (2 : Int32)))), .val (.int (own_smp ((p2 &&& (3 : Int32)) - (2 : Int32)))), .unset, .unset, .unset] [(.int (0 : Int32))]))
      exact own_leaf ⟨(0 : Int32), by simp [hc8], rfl⟩
    · refine own_go (fun _ k => XS.ifNo X6.here hx rfl (hb hby at_48) rfl ((if0 _ _).trans (flt hc8).1) k) ?_
      show own_R _ _ _ _ (T6.setTop (mkF m 51 #[.val (.int p1), .val (.int p2), .val (.int (own_smp p1)), .val (.int b1), .val (.int ((p2 &&& (3 : Int32)) - (2 : Int32))), .val (.int ((p2 &&& (3 : Int32)) - (2 : Int32))), .val (.int ((16777216 : Int32) + ((p2 &&& (3 : Int32)) - (2 : Int32)))), .val (.int (own_smp ((p2 &&& (3 : Int32)) - (2 : Int32)))), .unset, .unset, .unset] []))
      refine own_go (fun _ k => XS.iconst X6.here hx rfl (hb hby at_51) k) ?_
      show own_R _ _ _ _ (T6.setTop (mkF m 52 #[.val (.int p1), .val (.int p2), .val (.int (own_smp p1)), .val (.int b1), .val (.int ((p2 &&& (3 : Int32)) - (2 : Int32))), .val (.int ((p2 &&& (3 : Int32)) - (2 : Int32))), .val (.int ((16777216 : Int32) + ((p2 &&& (3 : Int32)) - (2 : Int32)))), .val (.int (own_smp ((p2 &&& (3 : Int32)) - (2 : Int32)))), .unset, .unset, .unset] [(.int (1 : Int32))]))
      refine own_go (fun _ k => XS.goto X6.here hx rfl (pc0 := 52) (pc' := 56) rfl (hb hby at_52) (by decide) (by decide) k) ?_
      show own_R _ _ _ _ (T6.setTop (mkF m 56 #[.val (.int p1), .val (.int p2), .val (.int (own_smp p1)), .val (.int b1), .val (.int ((p2 &&& (3 : Int32)) - (2 : Int32))), .val (.int ((p2 &&& (3 : Int32)) - (2 : Int32))), .val (.int ((16777216 : Int32) + ((p2 &&& (3 : Int32)) - (2 : Int32)))), .val (.int (own_smp ((p2 &&& (3 : Int32)) - (2 : Int32)))), .unset, .unset, .unset] [(.int (1 : Int32))]))
      exact own_leaf ⟨(1 : Int32), by simp [hc8], rfl⟩
  refine own_go sg7 ?_
  show own_R _ _ _ _ (T6.setTop (mkF m 56 #[.val (.int p1), .val (.int p2), .val (.int (own_smp p1)), .val (.int b1), .val (.int ((p2 &&& (3 : Int32)) - (2 : Int32))), .val (.int ((p2 &&& (3 : Int32)) - (2 : Int32))), .val (.int ((16777216 : Int32) + ((p2 &&& (3 : Int32)) - (2 : Int32)))), .val (.int (own_smp ((p2 &&& (3 : Int32)) - (2 : Int32)))), .unset, .unset, .unset] [(.int b2)]))
  refine own_go (fun _ k => XS.istore X6.here hx rfl (hb hby at_56) rfl (l' := #[.val (.int p1), .val (.int p2), .val (.int (own_smp p1)), .val (.int b1), .val (.int ((p2 &&& (3 : Int32)) - (2 : Int32))), .val (.int ((p2 &&& (3 : Int32)) - (2 : Int32))), .val (.int ((16777216 : Int32) + ((p2 &&& (3 : Int32)) - (2 : Int32)))), .val (.int (own_smp ((p2 &&& (3 : Int32)) - (2 : Int32)))), .val (.int b2), .unset, .unset]) rfl k) ?_
  show own_R _ _ _ _ (T6.setTop (mkF m 58 #[.val (.int p1), .val (.int p2), .val (.int (own_smp p1)), .val (.int b1), .val (.int ((p2 &&& (3 : Int32)) - (2 : Int32))), .val (.int ((p2 &&& (3 : Int32)) - (2 : Int32))), .val (.int ((16777216 : Int32) + ((p2 &&& (3 : Int32)) - (2 : Int32)))), .val (.int (own_smp ((p2 &&& (3 : Int32)) - (2 : Int32)))), .val (.int b2), .unset, .unset] []))
  refine own_go (fun _ k => XS.iload X6.here hx rfl (hb hby at_58) rfl k) ?_
  show own_R _ _ _ _ (T6.setTop (mkF m 60 #[.val (.int p1), .val (.int p2), .val (.int (own_smp p1)), .val (.int b1), .val (.int ((p2 &&& (3 : Int32)) - (2 : Int32))), .val (.int ((p2 &&& (3 : Int32)) - (2 : Int32))), .val (.int ((16777216 : Int32) + ((p2 &&& (3 : Int32)) - (2 : Int32)))), .val (.int (own_smp ((p2 &&& (3 : Int32)) - (2 : Int32)))), .val (.int b2), .unset, .unset] [(.int ((16777216 : Int32) + ((p2 &&& (3 : Int32)) - (2 : Int32))))]))
  obtain ⟨_, _, ⟨T9, L9, k9, n9⟩, -, X9, ⟨Lc9, hQ9, l9, y9, z9⟩, st9⟩ := Jvm.LawKit.callS X6 hx (y := (⟨"com/example/parametree/parametree/Tree$Pairs", "sampled", "(I)Z"⟩ : MethodName)) hown (mvT hZ (hw _ (List.mem_of_getElem? (i := 0) rfl))) (mvT hZ (hw _ (List.mem_of_getElem? (i := 1) rfl))) (mvT hZ (hw _ (List.mem_of_getElem? (i := 2) rfl))) (mvT hZ (hw _ (List.mem_of_getElem? (i := 3) rfl))) (by decide) (backOf (W := 0) (rm1 l Z a0 hw [] ((16777216 : Int32) + ((p2 &&& (3 : Int32)) - (2 : Int32))) h0 n0 ZS) hZ (hw _ (List.mem_of_getElem? (i := 3) rfl)) (hw _ (List.mem_of_getElem? (i := 2) rfl)) (by decide) (by decide)) (g := (mkF m 60 #[.val (.int p1), .val (.int p2), .val (.int (own_smp p1)), .val (.int b1), .val (.int ((p2 &&& (3 : Int32)) - (2 : Int32))), .val (.int ((p2 &&& (3 : Int32)) - (2 : Int32))), .val (.int ((16777216 : Int32) + ((p2 &&& (3 : Int32)) - (2 : Int32)))), .val (.int (own_smp ((p2 &&& (3 : Int32)) - (2 : Int32)))), .val (.int b2), .unset, .unset] [(.int ((16777216 : Int32) + ((p2 &&& (3 : Int32)) - (2 : Int32))))])) rfl (by rw [hml]; rfl) (argsL := [(.int ((16777216 : Int32) + ((p2 &&& (3 : Int32)) - (2 : Int32))))]) (rest := []) (lenOf pd_0 rfl) rfl (by show 2 * 0 + _ ≤ _; exact Nat.le_of_eq rfl) (hb hby at_60) (fun _ _ => ⟨rfl, e6, (by decide : 0 + 0 ≤ _), (by decide : 0 + 0 ≤ _)⟩)
  dsimp only [Pt.U, Pt.locs, Pt.cells, Pt.slots] at X9 l9 y9 z9 st9 hQ9
  subst l9 y9 z9
  obtain ⟨rfl, N9q, e9⟩ := hQ9
  have NF := Fr.app NF N9q
  refine own_go st9 ?_
  show own_R _ _ _ _ (T9.setTop (mkF m 63 #[.val (.int p1), .val (.int p2), .val (.int (own_smp p1)), .val (.int b1), .val (.int ((p2 &&& (3 : Int32)) - (2 : Int32))), .val (.int ((p2 &&& (3 : Int32)) - (2 : Int32))), .val (.int ((16777216 : Int32) + ((p2 &&& (3 : Int32)) - (2 : Int32)))), .val (.int (own_smp ((p2 &&& (3 : Int32)) - (2 : Int32)))), .val (.int b2), .unset, .unset] [(.int (own_smp ((16777216 : Int32) + ((p2 &&& (3 : Int32)) - (2 : Int32)))))]))
  refine own_go (fun _ k => XS.istore X9.here hx rfl (hb hby at_63) rfl (l' := #[.val (.int p1), .val (.int p2), .val (.int (own_smp p1)), .val (.int b1), .val (.int ((p2 &&& (3 : Int32)) - (2 : Int32))), .val (.int ((p2 &&& (3 : Int32)) - (2 : Int32))), .val (.int ((16777216 : Int32) + ((p2 &&& (3 : Int32)) - (2 : Int32)))), .val (.int (own_smp ((p2 &&& (3 : Int32)) - (2 : Int32)))), .val (.int b2), .val (.int (own_smp ((16777216 : Int32) + ((p2 &&& (3 : Int32)) - (2 : Int32))))), .unset]) rfl k) ?_
  show own_R _ _ _ _ (T9.setTop (mkF m 65 #[.val (.int p1), .val (.int p2), .val (.int (own_smp p1)), .val (.int b1), .val (.int ((p2 &&& (3 : Int32)) - (2 : Int32))), .val (.int ((p2 &&& (3 : Int32)) - (2 : Int32))), .val (.int ((16777216 : Int32) + ((p2 &&& (3 : Int32)) - (2 : Int32)))), .val (.int (own_smp ((p2 &&& (3 : Int32)) - (2 : Int32)))), .val (.int b2), .val (.int (own_smp ((16777216 : Int32) + ((p2 &&& (3 : Int32)) - (2 : Int32))))), .unset] []))
  obtain ⟨_, ⟨b3, hs10, rfl⟩, sg10⟩ : own_R p.tables e below (fun U => ∃ (b3 : Int32), (b3 = if ((16777216 : Int32) + ((p2 &&& (3 : Int32)) - (2 : Int32))) < 16777216 then 1 else 0) ∧ U = T9.setTop (mkF m 77 #[.val (.int p1), .val (.int p2), .val (.int (own_smp p1)), .val (.int b1), .val (.int ((p2 &&& (3 : Int32)) - (2 : Int32))), .val (.int ((p2 &&& (3 : Int32)) - (2 : Int32))), .val (.int ((16777216 : Int32) + ((p2 &&& (3 : Int32)) - (2 : Int32)))), .val (.int (own_smp ((p2 &&& (3 : Int32)) - (2 : Int32)))), .val (.int b2), .val (.int (own_smp ((16777216 : Int32) + ((p2 &&& (3 : Int32)) - (2 : Int32))))), .unset] [(.int b3)])) (T9.setTop (mkF m 65 #[.val (.int p1), .val (.int p2), .val (.int (own_smp p1)), .val (.int b1), .val (.int ((p2 &&& (3 : Int32)) - (2 : Int32))), .val (.int ((p2 &&& (3 : Int32)) - (2 : Int32))), .val (.int ((16777216 : Int32) + ((p2 &&& (3 : Int32)) - (2 : Int32)))), .val (.int (own_smp ((p2 &&& (3 : Int32)) - (2 : Int32)))), .val (.int b2), .val (.int (own_smp ((16777216 : Int32) + ((p2 &&& (3 : Int32)) - (2 : Int32))))), .unset] [])) := by
    refine own_go (fun _ k => XS.iload X9.here hx rfl (hb hby at_65) rfl k) ?_
    show own_R _ _ _ _ (T9.setTop (mkF m 67 #[.val (.int p1), .val (.int p2), .val (.int (own_smp p1)), .val (.int b1), .val (.int ((p2 &&& (3 : Int32)) - (2 : Int32))), .val (.int ((p2 &&& (3 : Int32)) - (2 : Int32))), .val (.int ((16777216 : Int32) + ((p2 &&& (3 : Int32)) - (2 : Int32)))), .val (.int (own_smp ((p2 &&& (3 : Int32)) - (2 : Int32)))), .val (.int b2), .val (.int (own_smp ((16777216 : Int32) + ((p2 &&& (3 : Int32)) - (2 : Int32))))), .unset] [(.int ((16777216 : Int32) + ((p2 &&& (3 : Int32)) - (2 : Int32))))]))
    refine own_go (X9.ldcInt hx hown (mvT hZ (hw _ (List.mem_of_getElem? (i := 5) rfl))) (g := (mkF m 67 #[.val (.int p1), .val (.int p2), .val (.int (own_smp p1)), .val (.int b1), .val (.int ((p2 &&& (3 : Int32)) - (2 : Int32))), .val (.int ((p2 &&& (3 : Int32)) - (2 : Int32))), .val (.int ((16777216 : Int32) + ((p2 &&& (3 : Int32)) - (2 : Int32)))), .val (.int (own_smp ((p2 &&& (3 : Int32)) - (2 : Int32)))), .val (.int b2), .val (.int (own_smp ((16777216 : Int32) + ((p2 &&& (3 : Int32)) - (2 : Int32))))), .unset] [(.int ((16777216 : Int32) + ((p2 &&& (3 : Int32)) - (2 : Int32))))])) rfl (hb hby at_67)) ?_
    show own_R _ _ _ _ (T9.setTop (mkF m 69 #[.val (.int p1), .val (.int p2), .val (.int (own_smp p1)), .val (.int b1), .val (.int ((p2 &&& (3 : Int32)) - (2 : Int32))), .val (.int ((p2 &&& (3 : Int32)) - (2 : Int32))), .val (.int ((16777216 : Int32) + ((p2 &&& (3 : Int32)) - (2 : Int32)))), .val (.int (own_smp ((p2 &&& (3 : Int32)) - (2 : Int32)))), .val (.int b2), .val (.int (own_smp ((16777216 : Int32) + ((p2 &&& (3 : Int32)) - (2 : Int32))))), .unset] [(.int (16777216 : Int32)), (.int ((16777216 : Int32) + ((p2 &&& (3 : Int32)) - (2 : Int32))))]))
    by_cases hc11 : ((16777216 : Int32) + ((p2 &&& (3 : Int32)) - (2 : Int32))) < (16777216 : Int32)
    · refine own_go (fun _ k => XS.icmpNo X9.here hx rfl (hb hby at_69) rfl (tlt hc11).2.1 k) ?_
      show own_R _ _ _ _ (T9.setTop (mkF m 72 #[.val (.int p1), .val (.int p2), .val (.int (own_smp p1)), .val (.int b1), .val (.int ((p2 &&& (3 : Int32)) - (2 : Int32))), .val (.int ((p2 &&& (3 : Int32)) - (2 : Int32))), .val (.int ((16777216 : Int32) + ((p2 &&& (3 : Int32)) - (2 : Int32)))), .val (.int (own_smp ((p2 &&& (3 : Int32)) - (2 : Int32)))), .val (.int b2), .val (.int (own_smp ((16777216 : Int32) + ((p2 &&& (3 : Int32)) - (2 : Int32))))), .unset] []))
      refine own_go (fun _ k => XS.iconst X9.here hx rfl (hb hby at_72) k) ?_
      show own_R _ _ _ _ (T9.setTop (mkF m 73 #[.val (.int p1), .val (.int p2), .val (.int (own_smp p1)), .val (.int b1), .val (.int ((p2 &&& (3 : Int32)) - (2 : Int32))), .val (.int ((p2 &&& (3 : Int32)) - (2 : Int32))), .val (.int ((16777216 : Int32) + ((p2 &&& (3 : Int32)) - (2 : Int32)))), .val (.int (own_smp ((p2 &&& (3 : Int32)) - (2 : Int32)))), .val (.int b2), .val (.int (own_smp ((16777216 : Int32) + ((p2 &&& (3 : Int32)) - (2 : Int32))))), .unset] [(.int (1 : Int32))]))
      refine own_go (fun _ k => XS.goto X9.here hx rfl (pc0 := 73) (pc' := 77) rfl (hb hby at_73) (by decide) (by decide) k) ?_
      show own_R _ _ _ _ (T9.setTop (mkF m 77 #[.val (.int p1), .val (.int p2), .val (.int (own_smp p1)), .val (.int b1), .val (.int ((p2 &&& (3 : Int32)) - (2 : Int32))), .val (.int ((p2 &&& (3 : Int32)) - (2 : Int32))), .val (.int ((16777216 : Int32) + ((p2 &&& (3 : Int32)) - (2 : Int32)))), .val (.int (own_smp ((p2 &&& (3 : Int32)) - (2 : Int32)))), .val (.int b2), .val (.int (own_smp ((16777216 : Int32) + ((p2 &&& (3 : Int32)) - (2 : Int32))))), .unset] [(.int (1 : Int32))]))
      exact own_leaf ⟨(1 : Int32), by simp [hc11], rfl⟩
    · refine own_go (fun _ k => XS.icmpYes X9.here hx rfl (pc0 := 69) (pc' := 76) rfl (hb hby at_69) rfl (flt hc11).2.1 (by decide) (by decide) k) ?_
      show own_R _ _ _ _ (T9.setTop (mkF m 76 #[.val (.int p1), .val (.int p2), .val (.int (own_smp p1)), .val (.int b1), .val (.int ((p2 &&& (3 : Int32)) - (2 : Int32))), .val (.int ((p2 &&& (3 : Int32)) - (2 : Int32))), .val (.int ((16777216 : Int32) + ((p2 &&& (3 : Int32)) - (2 : Int32)))), .val (.int (own_smp ((p2 &&& (3 : Int32)) - (2 : Int32)))), .val (.int b2), .val (.int (own_smp ((16777216 : Int32) + ((p2 &&& (3 : Int32)) - (2 : Int32))))), .unset] []))
      refine own_go (fun _ k => XS.iconst X9.here hx rfl (hb hby at_76) k) ?_
      show own_R _ _ _ _ (T9.setTop (mkF m 77 #[.val (.int p1), .val (.int p2), .val (.int (own_smp p1)), .val (.int b1), .val (.int ((p2 &&& (3 : Int32)) - (2 : Int32))), .val (.int ((p2 &&& (3 : Int32)) - (2 : Int32))), .val (.int ((16777216 : Int32) + ((p2 &&& (3 : Int32)) - (2 : Int32)))), .val (.int (own_smp ((p2 &&& (3 : Int32)) - (2 : Int32)))), .val (.int b2), .val (.int (own_smp ((16777216 : Int32) + ((p2 &&& (3 : Int32)) - (2 : Int32))))), .unset] [(.int (0 : Int32))]))
      exact own_leaf ⟨(0 : Int32), by simp [hc11], rfl⟩
  refine own_go sg10 ?_
  show own_R _ _ _ _ (T9.setTop (mkF m 77 #[.val (.int p1), .val (.int p2), .val (.int (own_smp p1)), .val (.int b1), .val (.int ((p2 &&& (3 : Int32)) - (2 : Int32))), .val (.int ((p2 &&& (3 : Int32)) - (2 : Int32))), .val (.int ((16777216 : Int32) + ((p2 &&& (3 : Int32)) - (2 : Int32)))), .val (.int (own_smp ((p2 &&& (3 : Int32)) - (2 : Int32)))), .val (.int b2), .val (.int (own_smp ((16777216 : Int32) + ((p2 &&& (3 : Int32)) - (2 : Int32))))), .unset] [(.int b3)]))
  refine own_go (fun _ k => XS.istore X9.here hx rfl (hb hby at_77) rfl (l' := #[.val (.int p1), .val (.int p2), .val (.int (own_smp p1)), .val (.int b1), .val (.int ((p2 &&& (3 : Int32)) - (2 : Int32))), .val (.int ((p2 &&& (3 : Int32)) - (2 : Int32))), .val (.int ((16777216 : Int32) + ((p2 &&& (3 : Int32)) - (2 : Int32)))), .val (.int (own_smp ((p2 &&& (3 : Int32)) - (2 : Int32)))), .val (.int b2), .val (.int (own_smp ((16777216 : Int32) + ((p2 &&& (3 : Int32)) - (2 : Int32))))), .val (.int b3)]) rfl k) ?_
  show own_R _ _ _ _ (T9.setTop (mkF m 79 #[.val (.int p1), .val (.int p2), .val (.int (own_smp p1)), .val (.int b1), .val (.int ((p2 &&& (3 : Int32)) - (2 : Int32))), .val (.int ((p2 &&& (3 : Int32)) - (2 : Int32))), .val (.int ((16777216 : Int32) + ((p2 &&& (3 : Int32)) - (2 : Int32)))), .val (.int (own_smp ((p2 &&& (3 : Int32)) - (2 : Int32)))), .val (.int b2), .val (.int (own_smp ((16777216 : Int32) + ((p2 &&& (3 : Int32)) - (2 : Int32))))), .val (.int b3)] []))
  refine own_go (fun _ k => XS.iloadN X9.here hx rfl (hb hby at_79) rfl k) ?_
  show own_R _ _ _ _ (T9.setTop (mkF m 80 #[.val (.int p1), .val (.int p2), .val (.int (own_smp p1)), .val (.int b1), .val (.int ((p2 &&& (3 : Int32)) - (2 : Int32))), .val (.int ((p2 &&& (3 : Int32)) - (2 : Int32))), .val (.int ((16777216 : Int32) + ((p2 &&& (3 : Int32)) - (2 : Int32)))), .val (.int (own_smp ((p2 &&& (3 : Int32)) - (2 : Int32)))), .val (.int b2), .val (.int (own_smp ((16777216 : Int32) + ((p2 &&& (3 : Int32)) - (2 : Int32))))), .val (.int b3)] [(.int (own_smp p1))]))
  refine own_go (fun _ k => XS.iloadN X9.here hx rfl (hb hby at_80) rfl k) ?_
  show own_R _ _ _ _ (T9.setTop (mkF m 81 #[.val (.int p1), .val (.int p2), .val (.int (own_smp p1)), .val (.int b1), .val (.int ((p2 &&& (3 : Int32)) - (2 : Int32))), .val (.int ((p2 &&& (3 : Int32)) - (2 : Int32))), .val (.int ((16777216 : Int32) + ((p2 &&& (3 : Int32)) - (2 : Int32)))), .val (.int (own_smp ((p2 &&& (3 : Int32)) - (2 : Int32)))), .val (.int b2), .val (.int (own_smp ((16777216 : Int32) + ((p2 &&& (3 : Int32)) - (2 : Int32))))), .val (.int b3)] [(.int b1), (.int (own_smp p1))]))
  refine own_go (fun _ k => XS.icmpNo X9.here hx rfl (hb hby at_81) rfl (teq ((own_smp_eq p1).trans hs3.symm)).2 k) ?_
  show own_R _ _ _ _ (T9.setTop (mkF m 84 #[.val (.int p1), .val (.int p2), .val (.int (own_smp p1)), .val (.int b1), .val (.int ((p2 &&& (3 : Int32)) - (2 : Int32))), .val (.int ((p2 &&& (3 : Int32)) - (2 : Int32))), .val (.int ((16777216 : Int32) + ((p2 &&& (3 : Int32)) - (2 : Int32)))), .val (.int (own_smp ((p2 &&& (3 : Int32)) - (2 : Int32)))), .val (.int b2), .val (.int (own_smp ((16777216 : Int32) + ((p2 &&& (3 : Int32)) - (2 : Int32))))), .val (.int b3)] []))
  refine own_go (fun _ k => XS.iload X9.here hx rfl (hb hby at_84) rfl k) ?_
  show own_R _ _ _ _ (T9.setTop (mkF m 86 #[.val (.int p1), .val (.int p2), .val (.int (own_smp p1)), .val (.int b1), .val (.int ((p2 &&& (3 : Int32)) - (2 : Int32))), .val (.int ((p2 &&& (3 : Int32)) - (2 : Int32))), .val (.int ((16777216 : Int32) + ((p2 &&& (3 : Int32)) - (2 : Int32)))), .val (.int (own_smp ((p2 &&& (3 : Int32)) - (2 : Int32)))), .val (.int b2), .val (.int (own_smp ((16777216 : Int32) + ((p2 &&& (3 : Int32)) - (2 : Int32))))), .val (.int b3)] [(.int (own_smp ((p2 &&& (3 : Int32)) - (2 : Int32))))]))
  refine own_go (fun _ k => XS.iload X9.here hx rfl (hb hby at_86) rfl k) ?_
  show own_R _ _ _ _ (T9.setTop (mkF m 88 #[.val (.int p1), .val (.int p2), .val (.int (own_smp p1)), .val (.int b1), .val (.int ((p2 &&& (3 : Int32)) - (2 : Int32))), .val (.int ((p2 &&& (3 : Int32)) - (2 : Int32))), .val (.int ((16777216 : Int32) + ((p2 &&& (3 : Int32)) - (2 : Int32)))), .val (.int (own_smp ((p2 &&& (3 : Int32)) - (2 : Int32)))), .val (.int b2), .val (.int (own_smp ((16777216 : Int32) + ((p2 &&& (3 : Int32)) - (2 : Int32))))), .val (.int b3)] [(.int b2), (.int (own_smp ((p2 &&& (3 : Int32)) - (2 : Int32))))]))
  refine own_go (fun _ k => XS.icmpNo X9.here hx rfl (hb hby at_88) rfl (teq (own_low p2 _ hs7)).2 k) ?_
  show own_R _ _ _ _ (T9.setTop (mkF m 91 #[.val (.int p1), .val (.int p2), .val (.int (own_smp p1)), .val (.int b1), .val (.int ((p2 &&& (3 : Int32)) - (2 : Int32))), .val (.int ((p2 &&& (3 : Int32)) - (2 : Int32))), .val (.int ((16777216 : Int32) + ((p2 &&& (3 : Int32)) - (2 : Int32)))), .val (.int (own_smp ((p2 &&& (3 : Int32)) - (2 : Int32)))), .val (.int b2), .val (.int (own_smp ((16777216 : Int32) + ((p2 &&& (3 : Int32)) - (2 : Int32))))), .val (.int b3)] []))
  refine own_go (fun _ k => XS.iload X9.here hx rfl (hb hby at_91) rfl k) ?_
  show own_R _ _ _ _ (T9.setTop (mkF m 93 #[.val (.int p1), .val (.int p2), .val (.int (own_smp p1)), .val (.int b1), .val (.int ((p2 &&& (3 : Int32)) - (2 : Int32))), .val (.int ((p2 &&& (3 : Int32)) - (2 : Int32))), .val (.int ((16777216 : Int32) + ((p2 &&& (3 : Int32)) - (2 : Int32)))), .val (.int (own_smp ((p2 &&& (3 : Int32)) - (2 : Int32)))), .val (.int b2), .val (.int (own_smp ((16777216 : Int32) + ((p2 &&& (3 : Int32)) - (2 : Int32))))), .val (.int b3)] [(.int (own_smp ((16777216 : Int32) + ((p2 &&& (3 : Int32)) - (2 : Int32)))))]))
  refine own_go (fun _ k => XS.iload X9.here hx rfl (hb hby at_93) rfl k) ?_
  show own_R _ _ _ _ (T9.setTop (mkF m 95 #[.val (.int p1), .val (.int p2), .val (.int (own_smp p1)), .val (.int b1), .val (.int ((p2 &&& (3 : Int32)) - (2 : Int32))), .val (.int ((p2 &&& (3 : Int32)) - (2 : Int32))), .val (.int ((16777216 : Int32) + ((p2 &&& (3 : Int32)) - (2 : Int32)))), .val (.int (own_smp ((p2 &&& (3 : Int32)) - (2 : Int32)))), .val (.int b2), .val (.int (own_smp ((16777216 : Int32) + ((p2 &&& (3 : Int32)) - (2 : Int32))))), .val (.int b3)] [(.int b3), (.int (own_smp ((16777216 : Int32) + ((p2 &&& (3 : Int32)) - (2 : Int32)))))]))
  refine own_go (fun _ k => XS.icmpNo X9.here hx rfl (hb hby at_95) rfl (teq (own_high p2 _ hs10)).2 k) ?_
  show own_R _ _ _ _ (T9.setTop (mkF m 98 #[.val (.int p1), .val (.int p2), .val (.int (own_smp p1)), .val (.int b1), .val (.int ((p2 &&& (3 : Int32)) - (2 : Int32))), .val (.int ((p2 &&& (3 : Int32)) - (2 : Int32))), .val (.int ((16777216 : Int32) + ((p2 &&& (3 : Int32)) - (2 : Int32)))), .val (.int (own_smp ((p2 &&& (3 : Int32)) - (2 : Int32)))), .val (.int b2), .val (.int (own_smp ((16777216 : Int32) + ((p2 &&& (3 : Int32)) - (2 : Int32))))), .val (.int b3)] []))
  refine own_go (fun _ k => XS.iconst X9.here hx rfl (hb hby at_98) k) ?_
  show own_R _ _ _ _ (T9.setTop (mkF m 99 #[.val (.int p1), .val (.int p2), .val (.int (own_smp p1)), .val (.int b1), .val (.int ((p2 &&& (3 : Int32)) - (2 : Int32))), .val (.int ((p2 &&& (3 : Int32)) - (2 : Int32))), .val (.int ((16777216 : Int32) + ((p2 &&& (3 : Int32)) - (2 : Int32)))), .val (.int (own_smp ((p2 &&& (3 : Int32)) - (2 : Int32)))), .val (.int b2), .val (.int (own_smp ((16777216 : Int32) + ((p2 &&& (3 : Int32)) - (2 : Int32))))), .val (.int b3)] [(.int (1 : Int32))]))
  refine own_go (fun _ k => XS.goto X9.here hx rfl (pc0 := 99) (pc' := 103) rfl (hb hby at_99) (by decide) (by decide) k) ?_
  show own_R _ _ _ _ (T9.setTop (mkF m 103 #[.val (.int p1), .val (.int p2), .val (.int (own_smp p1)), .val (.int b1), .val (.int ((p2 &&& (3 : Int32)) - (2 : Int32))), .val (.int ((p2 &&& (3 : Int32)) - (2 : Int32))), .val (.int ((16777216 : Int32) + ((p2 &&& (3 : Int32)) - (2 : Int32)))), .val (.int (own_smp ((p2 &&& (3 : Int32)) - (2 : Int32)))), .val (.int b2), .val (.int (own_smp ((16777216 : Int32) + ((p2 &&& (3 : Int32)) - (2 : Int32))))), .val (.int b3)] [(.int (1 : Int32))]))
  exact own_retN X9 hx (t := .boolean) (by simp) Bd.returns (hb hby at_103) hlk ⟨rfl, NF⟩ (by decide) (by decide)
set_option maxRecDepth 65536 in
set_option maxHeartbeats 40000000 in
theorem comes_1 {Post : Tables → Env → Array Value → State → Outcome → State → Prop} (hpost : ∀ tb e args s v u, (limb_1_1.after args s (.returned v) u = true ∧ limb_1_2.after args s (.returned v) u = true ∧ True) → FrameEnd s (.returned v) u (Jvm.fieldLocs frame_1_writes args s ++ Jvm.arrayLocs frame_1_arrays args s ++ Jvm.staticLocs frame_1_statics s) 0 0 → Post tb e args s (.returned v) u) :
    ArmFor flags0 classFile x code maxLocals ret World_1 tables_1 room_1 Calls_1 rest_1 Pre_1 Post := by
  intro l hfl _ _ p e ha hc hk s m args below hf hA hF happ hP
  obtain ⟨hcalls, hrest, hpre⟩ := hP
  obtain ⟨-, -, -, hnamed, -, -, -, hat⟩ := (Spec.applies_iff hf).mp happ
  obtain ⟨hg, hn⟩ := and_e (Cond.before_iff.mp (show (Jvm.Cond.and given_1 narrow_1).before args s = true from hpre))
  obtain ⟨g1, g2⟩ := and_e hg
  obtain ⟨g3, g4⟩ := and_e g2
  obtain ⟨w0, w1, rfl⟩ : ∃ w0 w1 : Value, args = #[w0, w1] := by
    have hs : args.size = 2 := by simpa [Cond.value, given_1] using g1
    obtain ⟨L⟩ := args
    match L, hs with
    | [w0, w1], _ => exact ⟨w0, w1, rfl⟩
  have hw := fun d (hd : d ∈ tables_1) => atoms_spec (ws := Jvm.Cond.code x code maxLocals ret :: tables_1) hat d (List.mem_cons_of_mem _ hd)
  have hfit : Fit s := fun {y c} hc i hi => by
    obtain ⟨ha, rfl⟩ := Array.getElem?_eq_some_iff.mp hc
    have q := List.all_eq_true.mp ((Array.all_eq_true_iff_forall_mem.mp hF) _ (Array.getElem_mem ha)) i (List.mem_range.mpr hi)
    simpa [Array.getElem?_eq_getElem hi] using q
  obtain ⟨i0, ei0⟩ := is_v g3
  obtain rfl : w0 = (.int i0) := Option.some.inj ei0
  obtain ⟨i1, ei1⟩ := is_v g4
  obtain rfl : w1 = (.int i1) := Option.some.inj ei1
  obtain ⟨n, o, h1, h2, h3, _, L, rfl, ⟨rfl, N⟩, hq⟩ := rm0 l s _ hw tables_1 i0 i1 s.heap s.heap.size (Nat.le_refl _) p e ha hc hk s m _ below hf ((Spec.applies_iff_loose hf).mp happ).1 ⟨rfl, State.Warmed39.refl s, rfl⟩ trivial
  refine ⟨n, _, h1, h2, h3, hpost _ _ _ _ _ _ ⟨Cond.after_iff.mpr rfl, Cond.after_iff.mpr (eq_i res_at (Term.int_eval (1)) rfl), trivial⟩ ⟨hq.1, hq.2.1, (hq.2.2.sift fun y hy => Or.inr (N y hy)).mono (by decide) (by decide)⟩⟩
theorem main_1_1 : Claimed_1_1 := comes_1 fun _ _ _ _ _ _ h hF => ⟨h.1, hF⟩
theorem main_1_2 : Claimed_1_2 := comes_1 fun _ _ _ _ _ _ h hF => ⟨h.2.1, hF⟩
end Jvm.Pilot.@@N@@
namespace Jvm.Pilot.@@N@@
open Jvm Jvm.ClassFile Sem Op Lib Jvm.Free Jvm.Stand Jvm.Pilot.@@N@@.Jvm.D
/-! MADE BY PROGRAM (witnessworld.py) out of the Statement's table words and the real class files: 9 classes; the members and pool entries that the words name. The judged class is class 1, her method 1. -/
namespace start1
open Jvm.ClassFile
def u (s : String) : CpInfo := .utf8 (stringToUtf16 s)
/-- a pool by its gaps: so many unusable entries, then the entry; so many at the end -/
def gap : Nat → List CpInfo → List CpInfo
  | 0, r => r
  | n + 1, r => .unusable :: gap n r
def poolList (es : List (Nat × CpInfo)) (last : Nat) : List CpInfo := es.foldr (fun e r => gap e.1 (e.2 :: r)) (gap last [])
def pool (es : List (Nat × CpInfo)) (last : Nat) : Array CpInfo := ⟨poolList es last⟩
def fileOf (pool : Array CpInfo) (this : Nat) (attrs : Array Attribute := #[]) (ms : Array MethodInfo := #[]) (fl : Nat := 33) (sup : Nat := 0) (ifs : Array Nat := #[]) (fds : Array FieldInfo := #[]) : ClassFile where
  minorVersion := 0
  majorVersion := 65
  constantPool := pool
  accessFlags := fl
  thisClass := this
  superClass := sup
  interfaces := ifs
  fields := fds
  methods := ms
  attributes := attrs
def plain (name : String) (sup : Option ClassId) : Class where
  name := name
  kind := .ordinary
  loader := none
  accessFlags := 33
  super := sup
  interfaces := #[]
  cf := none
  fields := #[]
  methods := #[]
  instanceTypes := #[]
  staticTypes := #[]
  resolved := #[]
  callSites := []
  init := .initialized
  statics := none
  mirror := none

def pool0 : Array CpInfo := pool [(5, u "<init>"), (0, u "()V"), (1, .class_ 10), (1, u "java/lang/Object")] 113

def k0m0 : Method := { name := "<init>", desc := "()V", sig := { parameters := [], returnType := none }, accessFlags := 1, code := none }
/-- java/lang/Object -/
def k0 : Class := { plain "java/lang/Object" none with
  accessFlags := 33
  interfaces := #[]
  cf := some (fileOf pool0 8 #[] #[{ accessFlags := 1, nameIndex := 5, descriptorIndex := 6, attributes := #[] }] 33 0 #[] #[])
  fields := #[]
  methods := #[k0m0]
  instanceTypes := #[]
  staticTypes := #[]
  resolved := Array.replicate 124 none
  statics := none }

def pool1 : Array CpInfo := pool [(2, .class_ 4), (1, u "java/lang/Object"), (0, u "<init>"), (0, u "()V"), (0, .methodref 8 9), (0, .class_ 10), (0, .nameAndType 11 12), (0, u "com/example/parametree/parametree/Tree$Pairs"), (0, u "sampled"), (0, u "(I)Z"), (0, .integer 16777215), (0, .integer 16777216), (0, .class_ 16), (0, u "com/example/parametree/parametree/PairsSampledPinLaw"), (2, u "law"), (0, u "(II)Z")] 7

def k1m0 : Method := { name := "<init>", desc := "()V", sig := { parameters := [], returnType := none }, accessFlags := 2, code := none }
def k1c1 : Code := { maxStack := 2, maxLocals := 11, code := code, exceptionTable := #[], attributes := #[] }
def k1m1 : Method := { name := "law", desc := "(II)Z", sig := { parameters := [.int, .int], returnType := some .boolean }, accessFlags := 9, code := some k1c1 }
/-- com/example/parametree/parametree/PairsSampledPinLaw -/
def k1 : Class := { plain "com/example/parametree/parametree/PairsSampledPinLaw" (some 0) with
  accessFlags := 49
  interfaces := #[]
  cf := some (fileOf pool1 15 #[] #[{ accessFlags := 2, nameIndex := 5, descriptorIndex := 6, attributes := #[] }, { accessFlags := 9, nameIndex := 19, descriptorIndex := 20, attributes := #[] }] 49 2 #[] #[])
  fields := #[]
  methods := #[k1m0, k1m1]
  instanceTypes := #[]
  staticTypes := #[]
  resolved := Array.replicate 28 none
  statics := none }

def pool2 : Array CpInfo := pool [(2, .class_ 4), (1, u "java/lang/Object"), (0, u "<init>"), (0, u "()V"), (0, .class_ 8), (0, u "com/example/parametree/parametree/Tree$Pairs"), (0, .class_ 10), (0, u "com/example/parametree/parametree/Tree"), (2, u "recent"), (0, u "[Lcom/example/parametree/parametree/Tree;"), (2, u "pairs"), (2, u "hashes"), (0, u "[I"), (2, u "table"), (3, u "I"), (9, u "all"), (0, u "Z"), (2, u "met"), (3, u "sampled"), (0, u "(I)Z"), (14, u "size"), (14, u "RECENT"), (2, u "SAMPLE_BITS"), (1, u "KEEP_ALL_AFTER"), (0, u "MOST")] 9

def k2m0 : Method := { name := "<init>", desc := "()V", sig := { parameters := [], returnType := none }, accessFlags := 0, code := none }
def k2c1 : Code := { maxStack := 2, maxLocals := 1, code := prog_105_method_4_code, exceptionTable := #[], attributes := #[] }
def k2m1 : Method := { name := "sampled", desc := "(I)Z", sig := { parameters := [.int], returnType := some .boolean }, accessFlags := 8, code := some k2c1 }
/-- com/example/parametree/parametree/Tree$Pairs -/
def k2 : Class := { plain "com/example/parametree/parametree/Tree$Pairs" (some 0) with
  accessFlags := 32
  interfaces := #[]
  cf := some (fileOf pool2 7 #[.nestHost 9] #[{ accessFlags := 0, nameIndex := 5, descriptorIndex := 6, attributes := #[] }, { accessFlags := 8, nameIndex := 46, descriptorIndex := 47, attributes := #[] }] 32 2 #[] #[{ accessFlags := 26, nameIndex := 77, descriptorIndex := 28, attributes := #[] }, { accessFlags := 26, nameIndex := 80, descriptorIndex := 28, attributes := #[] }, { accessFlags := 26, nameIndex := 82, descriptorIndex := 28, attributes := #[] }, { accessFlags := 26, nameIndex := 83, descriptorIndex := 28, attributes := #[] }, { accessFlags := 18, nameIndex := 13, descriptorIndex := 14, attributes := #[] }, { accessFlags := 2, nameIndex := 17, descriptorIndex := 14, attributes := #[] }, { accessFlags := 2, nameIndex := 20, descriptorIndex := 21, attributes := #[] }, { accessFlags := 2, nameIndex := 24, descriptorIndex := 21, attributes := #[] }, { accessFlags := 2, nameIndex := 62, descriptorIndex := 28, attributes := #[] }, { accessFlags := 2, nameIndex := 42, descriptorIndex := 28, attributes := #[] }, { accessFlags := 2, nameIndex := 38, descriptorIndex := 39, attributes := #[] }])
  fields := #[{ name := "RECENT", type := .int, accessFlags := 26, slot := 0, constantValue := 0 }, { name := "SAMPLE_BITS", type := .int, accessFlags := 26, slot := 1, constantValue := 0 }, { name := "KEEP_ALL_AFTER", type := .int, accessFlags := 26, slot := 2, constantValue := 0 }, { name := "MOST", type := .int, accessFlags := 26, slot := 3, constantValue := 0 }, { name := "recent", type := (.array (.object "com/example/parametree/parametree/Tree")), accessFlags := 18, slot := 0, constantValue := 0 }, { name := "pairs", type := (.array (.object "com/example/parametree/parametree/Tree")), accessFlags := 2, slot := 1, constantValue := 0 }, { name := "hashes", type := (.array .int), accessFlags := 2, slot := 2, constantValue := 0 }, { name := "table", type := (.array .int), accessFlags := 2, slot := 3, constantValue := 0 }, { name := "size", type := .int, accessFlags := 2, slot := 4, constantValue := 0 }, { name := "met", type := .int, accessFlags := 2, slot := 5, constantValue := 0 }, { name := "all", type := .boolean, accessFlags := 2, slot := 6, constantValue := 0 }]
  methods := #[k2m0, k2m1]
  instanceTypes := #[(.array (.object "com/example/parametree/parametree/Tree")), (.array (.object "com/example/parametree/parametree/Tree")), (.array .int), (.array .int), .int, .int, .boolean]
  staticTypes := #[.int, .int, .int, .int]
  resolved := Array.replicate 93 none
  statics := none }

def pool3 : Array CpInfo := pool [(1, u "java/lang/Cloneable"), (0, .class_ 1), (0, u "java/lang/Object"), (0, .class_ 3)] 3

/-- java/lang/Cloneable -/
def k3 : Class := { plain "java/lang/Cloneable" (some 0) with
  accessFlags := 1537
  interfaces := #[]
  cf := some (fileOf pool3 2 #[] #[] 1537 4 #[] #[])
  fields := #[]
  methods := #[]
  instanceTypes := #[]
  staticTypes := #[]
  resolved := Array.replicate 8 none
  statics := none }

def pool4 : Array CpInfo := pool [(1, u "java/io/Serializable"), (0, .class_ 1), (0, u "java/lang/Object"), (0, .class_ 3)] 3

/-- java/io/Serializable -/
def k4 : Class := { plain "java/io/Serializable" (some 0) with
  accessFlags := 1537
  interfaces := #[]
  cf := some (fileOf pool4 2 #[] #[] 1537 4 #[] #[])
  fields := #[]
  methods := #[]
  instanceTypes := #[]
  staticTypes := #[]
  resolved := Array.replicate 8 none
  statics := none }

/-- the primitive byte -/
def k5 : Class := { plain "byte" none with kind := .primitive 'B', accessFlags := 0x411 }
/-- [B -/
def k6 : Class := { plain "[B" (some 0) with kind := .array 5 .byte, interfaces := #[3, 4], accessFlags := 1041 }

/-- the primitive int -/
def k7 : Class := { plain "int" none with kind := .primitive 'I', accessFlags := 0x411 }
/-- [I -/
def k8 : Class := { plain "[I" (some 0) with kind := .array 7 .int, interfaces := #[3, 4], accessFlags := 1041 }

def heap : Heap := #[]
def classes : Array Class := #[k0, k1, k2, k3, k4, k5, k6, k7, k8]
def interned : List (Array UInt16 × Addr) := []
def slotsUsed : Nat := 0
def theMethod : MethodId := ⟨1, 1⟩
def args0 : Array Value := #[.int 5, .int 5]
def aboutOver (below : List Frame) : State where
  vm := { classes := classes, interned := interned.toArray }
  heap := heap
  slotsUsed := slotsUsed
  threads := #[{ frames := .invoking theMethod args0 :: below }]
def below0 : List Frame := [.native { method := ⟨0, 0⟩, args := #[] }]
def about1 : State := aboutOver below0
def p0 : Program := .bare "" "" ""
def e0 : Env := launch0.env 0 0 0
theorem w_frames : about1.frames = Frame.invoking theMethod args0 :: below0 := rfl
set_option maxRecDepth 65536 in
theorem w_args : argsFit about1.vm theMethod args0 = true := by decide +kernel
set_option maxRecDepth 65536 in
theorem w_heap : heapFits about1 = true := by decide +kernel
set_option maxRecDepth 65536 in
theorem w_runnable : about1.curStatus? = some .runnable := by decide +kernel
set_option maxRecDepth 65536 in
theorem w_alone : about1.alone = true := by decide +kernel
set_option maxRecDepth 65536 in
theorem w_named : about1.methodNamed? x = some theMethod := by decide +kernel
set_option maxRecDepth 65536 in
theorem w_hears : about1.hears theMethod below0 = true := by decide +kernel
set_option maxRecDepth 65536 in
theorem w_ripe : about1.ripe theMethod args0 below0 = true := by decide +kernel
theorem w_running : about1.status = .running := rfl
set_option maxRecDepth 65536 in
theorem w_room : about1.hasRoom e0.platform room_1 = true :=
  launch0.hasRoom_least _ room_1 (by decide +kernel) (by decide +kernel) (by decide +kernel) (by decide +kernel) (by decide +kernel) (by decide +kernel)
theorem allAtoms_all (ts : List Jvm.Cond) (a : Array Jvm.Value) (st : Jvm.State) : (allAtoms ts).before a st = ts.all (fun c => c.before a st) := by
  induction ts with
  | nil => rfl
  | cons c t ih =>
    show (Jvm.Cond.and c (allAtoms t)).before a st = _
    rw [Jvm.Cond.before_and, ih, List.all_cons]
def words1 : List Jvm.Cond := Jvm.Cond.code x code maxLocals ret :: tables_1
/-- a 'code' word, met by the world's own term for the bytes: nothing is compared byte by byte -/
theorem code_word {y : MethodName} {bytes : ByteArray} {mx : Nat} {rt : Option FieldType} {a : Array Value} {s : State} {m : MethodId} {meth : Method} {c : Code} (h1 : s.methodNamed? y = some m) (h2 : s.vm.method? m = some meth) (h3 : meth.code = some c) (h4 : c.code = bytes)
    (h5 : (c.maxLocals == mx && c.exceptionTable.isEmpty && decide (c.maxStack ≤ mostOperands) && decide (meth.sig.returnType = rt) && !meth.locks && decide (parseMethodDescriptor y.desc = some meth.sig)) = true) : (Jvm.Cond.code y bytes mx rt).before a s = true := by
  simp only [Bool.and_eq_true, beq_iff_eq, Bool.not_eq_true', decide_eq_true_eq] at h5
  obtain ⟨⟨⟨⟨⟨g1, g2⟩, g3⟩, g4⟩, g5⟩, g6⟩ := h5
  simp [Cond.before, Cond.holds, Cond.value, h1, h2, h3, h4, g1, g2, g3, g4, g5, g6]
def isCode : Jvm.Cond → Bool
  | .code _ _ _ _ => true
  | _ => false
theorem all_split {L : List Jvm.Cond} {P : Jvm.Cond → Bool} (h1 : L.all (fun c => isCode c || P c) = true) (h2 : ∀ c ∈ L.filter isCode, P c = true) : L.all P = true := by
  refine List.all_eq_true.mpr fun c hc => ?_
  have h := List.all_eq_true.mp h1 c hc
  rcases Bool.eq_false_or_eq_true (isCode c) with hi | hi
  · exact h2 c (List.mem_filter.mpr ⟨hc, hi⟩)
  · simpa [hi] using h
set_option maxRecDepth 65536 in
theorem w_c0 : (Jvm.Cond.code x code maxLocals ret).before args0 about1 = true := code_word (m := ⟨1, 1⟩) (meth := k1m1) (c := k1c1) (by decide +kernel) rfl rfl rfl (by decide +kernel)
set_option maxRecDepth 65536 in
theorem w_c1 : (Jvm.Cond.code ({ cls := "com/example/parametree/parametree/Tree$Pairs", name := "sampled", desc := "(I)Z" } : Jvm.MethodName) prog_105_method_4_code (1 : Nat) (Option.some Jvm.ClassFile.FieldType.boolean)).before args0 about1 = true := code_word (m := ⟨2, 1⟩) (meth := k2m1) (c := k2c1) (by decide +kernel) rfl rfl rfl (by decide +kernel)
def codes1 : List Jvm.Cond := [Jvm.Cond.code x code maxLocals ret, Jvm.Cond.code ({ cls := "com/example/parametree/parametree/Tree$Pairs", name := "sampled", desc := "(I)Z" } : Jvm.MethodName) prog_105_method_4_code (1 : Nat) (Option.some Jvm.ClassFile.FieldType.boolean)]
set_option maxRecDepth 65536 in
theorem codes_eq : words1.filter isCode = codes1 := rfl
theorem w_codes : ∀ c ∈ words1.filter isCode, c.before args0 about1 = true := by
  rw [codes_eq]
  intro c hc
  simp only [codes1, List.mem_cons, List.not_mem_nil, or_false] at hc
  rcases hc with rfl | rfl
  · exact w_c0
  · exact w_c1
set_option maxRecDepth 65536 in
theorem w_t1 : words1.all (fun c => isCode c || c.before args0 about1) = true := by decide +kernel
theorem w_tables : (allAtoms (Jvm.Cond.code x code maxLocals ret :: tables_1)).before args0 about1 = true := by
  rw [allAtoms_all]
  show words1.all (fun c => c.before args0 about1) = true
  refine all_split ?_ w_codes
  rw [w_t1]
set_option maxRecDepth 65536 in
theorem w_case : (Jvm.Cond.and given_1 narrow_1).before args0 about1 = true := by decide +kernel
theorem w_applies : (headSpec (Jvm.Cond.code x code maxLocals ret :: tables_1) room_1).applies x e0.platform about1 = true :=
  (Spec.applies_iff w_frames).mpr ⟨w_running, w_runnable, w_alone, w_named, w_hears, w_ripe, w_room, w_tables⟩
theorem atStart : AtStart classFile x code maxLocals ret World_1 tables_1 room_1 Calls_1 rest_1 Pre_1 launch0 p0 e0 about1 theMethod args0 below0 :=
  ⟨lists_1, trivial, launch0.admits_env _ _ _, launch0.least_env, fairChoices_fair.cas, fairChoices_fair.clock, w_frames, w_args, w_heap, w_applies, trivial, trivial, w_case⟩
end start1
theorem witness_1 : WitnessClaimed_1 := ⟨start1.p0, start1.e0, start1.about1, start1.theMethod, start1.args0, start1.below0, start1.atStart⟩
end Jvm.Pilot.@@N@@
