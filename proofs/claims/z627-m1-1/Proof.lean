import JvmDerived
import JvmDerived.Pilot.@@N@@Statement
import JvmDerived.Pilot.@@N@@Code
set_option linter.unusedVariables false
set_option linter.unusedSimpArgs false
namespace Jvm.RoadKit
open Sem ClassFile Op Lib Jvm.Stand Jvm.Free Jvm.LawKit
/-- from T the run comes to a state of which Φ holds -/
def own_R (tb : Tables) (e : Env) (below : List Frame) (Φ : State → Prop) (T : State) : Prop := ∃ T', Φ T' ∧ ∀ t, Steps tb e below T' t → Steps tb e below T t
theorem own_leaf {tb : Tables} {e : Env} {below : List Frame} {Φ : State → Prop} {T : State} (h : Φ T) : own_R tb e below Φ T := ⟨T, h, fun _ k => k⟩
theorem own_go {tb : Tables} {e : Env} {below : List Frame} {Φ : State → Prop} {T T1 : State} (h : ∀ t, Steps tb e below T1 t → Steps tb e below T t) (g : own_R tb e below Φ T1) : own_R tb e below Φ T := by
  obtain ⟨T', h1, h2⟩ := g
  exact ⟨T', h1, fun t k => h t (h2 t k)⟩
theorem own_to {tb : Tables} {e : Env} {below : List Frame} {Φ Ψ : State → Prop} {T : State} (h : own_R tb e below Φ T) (g : ∀ U, Φ U → own_R tb e below Ψ U) : own_R tb e below Ψ T := by
  obtain ⟨T', h1, h2⟩ := h
  exact own_go h2 (g T' h1)
/-- the call has come to its end: what it returns and leaves -/
def own_F (below : List Frame) (s : State) (Q : Option Value → Heap → List Loc → Prop) (rc rs : Nat) (U : State) : Prop := U.status = .running ∧ ∃ v L, Ended U below (.returned v) ∧ Q v U.heap L ∧ FrameEnd s (.returned v) U L rc rs
theorem own_fin {tb : Tables} {e : Env} {below : List Frame} {s : State} {Q : Option Value → Heap → List Loc → Prop} {rc rs : Nat} {T : State} (h : own_R tb e below (own_F below s Q rc rs) T) :
    ∃ s₂ o, Steps tb e below T s₂ ∧ s₂.status = .running ∧ Ended s₂ below o ∧ ∃ v L, o = .returned v ∧ Q v s₂.heap L ∧ FrameEnd s o s₂ L rc rs := by
  obtain ⟨T', ⟨h1, v, L, h2, h3, h4⟩, h5⟩ := h
  exact ⟨T', .returned v, h5 _ (Steps.refl _), h1, h2, v, L, rfl, h3, h4⟩
section New
variable {p : Program} {l : Launch} {e : Env} {R : Room} {s : State} {m : MethodId} {args : Array Value} {below : List Frame} {meth : Method} {c : Code} {T : State} {locs : List Loc} {cells slots : Nat}
theorem retI (X : Stand p l e R s m args below meth c T locs cells slots) (hx : p.tables.exec = Jvm.exec) {pc : Nat} {Ls : Array Slot} {z : Int32} {rest : List Value} (hret : meth.sig.returnType = some .int) (hd : decode c.code pc = .ok (.ireturn, 1)) {fs : List Frame}
    (hl : ∀ (f : JFrame) (acts : List Action), f.method = m → f.locked = none → f.entered = [] → (doReturn e (T.setTop f) acts (some (.int z))).1 = T.setFrames fs) : Steps p.tables e below (T.setTop (mkF m pc Ls (.int z :: rest))) (T.setFrames fs) := by
  have hm' : T.vm.method? m = some meth := X.method'
  have hn : narrow .int (.int z) = .int z := rfl
  show Steps p.tables e below (T.setTop { method := m, pc := pc, locals := Ls, stack := _ :: rest, locked := none }) _
  jvm_step X.here [X.here.top, hx, hd, hm', hret, hn]
  first | (intro acts; rw [hl _ acts rfl rfl rfl]) | rw [hl _ _ rfl rfl rfl]
  exact Steps.refl _
variable {Q : Option Value → Heap → List Loc → Prop} {rc rs : Nat}
theorem own_end (X : Stand p l e R s m args below meth c T locs cells slots) (hlk : meth.locks = false) {v : Option Value} (hv : meth.sig.returnType = none → v = none) (hQ : Q v T.heap locs) (hc : cells ≤ rc) (hs : slots ≤ rs) {g : JFrame}
    (hst : ∀ fs, (∀ (f : JFrame) (acts : List Action), f.method = m → f.locked = none → f.entered = [] → (doReturn e (T.setTop f) acts v).1 = T.setFrames fs) → Steps p.tables e below (T.setTop g) (T.setFrames fs)) : own_R p.tables e below (own_F below s Q rc rs) (T.setTop g) := by
  obtain ⟨fs, hr, hrun, hended, hW, hsame⟩ := X.leave hv hlk
  exact ⟨T.setFrames fs, ⟨hrun, v, locs, hended, hQ, ⟨_, rfl⟩, hW, hsame.mono hc hs⟩, fun t k => (hst fs hr).trans k⟩
theorem own_ret0 (X : Stand p l e R s m args below meth c T locs cells slots) (hx : p.tables.exec = Jvm.exec) {pc : Nat} {Ls : Array Slot} (hret : meth.sig.returnType = none) (hd : decode c.code pc = .ok (.return_, 1)) (hlk : meth.locks = false) (hQ : Q none T.heap locs) (hc : cells ≤ rc) (hs : slots ≤ rs) :
    own_R p.tables e below (own_F below s Q rc rs) (T.setTop (mkF m pc Ls [])) := own_end X hlk (fun _ => rfl) hQ hc hs fun _ hr => X.returnOut hx hret hd hr
theorem own_retI (X : Stand p l e R s m args below meth c T locs cells slots) (hx : p.tables.exec = Jvm.exec) {pc : Nat} {Ls : Array Slot} {z : Int32} {rest : List Value} (hret : meth.sig.returnType = some .int) (hd : decode c.code pc = .ok (.ireturn, 1)) (hlk : meth.locks = false) (hQ : Q (some (.int z)) T.heap locs) (hc : cells ≤ rc) (hs : slots ≤ rs) :
    own_R p.tables e below (own_F below s Q rc rs) (T.setTop (mkF m pc Ls (.int z :: rest))) := own_end X hlk (fun h => by rw [hret] at h; cases h) hQ hc hs fun _ hr => retI X hx hret hd hr
theorem own_retN (X : Stand p l e R s m args below meth c T locs cells slots) (hx : p.tables.exec = Jvm.exec) {t : FieldType} (ht : t = .boolean ∨ t = .byte ∨ t = .char ∨ t = .short) {pc : Nat} {Ls : Array Slot} {z : Int32} {rest : List Value} (hret : meth.sig.returnType = some t) (hd : decode c.code pc = .ok (.ireturn, 1)) (hlk : meth.locks = false) (hQ : Q (some (.int (nar t z))) T.heap locs) (hc : cells ≤ rc) (hs : slots ≤ rs) :
    own_R p.tables e below (own_F below s Q rc rs) (T.setTop (mkF m pc Ls (.int z :: rest))) := own_end X hlk (fun h => by rw [hret] at h; cases h) hQ hc hs fun _ hr => retN X hx hret ht hd hr
theorem own_retL (X : Stand p l e R s m args below meth c T locs cells slots) (hx : p.tables.exec = Jvm.exec) {pc : Nat} {Ls : Array Slot} {z : Int64} {rest : List Value} (hret : meth.sig.returnType = some .long) (hd : decode c.code pc = .ok (.lreturn, 1)) (hlk : meth.locks = false) (hQ : Q (some (.long z)) T.heap locs) (hc : cells ≤ rc) (hs : slots ≤ rs) :
    own_R p.tables e below (own_F below s Q rc rs) (T.setTop (mkF m pc Ls (.long z :: rest))) := own_end X hlk (fun h => by rw [hret] at h; cases h) hQ hc hs fun _ hr => retOut X hx hret rfl (Or.inr (Or.inl ⟨rfl, rfl, z, rfl⟩)) hd hr
theorem own_retA (X : Stand p l e R s m args below meth c T locs cells slots) (hx : p.tables.exec = Jvm.exec) {t : FieldType} {pc : Nat} {Ls : Array Slot} {w : Value} {rest : List Value} (ht : t.isReference = true) (hw : w.isRef = true) (hret : meth.sig.returnType = some t) (hd : decode c.code pc = .ok (.areturn, 1)) (hlk : meth.locks = false) (hQ : Q (some w) T.heap locs) (hc : cells ≤ rc) (hs : slots ≤ rs) :
    own_R p.tables e below (own_F below s Q rc rs) (T.setTop (mkF m pc Ls (w :: rest))) := own_end X hlk (fun h => by rw [hret] at h; cases h) hQ hc hs fun _ hr => retOut X hx hret (by cases t <;> first | rfl | cases ht) (Or.inr (Or.inr (Or.inr (Or.inr ⟨rfl, ht, hw⟩)))) hd hr
variable {Z : State} {h : Heap} {a : Addr} {k : ClassId} {n : Int32} {vs : List Value} {dv : Value}
theorem own_len (X : Stand p l e R s m args below meth c T locs cells slots) (hx : p.tables.exec = Jvm.exec) (hZ : Z.Warmed39 s.vm) (eT : T.heap = h) {ty : FieldType} (V : Arv Z h a k ty n vs dv) {g : JFrame} (hg : g.method = m) {rest : List Value} (hs : g.stack = .ref a :: rest) (hd : decode c.code g.pc = .ok (.arraylength, 1)) :
    ∀ target, Steps p.tables e below (T.setTop { g with pc := g.pc + 1, stack := .int n :: rest }) target → Steps p.tables e below (T.setTop g) target := by
  obtain ⟨cl, A, -, S, N, -, -⟩ := V
  intro t kt
  refine X.arraylength hx (by rw [eT]; exact A.1) (State.isArrayOf_alike hZ.alike A.2.1) hg hs hd t ?_
  rw [len_of S N]; exact kt
theorem own_ldI (X : Stand p l e R s m args below meth c T locs cells slots) (hx : p.tables.exec = Jvm.exec) (hZ : Z.Warmed39 s.vm) (eT : T.heap = h) (V : Arv Z h a k .int n vs dv) {j : Int32} {i : Nat} (hj : ¬ j < 0 ∧ j < n) (hi : j.toNatClampNeg = i) {v : Value} (hv : vs.getD i dv = v) {g : JFrame} (hg : g.method = m) {rest : List Value} (hs : g.stack = .int j :: .ref a :: rest) (hd : decode c.code g.pc = .ok (.iaload, 1)) :
    ∀ target, Steps p.tables e below (T.setTop { g with pc := g.pc + 1, stack := v :: rest }) target → Steps p.tables e below (T.setTop g) target := by
  obtain ⟨cl, A, -, S, N, H, -⟩ := V
  subst hi
  intro t kt
  exact X.iaload hx (by rw [eT]; exact A.1) (State.isArrayOf_alike hZ.alike A.2.1) A.2.2 (inb_of S hj) (H.at (inb_of S hj) hv) hg hs hd t kt
theorem own_ldJ (X : Stand p l e R s m args below meth c T locs cells slots) (hx : p.tables.exec = Jvm.exec) (hZ : Z.Warmed39 s.vm) (eT : T.heap = h) (V : Arv Z h a k .long n vs dv) {j : Int32} {i : Nat} (hj : ¬ j < 0 ∧ j < n) (hi : j.toNatClampNeg = i) {v : Value} (hv : vs.getD i dv = v) {g : JFrame} (hg : g.method = m) {rest : List Value} (hs : g.stack = .int j :: .ref a :: rest) (hd : decode c.code g.pc = .ok (.laload, 1)) :
    ∀ target, Steps p.tables e below (T.setTop { g with pc := g.pc + 1, stack := v :: rest }) target → Steps p.tables e below (T.setTop g) target := by
  obtain ⟨cl, A, -, S, N, H, -⟩ := V
  subst hi
  intro t kt
  exact X.laload hx (by rw [eT]; exact A.1) (State.isArrayOf_alike hZ.alike A.2.1) A.2.2 (inb_of S hj) (H.at (inb_of S hj) hv) hg hs hd t kt
theorem own_ldB (X : Stand p l e R s m args below meth c T locs cells slots) (hx : p.tables.exec = Jvm.exec) (hZ : Z.Warmed39 s.vm) (eT : T.heap = h) (V : Arv Z h a k .byte n vs dv) {j : Int32} {i : Nat} (hj : ¬ j < 0 ∧ j < n) (hi : j.toNatClampNeg = i) {v : Value} (hv : vs.getD i dv = v) {g : JFrame} (hg : g.method = m) {rest : List Value} (hs : g.stack = .int j :: .ref a :: rest) (hd : decode c.code g.pc = .ok (.baload, 1)) :
    ∀ target, Steps p.tables e below (T.setTop { g with pc := g.pc + 1, stack := v :: rest }) target → Steps p.tables e below (T.setTop g) target := by
  obtain ⟨cl, A, -, S, N, H, -⟩ := V
  subst hi
  intro t kt
  exact X.baloadBytes hx (by rw [eT]; exact A.1) (State.isArrayOf_alike hZ.alike A.2.1) A.2.2 (inb_of S hj) (H.at (inb_of S hj) hv) hg hs hd t kt
theorem own_stI (X : Stand p l e R s m args below meth c T locs cells slots) (hx : p.tables.exec = Jvm.exec) (hZ : Z.Warmed39 s.vm) (eT : T.heap = h) (V : Arv Z h a k .int n vs dv) {j : Int32} {i : Nat} (hj : ¬ j < 0 ∧ j < n) (hi : j.toNatClampNeg = i) (hlen : i < vs.length) {x : Int32} {w : Value} (hw : w = .int x) {g : JFrame} (hg : g.method = m) {rest : List Value} (hs : g.stack = .int x :: .int j :: .ref a :: rest) (hd : decode c.code g.pc = .ok (.iastore, 1)) :
    ∃ T' h' sl, Stand p l e R s m args below meth c T' (locs ++ [⟨a, sl⟩]) cells slots ∧ T'.heap = h' ∧ Wr h h' a sl w ∧ Arv Z h' a k .int n (vs.set i w) dv ∧ ∀ target, Steps p.tables e below (T'.setTop { g with pc := g.pc + 1, stack := rest }) target → Steps p.tables e below (T.setTop g) target := by
  obtain ⟨cl, A, q1, S, N, H, G⟩ := V
  subst hw
  obtain ⟨T', h', X', e', W', st⟩ := stI X hx hZ eT A (j := j) (inb_of S hj) hg hs hd
  exact ⟨T', h', _, X', e', W', Arv.set A q1 S N H G rfl W' i hi hlen, st⟩
theorem own_stJ (X : Stand p l e R s m args below meth c T locs cells slots) (hx : p.tables.exec = Jvm.exec) (hZ : Z.Warmed39 s.vm) (eT : T.heap = h) (V : Arv Z h a k .long n vs dv) {j : Int32} {i : Nat} (hj : ¬ j < 0 ∧ j < n) (hi : j.toNatClampNeg = i) (hlen : i < vs.length) {x : Int64} {w : Value} (hw : w = .long x) {g : JFrame} (hg : g.method = m) {rest : List Value} (hs : g.stack = .long x :: .int j :: .ref a :: rest) (hd : decode c.code g.pc = .ok (.lastore, 1)) :
    ∃ T' h' sl, Stand p l e R s m args below meth c T' (locs ++ [⟨a, sl⟩]) cells slots ∧ T'.heap = h' ∧ Wr h h' a sl w ∧ Arv Z h' a k .long n (vs.set i w) dv ∧ ∀ target, Steps p.tables e below (T'.setTop { g with pc := g.pc + 1, stack := rest }) target → Steps p.tables e below (T.setTop g) target := by
  obtain ⟨cl, A, q1, S, N, H, G⟩ := V
  subst hw
  obtain ⟨T', h', X', e', W', st⟩ := stJ X hx hZ eT A (j := j) (inb_of S hj) hg hs hd
  exact ⟨T', h', _, X', e', W', Arv.set A q1 S N H G rfl W' i hi hlen, st⟩
end New
end Jvm.RoadKit
namespace Jvm.Pilot.@@N@@
open Jvm Jvm.ClassFile Sem Op Lib Jvm.Free Jvm.Stand Jvm.LawKit Jvm.RoadKit Bundle Jvm.Pilot.@@N@@.Jvm.D
theorem pd_0 : parseMethodDescriptor "()V" = some ⟨[], none⟩ := by decide +kernel
theorem pd_1 : parseMethodDescriptor "(II)I" = some ⟨[.int, .int], some .int⟩ := by decide +kernel
theorem pd_2 : parseMethodDescriptor "(I)[Ljava/lang/Object;" = some ⟨[.int], some (.array (.object "java/lang/Object"))⟩ := by decide +kernel
theorem pd_3 : parseMethodDescriptor "()[Ljava/lang/Object;" = some ⟨[], some (.array (.object "java/lang/Object"))⟩ := by decide +kernel
theorem pd_4 : parseMethodDescriptor "(Ljava/lang/Object;[Ljava/lang/Object;I)V" = some ⟨[(.object "java/lang/Object"), (.array (.object "java/lang/Object")), .int], none⟩ := by decide +kernel
theorem pd_5 : parseMethodDescriptor "(Ljava/util/List;ZZII)V" = some ⟨[(.object "java/util/List"), .boolean, .boolean, .int, .int], none⟩ := by decide +kernel
theorem pd_6 : parseMethodDescriptor "()Z" = some ⟨[], some .boolean⟩ := by decide +kernel
theorem pd_7 : parseMethodDescriptor "(ZI)V" = some ⟨[.boolean, .int], none⟩ := by decide +kernel
theorem pd_8 : parseMethodDescriptor "(Ljava/lang/Object;)Z" = some ⟨[(.object "java/lang/Object")], some .boolean⟩ := by decide +kernel

def own_max (a b : Int32) : Int32 := if a < b then b else a
def own_out (a b : Int32) : Int32 := if a = 0 then (if b = 0 then 0 else 1) else 1
theorem own_nar01 {b : Int32} (h : b = 0 ∨ b = 1) : narrow .boolean (.int b) = .int b := by rcases h with rfl | rfl <;> rfl
theorem own_fit01 {b : Int32} (h : b = 0 ∨ b = 1) : fits .boolean (.int b) = true := by rcases h with rfl | rfl <;> rfl
theorem own_empty {Z : State} {h : Heap} {a : Addr} {c : Cell} {ty : FieldType} (A : Arr Z h a c ty) (e : c.slots.size = 0) : Arv Z h a c.cls ty (0 : Int32) [] .null := ⟨c, A, rfl, e, by decide, fun k hk => absurd hk (by omega), fun k hk => absurd hk (by omega)⟩
theorem d3_0 : decode jdk_22_method_1_code 0 = .ok (.aload_n 0, 1) := by decide +kernel
theorem d3_1 : decode jdk_22_method_1_code 1 = .ok (.invokespecial 1, 3) := by decide +kernel
theorem d3_4 : decode jdk_22_method_1_code 4 = .ok (.return_, 1) := by decide +kernel
theorem pn_3 : plainName "java/util/AbstractCollection" = true := by first | (simp [plainName, overriddenIn]; done) | decide +kernel
theorem ef_3 (m : MethodId) (x0 : Addr) : entryFrame m #[(.ref x0)] 1 = mkF m 0 #[.val (.ref x0)] [] := by first | (simp [entryFrame, mkF, argsToLocals, Value.category]; done) | rfl
def Q3 (Z : State) (a1 : Addr) (h0 : Heap) (n0 : Nat) (v : Option Value) (h : Heap) (L : List Loc) : Prop := v = none ∧ Fr n0 L ∧ h = h0
set_option maxRecDepth 65536 in
set_option maxHeartbeats 40000000 in
theorem rm3 (l : Launch) (Z : State) (a0 : Array Value) (hw : ∀ d ∈ tables_1, d.before a0 Z = true) (ws : List Jvm.Cond) (a1 : Addr) (h0 : Heap) (n0 : Nat) (ZS : n0 ≤ h0.size) :
    MetFree l (⟨"java/util/AbstractCollection", "<init>", "()V"⟩ : MethodName) (head1 (Jvm.Cond.code (⟨"java/util/AbstractCollection", "<init>", "()V"⟩ : MethodName) jdk_22_method_1_code 1 none :: ws) ({ frames := 1, cells := 0, slots := 0, locals := 12 } : Room)) (fun a U => a = #[(.ref a1)] ∧ Z.Warmed39 U.vm ∧ U.heap = h0) (fun _ _ _ _ _ => True) (fun _ U o U' => ∃ v L, o = .returned v ∧ Q3 Z a1 h0 n0 v U'.heap L ∧ FrameEnd U o U' L ({ frames := 1, cells := 0, slots := 0, locals := 12 } : Room).cells ({ frames := 1, cells := 0, slots := 0, locals := 12 } : Room).slots) := by
  refine MetFree.of_bodySF (plainFor_of_name pn_3) hisR ?_
  intro p e s m args below meth c s₁ Bd hml0 hP hK
  obtain ⟨rfl, hZ, hh⟩ := hP
  have hx := Bd.exec
  have hby := Bd.bytes
  have hml : c.maxLocals = 1 := hml0
  have hown : s.vm.findClass "java/util/AbstractCollection" = some m.cls := findClass_of_methodNamed Bd.named
  have hnm := (name_of_methodNamed Bd.named Bd.method).1
  have hlk : meth.locks = false := Bd.notSynchronized
  have X0 : Stand p l e ({ frames := 1, cells := 0, slots := 0, locals := 12 } : Room) s m #[(.ref a1)] below meth c s₁ [] 0 0 := Stand.of_body Bd
  have e0 : s₁.heap = h0 := by rw [← hh, Bd.state]; rfl
  have NF := Fr.nil n0
  have KP : Keep h0 h0 [] := Keep.refl _ _
  refine own_fin (s := s) (Q := Q3 Z a1 h0 n0) (rc := ({ frames := 1, cells := 0, slots := 0, locals := 12 } : Room).cells) (rs := ({ frames := 1, cells := 0, slots := 0, locals := 12 } : Room).slots) ?_
  refine own_go (fun _ kt => castTop (ef_3 m a1) kt) ?_
  show own_R _ _ _ _ (s₁.setTop (mkF m 0 #[.val (.ref a1)] []))
  refine own_go (fun _ kt => XS.aloadN X0.here hx rfl (hb hby d3_0) rfl rfl kt) ?_
  show own_R _ _ _ _ (s₁.setTop (mkF m 1 #[.val (.ref a1)] [(.ref a1)]))
  obtain ⟨T1, X1, e1, st1⟩ := initO X0 hx hZ hown (hw _ (List.mem_of_getElem? (i := 18) rfl)) (hw _ (List.mem_of_getElem? (i := 19) rfl)) (hw _ (List.mem_of_getElem? (i := 20) rfl)) e0 (g := (mkF m 1 #[.val (.ref a1)] [(.ref a1)])) rfl (by rw [hml]; rfl) rfl (hb hby d3_1) (by decide) (W := 0) (by show 2 * 0 + _ ≤ _; exact Nat.le_of_eq rfl) (by decide)
  refine own_go st1 ?_
  show own_R _ _ _ _ (T1.setTop (mkF m 4 #[.val (.ref a1)] []))
  exact own_ret0 X1 hx Bd.returns (hb hby d3_4) hlk ⟨rfl, NF, e1⟩ (by decide) (by decide)
theorem d6_0 : decode jdk_30_method_1_code 0 = .ok (.aload_n 0, 1) := by decide +kernel
theorem d6_1 : decode jdk_30_method_1_code 1 = .ok (.invokespecial 1, 3) := by decide +kernel
theorem d6_4 : decode jdk_30_method_1_code 4 = .ok (.return_, 1) := by decide +kernel
theorem pn_6 : plainName "java/lang/Record" = true := by first | (simp [plainName, overriddenIn]; done) | decide +kernel
theorem ef_6 (m : MethodId) (x0 : Addr) : entryFrame m #[(.ref x0)] 1 = mkF m 0 #[.val (.ref x0)] [] := by first | (simp [entryFrame, mkF, argsToLocals, Value.category]; done) | rfl
def Q6 (Z : State) (a1 : Addr) (h0 : Heap) (n0 : Nat) (v : Option Value) (h : Heap) (L : List Loc) : Prop := v = none ∧ Fr n0 L ∧ h = h0
set_option maxRecDepth 65536 in
set_option maxHeartbeats 40000000 in
theorem rm6 (l : Launch) (Z : State) (a0 : Array Value) (hw : ∀ d ∈ tables_1, d.before a0 Z = true) (ws : List Jvm.Cond) (a1 : Addr) (h0 : Heap) (n0 : Nat) (ZS : n0 ≤ h0.size) :
    MetFree l (⟨"java/lang/Record", "<init>", "()V"⟩ : MethodName) (head1 (Jvm.Cond.code (⟨"java/lang/Record", "<init>", "()V"⟩ : MethodName) jdk_30_method_1_code 1 none :: ws) ({ frames := 1, cells := 0, slots := 0, locals := 12 } : Room)) (fun a U => a = #[(.ref a1)] ∧ Z.Warmed39 U.vm ∧ U.heap = h0) (fun _ _ _ _ _ => True) (fun _ U o U' => ∃ v L, o = .returned v ∧ Q6 Z a1 h0 n0 v U'.heap L ∧ FrameEnd U o U' L ({ frames := 1, cells := 0, slots := 0, locals := 12 } : Room).cells ({ frames := 1, cells := 0, slots := 0, locals := 12 } : Room).slots) := by
  refine MetFree.of_bodySF (plainFor_of_name pn_6) hisR ?_
  intro p e s m args below meth c s₁ Bd hml0 hP hK
  obtain ⟨rfl, hZ, hh⟩ := hP
  have hx := Bd.exec
  have hby := Bd.bytes
  have hml : c.maxLocals = 1 := hml0
  have hown : s.vm.findClass "java/lang/Record" = some m.cls := findClass_of_methodNamed Bd.named
  have hnm := (name_of_methodNamed Bd.named Bd.method).1
  have hlk : meth.locks = false := Bd.notSynchronized
  have X0 : Stand p l e ({ frames := 1, cells := 0, slots := 0, locals := 12 } : Room) s m #[(.ref a1)] below meth c s₁ [] 0 0 := Stand.of_body Bd
  have e0 : s₁.heap = h0 := by rw [← hh, Bd.state]; rfl
  have NF := Fr.nil n0
  have KP : Keep h0 h0 [] := Keep.refl _ _
  refine own_fin (s := s) (Q := Q6 Z a1 h0 n0) (rc := ({ frames := 1, cells := 0, slots := 0, locals := 12 } : Room).cells) (rs := ({ frames := 1, cells := 0, slots := 0, locals := 12 } : Room).slots) ?_
  refine own_go (fun _ kt => castTop (ef_6 m a1) kt) ?_
  show own_R _ _ _ _ (s₁.setTop (mkF m 0 #[.val (.ref a1)] []))
  refine own_go (fun _ kt => XS.aloadN X0.here hx rfl (hb hby d6_0) rfl rfl kt) ?_
  show own_R _ _ _ _ (s₁.setTop (mkF m 1 #[.val (.ref a1)] [(.ref a1)]))
  obtain ⟨T2, X2, e2, st2⟩ := initO X0 hx hZ hown (hw _ (List.mem_of_getElem? (i := 37) rfl)) (hw _ (List.mem_of_getElem? (i := 19) rfl)) (hw _ (List.mem_of_getElem? (i := 20) rfl)) e0 (g := (mkF m 1 #[.val (.ref a1)] [(.ref a1)])) rfl (by rw [hml]; rfl) rfl (hb hby d6_1) (by decide) (W := 0) (by show 2 * 0 + _ ≤ _; exact Nat.le_of_eq rfl) (by decide)
  refine own_go st2 ?_
  show own_R _ _ _ _ (T2.setTop (mkF m 4 #[.val (.ref a1)] []))
  exact own_ret0 X2 hx Bd.returns (hb hby d6_4) hlk ⟨rfl, NF, e2⟩ (by decide) (by decide)
theorem d13_0 : decode jdk_29_method_65_code 0 = .ok (.iload_n 0, 1) := by decide +kernel
theorem d13_1 : decode jdk_29_method_65_code 1 = .ok (.iload_n 1, 1) := by decide +kernel
theorem d13_2 : decode jdk_29_method_65_code 2 = .ok (.if_icmp .lt 7, 3) := by decide +kernel
theorem d13_5 : decode jdk_29_method_65_code 5 = .ok (.iload_n 0, 1) := by decide +kernel
theorem d13_6 : decode jdk_29_method_65_code 6 = .ok (.goto 4, 3) := by decide +kernel
theorem d13_9 : decode jdk_29_method_65_code 9 = .ok (.iload_n 1, 1) := by decide +kernel
theorem d13_10 : decode jdk_29_method_65_code 10 = .ok (.ireturn, 1) := by decide +kernel
theorem ef_13 (m : MethodId) (x0 : Int32) (x1 : Int32) : entryFrame m #[(.int x0), (.int x1)] 2 = mkF m 0 #[.val (.int x0), .val (.int x1)] [] := by first | (simp [entryFrame, mkF, argsToLocals, Value.category]; done) | rfl
def Q13 (Z : State) (p1 : Int32) (p2 : Int32) (h0 : Heap) (n0 : Nat) (v : Option Value) (h : Heap) (L : List Loc) : Prop := v = some (.int (own_max p1 p2)) ∧ Fr n0 L ∧ h = h0
set_option maxRecDepth 65536 in
set_option maxHeartbeats 40000000 in
theorem rm13 (l : Launch) (Z : State) (a0 : Array Value) (hw : ∀ d ∈ tables_1, d.before a0 Z = true) (ws : List Jvm.Cond) (p1 : Int32) (p2 : Int32) (h0 : Heap) (n0 : Nat) (ZS : n0 ≤ h0.size) :
    MetFree l (⟨"java/lang/Math", "max", "(II)I"⟩ : MethodName) (head1 (Jvm.Cond.code (⟨"java/lang/Math", "max", "(II)I"⟩ : MethodName) jdk_29_method_65_code 2 (some .int) :: ws) ({ frames := 0, cells := 0, slots := 0, locals := 0 } : Room)) (fun a U => a = #[(.int p1), (.int p2)] ∧ Z.Warmed39 U.vm ∧ U.heap = h0) (fun _ _ _ _ _ => True) (fun _ U o U' => ∃ v L, o = .returned v ∧ Q13 Z p1 p2 h0 n0 v U'.heap L ∧ FrameEnd U o U' L ({ frames := 0, cells := 0, slots := 0, locals := 0 } : Room).cells ({ frames := 0, cells := 0, slots := 0, locals := 0 } : Room).slots) := by
  refine MetFree.of_bodySF (Jvm.Free.JP.mathPlain rfl (by decide +kernel)) hisR ?_
  intro p e s m args below meth c s₁ Bd hml0 hP hK
  obtain ⟨rfl, hZ, hh⟩ := hP
  have hx := Bd.exec
  have hby := Bd.bytes
  have hml : c.maxLocals = 2 := hml0
  have hown : s.vm.findClass "java/lang/Math" = some m.cls := findClass_of_methodNamed Bd.named
  have hnm := (name_of_methodNamed Bd.named Bd.method).1
  have hlk : meth.locks = false := Bd.notSynchronized
  have X0 : Stand p l e ({ frames := 0, cells := 0, slots := 0, locals := 0 } : Room) s m #[(.int p1), (.int p2)] below meth c s₁ [] 0 0 := Stand.of_body Bd
  have e0 : s₁.heap = h0 := by rw [← hh, Bd.state]; rfl
  have NF := Fr.nil n0
  have KP : Keep h0 h0 [] := Keep.refl _ _
  refine own_fin (s := s) (Q := Q13 Z p1 p2 h0 n0) (rc := ({ frames := 0, cells := 0, slots := 0, locals := 0 } : Room).cells) (rs := ({ frames := 0, cells := 0, slots := 0, locals := 0 } : Room).slots) ?_
  refine own_go (fun _ kt => castTop (ef_13 m p1 p2) kt) ?_
  show own_R _ _ _ _ (s₁.setTop (mkF m 0 #[.val (.int p1), .val (.int p2)] []))
  refine own_go (fun _ kt => XS.iloadN X0.here hx rfl (hb hby d13_0) rfl kt) ?_
  show own_R _ _ _ _ (s₁.setTop (mkF m 1 #[.val (.int p1), .val (.int p2)] [(.int p1)]))
  refine own_go (fun _ kt => XS.iloadN X0.here hx rfl (hb hby d13_1) rfl kt) ?_
  show own_R _ _ _ _ (s₁.setTop (mkF m 2 #[.val (.int p1), .val (.int p2)] [(.int p2), (.int p1)]))
  by_cases hc3 : p1 < p2
  · refine own_go (fun _ kt => XS.icmpYes X0.here hx rfl (pc0 := 2) (pc' := 9) rfl (hb hby d13_2) rfl (tlt hc3).1 (by decide) (by decide) kt) ?_
    show own_R _ _ _ _ (s₁.setTop (mkF m 9 #[.val (.int p1), .val (.int p2)] []))
    refine own_go (fun _ kt => XS.iloadN X0.here hx rfl (hb hby d13_9) rfl kt) ?_
    show own_R _ _ _ _ (s₁.setTop (mkF m 10 #[.val (.int p1), .val (.int p2)] [(.int p2)]))
    exact own_retI X0 hx Bd.returns (hb hby d13_10) hlk ⟨by rw [own_max, if_pos hc3], NF, e0⟩ (by decide) (by decide)
  · refine own_go (fun _ kt => XS.icmpNo X0.here hx rfl (hb hby d13_2) rfl (flt hc3).1 kt) ?_
    show own_R _ _ _ _ (s₁.setTop (mkF m 5 #[.val (.int p1), .val (.int p2)] []))
    refine own_go (fun _ kt => XS.iloadN X0.here hx rfl (hb hby d13_5) rfl kt) ?_
    show own_R _ _ _ _ (s₁.setTop (mkF m 6 #[.val (.int p1), .val (.int p2)] [(.int p1)]))
    refine own_go (fun _ kt => XS.goto X0.here hx rfl (pc0 := 6) (pc' := 10) rfl (hb hby d13_6) (by decide) (by decide) kt) ?_
    show own_R _ _ _ _ (s₁.setTop (mkF m 10 #[.val (.int p1), .val (.int p2)] [(.int p1)]))
    exact own_retI X0 hx Bd.returns (hb hby d13_10) hlk ⟨by rw [own_max, if_neg hc3], NF, e0⟩ (by decide) (by decide)
theorem d2_0 : decode jdk_39_method_1_code 0 = .ok (.aload_n 0, 1) := by decide +kernel
theorem d2_1 : decode jdk_39_method_1_code 1 = .ok (.invokespecial 1, 3) := by decide +kernel
theorem d2_4 : decode jdk_39_method_1_code 4 = .ok (.aload_n 0, 1) := by decide +kernel
theorem d2_5 : decode jdk_39_method_1_code 5 = .ok (.iconst 0, 1) := by decide +kernel
theorem d2_6 : decode jdk_39_method_1_code 6 = .ok (.putfield 7, 3) := by decide +kernel
theorem d2_9 : decode jdk_39_method_1_code 9 = .ok (.return_, 1) := by decide +kernel
theorem pn_2 : plainName "java/util/AbstractList" = true := by first | (simp [plainName, overriddenIn]; done) | decide +kernel
theorem ef_2 (m : MethodId) (x0 : Addr) : entryFrame m #[(.ref x0)] 1 = mkF m 0 #[.val (.ref x0)] [] := by first | (simp [entryFrame, mkF, argsToLocals, Value.category]; done) | rfl
def Q2 (Z : State) (a1 : Addr) (u_modCount : Value) (u_elementData : Value) (u_size : Value) (h0 : Heap) (n0 : Nat) (v : Option Value) (h : Heap) (L : List Loc) : Prop := v = none ∧ Fr n0 L ∧ Keep h0 h [a1] ∧ Fld Z h a1 "java/util/AbstractList" "modCount" "I" (.int (0 : Int32)) ∧ Fld Z h a1 "java/util/ArrayList" "elementData" "[Ljava/lang/Object;" u_elementData ∧ Fld Z h a1 "java/util/ArrayList" "size" "I" u_size
set_option maxRecDepth 65536 in
set_option maxHeartbeats 40000000 in
theorem rm2 (l : Launch) (Z : State) (a0 : Array Value) (hw : ∀ d ∈ tables_1, d.before a0 Z = true) (ws : List Jvm.Cond) (a1 : Addr) (u_modCount : Value) (u_elementData : Value) (u_size : Value) (h0 : Heap) (n0 : Nat) (ZS : n0 ≤ h0.size) (E_a1 : Exa Z h0 a1 "java/util/ArrayList") (F_modCount_a1 : Fld Z h0 a1 "java/util/AbstractList" "modCount" "I" u_modCount) (F_elementData_a1 : Fld Z h0 a1 "java/util/ArrayList" "elementData" "[Ljava/lang/Object;" u_elementData) (F_size_a1 : Fld Z h0 a1 "java/util/ArrayList" "size" "I" u_size) (g_a1 : n0 ≤ a1) :
    MetFree l (⟨"java/util/AbstractList", "<init>", "()V"⟩ : MethodName) (head1 (Jvm.Cond.code (⟨"java/util/AbstractList", "<init>", "()V"⟩ : MethodName) jdk_39_method_1_code 1 none :: ws) ({ frames := 2, cells := 0, slots := 0, locals := 24 } : Room)) (fun a U => a = #[(.ref a1)] ∧ Z.Warmed39 U.vm ∧ U.heap = h0) (fun _ _ _ _ _ => True) (fun _ U o U' => ∃ v L, o = .returned v ∧ Q2 Z a1 u_modCount u_elementData u_size h0 n0 v U'.heap L ∧ FrameEnd U o U' L ({ frames := 2, cells := 0, slots := 0, locals := 24 } : Room).cells ({ frames := 2, cells := 0, slots := 0, locals := 24 } : Room).slots) := by
  refine MetFree.of_bodySF (plainFor_of_name pn_2) hisR ?_
  intro p e s m args below meth c s₁ Bd hml0 hP hK
  obtain ⟨rfl, hZ, hh⟩ := hP
  have hx := Bd.exec
  have hby := Bd.bytes
  have hml : c.maxLocals = 1 := hml0
  have hown : s.vm.findClass "java/util/AbstractList" = some m.cls := findClass_of_methodNamed Bd.named
  have hnm := (name_of_methodNamed Bd.named Bd.method).1
  have hlk : meth.locks = false := Bd.notSynchronized
  have X0 : Stand p l e ({ frames := 2, cells := 0, slots := 0, locals := 24 } : Room) s m #[(.ref a1)] below meth c s₁ [] 0 0 := Stand.of_body Bd
  have e0 : s₁.heap = h0 := by rw [← hh, Bd.state]; rfl
  have NF := Fr.nil n0
  have KP : Keep h0 h0 [a1] := Keep.refl _ _
  refine own_fin (s := s) (Q := Q2 Z a1 u_modCount u_elementData u_size h0 n0) (rc := ({ frames := 2, cells := 0, slots := 0, locals := 24 } : Room).cells) (rs := ({ frames := 2, cells := 0, slots := 0, locals := 24 } : Room).slots) ?_
  refine own_go (fun _ kt => castTop (ef_2 m a1) kt) ?_
  show own_R _ _ _ _ (s₁.setTop (mkF m 0 #[.val (.ref a1)] []))
  refine own_go (fun _ kt => XS.aloadN X0.here hx rfl (hb hby d2_0) rfl rfl kt) ?_
  show own_R _ _ _ _ (s₁.setTop (mkF m 1 #[.val (.ref a1)] [(.ref a1)]))
  obtain ⟨_, _, ⟨T4, L4, k4, n4⟩, -, X4, ⟨Lc4, hQ4, l4, y4, z4⟩, st4⟩ := X0.specialBack hx (y := (⟨"java/util/AbstractCollection", "<init>", "()V"⟩ : MethodName)) rfl hown (mvT hZ (hw _ (List.mem_of_getElem? (i := 12) rfl))) (mvT hZ (hw _ (List.mem_of_getElem? (i := 13) rfl))) (mvT hZ (hw _ (List.mem_of_getElem? (i := 17) rfl))) (by decide) (backOf (W := 0) (rm3 l Z a0 hw [] a1 h0 n0 ZS) hZ (hw _ (List.mem_of_getElem? (i := 17) rfl)) (hw _ (List.mem_of_getElem? (i := 16) rfl)) (by decide) (by decide)) (g := (mkF m 1 #[.val (.ref a1)] [(.ref a1)])) rfl (by rw [hml]; rfl) (Steps.refl _) (a := a1) (argsL := []) (rest := []) (lenOf pd_0 rfl) rfl (by show 2 * 0 + _ ≤ _; exact Nat.le_of_eq rfl) (hb hby d2_1) (fun _ _ => ⟨rfl, e0, (by decide : 0 + 0 ≤ _), (by decide : 0 + 0 ≤ _)⟩)
  dsimp only [Pt.U, Pt.locs, Pt.cells, Pt.slots] at X4 l4 y4 z4 st4 hQ4
  subst l4 y4 z4
  obtain ⟨rfl, N4q, e4⟩ := hQ4
  have NF := Fr.app NF N4q
  refine own_go (fun _ kt => st4.trans kt) ?_
  show own_R _ _ _ _ (T4.setTop (mkF m 4 #[.val (.ref a1)] []))
  refine own_go (fun _ kt => XS.aloadN X4.here hx rfl (hb hby d2_4) rfl rfl kt) ?_
  show own_R _ _ _ _ (T4.setTop (mkF m 5 #[.val (.ref a1)] [(.ref a1)]))
  refine own_go (fun _ kt => XS.iconst X4.here hx rfl (hb hby d2_5) kt) ?_
  show own_R _ _ _ _ (T4.setTop (mkF m 6 #[.val (.ref a1)] [(.int (0 : Int32)), (.ref a1)]))
  obtain ⟨T5, h5, X5, e5, W5, st5⟩ := putF X4 hx hZ hown (host := "") (Or.inl (hw _ (List.mem_of_getElem? (i := 21) rfl))) Via.refl e4 F_modCount_a1 E_a1 (Or.inl (hw _ (List.mem_of_getElem? (i := 22) rfl))) (hw _ (List.mem_of_getElem? (i := 1) rfl)) (ty := .int) (by decide) rfl rfl (g := (mkF m 6 #[.val (.ref a1)] [(.int (0 : Int32)), (.ref a1)])) rfl rfl (hb hby d2_6)
  refine own_go st5 ?_
  have E_a1 := E_a1.wr W5
  have F_modCount_a1 := F_modCount_a1.same W5
  have F_elementData_a1 := F_elementData_a1.other W5 (Or.inr (slot_ne (Or.inl (hw _ (List.mem_of_getElem? (i := 25) rfl))) (Or.inl (hw _ (List.mem_of_getElem? (i := 22) rfl))) (by decide) (t := (.array (.object "java/lang/Object"))) (t' := .int) (by decide) (by decide)))
  have F_size_a1 := F_size_a1.other W5 (Or.inr (slot_ne (Or.inl (hw _ (List.mem_of_getElem? (i := 72) rfl))) (Or.inl (hw _ (List.mem_of_getElem? (i := 22) rfl))) (by decide) (t := .int) (t' := .int) (by decide) (by decide)))
  have ZS := Nat.le_trans ZS (Keep.of_wr W5).1
  have KP := KP.wr W5 (Or.inl (List.mem_of_getElem? (i := 0) rfl))
  have NF := Fr.snoc X5 NF g_a1
  show own_R _ _ _ _ (T5.setTop (mkF m 9 #[.val (.ref a1)] []))
  exact own_ret0 X5 hx Bd.returns (hb hby d2_9) hlk (by rw [e5]; exact ⟨rfl, NF, KP, F_modCount_a1, F_elementData_a1, F_size_a1⟩) (by decide) (by decide)
theorem d1_0 : decode jdk_38_method_2_code 0 = .ok (.aload_n 0, 1) := by decide +kernel
theorem d1_1 : decode jdk_38_method_2_code 1 = .ok (.invokespecial 1, 3) := by decide +kernel
theorem d1_4 : decode jdk_38_method_2_code 4 = .ok (.aload_n 0, 1) := by decide +kernel
theorem d1_5 : decode jdk_38_method_2_code 5 = .ok (.getstatic 39, 3) := by decide +kernel
theorem d1_8 : decode jdk_38_method_2_code 8 = .ok (.putfield 9, 3) := by decide +kernel
theorem d1_11 : decode jdk_38_method_2_code 11 = .ok (.return_, 1) := by decide +kernel
theorem pn_1 : plainName "java/util/ArrayList" = true := by first | (simp [plainName, overriddenIn]; done) | decide +kernel
theorem ef_1 (m : MethodId) (x0 : Addr) : entryFrame m #[(.ref x0)] 1 = mkF m 0 #[.val (.ref x0)] [] := by first | (simp [entryFrame, mkF, argsToLocals, Value.category]; done) | rfl
def Q1 (Z : State) (a1 : Addr) (u_modCount : Value) (u_elementData : Value) (w1 : Int32) (d : Addr) (kd : ClassId) (h0 : Heap) (n0 : Nat) (v : Option Value) (h : Heap) (L : List Loc) : Prop := v = none ∧ Fr n0 L ∧ Keep h0 h [a1] ∧ Fld Z h a1 "java/util/AbstractList" "modCount" "I" (.int (0 : Int32)) ∧ Fld Z h a1 "java/util/ArrayList" "elementData" "[Ljava/lang/Object;" (.ref d) ∧ Fld Z h a1 "java/util/ArrayList" "size" "I" (.int w1)
set_option maxRecDepth 65536 in
set_option maxHeartbeats 40000000 in
theorem rm1 (l : Launch) (Z : State) (a0 : Array Value) (hw : ∀ d ∈ tables_1, d.before a0 Z = true) (ws : List Jvm.Cond) (a1 : Addr) (u_modCount : Value) (u_elementData : Value) (w1 : Int32) (d : Addr) (kd : ClassId) (h0 : Heap) (n0 : Nat) (ZS : n0 ≤ h0.size) (E_a1 : Exa Z h0 a1 "java/util/ArrayList") (F_modCount_a1 : Fld Z h0 a1 "java/util/AbstractList" "modCount" "I" u_modCount) (F_elementData_a1 : Fld Z h0 a1 "java/util/ArrayList" "elementData" "[Ljava/lang/Object;" u_elementData) (F_size_a1 : Fld Z h0 a1 "java/util/ArrayList" "size" "I" (.int w1)) (g_a1 : n0 ≤ a1) (SD : Sta Z Z.heap "java/util/ArrayList" "DEFAULTCAPACITY_EMPTY_ELEMENTDATA" "[Ljava/lang/Object;" (.ref d)) (OLD : Old Z n0 h0) (V_d : Arv Z h0 d kd (.object "java/lang/Object") (0 : Int32) [] .null) (ne1 : a1 ≠ d) :
    MetFree l (⟨"java/util/ArrayList", "<init>", "()V"⟩ : MethodName) (head1 (Jvm.Cond.code (⟨"java/util/ArrayList", "<init>", "()V"⟩ : MethodName) jdk_38_method_2_code 1 none :: ws) ({ frames := 3, cells := 0, slots := 0, locals := 36 } : Room)) (fun a U => a = #[(.ref a1)] ∧ Z.Warmed39 U.vm ∧ U.heap = h0) (fun _ _ _ _ _ => True) (fun _ U o U' => ∃ v L, o = .returned v ∧ Q1 Z a1 u_modCount u_elementData w1 d kd h0 n0 v U'.heap L ∧ FrameEnd U o U' L ({ frames := 3, cells := 0, slots := 0, locals := 36 } : Room).cells ({ frames := 3, cells := 0, slots := 0, locals := 36 } : Room).slots) := by
  refine MetFree.of_bodySF (plainFor_of_name pn_1) hisR ?_
  intro p e s m args below meth c s₁ Bd hml0 hP hK
  obtain ⟨rfl, hZ, hh⟩ := hP
  have hx := Bd.exec
  have hby := Bd.bytes
  have hml : c.maxLocals = 1 := hml0
  have hown : s.vm.findClass "java/util/ArrayList" = some m.cls := findClass_of_methodNamed Bd.named
  have hnm := (name_of_methodNamed Bd.named Bd.method).1
  have hlk : meth.locks = false := Bd.notSynchronized
  have X0 : Stand p l e ({ frames := 3, cells := 0, slots := 0, locals := 36 } : Room) s m #[(.ref a1)] below meth c s₁ [] 0 0 := Stand.of_body Bd
  have e0 : s₁.heap = h0 := by rw [← hh, Bd.state]; rfl
  have NF := Fr.nil n0
  have KP : Keep h0 h0 [a1] := Keep.refl _ _
  refine own_fin (s := s) (Q := Q1 Z a1 u_modCount u_elementData w1 d kd h0 n0) (rc := ({ frames := 3, cells := 0, slots := 0, locals := 36 } : Room).cells) (rs := ({ frames := 3, cells := 0, slots := 0, locals := 36 } : Room).slots) ?_
  refine own_go (fun _ kt => castTop (ef_1 m a1) kt) ?_
  show own_R _ _ _ _ (s₁.setTop (mkF m 0 #[.val (.ref a1)] []))
  refine own_go (fun _ kt => XS.aloadN X0.here hx rfl (hb hby d1_0) rfl rfl kt) ?_
  show own_R _ _ _ _ (s₁.setTop (mkF m 1 #[.val (.ref a1)] [(.ref a1)]))
  obtain ⟨_, _, ⟨T6, L6, k6, n6⟩, -, X6, ⟨Lc6, hQ6, l6, y6, z6⟩, st6⟩ := X0.specialBack hx (y := (⟨"java/util/AbstractList", "<init>", "()V"⟩ : MethodName)) rfl hown (mvT hZ (hw _ (List.mem_of_getElem? (i := 6) rfl))) (mvT hZ (hw _ (List.mem_of_getElem? (i := 7) rfl))) (mvT hZ (hw _ (List.mem_of_getElem? (i := 11) rfl))) (by decide) (backOf (W := 0) (rm2 l Z a0 hw [] a1 u_modCount u_elementData (.int w1) h0 n0 ZS E_a1 F_modCount_a1 F_elementData_a1 F_size_a1 g_a1) hZ (hw _ (List.mem_of_getElem? (i := 11) rfl)) (hw _ (List.mem_of_getElem? (i := 10) rfl)) (by decide) (by decide)) (g := (mkF m 1 #[.val (.ref a1)] [(.ref a1)])) rfl (by rw [hml]; rfl) (Steps.refl _) (a := a1) (argsL := []) (rest := []) (lenOf pd_0 rfl) rfl (by show 2 * 0 + _ ≤ _; exact Nat.le_of_eq rfl) (hb hby d1_1) (fun _ _ => ⟨rfl, e0, (by decide : 0 + 0 ≤ _), (by decide : 0 + 0 ≤ _)⟩)
  dsimp only [Pt.U, Pt.locs, Pt.cells, Pt.slots] at X6 l6 y6 z6 st6 hQ6
  subst l6 y6 z6
  obtain ⟨h6, e6'⟩ : ∃ z, z = T6.heap := ⟨_, rfl⟩
  rw [← e6'] at hQ6
  have e6 : T6.heap = h6 := e6'.symm
  obtain ⟨rfl, N6q, K6, pp1, pp2, pp3⟩ := hQ6
  have NF := Fr.app NF N6q
  refine own_go (fun _ kt => st6.trans kt) ?_
  have E_a1 := E_a1.keep K6
  have V_d := V_d.keep K6 (ninS (Ne.symm ne1) nin0)
  have OLD := OLD.keep K6 (allS g_a1 all0)
  have ZS := Nat.le_trans ZS K6.1
  have KP := KP.trans K6 (allS (Or.inl (List.mem_of_getElem? (i := 0) rfl)) all0)
  have F_modCount_a1 := pp1
  have F_elementData_a1 := pp2
  have F_size_a1 := pp3
  show own_R _ _ _ _ (T6.setTop (mkF m 4 #[.val (.ref a1)] []))
  refine own_go (fun _ kt => XS.aloadN X6.here hx rfl (hb hby d1_4) rfl rfl kt) ?_
  show own_R _ _ _ _ (T6.setTop (mkF m 5 #[.val (.ref a1)] [(.ref a1)]))
  obtain ⟨T7, X7, e7, st7⟩ := getS2 X6 hx hZ hown (host := "") (Or.inl (hw _ (List.mem_of_getElem? (i := 23) rfl))) Via.refl e6 (SD.ext OLD.2) (g := (mkF m 5 #[.val (.ref a1)] [(.ref a1)])) rfl (hb hby d1_5)
  refine own_go st7 ?_
  show own_R _ _ _ _ (T7.setTop (mkF m 8 #[.val (.ref a1)] [(.ref d), (.ref a1)]))
  obtain ⟨T8, h8, X8, e8, W8, st8⟩ := putF X7 hx hZ hown (host := "") (Or.inl (hw _ (List.mem_of_getElem? (i := 24) rfl))) Via.refl e7 F_elementData_a1 E_a1 (Or.inl (hw _ (List.mem_of_getElem? (i := 25) rfl))) (hw _ (List.mem_of_getElem? (i := 1) rfl)) (ty := (.array (.object "java/lang/Object"))) (by decide) rfl rfl (g := (mkF m 8 #[.val (.ref a1)] [(.ref d), (.ref a1)])) rfl rfl (hb hby d1_8)
  refine own_go st8 ?_
  have E_a1 := E_a1.wr W8
  have V_d := V_d.other W8 (Ne.symm ne1)
  have OLD := OLD.wr W8 g_a1
  have F_modCount_a1 := F_modCount_a1.other W8 (Or.inr (slot_ne (Or.inl (hw _ (List.mem_of_getElem? (i := 22) rfl))) (Or.inl (hw _ (List.mem_of_getElem? (i := 25) rfl))) (by decide) (t := .int) (t' := (.array (.object "java/lang/Object"))) (by decide) (by decide)))
  have F_elementData_a1 := F_elementData_a1.same W8
  have F_size_a1 := F_size_a1.other W8 (Or.inr (slot_ne (Or.inl (hw _ (List.mem_of_getElem? (i := 72) rfl))) (Or.inl (hw _ (List.mem_of_getElem? (i := 25) rfl))) (by decide) (t := .int) (t' := (.array (.object "java/lang/Object"))) (by decide) (by decide)))
  have ZS := Nat.le_trans ZS (Keep.of_wr W8).1
  have KP := KP.wr W8 (Or.inl (List.mem_of_getElem? (i := 0) rfl))
  have NF := Fr.snoc X8 NF g_a1
  show own_R _ _ _ _ (T8.setTop (mkF m 11 #[.val (.ref a1)] []))
  exact own_ret0 X8 hx Bd.returns (hb hby d1_11) hlk (by rw [e8]; exact ⟨rfl, NF, KP, F_modCount_a1, F_elementData_a1, F_size_a1⟩) (by decide) (by decide)
theorem d12_0 : decode jdk_38_method_6_code 0 = .ok (.aload_n 0, 1) := by decide +kernel
theorem d12_1 : decode jdk_38_method_6_code 1 = .ok (.getfield 9, 3) := by decide +kernel
theorem d12_4 : decode jdk_38_method_6_code 4 = .ok (.arraylength, 1) := by decide +kernel
theorem d12_5 : decode jdk_38_method_6_code 5 = .ok (.istore_n 2, 1) := by decide +kernel
theorem d12_6 : decode jdk_38_method_6_code 6 = .ok (.iload_n 2, 1) := by decide +kernel
theorem d12_7 : decode jdk_38_method_6_code 7 = .ok (.ifCond .gt 13, 3) := by decide +kernel
theorem d12_10 : decode jdk_38_method_6_code 10 = .ok (.aload_n 0, 1) := by decide +kernel
theorem d12_11 : decode jdk_38_method_6_code 11 = .ok (.getfield 9, 3) := by decide +kernel
theorem d12_14 : decode jdk_38_method_6_code 14 = .ok (.getstatic 39, 3) := by decide +kernel
theorem d12_17 : decode jdk_38_method_6_code 17 = .ok (.if_acmp .eq 28, 3) := by decide +kernel
theorem d12_20 : decode jdk_38_method_6_code 20 = .ok (.iload_n 2, 1) := by decide +kernel
theorem d12_21 : decode jdk_38_method_6_code 21 = .ok (.iload_n 1, 1) := by decide +kernel
theorem d12_22 : decode jdk_38_method_6_code 22 = .ok (.iload_n 2, 1) := by decide +kernel
theorem d12_23 : decode jdk_38_method_6_code 23 = .ok (.isub, 1) := by decide +kernel
theorem d12_24 : decode jdk_38_method_6_code 24 = .ok (.iload_n 2, 1) := by decide +kernel
theorem d12_25 : decode jdk_38_method_6_code 25 = .ok (.iconst 1, 1) := by decide +kernel
theorem d12_26 : decode jdk_38_method_6_code 26 = .ok (.ishr, 1) := by decide +kernel
theorem d12_27 : decode jdk_38_method_6_code 27 = .ok (.invokestatic 73, 3) := by decide +kernel
theorem d12_30 : decode jdk_38_method_6_code 30 = .ok (.istore_n 3, 1) := by decide +kernel
theorem d12_31 : decode jdk_38_method_6_code 31 = .ok (.aload_n 0, 1) := by decide +kernel
theorem d12_32 : decode jdk_38_method_6_code 32 = .ok (.aload_n 0, 1) := by decide +kernel
theorem d12_33 : decode jdk_38_method_6_code 33 = .ok (.getfield 9, 3) := by decide +kernel
theorem d12_36 : decode jdk_38_method_6_code 36 = .ok (.iload_n 3, 1) := by decide +kernel
theorem d12_37 : decode jdk_38_method_6_code 37 = .ok (.invokestatic 66, 3) := by decide +kernel
theorem d12_40 : decode jdk_38_method_6_code 40 = .ok (.dup_x1, 1) := by decide +kernel
theorem d12_41 : decode jdk_38_method_6_code 41 = .ok (.putfield 9, 3) := by decide +kernel
theorem d12_44 : decode jdk_38_method_6_code 44 = .ok (.areturn, 1) := by decide +kernel
theorem d12_45 : decode jdk_38_method_6_code 45 = .ok (.aload_n 0, 1) := by decide +kernel
theorem d12_46 : decode jdk_38_method_6_code 46 = .ok (.bipush 10, 2) := by decide +kernel
theorem d12_48 : decode jdk_38_method_6_code 48 = .ok (.iload_n 1, 1) := by decide +kernel
theorem d12_49 : decode jdk_38_method_6_code 49 = .ok (.invokestatic 79, 3) := by decide +kernel
theorem d12_52 : decode jdk_38_method_6_code 52 = .ok (.anewarray 7, 3) := by decide +kernel
theorem d12_55 : decode jdk_38_method_6_code 55 = .ok (.dup_x1, 1) := by decide +kernel
theorem d12_56 : decode jdk_38_method_6_code 56 = .ok (.putfield 9, 3) := by decide +kernel
theorem d12_59 : decode jdk_38_method_6_code 59 = .ok (.areturn, 1) := by decide +kernel
theorem ef_12 (m : MethodId) (x0 : Addr) (x1 : Int32) : entryFrame m #[(.ref x0), (.int x1)] 4 = mkF m 0 #[.val (.ref x0), .val (.int x1), .unset, .unset] [] := by first | (simp [entryFrame, mkF, argsToLocals, Value.category]; done) | rfl
def Q12 (Z : State) (a1 : Addr) (w1 : Int32) (d : Addr) (kd : ClassId) (h0 : Heap) (n0 : Nat) (v : Option Value) (h : Heap) (L : List Loc) : Prop := ∃ b : Addr, v = some (.ref b) ∧ Fr n0 L ∧ Keep h0 h [a1] ∧ h0.size ≤ b ∧ Fld Z h a1 "java/util/ArrayList" "size" "I" (.int w1) ∧ ∃ k : ClassId, Arv Z h b k (.object "java/lang/Object") (10 : Int32) [] .null ∧ Ovr Z k "java/lang/Object"
set_option maxRecDepth 65536 in
set_option maxHeartbeats 40000000 in
theorem rm12 (l : Launch) (Z : State) (a0 : Array Value) (hw : ∀ d ∈ tables_1, d.before a0 Z = true) (ws : List Jvm.Cond) (a1 : Addr) (w1 : Int32) (d : Addr) (kd : ClassId) (h0 : Heap) (n0 : Nat) (ZS : n0 ≤ h0.size) (E_a1 : Exa Z h0 a1 "java/util/ArrayList") (F_elementData_a1 : Fld Z h0 a1 "java/util/ArrayList" "elementData" "[Ljava/lang/Object;" (.ref d)) (F_size_a1 : Fld Z h0 a1 "java/util/ArrayList" "size" "I" (.int w1)) (g_a1 : n0 ≤ a1) (SD : Sta Z Z.heap "java/util/ArrayList" "DEFAULTCAPACITY_EMPTY_ELEMENTDATA" "[Ljava/lang/Object;" (.ref d)) (OLD : Old Z n0 h0) (V_d : Arv Z h0 d kd (.object "java/lang/Object") (0 : Int32) [] .null) (ne1 : a1 ≠ d) :
    MetFree l (⟨"java/util/ArrayList", "grow", "(I)[Ljava/lang/Object;"⟩ : MethodName) (head1 (Jvm.Cond.code (⟨"java/util/ArrayList", "grow", "(I)[Ljava/lang/Object;"⟩ : MethodName) jdk_38_method_6_code 4 (some (.array (.object "java/lang/Object"))) :: ws) ({ frames := 1, cells := 1, slots := 10, locals := 14 } : Room)) (fun a U => a = #[(.ref a1), (.int (1 : Int32))] ∧ Z.Warmed39 U.vm ∧ U.heap = h0) (fun _ _ _ _ _ => True) (fun _ U o U' => ∃ v L, o = .returned v ∧ Q12 Z a1 w1 d kd h0 n0 v U'.heap L ∧ FrameEnd U o U' L ({ frames := 1, cells := 1, slots := 10, locals := 14 } : Room).cells ({ frames := 1, cells := 1, slots := 10, locals := 14 } : Room).slots) := by
  refine MetFree.of_bodySF (plainFor_of_name pn_1) hisR ?_
  intro p e s m args below meth c s₁ Bd hml0 hP hK
  obtain ⟨rfl, hZ, hh⟩ := hP
  have hx := Bd.exec
  have hby := Bd.bytes
  have hml : c.maxLocals = 4 := hml0
  have hown : s.vm.findClass "java/util/ArrayList" = some m.cls := findClass_of_methodNamed Bd.named
  have hnm := (name_of_methodNamed Bd.named Bd.method).1
  have hlk : meth.locks = false := Bd.notSynchronized
  have X0 : Stand p l e ({ frames := 1, cells := 1, slots := 10, locals := 14 } : Room) s m #[(.ref a1), (.int (1 : Int32))] below meth c s₁ [] 0 0 := Stand.of_body Bd
  have e0 : s₁.heap = h0 := by rw [← hh, Bd.state]; rfl
  have NF := Fr.nil n0
  have KP : Keep h0 h0 [a1] := Keep.refl _ _
  refine own_fin (s := s) (Q := Q12 Z a1 w1 d kd h0 n0) (rc := ({ frames := 1, cells := 1, slots := 10, locals := 14 } : Room).cells) (rs := ({ frames := 1, cells := 1, slots := 10, locals := 14 } : Room).slots) ?_
  refine own_go (fun _ kt => castTop (ef_12 m a1 (1 : Int32)) kt) ?_
  show own_R _ _ _ _ (s₁.setTop (mkF m 0 #[.val (.ref a1), .val (.int (1 : Int32)), .unset, .unset] []))
  refine own_go (fun _ kt => XS.aloadN X0.here hx rfl (hb hby d12_0) rfl rfl kt) ?_
  show own_R _ _ _ _ (s₁.setTop (mkF m 1 #[.val (.ref a1), .val (.int (1 : Int32)), .unset, .unset] [(.ref a1)]))
  obtain ⟨T9, X9, e9, st9⟩ := getF X0 hx hZ hown (host := "") (Or.inl (hw _ (List.mem_of_getElem? (i := 24) rfl))) Via.refl e0 F_elementData_a1 (g := (mkF m 1 #[.val (.ref a1), .val (.int (1 : Int32)), .unset, .unset] [(.ref a1)])) rfl rfl (hb hby d12_1)
  refine own_go st9 ?_
  show own_R _ _ _ _ (T9.setTop (mkF m 4 #[.val (.ref a1), .val (.int (1 : Int32)), .unset, .unset] [(.ref d)]))
  refine own_go (own_len X9 hx hZ e9 V_d (g := (mkF m 4 #[.val (.ref a1), .val (.int (1 : Int32)), .unset, .unset] [(.ref d)])) rfl rfl (hb hby d12_4)) ?_
  show own_R _ _ _ _ (T9.setTop (mkF m 5 #[.val (.ref a1), .val (.int (1 : Int32)), .unset, .unset] [(.int (0 : Int32))]))
  refine own_go (fun _ kt => XS.istoreN X9.here hx rfl (hb hby d12_5) rfl (l' := #[.val (.ref a1), .val (.int (1 : Int32)), .val (.int (0 : Int32)), .unset]) rfl kt) ?_
  show own_R _ _ _ _ (T9.setTop (mkF m 6 #[.val (.ref a1), .val (.int (1 : Int32)), .val (.int (0 : Int32)), .unset] []))
  refine own_go (fun _ kt => XS.iloadN X9.here hx rfl (hb hby d12_6) rfl kt) ?_
  show own_R _ _ _ _ (T9.setTop (mkF m 7 #[.val (.ref a1), .val (.int (1 : Int32)), .val (.int (0 : Int32)), .unset] [(.int (0 : Int32))]))
  refine own_go (fun _ kt => XS.ifNo X9.here hx rfl (hb hby d12_7) rfl ((if0 _ _).trans (flt (by decide : ¬ ((0 : Int32) < (0 : Int32)))).2.2.1) kt) ?_
  show own_R _ _ _ _ (T9.setTop (mkF m 10 #[.val (.ref a1), .val (.int (1 : Int32)), .val (.int (0 : Int32)), .unset] []))
  refine own_go (fun _ kt => XS.aloadN X9.here hx rfl (hb hby d12_10) rfl rfl kt) ?_
  show own_R _ _ _ _ (T9.setTop (mkF m 11 #[.val (.ref a1), .val (.int (1 : Int32)), .val (.int (0 : Int32)), .unset] [(.ref a1)]))
  obtain ⟨T10, X10, e10, st10⟩ := getF X9 hx hZ hown (host := "") (Or.inl (hw _ (List.mem_of_getElem? (i := 24) rfl))) Via.refl e9 F_elementData_a1 (g := (mkF m 11 #[.val (.ref a1), .val (.int (1 : Int32)), .val (.int (0 : Int32)), .unset] [(.ref a1)])) rfl rfl (hb hby d12_11)
  refine own_go st10 ?_
  show own_R _ _ _ _ (T10.setTop (mkF m 14 #[.val (.ref a1), .val (.int (1 : Int32)), .val (.int (0 : Int32)), .unset] [(.ref d)]))
  obtain ⟨T11, X11, e11, st11⟩ := getS2 X10 hx hZ hown (host := "") (Or.inl (hw _ (List.mem_of_getElem? (i := 23) rfl))) Via.refl e10 (SD.ext OLD.2) (g := (mkF m 14 #[.val (.ref a1), .val (.int (1 : Int32)), .val (.int (0 : Int32)), .unset] [(.ref d)])) rfl (hb hby d12_14)
  refine own_go st11 ?_
  show own_R _ _ _ _ (T11.setTop (mkF m 17 #[.val (.ref a1), .val (.int (1 : Int32)), .val (.int (0 : Int32)), .unset] [(.ref d), (.ref d)]))
  refine own_go (fun _ kt => Jvm.RoadKit.acmp (g := (mkF m 17 #[.val (.ref a1), .val (.int (1 : Int32)), .val (.int (0 : Int32)), .unset] [(.ref d), (.ref d)])) X11 hx rfl rfl rfl (pc0 := 17) (pc' := 45) (same := true) rfl (hb hby d12_17) rfl (decide_eq_true rfl) (by decide) (by decide) kt) ?_
  show own_R _ _ _ _ (T11.setTop (mkF m 45 #[.val (.ref a1), .val (.int (1 : Int32)), .val (.int (0 : Int32)), .unset] []))
  refine own_go (fun _ kt => XS.aloadN X11.here hx rfl (hb hby d12_45) rfl rfl kt) ?_
  show own_R _ _ _ _ (T11.setTop (mkF m 46 #[.val (.ref a1), .val (.int (1 : Int32)), .val (.int (0 : Int32)), .unset] [(.ref a1)]))
  refine own_go (fun _ kt => XS.bipush X11.here hx rfl (hb hby d12_46) kt) ?_
  show own_R _ _ _ _ (T11.setTop (mkF m 48 #[.val (.ref a1), .val (.int (1 : Int32)), .val (.int (0 : Int32)), .unset] [(.int (10 : Int32)), (.ref a1)]))
  refine own_go (fun _ kt => XS.iloadN X11.here hx rfl (hb hby d12_48) rfl kt) ?_
  show own_R _ _ _ _ (T11.setTop (mkF m 49 #[.val (.ref a1), .val (.int (1 : Int32)), .val (.int (0 : Int32)), .unset] [(.int (1 : Int32)), (.int (10 : Int32)), (.ref a1)]))
  obtain ⟨_, _, ⟨T12, L12, k12, n12⟩, -, X12, ⟨Lc12, hQ12, l12, y12, z12⟩, st12⟩ := Jvm.LawKit.callS X11 hx (y := (⟨"java/lang/Math", "max", "(II)I"⟩ : MethodName)) hown (mvT hZ (hw _ (List.mem_of_getElem? (i := 88) rfl))) (mvT hZ (hw _ (List.mem_of_getElem? (i := 89) rfl))) (mvT hZ (hw _ (List.mem_of_getElem? (i := 90) rfl))) (mvT hZ (hw _ (List.mem_of_getElem? (i := 91) rfl))) (by decide) (backOf (W := 1) (rm13 l Z a0 hw [] (10 : Int32) (1 : Int32) h0 n0 ZS) hZ (hw _ (List.mem_of_getElem? (i := 91) rfl)) (hw _ (List.mem_of_getElem? (i := 90) rfl)) (by decide) (by decide)) (g := (mkF m 49 #[.val (.ref a1), .val (.int (1 : Int32)), .val (.int (0 : Int32)), .unset] [(.int (1 : Int32)), (.int (10 : Int32)), (.ref a1)])) rfl (by rw [hml]; rfl) (argsL := [(.int (10 : Int32)), (.int (1 : Int32))]) (rest := [(.ref a1)]) (lenOf pd_1 rfl) rfl (by show 2 * 0 + _ ≤ _; exact Nat.le_of_eq rfl) (hb hby d12_49) (fun _ _ => ⟨rfl, e11, (by decide : 0 + 0 ≤ _), (by decide : 0 + 0 ≤ _)⟩)
  dsimp only [Pt.U, Pt.locs, Pt.cells, Pt.slots] at X12 l12 y12 z12 st12 hQ12
  subst l12 y12 z12
  obtain ⟨rfl, N12q, e12⟩ := hQ12
  have NF := Fr.app NF N12q
  refine own_go st12 ?_
  show own_R _ _ _ _ (T12.setTop (mkF m 52 #[.val (.ref a1), .val (.int (1 : Int32)), .val (.int (0 : Int32)), .unset] [(.int (own_max (10 : Int32) (1 : Int32))), (.ref a1)]))
  rw [show own_max (10 : Int32) (1 : Int32) = (10 : Int32) from rfl]
  show own_R _ _ _ _ (T12.setTop (mkF m 52 #[.val (.ref a1), .val (.int (1 : Int32)), .val (.int (0 : Int32)), .unset] [(.int (10 : Int32)), (.ref a1)]))
  obtain ⟨T13, h13, k13, X13, e13, E13, A13, O13, st13⟩ := newR X12 hx hZ hown (hw _ (List.mem_of_getElem? (i := 92) rfl)) (hw _ (List.mem_of_getElem? (i := 93) rfl)) e12 (g := (mkF m 52 #[.val (.ref a1), .val (.int (1 : Int32)), .val (.int (0 : Int32)), .unset] [(.int (10 : Int32)), (.ref a1)])) rfl (hb hby d12_52) rfl (by decide) (cap := 10) (by decide) (by decide) (by decide) (by decide)
  obtain ⟨b13, g13⟩ : ∃ z, z = h0.size := ⟨_, rfl⟩
  rw [← g13] at A13 st13
  refine own_go st13 ?_
  have ne_a1_b13 : a1 ≠ b13 := Nat.ne_of_lt (Nat.lt_of_lt_of_le E_a1.lt (Nat.le_of_eq g13.symm))
  have ne_d_b13 : d ≠ b13 := Nat.ne_of_lt (Nat.lt_of_lt_of_le V_d.lt (Nat.le_of_eq g13.symm))
  have g_b13 : n0 ≤ b13 := Nat.le_trans ZS (Nat.le_of_eq g13.symm)
  have sz_b13 : h0.size ≤ b13 := Nat.le_trans KP.1 (Nat.le_of_eq g13.symm)
  have E_a1 := E_a1.ext E13
  have F_elementData_a1 := F_elementData_a1.ext E13
  have F_size_a1 := F_size_a1.ext E13
  have V_d := V_d.ext E13
  have OLD := OLD.ext E13
  have ZS := Nat.le_trans ZS E13.1
  have KP := KP.ext E13
  have V_b13 := Arv.new A13 (by decide)
  show own_R _ _ _ _ (T13.setTop (mkF m 55 #[.val (.ref a1), .val (.int (1 : Int32)), .val (.int (0 : Int32)), .unset] [(.ref b13), (.ref a1)]))
  refine own_go (fun _ kt => XS.dupX1 X13.here hx rfl (hb hby d12_55) rfl rfl rfl kt) ?_
  show own_R _ _ _ _ (T13.setTop (mkF m 56 #[.val (.ref a1), .val (.int (1 : Int32)), .val (.int (0 : Int32)), .unset] [(.ref b13), (.ref a1), (.ref b13)]))
  obtain ⟨T14, h14, X14, e14, W14, st14⟩ := putF X13 hx hZ hown (host := "") (Or.inl (hw _ (List.mem_of_getElem? (i := 24) rfl))) Via.refl e13 F_elementData_a1 E_a1 (Or.inl (hw _ (List.mem_of_getElem? (i := 25) rfl))) (hw _ (List.mem_of_getElem? (i := 1) rfl)) (ty := (.array (.object "java/lang/Object"))) (by decide) rfl rfl (g := (mkF m 56 #[.val (.ref a1), .val (.int (1 : Int32)), .val (.int (0 : Int32)), .unset] [(.ref b13), (.ref a1), (.ref b13)])) rfl rfl (hb hby d12_56)
  refine own_go st14 ?_
  have E_a1 := E_a1.wr W14
  have F_elementData_a1 := F_elementData_a1.same W14
  have F_size_a1 := F_size_a1.other W14 (Or.inr (slot_ne (Or.inl (hw _ (List.mem_of_getElem? (i := 72) rfl))) (Or.inl (hw _ (List.mem_of_getElem? (i := 25) rfl))) (by decide) (t := .int) (t' := (.array (.object "java/lang/Object"))) (by decide) (by decide)))
  have V_d := V_d.other W14 (Ne.symm ne1)
  have OLD := OLD.wr W14 g_a1
  have V_b13 := V_b13.other W14 (Ne.symm ne_a1_b13)
  have ZS := Nat.le_trans ZS (Keep.of_wr W14).1
  have KP := KP.wr W14 (Or.inl (List.mem_of_getElem? (i := 0) rfl))
  have NF := Fr.snoc X14 NF g_a1
  show own_R _ _ _ _ (T14.setTop (mkF m 59 #[.val (.ref a1), .val (.int (1 : Int32)), .val (.int (0 : Int32)), .unset] [(.ref b13)]))
  exact own_retA X14 hx rfl rfl Bd.returns (hb hby d12_59) hlk (by rw [e14]; exact ⟨_, rfl, NF, KP, sz_b13, F_size_a1, _, V_b13, O13⟩) (by decide) (by decide)
theorem d11_0 : decode jdk_38_method_7_code 0 = .ok (.aload_n 0, 1) := by decide +kernel
theorem d11_1 : decode jdk_38_method_7_code 1 = .ok (.aload_n 0, 1) := by decide +kernel
theorem d11_2 : decode jdk_38_method_7_code 2 = .ok (.getfield 48, 3) := by decide +kernel
theorem d11_5 : decode jdk_38_method_7_code 5 = .ok (.iconst 1, 1) := by decide +kernel
theorem d11_6 : decode jdk_38_method_7_code 6 = .ok (.iadd, 1) := by decide +kernel
theorem d11_7 : decode jdk_38_method_7_code 7 = .ok (.invokevirtual 69, 3) := by decide +kernel
theorem d11_10 : decode jdk_38_method_7_code 10 = .ok (.areturn, 1) := by decide +kernel
theorem ef_11 (m : MethodId) (x0 : Addr) : entryFrame m #[(.ref x0)] 1 = mkF m 0 #[.val (.ref x0)] [] := by first | (simp [entryFrame, mkF, argsToLocals, Value.category]; done) | rfl
def Q11 (Z : State) (a1 : Addr) (d : Addr) (kd : ClassId) (h0 : Heap) (n0 : Nat) (v : Option Value) (h : Heap) (L : List Loc) : Prop := ∃ b : Addr, v = some (.ref b) ∧ Fr n0 L ∧ Keep h0 h [a1] ∧ h0.size ≤ b ∧ Fld Z h a1 "java/util/ArrayList" "size" "I" (.int (0 : Int32)) ∧ ∃ k : ClassId, Arv Z h b k (.object "java/lang/Object") (10 : Int32) [] .null ∧ Ovr Z k "java/lang/Object"
set_option maxRecDepth 65536 in
set_option maxHeartbeats 40000000 in
theorem rm11 (l : Launch) (Z : State) (a0 : Array Value) (hw : ∀ d ∈ tables_1, d.before a0 Z = true) (ws : List Jvm.Cond) (a1 : Addr) (d : Addr) (kd : ClassId) (h0 : Heap) (n0 : Nat) (ZS : n0 ≤ h0.size) (E_a1 : Exa Z h0 a1 "java/util/ArrayList") (F_elementData_a1 : Fld Z h0 a1 "java/util/ArrayList" "elementData" "[Ljava/lang/Object;" (.ref d)) (F_size_a1 : Fld Z h0 a1 "java/util/ArrayList" "size" "I" (.int (0 : Int32))) (g_a1 : n0 ≤ a1) (SD : Sta Z Z.heap "java/util/ArrayList" "DEFAULTCAPACITY_EMPTY_ELEMENTDATA" "[Ljava/lang/Object;" (.ref d)) (OLD : Old Z n0 h0) (V_d : Arv Z h0 d kd (.object "java/lang/Object") (0 : Int32) [] .null) (ne1 : a1 ≠ d) :
    MetFree l (⟨"java/util/ArrayList", "grow", "()[Ljava/lang/Object;"⟩ : MethodName) (head1 (Jvm.Cond.code (⟨"java/util/ArrayList", "grow", "()[Ljava/lang/Object;"⟩ : MethodName) jdk_38_method_7_code 1 (some (.array (.object "java/lang/Object"))) :: ws) ({ frames := 2, cells := 1, slots := 10, locals := 29 } : Room)) (fun a U => a = #[(.ref a1)] ∧ Z.Warmed39 U.vm ∧ U.heap = h0) (fun _ _ _ _ _ => True) (fun _ U o U' => ∃ v L, o = .returned v ∧ Q11 Z a1 d kd h0 n0 v U'.heap L ∧ FrameEnd U o U' L ({ frames := 2, cells := 1, slots := 10, locals := 29 } : Room).cells ({ frames := 2, cells := 1, slots := 10, locals := 29 } : Room).slots) := by
  refine MetFree.of_bodySF (plainFor_of_name pn_1) hisR ?_
  intro p e s m args below meth c s₁ Bd hml0 hP hK
  obtain ⟨rfl, hZ, hh⟩ := hP
  have hx := Bd.exec
  have hby := Bd.bytes
  have hml : c.maxLocals = 1 := hml0
  have hown : s.vm.findClass "java/util/ArrayList" = some m.cls := findClass_of_methodNamed Bd.named
  have hnm := (name_of_methodNamed Bd.named Bd.method).1
  have hlk : meth.locks = false := Bd.notSynchronized
  have X0 : Stand p l e ({ frames := 2, cells := 1, slots := 10, locals := 29 } : Room) s m #[(.ref a1)] below meth c s₁ [] 0 0 := Stand.of_body Bd
  have e0 : s₁.heap = h0 := by rw [← hh, Bd.state]; rfl
  have NF := Fr.nil n0
  have KP : Keep h0 h0 [a1] := Keep.refl _ _
  refine own_fin (s := s) (Q := Q11 Z a1 d kd h0 n0) (rc := ({ frames := 2, cells := 1, slots := 10, locals := 29 } : Room).cells) (rs := ({ frames := 2, cells := 1, slots := 10, locals := 29 } : Room).slots) ?_
  refine own_go (fun _ kt => castTop (ef_11 m a1) kt) ?_
  show own_R _ _ _ _ (s₁.setTop (mkF m 0 #[.val (.ref a1)] []))
  refine own_go (fun _ kt => XS.aloadN X0.here hx rfl (hb hby d11_0) rfl rfl kt) ?_
  show own_R _ _ _ _ (s₁.setTop (mkF m 1 #[.val (.ref a1)] [(.ref a1)]))
  refine own_go (fun _ kt => XS.aloadN X0.here hx rfl (hb hby d11_1) rfl rfl kt) ?_
  show own_R _ _ _ _ (s₁.setTop (mkF m 2 #[.val (.ref a1)] [(.ref a1), (.ref a1)]))
  obtain ⟨T15, X15, e15, st15⟩ := getF X0 hx hZ hown (host := "") (Or.inl (hw _ (List.mem_of_getElem? (i := 71) rfl))) Via.refl e0 F_size_a1 (g := (mkF m 2 #[.val (.ref a1)] [(.ref a1), (.ref a1)])) rfl rfl (hb hby d11_2)
  refine own_go st15 ?_
  show own_R _ _ _ _ (T15.setTop (mkF m 5 #[.val (.ref a1)] [(.int (0 : Int32)), (.ref a1)]))
  refine own_go (fun _ kt => XS.iconst X15.here hx rfl (hb hby d11_5) kt) ?_
  show own_R _ _ _ _ (T15.setTop (mkF m 6 #[.val (.ref a1)] [(.int (1 : Int32)), (.int (0 : Int32)), (.ref a1)]))
  refine own_go (fun _ kt => XS.iadd X15.here hx rfl (hb hby d11_6) rfl kt) ?_
  show own_R _ _ _ _ (T15.setTop (mkF m 7 #[.val (.ref a1)] [(.int (1 : Int32)), (.ref a1)]))
  obtain ⟨cq16, q16, q16'⟩ := E_a1.cell
  obtain ⟨_, _, ⟨T16, L16, k16, n16⟩, -, X16, ⟨Lc16, hQ16, l16, y16, z16⟩, st16⟩ := X15.privateBack hx (y := (⟨"java/util/ArrayList", "grow", "(I)[Ljava/lang/Object;"⟩ : MethodName)) hown (mvT hZ (hw _ (List.mem_of_getElem? (i := 83) rfl))) (mvT hZ (hw _ (List.mem_of_getElem? (i := 84) rfl))) (mvT hZ (hw _ (List.mem_of_getElem? (i := 86) rfl))) (Cond.privateMethod_at (mvP hZ (hw _ (List.mem_of_getElem? (i := 85) rfl)) (args := #[]))) (mvT hZ (hw _ (List.mem_of_getElem? (i := 87) rfl))) (by decide) (backOf (W := 0) (rm12 l Z a0 hw [] a1 (0 : Int32) d kd h0 n0 ZS E_a1 F_elementData_a1 F_size_a1 g_a1 SD OLD V_d ne1) hZ (hw _ (List.mem_of_getElem? (i := 87) rfl)) (hw _ (List.mem_of_getElem? (i := 2) rfl)) (by decide) (by decide)) (g := (mkF m 7 #[.val (.ref a1)] [(.int (1 : Int32)), (.ref a1)])) rfl (by rw [hml]; rfl) (Steps.refl _) (a := a1) (by rw [e15]; exact q16) q16' (argsL := [(.int (1 : Int32))]) (rest := []) (lenOf pd_2 rfl) rfl (by show 2 * 0 + _ ≤ _; exact Nat.le_of_eq rfl) (hb hby d11_7) (fun _ _ => ⟨rfl, e15, (by decide : 0 + 1 ≤ _), (by decide : 0 + 10 ≤ _)⟩)
  dsimp only [Pt.U, Pt.locs, Pt.cells, Pt.slots] at X16 l16 y16 z16 st16 hQ16
  subst l16 y16 z16
  obtain ⟨h16, e16'⟩ : ∃ z, z = T16.heap := ⟨_, rfl⟩
  rw [← e16'] at hQ16
  have e16 : T16.heap = h16 := e16'.symm
  obtain ⟨c17, rfl, N16q, K16, hbc17, pp1, kc17, Vc17', ovc17⟩ := hQ16
  have NF := Fr.app NF N16q
  refine own_go (fun _ kt => st16.trans kt) ?_
  have ne_a1_c17 : a1 ≠ c17 := Nat.ne_of_lt (Nat.lt_of_lt_of_le E_a1.lt hbc17)
  have ne_d_c17 : d ≠ c17 := Nat.ne_of_lt (Nat.lt_of_lt_of_le V_d.lt hbc17)
  have g_c17 : n0 ≤ c17 := Nat.le_trans ZS hbc17
  have sz_c17 : h0.size ≤ c17 := Nat.le_trans KP.1 hbc17
  have E_a1 := E_a1.keep K16
  have V_d := V_d.keep K16 (ninS (Ne.symm ne1) nin0)
  have OLD := OLD.keep K16 (allS g_a1 all0)
  have ZS := Nat.le_trans ZS K16.1
  have KP := KP.trans K16 (allS (Or.inl (List.mem_of_getElem? (i := 0) rfl)) all0)
  have F_size_a1 := pp1
  have V_c17 := Vc17'
  show own_R _ _ _ _ (T16.setTop (mkF m 10 #[.val (.ref a1)] [(.ref c17)]))
  exact own_retA X16 hx rfl rfl Bd.returns (hb hby d11_10) hlk (by rw [e16]; exact ⟨_, rfl, NF, KP, sz_c17, F_size_a1, _, V_c17, ovc17⟩) (by decide) (by decide)
theorem d10_0 : decode jdk_38_method_24_code 0 = .ok (.iload_n 3, 1) := by decide +kernel
theorem d10_1 : decode jdk_38_method_24_code 1 = .ok (.aload_n 2, 1) := by decide +kernel
theorem d10_2 : decode jdk_38_method_24_code 2 = .ok (.arraylength, 1) := by decide +kernel
theorem d10_3 : decode jdk_38_method_24_code 3 = .ok (.if_icmp .ne 8, 3) := by decide +kernel
theorem d10_6 : decode jdk_38_method_24_code 6 = .ok (.aload_n 0, 1) := by decide +kernel
theorem d10_7 : decode jdk_38_method_24_code 7 = .ok (.invokevirtual 129, 3) := by decide +kernel
theorem d10_10 : decode jdk_38_method_24_code 10 = .ok (.astore_n 2, 1) := by decide +kernel
theorem d10_11 : decode jdk_38_method_24_code 11 = .ok (.aload_n 2, 1) := by decide +kernel
theorem d10_12 : decode jdk_38_method_24_code 12 = .ok (.iload_n 3, 1) := by decide +kernel
theorem d10_13 : decode jdk_38_method_24_code 13 = .ok (.aload_n 1, 1) := by decide +kernel
theorem d10_14 : decode jdk_38_method_24_code 14 = .ok (.aastore, 1) := by decide +kernel
theorem d10_15 : decode jdk_38_method_24_code 15 = .ok (.aload_n 0, 1) := by decide +kernel
theorem d10_16 : decode jdk_38_method_24_code 16 = .ok (.iload_n 3, 1) := by decide +kernel
theorem d10_17 : decode jdk_38_method_24_code 17 = .ok (.iconst 1, 1) := by decide +kernel
theorem d10_18 : decode jdk_38_method_24_code 18 = .ok (.iadd, 1) := by decide +kernel
theorem d10_19 : decode jdk_38_method_24_code 19 = .ok (.putfield 48, 3) := by decide +kernel
theorem d10_22 : decode jdk_38_method_24_code 22 = .ok (.return_, 1) := by decide +kernel
theorem ef_10 (m : MethodId) (x0 : Addr) (x1 : Addr) (x2 : Addr) (x3 : Int32) : entryFrame m #[(.ref x0), (.ref x1), (.ref x2), (.int x3)] 4 = mkF m 0 #[.val (.ref x0), .val (.ref x1), .val (.ref x2), .val (.int x3)] [] := by first | (simp [entryFrame, mkF, argsToLocals, Value.category]; done) | rfl
def Q10 (Z : State) (a1 : Addr) (a2 : Addr) (d : Addr) (kd : ClassId) (h0 : Heap) (n0 : Nat) (v : Option Value) (h : Heap) (L : List Loc) : Prop := v = none ∧ Fr n0 L ∧ Keep h0 h [a1]
set_option maxRecDepth 65536 in
set_option maxHeartbeats 40000000 in
theorem rm10 (l : Launch) (Z : State) (a0 : Array Value) (hw : ∀ d ∈ tables_1, d.before a0 Z = true) (ws : List Jvm.Cond) (a1 : Addr) (a2 : Addr) (d : Addr) (kd : ClassId) (h0 : Heap) (n0 : Nat) (ZS : n0 ≤ h0.size) (E_a1 : Exa Z h0 a1 "java/util/ArrayList") (F_elementData_a1 : Fld Z h0 a1 "java/util/ArrayList" "elementData" "[Ljava/lang/Object;" (.ref d)) (F_size_a1 : Fld Z h0 a1 "java/util/ArrayList" "size" "I" (.int (0 : Int32))) (g_a1 : n0 ≤ a1) (SD : Sta Z Z.heap "java/util/ArrayList" "DEFAULTCAPACITY_EMPTY_ELEMENTDATA" "[Ljava/lang/Object;" (.ref d)) (OLD : Old Z n0 h0) (V_d : Arv Z h0 d kd (.object "java/lang/Object") (0 : Int32) [] .null) (ne1 : a1 ≠ d) (ne2 : a1 ≠ a2) (E_a2 : Exa Z h0 a2 "com/example/austere_nets/austerenets/program/Statement$Exit") :
    MetFree l (⟨"java/util/ArrayList", "add", "(Ljava/lang/Object;[Ljava/lang/Object;I)V"⟩ : MethodName) (head1 (Jvm.Cond.code (⟨"java/util/ArrayList", "add", "(Ljava/lang/Object;[Ljava/lang/Object;I)V"⟩ : MethodName) jdk_38_method_24_code 4 none :: ws) ({ frames := 3, cells := 1, slots := 10, locals := 41 } : Room)) (fun a U => a = #[(.ref a1), (.ref a2), (.ref d), (.int (0 : Int32))] ∧ Z.Warmed39 U.vm ∧ U.heap = h0) (fun _ _ _ _ _ => True) (fun _ U o U' => ∃ v L, o = .returned v ∧ Q10 Z a1 a2 d kd h0 n0 v U'.heap L ∧ FrameEnd U o U' L ({ frames := 3, cells := 1, slots := 10, locals := 41 } : Room).cells ({ frames := 3, cells := 1, slots := 10, locals := 41 } : Room).slots) := by
  refine MetFree.of_bodySF (plainFor_of_name pn_1) hisR ?_
  intro p e s m args below meth c s₁ Bd hml0 hP hK
  obtain ⟨rfl, hZ, hh⟩ := hP
  have hx := Bd.exec
  have hby := Bd.bytes
  have hml : c.maxLocals = 4 := hml0
  have hown : s.vm.findClass "java/util/ArrayList" = some m.cls := findClass_of_methodNamed Bd.named
  have hnm := (name_of_methodNamed Bd.named Bd.method).1
  have hlk : meth.locks = false := Bd.notSynchronized
  have X0 : Stand p l e ({ frames := 3, cells := 1, slots := 10, locals := 41 } : Room) s m #[(.ref a1), (.ref a2), (.ref d), (.int (0 : Int32))] below meth c s₁ [] 0 0 := Stand.of_body Bd
  have e0 : s₁.heap = h0 := by rw [← hh, Bd.state]; rfl
  have NF := Fr.nil n0
  have KP : Keep h0 h0 [a1] := Keep.refl _ _
  refine own_fin (s := s) (Q := Q10 Z a1 a2 d kd h0 n0) (rc := ({ frames := 3, cells := 1, slots := 10, locals := 41 } : Room).cells) (rs := ({ frames := 3, cells := 1, slots := 10, locals := 41 } : Room).slots) ?_
  refine own_go (fun _ kt => castTop (ef_10 m a1 a2 d (0 : Int32)) kt) ?_
  show own_R _ _ _ _ (s₁.setTop (mkF m 0 #[.val (.ref a1), .val (.ref a2), .val (.ref d), .val (.int (0 : Int32))] []))
  refine own_go (fun _ kt => XS.iloadN X0.here hx rfl (hb hby d10_0) rfl kt) ?_
  show own_R _ _ _ _ (s₁.setTop (mkF m 1 #[.val (.ref a1), .val (.ref a2), .val (.ref d), .val (.int (0 : Int32))] [(.int (0 : Int32))]))
  refine own_go (fun _ kt => XS.aloadN X0.here hx rfl (hb hby d10_1) rfl rfl kt) ?_
  show own_R _ _ _ _ (s₁.setTop (mkF m 2 #[.val (.ref a1), .val (.ref a2), .val (.ref d), .val (.int (0 : Int32))] [(.ref d), (.int (0 : Int32))]))
  refine own_go (own_len X0 hx hZ e0 V_d (g := (mkF m 2 #[.val (.ref a1), .val (.ref a2), .val (.ref d), .val (.int (0 : Int32))] [(.ref d), (.int (0 : Int32))])) rfl rfl (hb hby d10_2)) ?_
  show own_R _ _ _ _ (s₁.setTop (mkF m 3 #[.val (.ref a1), .val (.ref a2), .val (.ref d), .val (.int (0 : Int32))] [(.int (0 : Int32)), (.int (0 : Int32))]))
  refine own_go (fun _ kt => XS.icmpNo X0.here hx rfl (hb hby d10_3) rfl (teq (by decide : (0 : Int32) = (0 : Int32))).2 kt) ?_
  show own_R _ _ _ _ (s₁.setTop (mkF m 6 #[.val (.ref a1), .val (.ref a2), .val (.ref d), .val (.int (0 : Int32))] []))
  refine own_go (fun _ kt => XS.aloadN X0.here hx rfl (hb hby d10_6) rfl rfl kt) ?_
  show own_R _ _ _ _ (s₁.setTop (mkF m 7 #[.val (.ref a1), .val (.ref a2), .val (.ref d), .val (.int (0 : Int32))] [(.ref a1)]))
  obtain ⟨cq17, q17, q17'⟩ := E_a1.cell
  obtain ⟨_, _, ⟨T17, L17, k17, n17⟩, -, X17, ⟨Lc17, hQ17, l17, y17, z17⟩, st17⟩ := X0.privateBack hx (y := (⟨"java/util/ArrayList", "grow", "()[Ljava/lang/Object;"⟩ : MethodName)) hown (mvT hZ (hw _ (List.mem_of_getElem? (i := 78) rfl))) (mvT hZ (hw _ (List.mem_of_getElem? (i := 79) rfl))) (mvT hZ (hw _ (List.mem_of_getElem? (i := 81) rfl))) (Cond.privateMethod_at (mvP hZ (hw _ (List.mem_of_getElem? (i := 80) rfl)) (args := #[]))) (mvT hZ (hw _ (List.mem_of_getElem? (i := 82) rfl))) (by decide) (backOf (W := 0) (rm11 l Z a0 hw [] a1 d kd h0 n0 ZS E_a1 F_elementData_a1 F_size_a1 g_a1 SD OLD V_d ne1) hZ (hw _ (List.mem_of_getElem? (i := 82) rfl)) (hw _ (List.mem_of_getElem? (i := 2) rfl)) (by decide) (by decide)) (g := (mkF m 7 #[.val (.ref a1), .val (.ref a2), .val (.ref d), .val (.int (0 : Int32))] [(.ref a1)])) rfl (by rw [hml]; rfl) (Steps.refl _) (a := a1) (by rw [e0]; exact q17) q17' (argsL := []) (rest := []) (lenOf pd_3 rfl) rfl (by show 2 * 0 + _ ≤ _; exact Nat.le_of_eq rfl) (hb hby d10_7) (fun _ _ => ⟨rfl, e0, (by decide : 0 + 1 ≤ _), (by decide : 0 + 10 ≤ _)⟩)
  dsimp only [Pt.U, Pt.locs, Pt.cells, Pt.slots] at X17 l17 y17 z17 st17 hQ17
  subst l17 y17 z17
  obtain ⟨h17, e17'⟩ : ∃ z, z = T17.heap := ⟨_, rfl⟩
  rw [← e17'] at hQ17
  have e17 : T17.heap = h17 := e17'.symm
  obtain ⟨c18, rfl, N17q, K17, hbc18, pp1, kc18, Vc18', ovc18⟩ := hQ17
  have NF := Fr.app NF N17q
  refine own_go (fun _ kt => st17.trans kt) ?_
  have ne_a1_c18 : a1 ≠ c18 := Nat.ne_of_lt (Nat.lt_of_lt_of_le E_a1.lt hbc18)
  have ne_d_c18 : d ≠ c18 := Nat.ne_of_lt (Nat.lt_of_lt_of_le V_d.lt hbc18)
  have ne_a2_c18 : a2 ≠ c18 := Nat.ne_of_lt (Nat.lt_of_lt_of_le E_a2.lt hbc18)
  have g_c18 : n0 ≤ c18 := Nat.le_trans ZS hbc18
  have sz_c18 : h0.size ≤ c18 := Nat.le_trans KP.1 hbc18
  have E_a1 := E_a1.keep K17
  have V_d := V_d.keep K17 (ninS (Ne.symm ne1) nin0)
  have OLD := OLD.keep K17 (allS g_a1 all0)
  have E_a2 := E_a2.keep K17
  have ZS := Nat.le_trans ZS K17.1
  have KP := KP.trans K17 (allS (Or.inl (List.mem_of_getElem? (i := 0) rfl)) all0)
  have F_size_a1 := pp1
  have V_c18 := Vc18'
  show own_R _ _ _ _ (T17.setTop (mkF m 10 #[.val (.ref a1), .val (.ref a2), .val (.ref d), .val (.int (0 : Int32))] [(.ref c18)]))
  refine own_go (fun _ kt => XS.astoreN X17.here hx rfl (hb hby d10_10) rfl rfl (l' := #[.val (.ref a1), .val (.ref a2), .val (.ref c18), .val (.int (0 : Int32))]) rfl kt) ?_
  show own_R _ _ _ _ (T17.setTop (mkF m 11 #[.val (.ref a1), .val (.ref a2), .val (.ref c18), .val (.int (0 : Int32))] []))
  refine own_go (fun _ kt => XS.aloadN X17.here hx rfl (hb hby d10_11) rfl rfl kt) ?_
  show own_R _ _ _ _ (T17.setTop (mkF m 12 #[.val (.ref a1), .val (.ref a2), .val (.ref c18), .val (.int (0 : Int32))] [(.ref c18)]))
  refine own_go (fun _ kt => XS.iloadN X17.here hx rfl (hb hby d10_12) rfl kt) ?_
  show own_R _ _ _ _ (T17.setTop (mkF m 13 #[.val (.ref a1), .val (.ref a2), .val (.ref c18), .val (.int (0 : Int32))] [(.int (0 : Int32)), (.ref c18)]))
  refine own_go (fun _ kt => XS.aloadN X17.here hx rfl (hb hby d10_13) rfl rfl kt) ?_
  show own_R _ _ _ _ (T17.setTop (mkF m 14 #[.val (.ref a1), .val (.ref a2), .val (.ref c18), .val (.int (0 : Int32))] [(.ref a2), (.int (0 : Int32)), (.ref c18)]))
  obtain ⟨cl18, Ar18, q18, S18, N18, -, -⟩ := V_c18
  obtain ⟨T18, h18, X18, e18, W18, st18⟩ := stR X17 hx hZ e17 Ar18 (j := (0 : Int32)) (inb_of S18 ⟨by decide, by decide⟩) rfl (Sto.ofV Ar18 q18 ovc18 (Ins.of_exa E_a2 (hw _ (List.mem_of_getElem? (i := 94) rfl)))) (g := (mkF m 14 #[.val (.ref a1), .val (.ref a2), .val (.ref c18), .val (.int (0 : Int32))] [(.ref a2), (.int (0 : Int32)), (.ref c18)])) rfl rfl (hb hby d10_14)
  refine own_go st18 ?_
  have E_a1 := E_a1.wr W18
  have V_d := V_d.other W18 ne_d_c18
  have OLD := OLD.wr W18 g_c18
  have E_a2 := E_a2.wr W18
  have F_size_a1 := F_size_a1.other W18 (Or.inl ne_a1_c18)
  have ZS := Nat.le_trans ZS (Keep.of_wr W18).1
  have KP := KP.wr W18 (Or.inr sz_c18)
  have NF := Fr.snoc X18 NF g_c18
  show own_R _ _ _ _ (T18.setTop (mkF m 15 #[.val (.ref a1), .val (.ref a2), .val (.ref c18), .val (.int (0 : Int32))] []))
  refine own_go (fun _ kt => XS.aloadN X18.here hx rfl (hb hby d10_15) rfl rfl kt) ?_
  show own_R _ _ _ _ (T18.setTop (mkF m 16 #[.val (.ref a1), .val (.ref a2), .val (.ref c18), .val (.int (0 : Int32))] [(.ref a1)]))
  refine own_go (fun _ kt => XS.iloadN X18.here hx rfl (hb hby d10_16) rfl kt) ?_
  show own_R _ _ _ _ (T18.setTop (mkF m 17 #[.val (.ref a1), .val (.ref a2), .val (.ref c18), .val (.int (0 : Int32))] [(.int (0 : Int32)), (.ref a1)]))
  refine own_go (fun _ kt => XS.iconst X18.here hx rfl (hb hby d10_17) kt) ?_
  show own_R _ _ _ _ (T18.setTop (mkF m 18 #[.val (.ref a1), .val (.ref a2), .val (.ref c18), .val (.int (0 : Int32))] [(.int (1 : Int32)), (.int (0 : Int32)), (.ref a1)]))
  refine own_go (fun _ kt => XS.iadd X18.here hx rfl (hb hby d10_18) rfl kt) ?_
  show own_R _ _ _ _ (T18.setTop (mkF m 19 #[.val (.ref a1), .val (.ref a2), .val (.ref c18), .val (.int (0 : Int32))] [(.int (1 : Int32)), (.ref a1)]))
  obtain ⟨T19, h19, X19, e19, W19, st19⟩ := putF X18 hx hZ hown (host := "") (Or.inl (hw _ (List.mem_of_getElem? (i := 71) rfl))) Via.refl e18 F_size_a1 E_a1 (Or.inl (hw _ (List.mem_of_getElem? (i := 72) rfl))) (hw _ (List.mem_of_getElem? (i := 1) rfl)) (ty := .int) (by decide) rfl rfl (g := (mkF m 19 #[.val (.ref a1), .val (.ref a2), .val (.ref c18), .val (.int (0 : Int32))] [(.int (1 : Int32)), (.ref a1)])) rfl rfl (hb hby d10_19)
  refine own_go st19 ?_
  have E_a1 := E_a1.wr W19
  have V_d := V_d.other W19 (Ne.symm ne1)
  have OLD := OLD.wr W19 g_a1
  have E_a2 := E_a2.wr W19
  have F_size_a1 := F_size_a1.same W19
  have ZS := Nat.le_trans ZS (Keep.of_wr W19).1
  have KP := KP.wr W19 (Or.inl (List.mem_of_getElem? (i := 0) rfl))
  have NF := Fr.snoc X19 NF g_a1
  show own_R _ _ _ _ (T19.setTop (mkF m 22 #[.val (.ref a1), .val (.ref a2), .val (.ref c18), .val (.int (0 : Int32))] []))
  exact own_ret0 X19 hx Bd.returns (hb hby d10_22) hlk (by rw [e19]; exact ⟨rfl, NF, KP⟩) (by decide) (by decide)
theorem d9_0 : decode jdk_38_method_25_code 0 = .ok (.aload_n 0, 1) := by decide +kernel
theorem d9_1 : decode jdk_38_method_25_code 1 = .ok (.dup, 1) := by decide +kernel
theorem d9_2 : decode jdk_38_method_25_code 2 = .ok (.getfield 63, 3) := by decide +kernel
theorem d9_5 : decode jdk_38_method_25_code 5 = .ok (.iconst 1, 1) := by decide +kernel
theorem d9_6 : decode jdk_38_method_25_code 6 = .ok (.iadd, 1) := by decide +kernel
theorem d9_7 : decode jdk_38_method_25_code 7 = .ok (.putfield 63, 3) := by decide +kernel
theorem d9_10 : decode jdk_38_method_25_code 10 = .ok (.aload_n 0, 1) := by decide +kernel
theorem d9_11 : decode jdk_38_method_25_code 11 = .ok (.aload_n 1, 1) := by decide +kernel
theorem d9_12 : decode jdk_38_method_25_code 12 = .ok (.aload_n 0, 1) := by decide +kernel
theorem d9_13 : decode jdk_38_method_25_code 13 = .ok (.getfield 9, 3) := by decide +kernel
theorem d9_16 : decode jdk_38_method_25_code 16 = .ok (.aload_n 0, 1) := by decide +kernel
theorem d9_17 : decode jdk_38_method_25_code 17 = .ok (.getfield 48, 3) := by decide +kernel
theorem d9_20 : decode jdk_38_method_25_code 20 = .ok (.invokevirtual 131, 3) := by decide +kernel
theorem d9_23 : decode jdk_38_method_25_code 23 = .ok (.iconst 1, 1) := by decide +kernel
theorem d9_24 : decode jdk_38_method_25_code 24 = .ok (.ireturn, 1) := by decide +kernel
theorem ef_9 (m : MethodId) (x0 : Addr) (x1 : Addr) : entryFrame m #[(.ref x0), (.ref x1)] 2 = mkF m 0 #[.val (.ref x0), .val (.ref x1)] [] := by first | (simp [entryFrame, mkF, argsToLocals, Value.category]; done) | rfl
def Q9 (Z : State) (a1 : Addr) (a2 : Addr) (w1 : Int32) (d : Addr) (kd : ClassId) (h0 : Heap) (n0 : Nat) (v : Option Value) (h : Heap) (L : List Loc) : Prop := v = some (.int 1) ∧ Fr n0 L ∧ Keep h0 h [a1]
set_option maxRecDepth 65536 in
set_option maxHeartbeats 40000000 in
theorem rm9 (l : Launch) (Z : State) (a0 : Array Value) (hw : ∀ d ∈ tables_1, d.before a0 Z = true) (ws : List Jvm.Cond) (a1 : Addr) (a2 : Addr) (w1 : Int32) (d : Addr) (kd : ClassId) (h0 : Heap) (n0 : Nat) (ZS : n0 ≤ h0.size) (E_a1 : Exa Z h0 a1 "java/util/ArrayList") (F_modCount_a1 : Fld Z h0 a1 "java/util/AbstractList" "modCount" "I" (.int w1)) (F_elementData_a1 : Fld Z h0 a1 "java/util/ArrayList" "elementData" "[Ljava/lang/Object;" (.ref d)) (F_size_a1 : Fld Z h0 a1 "java/util/ArrayList" "size" "I" (.int (0 : Int32))) (g_a1 : n0 ≤ a1) (SD : Sta Z Z.heap "java/util/ArrayList" "DEFAULTCAPACITY_EMPTY_ELEMENTDATA" "[Ljava/lang/Object;" (.ref d)) (OLD : Old Z n0 h0) (V_d : Arv Z h0 d kd (.object "java/lang/Object") (0 : Int32) [] .null) (ne1 : a1 ≠ d) (ne2 : a1 ≠ a2) (E_a2 : Exa Z h0 a2 "com/example/austere_nets/austerenets/program/Statement$Exit") :
    MetFree l (⟨"java/util/ArrayList", "add", "(Ljava/lang/Object;)Z"⟩ : MethodName) (head1 (Jvm.Cond.code (⟨"java/util/ArrayList", "add", "(Ljava/lang/Object;)Z"⟩ : MethodName) jdk_38_method_25_code 2 (some .boolean) :: ws) ({ frames := 4, cells := 1, slots := 10, locals := 56 } : Room)) (fun a U => a = #[(.ref a1), (.ref a2)] ∧ Z.Warmed39 U.vm ∧ U.heap = h0) (fun _ _ _ _ _ => True) (fun _ U o U' => ∃ v L, o = .returned v ∧ Q9 Z a1 a2 w1 d kd h0 n0 v U'.heap L ∧ FrameEnd U o U' L ({ frames := 4, cells := 1, slots := 10, locals := 56 } : Room).cells ({ frames := 4, cells := 1, slots := 10, locals := 56 } : Room).slots) := by
  refine MetFree.of_bodySF (plainFor_of_name pn_1) hisR ?_
  intro p e s m args below meth c s₁ Bd hml0 hP hK
  obtain ⟨rfl, hZ, hh⟩ := hP
  have hx := Bd.exec
  have hby := Bd.bytes
  have hml : c.maxLocals = 2 := hml0
  have hown : s.vm.findClass "java/util/ArrayList" = some m.cls := findClass_of_methodNamed Bd.named
  have hnm := (name_of_methodNamed Bd.named Bd.method).1
  have hlk : meth.locks = false := Bd.notSynchronized
  have X0 : Stand p l e ({ frames := 4, cells := 1, slots := 10, locals := 56 } : Room) s m #[(.ref a1), (.ref a2)] below meth c s₁ [] 0 0 := Stand.of_body Bd
  have e0 : s₁.heap = h0 := by rw [← hh, Bd.state]; rfl
  have NF := Fr.nil n0
  have KP : Keep h0 h0 [a1] := Keep.refl _ _
  refine own_fin (s := s) (Q := Q9 Z a1 a2 w1 d kd h0 n0) (rc := ({ frames := 4, cells := 1, slots := 10, locals := 56 } : Room).cells) (rs := ({ frames := 4, cells := 1, slots := 10, locals := 56 } : Room).slots) ?_
  refine own_go (fun _ kt => castTop (ef_9 m a1 a2) kt) ?_
  show own_R _ _ _ _ (s₁.setTop (mkF m 0 #[.val (.ref a1), .val (.ref a2)] []))
  refine own_go (fun _ kt => XS.aloadN X0.here hx rfl (hb hby d9_0) rfl rfl kt) ?_
  show own_R _ _ _ _ (s₁.setTop (mkF m 1 #[.val (.ref a1), .val (.ref a2)] [(.ref a1)]))
  refine own_go (fun _ kt => XS.dup X0.here hx rfl (hb hby d9_1) rfl rfl kt) ?_
  show own_R _ _ _ _ (s₁.setTop (mkF m 2 #[.val (.ref a1), .val (.ref a2)] [(.ref a1), (.ref a1)]))
  obtain ⟨T20, X20, e20, st20⟩ := getF X0 hx hZ hown (host := "") (Or.inl (hw _ (List.mem_of_getElem? (i := 69) rfl))) (Via.of (hw _ (List.mem_of_getElem? (i := 70) rfl))) e0 F_modCount_a1 (g := (mkF m 2 #[.val (.ref a1), .val (.ref a2)] [(.ref a1), (.ref a1)])) rfl rfl (hb hby d9_2)
  refine own_go st20 ?_
  show own_R _ _ _ _ (T20.setTop (mkF m 5 #[.val (.ref a1), .val (.ref a2)] [(.int w1), (.ref a1)]))
  refine own_go (fun _ kt => XS.iconst X20.here hx rfl (hb hby d9_5) kt) ?_
  show own_R _ _ _ _ (T20.setTop (mkF m 6 #[.val (.ref a1), .val (.ref a2)] [(.int (1 : Int32)), (.int w1), (.ref a1)]))
  refine own_go (fun _ kt => XS.iadd X20.here hx rfl (hb hby d9_6) rfl kt) ?_
  show own_R _ _ _ _ (T20.setTop (mkF m 7 #[.val (.ref a1), .val (.ref a2)] [(.int (w1 + (1 : Int32))), (.ref a1)]))
  obtain ⟨T21, h21, X21, e21, W21, st21⟩ := putF X20 hx hZ hown (host := "") (Or.inl (hw _ (List.mem_of_getElem? (i := 69) rfl))) (Via.of (hw _ (List.mem_of_getElem? (i := 70) rfl))) e20 F_modCount_a1 E_a1 (Or.inl (hw _ (List.mem_of_getElem? (i := 22) rfl))) (hw _ (List.mem_of_getElem? (i := 1) rfl)) (ty := .int) (by decide) rfl rfl (g := (mkF m 7 #[.val (.ref a1), .val (.ref a2)] [(.int (w1 + (1 : Int32))), (.ref a1)])) rfl rfl (hb hby d9_7)
  refine own_go st21 ?_
  have E_a1 := E_a1.wr W21
  have F_modCount_a1 := F_modCount_a1.same W21
  have F_elementData_a1 := F_elementData_a1.other W21 (Or.inr (slot_ne (Or.inl (hw _ (List.mem_of_getElem? (i := 25) rfl))) (Or.inl (hw _ (List.mem_of_getElem? (i := 22) rfl))) (by decide) (t := (.array (.object "java/lang/Object"))) (t' := .int) (by decide) (by decide)))
  have F_size_a1 := F_size_a1.other W21 (Or.inr (slot_ne (Or.inl (hw _ (List.mem_of_getElem? (i := 72) rfl))) (Or.inl (hw _ (List.mem_of_getElem? (i := 22) rfl))) (by decide) (t := .int) (t' := .int) (by decide) (by decide)))
  have V_d := V_d.other W21 (Ne.symm ne1)
  have OLD := OLD.wr W21 g_a1
  have E_a2 := E_a2.wr W21
  have ZS := Nat.le_trans ZS (Keep.of_wr W21).1
  have KP := KP.wr W21 (Or.inl (List.mem_of_getElem? (i := 0) rfl))
  have NF := Fr.snoc X21 NF g_a1
  show own_R _ _ _ _ (T21.setTop (mkF m 10 #[.val (.ref a1), .val (.ref a2)] []))
  refine own_go (fun _ kt => XS.aloadN X21.here hx rfl (hb hby d9_10) rfl rfl kt) ?_
  show own_R _ _ _ _ (T21.setTop (mkF m 11 #[.val (.ref a1), .val (.ref a2)] [(.ref a1)]))
  refine own_go (fun _ kt => XS.aloadN X21.here hx rfl (hb hby d9_11) rfl rfl kt) ?_
  show own_R _ _ _ _ (T21.setTop (mkF m 12 #[.val (.ref a1), .val (.ref a2)] [(.ref a2), (.ref a1)]))
  refine own_go (fun _ kt => XS.aloadN X21.here hx rfl (hb hby d9_12) rfl rfl kt) ?_
  show own_R _ _ _ _ (T21.setTop (mkF m 13 #[.val (.ref a1), .val (.ref a2)] [(.ref a1), (.ref a2), (.ref a1)]))
  obtain ⟨T22, X22, e22, st22⟩ := getF X21 hx hZ hown (host := "") (Or.inl (hw _ (List.mem_of_getElem? (i := 24) rfl))) Via.refl e21 F_elementData_a1 (g := (mkF m 13 #[.val (.ref a1), .val (.ref a2)] [(.ref a1), (.ref a2), (.ref a1)])) rfl rfl (hb hby d9_13)
  refine own_go st22 ?_
  show own_R _ _ _ _ (T22.setTop (mkF m 16 #[.val (.ref a1), .val (.ref a2)] [(.ref d), (.ref a2), (.ref a1)]))
  refine own_go (fun _ kt => XS.aloadN X22.here hx rfl (hb hby d9_16) rfl rfl kt) ?_
  show own_R _ _ _ _ (T22.setTop (mkF m 17 #[.val (.ref a1), .val (.ref a2)] [(.ref a1), (.ref d), (.ref a2), (.ref a1)]))
  obtain ⟨T23, X23, e23, st23⟩ := getF X22 hx hZ hown (host := "") (Or.inl (hw _ (List.mem_of_getElem? (i := 71) rfl))) Via.refl e22 F_size_a1 (g := (mkF m 17 #[.val (.ref a1), .val (.ref a2)] [(.ref a1), (.ref d), (.ref a2), (.ref a1)])) rfl rfl (hb hby d9_17)
  refine own_go st23 ?_
  show own_R _ _ _ _ (T23.setTop (mkF m 20 #[.val (.ref a1), .val (.ref a2)] [(.int (0 : Int32)), (.ref d), (.ref a2), (.ref a1)]))
  obtain ⟨cq24, q24, q24'⟩ := E_a1.cell
  obtain ⟨_, _, ⟨T24, L24, k24, n24⟩, -, X24, ⟨Lc24, hQ24, l24, y24, z24⟩, st24⟩ := X23.privateBack hx (y := (⟨"java/util/ArrayList", "add", "(Ljava/lang/Object;[Ljava/lang/Object;I)V"⟩ : MethodName)) hown (mvT hZ (hw _ (List.mem_of_getElem? (i := 73) rfl))) (mvT hZ (hw _ (List.mem_of_getElem? (i := 74) rfl))) (mvT hZ (hw _ (List.mem_of_getElem? (i := 76) rfl))) (Cond.privateMethod_at (mvP hZ (hw _ (List.mem_of_getElem? (i := 75) rfl)) (args := #[]))) (mvT hZ (hw _ (List.mem_of_getElem? (i := 77) rfl))) (by decide) (backOf (W := 0) (rm10 l Z a0 hw [] a1 a2 d kd h21 n0 ZS E_a1 F_elementData_a1 F_size_a1 g_a1 SD OLD V_d ne1 ne2 E_a2) hZ (hw _ (List.mem_of_getElem? (i := 77) rfl)) (hw _ (List.mem_of_getElem? (i := 2) rfl)) (by decide) (by decide)) (g := (mkF m 20 #[.val (.ref a1), .val (.ref a2)] [(.int (0 : Int32)), (.ref d), (.ref a2), (.ref a1)])) rfl (by rw [hml]; rfl) (Steps.refl _) (a := a1) (by rw [e23]; exact q24) q24' (argsL := [(.ref a2), (.ref d), (.int (0 : Int32))]) (rest := []) (lenOf pd_4 rfl) rfl (by show 2 * 0 + _ ≤ _; exact Nat.le_of_eq rfl) (hb hby d9_20) (fun _ _ => ⟨rfl, e23, (by decide : 0 + 1 ≤ _), (by decide : 0 + 10 ≤ _)⟩)
  dsimp only [Pt.U, Pt.locs, Pt.cells, Pt.slots] at X24 l24 y24 z24 st24 hQ24
  subst l24 y24 z24
  obtain ⟨h24, e24'⟩ : ∃ z, z = T24.heap := ⟨_, rfl⟩
  rw [← e24'] at hQ24
  have e24 : T24.heap = h24 := e24'.symm
  obtain ⟨rfl, N24q, K24⟩ := hQ24
  have NF := Fr.app NF N24q
  refine own_go (fun _ kt => st24.trans kt) ?_
  have E_a1 := E_a1.keep K24
  have V_d := V_d.keep K24 (ninS (Ne.symm ne1) nin0)
  have OLD := OLD.keep K24 (allS g_a1 all0)
  have E_a2 := E_a2.keep K24
  have ZS := Nat.le_trans ZS K24.1
  have KP := KP.trans K24 (allS (Or.inl (List.mem_of_getElem? (i := 0) rfl)) all0)
  show own_R _ _ _ _ (T24.setTop (mkF m 23 #[.val (.ref a1), .val (.ref a2)] []))
  refine own_go (fun _ kt => XS.iconst X24.here hx rfl (hb hby d9_23) kt) ?_
  show own_R _ _ _ _ (T24.setTop (mkF m 24 #[.val (.ref a1), .val (.ref a2)] [(.int (1 : Int32))]))
  exact own_retN X24 hx (t := .boolean) (by simp) Bd.returns (hb hby d9_24) hlk (by rw [e24]; exact ⟨rfl, NF, KP⟩) (by decide) (by decide)
theorem d8_0 : decode prog_71_method_1_code 0 = .ok (.aload_n 0, 1) := by decide +kernel
theorem d8_1 : decode prog_71_method_1_code 1 = .ok (.invokespecial 1, 3) := by decide +kernel
theorem d8_4 : decode prog_71_method_1_code 4 = .ok (.aload_n 0, 1) := by decide +kernel
theorem d8_5 : decode prog_71_method_1_code 5 = .ok (.iload_n 1, 1) := by decide +kernel
theorem d8_6 : decode prog_71_method_1_code 6 = .ok (.putfield 7, 3) := by decide +kernel
theorem d8_9 : decode prog_71_method_1_code 9 = .ok (.aload_n 0, 1) := by decide +kernel
theorem d8_10 : decode prog_71_method_1_code 10 = .ok (.iload_n 2, 1) := by decide +kernel
theorem d8_11 : decode prog_71_method_1_code 11 = .ok (.putfield 13, 3) := by decide +kernel
theorem d8_14 : decode prog_71_method_1_code 14 = .ok (.return_, 1) := by decide +kernel
theorem pn_8 : plainName "com/example/austere_nets/austerenets/program/Statement$Exit" = true := by first | (simp [plainName, overriddenIn]; done) | decide +kernel
theorem ef_8 (m : MethodId) (x0 : Addr) (x1 : Int32) (x2 : Int32) : entryFrame m #[(.ref x0), (.int x1), (.int x2)] 3 = mkF m 0 #[.val (.ref x0), .val (.int x1), .val (.int x2)] [] := by first | (simp [entryFrame, mkF, argsToLocals, Value.category]; done) | rfl
def Q8 (Z : State) (a1 : Addr) (p2 : Int32) (p3 : Int32) (u_conditional : Value) (u_line : Value) (h0 : Heap) (n0 : Nat) (v : Option Value) (h : Heap) (L : List Loc) : Prop := v = none ∧ Fr n0 L ∧ Keep h0 h [a1]
set_option maxRecDepth 65536 in
set_option maxHeartbeats 40000000 in
theorem rm8 (l : Launch) (Z : State) (a0 : Array Value) (hw : ∀ d ∈ tables_1, d.before a0 Z = true) (ws : List Jvm.Cond) (a1 : Addr) (p2 : Int32) (p3 : Int32) (u_conditional : Value) (u_line : Value) (h0 : Heap) (n0 : Nat) (ZS : n0 ≤ h0.size) (E_a1 : Exa Z h0 a1 "com/example/austere_nets/austerenets/program/Statement$Exit") (F_conditional_a1 : Fld Z h0 a1 "com/example/austere_nets/austerenets/program/Statement$Exit" "conditional" "Z" u_conditional) (F_line_a1 : Fld Z h0 a1 "com/example/austere_nets/austerenets/program/Statement$Exit" "line" "I" u_line) (g_a1 : n0 ≤ a1) :
    MetFree l (⟨"com/example/austere_nets/austerenets/program/Statement$Exit", "<init>", "(ZI)V"⟩ : MethodName) (head1 (Jvm.Cond.code (⟨"com/example/austere_nets/austerenets/program/Statement$Exit", "<init>", "(ZI)V"⟩ : MethodName) prog_71_method_1_code 3 none :: ws) ({ frames := 2, cells := 0, slots := 0, locals := 24 } : Room)) (fun a U => a = #[(.ref a1), (.int p2), (.int p3)] ∧ Z.Warmed39 U.vm ∧ U.heap = h0) (fun _ _ _ _ _ => True) (fun _ U o U' => ∃ v L, o = .returned v ∧ Q8 Z a1 p2 p3 u_conditional u_line h0 n0 v U'.heap L ∧ FrameEnd U o U' L ({ frames := 2, cells := 0, slots := 0, locals := 24 } : Room).cells ({ frames := 2, cells := 0, slots := 0, locals := 24 } : Room).slots) := by
  refine MetFree.of_bodySF (plainFor_of_name pn_8) hisR ?_
  intro p e s m args below meth c s₁ Bd hml0 hP hK
  obtain ⟨rfl, hZ, hh⟩ := hP
  have hx := Bd.exec
  have hby := Bd.bytes
  have hml : c.maxLocals = 3 := hml0
  have hown : s.vm.findClass "com/example/austere_nets/austerenets/program/Statement$Exit" = some m.cls := findClass_of_methodNamed Bd.named
  have hnm := (name_of_methodNamed Bd.named Bd.method).1
  have hlk : meth.locks = false := Bd.notSynchronized
  have X0 : Stand p l e ({ frames := 2, cells := 0, slots := 0, locals := 24 } : Room) s m #[(.ref a1), (.int p2), (.int p3)] below meth c s₁ [] 0 0 := Stand.of_body Bd
  have e0 : s₁.heap = h0 := by rw [← hh, Bd.state]; rfl
  have NF := Fr.nil n0
  have KP : Keep h0 h0 [a1] := Keep.refl _ _
  refine own_fin (s := s) (Q := Q8 Z a1 p2 p3 u_conditional u_line h0 n0) (rc := ({ frames := 2, cells := 0, slots := 0, locals := 24 } : Room).cells) (rs := ({ frames := 2, cells := 0, slots := 0, locals := 24 } : Room).slots) ?_
  refine own_go (fun _ kt => castTop (ef_8 m a1 p2 p3) kt) ?_
  show own_R _ _ _ _ (s₁.setTop (mkF m 0 #[.val (.ref a1), .val (.int p2), .val (.int p3)] []))
  refine own_go (fun _ kt => XS.aloadN X0.here hx rfl (hb hby d8_0) rfl rfl kt) ?_
  show own_R _ _ _ _ (s₁.setTop (mkF m 1 #[.val (.ref a1), .val (.int p2), .val (.int p3)] [(.ref a1)]))
  obtain ⟨_, _, ⟨T25, L25, k25, n25⟩, -, X25, ⟨Lc25, hQ25, l25, y25, z25⟩, st25⟩ := X0.specialBack hx (y := (⟨"java/lang/Record", "<init>", "()V"⟩ : MethodName)) rfl hown (mvT hZ (hw _ (List.mem_of_getElem? (i := 59) rfl))) (mvT hZ (hw _ (List.mem_of_getElem? (i := 33) rfl))) (mvT hZ (hw _ (List.mem_of_getElem? (i := 36) rfl))) (by decide) (backOf (W := 0) (rm6 l Z a0 hw [] a1 h0 n0 ZS) hZ (hw _ (List.mem_of_getElem? (i := 36) rfl)) (hw _ (List.mem_of_getElem? (i := 35) rfl)) (by decide) (by decide)) (g := (mkF m 1 #[.val (.ref a1), .val (.int p2), .val (.int p3)] [(.ref a1)])) rfl (by rw [hml]; rfl) (Steps.refl _) (a := a1) (argsL := []) (rest := []) (lenOf pd_0 rfl) rfl (by show 2 * 0 + _ ≤ _; exact Nat.le_of_eq rfl) (hb hby d8_1) (fun _ _ => ⟨rfl, e0, (by decide : 0 + 0 ≤ _), (by decide : 0 + 0 ≤ _)⟩)
  dsimp only [Pt.U, Pt.locs, Pt.cells, Pt.slots] at X25 l25 y25 z25 st25 hQ25
  subst l25 y25 z25
  obtain ⟨rfl, N25q, e25⟩ := hQ25
  have NF := Fr.app NF N25q
  refine own_go (fun _ kt => st25.trans kt) ?_
  show own_R _ _ _ _ (T25.setTop (mkF m 4 #[.val (.ref a1), .val (.int p2), .val (.int p3)] []))
  refine own_go (fun _ kt => XS.aloadN X25.here hx rfl (hb hby d8_4) rfl rfl kt) ?_
  show own_R _ _ _ _ (T25.setTop (mkF m 5 #[.val (.ref a1), .val (.int p2), .val (.int p3)] [(.ref a1)]))
  refine own_go (fun _ kt => XS.iloadN X25.here hx rfl (hb hby d8_5) rfl kt) ?_
  show own_R _ _ _ _ (T25.setTop (mkF m 6 #[.val (.ref a1), .val (.int p2), .val (.int p3)] [(.int p2), (.ref a1)]))
  obtain ⟨T26, h26, X26, e26, W26, st26⟩ := putFN X25 hx hZ hown (hw _ (List.mem_of_getElem? (i := 60) rfl)) Via.refl e25 F_conditional_a1 E_a1 (Or.inr ⟨(hw _ (List.mem_of_getElem? (i := 61) rfl)), rfl, hnm⟩) (hw _ (List.mem_of_getElem? (i := 54) rfl)) (ty := .boolean) (v' := .int (nar .boolean p2)) (by decide) rfl (fits_nar_bool _) (g := (mkF m 6 #[.val (.ref a1), .val (.int p2), .val (.int p3)] [(.int p2), (.ref a1)])) rfl rfl (hb hby d8_6)
  refine own_go st26 ?_
  have E_a1 := E_a1.wr W26
  have F_conditional_a1 := F_conditional_a1.same W26
  have F_line_a1 := F_line_a1.other W26 (Or.inr (slot_ne (Or.inr (hw _ (List.mem_of_getElem? (i := 63) rfl))) (Or.inr (hw _ (List.mem_of_getElem? (i := 61) rfl))) (by decide) (t := .int) (t' := .boolean) (by decide) (by decide)))
  have ZS := Nat.le_trans ZS (Keep.of_wr W26).1
  have KP := KP.wr W26 (Or.inl (List.mem_of_getElem? (i := 0) rfl))
  have NF := Fr.snoc X26 NF g_a1
  show own_R _ _ _ _ (T26.setTop (mkF m 9 #[.val (.ref a1), .val (.int p2), .val (.int p3)] []))
  refine own_go (fun _ kt => XS.aloadN X26.here hx rfl (hb hby d8_9) rfl rfl kt) ?_
  show own_R _ _ _ _ (T26.setTop (mkF m 10 #[.val (.ref a1), .val (.int p2), .val (.int p3)] [(.ref a1)]))
  refine own_go (fun _ kt => XS.iloadN X26.here hx rfl (hb hby d8_10) rfl kt) ?_
  show own_R _ _ _ _ (T26.setTop (mkF m 11 #[.val (.ref a1), .val (.int p2), .val (.int p3)] [(.int p3), (.ref a1)]))
  obtain ⟨T27, h27, X27, e27, W27, st27⟩ := putF X26 hx hZ hown (host := "") (Or.inl (hw _ (List.mem_of_getElem? (i := 62) rfl))) Via.refl e26 F_line_a1 E_a1 (Or.inr ⟨(hw _ (List.mem_of_getElem? (i := 63) rfl)), rfl, hnm⟩) (hw _ (List.mem_of_getElem? (i := 54) rfl)) (ty := .int) (by decide) rfl rfl (g := (mkF m 11 #[.val (.ref a1), .val (.int p2), .val (.int p3)] [(.int p3), (.ref a1)])) rfl rfl (hb hby d8_11)
  refine own_go st27 ?_
  have E_a1 := E_a1.wr W27
  have F_conditional_a1 := F_conditional_a1.other W27 (Or.inr (slot_ne (Or.inr (hw _ (List.mem_of_getElem? (i := 61) rfl))) (Or.inr (hw _ (List.mem_of_getElem? (i := 63) rfl))) (by decide) (t := .boolean) (t' := .int) (by decide) (by decide)))
  have F_line_a1 := F_line_a1.same W27
  have ZS := Nat.le_trans ZS (Keep.of_wr W27).1
  have KP := KP.wr W27 (Or.inl (List.mem_of_getElem? (i := 0) rfl))
  have NF := Fr.snoc X27 NF g_a1
  show own_R _ _ _ _ (T27.setTop (mkF m 14 #[.val (.ref a1), .val (.int p2), .val (.int p3)] []))
  exact own_ret0 X27 hx Bd.returns (hb hby d8_14) hlk (by rw [e27]; exact ⟨rfl, NF, KP⟩) (by decide) (by decide)
theorem d5_0 : decode prog_72_method_1_code 0 = .ok (.aload_n 0, 1) := by decide +kernel
theorem d5_1 : decode prog_72_method_1_code 1 = .ok (.invokespecial 1, 3) := by decide +kernel
theorem d5_4 : decode prog_72_method_1_code 4 = .ok (.aload_n 0, 1) := by decide +kernel
theorem d5_5 : decode prog_72_method_1_code 5 = .ok (.aload_n 1, 1) := by decide +kernel
theorem d5_6 : decode prog_72_method_1_code 6 = .ok (.putfield 7, 3) := by decide +kernel
theorem d5_9 : decode prog_72_method_1_code 9 = .ok (.aload_n 0, 1) := by decide +kernel
theorem d5_10 : decode prog_72_method_1_code 10 = .ok (.iload_n 2, 1) := by decide +kernel
theorem d5_11 : decode prog_72_method_1_code 11 = .ok (.putfield 13, 3) := by decide +kernel
theorem d5_14 : decode prog_72_method_1_code 14 = .ok (.aload_n 0, 1) := by decide +kernel
theorem d5_15 : decode prog_72_method_1_code 15 = .ok (.iload_n 3, 1) := by decide +kernel
theorem d5_16 : decode prog_72_method_1_code 16 = .ok (.putfield 17, 3) := by decide +kernel
theorem d5_19 : decode prog_72_method_1_code 19 = .ok (.aload_n 0, 1) := by decide +kernel
theorem d5_20 : decode prog_72_method_1_code 20 = .ok (.iload 4, 2) := by decide +kernel
theorem d5_22 : decode prog_72_method_1_code 22 = .ok (.putfield 20, 3) := by decide +kernel
theorem d5_25 : decode prog_72_method_1_code 25 = .ok (.aload_n 0, 1) := by decide +kernel
theorem d5_26 : decode prog_72_method_1_code 26 = .ok (.iload 5, 2) := by decide +kernel
theorem d5_28 : decode prog_72_method_1_code 28 = .ok (.putfield 24, 3) := by decide +kernel
theorem d5_31 : decode prog_72_method_1_code 31 = .ok (.return_, 1) := by decide +kernel
theorem pn_5 : plainName "com/example/austere_nets/austerenets/program/Statement$Loop" = true := by first | (simp [plainName, overriddenIn]; done) | decide +kernel
theorem ef_5 (m : MethodId) (x0 : Addr) (x1 : Addr) (x2 : Int32) (x3 : Int32) (x4 : Int32) (x5 : Int32) : entryFrame m #[(.ref x0), (.ref x1), (.int x2), (.int x3), (.int x4), (.int x5)] 6 = mkF m 0 #[.val (.ref x0), .val (.ref x1), .val (.int x2), .val (.int x3), .val (.int x4), .val (.int x5)] [] := by first | (simp [entryFrame, mkF, argsToLocals, Value.category]; done) | rfl
def Q5 (Z : State) (a1 : Addr) (a2 : Addr) (p3 : Int32) (p4 : Int32) (p5 : Int32) (p6 : Int32) (u_body : Value) (u_mayEndAtHead : Value) (u_hasExit : Value) (u_line : Value) (u_endLine : Value) (h0 : Heap) (n0 : Nat) (v : Option Value) (h : Heap) (L : List Loc) : Prop := v = none ∧ Fr n0 L ∧ Keep h0 h [a1] ∧ Fld Z h a1 "com/example/austere_nets/austerenets/program/Statement$Loop" "mayEndAtHead" "Z" (.int p3) ∧ Fld Z h a1 "com/example/austere_nets/austerenets/program/Statement$Loop" "hasExit" "Z" (.int p4)
set_option maxRecDepth 65536 in
set_option maxHeartbeats 40000000 in
theorem rm5 (l : Launch) (Z : State) (a0 : Array Value) (hw : ∀ d ∈ tables_1, d.before a0 Z = true) (ws : List Jvm.Cond) (a1 : Addr) (a2 : Addr) (p3 : Int32) (p4 : Int32) (p5 : Int32) (p6 : Int32) (u_body : Value) (u_mayEndAtHead : Value) (u_hasExit : Value) (u_line : Value) (u_endLine : Value) (h0 : Heap) (n0 : Nat) (ZS : n0 ≤ h0.size) (E_a1 : Exa Z h0 a1 "com/example/austere_nets/austerenets/program/Statement$Loop") (F_body_a1 : Fld Z h0 a1 "com/example/austere_nets/austerenets/program/Statement$Loop" "body" "Ljava/util/List;" u_body) (F_mayEndAtHead_a1 : Fld Z h0 a1 "com/example/austere_nets/austerenets/program/Statement$Loop" "mayEndAtHead" "Z" u_mayEndAtHead) (F_hasExit_a1 : Fld Z h0 a1 "com/example/austere_nets/austerenets/program/Statement$Loop" "hasExit" "Z" u_hasExit) (F_line_a1 : Fld Z h0 a1 "com/example/austere_nets/austerenets/program/Statement$Loop" "line" "I" u_line) (F_endLine_a1 : Fld Z h0 a1 "com/example/austere_nets/austerenets/program/Statement$Loop" "endLine" "I" u_endLine) (g_a1 : n0 ≤ a1) (hp3 : p3 = 0 ∨ p3 = 1) (hp4 : p4 = 0 ∨ p4 = 1) :
    MetFree l (⟨"com/example/austere_nets/austerenets/program/Statement$Loop", "<init>", "(Ljava/util/List;ZZII)V"⟩ : MethodName) (head1 (Jvm.Cond.code (⟨"com/example/austere_nets/austerenets/program/Statement$Loop", "<init>", "(Ljava/util/List;ZZII)V"⟩ : MethodName) prog_72_method_1_code 6 none :: ws) ({ frames := 2, cells := 0, slots := 0, locals := 24 } : Room)) (fun a U => a = #[(.ref a1), (.ref a2), (.int p3), (.int p4), (.int p5), (.int p6)] ∧ Z.Warmed39 U.vm ∧ U.heap = h0) (fun _ _ _ _ _ => True) (fun _ U o U' => ∃ v L, o = .returned v ∧ Q5 Z a1 a2 p3 p4 p5 p6 u_body u_mayEndAtHead u_hasExit u_line u_endLine h0 n0 v U'.heap L ∧ FrameEnd U o U' L ({ frames := 2, cells := 0, slots := 0, locals := 24 } : Room).cells ({ frames := 2, cells := 0, slots := 0, locals := 24 } : Room).slots) := by
  refine MetFree.of_bodySF (plainFor_of_name pn_5) hisR ?_
  intro p e s m args below meth c s₁ Bd hml0 hP hK
  obtain ⟨rfl, hZ, hh⟩ := hP
  have hx := Bd.exec
  have hby := Bd.bytes
  have hml : c.maxLocals = 6 := hml0
  have hown : s.vm.findClass "com/example/austere_nets/austerenets/program/Statement$Loop" = some m.cls := findClass_of_methodNamed Bd.named
  have hnm := (name_of_methodNamed Bd.named Bd.method).1
  have hlk : meth.locks = false := Bd.notSynchronized
  have X0 : Stand p l e ({ frames := 2, cells := 0, slots := 0, locals := 24 } : Room) s m #[(.ref a1), (.ref a2), (.int p3), (.int p4), (.int p5), (.int p6)] below meth c s₁ [] 0 0 := Stand.of_body Bd
  have e0 : s₁.heap = h0 := by rw [← hh, Bd.state]; rfl
  have NF := Fr.nil n0
  have KP : Keep h0 h0 [a1] := Keep.refl _ _
  refine own_fin (s := s) (Q := Q5 Z a1 a2 p3 p4 p5 p6 u_body u_mayEndAtHead u_hasExit u_line u_endLine h0 n0) (rc := ({ frames := 2, cells := 0, slots := 0, locals := 24 } : Room).cells) (rs := ({ frames := 2, cells := 0, slots := 0, locals := 24 } : Room).slots) ?_
  refine own_go (fun _ kt => castTop (ef_5 m a1 a2 p3 p4 p5 p6) kt) ?_
  show own_R _ _ _ _ (s₁.setTop (mkF m 0 #[.val (.ref a1), .val (.ref a2), .val (.int p3), .val (.int p4), .val (.int p5), .val (.int p6)] []))
  refine own_go (fun _ kt => XS.aloadN X0.here hx rfl (hb hby d5_0) rfl rfl kt) ?_
  show own_R _ _ _ _ (s₁.setTop (mkF m 1 #[.val (.ref a1), .val (.ref a2), .val (.int p3), .val (.int p4), .val (.int p5), .val (.int p6)] [(.ref a1)]))
  obtain ⟨_, _, ⟨T28, L28, k28, n28⟩, -, X28, ⟨Lc28, hQ28, l28, y28, z28⟩, st28⟩ := X0.specialBack hx (y := (⟨"java/lang/Record", "<init>", "()V"⟩ : MethodName)) rfl hown (mvT hZ (hw _ (List.mem_of_getElem? (i := 32) rfl))) (mvT hZ (hw _ (List.mem_of_getElem? (i := 33) rfl))) (mvT hZ (hw _ (List.mem_of_getElem? (i := 36) rfl))) (by decide) (backOf (W := 0) (rm6 l Z a0 hw [] a1 h0 n0 ZS) hZ (hw _ (List.mem_of_getElem? (i := 36) rfl)) (hw _ (List.mem_of_getElem? (i := 35) rfl)) (by decide) (by decide)) (g := (mkF m 1 #[.val (.ref a1), .val (.ref a2), .val (.int p3), .val (.int p4), .val (.int p5), .val (.int p6)] [(.ref a1)])) rfl (by rw [hml]; rfl) (Steps.refl _) (a := a1) (argsL := []) (rest := []) (lenOf pd_0 rfl) rfl (by show 2 * 0 + _ ≤ _; exact Nat.le_of_eq rfl) (hb hby d5_1) (fun _ _ => ⟨rfl, e0, (by decide : 0 + 0 ≤ _), (by decide : 0 + 0 ≤ _)⟩)
  dsimp only [Pt.U, Pt.locs, Pt.cells, Pt.slots] at X28 l28 y28 z28 st28 hQ28
  subst l28 y28 z28
  obtain ⟨rfl, N28q, e28⟩ := hQ28
  have NF := Fr.app NF N28q
  refine own_go (fun _ kt => st28.trans kt) ?_
  show own_R _ _ _ _ (T28.setTop (mkF m 4 #[.val (.ref a1), .val (.ref a2), .val (.int p3), .val (.int p4), .val (.int p5), .val (.int p6)] []))
  refine own_go (fun _ kt => XS.aloadN X28.here hx rfl (hb hby d5_4) rfl rfl kt) ?_
  show own_R _ _ _ _ (T28.setTop (mkF m 5 #[.val (.ref a1), .val (.ref a2), .val (.int p3), .val (.int p4), .val (.int p5), .val (.int p6)] [(.ref a1)]))
  refine own_go (fun _ kt => XS.aloadN X28.here hx rfl (hb hby d5_5) rfl rfl kt) ?_
  show own_R _ _ _ _ (T28.setTop (mkF m 6 #[.val (.ref a1), .val (.ref a2), .val (.int p3), .val (.int p4), .val (.int p5), .val (.int p6)] [(.ref a2), (.ref a1)]))
  obtain ⟨T29, h29, X29, e29, W29, st29⟩ := putF X28 hx hZ hown (host := "") (Or.inl (hw _ (List.mem_of_getElem? (i := 38) rfl))) Via.refl e28 F_body_a1 E_a1 (Or.inr ⟨(hw _ (List.mem_of_getElem? (i := 39) rfl)), rfl, hnm⟩) (hw _ (List.mem_of_getElem? (i := 27) rfl)) (ty := (.object "java/util/List")) (by decide) rfl rfl (g := (mkF m 6 #[.val (.ref a1), .val (.ref a2), .val (.int p3), .val (.int p4), .val (.int p5), .val (.int p6)] [(.ref a2), (.ref a1)])) rfl rfl (hb hby d5_6)
  refine own_go st29 ?_
  have E_a1 := E_a1.wr W29
  have F_body_a1 := F_body_a1.same W29
  have F_mayEndAtHead_a1 := F_mayEndAtHead_a1.other W29 (Or.inr (slot_ne (Or.inr (hw _ (List.mem_of_getElem? (i := 41) rfl))) (Or.inr (hw _ (List.mem_of_getElem? (i := 39) rfl))) (by decide) (t := .boolean) (t' := (.object "java/util/List")) (by decide) (by decide)))
  have F_hasExit_a1 := F_hasExit_a1.other W29 (Or.inr (slot_ne (Or.inr (hw _ (List.mem_of_getElem? (i := 43) rfl))) (Or.inr (hw _ (List.mem_of_getElem? (i := 39) rfl))) (by decide) (t := .boolean) (t' := (.object "java/util/List")) (by decide) (by decide)))
  have F_line_a1 := F_line_a1.other W29 (Or.inr (slot_ne (Or.inr (hw _ (List.mem_of_getElem? (i := 45) rfl))) (Or.inr (hw _ (List.mem_of_getElem? (i := 39) rfl))) (by decide) (t := .int) (t' := (.object "java/util/List")) (by decide) (by decide)))
  have F_endLine_a1 := F_endLine_a1.other W29 (Or.inr (slot_ne (Or.inr (hw _ (List.mem_of_getElem? (i := 47) rfl))) (Or.inr (hw _ (List.mem_of_getElem? (i := 39) rfl))) (by decide) (t := .int) (t' := (.object "java/util/List")) (by decide) (by decide)))
  have ZS := Nat.le_trans ZS (Keep.of_wr W29).1
  have KP := KP.wr W29 (Or.inl (List.mem_of_getElem? (i := 0) rfl))
  have NF := Fr.snoc X29 NF g_a1
  show own_R _ _ _ _ (T29.setTop (mkF m 9 #[.val (.ref a1), .val (.ref a2), .val (.int p3), .val (.int p4), .val (.int p5), .val (.int p6)] []))
  refine own_go (fun _ kt => XS.aloadN X29.here hx rfl (hb hby d5_9) rfl rfl kt) ?_
  show own_R _ _ _ _ (T29.setTop (mkF m 10 #[.val (.ref a1), .val (.ref a2), .val (.int p3), .val (.int p4), .val (.int p5), .val (.int p6)] [(.ref a1)]))
  refine own_go (fun _ kt => XS.iloadN X29.here hx rfl (hb hby d5_10) rfl kt) ?_
  show own_R _ _ _ _ (T29.setTop (mkF m 11 #[.val (.ref a1), .val (.ref a2), .val (.int p3), .val (.int p4), .val (.int p5), .val (.int p6)] [(.int p3), (.ref a1)]))
  obtain ⟨T30, h30, X30, e30, W30, st30⟩ := putFN X29 hx hZ hown (hw _ (List.mem_of_getElem? (i := 40) rfl)) Via.refl e29 F_mayEndAtHead_a1 E_a1 (Or.inr ⟨(hw _ (List.mem_of_getElem? (i := 41) rfl)), rfl, hnm⟩) (hw _ (List.mem_of_getElem? (i := 27) rfl)) (ty := .boolean) (v' := .int p3) (by decide) (own_nar01 hp3) (own_fit01 hp3) (g := (mkF m 11 #[.val (.ref a1), .val (.ref a2), .val (.int p3), .val (.int p4), .val (.int p5), .val (.int p6)] [(.int p3), (.ref a1)])) rfl rfl (hb hby d5_11)
  refine own_go st30 ?_
  have E_a1 := E_a1.wr W30
  have F_body_a1 := F_body_a1.other W30 (Or.inr (slot_ne (Or.inr (hw _ (List.mem_of_getElem? (i := 39) rfl))) (Or.inr (hw _ (List.mem_of_getElem? (i := 41) rfl))) (by decide) (t := (.object "java/util/List")) (t' := .boolean) (by decide) (by decide)))
  have F_mayEndAtHead_a1 := F_mayEndAtHead_a1.same W30
  have F_hasExit_a1 := F_hasExit_a1.other W30 (Or.inr (slot_ne (Or.inr (hw _ (List.mem_of_getElem? (i := 43) rfl))) (Or.inr (hw _ (List.mem_of_getElem? (i := 41) rfl))) (by decide) (t := .boolean) (t' := .boolean) (by decide) (by decide)))
  have F_line_a1 := F_line_a1.other W30 (Or.inr (slot_ne (Or.inr (hw _ (List.mem_of_getElem? (i := 45) rfl))) (Or.inr (hw _ (List.mem_of_getElem? (i := 41) rfl))) (by decide) (t := .int) (t' := .boolean) (by decide) (by decide)))
  have F_endLine_a1 := F_endLine_a1.other W30 (Or.inr (slot_ne (Or.inr (hw _ (List.mem_of_getElem? (i := 47) rfl))) (Or.inr (hw _ (List.mem_of_getElem? (i := 41) rfl))) (by decide) (t := .int) (t' := .boolean) (by decide) (by decide)))
  have ZS := Nat.le_trans ZS (Keep.of_wr W30).1
  have KP := KP.wr W30 (Or.inl (List.mem_of_getElem? (i := 0) rfl))
  have NF := Fr.snoc X30 NF g_a1
  show own_R _ _ _ _ (T30.setTop (mkF m 14 #[.val (.ref a1), .val (.ref a2), .val (.int p3), .val (.int p4), .val (.int p5), .val (.int p6)] []))
  refine own_go (fun _ kt => XS.aloadN X30.here hx rfl (hb hby d5_14) rfl rfl kt) ?_
  show own_R _ _ _ _ (T30.setTop (mkF m 15 #[.val (.ref a1), .val (.ref a2), .val (.int p3), .val (.int p4), .val (.int p5), .val (.int p6)] [(.ref a1)]))
  refine own_go (fun _ kt => XS.iloadN X30.here hx rfl (hb hby d5_15) rfl kt) ?_
  show own_R _ _ _ _ (T30.setTop (mkF m 16 #[.val (.ref a1), .val (.ref a2), .val (.int p3), .val (.int p4), .val (.int p5), .val (.int p6)] [(.int p4), (.ref a1)]))
  obtain ⟨T31, h31, X31, e31, W31, st31⟩ := putFN X30 hx hZ hown (hw _ (List.mem_of_getElem? (i := 42) rfl)) Via.refl e30 F_hasExit_a1 E_a1 (Or.inr ⟨(hw _ (List.mem_of_getElem? (i := 43) rfl)), rfl, hnm⟩) (hw _ (List.mem_of_getElem? (i := 27) rfl)) (ty := .boolean) (v' := .int p4) (by decide) (own_nar01 hp4) (own_fit01 hp4) (g := (mkF m 16 #[.val (.ref a1), .val (.ref a2), .val (.int p3), .val (.int p4), .val (.int p5), .val (.int p6)] [(.int p4), (.ref a1)])) rfl rfl (hb hby d5_16)
  refine own_go st31 ?_
  have E_a1 := E_a1.wr W31
  have F_body_a1 := F_body_a1.other W31 (Or.inr (slot_ne (Or.inr (hw _ (List.mem_of_getElem? (i := 39) rfl))) (Or.inr (hw _ (List.mem_of_getElem? (i := 43) rfl))) (by decide) (t := (.object "java/util/List")) (t' := .boolean) (by decide) (by decide)))
  have F_mayEndAtHead_a1 := F_mayEndAtHead_a1.other W31 (Or.inr (slot_ne (Or.inr (hw _ (List.mem_of_getElem? (i := 41) rfl))) (Or.inr (hw _ (List.mem_of_getElem? (i := 43) rfl))) (by decide) (t := .boolean) (t' := .boolean) (by decide) (by decide)))
  have F_hasExit_a1 := F_hasExit_a1.same W31
  have F_line_a1 := F_line_a1.other W31 (Or.inr (slot_ne (Or.inr (hw _ (List.mem_of_getElem? (i := 45) rfl))) (Or.inr (hw _ (List.mem_of_getElem? (i := 43) rfl))) (by decide) (t := .int) (t' := .boolean) (by decide) (by decide)))
  have F_endLine_a1 := F_endLine_a1.other W31 (Or.inr (slot_ne (Or.inr (hw _ (List.mem_of_getElem? (i := 47) rfl))) (Or.inr (hw _ (List.mem_of_getElem? (i := 43) rfl))) (by decide) (t := .int) (t' := .boolean) (by decide) (by decide)))
  have ZS := Nat.le_trans ZS (Keep.of_wr W31).1
  have KP := KP.wr W31 (Or.inl (List.mem_of_getElem? (i := 0) rfl))
  have NF := Fr.snoc X31 NF g_a1
  show own_R _ _ _ _ (T31.setTop (mkF m 19 #[.val (.ref a1), .val (.ref a2), .val (.int p3), .val (.int p4), .val (.int p5), .val (.int p6)] []))
  refine own_go (fun _ kt => XS.aloadN X31.here hx rfl (hb hby d5_19) rfl rfl kt) ?_
  show own_R _ _ _ _ (T31.setTop (mkF m 20 #[.val (.ref a1), .val (.ref a2), .val (.int p3), .val (.int p4), .val (.int p5), .val (.int p6)] [(.ref a1)]))
  refine own_go (fun _ kt => XS.iload X31.here hx rfl (hb hby d5_20) rfl kt) ?_
  show own_R _ _ _ _ (T31.setTop (mkF m 22 #[.val (.ref a1), .val (.ref a2), .val (.int p3), .val (.int p4), .val (.int p5), .val (.int p6)] [(.int p5), (.ref a1)]))
  obtain ⟨T32, h32, X32, e32, W32, st32⟩ := putF X31 hx hZ hown (host := "") (Or.inl (hw _ (List.mem_of_getElem? (i := 44) rfl))) Via.refl e31 F_line_a1 E_a1 (Or.inr ⟨(hw _ (List.mem_of_getElem? (i := 45) rfl)), rfl, hnm⟩) (hw _ (List.mem_of_getElem? (i := 27) rfl)) (ty := .int) (by decide) rfl rfl (g := (mkF m 22 #[.val (.ref a1), .val (.ref a2), .val (.int p3), .val (.int p4), .val (.int p5), .val (.int p6)] [(.int p5), (.ref a1)])) rfl rfl (hb hby d5_22)
  refine own_go st32 ?_
  have E_a1 := E_a1.wr W32
  have F_body_a1 := F_body_a1.other W32 (Or.inr (slot_ne (Or.inr (hw _ (List.mem_of_getElem? (i := 39) rfl))) (Or.inr (hw _ (List.mem_of_getElem? (i := 45) rfl))) (by decide) (t := (.object "java/util/List")) (t' := .int) (by decide) (by decide)))
  have F_mayEndAtHead_a1 := F_mayEndAtHead_a1.other W32 (Or.inr (slot_ne (Or.inr (hw _ (List.mem_of_getElem? (i := 41) rfl))) (Or.inr (hw _ (List.mem_of_getElem? (i := 45) rfl))) (by decide) (t := .boolean) (t' := .int) (by decide) (by decide)))
  have F_hasExit_a1 := F_hasExit_a1.other W32 (Or.inr (slot_ne (Or.inr (hw _ (List.mem_of_getElem? (i := 43) rfl))) (Or.inr (hw _ (List.mem_of_getElem? (i := 45) rfl))) (by decide) (t := .boolean) (t' := .int) (by decide) (by decide)))
  have F_line_a1 := F_line_a1.same W32
  have F_endLine_a1 := F_endLine_a1.other W32 (Or.inr (slot_ne (Or.inr (hw _ (List.mem_of_getElem? (i := 47) rfl))) (Or.inr (hw _ (List.mem_of_getElem? (i := 45) rfl))) (by decide) (t := .int) (t' := .int) (by decide) (by decide)))
  have ZS := Nat.le_trans ZS (Keep.of_wr W32).1
  have KP := KP.wr W32 (Or.inl (List.mem_of_getElem? (i := 0) rfl))
  have NF := Fr.snoc X32 NF g_a1
  show own_R _ _ _ _ (T32.setTop (mkF m 25 #[.val (.ref a1), .val (.ref a2), .val (.int p3), .val (.int p4), .val (.int p5), .val (.int p6)] []))
  refine own_go (fun _ kt => XS.aloadN X32.here hx rfl (hb hby d5_25) rfl rfl kt) ?_
  show own_R _ _ _ _ (T32.setTop (mkF m 26 #[.val (.ref a1), .val (.ref a2), .val (.int p3), .val (.int p4), .val (.int p5), .val (.int p6)] [(.ref a1)]))
  refine own_go (fun _ kt => XS.iload X32.here hx rfl (hb hby d5_26) rfl kt) ?_
  show own_R _ _ _ _ (T32.setTop (mkF m 28 #[.val (.ref a1), .val (.ref a2), .val (.int p3), .val (.int p4), .val (.int p5), .val (.int p6)] [(.int p6), (.ref a1)]))
  obtain ⟨T33, h33, X33, e33, W33, st33⟩ := putF X32 hx hZ hown (host := "") (Or.inl (hw _ (List.mem_of_getElem? (i := 46) rfl))) Via.refl e32 F_endLine_a1 E_a1 (Or.inr ⟨(hw _ (List.mem_of_getElem? (i := 47) rfl)), rfl, hnm⟩) (hw _ (List.mem_of_getElem? (i := 27) rfl)) (ty := .int) (by decide) rfl rfl (g := (mkF m 28 #[.val (.ref a1), .val (.ref a2), .val (.int p3), .val (.int p4), .val (.int p5), .val (.int p6)] [(.int p6), (.ref a1)])) rfl rfl (hb hby d5_28)
  refine own_go st33 ?_
  have E_a1 := E_a1.wr W33
  have F_body_a1 := F_body_a1.other W33 (Or.inr (slot_ne (Or.inr (hw _ (List.mem_of_getElem? (i := 39) rfl))) (Or.inr (hw _ (List.mem_of_getElem? (i := 47) rfl))) (by decide) (t := (.object "java/util/List")) (t' := .int) (by decide) (by decide)))
  have F_mayEndAtHead_a1 := F_mayEndAtHead_a1.other W33 (Or.inr (slot_ne (Or.inr (hw _ (List.mem_of_getElem? (i := 41) rfl))) (Or.inr (hw _ (List.mem_of_getElem? (i := 47) rfl))) (by decide) (t := .boolean) (t' := .int) (by decide) (by decide)))
  have F_hasExit_a1 := F_hasExit_a1.other W33 (Or.inr (slot_ne (Or.inr (hw _ (List.mem_of_getElem? (i := 43) rfl))) (Or.inr (hw _ (List.mem_of_getElem? (i := 47) rfl))) (by decide) (t := .boolean) (t' := .int) (by decide) (by decide)))
  have F_line_a1 := F_line_a1.other W33 (Or.inr (slot_ne (Or.inr (hw _ (List.mem_of_getElem? (i := 45) rfl))) (Or.inr (hw _ (List.mem_of_getElem? (i := 47) rfl))) (by decide) (t := .int) (t' := .int) (by decide) (by decide)))
  have F_endLine_a1 := F_endLine_a1.same W33
  have ZS := Nat.le_trans ZS (Keep.of_wr W33).1
  have KP := KP.wr W33 (Or.inl (List.mem_of_getElem? (i := 0) rfl))
  have NF := Fr.snoc X33 NF g_a1
  show own_R _ _ _ _ (T33.setTop (mkF m 31 #[.val (.ref a1), .val (.ref a2), .val (.int p3), .val (.int p4), .val (.int p5), .val (.int p6)] []))
  exact own_ret0 X33 hx Bd.returns (hb hby d5_31) hlk (by rw [e33]; exact ⟨rfl, NF, KP, F_mayEndAtHead_a1, F_hasExit_a1⟩) (by decide) (by decide)
theorem d7_0 : decode prog_72_method_3_code 0 = .ok (.aload_n 0, 1) := by decide +kernel
theorem d7_1 : decode prog_72_method_3_code 1 = .ok (.getfield 13, 3) := by decide +kernel
theorem d7_4 : decode prog_72_method_3_code 4 = .ok (.ifCond .ne 10, 3) := by decide +kernel
theorem d7_7 : decode prog_72_method_3_code 7 = .ok (.aload_n 0, 1) := by decide +kernel
theorem d7_8 : decode prog_72_method_3_code 8 = .ok (.getfield 17, 3) := by decide +kernel
theorem d7_11 : decode prog_72_method_3_code 11 = .ok (.ifCond .eq 7, 3) := by decide +kernel
theorem d7_14 : decode prog_72_method_3_code 14 = .ok (.iconst 1, 1) := by decide +kernel
theorem d7_15 : decode prog_72_method_3_code 15 = .ok (.goto 4, 3) := by decide +kernel
theorem d7_18 : decode prog_72_method_3_code 18 = .ok (.iconst 0, 1) := by decide +kernel
theorem d7_19 : decode prog_72_method_3_code 19 = .ok (.ireturn, 1) := by decide +kernel
theorem ef_7 (m : MethodId) (x0 : Addr) : entryFrame m #[(.ref x0)] 1 = mkF m 0 #[.val (.ref x0)] [] := by first | (simp [entryFrame, mkF, argsToLocals, Value.category]; done) | rfl
def Q7 (Z : State) (a1 : Addr) (w1 : Int32) (w2 : Int32) (h0 : Heap) (n0 : Nat) (v : Option Value) (h : Heap) (L : List Loc) : Prop := v = some (.int (own_out w1 w2)) ∧ Fr n0 L ∧ h = h0
set_option maxRecDepth 65536 in
set_option maxHeartbeats 40000000 in
theorem rm7 (l : Launch) (Z : State) (a0 : Array Value) (hw : ∀ d ∈ tables_1, d.before a0 Z = true) (ws : List Jvm.Cond) (a1 : Addr) (w1 : Int32) (w2 : Int32) (h0 : Heap) (n0 : Nat) (ZS : n0 ≤ h0.size) (F_mayEndAtHead_a1 : Fld Z h0 a1 "com/example/austere_nets/austerenets/program/Statement$Loop" "mayEndAtHead" "Z" (.int w1)) (F_hasExit_a1 : Fld Z h0 a1 "com/example/austere_nets/austerenets/program/Statement$Loop" "hasExit" "Z" (.int w2)) :
    MetFree l (⟨"com/example/austere_nets/austerenets/program/Statement$Loop", "hasWayOut", "()Z"⟩ : MethodName) (head1 (Jvm.Cond.code (⟨"com/example/austere_nets/austerenets/program/Statement$Loop", "hasWayOut", "()Z"⟩ : MethodName) prog_72_method_3_code 1 (some .boolean) :: ws) ({ frames := 0, cells := 0, slots := 0, locals := 0 } : Room)) (fun a U => a = #[(.ref a1)] ∧ Z.Warmed39 U.vm ∧ U.heap = h0) (fun _ _ _ _ _ => True) (fun _ U o U' => ∃ v L, o = .returned v ∧ Q7 Z a1 w1 w2 h0 n0 v U'.heap L ∧ FrameEnd U o U' L ({ frames := 0, cells := 0, slots := 0, locals := 0 } : Room).cells ({ frames := 0, cells := 0, slots := 0, locals := 0 } : Room).slots) := by
  refine MetFree.of_bodySF (plainFor_of_name pn_5) hisR ?_
  intro p e s m args below meth c s₁ Bd hml0 hP hK
  obtain ⟨rfl, hZ, hh⟩ := hP
  have hx := Bd.exec
  have hby := Bd.bytes
  have hml : c.maxLocals = 1 := hml0
  have hown : s.vm.findClass "com/example/austere_nets/austerenets/program/Statement$Loop" = some m.cls := findClass_of_methodNamed Bd.named
  have hnm := (name_of_methodNamed Bd.named Bd.method).1
  have hlk : meth.locks = false := Bd.notSynchronized
  have X0 : Stand p l e ({ frames := 0, cells := 0, slots := 0, locals := 0 } : Room) s m #[(.ref a1)] below meth c s₁ [] 0 0 := Stand.of_body Bd
  have e0 : s₁.heap = h0 := by rw [← hh, Bd.state]; rfl
  have NF := Fr.nil n0
  have KP : Keep h0 h0 [] := Keep.refl _ _
  refine own_fin (s := s) (Q := Q7 Z a1 w1 w2 h0 n0) (rc := ({ frames := 0, cells := 0, slots := 0, locals := 0 } : Room).cells) (rs := ({ frames := 0, cells := 0, slots := 0, locals := 0 } : Room).slots) ?_
  refine own_go (fun _ kt => castTop (ef_7 m a1) kt) ?_
  show own_R _ _ _ _ (s₁.setTop (mkF m 0 #[.val (.ref a1)] []))
  refine own_go (fun _ kt => XS.aloadN X0.here hx rfl (hb hby d7_0) rfl rfl kt) ?_
  show own_R _ _ _ _ (s₁.setTop (mkF m 1 #[.val (.ref a1)] [(.ref a1)]))
  obtain ⟨T34, X34, e34, st34⟩ := getF X0 hx hZ hown (host := "") (Or.inl (hw _ (List.mem_of_getElem? (i := 40) rfl))) Via.refl e0 F_mayEndAtHead_a1 (g := (mkF m 1 #[.val (.ref a1)] [(.ref a1)])) rfl rfl (hb hby d7_1)
  refine own_go st34 ?_
  show own_R _ _ _ _ (T34.setTop (mkF m 4 #[.val (.ref a1)] [(.int w1)]))
  by_cases hc35 : w1 = (0 : Int32)
  · refine own_go (fun _ kt => XS.ifNo X34.here hx rfl (hb hby d7_4) rfl ((if0 _ _).trans (teq hc35).2) kt) ?_
    show own_R _ _ _ _ (T34.setTop (mkF m 7 #[.val (.ref a1)] []))
    refine own_go (fun _ kt => XS.aloadN X34.here hx rfl (hb hby d7_7) rfl rfl kt) ?_
    show own_R _ _ _ _ (T34.setTop (mkF m 8 #[.val (.ref a1)] [(.ref a1)]))
    obtain ⟨T36, X36, e36, st36⟩ := getF X34 hx hZ hown (host := "") (Or.inl (hw _ (List.mem_of_getElem? (i := 42) rfl))) Via.refl e34 F_hasExit_a1 (g := (mkF m 8 #[.val (.ref a1)] [(.ref a1)])) rfl rfl (hb hby d7_8)
    refine own_go st36 ?_
    show own_R _ _ _ _ (T36.setTop (mkF m 11 #[.val (.ref a1)] [(.int w2)]))
    by_cases hc37 : w2 = (0 : Int32)
    · refine own_go (fun _ kt => XS.ifYes X36.here hx rfl (pc0 := 11) (pc' := 18) rfl (hb hby d7_11) rfl ((if0 _ _).trans (teq hc37).1) (by decide) (by decide) kt) ?_
      show own_R _ _ _ _ (T36.setTop (mkF m 18 #[.val (.ref a1)] []))
      refine own_go (fun _ kt => XS.iconst X36.here hx rfl (hb hby d7_18) kt) ?_
      show own_R _ _ _ _ (T36.setTop (mkF m 19 #[.val (.ref a1)] [(.int (0 : Int32))]))
      exact own_retN X36 hx (t := .boolean) (by simp) Bd.returns (hb hby d7_19) hlk ⟨by rw [show own_out w1 w2 = (0 : Int32) from by simp only [own_out, hc35, hc37, if_true, if_false]]; rfl, NF, e36⟩ (by decide) (by decide)
    · refine own_go (fun _ kt => XS.ifNo X36.here hx rfl (hb hby d7_11) rfl ((if0 _ _).trans (feq hc37).1) kt) ?_
      show own_R _ _ _ _ (T36.setTop (mkF m 14 #[.val (.ref a1)] []))
      refine own_go (fun _ kt => XS.iconst X36.here hx rfl (hb hby d7_14) kt) ?_
      show own_R _ _ _ _ (T36.setTop (mkF m 15 #[.val (.ref a1)] [(.int (1 : Int32))]))
      refine own_go (fun _ kt => XS.goto X36.here hx rfl (pc0 := 15) (pc' := 19) rfl (hb hby d7_15) (by decide) (by decide) kt) ?_
      show own_R _ _ _ _ (T36.setTop (mkF m 19 #[.val (.ref a1)] [(.int (1 : Int32))]))
      exact own_retN X36 hx (t := .boolean) (by simp) Bd.returns (hb hby d7_19) hlk ⟨by rw [show own_out w1 w2 = (1 : Int32) from by simp only [own_out, hc35, hc37, if_true, if_false]]; rfl, NF, e36⟩ (by decide) (by decide)
  · refine own_go (fun _ kt => XS.ifYes X34.here hx rfl (pc0 := 4) (pc' := 14) rfl (hb hby d7_4) rfl ((if0 _ _).trans (feq hc35).2) (by decide) (by decide) kt) ?_
    show own_R _ _ _ _ (T34.setTop (mkF m 14 #[.val (.ref a1)] []))
    refine own_go (fun _ kt => XS.iconst X34.here hx rfl (hb hby d7_14) kt) ?_
    show own_R _ _ _ _ (T34.setTop (mkF m 15 #[.val (.ref a1)] [(.int (1 : Int32))]))
    refine own_go (fun _ kt => XS.goto X34.here hx rfl (pc0 := 15) (pc' := 19) rfl (hb hby d7_15) (by decide) (by decide) kt) ?_
    show own_R _ _ _ _ (T34.setTop (mkF m 19 #[.val (.ref a1)] [(.int (1 : Int32))]))
    exact own_retN X34 hx (t := .boolean) (by simp) Bd.returns (hb hby d7_19) hlk ⟨by rw [show own_out w1 w2 = (1 : Int32) from by simp only [own_out, hc35, if_true, if_false]]; rfl, NF, e34⟩ (by decide) (by decide)
theorem pn_0 : plainName "com/example/austere_nets/austerenets/program/LoopHasWayOutPinLaw" = true := by first | (simp [plainName, overriddenIn]; done) | decide +kernel
theorem ef_0 (m : MethodId) (x0 : Int32) (x1 : Int32) (x2 : Int32) (x3 : Int32) : entryFrame m #[(.int x0), (.int x1), (.int x2), (.int x3)] maxLocals = mkF m 0 #[.val (.int x0), .val (.int x1), .val (.int x2), .val (.int x3), .unset, .unset, .unset, .unset, .unset, .unset, .unset, .unset, .unset] [] := by first | (simp [entryFrame, mkF, argsToLocals, Value.category, maxLocals]; done) | rfl
def Q0 (Z : State) (p1 : Int32) (p2 : Int32) (p3 : Int32) (p4 : Int32) (d : Addr) (kd : ClassId) (h0 : Heap) (n0 : Nat) (v : Option Value) (h : Heap) (L : List Loc) : Prop := v = some (.int 1) ∧ Fr n0 L
set_option maxRecDepth 65536 in
set_option maxHeartbeats 40000000 in
theorem rm0 (l : Launch) (Z : State) (a0 : Array Value) (hw : ∀ d ∈ tables_1, d.before a0 Z = true) (ws : List Jvm.Cond) (p1 : Int32) (p2 : Int32) (p3 : Int32) (p4 : Int32) (d : Addr) (kd : ClassId) (h0 : Heap) (n0 : Nat) (ZS : n0 ≤ h0.size) (SD : Sta Z Z.heap "java/util/ArrayList" "DEFAULTCAPACITY_EMPTY_ELEMENTDATA" "[Ljava/lang/Object;" (.ref d)) (OLD : Old Z n0 h0) (V_d : Arv Z h0 d kd (.object "java/lang/Object") (0 : Int32) [] .null) :
    MetFree l x (head1 (Jvm.Cond.code x code maxLocals ret :: ws) room_1) (fun a U => a = #[(.int p1), (.int p2), (.int p3), (.int p4)] ∧ Z.Warmed39 U.vm ∧ U.heap = h0) (fun _ _ _ _ _ => True) (fun _ U o U' => ∃ v L, o = .returned v ∧ Q0 Z p1 p2 p3 p4 d kd h0 n0 v U'.heap L ∧ FrameEnd U o U' L 16 128) := by
  refine MetFree.of_bodySF (plainFor_of_name pn_0) hisR ?_
  intro p e s m args below meth c s₁ Bd hml0 hP hK
  obtain ⟨rfl, hZ, hh⟩ := hP
  have hx := Bd.exec
  have hby := Bd.bytes
  have hml : c.maxLocals = 13 := hml0
  have hown : s.vm.findClass "com/example/austere_nets/austerenets/program/LoopHasWayOutPinLaw" = some m.cls := findClass_of_methodNamed Bd.named
  have hnm := (name_of_methodNamed Bd.named Bd.method).1
  have hlk : meth.locks = false := Bd.notSynchronized
  have X0 : Stand p l e room_1 s m #[(.int p1), (.int p2), (.int p3), (.int p4)] below meth c s₁ [] 0 0 := Stand.of_body Bd
  have e0 : s₁.heap = h0 := by rw [← hh, Bd.state]; rfl
  have NF := Fr.nil n0
  have KP : Keep h0 h0 [] := Keep.refl _ _
  refine own_fin (s := s) (Q := Q0 Z p1 p2 p3 p4 d kd h0 n0) (rc := 16) (rs := 128) ?_
  refine own_go (fun _ kt => castTop (ef_0 m p1 p2 p3 p4) kt) ?_
  show own_R _ _ _ _ (s₁.setTop (mkF m 0 #[.val (.int p1), .val (.int p2), .val (.int p3), .val (.int p4), .unset, .unset, .unset, .unset, .unset, .unset, .unset, .unset, .unset] []))
  obtain ⟨_, ⟨b4, hs38, rfl⟩, sg38⟩ : own_R p.tables e below (fun U => ∃ (b4 : Int32), (b4 = 0 ∨ b4 = 1) ∧ U = s₁.setTop (mkF m 11 #[.val (.int p1), .val (.int p2), .val (.int p3), .val (.int p4), .unset, .unset, .unset, .unset, .unset, .unset, .unset, .unset, .unset] [(.int b4)])) (s₁.setTop (mkF m 0 #[.val (.int p1), .val (.int p2), .val (.int p3), .val (.int p4), .unset, .unset, .unset, .unset, .unset, .unset, .unset, .unset, .unset] [])) := by
    refine own_go (fun _ kt => XS.iloadN X0.here hx rfl (hb hby at_0) rfl kt) ?_
    show own_R _ _ _ _ (s₁.setTop (mkF m 1 #[.val (.int p1), .val (.int p2), .val (.int p3), .val (.int p4), .unset, .unset, .unset, .unset, .unset, .unset, .unset, .unset, .unset] [(.int p1)]))
    refine own_go (fun _ kt => XS.iconst X0.here hx rfl (hb hby at_1) kt) ?_
    show own_R _ _ _ _ (s₁.setTop (mkF m 2 #[.val (.int p1), .val (.int p2), .val (.int p3), .val (.int p4), .unset, .unset, .unset, .unset, .unset, .unset, .unset, .unset, .unset] [(.int (1 : Int32)), (.int p1)]))
    refine own_go (fun _ kt => XS.iand X0.here hx rfl (hb hby at_2) rfl kt) ?_
    show own_R _ _ _ _ (s₁.setTop (mkF m 3 #[.val (.int p1), .val (.int p2), .val (.int p3), .val (.int p4), .unset, .unset, .unset, .unset, .unset, .unset, .unset, .unset, .unset] [(.int (p1 &&& (1 : Int32)))]))
    by_cases hc39 : (p1 &&& (1 : Int32)) = (0 : Int32)
    · refine own_go (fun _ kt => XS.ifYes X0.here hx rfl (pc0 := 3) (pc' := 10) rfl (hb hby at_3) rfl ((if0 _ _).trans (teq hc39).1) (by decide) (by decide) kt) ?_
      show own_R _ _ _ _ (s₁.setTop (mkF m 10 #[.val (.int p1), .val (.int p2), .val (.int p3), .val (.int p4), .unset, .unset, .unset, .unset, .unset, .unset, .unset, .unset, .unset] []))
      refine own_go (fun _ kt => XS.iconst X0.here hx rfl (hb hby at_10) kt) ?_
      show own_R _ _ _ _ (s₁.setTop (mkF m 11 #[.val (.int p1), .val (.int p2), .val (.int p3), .val (.int p4), .unset, .unset, .unset, .unset, .unset, .unset, .unset, .unset, .unset] [(.int (0 : Int32))]))
      exact own_leaf ⟨(0 : Int32), by simp, rfl⟩
    · refine own_go (fun _ kt => XS.ifNo X0.here hx rfl (hb hby at_3) rfl ((if0 _ _).trans (feq hc39).1) kt) ?_
      show own_R _ _ _ _ (s₁.setTop (mkF m 6 #[.val (.int p1), .val (.int p2), .val (.int p3), .val (.int p4), .unset, .unset, .unset, .unset, .unset, .unset, .unset, .unset, .unset] []))
      refine own_go (fun _ kt => XS.iconst X0.here hx rfl (hb hby at_6) kt) ?_
      show own_R _ _ _ _ (s₁.setTop (mkF m 7 #[.val (.int p1), .val (.int p2), .val (.int p3), .val (.int p4), .unset, .unset, .unset, .unset, .unset, .unset, .unset, .unset, .unset] [(.int (1 : Int32))]))
      refine own_go (fun _ kt => XS.goto X0.here hx rfl (pc0 := 7) (pc' := 11) rfl (hb hby at_7) (by decide) (by decide) kt) ?_
      show own_R _ _ _ _ (s₁.setTop (mkF m 11 #[.val (.int p1), .val (.int p2), .val (.int p3), .val (.int p4), .unset, .unset, .unset, .unset, .unset, .unset, .unset, .unset, .unset] [(.int (1 : Int32))]))
      exact own_leaf ⟨(1 : Int32), by simp, rfl⟩
  refine own_go sg38 ?_
  show own_R _ _ _ _ (s₁.setTop (mkF m 11 #[.val (.int p1), .val (.int p2), .val (.int p3), .val (.int p4), .unset, .unset, .unset, .unset, .unset, .unset, .unset, .unset, .unset] [(.int b4)]))
  refine own_go (fun _ kt => XS.istore X0.here hx rfl (hb hby at_11) rfl (l' := #[.val (.int p1), .val (.int p2), .val (.int p3), .val (.int p4), .val (.int b4), .unset, .unset, .unset, .unset, .unset, .unset, .unset, .unset]) rfl kt) ?_
  show own_R _ _ _ _ (s₁.setTop (mkF m 13 #[.val (.int p1), .val (.int p2), .val (.int p3), .val (.int p4), .val (.int b4), .unset, .unset, .unset, .unset, .unset, .unset, .unset, .unset] []))
  obtain ⟨_, ⟨b5, hs40, rfl⟩, sg40⟩ : own_R p.tables e below (fun U => ∃ (b5 : Int32), (b5 = 0 ∨ b5 = 1) ∧ U = s₁.setTop (mkF m 24 #[.val (.int p1), .val (.int p2), .val (.int p3), .val (.int p4), .val (.int b4), .unset, .unset, .unset, .unset, .unset, .unset, .unset, .unset] [(.int b5)])) (s₁.setTop (mkF m 13 #[.val (.int p1), .val (.int p2), .val (.int p3), .val (.int p4), .val (.int b4), .unset, .unset, .unset, .unset, .unset, .unset, .unset, .unset] [])) := by
    refine own_go (fun _ kt => XS.iloadN X0.here hx rfl (hb hby at_13) rfl kt) ?_
    show own_R _ _ _ _ (s₁.setTop (mkF m 14 #[.val (.int p1), .val (.int p2), .val (.int p3), .val (.int p4), .val (.int b4), .unset, .unset, .unset, .unset, .unset, .unset, .unset, .unset] [(.int p1)]))
    refine own_go (fun _ kt => XS.iconst X0.here hx rfl (hb hby at_14) kt) ?_
    show own_R _ _ _ _ (s₁.setTop (mkF m 15 #[.val (.int p1), .val (.int p2), .val (.int p3), .val (.int p4), .val (.int b4), .unset, .unset, .unset, .unset, .unset, .unset, .unset, .unset] [(.int (2 : Int32)), (.int p1)]))
    refine own_go (fun _ kt => XS.iand X0.here hx rfl (hb hby at_15) rfl kt) ?_
    show own_R _ _ _ _ (s₁.setTop (mkF m 16 #[.val (.int p1), .val (.int p2), .val (.int p3), .val (.int p4), .val (.int b4), .unset, .unset, .unset, .unset, .unset, .unset, .unset, .unset] [(.int (p1 &&& (2 : Int32)))]))
    by_cases hc41 : (p1 &&& (2 : Int32)) = (0 : Int32)
    · refine own_go (fun _ kt => XS.ifYes X0.here hx rfl (pc0 := 16) (pc' := 23) rfl (hb hby at_16) rfl ((if0 _ _).trans (teq hc41).1) (by decide) (by decide) kt) ?_
      show own_R _ _ _ _ (s₁.setTop (mkF m 23 #[.val (.int p1), .val (.int p2), .val (.int p3), .val (.int p4), .val (.int b4), .unset, .unset, .unset, .unset, .unset, .unset, .unset, .unset] []))
      refine own_go (fun _ kt => XS.iconst X0.here hx rfl (hb hby at_23) kt) ?_
      show own_R _ _ _ _ (s₁.setTop (mkF m 24 #[.val (.int p1), .val (.int p2), .val (.int p3), .val (.int p4), .val (.int b4), .unset, .unset, .unset, .unset, .unset, .unset, .unset, .unset] [(.int (0 : Int32))]))
      exact own_leaf ⟨(0 : Int32), by simp, rfl⟩
    · refine own_go (fun _ kt => XS.ifNo X0.here hx rfl (hb hby at_16) rfl ((if0 _ _).trans (feq hc41).1) kt) ?_
      show own_R _ _ _ _ (s₁.setTop (mkF m 19 #[.val (.int p1), .val (.int p2), .val (.int p3), .val (.int p4), .val (.int b4), .unset, .unset, .unset, .unset, .unset, .unset, .unset, .unset] []))
      refine own_go (fun _ kt => XS.iconst X0.here hx rfl (hb hby at_19) kt) ?_
      show own_R _ _ _ _ (s₁.setTop (mkF m 20 #[.val (.int p1), .val (.int p2), .val (.int p3), .val (.int p4), .val (.int b4), .unset, .unset, .unset, .unset, .unset, .unset, .unset, .unset] [(.int (1 : Int32))]))
      refine own_go (fun _ kt => XS.goto X0.here hx rfl (pc0 := 20) (pc' := 24) rfl (hb hby at_20) (by decide) (by decide) kt) ?_
      show own_R _ _ _ _ (s₁.setTop (mkF m 24 #[.val (.int p1), .val (.int p2), .val (.int p3), .val (.int p4), .val (.int b4), .unset, .unset, .unset, .unset, .unset, .unset, .unset, .unset] [(.int (1 : Int32))]))
      exact own_leaf ⟨(1 : Int32), by simp, rfl⟩
  refine own_go sg40 ?_
  show own_R _ _ _ _ (s₁.setTop (mkF m 24 #[.val (.int p1), .val (.int p2), .val (.int p3), .val (.int p4), .val (.int b4), .unset, .unset, .unset, .unset, .unset, .unset, .unset, .unset] [(.int b5)]))
  refine own_go (fun _ kt => XS.istore X0.here hx rfl (hb hby at_24) rfl (l' := #[.val (.int p1), .val (.int p2), .val (.int p3), .val (.int p4), .val (.int b4), .val (.int b5), .unset, .unset, .unset, .unset, .unset, .unset, .unset]) rfl kt) ?_
  show own_R _ _ _ _ (s₁.setTop (mkF m 26 #[.val (.int p1), .val (.int p2), .val (.int p3), .val (.int p4), .val (.int b4), .val (.int b5), .unset, .unset, .unset, .unset, .unset, .unset, .unset] []))
  obtain ⟨_, ⟨b6, hs42, rfl⟩, sg42⟩ : own_R p.tables e below (fun U => ∃ (b6 : Int32), (b6 = 0 ∨ b6 = 1) ∧ U = s₁.setTop (mkF m 37 #[.val (.int p1), .val (.int p2), .val (.int p3), .val (.int p4), .val (.int b4), .val (.int b5), .unset, .unset, .unset, .unset, .unset, .unset, .unset] [(.int b6)])) (s₁.setTop (mkF m 26 #[.val (.int p1), .val (.int p2), .val (.int p3), .val (.int p4), .val (.int b4), .val (.int b5), .unset, .unset, .unset, .unset, .unset, .unset, .unset] [])) := by
    refine own_go (fun _ kt => XS.iloadN X0.here hx rfl (hb hby at_26) rfl kt) ?_
    show own_R _ _ _ _ (s₁.setTop (mkF m 27 #[.val (.int p1), .val (.int p2), .val (.int p3), .val (.int p4), .val (.int b4), .val (.int b5), .unset, .unset, .unset, .unset, .unset, .unset, .unset] [(.int p1)]))
    refine own_go (fun _ kt => XS.iconst X0.here hx rfl (hb hby at_27) kt) ?_
    show own_R _ _ _ _ (s₁.setTop (mkF m 28 #[.val (.int p1), .val (.int p2), .val (.int p3), .val (.int p4), .val (.int b4), .val (.int b5), .unset, .unset, .unset, .unset, .unset, .unset, .unset] [(.int (4 : Int32)), (.int p1)]))
    refine own_go (fun _ kt => XS.iand X0.here hx rfl (hb hby at_28) rfl kt) ?_
    show own_R _ _ _ _ (s₁.setTop (mkF m 29 #[.val (.int p1), .val (.int p2), .val (.int p3), .val (.int p4), .val (.int b4), .val (.int b5), .unset, .unset, .unset, .unset, .unset, .unset, .unset] [(.int (p1 &&& (4 : Int32)))]))
    by_cases hc43 : (p1 &&& (4 : Int32)) = (0 : Int32)
    · refine own_go (fun _ kt => XS.ifYes X0.here hx rfl (pc0 := 29) (pc' := 36) rfl (hb hby at_29) rfl ((if0 _ _).trans (teq hc43).1) (by decide) (by decide) kt) ?_
      show own_R _ _ _ _ (s₁.setTop (mkF m 36 #[.val (.int p1), .val (.int p2), .val (.int p3), .val (.int p4), .val (.int b4), .val (.int b5), .unset, .unset, .unset, .unset, .unset, .unset, .unset] []))
      refine own_go (fun _ kt => XS.iconst X0.here hx rfl (hb hby at_36) kt) ?_
      show own_R _ _ _ _ (s₁.setTop (mkF m 37 #[.val (.int p1), .val (.int p2), .val (.int p3), .val (.int p4), .val (.int b4), .val (.int b5), .unset, .unset, .unset, .unset, .unset, .unset, .unset] [(.int (0 : Int32))]))
      exact own_leaf ⟨(0 : Int32), by simp, rfl⟩
    · refine own_go (fun _ kt => XS.ifNo X0.here hx rfl (hb hby at_29) rfl ((if0 _ _).trans (feq hc43).1) kt) ?_
      show own_R _ _ _ _ (s₁.setTop (mkF m 32 #[.val (.int p1), .val (.int p2), .val (.int p3), .val (.int p4), .val (.int b4), .val (.int b5), .unset, .unset, .unset, .unset, .unset, .unset, .unset] []))
      refine own_go (fun _ kt => XS.iconst X0.here hx rfl (hb hby at_32) kt) ?_
      show own_R _ _ _ _ (s₁.setTop (mkF m 33 #[.val (.int p1), .val (.int p2), .val (.int p3), .val (.int p4), .val (.int b4), .val (.int b5), .unset, .unset, .unset, .unset, .unset, .unset, .unset] [(.int (1 : Int32))]))
      refine own_go (fun _ kt => XS.goto X0.here hx rfl (pc0 := 33) (pc' := 37) rfl (hb hby at_33) (by decide) (by decide) kt) ?_
      show own_R _ _ _ _ (s₁.setTop (mkF m 37 #[.val (.int p1), .val (.int p2), .val (.int p3), .val (.int p4), .val (.int b4), .val (.int b5), .unset, .unset, .unset, .unset, .unset, .unset, .unset] [(.int (1 : Int32))]))
      exact own_leaf ⟨(1 : Int32), by simp, rfl⟩
  refine own_go sg42 ?_
  show own_R _ _ _ _ (s₁.setTop (mkF m 37 #[.val (.int p1), .val (.int p2), .val (.int p3), .val (.int p4), .val (.int b4), .val (.int b5), .unset, .unset, .unset, .unset, .unset, .unset, .unset] [(.int b6)]))
  refine own_go (fun _ kt => XS.istore X0.here hx rfl (hb hby at_37) rfl (l' := #[.val (.int p1), .val (.int p2), .val (.int p3), .val (.int p4), .val (.int b4), .val (.int b5), .val (.int b6), .unset, .unset, .unset, .unset, .unset, .unset]) rfl kt) ?_
  show own_R _ _ _ _ (s₁.setTop (mkF m 39 #[.val (.int p1), .val (.int p2), .val (.int p3), .val (.int p4), .val (.int b4), .val (.int b5), .val (.int b6), .unset, .unset, .unset, .unset, .unset, .unset] []))
  obtain ⟨_, ⟨b7, hs44, rfl⟩, sg44⟩ : own_R p.tables e below (fun U => ∃ (b7 : Int32), (b7 = 0 ∨ b7 = 1) ∧ U = s₁.setTop (mkF m 51 #[.val (.int p1), .val (.int p2), .val (.int p3), .val (.int p4), .val (.int b4), .val (.int b5), .val (.int b6), .unset, .unset, .unset, .unset, .unset, .unset] [(.int b7)])) (s₁.setTop (mkF m 39 #[.val (.int p1), .val (.int p2), .val (.int p3), .val (.int p4), .val (.int b4), .val (.int b5), .val (.int b6), .unset, .unset, .unset, .unset, .unset, .unset] [])) := by
    refine own_go (fun _ kt => XS.iloadN X0.here hx rfl (hb hby at_39) rfl kt) ?_
    show own_R _ _ _ _ (s₁.setTop (mkF m 40 #[.val (.int p1), .val (.int p2), .val (.int p3), .val (.int p4), .val (.int b4), .val (.int b5), .val (.int b6), .unset, .unset, .unset, .unset, .unset, .unset] [(.int p1)]))
    refine own_go (fun _ kt => XS.bipush X0.here hx rfl (hb hby at_40) kt) ?_
    show own_R _ _ _ _ (s₁.setTop (mkF m 42 #[.val (.int p1), .val (.int p2), .val (.int p3), .val (.int p4), .val (.int b4), .val (.int b5), .val (.int b6), .unset, .unset, .unset, .unset, .unset, .unset] [(.int (8 : Int32)), (.int p1)]))
    refine own_go (fun _ kt => XS.iand X0.here hx rfl (hb hby at_42) rfl kt) ?_
    show own_R _ _ _ _ (s₁.setTop (mkF m 43 #[.val (.int p1), .val (.int p2), .val (.int p3), .val (.int p4), .val (.int b4), .val (.int b5), .val (.int b6), .unset, .unset, .unset, .unset, .unset, .unset] [(.int (p1 &&& (8 : Int32)))]))
    by_cases hc45 : (p1 &&& (8 : Int32)) = (0 : Int32)
    · refine own_go (fun _ kt => XS.ifYes X0.here hx rfl (pc0 := 43) (pc' := 50) rfl (hb hby at_43) rfl ((if0 _ _).trans (teq hc45).1) (by decide) (by decide) kt) ?_
      show own_R _ _ _ _ (s₁.setTop (mkF m 50 #[.val (.int p1), .val (.int p2), .val (.int p3), .val (.int p4), .val (.int b4), .val (.int b5), .val (.int b6), .unset, .unset, .unset, .unset, .unset, .unset] []))
      refine own_go (fun _ kt => XS.iconst X0.here hx rfl (hb hby at_50) kt) ?_
      show own_R _ _ _ _ (s₁.setTop (mkF m 51 #[.val (.int p1), .val (.int p2), .val (.int p3), .val (.int p4), .val (.int b4), .val (.int b5), .val (.int b6), .unset, .unset, .unset, .unset, .unset, .unset] [(.int (0 : Int32))]))
      exact own_leaf ⟨(0 : Int32), by simp, rfl⟩
    · refine own_go (fun _ kt => XS.ifNo X0.here hx rfl (hb hby at_43) rfl ((if0 _ _).trans (feq hc45).1) kt) ?_
      show own_R _ _ _ _ (s₁.setTop (mkF m 46 #[.val (.int p1), .val (.int p2), .val (.int p3), .val (.int p4), .val (.int b4), .val (.int b5), .val (.int b6), .unset, .unset, .unset, .unset, .unset, .unset] []))
      refine own_go (fun _ kt => XS.iconst X0.here hx rfl (hb hby at_46) kt) ?_
      show own_R _ _ _ _ (s₁.setTop (mkF m 47 #[.val (.int p1), .val (.int p2), .val (.int p3), .val (.int p4), .val (.int b4), .val (.int b5), .val (.int b6), .unset, .unset, .unset, .unset, .unset, .unset] [(.int (1 : Int32))]))
      refine own_go (fun _ kt => XS.goto X0.here hx rfl (pc0 := 47) (pc' := 51) rfl (hb hby at_47) (by decide) (by decide) kt) ?_
      show own_R _ _ _ _ (s₁.setTop (mkF m 51 #[.val (.int p1), .val (.int p2), .val (.int p3), .val (.int p4), .val (.int b4), .val (.int b5), .val (.int b6), .unset, .unset, .unset, .unset, .unset, .unset] [(.int (1 : Int32))]))
      exact own_leaf ⟨(1 : Int32), by simp, rfl⟩
  refine own_go sg44 ?_
  show own_R _ _ _ _ (s₁.setTop (mkF m 51 #[.val (.int p1), .val (.int p2), .val (.int p3), .val (.int p4), .val (.int b4), .val (.int b5), .val (.int b6), .unset, .unset, .unset, .unset, .unset, .unset] [(.int b7)]))
  refine own_go (fun _ kt => XS.istore X0.here hx rfl (hb hby at_51) rfl (l' := #[.val (.int p1), .val (.int p2), .val (.int p3), .val (.int p4), .val (.int b4), .val (.int b5), .val (.int b6), .val (.int b7), .unset, .unset, .unset, .unset, .unset]) rfl kt) ?_
  show own_R _ _ _ _ (s₁.setTop (mkF m 53 #[.val (.int p1), .val (.int p2), .val (.int p3), .val (.int p4), .val (.int b4), .val (.int b5), .val (.int b6), .val (.int b7), .unset, .unset, .unset, .unset, .unset] []))
  obtain ⟨T46, h46, X46, e46, E46, A46, D46, -, st46⟩ := newO X0 hx hZ hown (hw _ (List.mem_of_getElem? (i := 0) rfl)) (hw _ (List.mem_of_getElem? (i := 1) rfl)) (hw _ (List.mem_of_getElem? (i := 2) rfl)) e0 (g := (mkF m 53 #[.val (.int p1), .val (.int p2), .val (.int p3), .val (.int p4), .val (.int b4), .val (.int b5), .val (.int b6), .val (.int b7), .unset, .unset, .unset, .unset, .unset] [])) rfl (hb hby at_53) (by decide) (by decide)
  obtain ⟨b46, g46⟩ : ∃ z, z = h0.size := ⟨_, rfl⟩
  rw [← g46] at A46 D46 st46
  refine own_go st46 ?_
  have ne_d_b46 : d ≠ b46 := Nat.ne_of_lt (Nat.lt_of_lt_of_le V_d.lt (Nat.le_of_eq g46.symm))
  have g_b46 : n0 ≤ b46 := Nat.le_trans ZS (Nat.le_of_eq g46.symm)
  have sz_b46 : h0.size ≤ b46 := Nat.le_trans KP.1 (Nat.le_of_eq g46.symm)
  have V_d := V_d.ext E46
  have OLD := OLD.ext E46
  have ZS := Nat.le_trans ZS E46.1
  have KP := KP.ext E46
  have E_b46 := A46
  have F_modCount_b46 : Fld Z h46 b46 "java/util/AbstractList" "modCount" "I" (.int (0 : Int32)) := D46 (Or.inl (hw _ (List.mem_of_getElem? (i := 22) rfl))) (ty := .int) (by decide)
  have F_elementData_b46 : Fld Z h46 b46 "java/util/ArrayList" "elementData" "[Ljava/lang/Object;" .null := D46 (Or.inl (hw _ (List.mem_of_getElem? (i := 25) rfl))) (ty := (.array (.object "java/lang/Object"))) (by decide)
  have F_size_b46 : Fld Z h46 b46 "java/util/ArrayList" "size" "I" (.int (0 : Int32)) := D46 (Or.inl (hw _ (List.mem_of_getElem? (i := 72) rfl))) (ty := .int) (by decide)
  show own_R _ _ _ _ (T46.setTop (mkF m 56 #[.val (.int p1), .val (.int p2), .val (.int p3), .val (.int p4), .val (.int b4), .val (.int b5), .val (.int b6), .val (.int b7), .unset, .unset, .unset, .unset, .unset] [(.ref b46)]))
  refine own_go (fun _ kt => XS.dup X46.here hx rfl (hb hby at_56) rfl rfl kt) ?_
  show own_R _ _ _ _ (T46.setTop (mkF m 57 #[.val (.int p1), .val (.int p2), .val (.int p3), .val (.int p4), .val (.int b4), .val (.int b5), .val (.int b6), .val (.int b7), .unset, .unset, .unset, .unset, .unset] [(.ref b46), (.ref b46)]))
  obtain ⟨_, _, ⟨T47, L47, k47, n47⟩, -, X47, ⟨Lc47, hQ47, l47, y47, z47⟩, st47⟩ := X46.specialBack hx (y := (⟨"java/util/ArrayList", "<init>", "()V"⟩ : MethodName)) rfl hown (mvT hZ (hw _ (List.mem_of_getElem? (i := 3) rfl))) (mvT hZ (hw _ (List.mem_of_getElem? (i := 4) rfl))) (mvT hZ (hw _ (List.mem_of_getElem? (i := 5) rfl))) (by decide) (backOf (W := 1) (rm1 l Z a0 hw [] b46 (.int (0 : Int32)) .null (0 : Int32) d kd h46 n0 ZS E_b46 F_modCount_b46 F_elementData_b46 F_size_b46 g_b46 SD OLD V_d (Ne.symm ne_d_b46)) hZ (hw _ (List.mem_of_getElem? (i := 5) rfl)) (hw _ (List.mem_of_getElem? (i := 2) rfl)) (by decide) (by decide)) (g := (mkF m 57 #[.val (.int p1), .val (.int p2), .val (.int p3), .val (.int p4), .val (.int b4), .val (.int b5), .val (.int b6), .val (.int b7), .unset, .unset, .unset, .unset, .unset] [(.ref b46), (.ref b46)])) rfl (by rw [hml]; rfl) (Steps.refl _) (a := b46) (argsL := []) (rest := [(.ref b46)]) (lenOf pd_0 rfl) rfl (by show 2 * 0 + _ ≤ _; exact Nat.le_of_eq rfl) (hb hby at_57) (fun _ _ => ⟨rfl, e46, (by decide : 1 + 0 ≤ _), (by decide : 3 + 0 ≤ _)⟩)
  dsimp only [Pt.U, Pt.locs, Pt.cells, Pt.slots] at X47 l47 y47 z47 st47 hQ47
  subst l47 y47 z47
  obtain ⟨h47, e47'⟩ : ∃ z, z = T47.heap := ⟨_, rfl⟩
  rw [← e47'] at hQ47
  have e47 : T47.heap = h47 := e47'.symm
  obtain ⟨rfl, N47q, K47, pp1, pp2, pp3⟩ := hQ47
  have NF := Fr.app NF N47q
  refine own_go (fun _ kt => st47.trans kt) ?_
  have V_d := V_d.keep K47 (ninS ne_d_b46 nin0)
  have OLD := OLD.keep K47 (allS g_b46 all0)
  have E_b46 := E_b46.keep K47
  have ZS := Nat.le_trans ZS K47.1
  have KP := KP.trans K47 (allS (Or.inr sz_b46) all0)
  have F_modCount_b46 := pp1
  have F_elementData_b46 := pp2
  have F_size_b46 := pp3
  show own_R _ _ _ _ (T47.setTop (mkF m 60 #[.val (.int p1), .val (.int p2), .val (.int p3), .val (.int p4), .val (.int b4), .val (.int b5), .val (.int b6), .val (.int b7), .unset, .unset, .unset, .unset, .unset] [(.ref b46)]))
  refine own_go (fun _ kt => XS.astore X47.here hx rfl (hb hby at_60) rfl rfl (l' := #[.val (.int p1), .val (.int p2), .val (.int p3), .val (.int p4), .val (.int b4), .val (.int b5), .val (.int b6), .val (.int b7), .val (.ref b46), .unset, .unset, .unset, .unset]) rfl kt) ?_
  show own_R _ _ _ _ (T47.setTop (mkF m 62 #[.val (.int p1), .val (.int p2), .val (.int p3), .val (.int p4), .val (.int b4), .val (.int b5), .val (.int b6), .val (.int b7), .val (.ref b46), .unset, .unset, .unset, .unset] []))
  refine own_go (fun _ kt => XS.iload X47.here hx rfl (hb hby at_62) rfl kt) ?_
  show own_R _ _ _ _ (T47.setTop (mkF m 64 #[.val (.int p1), .val (.int p2), .val (.int p3), .val (.int p4), .val (.int b4), .val (.int b5), .val (.int b6), .val (.int b7), .val (.ref b46), .unset, .unset, .unset, .unset] [(.int b6)]))
  by_cases hc48 : b6 = (0 : Int32)
  · refine own_go (fun _ kt => XS.ifYes X47.here hx rfl (pc0 := 64) (pc' := 83) rfl (hb hby at_64) rfl ((if0 _ _).trans (teq hc48).1) (by decide) (by decide) kt) ?_
    show own_R _ _ _ _ (T47.setTop (mkF m 83 #[.val (.int p1), .val (.int p2), .val (.int p3), .val (.int p4), .val (.int b4), .val (.int b5), .val (.int b6), .val (.int b7), .val (.ref b46), .unset, .unset, .unset, .unset] []))
    obtain ⟨T49, h49, X49, e49, E49, A49, D49, -, st49⟩ := newO X47 hx hZ hown (hw _ (List.mem_of_getElem? (i := 26) rfl)) (hw _ (List.mem_of_getElem? (i := 27) rfl)) (hw _ (List.mem_of_getElem? (i := 28) rfl)) e47 (g := (mkF m 83 #[.val (.int p1), .val (.int p2), .val (.int p3), .val (.int p4), .val (.int b4), .val (.int b5), .val (.int b6), .val (.int b7), .val (.ref b46), .unset, .unset, .unset, .unset] [])) rfl (hb hby at_83) (by decide) (by decide)
    obtain ⟨b49, g49⟩ : ∃ z, z = h47.size := ⟨_, rfl⟩
    rw [← g49] at A49 D49 st49
    refine own_go st49 ?_
    have ne_d_b49 : d ≠ b49 := Nat.ne_of_lt (Nat.lt_of_lt_of_le V_d.lt (Nat.le_of_eq g49.symm))
    have ne_b46_b49 : b46 ≠ b49 := Nat.ne_of_lt (Nat.lt_of_lt_of_le E_b46.lt (Nat.le_of_eq g49.symm))
    have g_b49 : n0 ≤ b49 := Nat.le_trans ZS (Nat.le_of_eq g49.symm)
    have sz_b49 : h0.size ≤ b49 := Nat.le_trans KP.1 (Nat.le_of_eq g49.symm)
    have V_d := V_d.ext E49
    have OLD := OLD.ext E49
    have E_b46 := E_b46.ext E49
    have F_modCount_b46 := F_modCount_b46.ext E49
    have F_elementData_b46 := F_elementData_b46.ext E49
    have F_size_b46 := F_size_b46.ext E49
    have ZS := Nat.le_trans ZS E49.1
    have KP := KP.ext E49
    have E_b49 := A49
    have F_body_b49 : Fld Z h49 b49 "com/example/austere_nets/austerenets/program/Statement$Loop" "body" "Ljava/util/List;" .null := D49 (Or.inr (hw _ (List.mem_of_getElem? (i := 39) rfl))) (ty := (.object "java/util/List")) (by decide)
    have F_mayEndAtHead_b49 : Fld Z h49 b49 "com/example/austere_nets/austerenets/program/Statement$Loop" "mayEndAtHead" "Z" (.int (0 : Int32)) := D49 (Or.inr (hw _ (List.mem_of_getElem? (i := 41) rfl))) (ty := .boolean) (by decide)
    have F_hasExit_b49 : Fld Z h49 b49 "com/example/austere_nets/austerenets/program/Statement$Loop" "hasExit" "Z" (.int (0 : Int32)) := D49 (Or.inr (hw _ (List.mem_of_getElem? (i := 43) rfl))) (ty := .boolean) (by decide)
    have F_line_b49 : Fld Z h49 b49 "com/example/austere_nets/austerenets/program/Statement$Loop" "line" "I" (.int (0 : Int32)) := D49 (Or.inr (hw _ (List.mem_of_getElem? (i := 45) rfl))) (ty := .int) (by decide)
    have F_endLine_b49 : Fld Z h49 b49 "com/example/austere_nets/austerenets/program/Statement$Loop" "endLine" "I" (.int (0 : Int32)) := D49 (Or.inr (hw _ (List.mem_of_getElem? (i := 47) rfl))) (ty := .int) (by decide)
    show own_R _ _ _ _ (T49.setTop (mkF m 86 #[.val (.int p1), .val (.int p2), .val (.int p3), .val (.int p4), .val (.int b4), .val (.int b5), .val (.int b6), .val (.int b7), .val (.ref b46), .unset, .unset, .unset, .unset] [(.ref b49)]))
    refine own_go (fun _ kt => XS.dup X49.here hx rfl (hb hby at_86) rfl rfl kt) ?_
    show own_R _ _ _ _ (T49.setTop (mkF m 87 #[.val (.int p1), .val (.int p2), .val (.int p3), .val (.int p4), .val (.int b4), .val (.int b5), .val (.int b6), .val (.int b7), .val (.ref b46), .unset, .unset, .unset, .unset] [(.ref b49), (.ref b49)]))
    refine own_go (fun _ kt => XS.aload X49.here hx rfl (hb hby at_87) rfl rfl kt) ?_
    show own_R _ _ _ _ (T49.setTop (mkF m 89 #[.val (.int p1), .val (.int p2), .val (.int p3), .val (.int p4), .val (.int b4), .val (.int b5), .val (.int b6), .val (.int b7), .val (.ref b46), .unset, .unset, .unset, .unset] [(.ref b46), (.ref b49), (.ref b49)]))
    refine own_go (fun _ kt => XS.iload X49.here hx rfl (hb hby at_89) rfl kt) ?_
    show own_R _ _ _ _ (T49.setTop (mkF m 91 #[.val (.int p1), .val (.int p2), .val (.int p3), .val (.int p4), .val (.int b4), .val (.int b5), .val (.int b6), .val (.int b7), .val (.ref b46), .unset, .unset, .unset, .unset] [(.int b4), (.ref b46), (.ref b49), (.ref b49)]))
    refine own_go (fun _ kt => XS.iload X49.here hx rfl (hb hby at_91) rfl kt) ?_
    show own_R _ _ _ _ (T49.setTop (mkF m 93 #[.val (.int p1), .val (.int p2), .val (.int p3), .val (.int p4), .val (.int b4), .val (.int b5), .val (.int b6), .val (.int b7), .val (.ref b46), .unset, .unset, .unset, .unset] [(.int b5), (.int b4), (.ref b46), (.ref b49), (.ref b49)]))
    refine own_go (fun _ kt => XS.iloadN X49.here hx rfl (hb hby at_93) rfl kt) ?_
    show own_R _ _ _ _ (T49.setTop (mkF m 94 #[.val (.int p1), .val (.int p2), .val (.int p3), .val (.int p4), .val (.int b4), .val (.int b5), .val (.int b6), .val (.int b7), .val (.ref b46), .unset, .unset, .unset, .unset] [(.int p2), (.int b5), (.int b4), (.ref b46), (.ref b49), (.ref b49)]))
    refine own_go (fun _ kt => XS.iloadN X49.here hx rfl (hb hby at_94) rfl kt) ?_
    show own_R _ _ _ _ (T49.setTop (mkF m 95 #[.val (.int p1), .val (.int p2), .val (.int p3), .val (.int p4), .val (.int b4), .val (.int b5), .val (.int b6), .val (.int b7), .val (.ref b46), .unset, .unset, .unset, .unset] [(.int p3), (.int p2), (.int b5), (.int b4), (.ref b46), (.ref b49), (.ref b49)]))
    obtain ⟨_, _, ⟨T50, L50, k50, n50⟩, -, X50, ⟨Lc50, hQ50, l50, y50, z50⟩, st50⟩ := X49.specialBack hx (y := (⟨"com/example/austere_nets/austerenets/program/Statement$Loop", "<init>", "(Ljava/util/List;ZZII)V"⟩ : MethodName)) rfl hown (mvT hZ (hw _ (List.mem_of_getElem? (i := 29) rfl))) (mvT hZ (hw _ (List.mem_of_getElem? (i := 30) rfl))) (mvT hZ (hw _ (List.mem_of_getElem? (i := 31) rfl))) (by decide) (backOf (W := 1) (rm5 l Z a0 hw [] b49 b46 b4 b5 p2 p3 .null (.int (0 : Int32)) (.int (0 : Int32)) (.int (0 : Int32)) (.int (0 : Int32)) h49 n0 ZS E_b49 F_body_b49 F_mayEndAtHead_b49 F_hasExit_b49 F_line_b49 F_endLine_b49 g_b49 hs38 hs40) hZ (hw _ (List.mem_of_getElem? (i := 31) rfl)) (hw _ (List.mem_of_getElem? (i := 28) rfl)) (by decide) (by decide)) (g := (mkF m 95 #[.val (.int p1), .val (.int p2), .val (.int p3), .val (.int p4), .val (.int b4), .val (.int b5), .val (.int b6), .val (.int b7), .val (.ref b46), .unset, .unset, .unset, .unset] [(.int p3), (.int p2), (.int b5), (.int b4), (.ref b46), (.ref b49), (.ref b49)])) rfl (by rw [hml]; rfl) (Steps.refl _) (a := b49) (argsL := [(.ref b46), (.int b4), (.int b5), (.int p2), (.int p3)]) (rest := [(.ref b49)]) (lenOf pd_5 rfl) rfl (by show 2 * 0 + _ ≤ _; exact Nat.le_of_eq rfl) (hb hby at_95) (fun _ _ => ⟨rfl, e49, (by decide : 2 + 0 ≤ _), (by decide : 8 + 0 ≤ _)⟩)
    dsimp only [Pt.U, Pt.locs, Pt.cells, Pt.slots] at X50 l50 y50 z50 st50 hQ50
    subst l50 y50 z50
    obtain ⟨h50, e50'⟩ : ∃ z, z = T50.heap := ⟨_, rfl⟩
    rw [← e50'] at hQ50
    have e50 : T50.heap = h50 := e50'.symm
    obtain ⟨rfl, N50q, K50, pp1, pp2⟩ := hQ50
    have NF := Fr.app NF N50q
    refine own_go (fun _ kt => st50.trans kt) ?_
    have V_d := V_d.keep K50 (ninS ne_d_b49 nin0)
    have OLD := OLD.keep K50 (allS g_b49 all0)
    have E_b46 := E_b46.keep K50
    have F_modCount_b46 := F_modCount_b46.keep K50 (ninS ne_b46_b49 nin0)
    have F_elementData_b46 := F_elementData_b46.keep K50 (ninS ne_b46_b49 nin0)
    have F_size_b46 := F_size_b46.keep K50 (ninS ne_b46_b49 nin0)
    have E_b49 := E_b49.keep K50
    have ZS := Nat.le_trans ZS K50.1
    have KP := KP.trans K50 (allS (Or.inr sz_b49) all0)
    have F_mayEndAtHead_b49 := pp1
    have F_hasExit_b49 := pp2
    show own_R _ _ _ _ (T50.setTop (mkF m 98 #[.val (.int p1), .val (.int p2), .val (.int p3), .val (.int p4), .val (.int b4), .val (.int b5), .val (.int b6), .val (.int b7), .val (.ref b46), .unset, .unset, .unset, .unset] [(.ref b49)]))
    refine own_go (fun _ kt => XS.astore X50.here hx rfl (hb hby at_98) rfl rfl (l' := #[.val (.int p1), .val (.int p2), .val (.int p3), .val (.int p4), .val (.int b4), .val (.int b5), .val (.int b6), .val (.int b7), .val (.ref b46), .val (.ref b49), .unset, .unset, .unset]) rfl kt) ?_
    show own_R _ _ _ _ (T50.setTop (mkF m 100 #[.val (.int p1), .val (.int p2), .val (.int p3), .val (.int p4), .val (.int b4), .val (.int b5), .val (.int b6), .val (.int b7), .val (.ref b46), .val (.ref b49), .unset, .unset, .unset] []))
    obtain ⟨_, ⟨be, hs51, rfl⟩, sg51⟩ : own_R p.tables e below (fun U => ∃ (be : Int32), (be = own_out b4 b5) ∧ U = T50.setTop (mkF m 125 #[.val (.int p1), .val (.int p2), .val (.int p3), .val (.int p4), .val (.int b4), .val (.int b5), .val (.int b6), .val (.int b7), .val (.ref b46), .val (.ref b49), .val (.int be), .unset, .unset] [])) (T50.setTop (mkF m 100 #[.val (.int p1), .val (.int p2), .val (.int p3), .val (.int p4), .val (.int b4), .val (.int b5), .val (.int b6), .val (.int b7), .val (.ref b46), .val (.ref b49), .unset, .unset, .unset] [])) := by
      refine own_go (fun _ kt => XS.iload X50.here hx rfl (hb hby at_100) rfl kt) ?_
      show own_R _ _ _ _ (T50.setTop (mkF m 102 #[.val (.int p1), .val (.int p2), .val (.int p3), .val (.int p4), .val (.int b4), .val (.int b5), .val (.int b6), .val (.int b7), .val (.ref b46), .val (.ref b49), .unset, .unset, .unset] [(.int b4)]))
      by_cases hc52 : b4 = (0 : Int32)
      · refine own_go (fun _ kt => XS.ifYes X50.here hx rfl (pc0 := 102) (pc' := 111) rfl (hb hby at_102) rfl ((if0 _ _).trans (teq hc52).1) (by decide) (by decide) kt) ?_
        show own_R _ _ _ _ (T50.setTop (mkF m 111 #[.val (.int p1), .val (.int p2), .val (.int p3), .val (.int p4), .val (.int b4), .val (.int b5), .val (.int b6), .val (.int b7), .val (.ref b46), .val (.ref b49), .unset, .unset, .unset] []))
        refine own_go (fun _ kt => XS.iload X50.here hx rfl (hb hby at_111) rfl kt) ?_
        show own_R _ _ _ _ (T50.setTop (mkF m 113 #[.val (.int p1), .val (.int p2), .val (.int p3), .val (.int p4), .val (.int b4), .val (.int b5), .val (.int b6), .val (.int b7), .val (.ref b46), .val (.ref b49), .unset, .unset, .unset] [(.int b5)]))
        by_cases hc53 : b5 = (0 : Int32)
        · refine own_go (fun _ kt => XS.ifYes X50.here hx rfl (pc0 := 113) (pc' := 122) rfl (hb hby at_113) rfl ((if0 _ _).trans (teq hc53).1) (by decide) (by decide) kt) ?_
          show own_R _ _ _ _ (T50.setTop (mkF m 122 #[.val (.int p1), .val (.int p2), .val (.int p3), .val (.int p4), .val (.int b4), .val (.int b5), .val (.int b6), .val (.int b7), .val (.ref b46), .val (.ref b49), .unset, .unset, .unset] []))
          refine own_go (fun _ kt => XS.iconst X50.here hx rfl (hb hby at_122) kt) ?_
          show own_R _ _ _ _ (T50.setTop (mkF m 123 #[.val (.int p1), .val (.int p2), .val (.int p3), .val (.int p4), .val (.int b4), .val (.int b5), .val (.int b6), .val (.int b7), .val (.ref b46), .val (.ref b49), .unset, .unset, .unset] [(.int (0 : Int32))]))
          refine own_go (fun _ kt => XS.istore X50.here hx rfl (hb hby at_123) rfl (l' := #[.val (.int p1), .val (.int p2), .val (.int p3), .val (.int p4), .val (.int b4), .val (.int b5), .val (.int b6), .val (.int b7), .val (.ref b46), .val (.ref b49), .val (.int (0 : Int32)), .unset, .unset]) rfl kt) ?_
          show own_R _ _ _ _ (T50.setTop (mkF m 125 #[.val (.int p1), .val (.int p2), .val (.int p3), .val (.int p4), .val (.int b4), .val (.int b5), .val (.int b6), .val (.int b7), .val (.ref b46), .val (.ref b49), .val (.int (0 : Int32)), .unset, .unset] []))
          exact own_leaf ⟨(0 : Int32), by simp only [own_out, hc48, hc52, hc53, if_true, if_false], rfl⟩
        · refine own_go (fun _ kt => XS.ifNo X50.here hx rfl (hb hby at_113) rfl ((if0 _ _).trans (feq hc53).1) kt) ?_
          show own_R _ _ _ _ (T50.setTop (mkF m 116 #[.val (.int p1), .val (.int p2), .val (.int p3), .val (.int p4), .val (.int b4), .val (.int b5), .val (.int b6), .val (.int b7), .val (.ref b46), .val (.ref b49), .unset, .unset, .unset] []))
          refine own_go (fun _ kt => XS.iconst X50.here hx rfl (hb hby at_116) kt) ?_
          show own_R _ _ _ _ (T50.setTop (mkF m 117 #[.val (.int p1), .val (.int p2), .val (.int p3), .val (.int p4), .val (.int b4), .val (.int b5), .val (.int b6), .val (.int b7), .val (.ref b46), .val (.ref b49), .unset, .unset, .unset] [(.int (1 : Int32))]))
          refine own_go (fun _ kt => XS.istore X50.here hx rfl (hb hby at_117) rfl (l' := #[.val (.int p1), .val (.int p2), .val (.int p3), .val (.int p4), .val (.int b4), .val (.int b5), .val (.int b6), .val (.int b7), .val (.ref b46), .val (.ref b49), .val (.int (1 : Int32)), .unset, .unset]) rfl kt) ?_
          show own_R _ _ _ _ (T50.setTop (mkF m 119 #[.val (.int p1), .val (.int p2), .val (.int p3), .val (.int p4), .val (.int b4), .val (.int b5), .val (.int b6), .val (.int b7), .val (.ref b46), .val (.ref b49), .val (.int (1 : Int32)), .unset, .unset] []))
          refine own_go (fun _ kt => XS.goto X50.here hx rfl (pc0 := 119) (pc' := 125) rfl (hb hby at_119) (by decide) (by decide) kt) ?_
          show own_R _ _ _ _ (T50.setTop (mkF m 125 #[.val (.int p1), .val (.int p2), .val (.int p3), .val (.int p4), .val (.int b4), .val (.int b5), .val (.int b6), .val (.int b7), .val (.ref b46), .val (.ref b49), .val (.int (1 : Int32)), .unset, .unset] []))
          exact own_leaf ⟨(1 : Int32), by simp only [own_out, hc48, hc52, hc53, if_true, if_false], rfl⟩
      · refine own_go (fun _ kt => XS.ifNo X50.here hx rfl (hb hby at_102) rfl ((if0 _ _).trans (feq hc52).1) kt) ?_
        show own_R _ _ _ _ (T50.setTop (mkF m 105 #[.val (.int p1), .val (.int p2), .val (.int p3), .val (.int p4), .val (.int b4), .val (.int b5), .val (.int b6), .val (.int b7), .val (.ref b46), .val (.ref b49), .unset, .unset, .unset] []))
        refine own_go (fun _ kt => XS.iconst X50.here hx rfl (hb hby at_105) kt) ?_
        show own_R _ _ _ _ (T50.setTop (mkF m 106 #[.val (.int p1), .val (.int p2), .val (.int p3), .val (.int p4), .val (.int b4), .val (.int b5), .val (.int b6), .val (.int b7), .val (.ref b46), .val (.ref b49), .unset, .unset, .unset] [(.int (1 : Int32))]))
        refine own_go (fun _ kt => XS.istore X50.here hx rfl (hb hby at_106) rfl (l' := #[.val (.int p1), .val (.int p2), .val (.int p3), .val (.int p4), .val (.int b4), .val (.int b5), .val (.int b6), .val (.int b7), .val (.ref b46), .val (.ref b49), .val (.int (1 : Int32)), .unset, .unset]) rfl kt) ?_
        show own_R _ _ _ _ (T50.setTop (mkF m 108 #[.val (.int p1), .val (.int p2), .val (.int p3), .val (.int p4), .val (.int b4), .val (.int b5), .val (.int b6), .val (.int b7), .val (.ref b46), .val (.ref b49), .val (.int (1 : Int32)), .unset, .unset] []))
        refine own_go (fun _ kt => XS.goto X50.here hx rfl (pc0 := 108) (pc' := 125) rfl (hb hby at_108) (by decide) (by decide) kt) ?_
        show own_R _ _ _ _ (T50.setTop (mkF m 125 #[.val (.int p1), .val (.int p2), .val (.int p3), .val (.int p4), .val (.int b4), .val (.int b5), .val (.int b6), .val (.int b7), .val (.ref b46), .val (.ref b49), .val (.int (1 : Int32)), .unset, .unset] []))
        exact own_leaf ⟨(1 : Int32), by simp only [own_out, hc48, hc52, if_true, if_false], rfl⟩
    refine own_go sg51 ?_
    show own_R _ _ _ _ (T50.setTop (mkF m 125 #[.val (.int p1), .val (.int p2), .val (.int p3), .val (.int p4), .val (.int b4), .val (.int b5), .val (.int b6), .val (.int b7), .val (.ref b46), .val (.ref b49), .val (.int be), .unset, .unset] []))
    refine own_go (fun _ kt => XS.aload X50.here hx rfl (hb hby at_125) rfl rfl kt) ?_
    show own_R _ _ _ _ (T50.setTop (mkF m 127 #[.val (.int p1), .val (.int p2), .val (.int p3), .val (.int p4), .val (.int b4), .val (.int b5), .val (.int b6), .val (.int b7), .val (.ref b46), .val (.ref b49), .val (.int be), .unset, .unset] [(.ref b49)]))
    obtain ⟨cq54, kq54, q54a, q54b, q54c⟩ := isOf hZ e50 E_b49
    obtain ⟨_, _, ⟨T54, L54, k54, n54⟩, -, X54, ⟨Lc54, hQ54, l54, y54, z54⟩, st54⟩ := X50.virtualBack hx (y := (⟨"com/example/austere_nets/austerenets/program/Statement$Loop", "hasWayOut", "()Z"⟩ : MethodName)) (z := (⟨"com/example/austere_nets/austerenets/program/Statement$Loop", "hasWayOut", "()Z"⟩ : MethodName)) hown (mvT hZ (hw _ (List.mem_of_getElem? (i := 48) rfl))) (mvT hZ (hw _ (List.mem_of_getElem? (i := 49) rfl))) (notFace_of_selects (args := #[]) (mvT hZ (hw _ (List.mem_of_getElem? (i := 51) rfl)))) (mvT hZ (hw _ (List.mem_of_getElem? (i := 51) rfl))) (mvT hZ (hw _ (List.mem_of_getElem? (i := 50) rfl))) (by decide) (backOf (W := 0) (rm7 l Z a0 hw [] b49 b4 b5 h50 n0 ZS F_mayEndAtHead_b49 F_hasExit_b49) hZ (hw _ (List.mem_of_getElem? (i := 52) rfl)) (hw _ (List.mem_of_getElem? (i := 28) rfl)) (by decide) (by decide)) q54a q54c (g := (mkF m 127 #[.val (.int p1), .val (.int p2), .val (.int p3), .val (.int p4), .val (.int b4), .val (.int b5), .val (.int b6), .val (.int b7), .val (.ref b46), .val (.ref b49), .val (.int be), .unset, .unset] [(.ref b49)])) rfl (by rw [hml]; rfl) (Steps.refl _) (argsL := []) (rest := []) (lenOf pd_6 rfl) rfl (by show 2 * 0 + _ ≤ _; exact Nat.le_of_eq rfl) (hb hby at_127) (fun _ _ => ⟨rfl, e50, (by decide : 2 + 0 ≤ _), (by decide : 8 + 0 ≤ _)⟩)
    dsimp only [Pt.U, Pt.locs, Pt.cells, Pt.slots] at X54 l54 y54 z54 st54 hQ54
    subst l54 y54 z54
    obtain ⟨rfl, N54q, e54⟩ := hQ54
    have NF := Fr.app NF N54q
    refine own_go (fun _ kt => st54.trans kt) ?_
    show own_R _ _ _ _ (T54.setTop (mkF m 130 #[.val (.int p1), .val (.int p2), .val (.int p3), .val (.int p4), .val (.int b4), .val (.int b5), .val (.int b6), .val (.int b7), .val (.ref b46), .val (.ref b49), .val (.int be), .unset, .unset] [(.int (own_out b4 b5))]))
    refine own_go (fun _ kt => XS.istore X54.here hx rfl (hb hby at_130) rfl (l' := #[.val (.int p1), .val (.int p2), .val (.int p3), .val (.int p4), .val (.int b4), .val (.int b5), .val (.int b6), .val (.int b7), .val (.ref b46), .val (.ref b49), .val (.int be), .val (.int (own_out b4 b5)), .unset]) rfl kt) ?_
    show own_R _ _ _ _ (T54.setTop (mkF m 132 #[.val (.int p1), .val (.int p2), .val (.int p3), .val (.int p4), .val (.int b4), .val (.int b5), .val (.int b6), .val (.int b7), .val (.ref b46), .val (.ref b49), .val (.int be), .val (.int (own_out b4 b5)), .unset] []))
    refine own_go (fun _ kt => XS.aload X54.here hx rfl (hb hby at_132) rfl rfl kt) ?_
    show own_R _ _ _ _ (T54.setTop (mkF m 134 #[.val (.int p1), .val (.int p2), .val (.int p3), .val (.int p4), .val (.int b4), .val (.int b5), .val (.int b6), .val (.int b7), .val (.ref b46), .val (.ref b49), .val (.int be), .val (.int (own_out b4 b5)), .unset] [(.ref b49)]))
    obtain ⟨cq55, kq55, q55a, q55b, q55c⟩ := isOf hZ e54 E_b49
    obtain ⟨_, _, ⟨T55, L55, k55, n55⟩, -, X55, ⟨Lc55, hQ55, l55, y55, z55⟩, st55⟩ := X54.virtualBack hx (y := (⟨"com/example/austere_nets/austerenets/program/Statement$Loop", "hasWayOut", "()Z"⟩ : MethodName)) (z := (⟨"com/example/austere_nets/austerenets/program/Statement$Loop", "hasWayOut", "()Z"⟩ : MethodName)) hown (mvT hZ (hw _ (List.mem_of_getElem? (i := 48) rfl))) (mvT hZ (hw _ (List.mem_of_getElem? (i := 49) rfl))) (notFace_of_selects (args := #[]) (mvT hZ (hw _ (List.mem_of_getElem? (i := 51) rfl)))) (mvT hZ (hw _ (List.mem_of_getElem? (i := 51) rfl))) (mvT hZ (hw _ (List.mem_of_getElem? (i := 50) rfl))) (by decide) (backOf (W := 0) (rm7 l Z a0 hw [] b49 b4 b5 h50 n0 ZS F_mayEndAtHead_b49 F_hasExit_b49) hZ (hw _ (List.mem_of_getElem? (i := 52) rfl)) (hw _ (List.mem_of_getElem? (i := 28) rfl)) (by decide) (by decide)) q55a q55c (g := (mkF m 134 #[.val (.int p1), .val (.int p2), .val (.int p3), .val (.int p4), .val (.int b4), .val (.int b5), .val (.int b6), .val (.int b7), .val (.ref b46), .val (.ref b49), .val (.int be), .val (.int (own_out b4 b5)), .unset] [(.ref b49)])) rfl (by rw [hml]; rfl) (Steps.refl _) (argsL := []) (rest := []) (lenOf pd_6 rfl) rfl (by show 2 * 0 + _ ≤ _; exact Nat.le_of_eq rfl) (hb hby at_134) (fun _ _ => ⟨rfl, e54, (by decide : 2 + 0 ≤ _), (by decide : 8 + 0 ≤ _)⟩)
    dsimp only [Pt.U, Pt.locs, Pt.cells, Pt.slots] at X55 l55 y55 z55 st55 hQ55
    subst l55 y55 z55
    obtain ⟨rfl, N55q, e55⟩ := hQ55
    have NF := Fr.app NF N55q
    refine own_go (fun _ kt => st55.trans kt) ?_
    show own_R _ _ _ _ (T55.setTop (mkF m 137 #[.val (.int p1), .val (.int p2), .val (.int p3), .val (.int p4), .val (.int b4), .val (.int b5), .val (.int b6), .val (.int b7), .val (.ref b46), .val (.ref b49), .val (.int be), .val (.int (own_out b4 b5)), .unset] [(.int (own_out b4 b5))]))
    refine own_go (fun _ kt => XS.istore X55.here hx rfl (hb hby at_137) rfl (l' := #[.val (.int p1), .val (.int p2), .val (.int p3), .val (.int p4), .val (.int b4), .val (.int b5), .val (.int b6), .val (.int b7), .val (.ref b46), .val (.ref b49), .val (.int be), .val (.int (own_out b4 b5)), .val (.int (own_out b4 b5))]) rfl kt) ?_
    show own_R _ _ _ _ (T55.setTop (mkF m 139 #[.val (.int p1), .val (.int p2), .val (.int p3), .val (.int p4), .val (.int b4), .val (.int b5), .val (.int b6), .val (.int b7), .val (.ref b46), .val (.ref b49), .val (.int be), .val (.int (own_out b4 b5)), .val (.int (own_out b4 b5))] []))
    refine own_go (fun _ kt => XS.iload X55.here hx rfl (hb hby at_139) rfl kt) ?_
    show own_R _ _ _ _ (T55.setTop (mkF m 141 #[.val (.int p1), .val (.int p2), .val (.int p3), .val (.int p4), .val (.int b4), .val (.int b5), .val (.int b6), .val (.int b7), .val (.ref b46), .val (.ref b49), .val (.int be), .val (.int (own_out b4 b5)), .val (.int (own_out b4 b5))] [(.int (own_out b4 b5))]))
    refine own_go (fun _ kt => XS.iload X55.here hx rfl (hb hby at_141) rfl kt) ?_
    show own_R _ _ _ _ (T55.setTop (mkF m 143 #[.val (.int p1), .val (.int p2), .val (.int p3), .val (.int p4), .val (.int b4), .val (.int b5), .val (.int b6), .val (.int b7), .val (.ref b46), .val (.ref b49), .val (.int be), .val (.int (own_out b4 b5)), .val (.int (own_out b4 b5))] [(.int be), (.int (own_out b4 b5))]))
    refine own_go (fun _ kt => XS.icmpNo X55.here hx rfl (hb hby at_143) rfl (teq hs51.symm).2 kt) ?_
    show own_R _ _ _ _ (T55.setTop (mkF m 146 #[.val (.int p1), .val (.int p2), .val (.int p3), .val (.int p4), .val (.int b4), .val (.int b5), .val (.int b6), .val (.int b7), .val (.ref b46), .val (.ref b49), .val (.int be), .val (.int (own_out b4 b5)), .val (.int (own_out b4 b5))] []))
    refine own_go (fun _ kt => XS.iload X55.here hx rfl (hb hby at_146) rfl kt) ?_
    show own_R _ _ _ _ (T55.setTop (mkF m 148 #[.val (.int p1), .val (.int p2), .val (.int p3), .val (.int p4), .val (.int b4), .val (.int b5), .val (.int b6), .val (.int b7), .val (.ref b46), .val (.ref b49), .val (.int be), .val (.int (own_out b4 b5)), .val (.int (own_out b4 b5))] [(.int (own_out b4 b5))]))
    refine own_go (fun _ kt => XS.iload X55.here hx rfl (hb hby at_148) rfl kt) ?_
    show own_R _ _ _ _ (T55.setTop (mkF m 150 #[.val (.int p1), .val (.int p2), .val (.int p3), .val (.int p4), .val (.int b4), .val (.int b5), .val (.int b6), .val (.int b7), .val (.ref b46), .val (.ref b49), .val (.int be), .val (.int (own_out b4 b5)), .val (.int (own_out b4 b5))] [(.int (own_out b4 b5)), (.int (own_out b4 b5))]))
    refine own_go (fun _ kt => XS.icmpNo X55.here hx rfl (hb hby at_150) rfl (teq rfl).2 kt) ?_
    show own_R _ _ _ _ (T55.setTop (mkF m 153 #[.val (.int p1), .val (.int p2), .val (.int p3), .val (.int p4), .val (.int b4), .val (.int b5), .val (.int b6), .val (.int b7), .val (.ref b46), .val (.ref b49), .val (.int be), .val (.int (own_out b4 b5)), .val (.int (own_out b4 b5))] []))
    refine own_go (fun _ kt => XS.iconst X55.here hx rfl (hb hby at_153) kt) ?_
    show own_R _ _ _ _ (T55.setTop (mkF m 154 #[.val (.int p1), .val (.int p2), .val (.int p3), .val (.int p4), .val (.int b4), .val (.int b5), .val (.int b6), .val (.int b7), .val (.ref b46), .val (.ref b49), .val (.int be), .val (.int (own_out b4 b5)), .val (.int (own_out b4 b5))] [(.int (1 : Int32))]))
    refine own_go (fun _ kt => XS.goto X55.here hx rfl (pc0 := 154) (pc' := 158) rfl (hb hby at_154) (by decide) (by decide) kt) ?_
    show own_R _ _ _ _ (T55.setTop (mkF m 158 #[.val (.int p1), .val (.int p2), .val (.int p3), .val (.int p4), .val (.int b4), .val (.int b5), .val (.int b6), .val (.int b7), .val (.ref b46), .val (.ref b49), .val (.int be), .val (.int (own_out b4 b5)), .val (.int (own_out b4 b5))] [(.int (1 : Int32))]))
    exact own_retN X55 hx (t := .boolean) (by simp) Bd.returns (hb hby at_158) hlk ⟨rfl, NF⟩ (by decide) (by decide)
  · refine own_go (fun _ kt => XS.ifNo X47.here hx rfl (hb hby at_64) rfl ((if0 _ _).trans (feq hc48).1) kt) ?_
    show own_R _ _ _ _ (T47.setTop (mkF m 67 #[.val (.int p1), .val (.int p2), .val (.int p3), .val (.int p4), .val (.int b4), .val (.int b5), .val (.int b6), .val (.int b7), .val (.ref b46), .unset, .unset, .unset, .unset] []))
    refine own_go (fun _ kt => XS.aload X47.here hx rfl (hb hby at_67) rfl rfl kt) ?_
    show own_R _ _ _ _ (T47.setTop (mkF m 69 #[.val (.int p1), .val (.int p2), .val (.int p3), .val (.int p4), .val (.int b4), .val (.int b5), .val (.int b6), .val (.int b7), .val (.ref b46), .unset, .unset, .unset, .unset] [(.ref b46)]))
    obtain ⟨T56, h56, X56, e56, E56, A56, D56, -, st56⟩ := newO X47 hx hZ hown (hw _ (List.mem_of_getElem? (i := 53) rfl)) (hw _ (List.mem_of_getElem? (i := 54) rfl)) (hw _ (List.mem_of_getElem? (i := 55) rfl)) e47 (g := (mkF m 69 #[.val (.int p1), .val (.int p2), .val (.int p3), .val (.int p4), .val (.int b4), .val (.int b5), .val (.int b6), .val (.int b7), .val (.ref b46), .unset, .unset, .unset, .unset] [(.ref b46)])) rfl (hb hby at_69) (by decide) (by decide)
    obtain ⟨b56, g56⟩ : ∃ z, z = h47.size := ⟨_, rfl⟩
    rw [← g56] at A56 D56 st56
    refine own_go st56 ?_
    have ne_d_b56 : d ≠ b56 := Nat.ne_of_lt (Nat.lt_of_lt_of_le V_d.lt (Nat.le_of_eq g56.symm))
    have ne_b46_b56 : b46 ≠ b56 := Nat.ne_of_lt (Nat.lt_of_lt_of_le E_b46.lt (Nat.le_of_eq g56.symm))
    have g_b56 : n0 ≤ b56 := Nat.le_trans ZS (Nat.le_of_eq g56.symm)
    have sz_b56 : h0.size ≤ b56 := Nat.le_trans KP.1 (Nat.le_of_eq g56.symm)
    have V_d := V_d.ext E56
    have OLD := OLD.ext E56
    have E_b46 := E_b46.ext E56
    have F_modCount_b46 := F_modCount_b46.ext E56
    have F_elementData_b46 := F_elementData_b46.ext E56
    have F_size_b46 := F_size_b46.ext E56
    have ZS := Nat.le_trans ZS E56.1
    have KP := KP.ext E56
    have E_b56 := A56
    have F_conditional_b56 : Fld Z h56 b56 "com/example/austere_nets/austerenets/program/Statement$Exit" "conditional" "Z" (.int (0 : Int32)) := D56 (Or.inr (hw _ (List.mem_of_getElem? (i := 61) rfl))) (ty := .boolean) (by decide)
    have F_line_b56 : Fld Z h56 b56 "com/example/austere_nets/austerenets/program/Statement$Exit" "line" "I" (.int (0 : Int32)) := D56 (Or.inr (hw _ (List.mem_of_getElem? (i := 63) rfl))) (ty := .int) (by decide)
    show own_R _ _ _ _ (T56.setTop (mkF m 72 #[.val (.int p1), .val (.int p2), .val (.int p3), .val (.int p4), .val (.int b4), .val (.int b5), .val (.int b6), .val (.int b7), .val (.ref b46), .unset, .unset, .unset, .unset] [(.ref b56), (.ref b46)]))
    refine own_go (fun _ kt => XS.dup X56.here hx rfl (hb hby at_72) rfl rfl kt) ?_
    show own_R _ _ _ _ (T56.setTop (mkF m 73 #[.val (.int p1), .val (.int p2), .val (.int p3), .val (.int p4), .val (.int b4), .val (.int b5), .val (.int b6), .val (.int b7), .val (.ref b46), .unset, .unset, .unset, .unset] [(.ref b56), (.ref b56), (.ref b46)]))
    refine own_go (fun _ kt => XS.iload X56.here hx rfl (hb hby at_73) rfl kt) ?_
    show own_R _ _ _ _ (T56.setTop (mkF m 75 #[.val (.int p1), .val (.int p2), .val (.int p3), .val (.int p4), .val (.int b4), .val (.int b5), .val (.int b6), .val (.int b7), .val (.ref b46), .unset, .unset, .unset, .unset] [(.int b7), (.ref b56), (.ref b56), (.ref b46)]))
    refine own_go (fun _ kt => XS.iloadN X56.here hx rfl (hb hby at_75) rfl kt) ?_
    show own_R _ _ _ _ (T56.setTop (mkF m 76 #[.val (.int p1), .val (.int p2), .val (.int p3), .val (.int p4), .val (.int b4), .val (.int b5), .val (.int b6), .val (.int b7), .val (.ref b46), .unset, .unset, .unset, .unset] [(.int p4), (.int b7), (.ref b56), (.ref b56), (.ref b46)]))
    obtain ⟨_, _, ⟨T57, L57, k57, n57⟩, -, X57, ⟨Lc57, hQ57, l57, y57, z57⟩, st57⟩ := X56.specialBack hx (y := (⟨"com/example/austere_nets/austerenets/program/Statement$Exit", "<init>", "(ZI)V"⟩ : MethodName)) rfl hown (mvT hZ (hw _ (List.mem_of_getElem? (i := 56) rfl))) (mvT hZ (hw _ (List.mem_of_getElem? (i := 57) rfl))) (mvT hZ (hw _ (List.mem_of_getElem? (i := 58) rfl))) (by decide) (backOf (W := 2) (rm8 l Z a0 hw [] b56 b7 p4 (.int (0 : Int32)) (.int (0 : Int32)) h56 n0 ZS E_b56 F_conditional_b56 F_line_b56 g_b56) hZ (hw _ (List.mem_of_getElem? (i := 58) rfl)) (hw _ (List.mem_of_getElem? (i := 55) rfl)) (by decide) (by decide)) (g := (mkF m 76 #[.val (.int p1), .val (.int p2), .val (.int p3), .val (.int p4), .val (.int b4), .val (.int b5), .val (.int b6), .val (.int b7), .val (.ref b46), .unset, .unset, .unset, .unset] [(.int p4), (.int b7), (.ref b56), (.ref b56), (.ref b46)])) rfl (by rw [hml]; rfl) (Steps.refl _) (a := b56) (argsL := [(.int b7), (.int p4)]) (rest := [(.ref b56), (.ref b46)]) (lenOf pd_7 rfl) rfl (by show 2 * 0 + _ ≤ _; exact Nat.le_of_eq rfl) (hb hby at_76) (fun _ _ => ⟨rfl, e56, (by decide : 2 + 0 ≤ _), (by decide : 5 + 0 ≤ _)⟩)
    dsimp only [Pt.U, Pt.locs, Pt.cells, Pt.slots] at X57 l57 y57 z57 st57 hQ57
    subst l57 y57 z57
    obtain ⟨h57, e57'⟩ : ∃ z, z = T57.heap := ⟨_, rfl⟩
    rw [← e57'] at hQ57
    have e57 : T57.heap = h57 := e57'.symm
    obtain ⟨rfl, N57q, K57⟩ := hQ57
    have NF := Fr.app NF N57q
    refine own_go (fun _ kt => st57.trans kt) ?_
    have V_d := V_d.keep K57 (ninS ne_d_b56 nin0)
    have OLD := OLD.keep K57 (allS g_b56 all0)
    have E_b46 := E_b46.keep K57
    have F_modCount_b46 := F_modCount_b46.keep K57 (ninS ne_b46_b56 nin0)
    have F_elementData_b46 := F_elementData_b46.keep K57 (ninS ne_b46_b56 nin0)
    have F_size_b46 := F_size_b46.keep K57 (ninS ne_b46_b56 nin0)
    have E_b56 := E_b56.keep K57
    have ZS := Nat.le_trans ZS K57.1
    have KP := KP.trans K57 (allS (Or.inr sz_b56) all0)
    show own_R _ _ _ _ (T57.setTop (mkF m 79 #[.val (.int p1), .val (.int p2), .val (.int p3), .val (.int p4), .val (.int b4), .val (.int b5), .val (.int b6), .val (.int b7), .val (.ref b46), .unset, .unset, .unset, .unset] [(.ref b56), (.ref b46)]))
    obtain ⟨cq58, kq58, q58a, q58b, q58c⟩ := isOf hZ e57 E_b46
    obtain ⟨_, _, ⟨T58, L58, k58, n58⟩, -, X58, ⟨Lc58, hQ58, l58, y58, z58⟩, st58⟩ := X57.virtualBack hx (y := (⟨"java/util/ArrayList", "add", "(Ljava/lang/Object;)Z"⟩ : MethodName)) (z := (⟨"java/util/ArrayList", "add", "(Ljava/lang/Object;)Z"⟩ : MethodName)) hown (mvT hZ (hw _ (List.mem_of_getElem? (i := 64) rfl))) (mvT hZ (hw _ (List.mem_of_getElem? (i := 65) rfl))) (notFace_of_selects (args := #[]) (mvT hZ (hw _ (List.mem_of_getElem? (i := 67) rfl)))) (mvT hZ (hw _ (List.mem_of_getElem? (i := 67) rfl))) (mvT hZ (hw _ (List.mem_of_getElem? (i := 66) rfl))) (by decide) (backOf (W := 0) (rm9 l Z a0 hw [] b46 b56 (0 : Int32) d kd h57 n0 ZS E_b46 F_modCount_b46 F_elementData_b46 F_size_b46 g_b46 SD OLD V_d (Ne.symm ne_d_b46) ne_b46_b56 E_b56) hZ (hw _ (List.mem_of_getElem? (i := 68) rfl)) (hw _ (List.mem_of_getElem? (i := 2) rfl)) (by decide) (by decide)) q58a q58c (g := (mkF m 79 #[.val (.int p1), .val (.int p2), .val (.int p3), .val (.int p4), .val (.int b4), .val (.int b5), .val (.int b6), .val (.int b7), .val (.ref b46), .unset, .unset, .unset, .unset] [(.ref b56), (.ref b46)])) rfl (by rw [hml]; rfl) (Steps.refl _) (argsL := [(.ref b56)]) (rest := []) (lenOf pd_8 rfl) rfl (by show 2 * 0 + _ ≤ _; exact Nat.le_of_eq rfl) (hb hby at_79) (fun _ _ => ⟨rfl, e57, (by decide : 2 + 1 ≤ _), (by decide : 5 + 10 ≤ _)⟩)
    dsimp only [Pt.U, Pt.locs, Pt.cells, Pt.slots] at X58 l58 y58 z58 st58 hQ58
    subst l58 y58 z58
    obtain ⟨h58, e58'⟩ : ∃ z, z = T58.heap := ⟨_, rfl⟩
    rw [← e58'] at hQ58
    have e58 : T58.heap = h58 := e58'.symm
    obtain ⟨rfl, N58q, K58⟩ := hQ58
    have NF := Fr.app NF N58q
    refine own_go (fun _ kt => st58.trans kt) ?_
    have V_d := V_d.keep K58 (ninS ne_d_b46 nin0)
    have OLD := OLD.keep K58 (allS g_b46 all0)
    have E_b46 := E_b46.keep K58
    have E_b56 := E_b56.keep K58
    have ZS := Nat.le_trans ZS K58.1
    have KP := KP.trans K58 (allS (Or.inr sz_b46) all0)
    show own_R _ _ _ _ (T58.setTop (mkF m 82 #[.val (.int p1), .val (.int p2), .val (.int p3), .val (.int p4), .val (.int b4), .val (.int b5), .val (.int b6), .val (.int b7), .val (.ref b46), .unset, .unset, .unset, .unset] [(.int (1 : Int32))]))
    refine own_go (fun _ kt => XS.pop X58.here hx rfl (hb hby at_82) rfl rfl kt) ?_
    show own_R _ _ _ _ (T58.setTop (mkF m 83 #[.val (.int p1), .val (.int p2), .val (.int p3), .val (.int p4), .val (.int b4), .val (.int b5), .val (.int b6), .val (.int b7), .val (.ref b46), .unset, .unset, .unset, .unset] []))
    obtain ⟨T59, h59, X59, e59, E59, A59, D59, -, st59⟩ := newO X58 hx hZ hown (hw _ (List.mem_of_getElem? (i := 26) rfl)) (hw _ (List.mem_of_getElem? (i := 27) rfl)) (hw _ (List.mem_of_getElem? (i := 28) rfl)) e58 (g := (mkF m 83 #[.val (.int p1), .val (.int p2), .val (.int p3), .val (.int p4), .val (.int b4), .val (.int b5), .val (.int b6), .val (.int b7), .val (.ref b46), .unset, .unset, .unset, .unset] [])) rfl (hb hby at_83) (by decide) (by decide)
    obtain ⟨b59, g59⟩ : ∃ z, z = h58.size := ⟨_, rfl⟩
    rw [← g59] at A59 D59 st59
    refine own_go st59 ?_
    have ne_d_b59 : d ≠ b59 := Nat.ne_of_lt (Nat.lt_of_lt_of_le V_d.lt (Nat.le_of_eq g59.symm))
    have ne_b46_b59 : b46 ≠ b59 := Nat.ne_of_lt (Nat.lt_of_lt_of_le E_b46.lt (Nat.le_of_eq g59.symm))
    have ne_b56_b59 : b56 ≠ b59 := Nat.ne_of_lt (Nat.lt_of_lt_of_le E_b56.lt (Nat.le_of_eq g59.symm))
    have g_b59 : n0 ≤ b59 := Nat.le_trans ZS (Nat.le_of_eq g59.symm)
    have sz_b59 : h0.size ≤ b59 := Nat.le_trans KP.1 (Nat.le_of_eq g59.symm)
    have V_d := V_d.ext E59
    have OLD := OLD.ext E59
    have E_b46 := E_b46.ext E59
    have E_b56 := E_b56.ext E59
    have ZS := Nat.le_trans ZS E59.1
    have KP := KP.ext E59
    have E_b59 := A59
    have F_body_b59 : Fld Z h59 b59 "com/example/austere_nets/austerenets/program/Statement$Loop" "body" "Ljava/util/List;" .null := D59 (Or.inr (hw _ (List.mem_of_getElem? (i := 39) rfl))) (ty := (.object "java/util/List")) (by decide)
    have F_mayEndAtHead_b59 : Fld Z h59 b59 "com/example/austere_nets/austerenets/program/Statement$Loop" "mayEndAtHead" "Z" (.int (0 : Int32)) := D59 (Or.inr (hw _ (List.mem_of_getElem? (i := 41) rfl))) (ty := .boolean) (by decide)
    have F_hasExit_b59 : Fld Z h59 b59 "com/example/austere_nets/austerenets/program/Statement$Loop" "hasExit" "Z" (.int (0 : Int32)) := D59 (Or.inr (hw _ (List.mem_of_getElem? (i := 43) rfl))) (ty := .boolean) (by decide)
    have F_line_b59 : Fld Z h59 b59 "com/example/austere_nets/austerenets/program/Statement$Loop" "line" "I" (.int (0 : Int32)) := D59 (Or.inr (hw _ (List.mem_of_getElem? (i := 45) rfl))) (ty := .int) (by decide)
    have F_endLine_b59 : Fld Z h59 b59 "com/example/austere_nets/austerenets/program/Statement$Loop" "endLine" "I" (.int (0 : Int32)) := D59 (Or.inr (hw _ (List.mem_of_getElem? (i := 47) rfl))) (ty := .int) (by decide)
    show own_R _ _ _ _ (T59.setTop (mkF m 86 #[.val (.int p1), .val (.int p2), .val (.int p3), .val (.int p4), .val (.int b4), .val (.int b5), .val (.int b6), .val (.int b7), .val (.ref b46), .unset, .unset, .unset, .unset] [(.ref b59)]))
    refine own_go (fun _ kt => XS.dup X59.here hx rfl (hb hby at_86) rfl rfl kt) ?_
    show own_R _ _ _ _ (T59.setTop (mkF m 87 #[.val (.int p1), .val (.int p2), .val (.int p3), .val (.int p4), .val (.int b4), .val (.int b5), .val (.int b6), .val (.int b7), .val (.ref b46), .unset, .unset, .unset, .unset] [(.ref b59), (.ref b59)]))
    refine own_go (fun _ kt => XS.aload X59.here hx rfl (hb hby at_87) rfl rfl kt) ?_
    show own_R _ _ _ _ (T59.setTop (mkF m 89 #[.val (.int p1), .val (.int p2), .val (.int p3), .val (.int p4), .val (.int b4), .val (.int b5), .val (.int b6), .val (.int b7), .val (.ref b46), .unset, .unset, .unset, .unset] [(.ref b46), (.ref b59), (.ref b59)]))
    refine own_go (fun _ kt => XS.iload X59.here hx rfl (hb hby at_89) rfl kt) ?_
    show own_R _ _ _ _ (T59.setTop (mkF m 91 #[.val (.int p1), .val (.int p2), .val (.int p3), .val (.int p4), .val (.int b4), .val (.int b5), .val (.int b6), .val (.int b7), .val (.ref b46), .unset, .unset, .unset, .unset] [(.int b4), (.ref b46), (.ref b59), (.ref b59)]))
    refine own_go (fun _ kt => XS.iload X59.here hx rfl (hb hby at_91) rfl kt) ?_
    show own_R _ _ _ _ (T59.setTop (mkF m 93 #[.val (.int p1), .val (.int p2), .val (.int p3), .val (.int p4), .val (.int b4), .val (.int b5), .val (.int b6), .val (.int b7), .val (.ref b46), .unset, .unset, .unset, .unset] [(.int b5), (.int b4), (.ref b46), (.ref b59), (.ref b59)]))
    refine own_go (fun _ kt => XS.iloadN X59.here hx rfl (hb hby at_93) rfl kt) ?_
    show own_R _ _ _ _ (T59.setTop (mkF m 94 #[.val (.int p1), .val (.int p2), .val (.int p3), .val (.int p4), .val (.int b4), .val (.int b5), .val (.int b6), .val (.int b7), .val (.ref b46), .unset, .unset, .unset, .unset] [(.int p2), (.int b5), (.int b4), (.ref b46), (.ref b59), (.ref b59)]))
    refine own_go (fun _ kt => XS.iloadN X59.here hx rfl (hb hby at_94) rfl kt) ?_
    show own_R _ _ _ _ (T59.setTop (mkF m 95 #[.val (.int p1), .val (.int p2), .val (.int p3), .val (.int p4), .val (.int b4), .val (.int b5), .val (.int b6), .val (.int b7), .val (.ref b46), .unset, .unset, .unset, .unset] [(.int p3), (.int p2), (.int b5), (.int b4), (.ref b46), (.ref b59), (.ref b59)]))
    obtain ⟨_, _, ⟨T60, L60, k60, n60⟩, -, X60, ⟨Lc60, hQ60, l60, y60, z60⟩, st60⟩ := X59.specialBack hx (y := (⟨"com/example/austere_nets/austerenets/program/Statement$Loop", "<init>", "(Ljava/util/List;ZZII)V"⟩ : MethodName)) rfl hown (mvT hZ (hw _ (List.mem_of_getElem? (i := 29) rfl))) (mvT hZ (hw _ (List.mem_of_getElem? (i := 30) rfl))) (mvT hZ (hw _ (List.mem_of_getElem? (i := 31) rfl))) (by decide) (backOf (W := 1) (rm5 l Z a0 hw [] b59 b46 b4 b5 p2 p3 .null (.int (0 : Int32)) (.int (0 : Int32)) (.int (0 : Int32)) (.int (0 : Int32)) h59 n0 ZS E_b59 F_body_b59 F_mayEndAtHead_b59 F_hasExit_b59 F_line_b59 F_endLine_b59 g_b59 hs38 hs40) hZ (hw _ (List.mem_of_getElem? (i := 31) rfl)) (hw _ (List.mem_of_getElem? (i := 28) rfl)) (by decide) (by decide)) (g := (mkF m 95 #[.val (.int p1), .val (.int p2), .val (.int p3), .val (.int p4), .val (.int b4), .val (.int b5), .val (.int b6), .val (.int b7), .val (.ref b46), .unset, .unset, .unset, .unset] [(.int p3), (.int p2), (.int b5), (.int b4), (.ref b46), (.ref b59), (.ref b59)])) rfl (by rw [hml]; rfl) (Steps.refl _) (a := b59) (argsL := [(.ref b46), (.int b4), (.int b5), (.int p2), (.int p3)]) (rest := [(.ref b59)]) (lenOf pd_5 rfl) rfl (by show 2 * 0 + _ ≤ _; exact Nat.le_of_eq rfl) (hb hby at_95) (fun _ _ => ⟨rfl, e59, (by decide : 4 + 0 ≤ _), (by decide : 20 + 0 ≤ _)⟩)
    dsimp only [Pt.U, Pt.locs, Pt.cells, Pt.slots] at X60 l60 y60 z60 st60 hQ60
    subst l60 y60 z60
    obtain ⟨h60, e60'⟩ : ∃ z, z = T60.heap := ⟨_, rfl⟩
    rw [← e60'] at hQ60
    have e60 : T60.heap = h60 := e60'.symm
    obtain ⟨rfl, N60q, K60, pp1, pp2⟩ := hQ60
    have NF := Fr.app NF N60q
    refine own_go (fun _ kt => st60.trans kt) ?_
    have V_d := V_d.keep K60 (ninS ne_d_b59 nin0)
    have OLD := OLD.keep K60 (allS g_b59 all0)
    have E_b46 := E_b46.keep K60
    have E_b56 := E_b56.keep K60
    have E_b59 := E_b59.keep K60
    have ZS := Nat.le_trans ZS K60.1
    have KP := KP.trans K60 (allS (Or.inr sz_b59) all0)
    have F_mayEndAtHead_b59 := pp1
    have F_hasExit_b59 := pp2
    show own_R _ _ _ _ (T60.setTop (mkF m 98 #[.val (.int p1), .val (.int p2), .val (.int p3), .val (.int p4), .val (.int b4), .val (.int b5), .val (.int b6), .val (.int b7), .val (.ref b46), .unset, .unset, .unset, .unset] [(.ref b59)]))
    refine own_go (fun _ kt => XS.astore X60.here hx rfl (hb hby at_98) rfl rfl (l' := #[.val (.int p1), .val (.int p2), .val (.int p3), .val (.int p4), .val (.int b4), .val (.int b5), .val (.int b6), .val (.int b7), .val (.ref b46), .val (.ref b59), .unset, .unset, .unset]) rfl kt) ?_
    show own_R _ _ _ _ (T60.setTop (mkF m 100 #[.val (.int p1), .val (.int p2), .val (.int p3), .val (.int p4), .val (.int b4), .val (.int b5), .val (.int b6), .val (.int b7), .val (.ref b46), .val (.ref b59), .unset, .unset, .unset] []))
    obtain ⟨_, ⟨be, hs61, rfl⟩, sg61⟩ : own_R p.tables e below (fun U => ∃ (be : Int32), (be = own_out b4 b5) ∧ U = T60.setTop (mkF m 125 #[.val (.int p1), .val (.int p2), .val (.int p3), .val (.int p4), .val (.int b4), .val (.int b5), .val (.int b6), .val (.int b7), .val (.ref b46), .val (.ref b59), .val (.int be), .unset, .unset] [])) (T60.setTop (mkF m 100 #[.val (.int p1), .val (.int p2), .val (.int p3), .val (.int p4), .val (.int b4), .val (.int b5), .val (.int b6), .val (.int b7), .val (.ref b46), .val (.ref b59), .unset, .unset, .unset] [])) := by
      refine own_go (fun _ kt => XS.iload X60.here hx rfl (hb hby at_100) rfl kt) ?_
      show own_R _ _ _ _ (T60.setTop (mkF m 102 #[.val (.int p1), .val (.int p2), .val (.int p3), .val (.int p4), .val (.int b4), .val (.int b5), .val (.int b6), .val (.int b7), .val (.ref b46), .val (.ref b59), .unset, .unset, .unset] [(.int b4)]))
      by_cases hc62 : b4 = (0 : Int32)
      · refine own_go (fun _ kt => XS.ifYes X60.here hx rfl (pc0 := 102) (pc' := 111) rfl (hb hby at_102) rfl ((if0 _ _).trans (teq hc62).1) (by decide) (by decide) kt) ?_
        show own_R _ _ _ _ (T60.setTop (mkF m 111 #[.val (.int p1), .val (.int p2), .val (.int p3), .val (.int p4), .val (.int b4), .val (.int b5), .val (.int b6), .val (.int b7), .val (.ref b46), .val (.ref b59), .unset, .unset, .unset] []))
        refine own_go (fun _ kt => XS.iload X60.here hx rfl (hb hby at_111) rfl kt) ?_
        show own_R _ _ _ _ (T60.setTop (mkF m 113 #[.val (.int p1), .val (.int p2), .val (.int p3), .val (.int p4), .val (.int b4), .val (.int b5), .val (.int b6), .val (.int b7), .val (.ref b46), .val (.ref b59), .unset, .unset, .unset] [(.int b5)]))
        by_cases hc63 : b5 = (0 : Int32)
        · refine own_go (fun _ kt => XS.ifYes X60.here hx rfl (pc0 := 113) (pc' := 122) rfl (hb hby at_113) rfl ((if0 _ _).trans (teq hc63).1) (by decide) (by decide) kt) ?_
          show own_R _ _ _ _ (T60.setTop (mkF m 122 #[.val (.int p1), .val (.int p2), .val (.int p3), .val (.int p4), .val (.int b4), .val (.int b5), .val (.int b6), .val (.int b7), .val (.ref b46), .val (.ref b59), .unset, .unset, .unset] []))
          refine own_go (fun _ kt => XS.iconst X60.here hx rfl (hb hby at_122) kt) ?_
          show own_R _ _ _ _ (T60.setTop (mkF m 123 #[.val (.int p1), .val (.int p2), .val (.int p3), .val (.int p4), .val (.int b4), .val (.int b5), .val (.int b6), .val (.int b7), .val (.ref b46), .val (.ref b59), .unset, .unset, .unset] [(.int (0 : Int32))]))
          refine own_go (fun _ kt => XS.istore X60.here hx rfl (hb hby at_123) rfl (l' := #[.val (.int p1), .val (.int p2), .val (.int p3), .val (.int p4), .val (.int b4), .val (.int b5), .val (.int b6), .val (.int b7), .val (.ref b46), .val (.ref b59), .val (.int (0 : Int32)), .unset, .unset]) rfl kt) ?_
          show own_R _ _ _ _ (T60.setTop (mkF m 125 #[.val (.int p1), .val (.int p2), .val (.int p3), .val (.int p4), .val (.int b4), .val (.int b5), .val (.int b6), .val (.int b7), .val (.ref b46), .val (.ref b59), .val (.int (0 : Int32)), .unset, .unset] []))
          exact own_leaf ⟨(0 : Int32), by simp only [own_out, hc48, hc62, hc63, if_true, if_false], rfl⟩
        · refine own_go (fun _ kt => XS.ifNo X60.here hx rfl (hb hby at_113) rfl ((if0 _ _).trans (feq hc63).1) kt) ?_
          show own_R _ _ _ _ (T60.setTop (mkF m 116 #[.val (.int p1), .val (.int p2), .val (.int p3), .val (.int p4), .val (.int b4), .val (.int b5), .val (.int b6), .val (.int b7), .val (.ref b46), .val (.ref b59), .unset, .unset, .unset] []))
          refine own_go (fun _ kt => XS.iconst X60.here hx rfl (hb hby at_116) kt) ?_
          show own_R _ _ _ _ (T60.setTop (mkF m 117 #[.val (.int p1), .val (.int p2), .val (.int p3), .val (.int p4), .val (.int b4), .val (.int b5), .val (.int b6), .val (.int b7), .val (.ref b46), .val (.ref b59), .unset, .unset, .unset] [(.int (1 : Int32))]))
          refine own_go (fun _ kt => XS.istore X60.here hx rfl (hb hby at_117) rfl (l' := #[.val (.int p1), .val (.int p2), .val (.int p3), .val (.int p4), .val (.int b4), .val (.int b5), .val (.int b6), .val (.int b7), .val (.ref b46), .val (.ref b59), .val (.int (1 : Int32)), .unset, .unset]) rfl kt) ?_
          show own_R _ _ _ _ (T60.setTop (mkF m 119 #[.val (.int p1), .val (.int p2), .val (.int p3), .val (.int p4), .val (.int b4), .val (.int b5), .val (.int b6), .val (.int b7), .val (.ref b46), .val (.ref b59), .val (.int (1 : Int32)), .unset, .unset] []))
          refine own_go (fun _ kt => XS.goto X60.here hx rfl (pc0 := 119) (pc' := 125) rfl (hb hby at_119) (by decide) (by decide) kt) ?_
          show own_R _ _ _ _ (T60.setTop (mkF m 125 #[.val (.int p1), .val (.int p2), .val (.int p3), .val (.int p4), .val (.int b4), .val (.int b5), .val (.int b6), .val (.int b7), .val (.ref b46), .val (.ref b59), .val (.int (1 : Int32)), .unset, .unset] []))
          exact own_leaf ⟨(1 : Int32), by simp only [own_out, hc48, hc62, hc63, if_true, if_false], rfl⟩
      · refine own_go (fun _ kt => XS.ifNo X60.here hx rfl (hb hby at_102) rfl ((if0 _ _).trans (feq hc62).1) kt) ?_
        show own_R _ _ _ _ (T60.setTop (mkF m 105 #[.val (.int p1), .val (.int p2), .val (.int p3), .val (.int p4), .val (.int b4), .val (.int b5), .val (.int b6), .val (.int b7), .val (.ref b46), .val (.ref b59), .unset, .unset, .unset] []))
        refine own_go (fun _ kt => XS.iconst X60.here hx rfl (hb hby at_105) kt) ?_
        show own_R _ _ _ _ (T60.setTop (mkF m 106 #[.val (.int p1), .val (.int p2), .val (.int p3), .val (.int p4), .val (.int b4), .val (.int b5), .val (.int b6), .val (.int b7), .val (.ref b46), .val (.ref b59), .unset, .unset, .unset] [(.int (1 : Int32))]))
        refine own_go (fun _ kt => XS.istore X60.here hx rfl (hb hby at_106) rfl (l' := #[.val (.int p1), .val (.int p2), .val (.int p3), .val (.int p4), .val (.int b4), .val (.int b5), .val (.int b6), .val (.int b7), .val (.ref b46), .val (.ref b59), .val (.int (1 : Int32)), .unset, .unset]) rfl kt) ?_
        show own_R _ _ _ _ (T60.setTop (mkF m 108 #[.val (.int p1), .val (.int p2), .val (.int p3), .val (.int p4), .val (.int b4), .val (.int b5), .val (.int b6), .val (.int b7), .val (.ref b46), .val (.ref b59), .val (.int (1 : Int32)), .unset, .unset] []))
        refine own_go (fun _ kt => XS.goto X60.here hx rfl (pc0 := 108) (pc' := 125) rfl (hb hby at_108) (by decide) (by decide) kt) ?_
        show own_R _ _ _ _ (T60.setTop (mkF m 125 #[.val (.int p1), .val (.int p2), .val (.int p3), .val (.int p4), .val (.int b4), .val (.int b5), .val (.int b6), .val (.int b7), .val (.ref b46), .val (.ref b59), .val (.int (1 : Int32)), .unset, .unset] []))
        exact own_leaf ⟨(1 : Int32), by simp only [own_out, hc48, hc62, if_true, if_false], rfl⟩
    refine own_go sg61 ?_
    show own_R _ _ _ _ (T60.setTop (mkF m 125 #[.val (.int p1), .val (.int p2), .val (.int p3), .val (.int p4), .val (.int b4), .val (.int b5), .val (.int b6), .val (.int b7), .val (.ref b46), .val (.ref b59), .val (.int be), .unset, .unset] []))
    refine own_go (fun _ kt => XS.aload X60.here hx rfl (hb hby at_125) rfl rfl kt) ?_
    show own_R _ _ _ _ (T60.setTop (mkF m 127 #[.val (.int p1), .val (.int p2), .val (.int p3), .val (.int p4), .val (.int b4), .val (.int b5), .val (.int b6), .val (.int b7), .val (.ref b46), .val (.ref b59), .val (.int be), .unset, .unset] [(.ref b59)]))
    obtain ⟨cq64, kq64, q64a, q64b, q64c⟩ := isOf hZ e60 E_b59
    obtain ⟨_, _, ⟨T64, L64, k64, n64⟩, -, X64, ⟨Lc64, hQ64, l64, y64, z64⟩, st64⟩ := X60.virtualBack hx (y := (⟨"com/example/austere_nets/austerenets/program/Statement$Loop", "hasWayOut", "()Z"⟩ : MethodName)) (z := (⟨"com/example/austere_nets/austerenets/program/Statement$Loop", "hasWayOut", "()Z"⟩ : MethodName)) hown (mvT hZ (hw _ (List.mem_of_getElem? (i := 48) rfl))) (mvT hZ (hw _ (List.mem_of_getElem? (i := 49) rfl))) (notFace_of_selects (args := #[]) (mvT hZ (hw _ (List.mem_of_getElem? (i := 51) rfl)))) (mvT hZ (hw _ (List.mem_of_getElem? (i := 51) rfl))) (mvT hZ (hw _ (List.mem_of_getElem? (i := 50) rfl))) (by decide) (backOf (W := 0) (rm7 l Z a0 hw [] b59 b4 b5 h60 n0 ZS F_mayEndAtHead_b59 F_hasExit_b59) hZ (hw _ (List.mem_of_getElem? (i := 52) rfl)) (hw _ (List.mem_of_getElem? (i := 28) rfl)) (by decide) (by decide)) q64a q64c (g := (mkF m 127 #[.val (.int p1), .val (.int p2), .val (.int p3), .val (.int p4), .val (.int b4), .val (.int b5), .val (.int b6), .val (.int b7), .val (.ref b46), .val (.ref b59), .val (.int be), .unset, .unset] [(.ref b59)])) rfl (by rw [hml]; rfl) (Steps.refl _) (argsL := []) (rest := []) (lenOf pd_6 rfl) rfl (by show 2 * 0 + _ ≤ _; exact Nat.le_of_eq rfl) (hb hby at_127) (fun _ _ => ⟨rfl, e60, (by decide : 4 + 0 ≤ _), (by decide : 20 + 0 ≤ _)⟩)
    dsimp only [Pt.U, Pt.locs, Pt.cells, Pt.slots] at X64 l64 y64 z64 st64 hQ64
    subst l64 y64 z64
    obtain ⟨rfl, N64q, e64⟩ := hQ64
    have NF := Fr.app NF N64q
    refine own_go (fun _ kt => st64.trans kt) ?_
    show own_R _ _ _ _ (T64.setTop (mkF m 130 #[.val (.int p1), .val (.int p2), .val (.int p3), .val (.int p4), .val (.int b4), .val (.int b5), .val (.int b6), .val (.int b7), .val (.ref b46), .val (.ref b59), .val (.int be), .unset, .unset] [(.int (own_out b4 b5))]))
    refine own_go (fun _ kt => XS.istore X64.here hx rfl (hb hby at_130) rfl (l' := #[.val (.int p1), .val (.int p2), .val (.int p3), .val (.int p4), .val (.int b4), .val (.int b5), .val (.int b6), .val (.int b7), .val (.ref b46), .val (.ref b59), .val (.int be), .val (.int (own_out b4 b5)), .unset]) rfl kt) ?_
    show own_R _ _ _ _ (T64.setTop (mkF m 132 #[.val (.int p1), .val (.int p2), .val (.int p3), .val (.int p4), .val (.int b4), .val (.int b5), .val (.int b6), .val (.int b7), .val (.ref b46), .val (.ref b59), .val (.int be), .val (.int (own_out b4 b5)), .unset] []))
    refine own_go (fun _ kt => XS.aload X64.here hx rfl (hb hby at_132) rfl rfl kt) ?_
    show own_R _ _ _ _ (T64.setTop (mkF m 134 #[.val (.int p1), .val (.int p2), .val (.int p3), .val (.int p4), .val (.int b4), .val (.int b5), .val (.int b6), .val (.int b7), .val (.ref b46), .val (.ref b59), .val (.int be), .val (.int (own_out b4 b5)), .unset] [(.ref b59)]))
    obtain ⟨cq65, kq65, q65a, q65b, q65c⟩ := isOf hZ e64 E_b59
    obtain ⟨_, _, ⟨T65, L65, k65, n65⟩, -, X65, ⟨Lc65, hQ65, l65, y65, z65⟩, st65⟩ := X64.virtualBack hx (y := (⟨"com/example/austere_nets/austerenets/program/Statement$Loop", "hasWayOut", "()Z"⟩ : MethodName)) (z := (⟨"com/example/austere_nets/austerenets/program/Statement$Loop", "hasWayOut", "()Z"⟩ : MethodName)) hown (mvT hZ (hw _ (List.mem_of_getElem? (i := 48) rfl))) (mvT hZ (hw _ (List.mem_of_getElem? (i := 49) rfl))) (notFace_of_selects (args := #[]) (mvT hZ (hw _ (List.mem_of_getElem? (i := 51) rfl)))) (mvT hZ (hw _ (List.mem_of_getElem? (i := 51) rfl))) (mvT hZ (hw _ (List.mem_of_getElem? (i := 50) rfl))) (by decide) (backOf (W := 0) (rm7 l Z a0 hw [] b59 b4 b5 h60 n0 ZS F_mayEndAtHead_b59 F_hasExit_b59) hZ (hw _ (List.mem_of_getElem? (i := 52) rfl)) (hw _ (List.mem_of_getElem? (i := 28) rfl)) (by decide) (by decide)) q65a q65c (g := (mkF m 134 #[.val (.int p1), .val (.int p2), .val (.int p3), .val (.int p4), .val (.int b4), .val (.int b5), .val (.int b6), .val (.int b7), .val (.ref b46), .val (.ref b59), .val (.int be), .val (.int (own_out b4 b5)), .unset] [(.ref b59)])) rfl (by rw [hml]; rfl) (Steps.refl _) (argsL := []) (rest := []) (lenOf pd_6 rfl) rfl (by show 2 * 0 + _ ≤ _; exact Nat.le_of_eq rfl) (hb hby at_134) (fun _ _ => ⟨rfl, e64, (by decide : 4 + 0 ≤ _), (by decide : 20 + 0 ≤ _)⟩)
    dsimp only [Pt.U, Pt.locs, Pt.cells, Pt.slots] at X65 l65 y65 z65 st65 hQ65
    subst l65 y65 z65
    obtain ⟨rfl, N65q, e65⟩ := hQ65
    have NF := Fr.app NF N65q
    refine own_go (fun _ kt => st65.trans kt) ?_
    show own_R _ _ _ _ (T65.setTop (mkF m 137 #[.val (.int p1), .val (.int p2), .val (.int p3), .val (.int p4), .val (.int b4), .val (.int b5), .val (.int b6), .val (.int b7), .val (.ref b46), .val (.ref b59), .val (.int be), .val (.int (own_out b4 b5)), .unset] [(.int (own_out b4 b5))]))
    refine own_go (fun _ kt => XS.istore X65.here hx rfl (hb hby at_137) rfl (l' := #[.val (.int p1), .val (.int p2), .val (.int p3), .val (.int p4), .val (.int b4), .val (.int b5), .val (.int b6), .val (.int b7), .val (.ref b46), .val (.ref b59), .val (.int be), .val (.int (own_out b4 b5)), .val (.int (own_out b4 b5))]) rfl kt) ?_
    show own_R _ _ _ _ (T65.setTop (mkF m 139 #[.val (.int p1), .val (.int p2), .val (.int p3), .val (.int p4), .val (.int b4), .val (.int b5), .val (.int b6), .val (.int b7), .val (.ref b46), .val (.ref b59), .val (.int be), .val (.int (own_out b4 b5)), .val (.int (own_out b4 b5))] []))
    refine own_go (fun _ kt => XS.iload X65.here hx rfl (hb hby at_139) rfl kt) ?_
    show own_R _ _ _ _ (T65.setTop (mkF m 141 #[.val (.int p1), .val (.int p2), .val (.int p3), .val (.int p4), .val (.int b4), .val (.int b5), .val (.int b6), .val (.int b7), .val (.ref b46), .val (.ref b59), .val (.int be), .val (.int (own_out b4 b5)), .val (.int (own_out b4 b5))] [(.int (own_out b4 b5))]))
    refine own_go (fun _ kt => XS.iload X65.here hx rfl (hb hby at_141) rfl kt) ?_
    show own_R _ _ _ _ (T65.setTop (mkF m 143 #[.val (.int p1), .val (.int p2), .val (.int p3), .val (.int p4), .val (.int b4), .val (.int b5), .val (.int b6), .val (.int b7), .val (.ref b46), .val (.ref b59), .val (.int be), .val (.int (own_out b4 b5)), .val (.int (own_out b4 b5))] [(.int be), (.int (own_out b4 b5))]))
    refine own_go (fun _ kt => XS.icmpNo X65.here hx rfl (hb hby at_143) rfl (teq hs61.symm).2 kt) ?_
    show own_R _ _ _ _ (T65.setTop (mkF m 146 #[.val (.int p1), .val (.int p2), .val (.int p3), .val (.int p4), .val (.int b4), .val (.int b5), .val (.int b6), .val (.int b7), .val (.ref b46), .val (.ref b59), .val (.int be), .val (.int (own_out b4 b5)), .val (.int (own_out b4 b5))] []))
    refine own_go (fun _ kt => XS.iload X65.here hx rfl (hb hby at_146) rfl kt) ?_
    show own_R _ _ _ _ (T65.setTop (mkF m 148 #[.val (.int p1), .val (.int p2), .val (.int p3), .val (.int p4), .val (.int b4), .val (.int b5), .val (.int b6), .val (.int b7), .val (.ref b46), .val (.ref b59), .val (.int be), .val (.int (own_out b4 b5)), .val (.int (own_out b4 b5))] [(.int (own_out b4 b5))]))
    refine own_go (fun _ kt => XS.iload X65.here hx rfl (hb hby at_148) rfl kt) ?_
    show own_R _ _ _ _ (T65.setTop (mkF m 150 #[.val (.int p1), .val (.int p2), .val (.int p3), .val (.int p4), .val (.int b4), .val (.int b5), .val (.int b6), .val (.int b7), .val (.ref b46), .val (.ref b59), .val (.int be), .val (.int (own_out b4 b5)), .val (.int (own_out b4 b5))] [(.int (own_out b4 b5)), (.int (own_out b4 b5))]))
    refine own_go (fun _ kt => XS.icmpNo X65.here hx rfl (hb hby at_150) rfl (teq rfl).2 kt) ?_
    show own_R _ _ _ _ (T65.setTop (mkF m 153 #[.val (.int p1), .val (.int p2), .val (.int p3), .val (.int p4), .val (.int b4), .val (.int b5), .val (.int b6), .val (.int b7), .val (.ref b46), .val (.ref b59), .val (.int be), .val (.int (own_out b4 b5)), .val (.int (own_out b4 b5))] []))
    refine own_go (fun _ kt => XS.iconst X65.here hx rfl (hb hby at_153) kt) ?_
    show own_R _ _ _ _ (T65.setTop (mkF m 154 #[.val (.int p1), .val (.int p2), .val (.int p3), .val (.int p4), .val (.int b4), .val (.int b5), .val (.int b6), .val (.int b7), .val (.ref b46), .val (.ref b59), .val (.int be), .val (.int (own_out b4 b5)), .val (.int (own_out b4 b5))] [(.int (1 : Int32))]))
    refine own_go (fun _ kt => XS.goto X65.here hx rfl (pc0 := 154) (pc' := 158) rfl (hb hby at_154) (by decide) (by decide) kt) ?_
    show own_R _ _ _ _ (T65.setTop (mkF m 158 #[.val (.int p1), .val (.int p2), .val (.int p3), .val (.int p4), .val (.int b4), .val (.int b5), .val (.int b6), .val (.int b7), .val (.ref b46), .val (.ref b59), .val (.int be), .val (.int (own_out b4 b5)), .val (.int (own_out b4 b5))] [(.int (1 : Int32))]))
    exact own_retN X65 hx (t := .boolean) (by simp) Bd.returns (hb hby at_158) hlk ⟨rfl, NF⟩ (by decide) (by decide)
set_option maxRecDepth 65536 in
set_option maxHeartbeats 40000000 in
theorem comes_1 {Post : Tables → Env → Array Value → State → Outcome → State → Prop} (hpost : ∀ tb e args s v u, (limb_1_1.after args s (.returned v) u = true ∧ limb_1_2.after args s (.returned v) u = true ∧ True) → FrameEnd s (.returned v) u (Jvm.fieldLocs frame_1_writes args s ++ Jvm.arrayLocs frame_1_arrays args s ++ Jvm.staticLocs frame_1_statics s) 16 128 → Post tb e args s (.returned v) u) :
    ArmFor flags0 classFile x code maxLocals ret World_1 tables_1 room_1 Calls_1 rest_1 Pre_1 Post := by
  intro l hfl _ _ p e ha hc hk s m args below hf hA hF happ hP
  obtain ⟨hcalls, hrest, hpre⟩ := hP
  obtain ⟨-, -, -, hnamed, -, -, -, hat⟩ := (Spec.applies_iff hf).mp happ
  obtain ⟨hg, hn⟩ := and_e (Cond.before_iff.mp (show (Jvm.Cond.and given_1 narrow_1).before args s = true from hpre))
  obtain ⟨g1, g2⟩ := and_e hg
  obtain ⟨g3, g4⟩ := and_e g2
  obtain ⟨g5, g6⟩ := and_e g4
  obtain ⟨g7, g8⟩ := and_e g6
  obtain ⟨w0, w1, w2, w3, rfl⟩ : ∃ w0 w1 w2 w3 : Value, args = #[w0, w1, w2, w3] := by
    have hs : args.size = 4 := by simpa [Cond.value, given_1] using g1
    obtain ⟨L⟩ := args
    match L, hs with
    | [w0, w1, w2, w3], _ => exact ⟨w0, w1, w2, w3, rfl⟩
  have hw := fun d (hd : d ∈ tables_1) => atoms_spec (ws := Jvm.Cond.code x code maxLocals ret :: tables_1) hat d (List.mem_cons_of_mem _ hd)
  have hfit : Fit s := fun {y c} hc i hi => by
    obtain ⟨ha, rfl⟩ := Array.getElem?_eq_some_iff.mp hc
    have q := List.all_eq_true.mp ((Array.all_eq_true_iff_forall_mem.mp hF) _ (Array.getElem_mem ha)) i (List.mem_range.mpr hi)
    simpa [Array.getElem?_eq_getElem hi] using q
  obtain ⟨hsets, hown0⟩ := atoms_of _ (rest_1_c_eq ▸ (show rest_1_c.before _ s = true from hrest))
  have hr0 := Cond.before_iff.mp hown0
  obtain ⟨i0, ei0⟩ := is_v g3
  obtain rfl : w0 = (.int i0) := Option.some.inj ei0
  obtain ⟨i1, ei1⟩ := is_v g5
  obtain rfl : w1 = (.int i1) := Option.some.inj ei1
  obtain ⟨i2, ei2⟩ := is_v g7
  obtain rfl : w2 = (.int i2) := Option.some.inj ei2
  obtain ⟨i3, ei3⟩ := is_v g8
  obtain rfl : w3 = (.int i3) := Option.some.inj ei3
  have g6 := Cond.before_iff.mp (hsets _ (List.mem_of_getElem? (i := 6) rfl))
  have g8 := Cond.before_iff.mp (hsets _ (List.mem_of_getElem? (i := 8) rfl))
  obtain ⟨dd, ed⟩ := arr_v g6
  obtain ⟨cd, Ad⟩ := Arr.start ed g6
  have SD := Sta.start ed (Or.inr ⟨(hw _ (List.mem_of_getElem? (i := 2) rfl)), hsets _ (List.mem_of_getElem? (i := 2) rfl)⟩)
  have hsz : cd.slots.size = 0 := by
    obtain ⟨v, w, e1, -⟩ := cmp_v (Or.inl g8)
    obtain ⟨b, cell, f1, f2, rfl⟩ := Term.length_spec e1
    have f3 := Jvm.Free.SBG.length_lt f1 f2 e1
    have hb : b = dd := by have q := f1.symm.trans ed; injection q with q; injection q
    rw [hb] at f2
    have hcl : cd = cell := Option.some.inj ((Arr.fin (State.Warmed39.refl s).alike Ad).symm.trans f2)
    rw [hcl]
    have q := congrArg Int32.toInt (gotT (Cond.eq_ints e1 rfl) g8)
    rw [len_toInt f3, show (0 : Int32).toInt = 0 from rfl] at q
    omega
  obtain ⟨n, o, h1, h2, h3, _, L, rfl, ⟨rfl, N⟩, hq⟩ := rm0 l s _ hw tables_1 i0 i1 i2 i3 dd cd.cls s.heap s.heap.size (Nat.le_refl _) SD (Old.start s) (own_empty Ad hsz) p e ha hc hk s m _ below hf ((Spec.applies_iff_loose hf).mp happ).1 ⟨rfl, State.Warmed39.refl s, rfl⟩ trivial
  refine ⟨n, _, h1, h2, h3, hpost _ _ _ _ _ _ ⟨Cond.after_iff.mpr rfl, Cond.after_iff.mpr (eq_i res_at (Term.int_eval (1)) rfl), trivial⟩ ⟨hq.1, hq.2.1, (hq.2.2.sift fun y hy => Or.inr (N y hy)).mono (by decide) (by decide)⟩⟩
theorem main_1_1 : Claimed_1_1 := comes_1 fun _ _ _ _ _ _ h hF => ⟨h.1, hF⟩
theorem main_1_2 : Claimed_1_2 := comes_1 fun _ _ _ _ _ _ h hF => ⟨h.2.1, hF⟩
end Jvm.Pilot.@@N@@
namespace Jvm.Pilot.@@N@@
open Jvm Jvm.ClassFile Sem Op Lib Jvm.Free Jvm.Stand Jvm.Pilot.@@N@@.Jvm.D
/-! MADE BY PROGRAM (witnessworld.py) out of the Statement's table words and the real class files: 22 classes; the members and pool entries that the words name. The judged class is class 1, her method 1. -/
namespace start1
open Jvm.ClassFile
def u (s : String) : CpInfo := .utf8 (stringToUtf16 s)
/-- a pool by its gaps: so many unusable entries, then the entry; so many at the end -/
def gap : Nat → List CpInfo → List CpInfo
  | 0, r => r
  | n + 1, r => .unusable :: gap n r
def poolList (es : List (Nat × CpInfo)) (last : Nat) : List CpInfo := es.foldr (fun e r => gap e.1 (e.2 :: r)) (gap last [])
def pool (es : List (Nat × CpInfo)) (last : Nat) : Array CpInfo := ⟨poolList es last⟩
def fileOf (pool : Array CpInfo) (this : Nat) (attrs : Array Attribute := #[]) (ms : Array MethodInfo := #[]) (fl : Nat := 33) (sup : Nat := 0) (ifs : Array Nat := #[]) (fds : Array FieldInfo := #[]) : ClassFile where
  minorVersion := 0
  majorVersion := 65
  constantPool := pool
  accessFlags := fl
  thisClass := this
  superClass := sup
  interfaces := ifs
  fields := fds
  methods := ms
  attributes := attrs
def plain (name : String) (sup : Option ClassId) : Class where
  name := name
  kind := .ordinary
  loader := none
  accessFlags := 33
  super := sup
  interfaces := #[]
  cf := none
  fields := #[]
  methods := #[]
  instanceTypes := #[]
  staticTypes := #[]
  resolved := #[]
  callSites := []
  init := .initialized
  statics := none
  mirror := none

def pool0 : Array CpInfo := pool [(5, u "<init>"), (0, u "()V"), (1, .class_ 10), (1, u "java/lang/Object")] 113

def k0c0 : Code := { maxStack := 0, maxLocals := 1, code := object_method_1_code, exceptionTable := #[], attributes := #[] }
def k0m0 : Method := { name := "<init>", desc := "()V", sig := { parameters := [], returnType := none }, accessFlags := 1, code := some k0c0 }
/-- java/lang/Object -/
def k0 : Class := { plain "java/lang/Object" none with
  accessFlags := 33
  interfaces := #[]
  cf := some (fileOf pool0 8 #[] #[{ accessFlags := 1, nameIndex := 5, descriptorIndex := 6, attributes := #[] }] 33 0 #[] #[])
  fields := #[]
  methods := #[k0m0]
  instanceTypes := #[]
  staticTypes := #[]
  resolved := Array.replicate 124 none
  statics := none }

def pool1 : Array CpInfo := pool [(2, .class_ 4), (0, .nameAndType 5 6), (0, u "java/lang/Object"), (0, u "<init>"), (0, u "()V"), (0, .class_ 8), (0, u "java/util/ArrayList"), (0, .methodref 7 3), (0, .class_ 11), (0, u "com/example/austere_nets/austerenets/program/Statement$Exit"), (0, .methodref 10 13), (0, .nameAndType 5 14), (0, u "(ZI)V"), (0, .methodref 7 16), (0, .nameAndType 17 18), (0, u "add"), (0, u "(Ljava/lang/Object;)Z"), (0, .class_ 20), (0, u "com/example/austere_nets/austerenets/program/Statement$Loop"), (0, .methodref 19 22), (0, .nameAndType 5 23), (0, u "(Ljava/util/List;ZZII)V"), (0, .methodref 19 25), (0, .nameAndType 26 27), (0, u "hasWayOut"), (0, u "()Z"), (0, .class_ 29), (0, u "com/example/austere_nets/austerenets/program/LoopHasWayOutPinLaw"), (2, u "law"), (0, u "(IIII)Z")] 8

def k1m0 : Method := { name := "<init>", desc := "()V", sig := { parameters := [], returnType := none }, accessFlags := 1, code := none }
def k1c1 : Code := { maxStack := 7, maxLocals := 13, code := code, exceptionTable := #[], attributes := #[] }
def k1m1 : Method := { name := "law", desc := "(IIII)Z", sig := { parameters := [.int, .int, .int, .int], returnType := some .boolean }, accessFlags := 9, code := some k1c1 }
/-- com/example/austere_nets/austerenets/program/LoopHasWayOutPinLaw -/
def k1 : Class := { plain "com/example/austere_nets/austerenets/program/LoopHasWayOutPinLaw" (some 0) with
  accessFlags := 49
  interfaces := #[]
  cf := some (fileOf pool1 28 #[] #[{ accessFlags := 1, nameIndex := 5, descriptorIndex := 6, attributes := #[] }, { accessFlags := 9, nameIndex := 32, descriptorIndex := 33, attributes := #[] }] 49 2 #[] #[])
  fields := #[]
  methods := #[k1m0, k1m1]
  instanceTypes := #[]
  staticTypes := #[]
  resolved := Array.replicate 42 none
  statics := none }

def pool2 : Array CpInfo := pool [(8, .class_ 10), (1, u "java/lang/Iterable"), (24, .class_ 36), (0, u "java/lang/Object")] 25

/-- java/lang/Iterable -/
def k2 : Class := { plain "java/lang/Iterable" (some 0) with
  accessFlags := 1537
  interfaces := #[]
  cf := some (fileOf pool2 8 #[] #[] 1537 35 #[] #[])
  fields := #[]
  methods := #[]
  instanceTypes := #[]
  staticTypes := #[]
  resolved := Array.replicate 62 none
  statics := none }

def pool3 : Array CpInfo := pool [(10, .class_ 12), (1, u "java/util/Collection"), (47, .class_ 61), (0, u "java/lang/Object"), (0, .class_ 63), (0, u "java/lang/Iterable")] 51

/-- java/util/Collection -/
def k3 : Class := { plain "java/util/Collection" (some 0) with
  accessFlags := 1537
  interfaces := #[2]
  cf := some (fileOf pool3 10 #[] #[] 1537 60 #[62] #[])
  fields := #[]
  methods := #[]
  instanceTypes := #[]
  staticTypes := #[]
  resolved := Array.replicate 115 none
  statics := none }

def pool4 : Array CpInfo := pool [(1, .methodref 2 3), (0, .class_ 4), (0, .nameAndType 5 6), (0, u "java/lang/Object"), (0, u "<init>"), (0, u "()V"), (1, .class_ 10), (1, u "java/util/AbstractCollection"), (66, .class_ 78), (0, u "java/util/Collection")] 81

def k4c0 : Code := { maxStack := 1, maxLocals := 1, code := jdk_22_method_1_code, exceptionTable := #[], attributes := #[] }
def k4m0 : Method := { name := "<init>", desc := "()V", sig := { parameters := [], returnType := none }, accessFlags := 4, code := some k4c0 }
/-- java/util/AbstractCollection -/
def k4 : Class := { plain "java/util/AbstractCollection" (some 0) with
  accessFlags := 1057
  interfaces := #[3]
  cf := some (fileOf pool4 8 #[] #[{ accessFlags := 4, nameIndex := 5, descriptorIndex := 6, attributes := #[] }] 1057 2 #[77] #[])
  fields := #[]
  methods := #[k4m0]
  instanceTypes := #[]
  staticTypes := #[]
  resolved := Array.replicate 160 none
  statics := none }

def pool5 : Array CpInfo := pool [(8, .class_ 10), (1, u "java/util/SequencedCollection"), (15, .class_ 27), (0, u "java/lang/Object"), (0, .class_ 29), (0, u "java/util/Collection")] 27

/-- java/util/SequencedCollection -/
def k5 : Class := { plain "java/util/SequencedCollection" (some 0) with
  accessFlags := 1537
  interfaces := #[3]
  cf := some (fileOf pool5 8 #[] #[] 1537 26 #[28] #[])
  fields := #[]
  methods := #[]
  instanceTypes := #[]
  staticTypes := #[]
  resolved := Array.replicate 57 none
  statics := none }

def pool6 : Array CpInfo := pool [(8, .class_ 10), (1, u "java/util/List"), (92, .class_ 104), (0, u "java/lang/Object"), (15, .class_ 121), (0, u "java/util/SequencedCollection")] 129

/-- java/util/List -/
def k6 : Class := { plain "java/util/List" (some 0) with
  accessFlags := 1537
  interfaces := #[5]
  cf := some (fileOf pool6 8 #[] #[] 1537 103 #[120] #[])
  fields := #[]
  methods := #[]
  instanceTypes := #[]
  staticTypes := #[]
  resolved := Array.replicate 251 none
  statics := none }

def pool7 : Array CpInfo := pool [(1, .methodref 2 3), (0, .class_ 4), (0, .nameAndType 5 6), (0, u "java/util/AbstractCollection"), (0, u "<init>"), (0, u "()V"), (0, .fieldref 8 9), (0, .class_ 10), (0, .nameAndType 11 12), (0, u "java/util/AbstractList"), (0, u "modCount"), (0, u "I"), (64, .class_ 78), (0, u "java/util/AbstractList$Itr"), (3, .class_ 83), (0, u "java/util/AbstractList$ListItr"), (9, .class_ 94), (0, u "java/util/AbstractList$RandomAccessSubList"), (3, .class_ 99), (0, u "java/util/AbstractList$SubList"), (33, .class_ 134), (0, u "java/util/List"), (73, .class_ 209), (0, u "java/util/AbstractList$SubList$1"), (0, .class_ 211), (0, u "java/util/AbstractList$RandomAccessSpliterator")] 6

def k7c0 : Code := { maxStack := 2, maxLocals := 1, code := jdk_39_method_1_code, exceptionTable := #[], attributes := #[] }
def k7m0 : Method := { name := "<init>", desc := "()V", sig := { parameters := [], returnType := none }, accessFlags := 4, code := some k7c0 }
/-- java/util/AbstractList -/
def k7 : Class := { plain "java/util/AbstractList" (some 4) with
  accessFlags := 1057
  interfaces := #[6]
  cf := some (fileOf pool7 8 #[.nestMembers #[93, 98, 208, 210, 82, 77]] #[{ accessFlags := 4, nameIndex := 5, descriptorIndex := 6, attributes := #[] }] 1057 2 #[133] #[{ accessFlags := 132, nameIndex := 11, descriptorIndex := 12, attributes := #[] }])
  fields := #[{ name := "modCount", type := .int, accessFlags := 132, slot := 0, constantValue := 0 }]
  methods := #[k7m0]
  instanceTypes := #[.int]
  staticTypes := #[]
  resolved := Array.replicate 218 none
  statics := none }

def pool8 : Array CpInfo := pool [(1, .class_ 2), (0, u "java/util/RandomAccess"), (0, .class_ 4), (0, u "java/lang/Object")] 2

/-- java/util/RandomAccess -/
def k8 : Class := { plain "java/util/RandomAccess" (some 0) with
  accessFlags := 1537
  interfaces := #[]
  cf := some (fileOf pool8 1 #[] #[] 1537 3 #[] #[])
  fields := #[]
  methods := #[]
  instanceTypes := #[]
  staticTypes := #[]
  resolved := Array.replicate 7 none
  statics := none }

def pool9 : Array CpInfo := pool [(1, .class_ 2), (0, u "java/lang/Cloneable"), (0, .class_ 4), (0, u "java/lang/Object")] 2

/-- java/lang/Cloneable -/
def k9 : Class := { plain "java/lang/Cloneable" (some 0) with
  accessFlags := 1537
  interfaces := #[]
  cf := some (fileOf pool9 1 #[] #[] 1537 3 #[] #[])
  fields := #[]
  methods := #[]
  instanceTypes := #[]
  staticTypes := #[]
  resolved := Array.replicate 7 none
  statics := none }

def pool10 : Array CpInfo := pool [(1, .class_ 2), (0, u "java/io/Serializable"), (0, .class_ 4), (0, u "java/lang/Object")] 2

/-- java/io/Serializable -/
def k10 : Class := { plain "java/io/Serializable" (some 0) with
  accessFlags := 1537
  interfaces := #[]
  cf := some (fileOf pool10 1 #[] #[] 1537 3 #[] #[])
  fields := #[]
  methods := #[]
  instanceTypes := #[]
  staticTypes := #[]
  resolved := Array.replicate 7 none
  statics := none }

def pool11 : Array CpInfo := pool [(1, .methodref 2 3), (0, .class_ 4), (0, .nameAndType 5 6), (0, u "java/util/AbstractList"), (0, u "<init>"), (0, u "()V"), (0, .class_ 8), (0, u "java/lang/Object"), (0, .fieldref 10 11), (0, .class_ 12), (0, .nameAndType 13 14), (0, u "java/util/ArrayList"), (0, u "elementData"), (0, u "[Ljava/lang/Object;"), (2, u "EMPTY_ELEMENTDATA"), (21, .fieldref 10 40), (0, .nameAndType 41 14), (0, u "DEFAULTCAPACITY_EMPTY_ELEMENTDATA"), (5, u "()[Ljava/lang/Object;"), (0, .fieldref 10 49), (0, .nameAndType 50 51), (0, u "size"), (0, u "I"), (11, .fieldref 10 64), (0, .nameAndType 65 51), (0, u "modCount"), (3, .methodref 10 70), (0, .nameAndType 71 72), (0, u "grow"), (0, u "(I)[Ljava/lang/Object;"), (6, .methodref 80 81), (0, .class_ 82), (0, .nameAndType 83 84), (0, u "java/lang/Math"), (0, u "max"), (0, u "(II)I"), (11, u "(Ljava/lang/Object;)Z"), (32, .methodref 10 130), (0, .nameAndType 71 47), (0, .methodref 10 132), (0, .nameAndType 133 134), (0, u "add"), (0, u "(Ljava/lang/Object;[Ljava/lang/Object;I)V"), (13, .class_ 149), (0, u "java/util/List"), (112, .class_ 263), (0, u "java/util/ArrayList$ListItr"), (3, .class_ 268), (0, u "java/util/ArrayList$Itr"), (7, .class_ 277), (0, u "java/util/ArrayList$SubList"), (12, .class_ 291), (0, u "java/util/ArrayList$ArrayListSpliterator"), (37, .class_ 330), (0, u "java/util/RandomAccess"), (0, .class_ 332), (0, u "java/lang/Cloneable"), (0, .class_ 334), (0, u "java/io/Serializable"), (0, u "serialVersionUID"), (0, u "J"), (3, u "DEFAULT_CAPACITY"), (159, .class_ 501), (0, u "java/util/ArrayList$SubList$2"), (0, .class_ 503), (0, u "java/util/ArrayList$SubList$1")] 5

def k11c0 : Code := { maxStack := 2, maxLocals := 1, code := jdk_38_method_2_code, exceptionTable := #[], attributes := #[] }
def k11m0 : Method := { name := "<init>", desc := "()V", sig := { parameters := [], returnType := none }, accessFlags := 1, code := some k11c0 }
def k11c1 : Code := { maxStack := 4, maxLocals := 4, code := jdk_38_method_6_code, exceptionTable := #[], attributes := #[] }
def k11m1 : Method := { name := "grow", desc := "(I)[Ljava/lang/Object;", sig := { parameters := [.int], returnType := some (.array (.object "java/lang/Object")) }, accessFlags := 2, code := some k11c1 }
def k11c2 : Code := { maxStack := 3, maxLocals := 1, code := jdk_38_method_7_code, exceptionTable := #[], attributes := #[] }
def k11m2 : Method := { name := "grow", desc := "()[Ljava/lang/Object;", sig := { parameters := [], returnType := some (.array (.object "java/lang/Object")) }, accessFlags := 2, code := some k11c2 }
def k11c3 : Code := { maxStack := 3, maxLocals := 4, code := jdk_38_method_24_code, exceptionTable := #[], attributes := #[] }
def k11m3 : Method := { name := "add", desc := "(Ljava/lang/Object;[Ljava/lang/Object;I)V", sig := { parameters := [(.object "java/lang/Object"), (.array (.object "java/lang/Object")), .int], returnType := none }, accessFlags := 2, code := some k11c3 }
def k11c4 : Code := { maxStack := 4, maxLocals := 2, code := jdk_38_method_25_code, exceptionTable := #[], attributes := #[] }
def k11m4 : Method := { name := "add", desc := "(Ljava/lang/Object;)Z", sig := { parameters := [(.object "java/lang/Object")], returnType := some .boolean }, accessFlags := 1, code := some k11c4 }
/-- java/util/ArrayList -/
def k11 : Class := { plain "java/util/ArrayList" (some 7) with
  accessFlags := 33
  interfaces := #[6, 8, 9, 10]
  cf := some (fileOf pool11 10 #[.nestMembers #[290, 276, 500, 502, 262, 267]] #[{ accessFlags := 1, nameIndex := 5, descriptorIndex := 6, attributes := #[] }, { accessFlags := 2, nameIndex := 71, descriptorIndex := 72, attributes := #[] }, { accessFlags := 2, nameIndex := 71, descriptorIndex := 47, attributes := #[] }, { accessFlags := 2, nameIndex := 133, descriptorIndex := 134, attributes := #[] }, { accessFlags := 1, nameIndex := 133, descriptorIndex := 96, attributes := #[] }] 33 2 #[148, 329, 331, 333] #[{ accessFlags := 26, nameIndex := 335, descriptorIndex := 336, attributes := #[] }, { accessFlags := 26, nameIndex := 340, descriptorIndex := 51, attributes := #[] }, { accessFlags := 26, nameIndex := 17, descriptorIndex := 14, attributes := #[] }, { accessFlags := 26, nameIndex := 41, descriptorIndex := 14, attributes := #[] }, { accessFlags := 128, nameIndex := 13, descriptorIndex := 14, attributes := #[] }, { accessFlags := 2, nameIndex := 50, descriptorIndex := 51, attributes := #[] }])
  fields := #[{ name := "serialVersionUID", type := .long, accessFlags := 26, slot := 0, constantValue := 0 }, { name := "DEFAULT_CAPACITY", type := .int, accessFlags := 26, slot := 1, constantValue := 0 }, { name := "EMPTY_ELEMENTDATA", type := (.array (.object "java/lang/Object")), accessFlags := 26, slot := 2, constantValue := 0 }, { name := "DEFAULTCAPACITY_EMPTY_ELEMENTDATA", type := (.array (.object "java/lang/Object")), accessFlags := 26, slot := 3, constantValue := 0 }, { name := "elementData", type := (.array (.object "java/lang/Object")), accessFlags := 128, slot := 1, constantValue := 0 }, { name := "size", type := .int, accessFlags := 2, slot := 2, constantValue := 0 }]
  methods := #[k11m0, k11m1, k11m2, k11m3, k11m4]
  instanceTypes := #[.int, (.array (.object "java/lang/Object")), .int]
  staticTypes := #[.long, .int, (.array (.object "java/lang/Object")), (.array (.object "java/lang/Object"))]
  resolved := Array.replicate 509 none
  statics := some 0 }

def pool12 : Array CpInfo := pool [(1, .methodref 2 3), (0, .class_ 4), (0, .nameAndType 5 6), (0, u "java/lang/Object"), (0, u "<init>"), (0, u "()V"), (0, .class_ 8), (0, u "java/lang/Record")] 13

def k12c0 : Code := { maxStack := 1, maxLocals := 1, code := jdk_30_method_1_code, exceptionTable := #[], attributes := #[] }
def k12m0 : Method := { name := "<init>", desc := "()V", sig := { parameters := [], returnType := none }, accessFlags := 4, code := some k12c0 }
/-- java/lang/Record -/
def k12 : Class := { plain "java/lang/Record" (some 0) with
  accessFlags := 1057
  interfaces := #[]
  cf := some (fileOf pool12 7 #[] #[{ accessFlags := 4, nameIndex := 5, descriptorIndex := 6, attributes := #[] }] 1057 2 #[] #[])
  fields := #[]
  methods := #[k12m0]
  instanceTypes := #[]
  staticTypes := #[]
  resolved := Array.replicate 22 none
  statics := none }

def pool13 : Array CpInfo := pool [(7, .class_ 8), (0, u "com/example/austere_nets/austerenets/program/Statement"), (0, .class_ 10), (0, u "java/lang/Object"), (10, .class_ 22), (0, u "com/example/austere_nets/austerenets/program/Statement$Exit"), (0, .class_ 24), (0, u "com/example/austere_nets/austerenets/program/Statement$Loop"), (0, .class_ 26), (0, u "com/example/austere_nets/austerenets/program/Statement$Branches"), (0, .class_ 28), (0, u "com/example/austere_nets/austerenets/program/Statement$Alternative"), (0, .class_ 30), (0, u "com/example/austere_nets/austerenets/program/Statement$Select"), (0, .class_ 32), (0, u "com/example/austere_nets/austerenets/program/Statement$Accept"), (0, .class_ 34), (0, u "com/example/austere_nets/austerenets/program/Statement$Other"), (0, .class_ 36), (0, u "com/example/austere_nets/austerenets/program/Statement$Call"), (0, .class_ 38), (0, u "com/example/austere_nets/austerenets/program/Statement$Name")] 11

/-- com/example/austere_nets/austerenets/program/Statement -/
def k13 : Class := { plain "com/example/austere_nets/austerenets/program/Statement" (some 0) with
  accessFlags := 1536
  interfaces := #[]
  cf := some (fileOf pool13 7 #[.nestMembers #[21, 23, 25, 27, 29, 31, 33, 35, 37]] #[] 1536 9 #[] #[])
  fields := #[]
  methods := #[]
  instanceTypes := #[]
  staticTypes := #[]
  resolved := Array.replicate 50 none
  statics := none }

def pool14 : Array CpInfo := pool [(1, .methodref 2 3), (0, .class_ 4), (0, .nameAndType 5 6), (0, u "java/lang/Record"), (0, u "<init>"), (0, u "()V"), (0, .fieldref 8 9), (0, .class_ 10), (0, .nameAndType 11 12), (0, u "com/example/austere_nets/austerenets/program/Statement$Loop"), (0, u "body"), (0, u "Ljava/util/List;"), (0, .fieldref 8 14), (0, .nameAndType 15 16), (0, u "mayEndAtHead"), (0, u "Z"), (0, .fieldref 8 18), (0, .nameAndType 19 16), (0, u "hasExit"), (0, .fieldref 8 21), (0, .nameAndType 22 23), (0, u "line"), (0, u "I"), (0, .fieldref 8 25), (0, .nameAndType 26 23), (0, u "endLine"), (12, .class_ 40), (0, u "com/example/austere_nets/austerenets/program/Statement"), (2, u "(Ljava/util/List;ZZII)V"), (7, u "hasWayOut"), (0, u "()Z")] 30

def k14c0 : Code := { maxStack := 2, maxLocals := 6, code := prog_72_method_1_code, exceptionTable := #[], attributes := #[] }
def k14m0 : Method := { name := "<init>", desc := "(Ljava/util/List;ZZII)V", sig := { parameters := [(.object "java/util/List"), .boolean, .boolean, .int, .int], returnType := none }, accessFlags := 1, code := some k14c0 }
def k14c1 : Code := { maxStack := 1, maxLocals := 1, code := prog_72_method_3_code, exceptionTable := #[], attributes := #[] }
def k14m1 : Method := { name := "hasWayOut", desc := "()Z", sig := { parameters := [], returnType := some .boolean }, accessFlags := 0, code := some k14c1 }
/-- com/example/austere_nets/austerenets/program/Statement$Loop -/
def k14 : Class := { plain "com/example/austere_nets/austerenets/program/Statement$Loop" (some 12) with
  accessFlags := 49
  interfaces := #[13]
  cf := some (fileOf pool14 8 #[.nestHost 39] #[{ accessFlags := 1, nameIndex := 5, descriptorIndex := 43, attributes := #[] }, { accessFlags := 0, nameIndex := 51, descriptorIndex := 52, attributes := #[] }] 49 2 #[39] #[{ accessFlags := 18, nameIndex := 11, descriptorIndex := 12, attributes := #[] }, { accessFlags := 18, nameIndex := 15, descriptorIndex := 16, attributes := #[] }, { accessFlags := 18, nameIndex := 19, descriptorIndex := 16, attributes := #[] }, { accessFlags := 18, nameIndex := 22, descriptorIndex := 23, attributes := #[] }, { accessFlags := 18, nameIndex := 26, descriptorIndex := 23, attributes := #[] }])
  fields := #[{ name := "body", type := (.object "java/util/List"), accessFlags := 18, slot := 0, constantValue := 0 }, { name := "mayEndAtHead", type := .boolean, accessFlags := 18, slot := 1, constantValue := 0 }, { name := "hasExit", type := .boolean, accessFlags := 18, slot := 2, constantValue := 0 }, { name := "line", type := .int, accessFlags := 18, slot := 3, constantValue := 0 }, { name := "endLine", type := .int, accessFlags := 18, slot := 4, constantValue := 0 }]
  methods := #[k14m0, k14m1]
  instanceTypes := #[(.object "java/util/List"), .boolean, .boolean, .int, .int]
  staticTypes := #[]
  resolved := Array.replicate 83 none
  statics := none }

def pool15 : Array CpInfo := pool [(1, .methodref 2 3), (0, .class_ 4), (0, .nameAndType 5 6), (0, u "java/lang/Record"), (0, u "<init>"), (0, u "()V"), (0, .fieldref 8 9), (0, .class_ 10), (0, .nameAndType 11 12), (0, u "com/example/austere_nets/austerenets/program/Statement$Exit"), (0, u "conditional"), (0, u "Z"), (0, .fieldref 8 14), (0, .nameAndType 15 16), (0, u "line"), (0, u "I"), (12, .class_ 30), (0, u "com/example/austere_nets/austerenets/program/Statement"), (0, u "(ZI)V")] 30

def k15c0 : Code := { maxStack := 2, maxLocals := 3, code := prog_71_method_1_code, exceptionTable := #[], attributes := #[] }
def k15m0 : Method := { name := "<init>", desc := "(ZI)V", sig := { parameters := [.boolean, .int], returnType := none }, accessFlags := 1, code := some k15c0 }
/-- com/example/austere_nets/austerenets/program/Statement$Exit -/
def k15 : Class := { plain "com/example/austere_nets/austerenets/program/Statement$Exit" (some 12) with
  accessFlags := 49
  interfaces := #[13]
  cf := some (fileOf pool15 8 #[.nestHost 29] #[{ accessFlags := 1, nameIndex := 5, descriptorIndex := 31, attributes := #[] }] 49 2 #[29] #[{ accessFlags := 18, nameIndex := 11, descriptorIndex := 12, attributes := #[] }, { accessFlags := 18, nameIndex := 15, descriptorIndex := 16, attributes := #[] }])
  fields := #[{ name := "conditional", type := .boolean, accessFlags := 18, slot := 0, constantValue := 0 }, { name := "line", type := .int, accessFlags := 18, slot := 1, constantValue := 0 }]
  methods := #[k15m0]
  instanceTypes := #[.boolean, .int]
  staticTypes := #[]
  resolved := Array.replicate 62 none
  statics := none }

def pool16 : Array CpInfo := pool [(1, .class_ 2), (0, u "java/lang/Math"), (1, .class_ 6), (1, u "java/lang/Object"), (0, u "<init>"), (0, u "()V"), (89, .class_ 100), (1, u "java/lang/Math$RandomNumberGeneratorHolder"), (71, u "negativeZeroFloatBits"), (0, u "J"), (2, u "negativeZeroDoubleBits"), (21, u "max"), (46, u "$assertionsDisabled"), (0, u "Z"), (88, u "(II)I"), (2, u "twoToTheDoubleScaleDown"), (0, u "D"), (4, u "twoToTheDoubleScaleUp"), (9, u "E"), (3, u "PI"), (2, u "TAU"), (2, u "DEGREES_TO_RADIANS"), (0, u "RADIANS_TO_DEGREES")] 94

def k16m0 : Method := { name := "<init>", desc := "()V", sig := { parameters := [], returnType := none }, accessFlags := 2, code := none }
def k16c1 : Code := { maxStack := 2, maxLocals := 2, code := jdk_29_method_65_code, exceptionTable := #[], attributes := #[] }
def k16m1 : Method := { name := "max", desc := "(II)I", sig := { parameters := [.int, .int], returnType := some .int }, accessFlags := 9, code := some k16c1 }
/-- java/lang/Math -/
def k16 : Class := { plain "java/lang/Math" (some 0) with
  accessFlags := 49
  interfaces := #[]
  cf := some (fileOf pool16 1 #[.nestMembers #[98]] #[{ accessFlags := 2, nameIndex := 7, descriptorIndex := 8, attributes := #[] }, { accessFlags := 9, nameIndex := 198, descriptorIndex := 335, attributes := #[] }] 49 4 #[] #[{ accessFlags := 25, nameIndex := 354, descriptorIndex := 339, attributes := #[] }, { accessFlags := 25, nameIndex := 358, descriptorIndex := 339, attributes := #[] }, { accessFlags := 25, nameIndex := 361, descriptorIndex := 339, attributes := #[] }, { accessFlags := 26, nameIndex := 364, descriptorIndex := 339, attributes := #[] }, { accessFlags := 26, nameIndex := 365, descriptorIndex := 339, attributes := #[] }, { accessFlags := 26, nameIndex := 172, descriptorIndex := 173, attributes := #[] }, { accessFlags := 26, nameIndex := 176, descriptorIndex := 173, attributes := #[] }, { accessFlags := 8, nameIndex := 344, descriptorIndex := 339, attributes := #[] }, { accessFlags := 8, nameIndex := 338, descriptorIndex := 339, attributes := #[] }, { accessFlags := 4120, nameIndex := 245, descriptorIndex := 246, attributes := #[] }])
  fields := #[{ name := "E", type := .double, accessFlags := 25, slot := 0, constantValue := 0 }, { name := "PI", type := .double, accessFlags := 25, slot := 1, constantValue := 0 }, { name := "TAU", type := .double, accessFlags := 25, slot := 2, constantValue := 0 }, { name := "DEGREES_TO_RADIANS", type := .double, accessFlags := 26, slot := 3, constantValue := 0 }, { name := "RADIANS_TO_DEGREES", type := .double, accessFlags := 26, slot := 4, constantValue := 0 }, { name := "negativeZeroFloatBits", type := .long, accessFlags := 26, slot := 5, constantValue := 0 }, { name := "negativeZeroDoubleBits", type := .long, accessFlags := 26, slot := 6, constantValue := 0 }, { name := "twoToTheDoubleScaleUp", type := .double, accessFlags := 8, slot := 7, constantValue := 0 }, { name := "twoToTheDoubleScaleDown", type := .double, accessFlags := 8, slot := 8, constantValue := 0 }, { name := "$assertionsDisabled", type := .boolean, accessFlags := 4120, slot := 9, constantValue := 0 }]
  methods := #[k16m0, k16m1]
  instanceTypes := #[]
  staticTypes := #[.double, .double, .double, .double, .double, .long, .long, .double, .double, .boolean]
  resolved := Array.replicate 460 none
  statics := none }

/-- the primitive byte -/
def k17 : Class := { plain "byte" none with kind := .primitive 'B', accessFlags := 0x411 }
/-- [B -/
def k18 : Class := { plain "[B" (some 0) with kind := .array 17 .byte, interfaces := #[9, 10], accessFlags := 1041 }

/-- the primitive int -/
def k19 : Class := { plain "int" none with kind := .primitive 'I', accessFlags := 0x411 }
/-- [I -/
def k20 : Class := { plain "[I" (some 0) with kind := .array 19 .int, interfaces := #[9, 10], accessFlags := 1041 }

/-- [Ljava/lang/Object; -/
def k21 : Class := { plain "[Ljava/lang/Object;" (some 0) with kind := .array 0 (.object "java/lang/Object"), interfaces := #[9, 10], accessFlags := 1041 }

def heap : Heap := #[{ cls := 11, slots := #[.long 0, .int 0, .ref 1, .ref 2], vm := .statics 11 },
  { cls := 21, slots := #[], vm := .none },
  { cls := 21, slots := #[], vm := .none }]
def classes : Array Class := #[k0, k1, k2, k3, k4, k5, k6, k7, k8, k9, k10, k11, k12, k13, k14, k15, k16, k17, k18, k19, k20, k21]
def interned : List (Array UInt16 × Addr) := []
def slotsUsed : Nat := 4
def theMethod : MethodId := ⟨1, 1⟩
def args0 : Array Value := #[.int 5, .int 5, .int 5, .int 5]
def aboutOver (below : List Frame) : State where
  vm := { classes := classes, interned := interned.toArray }
  heap := heap
  slotsUsed := slotsUsed
  threads := #[{ frames := .invoking theMethod args0 :: below }]
def below0 : List Frame := [.native { method := ⟨0, 0⟩, args := #[] }]
def about1 : State := aboutOver below0
def p0 : Program := .bare "" "" ""
def e0 : Env := launch0.env 0 0 0
theorem w_frames : about1.frames = Frame.invoking theMethod args0 :: below0 := rfl
set_option maxRecDepth 65536 in
theorem w_args : argsFit about1.vm theMethod args0 = true := by decide +kernel
set_option maxRecDepth 65536 in
theorem w_heap : heapFits about1 = true := by decide +kernel
set_option maxRecDepth 65536 in
theorem w_runnable : about1.curStatus? = some .runnable := by decide +kernel
set_option maxRecDepth 65536 in
theorem w_alone : about1.alone = true := by decide +kernel
set_option maxRecDepth 65536 in
theorem w_named : about1.methodNamed? x = some theMethod := by decide +kernel
set_option maxRecDepth 65536 in
theorem w_hears : about1.hears theMethod below0 = true := by decide +kernel
set_option maxRecDepth 65536 in
theorem w_ripe : about1.ripe theMethod args0 below0 = true := by decide +kernel
theorem w_running : about1.status = .running := rfl
set_option maxRecDepth 65536 in
theorem w_room : about1.hasRoom e0.platform room_1 = true :=
  launch0.hasRoom_least _ room_1 (by decide +kernel) (by decide +kernel) (by decide +kernel) (by decide +kernel) (by decide +kernel) (by decide +kernel)
theorem allAtoms_all (ts : List Jvm.Cond) (a : Array Jvm.Value) (st : Jvm.State) : (allAtoms ts).before a st = ts.all (fun c => c.before a st) := by
  induction ts with
  | nil => rfl
  | cons c t ih =>
    show (Jvm.Cond.and c (allAtoms t)).before a st = _
    rw [Jvm.Cond.before_and, ih, List.all_cons]
def words1 : List Jvm.Cond := Jvm.Cond.code x code maxLocals ret :: tables_1
/-- a 'code' word, met by the world's own term for the bytes: nothing is compared byte by byte -/
theorem code_word {y : MethodName} {bytes : ByteArray} {mx : Nat} {rt : Option FieldType} {a : Array Value} {s : State} {m : MethodId} {meth : Method} {c : Code} (h1 : s.methodNamed? y = some m) (h2 : s.vm.method? m = some meth) (h3 : meth.code = some c) (h4 : c.code = bytes)
    (h5 : (c.maxLocals == mx && c.exceptionTable.isEmpty && decide (c.maxStack ≤ mostOperands) && decide (meth.sig.returnType = rt) && !meth.locks && decide (parseMethodDescriptor y.desc = some meth.sig)) = true) : (Jvm.Cond.code y bytes mx rt).before a s = true := by
  simp only [Bool.and_eq_true, beq_iff_eq, Bool.not_eq_true', decide_eq_true_eq] at h5
  obtain ⟨⟨⟨⟨⟨g1, g2⟩, g3⟩, g4⟩, g5⟩, g6⟩ := h5
  simp [Cond.before, Cond.holds, Cond.value, h1, h2, h3, h4, g1, g2, g3, g4, g5, g6]
def isCode : Jvm.Cond → Bool
  | .code _ _ _ _ => true
  | _ => false
theorem all_split {L : List Jvm.Cond} {P : Jvm.Cond → Bool} (h1 : L.all (fun c => isCode c || P c) = true) (h2 : ∀ c ∈ L.filter isCode, P c = true) : L.all P = true := by
  refine List.all_eq_true.mpr fun c hc => ?_
  have h := List.all_eq_true.mp h1 c hc
  rcases Bool.eq_false_or_eq_true (isCode c) with hi | hi
  · exact h2 c (List.mem_filter.mpr ⟨hc, hi⟩)
  · simpa [hi] using h
set_option maxRecDepth 65536 in
theorem w_c0 : (Jvm.Cond.code x code maxLocals ret).before args0 about1 = true := code_word (m := ⟨1, 1⟩) (meth := k1m1) (c := k1c1) (by decide +kernel) rfl rfl rfl (by decide +kernel)
set_option maxRecDepth 65536 in
theorem w_c1 : (Jvm.Cond.code ({ cls := "java/util/ArrayList", name := "<init>", desc := "()V" } : Jvm.MethodName) jdk_38_method_2_code (1 : Nat) (Option.none : Option Jvm.ClassFile.FieldType)).before args0 about1 = true := code_word (m := ⟨11, 0⟩) (meth := k11m0) (c := k11c0) (by decide +kernel) rfl rfl rfl (by decide +kernel)
set_option maxRecDepth 65536 in
theorem w_c2 : (Jvm.Cond.code ({ cls := "java/util/AbstractList", name := "<init>", desc := "()V" } : Jvm.MethodName) jdk_39_method_1_code (1 : Nat) (Option.none : Option Jvm.ClassFile.FieldType)).before args0 about1 = true := code_word (m := ⟨7, 0⟩) (meth := k7m0) (c := k7c0) (by decide +kernel) rfl rfl rfl (by decide +kernel)
set_option maxRecDepth 65536 in
theorem w_c3 : (Jvm.Cond.code ({ cls := "java/util/AbstractCollection", name := "<init>", desc := "()V" } : Jvm.MethodName) jdk_22_method_1_code (1 : Nat) (Option.none : Option Jvm.ClassFile.FieldType)).before args0 about1 = true := code_word (m := ⟨4, 0⟩) (meth := k4m0) (c := k4c0) (by decide +kernel) rfl rfl rfl (by decide +kernel)
set_option maxRecDepth 65536 in
theorem w_c4 : (Jvm.Cond.code ({ cls := "java/lang/Object", name := "<init>", desc := "()V" } : Jvm.MethodName) object_method_1_code (1 : Nat) (Option.none : Option Jvm.ClassFile.FieldType)).before args0 about1 = true := code_word (m := ⟨0, 0⟩) (meth := k0m0) (c := k0c0) (by decide +kernel) rfl rfl rfl (by decide +kernel)
set_option maxRecDepth 65536 in
theorem w_c5 : (Jvm.Cond.code ({ cls := "com/example/austere_nets/austerenets/program/Statement$Loop", name := "<init>", desc := "(Ljava/util/List;ZZII)V" } : Jvm.MethodName) prog_72_method_1_code (6 : Nat) (Option.none : Option Jvm.ClassFile.FieldType)).before args0 about1 = true := code_word (m := ⟨14, 0⟩) (meth := k14m0) (c := k14c0) (by decide +kernel) rfl rfl rfl (by decide +kernel)
set_option maxRecDepth 65536 in
theorem w_c6 : (Jvm.Cond.code ({ cls := "java/lang/Record", name := "<init>", desc := "()V" } : Jvm.MethodName) jdk_30_method_1_code (1 : Nat) (Option.none : Option Jvm.ClassFile.FieldType)).before args0 about1 = true := code_word (m := ⟨12, 0⟩) (meth := k12m0) (c := k12c0) (by decide +kernel) rfl rfl rfl (by decide +kernel)
set_option maxRecDepth 65536 in
theorem w_c7 : (Jvm.Cond.code ({ cls := "com/example/austere_nets/austerenets/program/Statement$Loop", name := "hasWayOut", desc := "()Z" } : Jvm.MethodName) prog_72_method_3_code (1 : Nat) (Option.some Jvm.ClassFile.FieldType.boolean)).before args0 about1 = true := code_word (m := ⟨14, 1⟩) (meth := k14m1) (c := k14c1) (by decide +kernel) rfl rfl rfl (by decide +kernel)
set_option maxRecDepth 65536 in
theorem w_c8 : (Jvm.Cond.code ({ cls := "com/example/austere_nets/austerenets/program/Statement$Exit", name := "<init>", desc := "(ZI)V" } : Jvm.MethodName) prog_71_method_1_code (3 : Nat) (Option.none : Option Jvm.ClassFile.FieldType)).before args0 about1 = true := code_word (m := ⟨15, 0⟩) (meth := k15m0) (c := k15c0) (by decide +kernel) rfl rfl rfl (by decide +kernel)
set_option maxRecDepth 65536 in
theorem w_c9 : (Jvm.Cond.code ({ cls := "java/util/ArrayList", name := "add", desc := "(Ljava/lang/Object;)Z" } : Jvm.MethodName) jdk_38_method_25_code (2 : Nat) (Option.some Jvm.ClassFile.FieldType.boolean)).before args0 about1 = true := code_word (m := ⟨11, 4⟩) (meth := k11m4) (c := k11c4) (by decide +kernel) rfl rfl rfl (by decide +kernel)
set_option maxRecDepth 65536 in
theorem w_c10 : (Jvm.Cond.code ({ cls := "java/util/ArrayList", name := "add", desc := "(Ljava/lang/Object;[Ljava/lang/Object;I)V" } : Jvm.MethodName) jdk_38_method_24_code (4 : Nat) (Option.none : Option Jvm.ClassFile.FieldType)).before args0 about1 = true := code_word (m := ⟨11, 3⟩) (meth := k11m3) (c := k11c3) (by decide +kernel) rfl rfl rfl (by decide +kernel)
set_option maxRecDepth 65536 in
theorem w_c11 : (Jvm.Cond.code ({ cls := "java/util/ArrayList", name := "grow", desc := "()[Ljava/lang/Object;" } : Jvm.MethodName) jdk_38_method_7_code (1 : Nat) (Option.some (Jvm.ClassFile.FieldType.array (Jvm.ClassFile.FieldType.object "java/lang/Object")))).before args0 about1 = true := code_word (m := ⟨11, 2⟩) (meth := k11m2) (c := k11c2) (by decide +kernel) rfl rfl rfl (by decide +kernel)
set_option maxRecDepth 65536 in
theorem w_c12 : (Jvm.Cond.code ({ cls := "java/util/ArrayList", name := "grow", desc := "(I)[Ljava/lang/Object;" } : Jvm.MethodName) jdk_38_method_6_code (4 : Nat) (Option.some (Jvm.ClassFile.FieldType.array (Jvm.ClassFile.FieldType.object "java/lang/Object")))).before args0 about1 = true := code_word (m := ⟨11, 1⟩) (meth := k11m1) (c := k11c1) (by decide +kernel) rfl rfl rfl (by decide +kernel)
set_option maxRecDepth 65536 in
theorem w_c13 : (Jvm.Cond.code ({ cls := "java/lang/Math", name := "max", desc := "(II)I" } : Jvm.MethodName) jdk_29_method_65_code (2 : Nat) (Option.some Jvm.ClassFile.FieldType.int)).before args0 about1 = true := code_word (m := ⟨16, 1⟩) (meth := k16m1) (c := k16c1) (by decide +kernel) rfl rfl rfl (by decide +kernel)
def codes1 : List Jvm.Cond := [Jvm.Cond.code x code maxLocals ret, Jvm.Cond.code ({ cls := "java/util/ArrayList", name := "<init>", desc := "()V" } : Jvm.MethodName) jdk_38_method_2_code (1 : Nat) (Option.none : Option Jvm.ClassFile.FieldType), Jvm.Cond.code ({ cls := "java/util/AbstractList", name := "<init>", desc := "()V" } : Jvm.MethodName) jdk_39_method_1_code (1 : Nat) (Option.none : Option Jvm.ClassFile.FieldType), Jvm.Cond.code ({ cls := "java/util/AbstractCollection", name := "<init>", desc := "()V" } : Jvm.MethodName) jdk_22_method_1_code (1 : Nat) (Option.none : Option Jvm.ClassFile.FieldType), Jvm.Cond.code ({ cls := "java/lang/Object", name := "<init>", desc := "()V" } : Jvm.MethodName) object_method_1_code (1 : Nat) (Option.none : Option Jvm.ClassFile.FieldType), Jvm.Cond.code ({ cls := "com/example/austere_nets/austerenets/program/Statement$Loop", name := "<init>", desc := "(Ljava/util/List;ZZII)V" } : Jvm.MethodName) prog_72_method_1_code (6 : Nat) (Option.none : Option Jvm.ClassFile.FieldType), Jvm.Cond.code ({ cls := "java/lang/Record", name := "<init>", desc := "()V" } : Jvm.MethodName) jdk_30_method_1_code (1 : Nat) (Option.none : Option Jvm.ClassFile.FieldType), Jvm.Cond.code ({ cls := "com/example/austere_nets/austerenets/program/Statement$Loop", name := "hasWayOut", desc := "()Z" } : Jvm.MethodName) prog_72_method_3_code (1 : Nat) (Option.some Jvm.ClassFile.FieldType.boolean), Jvm.Cond.code ({ cls := "com/example/austere_nets/austerenets/program/Statement$Exit", name := "<init>", desc := "(ZI)V" } : Jvm.MethodName) prog_71_method_1_code (3 : Nat) (Option.none : Option Jvm.ClassFile.FieldType), Jvm.Cond.code ({ cls := "java/util/ArrayList", name := "add", desc := "(Ljava/lang/Object;)Z" } : Jvm.MethodName) jdk_38_method_25_code (2 : Nat) (Option.some Jvm.ClassFile.FieldType.boolean), Jvm.Cond.code ({ cls := "java/util/ArrayList", name := "add", desc := "(Ljava/lang/Object;[Ljava/lang/Object;I)V" } : Jvm.MethodName) jdk_38_method_24_code (4 : Nat) (Option.none : Option Jvm.ClassFile.FieldType), Jvm.Cond.code ({ cls := "java/util/ArrayList", name := "grow", desc := "()[Ljava/lang/Object;" } : Jvm.MethodName) jdk_38_method_7_code (1 : Nat) (Option.some (Jvm.ClassFile.FieldType.array (Jvm.ClassFile.FieldType.object "java/lang/Object"))), Jvm.Cond.code ({ cls := "java/util/ArrayList", name := "grow", desc := "(I)[Ljava/lang/Object;" } : Jvm.MethodName) jdk_38_method_6_code (4 : Nat) (Option.some (Jvm.ClassFile.FieldType.array (Jvm.ClassFile.FieldType.object "java/lang/Object"))), Jvm.Cond.code ({ cls := "java/lang/Math", name := "max", desc := "(II)I" } : Jvm.MethodName) jdk_29_method_65_code (2 : Nat) (Option.some Jvm.ClassFile.FieldType.int)]
set_option maxRecDepth 65536 in
theorem codes_eq : words1.filter isCode = codes1 := rfl
theorem w_codes : ∀ c ∈ words1.filter isCode, c.before args0 about1 = true := by
  rw [codes_eq]
  intro c hc
  simp only [codes1, List.mem_cons, List.not_mem_nil, or_false] at hc
  rcases hc with rfl | rfl | rfl | rfl | rfl | rfl | rfl | rfl | rfl | rfl | rfl | rfl | rfl | rfl
  · exact w_c0
  · exact w_c1
  · exact w_c2
  · exact w_c3
  · exact w_c4
  · exact w_c5
  · exact w_c6
  · exact w_c7
  · exact w_c8
  · exact w_c9
  · exact w_c10
  · exact w_c11
  · exact w_c12
  · exact w_c13
set_option maxRecDepth 65536 in
theorem w_t1 : (words1.take 24).all (fun c => isCode c || c.before args0 about1) = true := by decide +kernel
set_option maxRecDepth 65536 in
theorem w_t2 : ((words1.drop 24).take 24).all (fun c => isCode c || c.before args0 about1) = true := by decide +kernel
set_option maxRecDepth 65536 in
theorem w_t3 : (((words1.drop 24).drop 24).take 24).all (fun c => isCode c || c.before args0 about1) = true := by decide +kernel
set_option maxRecDepth 65536 in
theorem w_t4 : (((words1.drop 24).drop 24).drop 24).all (fun c => isCode c || c.before args0 about1) = true := by decide +kernel
theorem w_tables : (allAtoms (Jvm.Cond.code x code maxLocals ret :: tables_1)).before args0 about1 = true := by
  rw [allAtoms_all]
  show words1.all (fun c => c.before args0 about1) = true
  refine all_split ?_ w_codes
  rw [← List.take_append_drop 24 words1, List.all_append, w_t1, ← List.take_append_drop 24 (words1.drop 24), List.all_append, w_t2, ← List.take_append_drop 24 ((words1.drop 24).drop 24), List.all_append, w_t3, w_t4]
  rfl
set_option maxRecDepth 65536 in
theorem w_rest : rest_1_c.before args0 about1 = true := by decide +kernel
set_option maxRecDepth 65536 in
theorem w_case : (Jvm.Cond.and given_1 narrow_1).before args0 about1 = true := by decide +kernel
theorem w_applies : (headSpec (Jvm.Cond.code x code maxLocals ret :: tables_1) room_1).applies x e0.platform about1 = true :=
  (Spec.applies_iff w_frames).mpr ⟨w_running, w_runnable, w_alone, w_named, w_hears, w_ripe, w_room, w_tables⟩
theorem atStart : AtStart classFile x code maxLocals ret World_1 tables_1 room_1 Calls_1 rest_1 Pre_1 launch0 p0 e0 about1 theMethod args0 below0 :=
  ⟨lists_1, trivial, launch0.admits_env _ _ _, launch0.least_env, fairChoices_fair.cas, fairChoices_fair.clock, w_frames, w_args, w_heap, w_applies, trivial, w_rest, w_case⟩
end start1
theorem witness_1 : WitnessClaimed_1 := ⟨start1.p0, start1.e0, start1.about1, start1.theMethod, start1.args0, start1.below0, start1.atStart⟩
end Jvm.Pilot.@@N@@
