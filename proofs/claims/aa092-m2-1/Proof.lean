import JvmDerived
import JvmDerived.Pilot.@@N@@Statement
import JvmDerived.Pilot.@@N@@Code
set_option linter.unusedVariables false
set_option linter.unusedSimpArgs false
namespace Jvm.Pilot.@@N@@
open Jvm Jvm.ClassFile Sem Op Lib Jvm.Free Jvm.Stand Jvm.LawKit Jvm.RoadKit Bundle Jvm.Pilot.@@N@@.Jvm.D
/-- the run from A ends, and its end is as K says -/
def own_Go (tb : Tables) (e : Env) (below : List Frame) (K : Outcome → State → Prop) (A : State) : Prop := ∃ s₂ o, Steps tb e below A s₂ ∧ s₂.status = .running ∧ Ended s₂ below o ∧ K o s₂
theorem own_st {tb : Tables} {e : Env} {below : List Frame} {K : Outcome → State → Prop} {A B : State} (h : ∀ t, Steps tb e below B t → Steps tb e below A t) (g : own_Go tb e below K B) : own_Go tb e below K A := by
  obtain ⟨s₂, o, h1, r⟩ := g
  exact ⟨s₂, o, h _ h1, r⟩
theorem own_tr {tb : Tables} {e : Env} {below : List Frame} {K : Outcome → State → Prop} {A B : State} (h : Steps tb e below A B) (g : own_Go tb e below K B) : own_Go tb e below K A := by
  obtain ⟨s₂, o, h1, r⟩ := g
  exact ⟨s₂, o, h.trans h1, r⟩
section Rets
variable {p : Program} {l : Launch} {e : Env} {R : Room} {s : State} {m : MethodId} {args : Array Value} {below : List Frame} {meth : Method} {c : Code} {T : State} {locs : List Loc} {cells slots : Nat} {Q : Option Value → Heap → List Loc → Prop} {C S : Nat}
theorem own_ret (X : Stand p l e R s m args below meth c T locs cells slots) {v : Option Value} {A : State} (hv : meth.sig.returnType = none → v = none) (hlocks : meth.locks = false)
    (st : ∀ fs, (∀ (f : JFrame) (acts : List Action), f.method = m → f.locked = none → f.entered = [] → (doReturn e (T.setTop f) acts v).1 = T.setFrames fs) → Steps p.tables e below A (T.setFrames fs)) (q : Q v T.heap locs) (hc : cells ≤ C) (hs : slots ≤ S) :
    own_Go p.tables e below (fun o U' => ∃ v L, o = .returned v ∧ Q v U'.heap L ∧ FrameEnd s o U' L C S) A := by
  obtain ⟨fs, hr, hrun, hended, hW, hsame⟩ := X.leave (v := v) hv hlocks
  exact ⟨_, _, st fs hr, hrun, hended, _, _, rfl, q, ⟨_, rfl⟩, hW, hsame.mono hc hs⟩
theorem own_retV (X : Stand p l e R s m args below meth c T locs cells slots) (hx : p.tables.exec = Jvm.exec) {pc : Nat} {Ls : Array Slot} (hret : meth.sig.returnType = none) (hd : decode c.code pc = .ok (.return_, 1)) (hlocks : meth.locks = false) (q : Q none T.heap locs) (hc : cells ≤ C) (hs : slots ≤ S) :
    own_Go p.tables e below (fun o U' => ∃ v L, o = .returned v ∧ Q v U'.heap L ∧ FrameEnd s o U' L C S) (T.setTop (mkF m pc Ls [])) :=
  own_ret X (fun _ => rfl) hlocks (fun _ hr => X.returnOut hx hret hd hr) q hc hs
theorem own_retN (X : Stand p l e R s m args below meth c T locs cells slots) (hx : p.tables.exec = Jvm.exec) {pc : Nat} {Ls : Array Slot} {z : Int32} {t : FieldType} {rest : List Value} (hret : meth.sig.returnType = some t) (ht : t = .boolean ∨ t = .byte ∨ t = .char ∨ t = .short) (hd : decode c.code pc = .ok (.ireturn, 1)) (hlocks : meth.locks = false) (q : Q (some (.int (nar t z))) T.heap locs) (hc : cells ≤ C) (hs : slots ≤ S) :
    own_Go p.tables e below (fun o U' => ∃ v L, o = .returned v ∧ Q v U'.heap L ∧ FrameEnd s o U' L C S) (T.setTop (mkF m pc Ls (.int z :: rest))) :=
  own_ret X (fun h => by rw [hret] at h; cases h) hlocks (fun _ hr => retN X hx hret ht hd hr) q hc hs
theorem own_retI (X : Stand p l e R s m args below meth c T locs cells slots) (hx : p.tables.exec = Jvm.exec) {pc : Nat} {Ls : Array Slot} {z : Int32} {rest : List Value} (hret : meth.sig.returnType = some .int) (hd : decode c.code pc = .ok (.ireturn, 1)) (hlocks : meth.locks = false) (q : Q (some (.int z)) T.heap locs) (hc : cells ≤ C) (hs : slots ≤ S) :
    own_Go p.tables e below (fun o U' => ∃ v L, o = .returned v ∧ Q v U'.heap L ∧ FrameEnd s o U' L C S) (T.setTop (mkF m pc Ls (.int z :: rest))) :=
  own_ret X (fun h => by rw [hret] at h; cases h) hlocks (fun _ hr => retOut X hx hret rfl (Or.inl ⟨rfl, Or.inl rfl, z, rfl⟩) hd hr) q hc hs
theorem own_retJ (X : Stand p l e R s m args below meth c T locs cells slots) (hx : p.tables.exec = Jvm.exec) {pc : Nat} {Ls : Array Slot} {z : Int64} {rest : List Value} (hret : meth.sig.returnType = some .long) (hd : decode c.code pc = .ok (.lreturn, 1)) (hlocks : meth.locks = false) (q : Q (some (.long z)) T.heap locs) (hc : cells ≤ C) (hs : slots ≤ S) :
    own_Go p.tables e below (fun o U' => ∃ v L, o = .returned v ∧ Q v U'.heap L ∧ FrameEnd s o U' L C S) (T.setTop (mkF m pc Ls (.long z :: rest))) :=
  own_ret X (fun h => by rw [hret] at h; cases h) hlocks (fun _ hr => retOut X hx hret rfl (Or.inr (Or.inl ⟨rfl, rfl, z, rfl⟩)) hd hr) q hc hs
theorem own_narrow_ref {t : FieldType} {w : Value} (ht : t.isReference = true) : narrow t w = w := by cases t <;> first | (cases ht; done) | rfl
theorem own_retA (X : Stand p l e R s m args below meth c T locs cells slots) (hx : p.tables.exec = Jvm.exec) {pc : Nat} {Ls : Array Slot} {w : Value} {t : FieldType} {rest : List Value} (hret : meth.sig.returnType = some t) (ht : t.isReference = true) (hw : w.isRef = true) (hd : decode c.code pc = .ok (.areturn, 1)) (hlocks : meth.locks = false) (q : Q (some w) T.heap locs) (hc : cells ≤ C) (hs : slots ≤ S) :
    own_Go p.tables e below (fun o U' => ∃ v L, o = .returned v ∧ Q v U'.heap L ∧ FrameEnd s o U' L C S) (T.setTop (mkF m pc Ls (w :: rest))) :=
  own_ret X (fun h => by rw [hret] at h; cases h) hlocks (fun _ hr => retOut X hx hret (own_narrow_ref ht) (Or.inr (Or.inr (Or.inr (Or.inr ⟨rfl, ht, hw⟩)))) hd hr) q hc hs
end Rets

theorem own_root {Z : State} {a0 : Array Value} {O K : String} {n : Nat} (w : (Jvm.Cond.noSuperclass O).before a0 Z = true) (wk : (Jvm.Cond.instantiable K n).before a0 Z = true) (hn : O ≠ K) : NS Z O K := by
  obtain ⟨c, k, h1, h2, h3, -⟩ := Cond.noSuperclass_spec w
  obtain ⟨t, kt, g1, -⟩ := Cond.instantiable_spec wk
  refine ⟨c, t, h1, g1, fun fuel => ?_⟩
  cases fuel with
  | zero => rfl
  | succ f => simp [Vm.isSubclassAux, ids_ne h1 g1 hn, h2, h3]
theorem own_no {Z : State} {a0 : Array Value} {C S K : String} {n : Nat} (w : (Jvm.Cond.superclass C S).before a0 Z = true) (wk : (Jvm.Cond.instantiable K n).before a0 Z = true) (N : NS Z C K) (hn : C ≠ K) : ∃ c t, Z.vm.findClass C = some c ∧ Z.vm.findClass K = some t ∧ Z.vm.assignable c t = false := by
  obtain ⟨c, t, h0, g0, n3⟩ := N
  obtain ⟨p, k, kp, -, h2, -, -, h5, -⟩ := Cond.superclass_spec h0 w
  obtain ⟨t', kt, g1, g2, g3, g4, -⟩ := Cond.instantiable_spec wk
  cases g0.symm.trans g1
  have g5 : kt.isInterface = false := by
    cases hh : kt.isInterface with
    | false => rfl
    | true => rw [hh] at g4; cases g4
  refine ⟨c, t, h0, g0, ?_⟩
  show Z.vm.assignableAux (255 + 1) c t = false
  simp [Vm.assignableAux, ids_ne h0 g0 hn, h2, g2, h5, g3, g5, Vm.isSubclass, n3]
def own_e (m1 m2 : Int32) (n1 n2 : Int64) : Int32 := if m1 = m2 then (if n1 = n2 then 1 else 0) else 0
theorem own_lo (q : Int64) (h1 : ¬ q < (-128 : Int64)) (h2 : ¬ (127 : Int64) < q) : ¬ q.toInt32 < (-128 : Int32) ∧ ¬ q.toInt32 > (127 : Int32) := by
  have h := c_l2i q
  have r := rng32 q.toInt32
  have r1 : (-128 : Int64).toInt = -128 := by decide
  have r2 : (127 : Int64).toInt = 127 := by decide
  have r3 : (-128 : Int32).toInt = -128 := by decide
  have r4 : (127 : Int32).toInt = 127 := by decide
  simp only [Int64.lt_iff_toInt_lt, Int32.lt_iff_toInt_lt, GT.gt, r1, r2, r3, r4] at *
  omega

theorem d2_0 : decode jdk_30_method_1_code 0 = .ok (.aload_n 0, 1) := by decide +kernel
theorem d2_1 : decode jdk_30_method_1_code 1 = .ok (.invokespecial 1, 3) := by decide +kernel
theorem d2_4 : decode jdk_30_method_1_code 4 = .ok (.return_, 1) := by decide +kernel
theorem pn_java_lang_Record : plainName "java/lang/Record" = true := by first | (simp [plainName, overriddenIn]; done) | decide +kernel
theorem ef_rmRecord (m : MethodId) (x0 : Addr) : entryFrame m #[(.ref x0)] 1 = mkF m 0 #[.val (.ref x0)] [] := by first | (simp [entryFrame, mkF, argsToLocals, Value.category]; done) | rfl
def Q_rmRecord (Z : State) (o : Addr) (h0 : Heap) (n0 : Nat) (v : Option Value) (h : Heap) (L : List Loc) : Prop := v = none ∧ Fr n0 L ∧ h = h0
def K_rmRecord (Z : State) (o : Addr) (h0 : Heap) (n0 : Nat) (s : State) : Outcome → State → Prop := fun oo U' => ∃ v L, oo = .returned v ∧ Q_rmRecord Z o h0 n0 v U'.heap L ∧ FrameEnd s oo U' L ({ frames := 1, cells := 0, slots := 0, locals := 12 } : Room).cells ({ frames := 1, cells := 0, slots := 0, locals := 12 } : Room).slots
set_option maxRecDepth 65536 in
set_option maxHeartbeats 40000000 in
theorem rmRecord (l : Launch) (Z : State) (a0 : Array Value) (hw : ∀ d ∈ tables_1, d.before a0 Z = true) (ws : List Jvm.Cond) (o : Addr) (h0 : Heap) (n0 : Nat) (Z0 : n0 ≤ h0.size)  :
    MetFree l (⟨"java/lang/Record", "<init>", "()V"⟩ : MethodName) (head1 (Jvm.Cond.code (⟨"java/lang/Record", "<init>", "()V"⟩ : MethodName) jdk_30_method_1_code 1 none :: ws) ({ frames := 1, cells := 0, slots := 0, locals := 12 } : Room)) (fun a U => a = #[(.ref o)] ∧ Z.Warmed39 U.vm ∧ U.heap = h0) (fun _ _ _ _ _ => True) (fun _ U oo U' => ∃ v L, oo = .returned v ∧ Q_rmRecord Z o h0 n0 v U'.heap L ∧ FrameEnd U oo U' L ({ frames := 1, cells := 0, slots := 0, locals := 12 } : Room).cells ({ frames := 1, cells := 0, slots := 0, locals := 12 } : Room).slots) := by
  refine MetFree.of_bodySF (plainFor_of_name pn_java_lang_Record) hisR ?_
  intro p e s m args below meth c s₁ Bd hml0 hP hK
  obtain ⟨rfl, hZ, hh⟩ := hP
  have hx := Bd.exec
  have hby := Bd.bytes
  have hml : c.maxLocals = 1 := hml0
  have hown : s.vm.findClass "java/lang/Record" = some m.cls := findClass_of_methodNamed Bd.named
  have hnm := (name_of_methodNamed Bd.named Bd.method).1
  have X0 : Stand p l e ({ frames := 1, cells := 0, slots := 0, locals := 12 } : Room) s m #[(.ref o)] below meth c s₁ [] 0 0 := Stand.of_body Bd
  have e0 : s₁.heap = h0 := by rw [← hh, Bd.state]; rfl
  have N0 := Fr.nil n0
  refine own_st (K := (K_rmRecord Z o h0 n0 s)) (fun t' k' => castTop (ef_rmRecord m o) k') ?_
  show own_Go p.tables e below _ (s₁.setTop (mkF m 0 #[.val (.ref o)] []))
  refine own_st (fun _ k' => XS.aloadN X0.here hx rfl (hb hby d2_0) rfl rfl k') ?_
  show own_Go p.tables e below _ (s₁.setTop (mkF m 1 #[.val (.ref o)] [(.ref o)]))
  obtain ⟨T1, X1, e1, st1⟩ := initO X0 hx hZ hown (hw _ (List.mem_of_getElem? (i := 11) rfl)) (hw _ (List.mem_of_getElem? (i := 12) rfl)) (hw _ (List.mem_of_getElem? (i := 13) rfl)) e0 (g := (mkF m 1 #[.val (.ref o)] [(.ref o)])) rfl (by rw [hml]; rfl) rfl (hb hby d2_1) (by decide) (W := 0) (by show 2 * 0 + _ ≤ _; exact Nat.le_of_eq rfl) (by decide)
  refine own_st st1 ?_
  show own_Go p.tables e below _ (T1.setTop (mkF m 4 #[.val (.ref o)] []))
  exact own_retV X1 hx Bd.returns (hb hby d2_4) Bd.notSynchronized ⟨rfl, N0, e1⟩ (by decide) (by decide)

theorem d8_0 : decode jdk_18_method_1_code 0 = .ok (.aload_n 0, 1) := by decide +kernel
theorem d8_1 : decode jdk_18_method_1_code 1 = .ok (.invokespecial 1, 3) := by decide +kernel
theorem d8_4 : decode jdk_18_method_1_code 4 = .ok (.return_, 1) := by decide +kernel
theorem pn_java_lang_Number : plainName "java/lang/Number" = true := by first | (simp [plainName, overriddenIn]; done) | decide +kernel
theorem ef_rmNumber (m : MethodId) (x0 : Addr) : entryFrame m #[(.ref x0)] 1 = mkF m 0 #[.val (.ref x0)] [] := by first | (simp [entryFrame, mkF, argsToLocals, Value.category]; done) | rfl
def Q_rmNumber (Z : State) (o : Addr) (h0 : Heap) (n0 : Nat) (v : Option Value) (h : Heap) (L : List Loc) : Prop := v = none ∧ Fr n0 L ∧ h = h0
def K_rmNumber (Z : State) (o : Addr) (h0 : Heap) (n0 : Nat) (s : State) : Outcome → State → Prop := fun oo U' => ∃ v L, oo = .returned v ∧ Q_rmNumber Z o h0 n0 v U'.heap L ∧ FrameEnd s oo U' L ({ frames := 1, cells := 0, slots := 0, locals := 12 } : Room).cells ({ frames := 1, cells := 0, slots := 0, locals := 12 } : Room).slots
set_option maxRecDepth 65536 in
set_option maxHeartbeats 40000000 in
theorem rmNumber (l : Launch) (Z : State) (a0 : Array Value) (hw : ∀ d ∈ tables_1, d.before a0 Z = true) (ws : List Jvm.Cond) (o : Addr) (h0 : Heap) (n0 : Nat) (Z0 : n0 ≤ h0.size)  :
    MetFree l (⟨"java/lang/Number", "<init>", "()V"⟩ : MethodName) (head1 (Jvm.Cond.code (⟨"java/lang/Number", "<init>", "()V"⟩ : MethodName) jdk_18_method_1_code 1 none :: ws) ({ frames := 1, cells := 0, slots := 0, locals := 12 } : Room)) (fun a U => a = #[(.ref o)] ∧ Z.Warmed39 U.vm ∧ U.heap = h0) (fun _ _ _ _ _ => True) (fun _ U oo U' => ∃ v L, oo = .returned v ∧ Q_rmNumber Z o h0 n0 v U'.heap L ∧ FrameEnd U oo U' L ({ frames := 1, cells := 0, slots := 0, locals := 12 } : Room).cells ({ frames := 1, cells := 0, slots := 0, locals := 12 } : Room).slots) := by
  refine MetFree.of_bodySF (plainFor_of_name pn_java_lang_Number) hisR ?_
  intro p e s m args below meth c s₁ Bd hml0 hP hK
  obtain ⟨rfl, hZ, hh⟩ := hP
  have hx := Bd.exec
  have hby := Bd.bytes
  have hml : c.maxLocals = 1 := hml0
  have hown : s.vm.findClass "java/lang/Number" = some m.cls := findClass_of_methodNamed Bd.named
  have hnm := (name_of_methodNamed Bd.named Bd.method).1
  have X0 : Stand p l e ({ frames := 1, cells := 0, slots := 0, locals := 12 } : Room) s m #[(.ref o)] below meth c s₁ [] 0 0 := Stand.of_body Bd
  have e0 : s₁.heap = h0 := by rw [← hh, Bd.state]; rfl
  have N0 := Fr.nil n0
  refine own_st (K := (K_rmNumber Z o h0 n0 s)) (fun t' k' => castTop (ef_rmNumber m o) k') ?_
  show own_Go p.tables e below _ (s₁.setTop (mkF m 0 #[.val (.ref o)] []))
  refine own_st (fun _ k' => XS.aloadN X0.here hx rfl (hb hby d8_0) rfl rfl k') ?_
  show own_Go p.tables e below _ (s₁.setTop (mkF m 1 #[.val (.ref o)] [(.ref o)]))
  obtain ⟨T1, X1, e1, st1⟩ := initO X0 hx hZ hown (hw _ (List.mem_of_getElem? (i := 53) rfl)) (hw _ (List.mem_of_getElem? (i := 12) rfl)) (hw _ (List.mem_of_getElem? (i := 13) rfl)) e0 (g := (mkF m 1 #[.val (.ref o)] [(.ref o)])) rfl (by rw [hml]; rfl) rfl (hb hby d8_1) (by decide) (W := 0) (by show 2 * 0 + _ ≤ _; exact Nat.le_of_eq rfl) (by decide)
  refine own_st st1 ?_
  show own_Go p.tables e below _ (T1.setTop (mkF m 4 #[.val (.ref o)] []))
  exact own_retV X1 hx Bd.returns (hb hby d8_4) Bd.notSynchronized ⟨rfl, N0, e1⟩ (by decide) (by decide)

theorem d1_0 : decode prog_109_method_1_code 0 = .ok (.aload_n 0, 1) := by decide +kernel
theorem d1_1 : decode prog_109_method_1_code 1 = .ok (.invokespecial 1, 3) := by decide +kernel
theorem d1_4 : decode prog_109_method_1_code 4 = .ok (.aload_n 0, 1) := by decide +kernel
theorem d1_5 : decode prog_109_method_1_code 5 = .ok (.iload_n 1, 1) := by decide +kernel
theorem d1_6 : decode prog_109_method_1_code 6 = .ok (.putfield 7, 3) := by decide +kernel
theorem d1_9 : decode prog_109_method_1_code 9 = .ok (.aload_n 0, 1) := by decide +kernel
theorem d1_10 : decode prog_109_method_1_code 10 = .ok (.lload_n 2, 1) := by decide +kernel
theorem d1_11 : decode prog_109_method_1_code 11 = .ok (.putfield 13, 3) := by decide +kernel
theorem d1_14 : decode prog_109_method_1_code 14 = .ok (.return_, 1) := by decide +kernel
theorem pd___V : parseMethodDescriptor "()V" = some ⟨[], none⟩ := by decide +kernel
theorem pn_com_example_penumbra_penumbra_order_ClockedMulticast_MessageId : plainName "com/example/penumbra/penumbra/order/ClockedMulticast$MessageId" = true := by first | (simp [plainName, overriddenIn]; done) | decide +kernel
theorem ef_rmN (m : MethodId) (x0 : Addr) (x1 : Int32) (x2 : Int64) : entryFrame m #[(.ref x0), (.int x1), (.long x2)] 4 = mkF m 0 #[.val (.ref x0), .val (.int x1), .val (.long x2), .second] [] := by first | (simp [entryFrame, mkF, argsToLocals, Value.category]; done) | rfl
def Q_rmN (Z : State) (o : Addr) (pa : Int32) (qa : Int64) (h0 : Heap) (n0 : Nat) (v : Option Value) (h : Heap) (L : List Loc) : Prop := v = none ∧ Fr n0 L ∧ Keep h0 h [o] ∧ Exa Z h o "com/example/penumbra/penumbra/order/ClockedMulticast$MessageId" ∧ Fld Z h o "com/example/penumbra/penumbra/order/ClockedMulticast$MessageId" "sender" "I" (.int pa) ∧ Fld Z h o "com/example/penumbra/penumbra/order/ClockedMulticast$MessageId" "number" "J" (.long qa)
def K_rmN (Z : State) (o : Addr) (pa : Int32) (qa : Int64) (h0 : Heap) (n0 : Nat) (s : State) : Outcome → State → Prop := fun oo U' => ∃ v L, oo = .returned v ∧ Q_rmN Z o pa qa h0 n0 v U'.heap L ∧ FrameEnd s oo U' L ({ frames := 2, cells := 0, slots := 0, locals := 24 } : Room).cells ({ frames := 2, cells := 0, slots := 0, locals := 24 } : Room).slots
set_option maxRecDepth 65536 in
set_option maxHeartbeats 40000000 in
theorem rmN (l : Launch) (Z : State) (a0 : Array Value) (hw : ∀ d ∈ tables_1, d.before a0 Z = true) (ws : List Jvm.Cond) (o : Addr) (pa : Int32) (qa : Int64) (h0 : Heap) (n0 : Nat) (Z0 : n0 ≤ h0.size) (E_o : Exa Z h0 o "com/example/penumbra/penumbra/order/ClockedMulticast$MessageId") (F_1 : Fld Z h0 o "com/example/penumbra/penumbra/order/ClockedMulticast$MessageId" "sender" "I" (.int (0 : Int32))) (F_2 : Fld Z h0 o "com/example/penumbra/penumbra/order/ClockedMulticast$MessageId" "number" "J" (.long (0 : Int64))) (g_o : n0 ≤ o) :
    MetFree l (⟨"com/example/penumbra/penumbra/order/ClockedMulticast$MessageId", "<init>", "(IJ)V"⟩ : MethodName) (head1 (Jvm.Cond.code (⟨"com/example/penumbra/penumbra/order/ClockedMulticast$MessageId", "<init>", "(IJ)V"⟩ : MethodName) prog_109_method_1_code 4 none :: ws) ({ frames := 2, cells := 0, slots := 0, locals := 24 } : Room)) (fun a U => a = #[(.ref o), (.int pa), (.long qa)] ∧ Z.Warmed39 U.vm ∧ U.heap = h0) (fun _ _ _ _ _ => True) (fun _ U oo U' => ∃ v L, oo = .returned v ∧ Q_rmN Z o pa qa h0 n0 v U'.heap L ∧ FrameEnd U oo U' L ({ frames := 2, cells := 0, slots := 0, locals := 24 } : Room).cells ({ frames := 2, cells := 0, slots := 0, locals := 24 } : Room).slots) := by
  refine MetFree.of_bodySF (plainFor_of_name pn_com_example_penumbra_penumbra_order_ClockedMulticast_MessageId) hisR ?_
  intro p e s m args below meth c s₁ Bd hml0 hP hK
  obtain ⟨rfl, hZ, hh⟩ := hP
  have hx := Bd.exec
  have hby := Bd.bytes
  have hml : c.maxLocals = 4 := hml0
  have hown : s.vm.findClass "com/example/penumbra/penumbra/order/ClockedMulticast$MessageId" = some m.cls := findClass_of_methodNamed Bd.named
  have hnm := (name_of_methodNamed Bd.named Bd.method).1
  have X0 : Stand p l e ({ frames := 2, cells := 0, slots := 0, locals := 24 } : Room) s m #[(.ref o), (.int pa), (.long qa)] below meth c s₁ [] 0 0 := Stand.of_body Bd
  have e0 : s₁.heap = h0 := by rw [← hh, Bd.state]; rfl
  have N0 := Fr.nil n0
  refine own_st (K := (K_rmN Z o pa qa h0 n0 s)) (fun t' k' => castTop (ef_rmN m o pa qa) k') ?_
  show own_Go p.tables e below _ (s₁.setTop (mkF m 0 #[.val (.ref o), .val (.int pa), .val (.long qa), .second] []))
  refine own_st (fun _ k' => XS.aloadN X0.here hx rfl (hb hby d1_0) rfl rfl k') ?_
  show own_Go p.tables e below _ (s₁.setTop (mkF m 1 #[.val (.ref o), .val (.int pa), .val (.long qa), .second] [(.ref o)]))
  obtain ⟨_, _, ⟨T1, L1, k1, n1⟩, -, X1, ⟨Lc1, hQ1, l1, y1, z1⟩, st1⟩ := X0.specialBack hx (y := (⟨"java/lang/Record", "<init>", "()V"⟩ : MethodName)) rfl hown (mvT hZ (hw _ (List.mem_of_getElem? (i := 6) rfl))) (mvT hZ (hw _ (List.mem_of_getElem? (i := 7) rfl))) (mvT hZ (hw _ (List.mem_of_getElem? (i := 10) rfl))) (by decide) (backOf (W := 0) (rmRecord l Z a0 hw [] o h0 n0 Z0 ) hZ (hw _ (List.mem_of_getElem? (i := 10) rfl)) (hw _ (List.mem_of_getElem? (i := 9) rfl)) (by decide) (by decide)) (g := (mkF m 1 #[.val (.ref o), .val (.int pa), .val (.long qa), .second] [(.ref o)])) rfl (by rw [hml]; rfl) (Steps.refl _) (a := o) (argsL := []) (rest := []) (lenOf pd___V rfl) rfl (by show 2 * 0 + _ ≤ _; exact Nat.le_of_eq rfl) (hb hby d1_1) (fun _ _ => ⟨rfl, e0, (by decide : 0 + 0 ≤ _), (by decide : 0 + 0 ≤ _)⟩)
  dsimp only [Pt.U, Pt.locs, Pt.cells, Pt.slots] at X1 l1 y1 z1 st1 hQ1
  subst l1 y1 z1
  obtain ⟨rfl, Nq1, e1⟩ := hQ1
  have N1 := Fr.app N0 Nq1
  refine own_tr st1 ?_
  show own_Go p.tables e below _ (T1.setTop (mkF m 4 #[.val (.ref o), .val (.int pa), .val (.long qa), .second] []))
  refine own_st (fun _ k' => XS.aloadN X1.here hx rfl (hb hby d1_4) rfl rfl k') ?_
  show own_Go p.tables e below _ (T1.setTop (mkF m 5 #[.val (.ref o), .val (.int pa), .val (.long qa), .second] [(.ref o)]))
  refine own_st (fun _ k' => XS.iloadN X1.here hx rfl (hb hby d1_5) rfl k') ?_
  show own_Go p.tables e below _ (T1.setTop (mkF m 6 #[.val (.ref o), .val (.int pa), .val (.long qa), .second] [(.int pa), (.ref o)]))
  obtain ⟨T2, h2, X2, e2, W2, st2⟩ := putF X1 hx hZ hown (host := "") (Or.inl (hw _ (List.mem_of_getElem? (i := 14) rfl))) Via.refl e1 F_1 E_o (Or.inr ⟨(hw _ (List.mem_of_getElem? (i := 15) rfl)), rfl, hnm⟩) (hw _ (List.mem_of_getElem? (i := 1) rfl)) (ty := .int) (by decide) rfl rfl (g := (mkF m 6 #[.val (.ref o), .val (.int pa), .val (.long qa), .second] [(.int pa), (.ref o)])) rfl rfl (hb hby d1_6)
  have N2 := Fr.snoc X2 N1 g_o
  have E_o_x3 := E_o.wr W2
  have F_1_x4 := F_1.same W2
  have F_2_x5 := F_2.other W2 (Or.inr (slot_ne (Or.inr (hw _ (List.mem_of_getElem? (i := 17) rfl))) (Or.inr (hw _ (List.mem_of_getElem? (i := 15) rfl))) (by decide) (t := .long) (t' := .int) (by decide) (by decide)))
  have K6 : Keep h0 h2 [o] := (Keep.refl h0 [o]).wr W2 (Or.inl (List.mem_of_getElem? (i := 0) rfl))
  refine own_st st2 ?_
  show own_Go p.tables e below _ (T2.setTop (mkF m 9 #[.val (.ref o), .val (.int pa), .val (.long qa), .second] []))
  refine own_st (fun _ k' => XS.aloadN X2.here hx rfl (hb hby d1_9) rfl rfl k') ?_
  show own_Go p.tables e below _ (T2.setTop (mkF m 10 #[.val (.ref o), .val (.int pa), .val (.long qa), .second] [(.ref o)]))
  refine own_st (fun _ k' => XS.lloadN X2.here hx rfl (hb hby d1_10) rfl k') ?_
  show own_Go p.tables e below _ (T2.setTop (mkF m 11 #[.val (.ref o), .val (.int pa), .val (.long qa), .second] [(.long qa), (.ref o)]))
  obtain ⟨T7, h7, X7, e7, W7, st7⟩ := putF X2 hx hZ hown (host := "") (Or.inl (hw _ (List.mem_of_getElem? (i := 16) rfl))) Via.refl e2 F_2_x5 E_o_x3 (Or.inr ⟨(hw _ (List.mem_of_getElem? (i := 17) rfl)), rfl, hnm⟩) (hw _ (List.mem_of_getElem? (i := 1) rfl)) (ty := .long) (by decide) rfl rfl (g := (mkF m 11 #[.val (.ref o), .val (.int pa), .val (.long qa), .second] [(.long qa), (.ref o)])) rfl rfl (hb hby d1_11)
  have N7 := Fr.snoc X7 N2 g_o
  have E_o_x8 := E_o_x3.wr W7
  have F_1_x9 := F_1_x4.other W7 (Or.inr (slot_ne (Or.inr (hw _ (List.mem_of_getElem? (i := 15) rfl))) (Or.inr (hw _ (List.mem_of_getElem? (i := 17) rfl))) (by decide) (t := .int) (t' := .long) (by decide) (by decide)))
  have F_2_x10 := F_2_x5.same W7
  have K11 : Keep h0 h7 [o] := K6.wr W7 (Or.inl (List.mem_of_getElem? (i := 0) rfl))
  refine own_st st7 ?_
  show own_Go p.tables e below _ (T7.setTop (mkF m 14 #[.val (.ref o), .val (.int pa), .val (.long qa), .second] []))
  exact own_retV X7 hx Bd.returns (hb hby d1_14) Bd.notSynchronized ⟨rfl, N7, by rw [e7]; exact K11, by rw [e7]; exact E_o_x8, by rw [e7]; exact F_1_x9, by rw [e7]; exact F_2_x10⟩ (by decide) (by decide)

theorem d4_0 : decode prog_109_method_2_code 0 = .ok (.aload_n 1, 1) := by decide +kernel
theorem d4_1 : decode prog_109_method_2_code 1 = .ok (.instanceof 8, 3) := by decide +kernel
theorem d4_4 : decode prog_109_method_2_code 4 = .ok (.ifCond .eq 35, 3) := by decide +kernel
theorem d4_39 : decode prog_109_method_2_code 39 = .ok (.iconst 0, 1) := by decide +kernel
theorem d4_40 : decode prog_109_method_2_code 40 = .ok (.ireturn, 1) := by decide +kernel
theorem ef_rmE0 (m : MethodId) (x0 : Addr) : entryFrame m #[(.ref x0), .null] 3 = mkF m 0 #[.val (.ref x0), .val .null, .unset] [] := by first | (simp [entryFrame, mkF, argsToLocals, Value.category]; done) | rfl
def Q_rmE0 (Z : State) (o : Addr) (h0 : Heap) (n0 : Nat) (v : Option Value) (h : Heap) (L : List Loc) : Prop := v = some (.int 0) ∧ Fr n0 L ∧ h = h0
def K_rmE0 (Z : State) (o : Addr) (h0 : Heap) (n0 : Nat) (s : State) : Outcome → State → Prop := fun oo U' => ∃ v L, oo = .returned v ∧ Q_rmE0 Z o h0 n0 v U'.heap L ∧ FrameEnd s oo U' L ({ frames := 0, cells := 0, slots := 0, locals := 0 } : Room).cells ({ frames := 0, cells := 0, slots := 0, locals := 0 } : Room).slots
set_option maxRecDepth 65536 in
set_option maxHeartbeats 40000000 in
theorem rmE0 (l : Launch) (Z : State) (a0 : Array Value) (hw : ∀ d ∈ tables_1, d.before a0 Z = true) (ws : List Jvm.Cond) (o : Addr) (h0 : Heap) (n0 : Nat) (Z0 : n0 ≤ h0.size)  :
    MetFree l (⟨"com/example/penumbra/penumbra/order/ClockedMulticast$MessageId", "equals", "(Ljava/lang/Object;)Z"⟩ : MethodName) (head1 (Jvm.Cond.code (⟨"com/example/penumbra/penumbra/order/ClockedMulticast$MessageId", "equals", "(Ljava/lang/Object;)Z"⟩ : MethodName) prog_109_method_2_code 3 (some .boolean) :: ws) ({ frames := 0, cells := 0, slots := 0, locals := 0 } : Room)) (fun a U => a = #[(.ref o), .null] ∧ Z.Warmed39 U.vm ∧ U.heap = h0) (fun _ _ _ _ _ => True) (fun _ U oo U' => ∃ v L, oo = .returned v ∧ Q_rmE0 Z o h0 n0 v U'.heap L ∧ FrameEnd U oo U' L ({ frames := 0, cells := 0, slots := 0, locals := 0 } : Room).cells ({ frames := 0, cells := 0, slots := 0, locals := 0 } : Room).slots) := by
  refine MetFree.of_bodySF (plainFor_of_name pn_com_example_penumbra_penumbra_order_ClockedMulticast_MessageId) hisR ?_
  intro p e s m args below meth c s₁ Bd hml0 hP hK
  obtain ⟨rfl, hZ, hh⟩ := hP
  have hx := Bd.exec
  have hby := Bd.bytes
  have hml : c.maxLocals = 3 := hml0
  have hown : s.vm.findClass "com/example/penumbra/penumbra/order/ClockedMulticast$MessageId" = some m.cls := findClass_of_methodNamed Bd.named
  have hnm := (name_of_methodNamed Bd.named Bd.method).1
  have X0 : Stand p l e ({ frames := 0, cells := 0, slots := 0, locals := 0 } : Room) s m #[(.ref o), .null] below meth c s₁ [] 0 0 := Stand.of_body Bd
  have e0 : s₁.heap = h0 := by rw [← hh, Bd.state]; rfl
  have N0 := Fr.nil n0
  refine own_st (K := (K_rmE0 Z o h0 n0 s)) (fun t' k' => castTop (ef_rmE0 m o) k') ?_
  show own_Go p.tables e below _ (s₁.setTop (mkF m 0 #[.val (.ref o), .val .null, .unset] []))
  refine own_st (fun _ k' => XS.aloadN X0.here hx rfl (hb hby d4_0) rfl rfl k') ?_
  show own_Go p.tables e below _ (s₁.setTop (mkF m 1 #[.val (.ref o), .val .null, .unset] [.null]))
  refine own_st (fun t' k' => X0.instanceofNull hx (g := (mkF m 1 #[.val (.ref o), .val .null, .unset] [.null])) rfl rfl (hb hby d4_1) t' k') ?_
  show own_Go p.tables e below _ (s₁.setTop (mkF m 4 #[.val (.ref o), .val .null, .unset] [(.int (0 : Int32))]))
  refine own_st (fun _ k' => XS.ifYes X0.here hx rfl (pc0 := 4) (pc' := 39) rfl (hb hby d4_4) rfl ((if0 _ _).trans (teq (by decide : (0 : Int32) = (0 : Int32))).1) (by decide) (by decide) k') ?_
  show own_Go p.tables e below _ (s₁.setTop (mkF m 39 #[.val (.ref o), .val .null, .unset] []))
  refine own_st (fun _ k' => XS.iconst X0.here hx rfl (hb hby d4_39) k') ?_
  show own_Go p.tables e below _ (s₁.setTop (mkF m 40 #[.val (.ref o), .val .null, .unset] [(.int (0 : Int32))]))
  exact own_retN X0 hx (t := .boolean) Bd.returns (by simp) (hb hby d4_40) Bd.notSynchronized ⟨rfl, N0, e0⟩ (by decide) (by decide)

theorem ef_rmE1 (m : MethodId) (x0 : Addr) (x1 : Addr) : entryFrame m #[(.ref x0), (.ref x1)] 3 = mkF m 0 #[.val (.ref x0), .val (.ref x1), .unset] [] := by first | (simp [entryFrame, mkF, argsToLocals, Value.category]; done) | rfl
def Q_rmE1 (Z : State) (o x : Addr) (CC : String) (h0 : Heap) (n0 : Nat) (v : Option Value) (h : Heap) (L : List Loc) : Prop := v = some (.int 0) ∧ Fr n0 L ∧ h = h0
def K_rmE1 (Z : State) (o x : Addr) (CC : String) (h0 : Heap) (n0 : Nat) (s : State) : Outcome → State → Prop := fun oo U' => ∃ v L, oo = .returned v ∧ Q_rmE1 Z o x CC h0 n0 v U'.heap L ∧ FrameEnd s oo U' L ({ frames := 0, cells := 0, slots := 0, locals := 0 } : Room).cells ({ frames := 0, cells := 0, slots := 0, locals := 0 } : Room).slots
set_option maxRecDepth 65536 in
set_option maxHeartbeats 40000000 in
theorem rmE1 (l : Launch) (Z : State) (a0 : Array Value) (hw : ∀ d ∈ tables_1, d.before a0 Z = true) (ws : List Jvm.Cond) (o x : Addr) (CC : String) (h0 : Heap) (n0 : Nat) (Z0 : n0 ≤ h0.size) (E_x : Exa Z h0 x CC) (no : ∃ c t, Z.vm.findClass CC = some c ∧ Z.vm.findClass "com/example/penumbra/penumbra/order/ClockedMulticast$MessageId" = some t ∧ Z.vm.assignable c t = false) :
    MetFree l (⟨"com/example/penumbra/penumbra/order/ClockedMulticast$MessageId", "equals", "(Ljava/lang/Object;)Z"⟩ : MethodName) (head1 (Jvm.Cond.code (⟨"com/example/penumbra/penumbra/order/ClockedMulticast$MessageId", "equals", "(Ljava/lang/Object;)Z"⟩ : MethodName) prog_109_method_2_code 3 (some .boolean) :: ws) ({ frames := 0, cells := 0, slots := 0, locals := 0 } : Room)) (fun a U => a = #[(.ref o), (.ref x)] ∧ Z.Warmed39 U.vm ∧ U.heap = h0) (fun _ _ _ _ _ => True) (fun _ U oo U' => ∃ v L, oo = .returned v ∧ Q_rmE1 Z o x CC h0 n0 v U'.heap L ∧ FrameEnd U oo U' L ({ frames := 0, cells := 0, slots := 0, locals := 0 } : Room).cells ({ frames := 0, cells := 0, slots := 0, locals := 0 } : Room).slots) := by
  refine MetFree.of_bodySF (plainFor_of_name pn_com_example_penumbra_penumbra_order_ClockedMulticast_MessageId) hisR ?_
  intro p e s m args below meth c s₁ Bd hml0 hP hK
  obtain ⟨rfl, hZ, hh⟩ := hP
  have hx := Bd.exec
  have hby := Bd.bytes
  have hml : c.maxLocals = 3 := hml0
  have hown : s.vm.findClass "com/example/penumbra/penumbra/order/ClockedMulticast$MessageId" = some m.cls := findClass_of_methodNamed Bd.named
  have hnm := (name_of_methodNamed Bd.named Bd.method).1
  have X0 : Stand p l e ({ frames := 0, cells := 0, slots := 0, locals := 0 } : Room) s m #[(.ref o), (.ref x)] below meth c s₁ [] 0 0 := Stand.of_body Bd
  have e0 : s₁.heap = h0 := by rw [← hh, Bd.state]; rfl
  have N0 := Fr.nil n0
  refine own_st (K := (K_rmE1 Z o x CC h0 n0 s)) (fun t' k' => castTop (ef_rmE1 m o x) k') ?_
  show own_Go p.tables e below _ (s₁.setTop (mkF m 0 #[.val (.ref o), .val (.ref x), .unset] []))
  refine own_st (fun _ k' => XS.aloadN X0.here hx rfl (hb hby d4_0) rfl rfl k') ?_
  show own_Go p.tables e below _ (s₁.setTop (mkF m 1 #[.val (.ref o), .val (.ref x), .unset] [(.ref x)]))
  obtain ⟨T1, X1, e1, st1⟩ := instNo X0 hx hZ hown (hw _ (List.mem_of_getElem? (i := 23) rfl)) e0 E_x no (g := (mkF m 1 #[.val (.ref o), .val (.ref x), .unset] [(.ref x)])) rfl rfl (hb hby d4_1)
  refine own_st st1 ?_
  show own_Go p.tables e below _ (T1.setTop (mkF m 4 #[.val (.ref o), .val (.ref x), .unset] [(.int (0 : Int32))]))
  refine own_st (fun _ k' => XS.ifYes X1.here hx rfl (pc0 := 4) (pc' := 39) rfl (hb hby d4_4) rfl ((if0 _ _).trans (teq (by decide : (0 : Int32) = (0 : Int32))).1) (by decide) (by decide) k') ?_
  show own_Go p.tables e below _ (T1.setTop (mkF m 39 #[.val (.ref o), .val (.ref x), .unset] []))
  refine own_st (fun _ k' => XS.iconst X1.here hx rfl (hb hby d4_39) k') ?_
  show own_Go p.tables e below _ (T1.setTop (mkF m 40 #[.val (.ref o), .val (.ref x), .unset] [(.int (0 : Int32))]))
  exact own_retN X1 hx (t := .boolean) Bd.returns (by simp) (hb hby d4_40) Bd.notSynchronized ⟨rfl, N0, e1⟩ (by decide) (by decide)

theorem d4_7 : decode prog_109_method_2_code 7 = .ok (.aload_n 1, 1) := by decide +kernel
theorem d4_8 : decode prog_109_method_2_code 8 = .ok (.checkcast 8, 3) := by decide +kernel
theorem d4_11 : decode prog_109_method_2_code 11 = .ok (.astore_n 2, 1) := by decide +kernel
theorem d4_12 : decode prog_109_method_2_code 12 = .ok (.aload_n 2, 1) := by decide +kernel
theorem d4_13 : decode prog_109_method_2_code 13 = .ok (.getfield 7, 3) := by decide +kernel
theorem d4_16 : decode prog_109_method_2_code 16 = .ok (.aload_n 0, 1) := by decide +kernel
theorem d4_17 : decode prog_109_method_2_code 17 = .ok (.getfield 7, 3) := by decide +kernel
theorem d4_20 : decode prog_109_method_2_code 20 = .ok (.if_icmp .ne 19, 3) := by decide +kernel
theorem d4_23 : decode prog_109_method_2_code 23 = .ok (.aload_n 2, 1) := by decide +kernel
theorem d4_24 : decode prog_109_method_2_code 24 = .ok (.getfield 13, 3) := by decide +kernel
theorem d4_27 : decode prog_109_method_2_code 27 = .ok (.aload_n 0, 1) := by decide +kernel
theorem d4_28 : decode prog_109_method_2_code 28 = .ok (.getfield 13, 3) := by decide +kernel
theorem d4_31 : decode prog_109_method_2_code 31 = .ok (.lcmp, 1) := by decide +kernel
theorem d4_32 : decode prog_109_method_2_code 32 = .ok (.ifCond .ne 7, 3) := by decide +kernel
theorem d4_35 : decode prog_109_method_2_code 35 = .ok (.iconst 1, 1) := by decide +kernel
theorem d4_36 : decode prog_109_method_2_code 36 = .ok (.goto 4, 3) := by decide +kernel
theorem ef_rmE2 (m : MethodId) (x0 : Addr) (x1 : Addr) : entryFrame m #[(.ref x0), (.ref x1)] 3 = mkF m 0 #[.val (.ref x0), .val (.ref x1), .unset] [] := by first | (simp [entryFrame, mkF, argsToLocals, Value.category]; done) | rfl
def Q_rmE2 (Z : State) (o x : Addr) (m1 : Int32) (n1 : Int64) (m2 : Int32) (n2 : Int64) (h0 : Heap) (n0 : Nat) (v : Option Value) (h : Heap) (L : List Loc) : Prop := v = some (.int (own_e m2 m1 n2 n1)) ∧ Fr n0 L ∧ h = h0
def K_rmE2 (Z : State) (o x : Addr) (m1 : Int32) (n1 : Int64) (m2 : Int32) (n2 : Int64) (h0 : Heap) (n0 : Nat) (s : State) : Outcome → State → Prop := fun oo U' => ∃ v L, oo = .returned v ∧ Q_rmE2 Z o x m1 n1 m2 n2 h0 n0 v U'.heap L ∧ FrameEnd s oo U' L ({ frames := 0, cells := 0, slots := 0, locals := 0 } : Room).cells ({ frames := 0, cells := 0, slots := 0, locals := 0 } : Room).slots
set_option maxRecDepth 65536 in
set_option maxHeartbeats 40000000 in
theorem rmE2 (l : Launch) (Z : State) (a0 : Array Value) (hw : ∀ d ∈ tables_1, d.before a0 Z = true) (ws : List Jvm.Cond) (o x : Addr) (m1 : Int32) (n1 : Int64) (m2 : Int32) (n2 : Int64) (h0 : Heap) (n0 : Nat) (Z0 : n0 ≤ h0.size) (E_x : Exa Z h0 x "com/example/penumbra/penumbra/order/ClockedMulticast$MessageId") (F_1 : Fld Z h0 o "com/example/penumbra/penumbra/order/ClockedMulticast$MessageId" "sender" "I" (.int m1)) (F_2 : Fld Z h0 o "com/example/penumbra/penumbra/order/ClockedMulticast$MessageId" "number" "J" (.long n1)) (F_3 : Fld Z h0 x "com/example/penumbra/penumbra/order/ClockedMulticast$MessageId" "sender" "I" (.int m2)) (F_4 : Fld Z h0 x "com/example/penumbra/penumbra/order/ClockedMulticast$MessageId" "number" "J" (.long n2)) :
    MetFree l (⟨"com/example/penumbra/penumbra/order/ClockedMulticast$MessageId", "equals", "(Ljava/lang/Object;)Z"⟩ : MethodName) (head1 (Jvm.Cond.code (⟨"com/example/penumbra/penumbra/order/ClockedMulticast$MessageId", "equals", "(Ljava/lang/Object;)Z"⟩ : MethodName) prog_109_method_2_code 3 (some .boolean) :: ws) ({ frames := 0, cells := 0, slots := 0, locals := 0 } : Room)) (fun a U => a = #[(.ref o), (.ref x)] ∧ Z.Warmed39 U.vm ∧ U.heap = h0) (fun _ _ _ _ _ => True) (fun _ U oo U' => ∃ v L, oo = .returned v ∧ Q_rmE2 Z o x m1 n1 m2 n2 h0 n0 v U'.heap L ∧ FrameEnd U oo U' L ({ frames := 0, cells := 0, slots := 0, locals := 0 } : Room).cells ({ frames := 0, cells := 0, slots := 0, locals := 0 } : Room).slots) := by
  refine MetFree.of_bodySF (plainFor_of_name pn_com_example_penumbra_penumbra_order_ClockedMulticast_MessageId) hisR ?_
  intro p e s m args below meth c s₁ Bd hml0 hP hK
  obtain ⟨rfl, hZ, hh⟩ := hP
  have hx := Bd.exec
  have hby := Bd.bytes
  have hml : c.maxLocals = 3 := hml0
  have hown : s.vm.findClass "com/example/penumbra/penumbra/order/ClockedMulticast$MessageId" = some m.cls := findClass_of_methodNamed Bd.named
  have hnm := (name_of_methodNamed Bd.named Bd.method).1
  have X0 : Stand p l e ({ frames := 0, cells := 0, slots := 0, locals := 0 } : Room) s m #[(.ref o), (.ref x)] below meth c s₁ [] 0 0 := Stand.of_body Bd
  have e0 : s₁.heap = h0 := by rw [← hh, Bd.state]; rfl
  have N0 := Fr.nil n0
  refine own_st (K := (K_rmE2 Z o x m1 n1 m2 n2 h0 n0 s)) (fun t' k' => castTop (ef_rmE2 m o x) k') ?_
  show own_Go p.tables e below _ (s₁.setTop (mkF m 0 #[.val (.ref o), .val (.ref x), .unset] []))
  refine own_st (fun _ k' => XS.aloadN X0.here hx rfl (hb hby d4_0) rfl rfl k') ?_
  show own_Go p.tables e below _ (s₁.setTop (mkF m 1 #[.val (.ref o), .val (.ref x), .unset] [(.ref x)]))
  obtain ⟨T1, X1, e1, st1⟩ := instY X0 hx hZ hown (hw _ (List.mem_of_getElem? (i := 23) rfl)) e0 (Ins.self E_x) (g := (mkF m 1 #[.val (.ref o), .val (.ref x), .unset] [(.ref x)])) rfl rfl (hb hby d4_1)
  refine own_st st1 ?_
  show own_Go p.tables e below _ (T1.setTop (mkF m 4 #[.val (.ref o), .val (.ref x), .unset] [(.int (1 : Int32))]))
  refine own_st (fun _ k' => XS.ifNo X1.here hx rfl (hb hby d4_4) rfl ((if0 _ _).trans (feq (by decide : ¬ (1 : Int32) = (0 : Int32))).1) k') ?_
  show own_Go p.tables e below _ (T1.setTop (mkF m 7 #[.val (.ref o), .val (.ref x), .unset] []))
  refine own_st (fun _ k' => XS.aloadN X1.here hx rfl (hb hby d4_7) rfl rfl k') ?_
  show own_Go p.tables e below _ (T1.setTop (mkF m 8 #[.val (.ref o), .val (.ref x), .unset] [(.ref x)]))
  obtain ⟨T2, X2, e2, st2⟩ := castY X1 hx hZ hown (hw _ (List.mem_of_getElem? (i := 23) rfl)) e1 (Ins.self E_x) (g := (mkF m 8 #[.val (.ref o), .val (.ref x), .unset] [(.ref x)])) rfl rfl (hb hby d4_8)
  refine own_st st2 ?_
  show own_Go p.tables e below _ (T2.setTop (mkF m 11 #[.val (.ref o), .val (.ref x), .unset] [(.ref x)]))
  refine own_st (fun _ k' => XS.astoreN X2.here hx rfl (hb hby d4_11) rfl rfl (l' := #[.val (.ref o), .val (.ref x), .val (.ref x)]) rfl k') ?_
  show own_Go p.tables e below _ (T2.setTop (mkF m 12 #[.val (.ref o), .val (.ref x), .val (.ref x)] []))
  refine own_st (fun _ k' => XS.aloadN X2.here hx rfl (hb hby d4_12) rfl rfl k') ?_
  show own_Go p.tables e below _ (T2.setTop (mkF m 13 #[.val (.ref o), .val (.ref x), .val (.ref x)] [(.ref x)]))
  obtain ⟨T3, X3, e3, st3⟩ := getF X2 hx hZ hown (host := "") (Or.inl (hw _ (List.mem_of_getElem? (i := 14) rfl))) Via.refl e2 F_3 (g := (mkF m 13 #[.val (.ref o), .val (.ref x), .val (.ref x)] [(.ref x)])) rfl rfl (hb hby d4_13)
  refine own_st st3 ?_
  show own_Go p.tables e below _ (T3.setTop (mkF m 16 #[.val (.ref o), .val (.ref x), .val (.ref x)] [(.int m2)]))
  refine own_st (fun _ k' => XS.aloadN X3.here hx rfl (hb hby d4_16) rfl rfl k') ?_
  show own_Go p.tables e below _ (T3.setTop (mkF m 17 #[.val (.ref o), .val (.ref x), .val (.ref x)] [(.ref o), (.int m2)]))
  obtain ⟨T4, X4, e4, st4⟩ := getF X3 hx hZ hown (host := "") (Or.inl (hw _ (List.mem_of_getElem? (i := 14) rfl))) Via.refl e3 F_1 (g := (mkF m 17 #[.val (.ref o), .val (.ref x), .val (.ref x)] [(.ref o), (.int m2)])) rfl rfl (hb hby d4_17)
  refine own_st st4 ?_
  show own_Go p.tables e below _ (T4.setTop (mkF m 20 #[.val (.ref o), .val (.ref x), .val (.ref x)] [(.int m1), (.int m2)]))
  by_cases hc5 : m2 = m1
  ·  -- pc 20, m2 = m1
    refine own_st (fun _ k' => XS.icmpNo X4.here hx rfl (hb hby d4_20) rfl (teq hc5).2 k') ?_
    show own_Go p.tables e below _ (T4.setTop (mkF m 23 #[.val (.ref o), .val (.ref x), .val (.ref x)] []))
    refine own_st (fun _ k' => XS.aloadN X4.here hx rfl (hb hby d4_23) rfl rfl k') ?_
    show own_Go p.tables e below _ (T4.setTop (mkF m 24 #[.val (.ref o), .val (.ref x), .val (.ref x)] [(.ref x)]))
    obtain ⟨T6, X6, e6, st6⟩ := getF X4 hx hZ hown (host := "") (Or.inl (hw _ (List.mem_of_getElem? (i := 16) rfl))) Via.refl e4 F_4 (g := (mkF m 24 #[.val (.ref o), .val (.ref x), .val (.ref x)] [(.ref x)])) rfl rfl (hb hby d4_24)
    refine own_st st6 ?_
    show own_Go p.tables e below _ (T6.setTop (mkF m 27 #[.val (.ref o), .val (.ref x), .val (.ref x)] [(.long n2)]))
    refine own_st (fun _ k' => XS.aloadN X6.here hx rfl (hb hby d4_27) rfl rfl k') ?_
    show own_Go p.tables e below _ (T6.setTop (mkF m 28 #[.val (.ref o), .val (.ref x), .val (.ref x)] [(.ref o), (.long n2)]))
    obtain ⟨T7, X7, e7, st7⟩ := getF X6 hx hZ hown (host := "") (Or.inl (hw _ (List.mem_of_getElem? (i := 16) rfl))) Via.refl e6 F_2 (g := (mkF m 28 #[.val (.ref o), .val (.ref x), .val (.ref x)] [(.ref o), (.long n2)])) rfl rfl (hb hby d4_28)
    refine own_st st7 ?_
    show own_Go p.tables e below _ (T7.setTop (mkF m 31 #[.val (.ref o), .val (.ref x), .val (.ref x)] [(.long n1), (.long n2)]))
    refine own_st (fun _ k' => XS.lcmp X7.here hx rfl (hb hby d4_31) rfl k') ?_
    show own_Go p.tables e below _ (T7.setTop (mkF m 32 #[.val (.ref o), .val (.ref x), .val (.ref x)] [(.int (lcmpW n2 n1))]))
    by_cases hc8 : n2 = n1
    ·  -- pc 32, n2 = n1
      refine own_st (fun _ k' => XS.ifNo X7.here hx rfl (hb hby d4_32) rfl ((if0 _ _).trans (teq ((lw_eq n2 n1).mpr hc8)).2) k') ?_
      show own_Go p.tables e below _ (T7.setTop (mkF m 35 #[.val (.ref o), .val (.ref x), .val (.ref x)] []))
      refine own_st (fun _ k' => XS.iconst X7.here hx rfl (hb hby d4_35) k') ?_
      show own_Go p.tables e below _ (T7.setTop (mkF m 36 #[.val (.ref o), .val (.ref x), .val (.ref x)] [(.int (1 : Int32))]))
      refine own_st (fun _ k' => XS.goto X7.here hx rfl (pc0 := 36) (pc' := 40) rfl (hb hby d4_36) (by decide) (by decide) k') ?_
      show own_Go p.tables e below _ (T7.setTop (mkF m 40 #[.val (.ref o), .val (.ref x), .val (.ref x)] [(.int (1 : Int32))]))
      exact own_retN X7 hx (t := .boolean) Bd.returns (by simp) (hb hby d4_40) Bd.notSynchronized ⟨by simp [own_e, nar, hc5, hc8], N0, e7⟩ (by decide) (by decide)
    ·  -- pc 32, not n2 = n1
      refine own_st (fun _ k' => XS.ifYes X7.here hx rfl (pc0 := 32) (pc' := 39) rfl (hb hby d4_32) rfl ((if0 _ _).trans (feq (mt (lw_eq n2 n1).mp hc8)).2) (by decide) (by decide) k') ?_
      show own_Go p.tables e below _ (T7.setTop (mkF m 39 #[.val (.ref o), .val (.ref x), .val (.ref x)] []))
      refine own_st (fun _ k' => XS.iconst X7.here hx rfl (hb hby d4_39) k') ?_
      show own_Go p.tables e below _ (T7.setTop (mkF m 40 #[.val (.ref o), .val (.ref x), .val (.ref x)] [(.int (0 : Int32))]))
      exact own_retN X7 hx (t := .boolean) Bd.returns (by simp) (hb hby d4_40) Bd.notSynchronized ⟨by simp [own_e, nar, hc5, hc8], N0, e7⟩ (by decide) (by decide)
  ·  -- pc 20, not m2 = m1
    refine own_st (fun _ k' => XS.icmpYes X4.here hx rfl (pc0 := 20) (pc' := 39) rfl (hb hby d4_20) rfl (feq hc5).2 (by decide) (by decide) k') ?_
    show own_Go p.tables e below _ (T4.setTop (mkF m 39 #[.val (.ref o), .val (.ref x), .val (.ref x)] []))
    refine own_st (fun _ k' => XS.iconst X4.here hx rfl (hb hby d4_39) k') ?_
    show own_Go p.tables e below _ (T4.setTop (mkF m 40 #[.val (.ref o), .val (.ref x), .val (.ref x)] [(.int (0 : Int32))]))
    exact own_retN X4 hx (t := .boolean) Bd.returns (by simp) (hb hby d4_40) Bd.notSynchronized ⟨by simp [own_e, nar, hc5], N0, e4⟩ (by decide) (by decide)

theorem d9_0 : decode jdk_33_method_23_code 0 = .ok (.aload_n 0, 1) := by decide +kernel
theorem d9_1 : decode jdk_33_method_23_code 1 = .ok (.invokespecial 202, 3) := by decide +kernel
theorem d9_4 : decode jdk_33_method_23_code 4 = .ok (.aload_n 0, 1) := by decide +kernel
theorem d9_5 : decode jdk_33_method_23_code 5 = .ok (.iload_n 1, 1) := by decide +kernel
theorem d9_6 : decode jdk_33_method_23_code 6 = .ok (.putfield 205, 3) := by decide +kernel
theorem d9_9 : decode jdk_33_method_23_code 9 = .ok (.return_, 1) := by decide +kernel
theorem pn_java_lang_Integer : plainName "java/lang/Integer" = true := by first | (simp [plainName, overriddenIn]; done) | decide +kernel
theorem ef_rmBI (m : MethodId) (x0 : Addr) (x1 : Int32) : entryFrame m #[(.ref x0), (.int x1)] 2 = mkF m 0 #[.val (.ref x0), .val (.int x1)] [] := by first | (simp [entryFrame, mkF, argsToLocals, Value.category]; done) | rfl
def Q_rmBI (Z : State) (o : Addr) (pa : Int32) (h0 : Heap) (n0 : Nat) (v : Option Value) (h : Heap) (L : List Loc) : Prop := v = none ∧ Fr n0 L ∧ Keep h0 h [o] ∧ Exa Z h o "java/lang/Integer"
def K_rmBI (Z : State) (o : Addr) (pa : Int32) (h0 : Heap) (n0 : Nat) (s : State) : Outcome → State → Prop := fun oo U' => ∃ v L, oo = .returned v ∧ Q_rmBI Z o pa h0 n0 v U'.heap L ∧ FrameEnd s oo U' L ({ frames := 2, cells := 0, slots := 0, locals := 24 } : Room).cells ({ frames := 2, cells := 0, slots := 0, locals := 24 } : Room).slots
set_option maxRecDepth 65536 in
set_option maxHeartbeats 40000000 in
theorem rmBI (l : Launch) (Z : State) (a0 : Array Value) (hw : ∀ d ∈ tables_1, d.before a0 Z = true) (ws : List Jvm.Cond) (o : Addr) (pa : Int32) (h0 : Heap) (n0 : Nat) (Z0 : n0 ≤ h0.size) (E_o : Exa Z h0 o "java/lang/Integer") (F_1 : Fld Z h0 o "java/lang/Integer" "value" "I" (.int (0 : Int32))) (g_o : n0 ≤ o) :
    MetFree l (⟨"java/lang/Integer", "<init>", "(I)V"⟩ : MethodName) (head1 (Jvm.Cond.code (⟨"java/lang/Integer", "<init>", "(I)V"⟩ : MethodName) jdk_33_method_23_code 2 none :: ws) ({ frames := 2, cells := 0, slots := 0, locals := 24 } : Room)) (fun a U => a = #[(.ref o), (.int pa)] ∧ Z.Warmed39 U.vm ∧ U.heap = h0) (fun _ _ _ _ _ => True) (fun _ U oo U' => ∃ v L, oo = .returned v ∧ Q_rmBI Z o pa h0 n0 v U'.heap L ∧ FrameEnd U oo U' L ({ frames := 2, cells := 0, slots := 0, locals := 24 } : Room).cells ({ frames := 2, cells := 0, slots := 0, locals := 24 } : Room).slots) := by
  refine MetFree.of_bodySF (plainFor_of_name pn_java_lang_Integer) hisR ?_
  intro p e s m args below meth c s₁ Bd hml0 hP hK
  obtain ⟨rfl, hZ, hh⟩ := hP
  have hx := Bd.exec
  have hby := Bd.bytes
  have hml : c.maxLocals = 2 := hml0
  have hown : s.vm.findClass "java/lang/Integer" = some m.cls := findClass_of_methodNamed Bd.named
  have hnm := (name_of_methodNamed Bd.named Bd.method).1
  have X0 : Stand p l e ({ frames := 2, cells := 0, slots := 0, locals := 24 } : Room) s m #[(.ref o), (.int pa)] below meth c s₁ [] 0 0 := Stand.of_body Bd
  have e0 : s₁.heap = h0 := by rw [← hh, Bd.state]; rfl
  have N0 := Fr.nil n0
  refine own_st (K := (K_rmBI Z o pa h0 n0 s)) (fun t' k' => castTop (ef_rmBI m o pa) k') ?_
  show own_Go p.tables e below _ (s₁.setTop (mkF m 0 #[.val (.ref o), .val (.int pa)] []))
  refine own_st (fun _ k' => XS.aloadN X0.here hx rfl (hb hby d9_0) rfl rfl k') ?_
  show own_Go p.tables e below _ (s₁.setTop (mkF m 1 #[.val (.ref o), .val (.int pa)] [(.ref o)]))
  obtain ⟨_, _, ⟨T1, L1, k1, n1⟩, -, X1, ⟨Lc1, hQ1, l1, y1, z1⟩, st1⟩ := X0.specialBack hx (y := (⟨"java/lang/Number", "<init>", "()V"⟩ : MethodName)) rfl hown (mvT hZ (hw _ (List.mem_of_getElem? (i := 63) rfl))) (mvT hZ (hw _ (List.mem_of_getElem? (i := 48) rfl))) (mvT hZ (hw _ (List.mem_of_getElem? (i := 52) rfl))) (by decide) (backOf (W := 0) (rmNumber l Z a0 hw [] o h0 n0 Z0 ) hZ (hw _ (List.mem_of_getElem? (i := 52) rfl)) (hw _ (List.mem_of_getElem? (i := 51) rfl)) (by decide) (by decide)) (g := (mkF m 1 #[.val (.ref o), .val (.int pa)] [(.ref o)])) rfl (by rw [hml]; rfl) (Steps.refl _) (a := o) (argsL := []) (rest := []) (lenOf pd___V rfl) rfl (by show 2 * 0 + _ ≤ _; exact Nat.le_of_eq rfl) (hb hby d9_1) (fun _ _ => ⟨rfl, e0, (by decide : 0 + 0 ≤ _), (by decide : 0 + 0 ≤ _)⟩)
  dsimp only [Pt.U, Pt.locs, Pt.cells, Pt.slots] at X1 l1 y1 z1 st1 hQ1
  subst l1 y1 z1
  obtain ⟨rfl, Nq1, e1⟩ := hQ1
  have N1 := Fr.app N0 Nq1
  refine own_tr st1 ?_
  show own_Go p.tables e below _ (T1.setTop (mkF m 4 #[.val (.ref o), .val (.int pa)] []))
  refine own_st (fun _ k' => XS.aloadN X1.here hx rfl (hb hby d9_4) rfl rfl k') ?_
  show own_Go p.tables e below _ (T1.setTop (mkF m 5 #[.val (.ref o), .val (.int pa)] [(.ref o)]))
  refine own_st (fun _ k' => XS.iloadN X1.here hx rfl (hb hby d9_5) rfl k') ?_
  show own_Go p.tables e below _ (T1.setTop (mkF m 6 #[.val (.ref o), .val (.int pa)] [(.int pa), (.ref o)]))
  obtain ⟨T2, h2, X2, e2, W2, st2⟩ := putF X1 hx hZ hown (host := "") (Or.inl (hw _ (List.mem_of_getElem? (i := 65) rfl))) Via.refl e1 F_1 E_o (Or.inr ⟨(hw _ (List.mem_of_getElem? (i := 66) rfl)), rfl, hnm⟩) (hw _ (List.mem_of_getElem? (i := 58) rfl)) (ty := .int) (by decide) rfl rfl (g := (mkF m 6 #[.val (.ref o), .val (.int pa)] [(.int pa), (.ref o)])) rfl rfl (hb hby d9_6)
  have N2 := Fr.snoc X2 N1 g_o
  have E_o_x3 := E_o.wr W2
  have F_1_x4 := F_1.same W2
  have K5 : Keep h0 h2 [o] := (Keep.refl h0 [o]).wr W2 (Or.inl (List.mem_of_getElem? (i := 0) rfl))
  refine own_st st2 ?_
  show own_Go p.tables e below _ (T2.setTop (mkF m 9 #[.val (.ref o), .val (.int pa)] []))
  exact own_retV X2 hx Bd.returns (hb hby d9_9) Bd.notSynchronized ⟨rfl, N2, by rw [e2]; exact K5, by rw [e2]; exact E_o_x3⟩ (by decide) (by decide)

theorem d5_0 : decode jdk_33_method_22_code 0 = .ok (.iload_n 0, 1) := by decide +kernel
theorem d5_1 : decode jdk_33_method_22_code 1 = .ok (.bipush (-128), 2) := by decide +kernel
theorem d5_3 : decode jdk_33_method_22_code 3 = .ok (.if_icmp .lt 20, 3) := by decide +kernel
theorem d5_6 : decode jdk_33_method_22_code 6 = .ok (.iload_n 0, 1) := by decide +kernel
theorem d5_7 : decode jdk_33_method_22_code 7 = .ok (.getstatic 191, 3) := by decide +kernel
theorem d5_10 : decode jdk_33_method_22_code 10 = .ok (.if_icmp .gt 13, 3) := by decide +kernel
theorem d5_13 : decode jdk_33_method_22_code 13 = .ok (.getstatic 195, 3) := by decide +kernel
theorem d5_16 : decode jdk_33_method_22_code 16 = .ok (.iload_n 0, 1) := by decide +kernel
theorem d5_17 : decode jdk_33_method_22_code 17 = .ok (.sipush 128, 3) := by decide +kernel
theorem d5_20 : decode jdk_33_method_22_code 20 = .ok (.iadd, 1) := by decide +kernel
theorem d5_21 : decode jdk_33_method_22_code 21 = .ok (.aaload, 1) := by decide +kernel
theorem d5_22 : decode jdk_33_method_22_code 22 = .ok (.areturn, 1) := by decide +kernel
theorem d5_23 : decode jdk_33_method_22_code 23 = .ok (.new 1, 3) := by decide +kernel
theorem d5_26 : decode jdk_33_method_22_code 26 = .ok (.dup, 1) := by decide +kernel
theorem d5_27 : decode jdk_33_method_22_code 27 = .ok (.iload_n 0, 1) := by decide +kernel
theorem d5_28 : decode jdk_33_method_22_code 28 = .ok (.invokespecial 199, 3) := by decide +kernel
theorem d5_31 : decode jdk_33_method_22_code 31 = .ok (.areturn, 1) := by decide +kernel
theorem pd__I_V : parseMethodDescriptor "(I)V" = some ⟨[.int], none⟩ := by decide +kernel
theorem ef_rmVI (m : MethodId) (x0 : Int32) : entryFrame m #[(.int x0)] 1 = mkF m 0 #[.val (.int x0)] [] := by first | (simp [entryFrame, mkF, argsToLocals, Value.category]; done) | rfl
def Q_rmVI (Z : State) (pa : Int32) (ci : Addr) (cci : Cell) (vf : Int32 → Value) (h0 : Heap) (n0 : Nat) (v : Option Value) (h : Heap) (L : List Loc) : Prop := ∃ b, v = some (.ref b) ∧ Fr n0 L ∧ Keep h0 h [] ∧ Exa Z h b "java/lang/Integer"
def K_rmVI (Z : State) (pa : Int32) (ci : Addr) (cci : Cell) (vf : Int32 → Value) (h0 : Heap) (n0 : Nat) (s : State) : Outcome → State → Prop := fun oo U' => ∃ v L, oo = .returned v ∧ Q_rmVI Z pa ci cci vf h0 n0 v U'.heap L ∧ FrameEnd s oo U' L ({ frames := 3, cells := 1, slots := 1, locals := 38 } : Room).cells ({ frames := 3, cells := 1, slots := 1, locals := 38 } : Room).slots
set_option maxRecDepth 65536 in
set_option maxHeartbeats 40000000 in
theorem rmVI (l : Launch) (Z : State) (a0 : Array Value) (hw : ∀ d ∈ tables_1, d.before a0 Z = true) (ws : List Jvm.Cond) (pa : Int32) (ci : Addr) (cci : Cell) (vf : Int32 → Value) (h0 : Heap) (n0 : Nat) (Z0 : n0 ≤ h0.size) (EZ : Ext Z.heap h0) (B : Bxs Z ci cci "java/lang/Integer" "I" 256 vf) (SC : Sta Z Z.heap "java/lang/Integer$IntegerCache" "cache" "[Ljava/lang/Integer;" (.ref ci)) (SH : Sta Z Z.heap "java/lang/Integer$IntegerCache" "high" "I" (.int (127 : Int32))) :
    MetFree l (⟨"java/lang/Integer", "valueOf", "(I)Ljava/lang/Integer;"⟩ : MethodName) (head1 (Jvm.Cond.code (⟨"java/lang/Integer", "valueOf", "(I)Ljava/lang/Integer;"⟩ : MethodName) jdk_33_method_22_code 1 (some (.object "java/lang/Integer")) :: ws) ({ frames := 3, cells := 1, slots := 1, locals := 38 } : Room)) (fun a U => a = #[(.int pa)] ∧ Z.Warmed39 U.vm ∧ U.heap = h0) (fun _ _ _ _ _ => True) (fun _ U oo U' => ∃ v L, oo = .returned v ∧ Q_rmVI Z pa ci cci vf h0 n0 v U'.heap L ∧ FrameEnd U oo U' L ({ frames := 3, cells := 1, slots := 1, locals := 38 } : Room).cells ({ frames := 3, cells := 1, slots := 1, locals := 38 } : Room).slots) := by
  refine MetFree.of_bodySF (plainFor_of_name pn_java_lang_Integer) hisR ?_
  intro p e s m args below meth c s₁ Bd hml0 hP hK
  obtain ⟨rfl, hZ, hh⟩ := hP
  have hx := Bd.exec
  have hby := Bd.bytes
  have hml : c.maxLocals = 1 := hml0
  have hown : s.vm.findClass "java/lang/Integer" = some m.cls := findClass_of_methodNamed Bd.named
  have hnm := (name_of_methodNamed Bd.named Bd.method).1
  have X0 : Stand p l e ({ frames := 3, cells := 1, slots := 1, locals := 38 } : Room) s m #[(.int pa)] below meth c s₁ [] 0 0 := Stand.of_body Bd
  have e0 : s₁.heap = h0 := by rw [← hh, Bd.state]; rfl
  have N0 := Fr.nil n0
  refine own_st (K := (K_rmVI Z pa ci cci vf h0 n0 s)) (fun t' k' => castTop (ef_rmVI m pa) k') ?_
  have S_cache := SC.ext EZ
  have S_high := SH.ext EZ
  show own_Go p.tables e below _ (s₁.setTop (mkF m 0 #[.val (.int pa)] []))
  refine own_st (fun _ k' => XS.iloadN X0.here hx rfl (hb hby d5_0) rfl k') ?_
  show own_Go p.tables e below _ (s₁.setTop (mkF m 1 #[.val (.int pa)] [(.int pa)]))
  refine own_st (fun _ k' => XS.bipush X0.here hx rfl (hb hby d5_1) k') ?_
  show own_Go p.tables e below _ (s₁.setTop (mkF m 3 #[.val (.int pa)] [(.int (-128 : Int32)), (.int pa)]))
  by_cases hc1 : pa < (-128 : Int32)
  ·  -- pc 3, pa < (-128 : Int32)
    refine own_st (fun _ k' => XS.icmpYes X0.here hx rfl (pc0 := 3) (pc' := 23) rfl (hb hby d5_3) rfl (tlt hc1).1 (by decide) (by decide) k') ?_
    show own_Go p.tables e below _ (s₁.setTop (mkF m 23 #[.val (.int pa)] []))
    obtain ⟨T2, h2, X2, e2, E2, A2, D2, -, st2⟩ := newO X0 hx hZ hown (hw _ (List.mem_of_getElem? (i := 57) rfl)) (hw _ (List.mem_of_getElem? (i := 58) rfl)) (hw _ (List.mem_of_getElem? (i := 27) rfl)) e0 (g := (mkF m 23 #[.val (.int pa)] [])) rfl (hb hby d5_23) (by decide) (by decide)
    obtain ⟨b2, g2⟩ : ∃ z, z = h0.size := ⟨_, rfl⟩
    rw [← g2] at A2 D2 st2
    have g_b2 : n0 ≤ b2 := Nat.le_trans Z0 (Nat.le_of_eq g2.symm)
    have sz_b2 : h0.size ≤ b2 := Nat.le_trans (Keep.refl h0 []).1 (Nat.le_of_eq g2.symm)
    have S_cache_x3 := S_cache.ext E2
    have S_high_x4 := S_high.ext E2
    have K5 : Keep h0 h2 [] := (Keep.refl h0 []).ext E2
    have ZE2 : n0 ≤ h2.size := Nat.le_trans Z0 E2.1
    have F_value_b2 : Fld Z h2 b2 "java/lang/Integer" "value" "I" (.int (0 : Int32)) := D2 (Or.inr (hw _ (List.mem_of_getElem? (i := 66) rfl))) (ty := .int) (by decide)
    refine own_st st2 ?_
    show own_Go p.tables e below _ (T2.setTop (mkF m 26 #[.val (.int pa)] [(.ref b2)]))
    refine own_st (fun _ k' => XS.dup X2.here hx rfl (hb hby d5_26) rfl rfl k') ?_
    show own_Go p.tables e below _ (T2.setTop (mkF m 27 #[.val (.int pa)] [(.ref b2), (.ref b2)]))
    refine own_st (fun _ k' => XS.iloadN X2.here hx rfl (hb hby d5_27) rfl k') ?_
    show own_Go p.tables e below _ (T2.setTop (mkF m 28 #[.val (.int pa)] [(.int pa), (.ref b2), (.ref b2)]))
    obtain ⟨_, _, ⟨T6, L6, k6, n6⟩, -, X6, ⟨Lc6, hQ6, l6, y6, z6⟩, st6⟩ := X2.specialBack hx (y := (⟨"java/lang/Integer", "<init>", "(I)V"⟩ : MethodName)) rfl hown (mvT hZ (hw _ (List.mem_of_getElem? (i := 59) rfl))) (mvT hZ (hw _ (List.mem_of_getElem? (i := 60) rfl))) (mvT hZ (hw _ (List.mem_of_getElem? (i := 62) rfl))) (by decide) (backOf (W := 1) (rmBI l Z a0 hw [] b2 pa h2 n0 ZE2 A2 F_value_b2 g_b2) hZ (hw _ (List.mem_of_getElem? (i := 62) rfl)) (hw _ (List.mem_of_getElem? (i := 27) rfl)) (by decide) (by decide)) (g := (mkF m 28 #[.val (.int pa)] [(.int pa), (.ref b2), (.ref b2)])) rfl (by rw [hml]; rfl) (Steps.refl _) (a := b2) (argsL := [(.int pa)]) (rest := [(.ref b2)]) (lenOf pd__I_V rfl) rfl (by show 2 * 0 + _ ≤ _; exact Nat.le_of_eq rfl) (hb hby d5_28) (fun _ _ => ⟨rfl, e2, (by decide : 1 + 0 ≤ _), (by decide : 1 + 0 ≤ _)⟩)
    dsimp only [Pt.U, Pt.locs, Pt.cells, Pt.slots] at X6 l6 y6 z6 st6 hQ6
    subst l6 y6 z6
    obtain ⟨rfl, Nq6, Kc6, Ec6⟩ := hQ6
    have N6 := Fr.app N0 Nq6
    have A2_x9 := A2.keep Kc6
    have Zc6 : n0 ≤ T6.heap.size := Nat.le_trans ZE2 Kc6.1
    have Kk6 : Keep h0 T6.heap [] := K5.trans Kc6 (allS (Or.inr sz_b2) all0)
    refine own_tr st6 ?_
    show own_Go p.tables e below _ (T6.setTop (mkF m 31 #[.val (.int pa)] [(.ref b2)]))
    exact own_retA X6 hx Bd.returns rfl rfl (hb hby d5_31) Bd.notSynchronized ⟨b2, rfl, N6, by exact Kk6, by exact Ec6⟩ (by decide) (by decide)
  ·  -- pc 3, not pa < (-128 : Int32)
    refine own_st (fun _ k' => XS.icmpNo X0.here hx rfl (hb hby d5_3) rfl (flt hc1).1 k') ?_
    show own_Go p.tables e below _ (s₁.setTop (mkF m 6 #[.val (.int pa)] []))
    refine own_st (fun _ k' => XS.iloadN X0.here hx rfl (hb hby d5_6) rfl k') ?_
    show own_Go p.tables e below _ (s₁.setTop (mkF m 7 #[.val (.int pa)] [(.int pa)]))
    obtain ⟨T11, X11, e11, st11⟩ := getS2 X0 hx hZ hown (host := "") (Or.inl (hw _ (List.mem_of_getElem? (i := 29) rfl))) Via.refl e0 S_high (g := (mkF m 7 #[.val (.int pa)] [(.int pa)])) rfl (hb hby d5_7)
    refine own_st st11 ?_
    show own_Go p.tables e below _ (T11.setTop (mkF m 10 #[.val (.int pa)] [(.int (127 : Int32)), (.int pa)]))
    by_cases hc12 : (127 : Int32) < pa
    ·  -- pc 10, (127 : Int32) < pa
      refine own_st (fun _ k' => XS.icmpYes X11.here hx rfl (pc0 := 10) (pc' := 23) rfl (hb hby d5_10) rfl (tlt hc12).2.2.1 (by decide) (by decide) k') ?_
      show own_Go p.tables e below _ (T11.setTop (mkF m 23 #[.val (.int pa)] []))
      obtain ⟨T13, h13, X13, e13, E13, A13, D13, -, st13⟩ := newO X11 hx hZ hown (hw _ (List.mem_of_getElem? (i := 57) rfl)) (hw _ (List.mem_of_getElem? (i := 58) rfl)) (hw _ (List.mem_of_getElem? (i := 27) rfl)) e11 (g := (mkF m 23 #[.val (.int pa)] [])) rfl (hb hby d5_23) (by decide) (by decide)
      obtain ⟨b13, g13⟩ : ∃ z, z = h0.size := ⟨_, rfl⟩
      rw [← g13] at A13 D13 st13
      have g_b13 : n0 ≤ b13 := Nat.le_trans Z0 (Nat.le_of_eq g13.symm)
      have sz_b13 : h0.size ≤ b13 := Nat.le_trans (Keep.refl h0 []).1 (Nat.le_of_eq g13.symm)
      have S_cache_x14 := S_cache.ext E13
      have S_high_x15 := S_high.ext E13
      have K16 : Keep h0 h13 [] := (Keep.refl h0 []).ext E13
      have ZE13 : n0 ≤ h13.size := Nat.le_trans Z0 E13.1
      have F_value_b13 : Fld Z h13 b13 "java/lang/Integer" "value" "I" (.int (0 : Int32)) := D13 (Or.inr (hw _ (List.mem_of_getElem? (i := 66) rfl))) (ty := .int) (by decide)
      refine own_st st13 ?_
      show own_Go p.tables e below _ (T13.setTop (mkF m 26 #[.val (.int pa)] [(.ref b13)]))
      refine own_st (fun _ k' => XS.dup X13.here hx rfl (hb hby d5_26) rfl rfl k') ?_
      show own_Go p.tables e below _ (T13.setTop (mkF m 27 #[.val (.int pa)] [(.ref b13), (.ref b13)]))
      refine own_st (fun _ k' => XS.iloadN X13.here hx rfl (hb hby d5_27) rfl k') ?_
      show own_Go p.tables e below _ (T13.setTop (mkF m 28 #[.val (.int pa)] [(.int pa), (.ref b13), (.ref b13)]))
      obtain ⟨_, _, ⟨T17, L17, k17, n17⟩, -, X17, ⟨Lc17, hQ17, l17, y17, z17⟩, st17⟩ := X13.specialBack hx (y := (⟨"java/lang/Integer", "<init>", "(I)V"⟩ : MethodName)) rfl hown (mvT hZ (hw _ (List.mem_of_getElem? (i := 59) rfl))) (mvT hZ (hw _ (List.mem_of_getElem? (i := 60) rfl))) (mvT hZ (hw _ (List.mem_of_getElem? (i := 62) rfl))) (by decide) (backOf (W := 1) (rmBI l Z a0 hw [] b13 pa h13 n0 ZE13 A13 F_value_b13 g_b13) hZ (hw _ (List.mem_of_getElem? (i := 62) rfl)) (hw _ (List.mem_of_getElem? (i := 27) rfl)) (by decide) (by decide)) (g := (mkF m 28 #[.val (.int pa)] [(.int pa), (.ref b13), (.ref b13)])) rfl (by rw [hml]; rfl) (Steps.refl _) (a := b13) (argsL := [(.int pa)]) (rest := [(.ref b13)]) (lenOf pd__I_V rfl) rfl (by show 2 * 0 + _ ≤ _; exact Nat.le_of_eq rfl) (hb hby d5_28) (fun _ _ => ⟨rfl, e13, (by decide : 1 + 0 ≤ _), (by decide : 1 + 0 ≤ _)⟩)
      dsimp only [Pt.U, Pt.locs, Pt.cells, Pt.slots] at X17 l17 y17 z17 st17 hQ17
      subst l17 y17 z17
      obtain ⟨rfl, Nq17, Kc17, Ec17⟩ := hQ17
      have N17 := Fr.app N0 Nq17
      have A13_x20 := A13.keep Kc17
      have Zc17 : n0 ≤ T17.heap.size := Nat.le_trans ZE13 Kc17.1
      have Kk17 : Keep h0 T17.heap [] := K16.trans Kc17 (allS (Or.inr sz_b13) all0)
      refine own_tr st17 ?_
      show own_Go p.tables e below _ (T17.setTop (mkF m 31 #[.val (.int pa)] [(.ref b13)]))
      exact own_retA X17 hx Bd.returns rfl rfl (hb hby d5_31) Bd.notSynchronized ⟨b13, rfl, N17, by exact Kk17, by exact Ec17⟩ (by decide) (by decide)
    ·  -- pc 10, not (127 : Int32) < pa
      refine own_st (fun _ k' => XS.icmpNo X11.here hx rfl (hb hby d5_10) rfl (flt hc12).2.2.1 k') ?_
      show own_Go p.tables e below _ (T11.setTop (mkF m 13 #[.val (.int pa)] []))
      obtain ⟨T22, X22, e22, st22⟩ := getS2 X11 hx hZ hown (host := "") (Or.inl (hw _ (List.mem_of_getElem? (i := 31) rfl))) Via.refl e11 S_cache (g := (mkF m 13 #[.val (.int pa)] [])) rfl (hb hby d5_13)
      refine own_st st22 ?_
      show own_Go p.tables e below _ (T22.setTop (mkF m 16 #[.val (.int pa)] [(.ref ci)]))
      refine own_st (fun _ k' => XS.iloadN X22.here hx rfl (hb hby d5_16) rfl k') ?_
      show own_Go p.tables e below _ (T22.setTop (mkF m 17 #[.val (.int pa)] [(.int pa), (.ref ci)]))
      refine own_st (fun _ k' => XS.sipush X22.here hx rfl (hb hby d5_17) k') ?_
      show own_Go p.tables e below _ (T22.setTop (mkF m 20 #[.val (.int pa)] [(.int (128 : Int32)), (.int pa), (.ref ci)]))
      refine own_st (fun _ k' => XS.iadd X22.here hx rfl (hb hby d5_20) rfl k') ?_
      show own_Go p.tables e below _ (T22.setTop (mkF m 21 #[.val (.int pa)] [(.int (pa + (128 : Int32))), (.ref ci)]))
      have hin : ¬ ((pa + (128 : Int32)) < 0 ∨ cci.slots.size ≤ ((pa + (128 : Int32))).toNatClampNeg) := by rw [B.2.1]; exact (Jvm.Free.IntBox.place_ok pa hc1 hc12).1
      obtain ⟨b, hat, Eb0, -⟩ := B.2.2.2 _ hin
      have Eb := Eb0.ext EZ
      have Ar := B.1.ext EZ
      refine own_st (fun t' k' => X22.aaload hx (j := (pa + (128 : Int32))) (v := (.ref b)) (by rw [e22]; exact Ar.1) (State.isArrayOf_alike hZ.alike Ar.2.1) rfl Ar.2.2 hin hat (g := (mkF m 21 #[.val (.int pa)] [(.int (pa + (128 : Int32))), (.ref ci)])) rfl rfl (hb hby d5_21) t' k') ?_
      show own_Go p.tables e below _ (T22.setTop (mkF m 22 #[.val (.int pa)] [(.ref b)]))
      exact own_retA X22 hx Bd.returns rfl rfl (hb hby d5_22) Bd.notSynchronized ⟨b, rfl, N0, by rw [e22]; exact (Keep.refl h0 []), by rw [e22]; exact Eb⟩ (by decide) (by decide)

theorem d7_0 : decode jdk_35_method_26_code 0 = .ok (.aload_n 0, 1) := by decide +kernel
theorem d7_1 : decode jdk_35_method_26_code 1 = .ok (.invokespecial 270, 3) := by decide +kernel
theorem d7_4 : decode jdk_35_method_26_code 4 = .ok (.aload_n 0, 1) := by decide +kernel
theorem d7_5 : decode jdk_35_method_26_code 5 = .ok (.lload_n 1, 1) := by decide +kernel
theorem d7_6 : decode jdk_35_method_26_code 6 = .ok (.putfield 273, 3) := by decide +kernel
theorem d7_9 : decode jdk_35_method_26_code 9 = .ok (.return_, 1) := by decide +kernel
theorem pn_java_lang_Long : plainName "java/lang/Long" = true := by first | (simp [plainName, overriddenIn]; done) | decide +kernel
theorem ef_rmBJ (m : MethodId) (x0 : Addr) (x1 : Int64) : entryFrame m #[(.ref x0), (.long x1)] 3 = mkF m 0 #[.val (.ref x0), .val (.long x1), .second] [] := by first | (simp [entryFrame, mkF, argsToLocals, Value.category]; done) | rfl
def Q_rmBJ (Z : State) (o : Addr) (pa : Int64) (h0 : Heap) (n0 : Nat) (v : Option Value) (h : Heap) (L : List Loc) : Prop := v = none ∧ Fr n0 L ∧ Keep h0 h [o] ∧ Exa Z h o "java/lang/Long"
def K_rmBJ (Z : State) (o : Addr) (pa : Int64) (h0 : Heap) (n0 : Nat) (s : State) : Outcome → State → Prop := fun oo U' => ∃ v L, oo = .returned v ∧ Q_rmBJ Z o pa h0 n0 v U'.heap L ∧ FrameEnd s oo U' L ({ frames := 2, cells := 0, slots := 0, locals := 24 } : Room).cells ({ frames := 2, cells := 0, slots := 0, locals := 24 } : Room).slots
set_option maxRecDepth 65536 in
set_option maxHeartbeats 40000000 in
theorem rmBJ (l : Launch) (Z : State) (a0 : Array Value) (hw : ∀ d ∈ tables_1, d.before a0 Z = true) (ws : List Jvm.Cond) (o : Addr) (pa : Int64) (h0 : Heap) (n0 : Nat) (Z0 : n0 ≤ h0.size) (E_o : Exa Z h0 o "java/lang/Long") (F_1 : Fld Z h0 o "java/lang/Long" "value" "J" (.long (0 : Int64))) (g_o : n0 ≤ o) :
    MetFree l (⟨"java/lang/Long", "<init>", "(J)V"⟩ : MethodName) (head1 (Jvm.Cond.code (⟨"java/lang/Long", "<init>", "(J)V"⟩ : MethodName) jdk_35_method_26_code 3 none :: ws) ({ frames := 2, cells := 0, slots := 0, locals := 24 } : Room)) (fun a U => a = #[(.ref o), (.long pa)] ∧ Z.Warmed39 U.vm ∧ U.heap = h0) (fun _ _ _ _ _ => True) (fun _ U oo U' => ∃ v L, oo = .returned v ∧ Q_rmBJ Z o pa h0 n0 v U'.heap L ∧ FrameEnd U oo U' L ({ frames := 2, cells := 0, slots := 0, locals := 24 } : Room).cells ({ frames := 2, cells := 0, slots := 0, locals := 24 } : Room).slots) := by
  refine MetFree.of_bodySF (plainFor_of_name pn_java_lang_Long) hisR ?_
  intro p e s m args below meth c s₁ Bd hml0 hP hK
  obtain ⟨rfl, hZ, hh⟩ := hP
  have hx := Bd.exec
  have hby := Bd.bytes
  have hml : c.maxLocals = 3 := hml0
  have hown : s.vm.findClass "java/lang/Long" = some m.cls := findClass_of_methodNamed Bd.named
  have hnm := (name_of_methodNamed Bd.named Bd.method).1
  have X0 : Stand p l e ({ frames := 2, cells := 0, slots := 0, locals := 24 } : Room) s m #[(.ref o), (.long pa)] below meth c s₁ [] 0 0 := Stand.of_body Bd
  have e0 : s₁.heap = h0 := by rw [← hh, Bd.state]; rfl
  have N0 := Fr.nil n0
  refine own_st (K := (K_rmBJ Z o pa h0 n0 s)) (fun t' k' => castTop (ef_rmBJ m o pa) k') ?_
  show own_Go p.tables e below _ (s₁.setTop (mkF m 0 #[.val (.ref o), .val (.long pa), .second] []))
  refine own_st (fun _ k' => XS.aloadN X0.here hx rfl (hb hby d7_0) rfl rfl k') ?_
  show own_Go p.tables e below _ (s₁.setTop (mkF m 1 #[.val (.ref o), .val (.long pa), .second] [(.ref o)]))
  obtain ⟨_, _, ⟨T1, L1, k1, n1⟩, -, X1, ⟨Lc1, hQ1, l1, y1, z1⟩, st1⟩ := X0.specialBack hx (y := (⟨"java/lang/Number", "<init>", "()V"⟩ : MethodName)) rfl hown (mvT hZ (hw _ (List.mem_of_getElem? (i := 47) rfl))) (mvT hZ (hw _ (List.mem_of_getElem? (i := 48) rfl))) (mvT hZ (hw _ (List.mem_of_getElem? (i := 52) rfl))) (by decide) (backOf (W := 0) (rmNumber l Z a0 hw [] o h0 n0 Z0 ) hZ (hw _ (List.mem_of_getElem? (i := 52) rfl)) (hw _ (List.mem_of_getElem? (i := 51) rfl)) (by decide) (by decide)) (g := (mkF m 1 #[.val (.ref o), .val (.long pa), .second] [(.ref o)])) rfl (by rw [hml]; rfl) (Steps.refl _) (a := o) (argsL := []) (rest := []) (lenOf pd___V rfl) rfl (by show 2 * 0 + _ ≤ _; exact Nat.le_of_eq rfl) (hb hby d7_1) (fun _ _ => ⟨rfl, e0, (by decide : 0 + 0 ≤ _), (by decide : 0 + 0 ≤ _)⟩)
  dsimp only [Pt.U, Pt.locs, Pt.cells, Pt.slots] at X1 l1 y1 z1 st1 hQ1
  subst l1 y1 z1
  obtain ⟨rfl, Nq1, e1⟩ := hQ1
  have N1 := Fr.app N0 Nq1
  refine own_tr st1 ?_
  show own_Go p.tables e below _ (T1.setTop (mkF m 4 #[.val (.ref o), .val (.long pa), .second] []))
  refine own_st (fun _ k' => XS.aloadN X1.here hx rfl (hb hby d7_4) rfl rfl k') ?_
  show own_Go p.tables e below _ (T1.setTop (mkF m 5 #[.val (.ref o), .val (.long pa), .second] [(.ref o)]))
  refine own_st (fun _ k' => XS.lloadN X1.here hx rfl (hb hby d7_5) rfl k') ?_
  show own_Go p.tables e below _ (T1.setTop (mkF m 6 #[.val (.ref o), .val (.long pa), .second] [(.long pa), (.ref o)]))
  obtain ⟨T2, h2, X2, e2, W2, st2⟩ := putF X1 hx hZ hown (host := "") (Or.inl (hw _ (List.mem_of_getElem? (i := 54) rfl))) Via.refl e1 F_1 E_o (Or.inr ⟨(hw _ (List.mem_of_getElem? (i := 55) rfl)), rfl, hnm⟩) (hw _ (List.mem_of_getElem? (i := 42) rfl)) (ty := .long) (by decide) rfl rfl (g := (mkF m 6 #[.val (.ref o), .val (.long pa), .second] [(.long pa), (.ref o)])) rfl rfl (hb hby d7_6)
  have N2 := Fr.snoc X2 N1 g_o
  have E_o_x3 := E_o.wr W2
  have F_1_x4 := F_1.same W2
  have K5 : Keep h0 h2 [o] := (Keep.refl h0 [o]).wr W2 (Or.inl (List.mem_of_getElem? (i := 0) rfl))
  refine own_st st2 ?_
  show own_Go p.tables e below _ (T2.setTop (mkF m 9 #[.val (.ref o), .val (.long pa), .second] []))
  exact own_retV X2 hx Bd.returns (hb hby d7_9) Bd.notSynchronized ⟨rfl, N2, by rw [e2]; exact K5, by rw [e2]; exact E_o_x3⟩ (by decide) (by decide)

theorem d6_0 : decode jdk_35_method_24_code 0 = .ok (.sipush 128, 3) := by decide +kernel
theorem d6_3 : decode jdk_35_method_24_code 3 = .ok (.istore_n 2, 1) := by decide +kernel
theorem d6_4 : decode jdk_35_method_24_code 4 = .ok (.lload_n 0, 1) := by decide +kernel
theorem d6_5 : decode jdk_35_method_24_code 5 = .ok (.ldc2_w 230, 3) := by decide +kernel
theorem d6_8 : decode jdk_35_method_24_code 8 = .ok (.lcmp, 1) := by decide +kernel
theorem d6_9 : decode jdk_35_method_24_code 9 = .ok (.ifCond .lt 22, 3) := by decide +kernel
theorem d6_12 : decode jdk_35_method_24_code 12 = .ok (.lload_n 0, 1) := by decide +kernel
theorem d6_13 : decode jdk_35_method_24_code 13 = .ok (.ldc2_w 232, 3) := by decide +kernel
theorem d6_16 : decode jdk_35_method_24_code 16 = .ok (.lcmp, 1) := by decide +kernel
theorem d6_17 : decode jdk_35_method_24_code 17 = .ok (.ifCond .gt 14, 3) := by decide +kernel
theorem d6_20 : decode jdk_35_method_24_code 20 = .ok (.getstatic 234, 3) := by decide +kernel
theorem d6_23 : decode jdk_35_method_24_code 23 = .ok (.lload_n 0, 1) := by decide +kernel
theorem d6_24 : decode jdk_35_method_24_code 24 = .ok (.l2i, 1) := by decide +kernel
theorem d6_25 : decode jdk_35_method_24_code 25 = .ok (.sipush 128, 3) := by decide +kernel
theorem d6_28 : decode jdk_35_method_24_code 28 = .ok (.iadd, 1) := by decide +kernel
theorem d6_29 : decode jdk_35_method_24_code 29 = .ok (.aaload, 1) := by decide +kernel
theorem d6_30 : decode jdk_35_method_24_code 30 = .ok (.areturn, 1) := by decide +kernel
theorem d6_31 : decode jdk_35_method_24_code 31 = .ok (.new 1, 3) := by decide +kernel
theorem d6_34 : decode jdk_35_method_24_code 34 = .ok (.dup, 1) := by decide +kernel
theorem d6_35 : decode jdk_35_method_24_code 35 = .ok (.lload_n 0, 1) := by decide +kernel
theorem d6_36 : decode jdk_35_method_24_code 36 = .ok (.invokespecial 240, 3) := by decide +kernel
theorem d6_39 : decode jdk_35_method_24_code 39 = .ok (.areturn, 1) := by decide +kernel
theorem pd__J_V : parseMethodDescriptor "(J)V" = some ⟨[.long], none⟩ := by decide +kernel
theorem ef_rmVJ (m : MethodId) (x0 : Int64) : entryFrame m #[(.long x0)] 3 = mkF m 0 #[.val (.long x0), .second, .unset] [] := by first | (simp [entryFrame, mkF, argsToLocals, Value.category]; done) | rfl
def Q_rmVJ (Z : State) (pa : Int64) (cj : Addr) (ccj : Cell) (vf : Int32 → Value) (h0 : Heap) (n0 : Nat) (v : Option Value) (h : Heap) (L : List Loc) : Prop := ∃ b, v = some (.ref b) ∧ Fr n0 L ∧ Keep h0 h [] ∧ Exa Z h b "java/lang/Long"
def K_rmVJ (Z : State) (pa : Int64) (cj : Addr) (ccj : Cell) (vf : Int32 → Value) (h0 : Heap) (n0 : Nat) (s : State) : Outcome → State → Prop := fun oo U' => ∃ v L, oo = .returned v ∧ Q_rmVJ Z pa cj ccj vf h0 n0 v U'.heap L ∧ FrameEnd s oo U' L ({ frames := 3, cells := 1, slots := 1, locals := 39 } : Room).cells ({ frames := 3, cells := 1, slots := 1, locals := 39 } : Room).slots
set_option maxRecDepth 65536 in
set_option maxHeartbeats 40000000 in
theorem rmVJ (l : Launch) (Z : State) (a0 : Array Value) (hw : ∀ d ∈ tables_1, d.before a0 Z = true) (ws : List Jvm.Cond) (pa : Int64) (cj : Addr) (ccj : Cell) (vf : Int32 → Value) (h0 : Heap) (n0 : Nat) (Z0 : n0 ≤ h0.size) (EZ : Ext Z.heap h0) (B : Bxs Z cj ccj "java/lang/Long" "J" 256 vf) (SC : Sta Z Z.heap "java/lang/Long$LongCache" "cache" "[Ljava/lang/Long;" (.ref cj)) :
    MetFree l (⟨"java/lang/Long", "valueOf", "(J)Ljava/lang/Long;"⟩ : MethodName) (head1 (Jvm.Cond.code (⟨"java/lang/Long", "valueOf", "(J)Ljava/lang/Long;"⟩ : MethodName) jdk_35_method_24_code 3 (some (.object "java/lang/Long")) :: ws) ({ frames := 3, cells := 1, slots := 1, locals := 39 } : Room)) (fun a U => a = #[(.long pa)] ∧ Z.Warmed39 U.vm ∧ U.heap = h0) (fun _ _ _ _ _ => True) (fun _ U oo U' => ∃ v L, oo = .returned v ∧ Q_rmVJ Z pa cj ccj vf h0 n0 v U'.heap L ∧ FrameEnd U oo U' L ({ frames := 3, cells := 1, slots := 1, locals := 39 } : Room).cells ({ frames := 3, cells := 1, slots := 1, locals := 39 } : Room).slots) := by
  refine MetFree.of_bodySF (plainFor_of_name pn_java_lang_Long) hisR ?_
  intro p e s m args below meth c s₁ Bd hml0 hP hK
  obtain ⟨rfl, hZ, hh⟩ := hP
  have hx := Bd.exec
  have hby := Bd.bytes
  have hml : c.maxLocals = 3 := hml0
  have hown : s.vm.findClass "java/lang/Long" = some m.cls := findClass_of_methodNamed Bd.named
  have hnm := (name_of_methodNamed Bd.named Bd.method).1
  have X0 : Stand p l e ({ frames := 3, cells := 1, slots := 1, locals := 39 } : Room) s m #[(.long pa)] below meth c s₁ [] 0 0 := Stand.of_body Bd
  have e0 : s₁.heap = h0 := by rw [← hh, Bd.state]; rfl
  have N0 := Fr.nil n0
  refine own_st (K := (K_rmVJ Z pa cj ccj vf h0 n0 s)) (fun t' k' => castTop (ef_rmVJ m pa) k') ?_
  have S_cache := SC.ext EZ
  show own_Go p.tables e below _ (s₁.setTop (mkF m 0 #[.val (.long pa), .second, .unset] []))
  refine own_st (fun _ k' => XS.sipush X0.here hx rfl (hb hby d6_0) k') ?_
  show own_Go p.tables e below _ (s₁.setTop (mkF m 3 #[.val (.long pa), .second, .unset] [(.int (128 : Int32))]))
  refine own_st (fun _ k' => XS.istoreN X0.here hx rfl (hb hby d6_3) rfl (l' := #[.val (.long pa), .second, .val (.int (128 : Int32))]) rfl k') ?_
  show own_Go p.tables e below _ (s₁.setTop (mkF m 4 #[.val (.long pa), .second, .val (.int (128 : Int32))] []))
  refine own_st (fun _ k' => XS.lloadN X0.here hx rfl (hb hby d6_4) rfl k') ?_
  show own_Go p.tables e below _ (s₁.setTop (mkF m 5 #[.val (.long pa), .second, .val (.int (128 : Int32))] [(.long pa)]))
  refine own_st (fun t' k' => X0.ldc2Long hx hown (mvT hZ (hw _ (List.mem_of_getElem? (i := 39) rfl))) (g := (mkF m 5 #[.val (.long pa), .second, .val (.int (128 : Int32))] [(.long pa)])) rfl (hb hby d6_5) t' k') ?_
  show own_Go p.tables e below _ (s₁.setTop (mkF m 8 #[.val (.long pa), .second, .val (.int (128 : Int32))] [(.long (-128 : Int64)), (.long pa)]))
  refine own_st (fun _ k' => XS.lcmp X0.here hx rfl (hb hby d6_8) rfl k') ?_
  show own_Go p.tables e below _ (s₁.setTop (mkF m 9 #[.val (.long pa), .second, .val (.int (128 : Int32))] [(.int (lcmpW pa (-128 : Int64)))]))
  by_cases hc1 : pa < (-128 : Int64)
  ·  -- pc 9, pa < (-128 : Int64)
    refine own_st (fun _ k' => XS.ifYes X0.here hx rfl (pc0 := 9) (pc' := 31) rfl (hb hby d6_9) rfl ((if0 _ _).trans (tlt ((lw_lt pa (-128 : Int64)).mpr hc1)).1) (by decide) (by decide) k') ?_
    show own_Go p.tables e below _ (s₁.setTop (mkF m 31 #[.val (.long pa), .second, .val (.int (128 : Int32))] []))
    obtain ⟨T2, h2, X2, e2, E2, A2, D2, -, st2⟩ := newO X0 hx hZ hown (hw _ (List.mem_of_getElem? (i := 41) rfl)) (hw _ (List.mem_of_getElem? (i := 42) rfl)) (hw _ (List.mem_of_getElem? (i := 37) rfl)) e0 (g := (mkF m 31 #[.val (.long pa), .second, .val (.int (128 : Int32))] [])) rfl (hb hby d6_31) (by decide) (by decide)
    obtain ⟨b2, g2⟩ : ∃ z, z = h0.size := ⟨_, rfl⟩
    rw [← g2] at A2 D2 st2
    have g_b2 : n0 ≤ b2 := Nat.le_trans Z0 (Nat.le_of_eq g2.symm)
    have sz_b2 : h0.size ≤ b2 := Nat.le_trans (Keep.refl h0 []).1 (Nat.le_of_eq g2.symm)
    have S_cache_x3 := S_cache.ext E2
    have K4 : Keep h0 h2 [] := (Keep.refl h0 []).ext E2
    have ZE2 : n0 ≤ h2.size := Nat.le_trans Z0 E2.1
    have F_value_b2 : Fld Z h2 b2 "java/lang/Long" "value" "J" (.long (0 : Int64)) := D2 (Or.inr (hw _ (List.mem_of_getElem? (i := 55) rfl))) (ty := .long) (by decide)
    refine own_st st2 ?_
    show own_Go p.tables e below _ (T2.setTop (mkF m 34 #[.val (.long pa), .second, .val (.int (128 : Int32))] [(.ref b2)]))
    refine own_st (fun _ k' => XS.dup X2.here hx rfl (hb hby d6_34) rfl rfl k') ?_
    show own_Go p.tables e below _ (T2.setTop (mkF m 35 #[.val (.long pa), .second, .val (.int (128 : Int32))] [(.ref b2), (.ref b2)]))
    refine own_st (fun _ k' => XS.lloadN X2.here hx rfl (hb hby d6_35) rfl k') ?_
    show own_Go p.tables e below _ (T2.setTop (mkF m 36 #[.val (.long pa), .second, .val (.int (128 : Int32))] [(.long pa), (.ref b2), (.ref b2)]))
    obtain ⟨_, _, ⟨T5, L5, k5, n5⟩, -, X5, ⟨Lc5, hQ5, l5, y5, z5⟩, st5⟩ := X2.specialBack hx (y := (⟨"java/lang/Long", "<init>", "(J)V"⟩ : MethodName)) rfl hown (mvT hZ (hw _ (List.mem_of_getElem? (i := 43) rfl))) (mvT hZ (hw _ (List.mem_of_getElem? (i := 44) rfl))) (mvT hZ (hw _ (List.mem_of_getElem? (i := 46) rfl))) (by decide) (backOf (W := 1) (rmBJ l Z a0 hw [] b2 pa h2 n0 ZE2 A2 F_value_b2 g_b2) hZ (hw _ (List.mem_of_getElem? (i := 46) rfl)) (hw _ (List.mem_of_getElem? (i := 37) rfl)) (by decide) (by decide)) (g := (mkF m 36 #[.val (.long pa), .second, .val (.int (128 : Int32))] [(.long pa), (.ref b2), (.ref b2)])) rfl (by rw [hml]; rfl) (Steps.refl _) (a := b2) (argsL := [(.long pa)]) (rest := [(.ref b2)]) (lenOf pd__J_V rfl) rfl (by show 2 * 0 + _ ≤ _; exact Nat.le_of_eq rfl) (hb hby d6_36) (fun _ _ => ⟨rfl, e2, (by decide : 1 + 0 ≤ _), (by decide : 1 + 0 ≤ _)⟩)
    dsimp only [Pt.U, Pt.locs, Pt.cells, Pt.slots] at X5 l5 y5 z5 st5 hQ5
    subst l5 y5 z5
    obtain ⟨rfl, Nq5, Kc5, Ec5⟩ := hQ5
    have N5 := Fr.app N0 Nq5
    have A2_x7 := A2.keep Kc5
    have Zc5 : n0 ≤ T5.heap.size := Nat.le_trans ZE2 Kc5.1
    have Kk5 : Keep h0 T5.heap [] := K4.trans Kc5 (allS (Or.inr sz_b2) all0)
    refine own_tr st5 ?_
    show own_Go p.tables e below _ (T5.setTop (mkF m 39 #[.val (.long pa), .second, .val (.int (128 : Int32))] [(.ref b2)]))
    exact own_retA X5 hx Bd.returns rfl rfl (hb hby d6_39) Bd.notSynchronized ⟨b2, rfl, N5, by exact Kk5, by exact Ec5⟩ (by decide) (by decide)
  ·  -- pc 9, not pa < (-128 : Int64)
    refine own_st (fun _ k' => XS.ifNo X0.here hx rfl (hb hby d6_9) rfl ((if0 _ _).trans (flt (mt (lw_lt pa (-128 : Int64)).mp hc1)).1) k') ?_
    show own_Go p.tables e below _ (s₁.setTop (mkF m 12 #[.val (.long pa), .second, .val (.int (128 : Int32))] []))
    refine own_st (fun _ k' => XS.lloadN X0.here hx rfl (hb hby d6_12) rfl k') ?_
    show own_Go p.tables e below _ (s₁.setTop (mkF m 13 #[.val (.long pa), .second, .val (.int (128 : Int32))] [(.long pa)]))
    refine own_st (fun t' k' => X0.ldc2Long hx hown (mvT hZ (hw _ (List.mem_of_getElem? (i := 40) rfl))) (g := (mkF m 13 #[.val (.long pa), .second, .val (.int (128 : Int32))] [(.long pa)])) rfl (hb hby d6_13) t' k') ?_
    show own_Go p.tables e below _ (s₁.setTop (mkF m 16 #[.val (.long pa), .second, .val (.int (128 : Int32))] [(.long (127 : Int64)), (.long pa)]))
    refine own_st (fun _ k' => XS.lcmp X0.here hx rfl (hb hby d6_16) rfl k') ?_
    show own_Go p.tables e below _ (s₁.setTop (mkF m 17 #[.val (.long pa), .second, .val (.int (128 : Int32))] [(.int (lcmpW pa (127 : Int64)))]))
    by_cases hc9 : (127 : Int64) < pa
    ·  -- pc 17, (127 : Int64) < pa
      refine own_st (fun _ k' => XS.ifYes X0.here hx rfl (pc0 := 17) (pc' := 31) rfl (hb hby d6_17) rfl ((if0 _ _).trans (tlt ((lw_gt pa (127 : Int64)).mpr hc9)).2.2.1) (by decide) (by decide) k') ?_
      show own_Go p.tables e below _ (s₁.setTop (mkF m 31 #[.val (.long pa), .second, .val (.int (128 : Int32))] []))
      obtain ⟨T10, h10, X10, e10, E10, A10, D10, -, st10⟩ := newO X0 hx hZ hown (hw _ (List.mem_of_getElem? (i := 41) rfl)) (hw _ (List.mem_of_getElem? (i := 42) rfl)) (hw _ (List.mem_of_getElem? (i := 37) rfl)) e0 (g := (mkF m 31 #[.val (.long pa), .second, .val (.int (128 : Int32))] [])) rfl (hb hby d6_31) (by decide) (by decide)
      obtain ⟨b10, g10⟩ : ∃ z, z = h0.size := ⟨_, rfl⟩
      rw [← g10] at A10 D10 st10
      have g_b10 : n0 ≤ b10 := Nat.le_trans Z0 (Nat.le_of_eq g10.symm)
      have sz_b10 : h0.size ≤ b10 := Nat.le_trans (Keep.refl h0 []).1 (Nat.le_of_eq g10.symm)
      have S_cache_x11 := S_cache.ext E10
      have K12 : Keep h0 h10 [] := (Keep.refl h0 []).ext E10
      have ZE10 : n0 ≤ h10.size := Nat.le_trans Z0 E10.1
      have F_value_b10 : Fld Z h10 b10 "java/lang/Long" "value" "J" (.long (0 : Int64)) := D10 (Or.inr (hw _ (List.mem_of_getElem? (i := 55) rfl))) (ty := .long) (by decide)
      refine own_st st10 ?_
      show own_Go p.tables e below _ (T10.setTop (mkF m 34 #[.val (.long pa), .second, .val (.int (128 : Int32))] [(.ref b10)]))
      refine own_st (fun _ k' => XS.dup X10.here hx rfl (hb hby d6_34) rfl rfl k') ?_
      show own_Go p.tables e below _ (T10.setTop (mkF m 35 #[.val (.long pa), .second, .val (.int (128 : Int32))] [(.ref b10), (.ref b10)]))
      refine own_st (fun _ k' => XS.lloadN X10.here hx rfl (hb hby d6_35) rfl k') ?_
      show own_Go p.tables e below _ (T10.setTop (mkF m 36 #[.val (.long pa), .second, .val (.int (128 : Int32))] [(.long pa), (.ref b10), (.ref b10)]))
      obtain ⟨_, _, ⟨T13, L13, k13, n13⟩, -, X13, ⟨Lc13, hQ13, l13, y13, z13⟩, st13⟩ := X10.specialBack hx (y := (⟨"java/lang/Long", "<init>", "(J)V"⟩ : MethodName)) rfl hown (mvT hZ (hw _ (List.mem_of_getElem? (i := 43) rfl))) (mvT hZ (hw _ (List.mem_of_getElem? (i := 44) rfl))) (mvT hZ (hw _ (List.mem_of_getElem? (i := 46) rfl))) (by decide) (backOf (W := 1) (rmBJ l Z a0 hw [] b10 pa h10 n0 ZE10 A10 F_value_b10 g_b10) hZ (hw _ (List.mem_of_getElem? (i := 46) rfl)) (hw _ (List.mem_of_getElem? (i := 37) rfl)) (by decide) (by decide)) (g := (mkF m 36 #[.val (.long pa), .second, .val (.int (128 : Int32))] [(.long pa), (.ref b10), (.ref b10)])) rfl (by rw [hml]; rfl) (Steps.refl _) (a := b10) (argsL := [(.long pa)]) (rest := [(.ref b10)]) (lenOf pd__J_V rfl) rfl (by show 2 * 0 + _ ≤ _; exact Nat.le_of_eq rfl) (hb hby d6_36) (fun _ _ => ⟨rfl, e10, (by decide : 1 + 0 ≤ _), (by decide : 1 + 0 ≤ _)⟩)
      dsimp only [Pt.U, Pt.locs, Pt.cells, Pt.slots] at X13 l13 y13 z13 st13 hQ13
      subst l13 y13 z13
      obtain ⟨rfl, Nq13, Kc13, Ec13⟩ := hQ13
      have N13 := Fr.app N0 Nq13
      have A10_x15 := A10.keep Kc13
      have Zc13 : n0 ≤ T13.heap.size := Nat.le_trans ZE10 Kc13.1
      have Kk13 : Keep h0 T13.heap [] := K12.trans Kc13 (allS (Or.inr sz_b10) all0)
      refine own_tr st13 ?_
      show own_Go p.tables e below _ (T13.setTop (mkF m 39 #[.val (.long pa), .second, .val (.int (128 : Int32))] [(.ref b10)]))
      exact own_retA X13 hx Bd.returns rfl rfl (hb hby d6_39) Bd.notSynchronized ⟨b10, rfl, N13, by exact Kk13, by exact Ec13⟩ (by decide) (by decide)
    ·  -- pc 17, not (127 : Int64) < pa
      refine own_st (fun _ k' => XS.ifNo X0.here hx rfl (hb hby d6_17) rfl ((if0 _ _).trans (flt (mt (lw_gt pa (127 : Int64)).mp hc9)).2.2.1) k') ?_
      show own_Go p.tables e below _ (s₁.setTop (mkF m 20 #[.val (.long pa), .second, .val (.int (128 : Int32))] []))
      obtain ⟨T17, X17, e17, st17⟩ := getS2 X0 hx hZ hown (host := "") (Or.inl (hw _ (List.mem_of_getElem? (i := 67) rfl))) Via.refl e0 S_cache (g := (mkF m 20 #[.val (.long pa), .second, .val (.int (128 : Int32))] [])) rfl (hb hby d6_20)
      refine own_st st17 ?_
      show own_Go p.tables e below _ (T17.setTop (mkF m 23 #[.val (.long pa), .second, .val (.int (128 : Int32))] [(.ref cj)]))
      refine own_st (fun _ k' => XS.lloadN X17.here hx rfl (hb hby d6_23) rfl k') ?_
      show own_Go p.tables e below _ (T17.setTop (mkF m 24 #[.val (.long pa), .second, .val (.int (128 : Int32))] [(.long pa), (.ref cj)]))
      refine own_st (fun _ k' => XS.l2i X17.here hx rfl (hb hby d6_24) rfl k') ?_
      show own_Go p.tables e below _ (T17.setTop (mkF m 25 #[.val (.long pa), .second, .val (.int (128 : Int32))] [(.int (pa.toInt32)), (.ref cj)]))
      refine own_st (fun _ k' => XS.sipush X17.here hx rfl (hb hby d6_25) k') ?_
      show own_Go p.tables e below _ (T17.setTop (mkF m 28 #[.val (.long pa), .second, .val (.int (128 : Int32))] [(.int (128 : Int32)), (.int (pa.toInt32)), (.ref cj)]))
      refine own_st (fun _ k' => XS.iadd X17.here hx rfl (hb hby d6_28) rfl k') ?_
      show own_Go p.tables e below _ (T17.setTop (mkF m 29 #[.val (.long pa), .second, .val (.int (128 : Int32))] [(.int ((pa.toInt32) + (128 : Int32))), (.ref cj)]))
      have hin : ¬ (((pa.toInt32) + (128 : Int32)) < 0 ∨ ccj.slots.size ≤ (((pa.toInt32) + (128 : Int32))).toNatClampNeg) := by rw [B.2.1]; exact (Jvm.Free.IntBox.place_ok pa.toInt32 (own_lo pa hc1 hc9).1 (own_lo pa hc1 hc9).2).1
      obtain ⟨b, hat, Eb0, -⟩ := B.2.2.2 _ hin
      have Eb := Eb0.ext EZ
      have Ar := B.1.ext EZ
      refine own_st (fun t' k' => X17.aaload hx (j := ((pa.toInt32) + (128 : Int32))) (v := (.ref b)) (by rw [e17]; exact Ar.1) (State.isArrayOf_alike hZ.alike Ar.2.1) rfl Ar.2.2 hin hat (g := (mkF m 29 #[.val (.long pa), .second, .val (.int (128 : Int32))] [(.int ((pa.toInt32) + (128 : Int32))), (.ref cj)])) rfl rfl (hb hby d6_29) t' k') ?_
      show own_Go p.tables e below _ (T17.setTop (mkF m 30 #[.val (.long pa), .second, .val (.int (128 : Int32))] [(.ref b)]))
      exact own_retA X17 hx Bd.returns rfl rfl (hb hby d6_30) Bd.notSynchronized ⟨b, rfl, N0, by rw [e17]; exact (Keep.refl h0 []), by rw [e17]; exact Eb⟩ (by decide) (by decide)

theorem pd__IJ_V : parseMethodDescriptor "(IJ)V" = some ⟨[.int, .long], none⟩ := by decide +kernel
theorem pd__Ljava_lang_Object__Z : parseMethodDescriptor "(Ljava/lang/Object;)Z" = some ⟨[(.object "java/lang/Object")], some .boolean⟩ := by decide +kernel
theorem pd__I_Ljava_lang_Integer_ : parseMethodDescriptor "(I)Ljava/lang/Integer;" = some ⟨[.int], some (.object "java/lang/Integer")⟩ := by decide +kernel
theorem pd__J_Ljava_lang_Long_ : parseMethodDescriptor "(J)Ljava/lang/Long;" = some ⟨[.long], some (.object "java/lang/Long")⟩ := by decide +kernel
theorem pn_com_example_penumbra_penumbra_order_MessageIdEqualsPinLaw : plainName "com/example/penumbra/penumbra/order/MessageIdEqualsPinLaw" = true := by first | (simp [plainName, overriddenIn]; done) | decide +kernel
theorem ef_rm0 (m : MethodId) (x0 : Int32) (x1 : Int64) (x2 : Int32) (x3 : Int64) (x4 : Int32) : entryFrame m #[(.int x0), (.long x1), (.int x2), (.long x3), (.int x4)] maxLocals = mkF m 0 #[.val (.int x0), .val (.long x1), .second, .val (.int x2), .val (.long x3), .second, .val (.int x4), .unset, .unset, .unset, .unset, .unset, .unset, .unset] [] := by first | (simp [entryFrame, mkF, argsToLocals, Value.category, maxLocals]; done) | rfl
def Q_rm0 (Z : State) (m1 : Int32) (n1 : Int64) (m2 : Int32) (n2 : Int64) (sel : Int32) (ci : Addr) (cci : Cell) (vi : Int32 → Value) (cj : Addr) (ccj : Cell) (vj : Int32 → Value) (h0 : Heap) (n0 : Nat) (v : Option Value) (h : Heap) (L : List Loc) : Prop := v = some (.int 1) ∧ Fr n0 L
def K_rm0 (Z : State) (m1 : Int32) (n1 : Int64) (m2 : Int32) (n2 : Int64) (sel : Int32) (ci : Addr) (cci : Cell) (vi : Int32 → Value) (cj : Addr) (ccj : Cell) (vj : Int32 → Value) (h0 : Heap) (n0 : Nat) (s : State) : Outcome → State → Prop := fun oo U' => ∃ v L, oo = .returned v ∧ Q_rm0 Z m1 n1 m2 n2 sel ci cci vi cj ccj vj h0 n0 v U'.heap L ∧ FrameEnd s oo U' L 2 4
set_option maxRecDepth 65536 in
set_option maxHeartbeats 40000000 in
theorem rm0 (l : Launch) (Z : State) (a0 : Array Value) (hw : ∀ d ∈ tables_1, d.before a0 Z = true) (ws : List Jvm.Cond) (m1 : Int32) (n1 : Int64) (m2 : Int32) (n2 : Int64) (sel : Int32) (ci : Addr) (cci : Cell) (vi : Int32 → Value) (cj : Addr) (ccj : Cell) (vj : Int32 → Value) (h0 : Heap) (n0 : Nat) (Z0 : n0 ≤ h0.size) (O_ : Old Z n0 h0) (BI : Bxs Z ci cci "java/lang/Integer" "I" 256 vi) (SCI : Sta Z Z.heap "java/lang/Integer$IntegerCache" "cache" "[Ljava/lang/Integer;" (.ref ci)) (SHI : Sta Z Z.heap "java/lang/Integer$IntegerCache" "high" "I" (.int (127 : Int32))) (BJ : Bxs Z cj ccj "java/lang/Long" "J" 256 vj) (SCJ : Sta Z Z.heap "java/lang/Long$LongCache" "cache" "[Ljava/lang/Long;" (.ref cj)) :
    MetFree l x (head1 (Jvm.Cond.code x code maxLocals ret :: ws) room_1) (fun a U => a = #[(.int m1), (.long n1), (.int m2), (.long n2), (.int sel)] ∧ Z.Warmed39 U.vm ∧ U.heap = h0) (fun _ _ _ _ _ => True) (fun _ U oo U' => ∃ v L, oo = .returned v ∧ Q_rm0 Z m1 n1 m2 n2 sel ci cci vi cj ccj vj h0 n0 v U'.heap L ∧ FrameEnd U oo U' L 2 4) := by
  refine MetFree.of_bodySF (plainFor_of_name pn_com_example_penumbra_penumbra_order_MessageIdEqualsPinLaw) hisR ?_
  intro p e s m args below meth c s₁ Bd hml0 hP hK
  obtain ⟨rfl, hZ, hh⟩ := hP
  have hx := Bd.exec
  have hby := Bd.bytes
  have hml : c.maxLocals = 14 := hml0
  have hown : s.vm.findClass "com/example/penumbra/penumbra/order/MessageIdEqualsPinLaw" = some m.cls := findClass_of_methodNamed Bd.named
  have hnm := (name_of_methodNamed Bd.named Bd.method).1
  have X0 : Stand p l e room_1 s m #[(.int m1), (.long n1), (.int m2), (.long n2), (.int sel)] below meth c s₁ [] 0 0 := Stand.of_body Bd
  have e0 : s₁.heap = h0 := by rw [← hh, Bd.state]; rfl
  have N0 := Fr.nil n0
  refine own_st (K := (K_rm0 Z m1 n1 m2 n2 sel ci cci vi cj ccj vj h0 n0 s)) (fun t' k' => castTop (ef_rm0 m m1 n1 m2 n2 sel) k') ?_
  show own_Go p.tables e below _ (s₁.setTop (mkF m 0 #[.val (.int m1), .val (.long n1), .second, .val (.int m2), .val (.long n2), .second, .val (.int sel), .unset, .unset, .unset, .unset, .unset, .unset, .unset] []))
  refine own_st (fun _ k' => XS.iload X0.here hx rfl (hb hby at_0) rfl k') ?_
  show own_Go p.tables e below _ (s₁.setTop (mkF m 2 #[.val (.int m1), .val (.long n1), .second, .val (.int m2), .val (.long n2), .second, .val (.int sel), .unset, .unset, .unset, .unset, .unset, .unset, .unset] [(.int sel)]))
  refine own_st (fun _ k' => XS.iconst X0.here hx rfl (hb hby at_2) k') ?_
  show own_Go p.tables e below _ (s₁.setTop (mkF m 3 #[.val (.int m1), .val (.long n1), .second, .val (.int m2), .val (.long n2), .second, .val (.int sel), .unset, .unset, .unset, .unset, .unset, .unset, .unset] [(.int (1 : Int32)), (.int sel)]))
  refine own_st (fun _ k' => XS.iand X0.here hx rfl (hb hby at_3) rfl k') ?_
  show own_Go p.tables e below _ (s₁.setTop (mkF m 4 #[.val (.int m1), .val (.long n1), .second, .val (.int m2), .val (.long n2), .second, .val (.int sel), .unset, .unset, .unset, .unset, .unset, .unset, .unset] [(.int (sel &&& (1 : Int32)))]))
  have J14 : ∀ bm : Int32, own_Go p.tables e below (K_rm0 Z m1 n1 m2 n2 sel ci cci vi cj ccj vj h0 n0 s) (s₁.setTop (mkF m 14 #[.val (.int m1), .val (.long n1), .second, .val (.int m2), .val (.long n2), .second, .val (.int sel), .unset, .unset, .unset, .unset, .unset, .unset, .unset] [(.int bm)])) := by
    intro bm
    refine own_st (fun _ k' => XS.istore X0.here hx rfl (hb hby at_14) rfl (l' := #[.val (.int m1), .val (.long n1), .second, .val (.int m2), .val (.long n2), .second, .val (.int sel), .val (.int bm), .unset, .unset, .unset, .unset, .unset, .unset]) rfl k') ?_
    show own_Go p.tables e below _ (s₁.setTop (mkF m 16 #[.val (.int m1), .val (.long n1), .second, .val (.int m2), .val (.long n2), .second, .val (.int sel), .val (.int bm), .unset, .unset, .unset, .unset, .unset, .unset] []))
    refine own_st (fun _ k' => XS.iload X0.here hx rfl (hb hby at_16) rfl k') ?_
    show own_Go p.tables e below _ (s₁.setTop (mkF m 18 #[.val (.int m1), .val (.long n1), .second, .val (.int m2), .val (.long n2), .second, .val (.int sel), .val (.int bm), .unset, .unset, .unset, .unset, .unset, .unset] [(.int sel)]))
    refine own_st (fun _ k' => XS.iconst X0.here hx rfl (hb hby at_18) k') ?_
    show own_Go p.tables e below _ (s₁.setTop (mkF m 19 #[.val (.int m1), .val (.long n1), .second, .val (.int m2), .val (.long n2), .second, .val (.int sel), .val (.int bm), .unset, .unset, .unset, .unset, .unset, .unset] [(.int (2 : Int32)), (.int sel)]))
    refine own_st (fun _ k' => XS.iand X0.here hx rfl (hb hby at_19) rfl k') ?_
    show own_Go p.tables e below _ (s₁.setTop (mkF m 20 #[.val (.int m1), .val (.long n1), .second, .val (.int m2), .val (.long n2), .second, .val (.int sel), .val (.int bm), .unset, .unset, .unset, .unset, .unset, .unset] [(.int (sel &&& (2 : Int32)))]))
    have J31 : ∀ bn : Int64, own_Go p.tables e below (K_rm0 Z m1 n1 m2 n2 sel ci cci vi cj ccj vj h0 n0 s) (s₁.setTop (mkF m 31 #[.val (.int m1), .val (.long n1), .second, .val (.int m2), .val (.long n2), .second, .val (.int sel), .val (.int bm), .unset, .unset, .unset, .unset, .unset, .unset] [(.long bn)])) := by
      intro bn
      refine own_st (fun _ k' => XS.lstore X0.here hx rfl (hb hby at_31) rfl (l' := #[.val (.int m1), .val (.long n1), .second, .val (.int m2), .val (.long n2), .second, .val (.int sel), .val (.int bm), .val (.long bn), .second, .unset, .unset, .unset, .unset]) rfl k') ?_
      show own_Go p.tables e below _ (s₁.setTop (mkF m 33 #[.val (.int m1), .val (.long n1), .second, .val (.int m2), .val (.long n2), .second, .val (.int sel), .val (.int bm), .val (.long bn), .second, .unset, .unset, .unset, .unset] []))
      refine own_st (fun _ k' => XS.iload X0.here hx rfl (hb hby at_33) rfl k') ?_
      show own_Go p.tables e below _ (s₁.setTop (mkF m 35 #[.val (.int m1), .val (.long n1), .second, .val (.int m2), .val (.long n2), .second, .val (.int sel), .val (.int bm), .val (.long bn), .second, .unset, .unset, .unset, .unset] [(.int sel)]))
      refine own_st (fun _ k' => XS.iconst X0.here hx rfl (hb hby at_35) k') ?_
      show own_Go p.tables e below _ (s₁.setTop (mkF m 36 #[.val (.int m1), .val (.long n1), .second, .val (.int m2), .val (.long n2), .second, .val (.int sel), .val (.int bm), .val (.long bn), .second, .unset, .unset, .unset, .unset] [(.int (2 : Int32)), (.int sel)]))
      refine own_st (fun _ k' => XS.iushr X0.here hx rfl (hb hby at_36) rfl k') ?_
      show own_Go p.tables e below _ (s₁.setTop (mkF m 37 #[.val (.int m1), .val (.long n1), .second, .val (.int m2), .val (.long n2), .second, .val (.int sel), .val (.int bm), .val (.long bn), .second, .unset, .unset, .unset, .unset] [(.int ((sel.toUInt32 >>> ((2 : Int32) &&& 31).toUInt32).toInt32))]))
      refine own_st (fun _ k' => XS.iconst X0.here hx rfl (hb hby at_37) k') ?_
      show own_Go p.tables e below _ (s₁.setTop (mkF m 38 #[.val (.int m1), .val (.long n1), .second, .val (.int m2), .val (.long n2), .second, .val (.int sel), .val (.int bm), .val (.long bn), .second, .unset, .unset, .unset, .unset] [(.int (3 : Int32)), (.int ((sel.toUInt32 >>> ((2 : Int32) &&& 31).toUInt32).toInt32))]))
      refine own_st (fun _ k' => XS.iand X0.here hx rfl (hb hby at_38) rfl k') ?_
      show own_Go p.tables e below _ (s₁.setTop (mkF m 39 #[.val (.int m1), .val (.long n1), .second, .val (.int m2), .val (.long n2), .second, .val (.int sel), .val (.int bm), .val (.long bn), .second, .unset, .unset, .unset, .unset] [(.int (((sel.toUInt32 >>> ((2 : Int32) &&& 31).toUInt32).toInt32) &&& (3 : Int32)))]))
      refine own_st (fun _ k' => XS.istore X0.here hx rfl (hb hby at_39) rfl (l' := #[.val (.int m1), .val (.long n1), .second, .val (.int m2), .val (.long n2), .second, .val (.int sel), .val (.int bm), .val (.long bn), .second, .val (.int (((sel.toUInt32 >>> ((2 : Int32) &&& 31).toUInt32).toInt32) &&& (3 : Int32))), .unset, .unset, .unset]) rfl k') ?_
      show own_Go p.tables e below _ (s₁.setTop (mkF m 41 #[.val (.int m1), .val (.long n1), .second, .val (.int m2), .val (.long n2), .second, .val (.int sel), .val (.int bm), .val (.long bn), .second, .val (.int (((sel.toUInt32 >>> ((2 : Int32) &&& 31).toUInt32).toInt32) &&& (3 : Int32))), .unset, .unset, .unset] []))
      obtain ⟨T1, h1, X1, e1, E1, A1, D1, -, st1⟩ := newO X0 hx hZ hown (hw _ (List.mem_of_getElem? (i := 0) rfl)) (hw _ (List.mem_of_getElem? (i := 1) rfl)) (hw _ (List.mem_of_getElem? (i := 2) rfl)) e0 (g := (mkF m 41 #[.val (.int m1), .val (.long n1), .second, .val (.int m2), .val (.long n2), .second, .val (.int sel), .val (.int bm), .val (.long bn), .second, .val (.int (((sel.toUInt32 >>> ((2 : Int32) &&& 31).toUInt32).toInt32) &&& (3 : Int32))), .unset, .unset, .unset] [])) rfl (hb hby at_41) (by decide) (by decide)
      obtain ⟨b1, g1⟩ : ∃ z, z = h0.size := ⟨_, rfl⟩
      rw [← g1] at A1 D1 st1
      have g_b1 : n0 ≤ b1 := Nat.le_trans Z0 (Nat.le_of_eq g1.symm)
      have O__x2 := O_.ext E1
      have ZE1 : n0 ≤ h1.size := Nat.le_trans Z0 E1.1
      have F_sender_b1 : Fld Z h1 b1 "com/example/penumbra/penumbra/order/ClockedMulticast$MessageId" "sender" "I" (.int (0 : Int32)) := D1 (Or.inr (hw _ (List.mem_of_getElem? (i := 15) rfl))) (ty := .int) (by decide)
      have F_number_b1 : Fld Z h1 b1 "com/example/penumbra/penumbra/order/ClockedMulticast$MessageId" "number" "J" (.long (0 : Int64)) := D1 (Or.inr (hw _ (List.mem_of_getElem? (i := 17) rfl))) (ty := .long) (by decide)
      refine own_st st1 ?_
      show own_Go p.tables e below _ (T1.setTop (mkF m 44 #[.val (.int m1), .val (.long n1), .second, .val (.int m2), .val (.long n2), .second, .val (.int sel), .val (.int bm), .val (.long bn), .second, .val (.int (((sel.toUInt32 >>> ((2 : Int32) &&& 31).toUInt32).toInt32) &&& (3 : Int32))), .unset, .unset, .unset] [(.ref b1)]))
      refine own_st (fun _ k' => XS.dup X1.here hx rfl (hb hby at_44) rfl rfl k') ?_
      show own_Go p.tables e below _ (T1.setTop (mkF m 45 #[.val (.int m1), .val (.long n1), .second, .val (.int m2), .val (.long n2), .second, .val (.int sel), .val (.int bm), .val (.long bn), .second, .val (.int (((sel.toUInt32 >>> ((2 : Int32) &&& 31).toUInt32).toInt32) &&& (3 : Int32))), .unset, .unset, .unset] [(.ref b1), (.ref b1)]))
      refine own_st (fun _ k' => XS.iloadN X1.here hx rfl (hb hby at_45) rfl k') ?_
      show own_Go p.tables e below _ (T1.setTop (mkF m 46 #[.val (.int m1), .val (.long n1), .second, .val (.int m2), .val (.long n2), .second, .val (.int sel), .val (.int bm), .val (.long bn), .second, .val (.int (((sel.toUInt32 >>> ((2 : Int32) &&& 31).toUInt32).toInt32) &&& (3 : Int32))), .unset, .unset, .unset] [(.int m1), (.ref b1), (.ref b1)]))
      refine own_st (fun _ k' => XS.lloadN X1.here hx rfl (hb hby at_46) rfl k') ?_
      show own_Go p.tables e below _ (T1.setTop (mkF m 47 #[.val (.int m1), .val (.long n1), .second, .val (.int m2), .val (.long n2), .second, .val (.int sel), .val (.int bm), .val (.long bn), .second, .val (.int (((sel.toUInt32 >>> ((2 : Int32) &&& 31).toUInt32).toInt32) &&& (3 : Int32))), .unset, .unset, .unset] [(.long n1), (.int m1), (.ref b1), (.ref b1)]))
      obtain ⟨_, _, ⟨T3, L3, k3, n3⟩, -, X3, ⟨Lc3, hQ3, l3, y3, z3⟩, st3⟩ := X1.specialBack hx (y := (⟨"com/example/penumbra/penumbra/order/ClockedMulticast$MessageId", "<init>", "(IJ)V"⟩ : MethodName)) rfl hown (mvT hZ (hw _ (List.mem_of_getElem? (i := 3) rfl))) (mvT hZ (hw _ (List.mem_of_getElem? (i := 4) rfl))) (mvT hZ (hw _ (List.mem_of_getElem? (i := 5) rfl))) (by decide) (backOf (W := 1) (rmN l Z a0 hw [] b1 m1 n1 h1 n0 ZE1 A1 F_sender_b1 F_number_b1 g_b1) hZ (hw _ (List.mem_of_getElem? (i := 5) rfl)) (hw _ (List.mem_of_getElem? (i := 2) rfl)) (by decide) (by decide)) (g := (mkF m 47 #[.val (.int m1), .val (.long n1), .second, .val (.int m2), .val (.long n2), .second, .val (.int sel), .val (.int bm), .val (.long bn), .second, .val (.int (((sel.toUInt32 >>> ((2 : Int32) &&& 31).toUInt32).toInt32) &&& (3 : Int32))), .unset, .unset, .unset] [(.long n1), (.int m1), (.ref b1), (.ref b1)])) rfl (by rw [hml]; rfl) (Steps.refl _) (a := b1) (argsL := [(.int m1), (.long n1)]) (rest := [(.ref b1)]) (lenOf pd__IJ_V rfl) rfl (by show 2 * 0 + _ ≤ _; exact Nat.le_of_eq rfl) (hb hby at_47) (fun _ _ => ⟨rfl, e1, (by decide : 1 + 0 ≤ _), (by decide : 2 + 0 ≤ _)⟩)
      dsimp only [Pt.U, Pt.locs, Pt.cells, Pt.slots] at X3 l3 y3 z3 st3 hQ3
      subst l3 y3 z3
      obtain ⟨rfl, Nq3, Kc3, Ec3, Fa3, Fb3⟩ := hQ3
      have N3 := Fr.app N0 Nq3
      have O__x4 := O__x2.keep Kc3 (allS g_b1 all0)
      have A1_x5 := A1.keep Kc3
      have Zc3 : n0 ≤ T3.heap.size := Nat.le_trans ZE1 Kc3.1
      refine own_tr st3 ?_
      show own_Go p.tables e below _ (T3.setTop (mkF m 50 #[.val (.int m1), .val (.long n1), .second, .val (.int m2), .val (.long n2), .second, .val (.int sel), .val (.int bm), .val (.long bn), .second, .val (.int (((sel.toUInt32 >>> ((2 : Int32) &&& 31).toUInt32).toInt32) &&& (3 : Int32))), .unset, .unset, .unset] [(.ref b1)]))
      refine own_st (fun _ k' => XS.astore X3.here hx rfl (hb hby at_50) rfl rfl (l' := #[.val (.int m1), .val (.long n1), .second, .val (.int m2), .val (.long n2), .second, .val (.int sel), .val (.int bm), .val (.long bn), .second, .val (.int (((sel.toUInt32 >>> ((2 : Int32) &&& 31).toUInt32).toInt32) &&& (3 : Int32))), .val (.ref b1), .unset, .unset]) rfl k') ?_
      show own_Go p.tables e below _ (T3.setTop (mkF m 52 #[.val (.int m1), .val (.long n1), .second, .val (.int m2), .val (.long n2), .second, .val (.int sel), .val (.int bm), .val (.long bn), .second, .val (.int (((sel.toUInt32 >>> ((2 : Int32) &&& 31).toUInt32).toInt32) &&& (3 : Int32))), .val (.ref b1), .unset, .unset] []))
      refine own_st (fun _ k' => XS.iload X3.here hx rfl (hb hby at_52) rfl k') ?_
      show own_Go p.tables e below _ (T3.setTop (mkF m 54 #[.val (.int m1), .val (.long n1), .second, .val (.int m2), .val (.long n2), .second, .val (.int sel), .val (.int bm), .val (.long bn), .second, .val (.int (((sel.toUInt32 >>> ((2 : Int32) &&& 31).toUInt32).toInt32) &&& (3 : Int32))), .val (.ref b1), .unset, .unset] [(.int (((sel.toUInt32 >>> ((2 : Int32) &&& 31).toUInt32).toInt32) &&& (3 : Int32)))]))
      refine own_st (fun _ k' => XS.iconst X3.here hx rfl (hb hby at_54) k') ?_
      show own_Go p.tables e below _ (T3.setTop (mkF m 55 #[.val (.int m1), .val (.long n1), .second, .val (.int m2), .val (.long n2), .second, .val (.int sel), .val (.int bm), .val (.long bn), .second, .val (.int (((sel.toUInt32 >>> ((2 : Int32) &&& 31).toUInt32).toInt32) &&& (3 : Int32))), .val (.ref b1), .unset, .unset] [(.int (1 : Int32)), (.int (((sel.toUInt32 >>> ((2 : Int32) &&& 31).toUInt32).toInt32) &&& (3 : Int32)))]))
      by_cases hc8 : (((sel.toUInt32 >>> ((2 : Int32) &&& 31).toUInt32).toInt32) &&& (3 : Int32)) = (1 : Int32)
      ·  -- pc 55, (((sel.toUInt32 >>> ((2 : Int32) &&& 31).toUInt32).toInt32) &&& (3 : Int32)) = (1 : Int32)
        refine own_st (fun _ k' => XS.icmpNo X3.here hx rfl (hb hby at_55) rfl (teq hc8).2 k') ?_
        show own_Go p.tables e below _ (T3.setTop (mkF m 58 #[.val (.int m1), .val (.long n1), .second, .val (.int m2), .val (.long n2), .second, .val (.int sel), .val (.int bm), .val (.long bn), .second, .val (.int (((sel.toUInt32 >>> ((2 : Int32) &&& 31).toUInt32).toInt32) &&& (3 : Int32))), .val (.ref b1), .unset, .unset] []))
        refine own_st (fun _ k' => XS.aload X3.here hx rfl (hb hby at_58) rfl rfl k') ?_
        show own_Go p.tables e below _ (T3.setTop (mkF m 60 #[.val (.int m1), .val (.long n1), .second, .val (.int m2), .val (.long n2), .second, .val (.int sel), .val (.int bm), .val (.long bn), .second, .val (.int (((sel.toUInt32 >>> ((2 : Int32) &&& 31).toUInt32).toInt32) &&& (3 : Int32))), .val (.ref b1), .unset, .unset] [(.ref b1)]))
        refine own_st (fun _ k' => XS.aconstNull X3.here hx rfl (hb hby at_60) k') ?_
        show own_Go p.tables e below _ (T3.setTop (mkF m 61 #[.val (.int m1), .val (.long n1), .second, .val (.int m2), .val (.long n2), .second, .val (.int sel), .val (.int bm), .val (.long bn), .second, .val (.int (((sel.toUInt32 >>> ((2 : Int32) &&& 31).toUInt32).toInt32) &&& (3 : Int32))), .val (.ref b1), .unset, .unset] [.null, (.ref b1)]))
        obtain ⟨cq9, kq9, q9a, q9b, q9c⟩ := isOf hZ rfl Ec3
        obtain ⟨_, _, ⟨T9, L9, k9, n9⟩, -, X9, ⟨Lc9, hQ9, l9, y9, z9⟩, st9⟩ := X3.virtualBack hx (y := (⟨"com/example/penumbra/penumbra/order/ClockedMulticast$MessageId", "equals", "(Ljava/lang/Object;)Z"⟩ : MethodName)) (z := (⟨"com/example/penumbra/penumbra/order/ClockedMulticast$MessageId", "equals", "(Ljava/lang/Object;)Z"⟩ : MethodName)) hown (mvT hZ (hw _ (List.mem_of_getElem? (i := 18) rfl))) (mvT hZ (hw _ (List.mem_of_getElem? (i := 19) rfl))) (notFace_of_selects (args := #[]) (mvT hZ (hw _ (List.mem_of_getElem? (i := 21) rfl)))) (mvT hZ (hw _ (List.mem_of_getElem? (i := 21) rfl))) (mvT hZ (hw _ (List.mem_of_getElem? (i := 20) rfl))) (by decide) (backOf (W := 0) (rmE0 l Z a0 hw [] b1 T3.heap n0 Zc3 ) hZ (hw _ (List.mem_of_getElem? (i := 22) rfl)) (hw _ (List.mem_of_getElem? (i := 2) rfl)) (by decide) (by decide)) q9a q9c (g := (mkF m 61 #[.val (.int m1), .val (.long n1), .second, .val (.int m2), .val (.long n2), .second, .val (.int sel), .val (.int bm), .val (.long bn), .second, .val (.int (((sel.toUInt32 >>> ((2 : Int32) &&& 31).toUInt32).toInt32) &&& (3 : Int32))), .val (.ref b1), .unset, .unset] [.null, (.ref b1)])) rfl (by rw [hml]; rfl) (Steps.refl _) (argsL := [.null]) (rest := []) (lenOf pd__Ljava_lang_Object__Z rfl) rfl (by show 2 * 0 + _ ≤ _; exact Nat.le_of_eq rfl) (hb hby at_61) (fun _ _ => ⟨rfl, rfl, (by decide : 1 + 0 ≤ _), (by decide : 2 + 0 ≤ _)⟩)
        dsimp only [Pt.U, Pt.locs, Pt.cells, Pt.slots] at X9 l9 y9 z9 st9 hQ9
        subst l9 y9 z9
        obtain ⟨rfl, Nq9, e9⟩ := hQ9
        have N9 := Fr.app N3 Nq9
        refine own_tr st9 ?_
        show own_Go p.tables e below _ (T9.setTop (mkF m 64 #[.val (.int m1), .val (.long n1), .second, .val (.int m2), .val (.long n2), .second, .val (.int sel), .val (.int bm), .val (.long bn), .second, .val (.int (((sel.toUInt32 >>> ((2 : Int32) &&& 31).toUInt32).toInt32) &&& (3 : Int32))), .val (.ref b1), .unset, .unset] [(.int (0 : Int32))]))
        refine own_st (fun _ k' => XS.ifNo X9.here hx rfl (hb hby at_64) rfl ((if0 _ _).trans (teq (by decide : (0 : Int32) = (0 : Int32))).2) k') ?_
        show own_Go p.tables e below _ (T9.setTop (mkF m 67 #[.val (.int m1), .val (.long n1), .second, .val (.int m2), .val (.long n2), .second, .val (.int sel), .val (.int bm), .val (.long bn), .second, .val (.int (((sel.toUInt32 >>> ((2 : Int32) &&& 31).toUInt32).toInt32) &&& (3 : Int32))), .val (.ref b1), .unset, .unset] []))
        refine own_st (fun _ k' => XS.aload X9.here hx rfl (hb hby at_67) rfl rfl k') ?_
        show own_Go p.tables e below _ (T9.setTop (mkF m 69 #[.val (.int m1), .val (.long n1), .second, .val (.int m2), .val (.long n2), .second, .val (.int sel), .val (.int bm), .val (.long bn), .second, .val (.int (((sel.toUInt32 >>> ((2 : Int32) &&& 31).toUInt32).toInt32) &&& (3 : Int32))), .val (.ref b1), .unset, .unset] [(.ref b1)]))
        refine own_st (fun _ k' => XS.aload X9.here hx rfl (hb hby at_69) rfl rfl k') ?_
        show own_Go p.tables e below _ (T9.setTop (mkF m 71 #[.val (.int m1), .val (.long n1), .second, .val (.int m2), .val (.long n2), .second, .val (.int sel), .val (.int bm), .val (.long bn), .second, .val (.int (((sel.toUInt32 >>> ((2 : Int32) &&& 31).toUInt32).toInt32) &&& (3 : Int32))), .val (.ref b1), .unset, .unset] [(.ref b1), (.ref b1)]))
        obtain ⟨cq10, kq10, q10a, q10b, q10c⟩ := isOf hZ e9 Ec3
        obtain ⟨_, _, ⟨T10, L10, k10, n10⟩, -, X10, ⟨Lc10, hQ10, l10, y10, z10⟩, st10⟩ := X9.virtualBack hx (y := (⟨"com/example/penumbra/penumbra/order/ClockedMulticast$MessageId", "equals", "(Ljava/lang/Object;)Z"⟩ : MethodName)) (z := (⟨"com/example/penumbra/penumbra/order/ClockedMulticast$MessageId", "equals", "(Ljava/lang/Object;)Z"⟩ : MethodName)) hown (mvT hZ (hw _ (List.mem_of_getElem? (i := 18) rfl))) (mvT hZ (hw _ (List.mem_of_getElem? (i := 19) rfl))) (notFace_of_selects (args := #[]) (mvT hZ (hw _ (List.mem_of_getElem? (i := 21) rfl)))) (mvT hZ (hw _ (List.mem_of_getElem? (i := 21) rfl))) (mvT hZ (hw _ (List.mem_of_getElem? (i := 20) rfl))) (by decide) (backOf (W := 0) (rmE2 l Z a0 hw [] b1 b1 m1 n1 m1 n1 T3.heap n0 Zc3 Ec3 Fa3 Fb3 Fa3 Fb3) hZ (hw _ (List.mem_of_getElem? (i := 22) rfl)) (hw _ (List.mem_of_getElem? (i := 2) rfl)) (by decide) (by decide)) q10a q10c (g := (mkF m 71 #[.val (.int m1), .val (.long n1), .second, .val (.int m2), .val (.long n2), .second, .val (.int sel), .val (.int bm), .val (.long bn), .second, .val (.int (((sel.toUInt32 >>> ((2 : Int32) &&& 31).toUInt32).toInt32) &&& (3 : Int32))), .val (.ref b1), .unset, .unset] [(.ref b1), (.ref b1)])) rfl (by rw [hml]; rfl) (Steps.refl _) (argsL := [(.ref b1)]) (rest := []) (lenOf pd__Ljava_lang_Object__Z rfl) rfl (by show 2 * 0 + _ ≤ _; exact Nat.le_of_eq rfl) (hb hby at_71) (fun _ _ => ⟨rfl, e9, (by decide : 1 + 0 ≤ _), (by decide : 2 + 0 ≤ _)⟩)
        dsimp only [Pt.U, Pt.locs, Pt.cells, Pt.slots] at X10 l10 y10 z10 st10 hQ10
        subst l10 y10 z10
        obtain ⟨rfl, Nq10, e10⟩ := hQ10
        have N10 := Fr.app N9 Nq10
        refine own_tr st10 ?_
        show own_Go p.tables e below _ (T10.setTop (mkF m 74 #[.val (.int m1), .val (.long n1), .second, .val (.int m2), .val (.long n2), .second, .val (.int sel), .val (.int bm), .val (.long bn), .second, .val (.int (((sel.toUInt32 >>> ((2 : Int32) &&& 31).toUInt32).toInt32) &&& (3 : Int32))), .val (.ref b1), .unset, .unset] [(.int (own_e m1 m1 n1 n1))]))
        refine own_st (fun _ k' => XS.ifNo X10.here hx rfl (hb hby at_74) rfl ((if0 _ _).trans (feq (by simp [own_e])).1) k') ?_
        show own_Go p.tables e below _ (T10.setTop (mkF m 77 #[.val (.int m1), .val (.long n1), .second, .val (.int m2), .val (.long n2), .second, .val (.int sel), .val (.int bm), .val (.long bn), .second, .val (.int (((sel.toUInt32 >>> ((2 : Int32) &&& 31).toUInt32).toInt32) &&& (3 : Int32))), .val (.ref b1), .unset, .unset] []))
        refine own_st (fun _ k' => XS.iconst X10.here hx rfl (hb hby at_77) k') ?_
        show own_Go p.tables e below _ (T10.setTop (mkF m 78 #[.val (.int m1), .val (.long n1), .second, .val (.int m2), .val (.long n2), .second, .val (.int sel), .val (.int bm), .val (.long bn), .second, .val (.int (((sel.toUInt32 >>> ((2 : Int32) &&& 31).toUInt32).toInt32) &&& (3 : Int32))), .val (.ref b1), .unset, .unset] [(.int (1 : Int32))]))
        refine own_st (fun _ k' => XS.goto X10.here hx rfl (pc0 := 78) (pc' := 82) rfl (hb hby at_78) (by decide) (by decide) k') ?_
        show own_Go p.tables e below _ (T10.setTop (mkF m 82 #[.val (.int m1), .val (.long n1), .second, .val (.int m2), .val (.long n2), .second, .val (.int sel), .val (.int bm), .val (.long bn), .second, .val (.int (((sel.toUInt32 >>> ((2 : Int32) &&& 31).toUInt32).toInt32) &&& (3 : Int32))), .val (.ref b1), .unset, .unset] [(.int (1 : Int32))]))
        exact own_retN X10 hx (t := .boolean) Bd.returns (by simp) (hb hby at_82) Bd.notSynchronized ⟨rfl, N10⟩ (by decide) (by decide)
      ·  -- pc 55, not (((sel.toUInt32 >>> ((2 : Int32) &&& 31).toUInt32).toInt32) &&& (3 : Int32)) = (1 : Int32)
        refine own_st (fun _ k' => XS.icmpYes X3.here hx rfl (pc0 := 55) (pc' := 83) rfl (hb hby at_55) rfl (feq hc8).2 (by decide) (by decide) k') ?_
        show own_Go p.tables e below _ (T3.setTop (mkF m 83 #[.val (.int m1), .val (.long n1), .second, .val (.int m2), .val (.long n2), .second, .val (.int sel), .val (.int bm), .val (.long bn), .second, .val (.int (((sel.toUInt32 >>> ((2 : Int32) &&& 31).toUInt32).toInt32) &&& (3 : Int32))), .val (.ref b1), .unset, .unset] []))
        refine own_st (fun _ k' => XS.iload X3.here hx rfl (hb hby at_83) rfl k') ?_
        show own_Go p.tables e below _ (T3.setTop (mkF m 85 #[.val (.int m1), .val (.long n1), .second, .val (.int m2), .val (.long n2), .second, .val (.int sel), .val (.int bm), .val (.long bn), .second, .val (.int (((sel.toUInt32 >>> ((2 : Int32) &&& 31).toUInt32).toInt32) &&& (3 : Int32))), .val (.ref b1), .unset, .unset] [(.int (((sel.toUInt32 >>> ((2 : Int32) &&& 31).toUInt32).toInt32) &&& (3 : Int32)))]))
        refine own_st (fun _ k' => XS.iconst X3.here hx rfl (hb hby at_85) k') ?_
        show own_Go p.tables e below _ (T3.setTop (mkF m 86 #[.val (.int m1), .val (.long n1), .second, .val (.int m2), .val (.long n2), .second, .val (.int sel), .val (.int bm), .val (.long bn), .second, .val (.int (((sel.toUInt32 >>> ((2 : Int32) &&& 31).toUInt32).toInt32) &&& (3 : Int32))), .val (.ref b1), .unset, .unset] [(.int (2 : Int32)), (.int (((sel.toUInt32 >>> ((2 : Int32) &&& 31).toUInt32).toInt32) &&& (3 : Int32)))]))
        by_cases hc11 : (((sel.toUInt32 >>> ((2 : Int32) &&& 31).toUInt32).toInt32) &&& (3 : Int32)) = (2 : Int32)
        ·  -- pc 86, (((sel.toUInt32 >>> ((2 : Int32) &&& 31).toUInt32).toInt32) &&& (3 : Int32)) = (2 : Int32)
          refine own_st (fun _ k' => XS.icmpNo X3.here hx rfl (hb hby at_86) rfl (teq hc11).2 k') ?_
          show own_Go p.tables e below _ (T3.setTop (mkF m 89 #[.val (.int m1), .val (.long n1), .second, .val (.int m2), .val (.long n2), .second, .val (.int sel), .val (.int bm), .val (.long bn), .second, .val (.int (((sel.toUInt32 >>> ((2 : Int32) &&& 31).toUInt32).toInt32) &&& (3 : Int32))), .val (.ref b1), .unset, .unset] []))
          refine own_st (fun _ k' => XS.aload X3.here hx rfl (hb hby at_89) rfl rfl k') ?_
          show own_Go p.tables e below _ (T3.setTop (mkF m 91 #[.val (.int m1), .val (.long n1), .second, .val (.int m2), .val (.long n2), .second, .val (.int sel), .val (.int bm), .val (.long bn), .second, .val (.int (((sel.toUInt32 >>> ((2 : Int32) &&& 31).toUInt32).toInt32) &&& (3 : Int32))), .val (.ref b1), .unset, .unset] [(.ref b1)]))
          refine own_st (fun _ k' => XS.iloadN X3.here hx rfl (hb hby at_91) rfl k') ?_
          show own_Go p.tables e below _ (T3.setTop (mkF m 92 #[.val (.int m1), .val (.long n1), .second, .val (.int m2), .val (.long n2), .second, .val (.int sel), .val (.int bm), .val (.long bn), .second, .val (.int (((sel.toUInt32 >>> ((2 : Int32) &&& 31).toUInt32).toInt32) &&& (3 : Int32))), .val (.ref b1), .unset, .unset] [(.int m1), (.ref b1)]))
          obtain ⟨_, _, ⟨T12, L12, k12, n12⟩, -, X12, ⟨Lc12, hQ12, l12, y12, z12⟩, st12⟩ := Jvm.LawKit.callS X3 hx (y := (⟨"java/lang/Integer", "valueOf", "(I)Ljava/lang/Integer;"⟩ : MethodName)) hown (mvT hZ (hw _ (List.mem_of_getElem? (i := 25) rfl))) (mvT hZ (hw _ (List.mem_of_getElem? (i := 26) rfl))) (mvT hZ (hw _ (List.mem_of_getElem? (i := 27) rfl))) (mvT hZ (hw _ (List.mem_of_getElem? (i := 28) rfl))) (by decide) (backOf (W := 1) (rmVI l Z a0 hw [] m1 ci cci vi T3.heap n0 Zc3 O__x4.2 BI SCI SHI) hZ (hw _ (List.mem_of_getElem? (i := 28) rfl)) (hw _ (List.mem_of_getElem? (i := 27) rfl)) (by decide) (by decide)) (g := (mkF m 92 #[.val (.int m1), .val (.long n1), .second, .val (.int m2), .val (.long n2), .second, .val (.int sel), .val (.int bm), .val (.long bn), .second, .val (.int (((sel.toUInt32 >>> ((2 : Int32) &&& 31).toUInt32).toInt32) &&& (3 : Int32))), .val (.ref b1), .unset, .unset] [(.int m1), (.ref b1)])) rfl (by rw [hml]; rfl) (argsL := [(.int m1)]) (rest := [(.ref b1)]) (lenOf pd__I_Ljava_lang_Integer_ rfl) rfl (by show 2 * 0 + _ ≤ _; exact Nat.le_of_eq rfl) (hb hby at_92) (fun _ _ => ⟨rfl, rfl, (by decide : 1 + 1 ≤ _), (by decide : 2 + 1 ≤ _)⟩)
          dsimp only [Pt.U, Pt.locs, Pt.cells, Pt.slots] at X12 l12 y12 z12 st12 hQ12
          subst l12 y12 z12
          obtain ⟨bx12, rfl, Nq12, Kc12, Ec12⟩ := hQ12
          have N12 := Fr.app N3 Nq12
          have O__x13 := O__x4.keep Kc12 all0
          have Ec3_x14 := Ec3.keep Kc12
          have Fa3_x15 := Fa3.keep Kc12 nin0
          have Fb3_x16 := Fb3.keep Kc12 nin0
          have Zc12 : n0 ≤ T12.heap.size := Nat.le_trans Zc3 Kc12.1
          refine own_st st12 ?_
          show own_Go p.tables e below _ (T12.setTop (mkF m 95 #[.val (.int m1), .val (.long n1), .second, .val (.int m2), .val (.long n2), .second, .val (.int sel), .val (.int bm), .val (.long bn), .second, .val (.int (((sel.toUInt32 >>> ((2 : Int32) &&& 31).toUInt32).toInt32) &&& (3 : Int32))), .val (.ref b1), .unset, .unset] [(.ref bx12), (.ref b1)]))
          obtain ⟨cq17, kq17, q17a, q17b, q17c⟩ := isOf hZ rfl Ec3_x14
          obtain ⟨_, _, ⟨T17, L17, k17, n17⟩, -, X17, ⟨Lc17, hQ17, l17, y17, z17⟩, st17⟩ := X12.virtualBack hx (y := (⟨"com/example/penumbra/penumbra/order/ClockedMulticast$MessageId", "equals", "(Ljava/lang/Object;)Z"⟩ : MethodName)) (z := (⟨"com/example/penumbra/penumbra/order/ClockedMulticast$MessageId", "equals", "(Ljava/lang/Object;)Z"⟩ : MethodName)) hown (mvT hZ (hw _ (List.mem_of_getElem? (i := 18) rfl))) (mvT hZ (hw _ (List.mem_of_getElem? (i := 19) rfl))) (notFace_of_selects (args := #[]) (mvT hZ (hw _ (List.mem_of_getElem? (i := 21) rfl)))) (mvT hZ (hw _ (List.mem_of_getElem? (i := 21) rfl))) (mvT hZ (hw _ (List.mem_of_getElem? (i := 20) rfl))) (by decide) (backOf (W := 0) (rmE1 l Z a0 hw [] b1 bx12 "java/lang/Integer" T12.heap n0 Zc12 Ec12 (own_no (hw _ (List.mem_of_getElem? (i := 32) rfl)) (hw _ (List.mem_of_getElem? (i := 1) rfl)) (NS.step (hw _ (List.mem_of_getElem? (i := 32) rfl)) (NS.step (hw _ (List.mem_of_getElem? (i := 33) rfl)) (own_root (hw _ (List.mem_of_getElem? (i := 34) rfl)) (hw _ (List.mem_of_getElem? (i := 1) rfl)) (by decide)) (by decide)) (by decide)) (by decide))) hZ (hw _ (List.mem_of_getElem? (i := 22) rfl)) (hw _ (List.mem_of_getElem? (i := 2) rfl)) (by decide) (by decide)) q17a q17c (g := (mkF m 95 #[.val (.int m1), .val (.long n1), .second, .val (.int m2), .val (.long n2), .second, .val (.int sel), .val (.int bm), .val (.long bn), .second, .val (.int (((sel.toUInt32 >>> ((2 : Int32) &&& 31).toUInt32).toInt32) &&& (3 : Int32))), .val (.ref b1), .unset, .unset] [(.ref bx12), (.ref b1)])) rfl (by rw [hml]; rfl) (Steps.refl _) (argsL := [(.ref bx12)]) (rest := []) (lenOf pd__Ljava_lang_Object__Z rfl) rfl (by show 2 * 0 + _ ≤ _; exact Nat.le_of_eq rfl) (hb hby at_95) (fun _ _ => ⟨rfl, rfl, (by decide : 2 + 0 ≤ _), (by decide : 3 + 0 ≤ _)⟩)
          dsimp only [Pt.U, Pt.locs, Pt.cells, Pt.slots] at X17 l17 y17 z17 st17 hQ17
          subst l17 y17 z17
          obtain ⟨rfl, Nq17, e17⟩ := hQ17
          have N17 := Fr.app N12 Nq17
          refine own_tr st17 ?_
          show own_Go p.tables e below _ (T17.setTop (mkF m 98 #[.val (.int m1), .val (.long n1), .second, .val (.int m2), .val (.long n2), .second, .val (.int sel), .val (.int bm), .val (.long bn), .second, .val (.int (((sel.toUInt32 >>> ((2 : Int32) &&& 31).toUInt32).toInt32) &&& (3 : Int32))), .val (.ref b1), .unset, .unset] [(.int (0 : Int32))]))
          refine own_st (fun _ k' => XS.ifNo X17.here hx rfl (hb hby at_98) rfl ((if0 _ _).trans (teq (by decide : (0 : Int32) = (0 : Int32))).2) k') ?_
          show own_Go p.tables e below _ (T17.setTop (mkF m 101 #[.val (.int m1), .val (.long n1), .second, .val (.int m2), .val (.long n2), .second, .val (.int sel), .val (.int bm), .val (.long bn), .second, .val (.int (((sel.toUInt32 >>> ((2 : Int32) &&& 31).toUInt32).toInt32) &&& (3 : Int32))), .val (.ref b1), .unset, .unset] []))
          refine own_st (fun _ k' => XS.iconst X17.here hx rfl (hb hby at_101) k') ?_
          show own_Go p.tables e below _ (T17.setTop (mkF m 102 #[.val (.int m1), .val (.long n1), .second, .val (.int m2), .val (.long n2), .second, .val (.int sel), .val (.int bm), .val (.long bn), .second, .val (.int (((sel.toUInt32 >>> ((2 : Int32) &&& 31).toUInt32).toInt32) &&& (3 : Int32))), .val (.ref b1), .unset, .unset] [(.int (1 : Int32))]))
          refine own_st (fun _ k' => XS.goto X17.here hx rfl (pc0 := 102) (pc' := 106) rfl (hb hby at_102) (by decide) (by decide) k') ?_
          show own_Go p.tables e below _ (T17.setTop (mkF m 106 #[.val (.int m1), .val (.long n1), .second, .val (.int m2), .val (.long n2), .second, .val (.int sel), .val (.int bm), .val (.long bn), .second, .val (.int (((sel.toUInt32 >>> ((2 : Int32) &&& 31).toUInt32).toInt32) &&& (3 : Int32))), .val (.ref b1), .unset, .unset] [(.int (1 : Int32))]))
          exact own_retN X17 hx (t := .boolean) Bd.returns (by simp) (hb hby at_106) Bd.notSynchronized ⟨rfl, N17⟩ (by decide) (by decide)
        ·  -- pc 86, not (((sel.toUInt32 >>> ((2 : Int32) &&& 31).toUInt32).toInt32) &&& (3 : Int32)) = (2 : Int32)
          refine own_st (fun _ k' => XS.icmpYes X3.here hx rfl (pc0 := 86) (pc' := 107) rfl (hb hby at_86) rfl (feq hc11).2 (by decide) (by decide) k') ?_
          show own_Go p.tables e below _ (T3.setTop (mkF m 107 #[.val (.int m1), .val (.long n1), .second, .val (.int m2), .val (.long n2), .second, .val (.int sel), .val (.int bm), .val (.long bn), .second, .val (.int (((sel.toUInt32 >>> ((2 : Int32) &&& 31).toUInt32).toInt32) &&& (3 : Int32))), .val (.ref b1), .unset, .unset] []))
          refine own_st (fun _ k' => XS.iload X3.here hx rfl (hb hby at_107) rfl k') ?_
          show own_Go p.tables e below _ (T3.setTop (mkF m 109 #[.val (.int m1), .val (.long n1), .second, .val (.int m2), .val (.long n2), .second, .val (.int sel), .val (.int bm), .val (.long bn), .second, .val (.int (((sel.toUInt32 >>> ((2 : Int32) &&& 31).toUInt32).toInt32) &&& (3 : Int32))), .val (.ref b1), .unset, .unset] [(.int (((sel.toUInt32 >>> ((2 : Int32) &&& 31).toUInt32).toInt32) &&& (3 : Int32)))]))
          refine own_st (fun _ k' => XS.iconst X3.here hx rfl (hb hby at_109) k') ?_
          show own_Go p.tables e below _ (T3.setTop (mkF m 110 #[.val (.int m1), .val (.long n1), .second, .val (.int m2), .val (.long n2), .second, .val (.int sel), .val (.int bm), .val (.long bn), .second, .val (.int (((sel.toUInt32 >>> ((2 : Int32) &&& 31).toUInt32).toInt32) &&& (3 : Int32))), .val (.ref b1), .unset, .unset] [(.int (3 : Int32)), (.int (((sel.toUInt32 >>> ((2 : Int32) &&& 31).toUInt32).toInt32) &&& (3 : Int32)))]))
          by_cases hc18 : (((sel.toUInt32 >>> ((2 : Int32) &&& 31).toUInt32).toInt32) &&& (3 : Int32)) = (3 : Int32)
          ·  -- pc 110, (((sel.toUInt32 >>> ((2 : Int32) &&& 31).toUInt32).toInt32) &&& (3 : Int32)) = (3 : Int32)
            refine own_st (fun _ k' => XS.icmpNo X3.here hx rfl (hb hby at_110) rfl (teq hc18).2 k') ?_
            show own_Go p.tables e below _ (T3.setTop (mkF m 113 #[.val (.int m1), .val (.long n1), .second, .val (.int m2), .val (.long n2), .second, .val (.int sel), .val (.int bm), .val (.long bn), .second, .val (.int (((sel.toUInt32 >>> ((2 : Int32) &&& 31).toUInt32).toInt32) &&& (3 : Int32))), .val (.ref b1), .unset, .unset] []))
            refine own_st (fun _ k' => XS.aload X3.here hx rfl (hb hby at_113) rfl rfl k') ?_
            show own_Go p.tables e below _ (T3.setTop (mkF m 115 #[.val (.int m1), .val (.long n1), .second, .val (.int m2), .val (.long n2), .second, .val (.int sel), .val (.int bm), .val (.long bn), .second, .val (.int (((sel.toUInt32 >>> ((2 : Int32) &&& 31).toUInt32).toInt32) &&& (3 : Int32))), .val (.ref b1), .unset, .unset] [(.ref b1)]))
            refine own_st (fun _ k' => XS.lloadN X3.here hx rfl (hb hby at_115) rfl k') ?_
            show own_Go p.tables e below _ (T3.setTop (mkF m 116 #[.val (.int m1), .val (.long n1), .second, .val (.int m2), .val (.long n2), .second, .val (.int sel), .val (.int bm), .val (.long bn), .second, .val (.int (((sel.toUInt32 >>> ((2 : Int32) &&& 31).toUInt32).toInt32) &&& (3 : Int32))), .val (.ref b1), .unset, .unset] [(.long n1), (.ref b1)]))
            obtain ⟨_, _, ⟨T19, L19, k19, n19⟩, -, X19, ⟨Lc19, hQ19, l19, y19, z19⟩, st19⟩ := Jvm.LawKit.callS X3 hx (y := (⟨"java/lang/Long", "valueOf", "(J)Ljava/lang/Long;"⟩ : MethodName)) hown (mvT hZ (hw _ (List.mem_of_getElem? (i := 35) rfl))) (mvT hZ (hw _ (List.mem_of_getElem? (i := 36) rfl))) (mvT hZ (hw _ (List.mem_of_getElem? (i := 37) rfl))) (mvT hZ (hw _ (List.mem_of_getElem? (i := 38) rfl))) (by decide) (backOf (W := 1) (rmVJ l Z a0 hw [] n1 cj ccj vj T3.heap n0 Zc3 O__x4.2 BJ SCJ) hZ (hw _ (List.mem_of_getElem? (i := 38) rfl)) (hw _ (List.mem_of_getElem? (i := 37) rfl)) (by decide) (by decide)) (g := (mkF m 116 #[.val (.int m1), .val (.long n1), .second, .val (.int m2), .val (.long n2), .second, .val (.int sel), .val (.int bm), .val (.long bn), .second, .val (.int (((sel.toUInt32 >>> ((2 : Int32) &&& 31).toUInt32).toInt32) &&& (3 : Int32))), .val (.ref b1), .unset, .unset] [(.long n1), (.ref b1)])) rfl (by rw [hml]; rfl) (argsL := [(.long n1)]) (rest := [(.ref b1)]) (lenOf pd__J_Ljava_lang_Long_ rfl) rfl (by show 2 * 0 + _ ≤ _; exact Nat.le_of_eq rfl) (hb hby at_116) (fun _ _ => ⟨rfl, rfl, (by decide : 1 + 1 ≤ _), (by decide : 2 + 1 ≤ _)⟩)
            dsimp only [Pt.U, Pt.locs, Pt.cells, Pt.slots] at X19 l19 y19 z19 st19 hQ19
            subst l19 y19 z19
            obtain ⟨bx19, rfl, Nq19, Kc19, Ec19⟩ := hQ19
            have N19 := Fr.app N3 Nq19
            have O__x20 := O__x4.keep Kc19 all0
            have Ec3_x21 := Ec3.keep Kc19
            have Fa3_x22 := Fa3.keep Kc19 nin0
            have Fb3_x23 := Fb3.keep Kc19 nin0
            have Zc19 : n0 ≤ T19.heap.size := Nat.le_trans Zc3 Kc19.1
            refine own_st st19 ?_
            show own_Go p.tables e below _ (T19.setTop (mkF m 119 #[.val (.int m1), .val (.long n1), .second, .val (.int m2), .val (.long n2), .second, .val (.int sel), .val (.int bm), .val (.long bn), .second, .val (.int (((sel.toUInt32 >>> ((2 : Int32) &&& 31).toUInt32).toInt32) &&& (3 : Int32))), .val (.ref b1), .unset, .unset] [(.ref bx19), (.ref b1)]))
            obtain ⟨cq24, kq24, q24a, q24b, q24c⟩ := isOf hZ rfl Ec3_x21
            obtain ⟨_, _, ⟨T24, L24, k24, n24⟩, -, X24, ⟨Lc24, hQ24, l24, y24, z24⟩, st24⟩ := X19.virtualBack hx (y := (⟨"com/example/penumbra/penumbra/order/ClockedMulticast$MessageId", "equals", "(Ljava/lang/Object;)Z"⟩ : MethodName)) (z := (⟨"com/example/penumbra/penumbra/order/ClockedMulticast$MessageId", "equals", "(Ljava/lang/Object;)Z"⟩ : MethodName)) hown (mvT hZ (hw _ (List.mem_of_getElem? (i := 18) rfl))) (mvT hZ (hw _ (List.mem_of_getElem? (i := 19) rfl))) (notFace_of_selects (args := #[]) (mvT hZ (hw _ (List.mem_of_getElem? (i := 21) rfl)))) (mvT hZ (hw _ (List.mem_of_getElem? (i := 21) rfl))) (mvT hZ (hw _ (List.mem_of_getElem? (i := 20) rfl))) (by decide) (backOf (W := 0) (rmE1 l Z a0 hw [] b1 bx19 "java/lang/Long" T19.heap n0 Zc19 Ec19 (own_no (hw _ (List.mem_of_getElem? (i := 56) rfl)) (hw _ (List.mem_of_getElem? (i := 1) rfl)) (NS.step (hw _ (List.mem_of_getElem? (i := 56) rfl)) (NS.step (hw _ (List.mem_of_getElem? (i := 33) rfl)) (own_root (hw _ (List.mem_of_getElem? (i := 34) rfl)) (hw _ (List.mem_of_getElem? (i := 1) rfl)) (by decide)) (by decide)) (by decide)) (by decide))) hZ (hw _ (List.mem_of_getElem? (i := 22) rfl)) (hw _ (List.mem_of_getElem? (i := 2) rfl)) (by decide) (by decide)) q24a q24c (g := (mkF m 119 #[.val (.int m1), .val (.long n1), .second, .val (.int m2), .val (.long n2), .second, .val (.int sel), .val (.int bm), .val (.long bn), .second, .val (.int (((sel.toUInt32 >>> ((2 : Int32) &&& 31).toUInt32).toInt32) &&& (3 : Int32))), .val (.ref b1), .unset, .unset] [(.ref bx19), (.ref b1)])) rfl (by rw [hml]; rfl) (Steps.refl _) (argsL := [(.ref bx19)]) (rest := []) (lenOf pd__Ljava_lang_Object__Z rfl) rfl (by show 2 * 0 + _ ≤ _; exact Nat.le_of_eq rfl) (hb hby at_119) (fun _ _ => ⟨rfl, rfl, (by decide : 2 + 0 ≤ _), (by decide : 3 + 0 ≤ _)⟩)
            dsimp only [Pt.U, Pt.locs, Pt.cells, Pt.slots] at X24 l24 y24 z24 st24 hQ24
            subst l24 y24 z24
            obtain ⟨rfl, Nq24, e24⟩ := hQ24
            have N24 := Fr.app N19 Nq24
            refine own_tr st24 ?_
            show own_Go p.tables e below _ (T24.setTop (mkF m 122 #[.val (.int m1), .val (.long n1), .second, .val (.int m2), .val (.long n2), .second, .val (.int sel), .val (.int bm), .val (.long bn), .second, .val (.int (((sel.toUInt32 >>> ((2 : Int32) &&& 31).toUInt32).toInt32) &&& (3 : Int32))), .val (.ref b1), .unset, .unset] [(.int (0 : Int32))]))
            refine own_st (fun _ k' => XS.ifNo X24.here hx rfl (hb hby at_122) rfl ((if0 _ _).trans (teq (by decide : (0 : Int32) = (0 : Int32))).2) k') ?_
            show own_Go p.tables e below _ (T24.setTop (mkF m 125 #[.val (.int m1), .val (.long n1), .second, .val (.int m2), .val (.long n2), .second, .val (.int sel), .val (.int bm), .val (.long bn), .second, .val (.int (((sel.toUInt32 >>> ((2 : Int32) &&& 31).toUInt32).toInt32) &&& (3 : Int32))), .val (.ref b1), .unset, .unset] []))
            refine own_st (fun _ k' => XS.iconst X24.here hx rfl (hb hby at_125) k') ?_
            show own_Go p.tables e below _ (T24.setTop (mkF m 126 #[.val (.int m1), .val (.long n1), .second, .val (.int m2), .val (.long n2), .second, .val (.int sel), .val (.int bm), .val (.long bn), .second, .val (.int (((sel.toUInt32 >>> ((2 : Int32) &&& 31).toUInt32).toInt32) &&& (3 : Int32))), .val (.ref b1), .unset, .unset] [(.int (1 : Int32))]))
            refine own_st (fun _ k' => XS.goto X24.here hx rfl (pc0 := 126) (pc' := 130) rfl (hb hby at_126) (by decide) (by decide) k') ?_
            show own_Go p.tables e below _ (T24.setTop (mkF m 130 #[.val (.int m1), .val (.long n1), .second, .val (.int m2), .val (.long n2), .second, .val (.int sel), .val (.int bm), .val (.long bn), .second, .val (.int (((sel.toUInt32 >>> ((2 : Int32) &&& 31).toUInt32).toInt32) &&& (3 : Int32))), .val (.ref b1), .unset, .unset] [(.int (1 : Int32))]))
            exact own_retN X24 hx (t := .boolean) Bd.returns (by simp) (hb hby at_130) Bd.notSynchronized ⟨rfl, N24⟩ (by decide) (by decide)
          ·  -- pc 110, not (((sel.toUInt32 >>> ((2 : Int32) &&& 31).toUInt32).toInt32) &&& (3 : Int32)) = (3 : Int32)
            refine own_st (fun _ k' => XS.icmpYes X3.here hx rfl (pc0 := 110) (pc' := 131) rfl (hb hby at_110) rfl (feq hc18).2 (by decide) (by decide) k') ?_
            show own_Go p.tables e below _ (T3.setTop (mkF m 131 #[.val (.int m1), .val (.long n1), .second, .val (.int m2), .val (.long n2), .second, .val (.int sel), .val (.int bm), .val (.long bn), .second, .val (.int (((sel.toUInt32 >>> ((2 : Int32) &&& 31).toUInt32).toInt32) &&& (3 : Int32))), .val (.ref b1), .unset, .unset] []))
            obtain ⟨T25, h25, X25, e25, E25, A25, D25, -, st25⟩ := newO X3 hx hZ hown (hw _ (List.mem_of_getElem? (i := 0) rfl)) (hw _ (List.mem_of_getElem? (i := 1) rfl)) (hw _ (List.mem_of_getElem? (i := 2) rfl)) rfl (g := (mkF m 131 #[.val (.int m1), .val (.long n1), .second, .val (.int m2), .val (.long n2), .second, .val (.int sel), .val (.int bm), .val (.long bn), .second, .val (.int (((sel.toUInt32 >>> ((2 : Int32) &&& 31).toUInt32).toInt32) &&& (3 : Int32))), .val (.ref b1), .unset, .unset] [])) rfl (hb hby at_131) (by decide) (by decide)
            obtain ⟨b25, g25⟩ : ∃ z, z = T3.heap.size := ⟨_, rfl⟩
            rw [← g25] at A25 D25 st25
            have g_b25 : n0 ≤ b25 := Nat.le_trans Zc3 (Nat.le_of_eq g25.symm)
            have ne_b1_b25 : b1 ≠ b25 := Nat.ne_of_lt (Nat.lt_of_lt_of_le Ec3.lt (Nat.le_of_eq g25.symm))
            have O__x26 := O__x4.ext E25
            have Ec3_x27 := Ec3.ext E25
            have Fa3_x28 := Fa3.ext E25
            have Fb3_x29 := Fb3.ext E25
            have ZE25 : n0 ≤ h25.size := Nat.le_trans Zc3 E25.1
            have F_sender_b25 : Fld Z h25 b25 "com/example/penumbra/penumbra/order/ClockedMulticast$MessageId" "sender" "I" (.int (0 : Int32)) := D25 (Or.inr (hw _ (List.mem_of_getElem? (i := 15) rfl))) (ty := .int) (by decide)
            have F_number_b25 : Fld Z h25 b25 "com/example/penumbra/penumbra/order/ClockedMulticast$MessageId" "number" "J" (.long (0 : Int64)) := D25 (Or.inr (hw _ (List.mem_of_getElem? (i := 17) rfl))) (ty := .long) (by decide)
            refine own_st st25 ?_
            show own_Go p.tables e below _ (T25.setTop (mkF m 134 #[.val (.int m1), .val (.long n1), .second, .val (.int m2), .val (.long n2), .second, .val (.int sel), .val (.int bm), .val (.long bn), .second, .val (.int (((sel.toUInt32 >>> ((2 : Int32) &&& 31).toUInt32).toInt32) &&& (3 : Int32))), .val (.ref b1), .unset, .unset] [(.ref b25)]))
            refine own_st (fun _ k' => XS.dup X25.here hx rfl (hb hby at_134) rfl rfl k') ?_
            show own_Go p.tables e below _ (T25.setTop (mkF m 135 #[.val (.int m1), .val (.long n1), .second, .val (.int m2), .val (.long n2), .second, .val (.int sel), .val (.int bm), .val (.long bn), .second, .val (.int (((sel.toUInt32 >>> ((2 : Int32) &&& 31).toUInt32).toInt32) &&& (3 : Int32))), .val (.ref b1), .unset, .unset] [(.ref b25), (.ref b25)]))
            refine own_st (fun _ k' => XS.iload X25.here hx rfl (hb hby at_135) rfl k') ?_
            show own_Go p.tables e below _ (T25.setTop (mkF m 137 #[.val (.int m1), .val (.long n1), .second, .val (.int m2), .val (.long n2), .second, .val (.int sel), .val (.int bm), .val (.long bn), .second, .val (.int (((sel.toUInt32 >>> ((2 : Int32) &&& 31).toUInt32).toInt32) &&& (3 : Int32))), .val (.ref b1), .unset, .unset] [(.int bm), (.ref b25), (.ref b25)]))
            refine own_st (fun _ k' => XS.lload X25.here hx rfl (hb hby at_137) rfl k') ?_
            show own_Go p.tables e below _ (T25.setTop (mkF m 139 #[.val (.int m1), .val (.long n1), .second, .val (.int m2), .val (.long n2), .second, .val (.int sel), .val (.int bm), .val (.long bn), .second, .val (.int (((sel.toUInt32 >>> ((2 : Int32) &&& 31).toUInt32).toInt32) &&& (3 : Int32))), .val (.ref b1), .unset, .unset] [(.long bn), (.int bm), (.ref b25), (.ref b25)]))
            obtain ⟨_, _, ⟨T30, L30, k30, n30⟩, -, X30, ⟨Lc30, hQ30, l30, y30, z30⟩, st30⟩ := X25.specialBack hx (y := (⟨"com/example/penumbra/penumbra/order/ClockedMulticast$MessageId", "<init>", "(IJ)V"⟩ : MethodName)) rfl hown (mvT hZ (hw _ (List.mem_of_getElem? (i := 3) rfl))) (mvT hZ (hw _ (List.mem_of_getElem? (i := 4) rfl))) (mvT hZ (hw _ (List.mem_of_getElem? (i := 5) rfl))) (by decide) (backOf (W := 1) (rmN l Z a0 hw [] b25 bm bn h25 n0 ZE25 A25 F_sender_b25 F_number_b25 g_b25) hZ (hw _ (List.mem_of_getElem? (i := 5) rfl)) (hw _ (List.mem_of_getElem? (i := 2) rfl)) (by decide) (by decide)) (g := (mkF m 139 #[.val (.int m1), .val (.long n1), .second, .val (.int m2), .val (.long n2), .second, .val (.int sel), .val (.int bm), .val (.long bn), .second, .val (.int (((sel.toUInt32 >>> ((2 : Int32) &&& 31).toUInt32).toInt32) &&& (3 : Int32))), .val (.ref b1), .unset, .unset] [(.long bn), (.int bm), (.ref b25), (.ref b25)])) rfl (by rw [hml]; rfl) (Steps.refl _) (a := b25) (argsL := [(.int bm), (.long bn)]) (rest := [(.ref b25)]) (lenOf pd__IJ_V rfl) rfl (by show 2 * 0 + _ ≤ _; exact Nat.le_of_eq rfl) (hb hby at_139) (fun _ _ => ⟨rfl, e25, (by decide : 2 + 0 ≤ _), (by decide : 4 + 0 ≤ _)⟩)
            dsimp only [Pt.U, Pt.locs, Pt.cells, Pt.slots] at X30 l30 y30 z30 st30 hQ30
            subst l30 y30 z30
            obtain ⟨rfl, Nq30, Kc30, Ec30, Fa30, Fb30⟩ := hQ30
            have N30 := Fr.app N3 Nq30
            have O__x31 := O__x26.keep Kc30 (allS g_b25 all0)
            have Ec3_x32 := Ec3_x27.keep Kc30
            have Fa3_x33 := Fa3_x28.keep Kc30 (ninS ne_b1_b25 nin0)
            have Fb3_x34 := Fb3_x29.keep Kc30 (ninS ne_b1_b25 nin0)
            have A25_x35 := A25.keep Kc30
            have Zc30 : n0 ≤ T30.heap.size := Nat.le_trans ZE25 Kc30.1
            refine own_tr st30 ?_
            show own_Go p.tables e below _ (T30.setTop (mkF m 142 #[.val (.int m1), .val (.long n1), .second, .val (.int m2), .val (.long n2), .second, .val (.int sel), .val (.int bm), .val (.long bn), .second, .val (.int (((sel.toUInt32 >>> ((2 : Int32) &&& 31).toUInt32).toInt32) &&& (3 : Int32))), .val (.ref b1), .unset, .unset] [(.ref b25)]))
            refine own_st (fun _ k' => XS.astore X30.here hx rfl (hb hby at_142) rfl rfl (l' := #[.val (.int m1), .val (.long n1), .second, .val (.int m2), .val (.long n2), .second, .val (.int sel), .val (.int bm), .val (.long bn), .second, .val (.int (((sel.toUInt32 >>> ((2 : Int32) &&& 31).toUInt32).toInt32) &&& (3 : Int32))), .val (.ref b1), .val (.ref b25), .unset]) rfl k') ?_
            show own_Go p.tables e below _ (T30.setTop (mkF m 144 #[.val (.int m1), .val (.long n1), .second, .val (.int m2), .val (.long n2), .second, .val (.int sel), .val (.int bm), .val (.long bn), .second, .val (.int (((sel.toUInt32 >>> ((2 : Int32) &&& 31).toUInt32).toInt32) &&& (3 : Int32))), .val (.ref b1), .val (.ref b25), .unset] []))
            refine own_st (fun _ k' => XS.iloadN X30.here hx rfl (hb hby at_144) rfl k') ?_
            show own_Go p.tables e below _ (T30.setTop (mkF m 145 #[.val (.int m1), .val (.long n1), .second, .val (.int m2), .val (.long n2), .second, .val (.int sel), .val (.int bm), .val (.long bn), .second, .val (.int (((sel.toUInt32 >>> ((2 : Int32) &&& 31).toUInt32).toInt32) &&& (3 : Int32))), .val (.ref b1), .val (.ref b25), .unset] [(.int m1)]))
            refine own_st (fun _ k' => XS.iload X30.here hx rfl (hb hby at_145) rfl k') ?_
            show own_Go p.tables e below _ (T30.setTop (mkF m 147 #[.val (.int m1), .val (.long n1), .second, .val (.int m2), .val (.long n2), .second, .val (.int sel), .val (.int bm), .val (.long bn), .second, .val (.int (((sel.toUInt32 >>> ((2 : Int32) &&& 31).toUInt32).toInt32) &&& (3 : Int32))), .val (.ref b1), .val (.ref b25), .unset] [(.int bm), (.int m1)]))
            by_cases hc38 : m1 = bm
            ·  -- pc 147, m1 = bm
              refine own_st (fun _ k' => XS.icmpNo X30.here hx rfl (hb hby at_147) rfl (teq hc38).2 k') ?_
              show own_Go p.tables e below _ (T30.setTop (mkF m 150 #[.val (.int m1), .val (.long n1), .second, .val (.int m2), .val (.long n2), .second, .val (.int sel), .val (.int bm), .val (.long bn), .second, .val (.int (((sel.toUInt32 >>> ((2 : Int32) &&& 31).toUInt32).toInt32) &&& (3 : Int32))), .val (.ref b1), .val (.ref b25), .unset] []))
              refine own_st (fun _ k' => XS.lloadN X30.here hx rfl (hb hby at_150) rfl k') ?_
              show own_Go p.tables e below _ (T30.setTop (mkF m 151 #[.val (.int m1), .val (.long n1), .second, .val (.int m2), .val (.long n2), .second, .val (.int sel), .val (.int bm), .val (.long bn), .second, .val (.int (((sel.toUInt32 >>> ((2 : Int32) &&& 31).toUInt32).toInt32) &&& (3 : Int32))), .val (.ref b1), .val (.ref b25), .unset] [(.long n1)]))
              refine own_st (fun _ k' => XS.lload X30.here hx rfl (hb hby at_151) rfl k') ?_
              show own_Go p.tables e below _ (T30.setTop (mkF m 153 #[.val (.int m1), .val (.long n1), .second, .val (.int m2), .val (.long n2), .second, .val (.int sel), .val (.int bm), .val (.long bn), .second, .val (.int (((sel.toUInt32 >>> ((2 : Int32) &&& 31).toUInt32).toInt32) &&& (3 : Int32))), .val (.ref b1), .val (.ref b25), .unset] [(.long bn), (.long n1)]))
              refine own_st (fun _ k' => XS.lcmp X30.here hx rfl (hb hby at_153) rfl k') ?_
              show own_Go p.tables e below _ (T30.setTop (mkF m 154 #[.val (.int m1), .val (.long n1), .second, .val (.int m2), .val (.long n2), .second, .val (.int sel), .val (.int bm), .val (.long bn), .second, .val (.int (((sel.toUInt32 >>> ((2 : Int32) &&& 31).toUInt32).toInt32) &&& (3 : Int32))), .val (.ref b1), .val (.ref b25), .unset] [(.int (lcmpW n1 bn))]))
              by_cases hc39 : n1 = bn
              ·  -- pc 154, n1 = bn
                refine own_st (fun _ k' => XS.ifNo X30.here hx rfl (hb hby at_154) rfl ((if0 _ _).trans (teq ((lw_eq n1 bn).mpr hc39)).2) k') ?_
                show own_Go p.tables e below _ (T30.setTop (mkF m 157 #[.val (.int m1), .val (.long n1), .second, .val (.int m2), .val (.long n2), .second, .val (.int sel), .val (.int bm), .val (.long bn), .second, .val (.int (((sel.toUInt32 >>> ((2 : Int32) &&& 31).toUInt32).toInt32) &&& (3 : Int32))), .val (.ref b1), .val (.ref b25), .unset] []))
                refine own_st (fun _ k' => XS.iconst X30.here hx rfl (hb hby at_157) k') ?_
                show own_Go p.tables e below _ (T30.setTop (mkF m 158 #[.val (.int m1), .val (.long n1), .second, .val (.int m2), .val (.long n2), .second, .val (.int sel), .val (.int bm), .val (.long bn), .second, .val (.int (((sel.toUInt32 >>> ((2 : Int32) &&& 31).toUInt32).toInt32) &&& (3 : Int32))), .val (.ref b1), .val (.ref b25), .unset] [(.int (1 : Int32))]))
                refine own_st (fun _ k' => XS.goto X30.here hx rfl (pc0 := 158) (pc' := 162) rfl (hb hby at_158) (by decide) (by decide) k') ?_
                show own_Go p.tables e below _ (T30.setTop (mkF m 162 #[.val (.int m1), .val (.long n1), .second, .val (.int m2), .val (.long n2), .second, .val (.int sel), .val (.int bm), .val (.long bn), .second, .val (.int (((sel.toUInt32 >>> ((2 : Int32) &&& 31).toUInt32).toInt32) &&& (3 : Int32))), .val (.ref b1), .val (.ref b25), .unset] [(.int (1 : Int32))]))
                refine own_st (fun _ k' => XS.istore X30.here hx rfl (hb hby at_162) rfl (l' := #[.val (.int m1), .val (.long n1), .second, .val (.int m2), .val (.long n2), .second, .val (.int sel), .val (.int bm), .val (.long bn), .second, .val (.int (((sel.toUInt32 >>> ((2 : Int32) &&& 31).toUInt32).toInt32) &&& (3 : Int32))), .val (.ref b1), .val (.ref b25), .val (.int (1 : Int32))]) rfl k') ?_
                show own_Go p.tables e below _ (T30.setTop (mkF m 164 #[.val (.int m1), .val (.long n1), .second, .val (.int m2), .val (.long n2), .second, .val (.int sel), .val (.int bm), .val (.long bn), .second, .val (.int (((sel.toUInt32 >>> ((2 : Int32) &&& 31).toUInt32).toInt32) &&& (3 : Int32))), .val (.ref b1), .val (.ref b25), .val (.int (1 : Int32))] []))
                refine own_st (fun _ k' => XS.aload X30.here hx rfl (hb hby at_164) rfl rfl k') ?_
                show own_Go p.tables e below _ (T30.setTop (mkF m 166 #[.val (.int m1), .val (.long n1), .second, .val (.int m2), .val (.long n2), .second, .val (.int sel), .val (.int bm), .val (.long bn), .second, .val (.int (((sel.toUInt32 >>> ((2 : Int32) &&& 31).toUInt32).toInt32) &&& (3 : Int32))), .val (.ref b1), .val (.ref b25), .val (.int (1 : Int32))] [(.ref b1)]))
                refine own_st (fun _ k' => XS.aload X30.here hx rfl (hb hby at_166) rfl rfl k') ?_
                show own_Go p.tables e below _ (T30.setTop (mkF m 168 #[.val (.int m1), .val (.long n1), .second, .val (.int m2), .val (.long n2), .second, .val (.int sel), .val (.int bm), .val (.long bn), .second, .val (.int (((sel.toUInt32 >>> ((2 : Int32) &&& 31).toUInt32).toInt32) &&& (3 : Int32))), .val (.ref b1), .val (.ref b25), .val (.int (1 : Int32))] [(.ref b25), (.ref b1)]))
                obtain ⟨cq40, kq40, q40a, q40b, q40c⟩ := isOf hZ rfl Ec3_x32
                obtain ⟨_, _, ⟨T40, L40, k40, n40⟩, -, X40, ⟨Lc40, hQ40, l40, y40, z40⟩, st40⟩ := X30.virtualBack hx (y := (⟨"com/example/penumbra/penumbra/order/ClockedMulticast$MessageId", "equals", "(Ljava/lang/Object;)Z"⟩ : MethodName)) (z := (⟨"com/example/penumbra/penumbra/order/ClockedMulticast$MessageId", "equals", "(Ljava/lang/Object;)Z"⟩ : MethodName)) hown (mvT hZ (hw _ (List.mem_of_getElem? (i := 18) rfl))) (mvT hZ (hw _ (List.mem_of_getElem? (i := 19) rfl))) (notFace_of_selects (args := #[]) (mvT hZ (hw _ (List.mem_of_getElem? (i := 21) rfl)))) (mvT hZ (hw _ (List.mem_of_getElem? (i := 21) rfl))) (mvT hZ (hw _ (List.mem_of_getElem? (i := 20) rfl))) (by decide) (backOf (W := 0) (rmE2 l Z a0 hw [] b1 b25 m1 n1 bm bn T30.heap n0 Zc30 Ec30 Fa3_x33 Fb3_x34 Fa30 Fb30) hZ (hw _ (List.mem_of_getElem? (i := 22) rfl)) (hw _ (List.mem_of_getElem? (i := 2) rfl)) (by decide) (by decide)) q40a q40c (g := (mkF m 168 #[.val (.int m1), .val (.long n1), .second, .val (.int m2), .val (.long n2), .second, .val (.int sel), .val (.int bm), .val (.long bn), .second, .val (.int (((sel.toUInt32 >>> ((2 : Int32) &&& 31).toUInt32).toInt32) &&& (3 : Int32))), .val (.ref b1), .val (.ref b25), .val (.int (1 : Int32))] [(.ref b25), (.ref b1)])) rfl (by rw [hml]; rfl) (Steps.refl _) (argsL := [(.ref b25)]) (rest := []) (lenOf pd__Ljava_lang_Object__Z rfl) rfl (by show 2 * 0 + _ ≤ _; exact Nat.le_of_eq rfl) (hb hby at_168) (fun _ _ => ⟨rfl, rfl, (by decide : 2 + 0 ≤ _), (by decide : 4 + 0 ≤ _)⟩)
                dsimp only [Pt.U, Pt.locs, Pt.cells, Pt.slots] at X40 l40 y40 z40 st40 hQ40
                subst l40 y40 z40
                obtain ⟨rfl, Nq40, e40⟩ := hQ40
                have N40 := Fr.app N30 Nq40
                refine own_tr st40 ?_
                show own_Go p.tables e below _ (T40.setTop (mkF m 171 #[.val (.int m1), .val (.long n1), .second, .val (.int m2), .val (.long n2), .second, .val (.int sel), .val (.int bm), .val (.long bn), .second, .val (.int (((sel.toUInt32 >>> ((2 : Int32) &&& 31).toUInt32).toInt32) &&& (3 : Int32))), .val (.ref b1), .val (.ref b25), .val (.int (1 : Int32))] [(.int (own_e bm m1 bn n1))]))
                refine own_st (fun _ k' => XS.iload X40.here hx rfl (hb hby at_171) rfl k') ?_
                show own_Go p.tables e below _ (T40.setTop (mkF m 173 #[.val (.int m1), .val (.long n1), .second, .val (.int m2), .val (.long n2), .second, .val (.int sel), .val (.int bm), .val (.long bn), .second, .val (.int (((sel.toUInt32 >>> ((2 : Int32) &&& 31).toUInt32).toInt32) &&& (3 : Int32))), .val (.ref b1), .val (.ref b25), .val (.int (1 : Int32))] [(.int (1 : Int32)), (.int (own_e bm m1 bn n1))]))
                refine own_st (fun _ k' => XS.icmpNo X40.here hx rfl (hb hby at_173) rfl (teq (by simp [own_e, hc38, hc39])).2 k') ?_
                show own_Go p.tables e below _ (T40.setTop (mkF m 176 #[.val (.int m1), .val (.long n1), .second, .val (.int m2), .val (.long n2), .second, .val (.int sel), .val (.int bm), .val (.long bn), .second, .val (.int (((sel.toUInt32 >>> ((2 : Int32) &&& 31).toUInt32).toInt32) &&& (3 : Int32))), .val (.ref b1), .val (.ref b25), .val (.int (1 : Int32))] []))
                refine own_st (fun _ k' => XS.aload X40.here hx rfl (hb hby at_176) rfl rfl k') ?_
                show own_Go p.tables e below _ (T40.setTop (mkF m 178 #[.val (.int m1), .val (.long n1), .second, .val (.int m2), .val (.long n2), .second, .val (.int sel), .val (.int bm), .val (.long bn), .second, .val (.int (((sel.toUInt32 >>> ((2 : Int32) &&& 31).toUInt32).toInt32) &&& (3 : Int32))), .val (.ref b1), .val (.ref b25), .val (.int (1 : Int32))] [(.ref b25)]))
                refine own_st (fun _ k' => XS.aload X40.here hx rfl (hb hby at_178) rfl rfl k') ?_
                show own_Go p.tables e below _ (T40.setTop (mkF m 180 #[.val (.int m1), .val (.long n1), .second, .val (.int m2), .val (.long n2), .second, .val (.int sel), .val (.int bm), .val (.long bn), .second, .val (.int (((sel.toUInt32 >>> ((2 : Int32) &&& 31).toUInt32).toInt32) &&& (3 : Int32))), .val (.ref b1), .val (.ref b25), .val (.int (1 : Int32))] [(.ref b1), (.ref b25)]))
                obtain ⟨cq41, kq41, q41a, q41b, q41c⟩ := isOf hZ e40 Ec30
                obtain ⟨_, _, ⟨T41, L41, k41, n41⟩, -, X41, ⟨Lc41, hQ41, l41, y41, z41⟩, st41⟩ := X40.virtualBack hx (y := (⟨"com/example/penumbra/penumbra/order/ClockedMulticast$MessageId", "equals", "(Ljava/lang/Object;)Z"⟩ : MethodName)) (z := (⟨"com/example/penumbra/penumbra/order/ClockedMulticast$MessageId", "equals", "(Ljava/lang/Object;)Z"⟩ : MethodName)) hown (mvT hZ (hw _ (List.mem_of_getElem? (i := 18) rfl))) (mvT hZ (hw _ (List.mem_of_getElem? (i := 19) rfl))) (notFace_of_selects (args := #[]) (mvT hZ (hw _ (List.mem_of_getElem? (i := 21) rfl)))) (mvT hZ (hw _ (List.mem_of_getElem? (i := 21) rfl))) (mvT hZ (hw _ (List.mem_of_getElem? (i := 20) rfl))) (by decide) (backOf (W := 0) (rmE2 l Z a0 hw [] b25 b1 bm bn m1 n1 T30.heap n0 Zc30 Ec3_x32 Fa30 Fb30 Fa3_x33 Fb3_x34) hZ (hw _ (List.mem_of_getElem? (i := 22) rfl)) (hw _ (List.mem_of_getElem? (i := 2) rfl)) (by decide) (by decide)) q41a q41c (g := (mkF m 180 #[.val (.int m1), .val (.long n1), .second, .val (.int m2), .val (.long n2), .second, .val (.int sel), .val (.int bm), .val (.long bn), .second, .val (.int (((sel.toUInt32 >>> ((2 : Int32) &&& 31).toUInt32).toInt32) &&& (3 : Int32))), .val (.ref b1), .val (.ref b25), .val (.int (1 : Int32))] [(.ref b1), (.ref b25)])) rfl (by rw [hml]; rfl) (Steps.refl _) (argsL := [(.ref b1)]) (rest := []) (lenOf pd__Ljava_lang_Object__Z rfl) rfl (by show 2 * 0 + _ ≤ _; exact Nat.le_of_eq rfl) (hb hby at_180) (fun _ _ => ⟨rfl, e40, (by decide : 2 + 0 ≤ _), (by decide : 4 + 0 ≤ _)⟩)
                dsimp only [Pt.U, Pt.locs, Pt.cells, Pt.slots] at X41 l41 y41 z41 st41 hQ41
                subst l41 y41 z41
                obtain ⟨rfl, Nq41, e41⟩ := hQ41
                have N41 := Fr.app N40 Nq41
                refine own_tr st41 ?_
                show own_Go p.tables e below _ (T41.setTop (mkF m 183 #[.val (.int m1), .val (.long n1), .second, .val (.int m2), .val (.long n2), .second, .val (.int sel), .val (.int bm), .val (.long bn), .second, .val (.int (((sel.toUInt32 >>> ((2 : Int32) &&& 31).toUInt32).toInt32) &&& (3 : Int32))), .val (.ref b1), .val (.ref b25), .val (.int (1 : Int32))] [(.int (own_e m1 bm n1 bn))]))
                refine own_st (fun _ k' => XS.iload X41.here hx rfl (hb hby at_183) rfl k') ?_
                show own_Go p.tables e below _ (T41.setTop (mkF m 185 #[.val (.int m1), .val (.long n1), .second, .val (.int m2), .val (.long n2), .second, .val (.int sel), .val (.int bm), .val (.long bn), .second, .val (.int (((sel.toUInt32 >>> ((2 : Int32) &&& 31).toUInt32).toInt32) &&& (3 : Int32))), .val (.ref b1), .val (.ref b25), .val (.int (1 : Int32))] [(.int (1 : Int32)), (.int (own_e m1 bm n1 bn))]))
                refine own_st (fun _ k' => XS.icmpNo X41.here hx rfl (hb hby at_185) rfl (teq (by simp [own_e, hc38, hc39])).2 k') ?_
                show own_Go p.tables e below _ (T41.setTop (mkF m 188 #[.val (.int m1), .val (.long n1), .second, .val (.int m2), .val (.long n2), .second, .val (.int sel), .val (.int bm), .val (.long bn), .second, .val (.int (((sel.toUInt32 >>> ((2 : Int32) &&& 31).toUInt32).toInt32) &&& (3 : Int32))), .val (.ref b1), .val (.ref b25), .val (.int (1 : Int32))] []))
                refine own_st (fun _ k' => XS.aload X41.here hx rfl (hb hby at_188) rfl rfl k') ?_
                show own_Go p.tables e below _ (T41.setTop (mkF m 190 #[.val (.int m1), .val (.long n1), .second, .val (.int m2), .val (.long n2), .second, .val (.int sel), .val (.int bm), .val (.long bn), .second, .val (.int (((sel.toUInt32 >>> ((2 : Int32) &&& 31).toUInt32).toInt32) &&& (3 : Int32))), .val (.ref b1), .val (.ref b25), .val (.int (1 : Int32))] [(.ref b1)]))
                refine own_st (fun _ k' => XS.aload X41.here hx rfl (hb hby at_190) rfl rfl k') ?_
                show own_Go p.tables e below _ (T41.setTop (mkF m 192 #[.val (.int m1), .val (.long n1), .second, .val (.int m2), .val (.long n2), .second, .val (.int sel), .val (.int bm), .val (.long bn), .second, .val (.int (((sel.toUInt32 >>> ((2 : Int32) &&& 31).toUInt32).toInt32) &&& (3 : Int32))), .val (.ref b1), .val (.ref b25), .val (.int (1 : Int32))] [(.ref b1), (.ref b1)]))
                obtain ⟨cq42, kq42, q42a, q42b, q42c⟩ := isOf hZ e41 Ec3_x32
                obtain ⟨_, _, ⟨T42, L42, k42, n42⟩, -, X42, ⟨Lc42, hQ42, l42, y42, z42⟩, st42⟩ := X41.virtualBack hx (y := (⟨"com/example/penumbra/penumbra/order/ClockedMulticast$MessageId", "equals", "(Ljava/lang/Object;)Z"⟩ : MethodName)) (z := (⟨"com/example/penumbra/penumbra/order/ClockedMulticast$MessageId", "equals", "(Ljava/lang/Object;)Z"⟩ : MethodName)) hown (mvT hZ (hw _ (List.mem_of_getElem? (i := 18) rfl))) (mvT hZ (hw _ (List.mem_of_getElem? (i := 19) rfl))) (notFace_of_selects (args := #[]) (mvT hZ (hw _ (List.mem_of_getElem? (i := 21) rfl)))) (mvT hZ (hw _ (List.mem_of_getElem? (i := 21) rfl))) (mvT hZ (hw _ (List.mem_of_getElem? (i := 20) rfl))) (by decide) (backOf (W := 0) (rmE2 l Z a0 hw [] b1 b1 m1 n1 m1 n1 T30.heap n0 Zc30 Ec3_x32 Fa3_x33 Fb3_x34 Fa3_x33 Fb3_x34) hZ (hw _ (List.mem_of_getElem? (i := 22) rfl)) (hw _ (List.mem_of_getElem? (i := 2) rfl)) (by decide) (by decide)) q42a q42c (g := (mkF m 192 #[.val (.int m1), .val (.long n1), .second, .val (.int m2), .val (.long n2), .second, .val (.int sel), .val (.int bm), .val (.long bn), .second, .val (.int (((sel.toUInt32 >>> ((2 : Int32) &&& 31).toUInt32).toInt32) &&& (3 : Int32))), .val (.ref b1), .val (.ref b25), .val (.int (1 : Int32))] [(.ref b1), (.ref b1)])) rfl (by rw [hml]; rfl) (Steps.refl _) (argsL := [(.ref b1)]) (rest := []) (lenOf pd__Ljava_lang_Object__Z rfl) rfl (by show 2 * 0 + _ ≤ _; exact Nat.le_of_eq rfl) (hb hby at_192) (fun _ _ => ⟨rfl, e41, (by decide : 2 + 0 ≤ _), (by decide : 4 + 0 ≤ _)⟩)
                dsimp only [Pt.U, Pt.locs, Pt.cells, Pt.slots] at X42 l42 y42 z42 st42 hQ42
                subst l42 y42 z42
                obtain ⟨rfl, Nq42, e42⟩ := hQ42
                have N42 := Fr.app N41 Nq42
                refine own_tr st42 ?_
                show own_Go p.tables e below _ (T42.setTop (mkF m 195 #[.val (.int m1), .val (.long n1), .second, .val (.int m2), .val (.long n2), .second, .val (.int sel), .val (.int bm), .val (.long bn), .second, .val (.int (((sel.toUInt32 >>> ((2 : Int32) &&& 31).toUInt32).toInt32) &&& (3 : Int32))), .val (.ref b1), .val (.ref b25), .val (.int (1 : Int32))] [(.int (own_e m1 m1 n1 n1))]))
                refine own_st (fun _ k' => XS.ifNo X42.here hx rfl (hb hby at_195) rfl ((if0 _ _).trans (feq (by simp [own_e, hc38, hc39])).1) k') ?_
                show own_Go p.tables e below _ (T42.setTop (mkF m 198 #[.val (.int m1), .val (.long n1), .second, .val (.int m2), .val (.long n2), .second, .val (.int sel), .val (.int bm), .val (.long bn), .second, .val (.int (((sel.toUInt32 >>> ((2 : Int32) &&& 31).toUInt32).toInt32) &&& (3 : Int32))), .val (.ref b1), .val (.ref b25), .val (.int (1 : Int32))] []))
                refine own_st (fun _ k' => XS.iconst X42.here hx rfl (hb hby at_198) k') ?_
                show own_Go p.tables e below _ (T42.setTop (mkF m 199 #[.val (.int m1), .val (.long n1), .second, .val (.int m2), .val (.long n2), .second, .val (.int sel), .val (.int bm), .val (.long bn), .second, .val (.int (((sel.toUInt32 >>> ((2 : Int32) &&& 31).toUInt32).toInt32) &&& (3 : Int32))), .val (.ref b1), .val (.ref b25), .val (.int (1 : Int32))] [(.int (1 : Int32))]))
                refine own_st (fun _ k' => XS.goto X42.here hx rfl (pc0 := 199) (pc' := 203) rfl (hb hby at_199) (by decide) (by decide) k') ?_
                show own_Go p.tables e below _ (T42.setTop (mkF m 203 #[.val (.int m1), .val (.long n1), .second, .val (.int m2), .val (.long n2), .second, .val (.int sel), .val (.int bm), .val (.long bn), .second, .val (.int (((sel.toUInt32 >>> ((2 : Int32) &&& 31).toUInt32).toInt32) &&& (3 : Int32))), .val (.ref b1), .val (.ref b25), .val (.int (1 : Int32))] [(.int (1 : Int32))]))
                exact own_retN X42 hx (t := .boolean) Bd.returns (by simp) (hb hby at_203) Bd.notSynchronized ⟨rfl, N42⟩ (by decide) (by decide)
              ·  -- pc 154, not n1 = bn
                refine own_st (fun _ k' => XS.ifYes X30.here hx rfl (pc0 := 154) (pc' := 161) rfl (hb hby at_154) rfl ((if0 _ _).trans (feq (mt (lw_eq n1 bn).mp hc39)).2) (by decide) (by decide) k') ?_
                show own_Go p.tables e below _ (T30.setTop (mkF m 161 #[.val (.int m1), .val (.long n1), .second, .val (.int m2), .val (.long n2), .second, .val (.int sel), .val (.int bm), .val (.long bn), .second, .val (.int (((sel.toUInt32 >>> ((2 : Int32) &&& 31).toUInt32).toInt32) &&& (3 : Int32))), .val (.ref b1), .val (.ref b25), .unset] []))
                refine own_st (fun _ k' => XS.iconst X30.here hx rfl (hb hby at_161) k') ?_
                show own_Go p.tables e below _ (T30.setTop (mkF m 162 #[.val (.int m1), .val (.long n1), .second, .val (.int m2), .val (.long n2), .second, .val (.int sel), .val (.int bm), .val (.long bn), .second, .val (.int (((sel.toUInt32 >>> ((2 : Int32) &&& 31).toUInt32).toInt32) &&& (3 : Int32))), .val (.ref b1), .val (.ref b25), .unset] [(.int (0 : Int32))]))
                refine own_st (fun _ k' => XS.istore X30.here hx rfl (hb hby at_162) rfl (l' := #[.val (.int m1), .val (.long n1), .second, .val (.int m2), .val (.long n2), .second, .val (.int sel), .val (.int bm), .val (.long bn), .second, .val (.int (((sel.toUInt32 >>> ((2 : Int32) &&& 31).toUInt32).toInt32) &&& (3 : Int32))), .val (.ref b1), .val (.ref b25), .val (.int (0 : Int32))]) rfl k') ?_
                show own_Go p.tables e below _ (T30.setTop (mkF m 164 #[.val (.int m1), .val (.long n1), .second, .val (.int m2), .val (.long n2), .second, .val (.int sel), .val (.int bm), .val (.long bn), .second, .val (.int (((sel.toUInt32 >>> ((2 : Int32) &&& 31).toUInt32).toInt32) &&& (3 : Int32))), .val (.ref b1), .val (.ref b25), .val (.int (0 : Int32))] []))
                refine own_st (fun _ k' => XS.aload X30.here hx rfl (hb hby at_164) rfl rfl k') ?_
                show own_Go p.tables e below _ (T30.setTop (mkF m 166 #[.val (.int m1), .val (.long n1), .second, .val (.int m2), .val (.long n2), .second, .val (.int sel), .val (.int bm), .val (.long bn), .second, .val (.int (((sel.toUInt32 >>> ((2 : Int32) &&& 31).toUInt32).toInt32) &&& (3 : Int32))), .val (.ref b1), .val (.ref b25), .val (.int (0 : Int32))] [(.ref b1)]))
                refine own_st (fun _ k' => XS.aload X30.here hx rfl (hb hby at_166) rfl rfl k') ?_
                show own_Go p.tables e below _ (T30.setTop (mkF m 168 #[.val (.int m1), .val (.long n1), .second, .val (.int m2), .val (.long n2), .second, .val (.int sel), .val (.int bm), .val (.long bn), .second, .val (.int (((sel.toUInt32 >>> ((2 : Int32) &&& 31).toUInt32).toInt32) &&& (3 : Int32))), .val (.ref b1), .val (.ref b25), .val (.int (0 : Int32))] [(.ref b25), (.ref b1)]))
                obtain ⟨cq43, kq43, q43a, q43b, q43c⟩ := isOf hZ rfl Ec3_x32
                obtain ⟨_, _, ⟨T43, L43, k43, n43⟩, -, X43, ⟨Lc43, hQ43, l43, y43, z43⟩, st43⟩ := X30.virtualBack hx (y := (⟨"com/example/penumbra/penumbra/order/ClockedMulticast$MessageId", "equals", "(Ljava/lang/Object;)Z"⟩ : MethodName)) (z := (⟨"com/example/penumbra/penumbra/order/ClockedMulticast$MessageId", "equals", "(Ljava/lang/Object;)Z"⟩ : MethodName)) hown (mvT hZ (hw _ (List.mem_of_getElem? (i := 18) rfl))) (mvT hZ (hw _ (List.mem_of_getElem? (i := 19) rfl))) (notFace_of_selects (args := #[]) (mvT hZ (hw _ (List.mem_of_getElem? (i := 21) rfl)))) (mvT hZ (hw _ (List.mem_of_getElem? (i := 21) rfl))) (mvT hZ (hw _ (List.mem_of_getElem? (i := 20) rfl))) (by decide) (backOf (W := 0) (rmE2 l Z a0 hw [] b1 b25 m1 n1 bm bn T30.heap n0 Zc30 Ec30 Fa3_x33 Fb3_x34 Fa30 Fb30) hZ (hw _ (List.mem_of_getElem? (i := 22) rfl)) (hw _ (List.mem_of_getElem? (i := 2) rfl)) (by decide) (by decide)) q43a q43c (g := (mkF m 168 #[.val (.int m1), .val (.long n1), .second, .val (.int m2), .val (.long n2), .second, .val (.int sel), .val (.int bm), .val (.long bn), .second, .val (.int (((sel.toUInt32 >>> ((2 : Int32) &&& 31).toUInt32).toInt32) &&& (3 : Int32))), .val (.ref b1), .val (.ref b25), .val (.int (0 : Int32))] [(.ref b25), (.ref b1)])) rfl (by rw [hml]; rfl) (Steps.refl _) (argsL := [(.ref b25)]) (rest := []) (lenOf pd__Ljava_lang_Object__Z rfl) rfl (by show 2 * 0 + _ ≤ _; exact Nat.le_of_eq rfl) (hb hby at_168) (fun _ _ => ⟨rfl, rfl, (by decide : 2 + 0 ≤ _), (by decide : 4 + 0 ≤ _)⟩)
                dsimp only [Pt.U, Pt.locs, Pt.cells, Pt.slots] at X43 l43 y43 z43 st43 hQ43
                subst l43 y43 z43
                obtain ⟨rfl, Nq43, e43⟩ := hQ43
                have N43 := Fr.app N30 Nq43
                refine own_tr st43 ?_
                show own_Go p.tables e below _ (T43.setTop (mkF m 171 #[.val (.int m1), .val (.long n1), .second, .val (.int m2), .val (.long n2), .second, .val (.int sel), .val (.int bm), .val (.long bn), .second, .val (.int (((sel.toUInt32 >>> ((2 : Int32) &&& 31).toUInt32).toInt32) &&& (3 : Int32))), .val (.ref b1), .val (.ref b25), .val (.int (0 : Int32))] [(.int (own_e bm m1 bn n1))]))
                refine own_st (fun _ k' => XS.iload X43.here hx rfl (hb hby at_171) rfl k') ?_
                show own_Go p.tables e below _ (T43.setTop (mkF m 173 #[.val (.int m1), .val (.long n1), .second, .val (.int m2), .val (.long n2), .second, .val (.int sel), .val (.int bm), .val (.long bn), .second, .val (.int (((sel.toUInt32 >>> ((2 : Int32) &&& 31).toUInt32).toInt32) &&& (3 : Int32))), .val (.ref b1), .val (.ref b25), .val (.int (0 : Int32))] [(.int (0 : Int32)), (.int (own_e bm m1 bn n1))]))
                refine own_st (fun _ k' => XS.icmpNo X43.here hx rfl (hb hby at_173) rfl (teq (by simp [own_e, hc38, hc39, Ne.symm hc39])).2 k') ?_
                show own_Go p.tables e below _ (T43.setTop (mkF m 176 #[.val (.int m1), .val (.long n1), .second, .val (.int m2), .val (.long n2), .second, .val (.int sel), .val (.int bm), .val (.long bn), .second, .val (.int (((sel.toUInt32 >>> ((2 : Int32) &&& 31).toUInt32).toInt32) &&& (3 : Int32))), .val (.ref b1), .val (.ref b25), .val (.int (0 : Int32))] []))
                refine own_st (fun _ k' => XS.aload X43.here hx rfl (hb hby at_176) rfl rfl k') ?_
                show own_Go p.tables e below _ (T43.setTop (mkF m 178 #[.val (.int m1), .val (.long n1), .second, .val (.int m2), .val (.long n2), .second, .val (.int sel), .val (.int bm), .val (.long bn), .second, .val (.int (((sel.toUInt32 >>> ((2 : Int32) &&& 31).toUInt32).toInt32) &&& (3 : Int32))), .val (.ref b1), .val (.ref b25), .val (.int (0 : Int32))] [(.ref b25)]))
                refine own_st (fun _ k' => XS.aload X43.here hx rfl (hb hby at_178) rfl rfl k') ?_
                show own_Go p.tables e below _ (T43.setTop (mkF m 180 #[.val (.int m1), .val (.long n1), .second, .val (.int m2), .val (.long n2), .second, .val (.int sel), .val (.int bm), .val (.long bn), .second, .val (.int (((sel.toUInt32 >>> ((2 : Int32) &&& 31).toUInt32).toInt32) &&& (3 : Int32))), .val (.ref b1), .val (.ref b25), .val (.int (0 : Int32))] [(.ref b1), (.ref b25)]))
                obtain ⟨cq44, kq44, q44a, q44b, q44c⟩ := isOf hZ e43 Ec30
                obtain ⟨_, _, ⟨T44, L44, k44, n44⟩, -, X44, ⟨Lc44, hQ44, l44, y44, z44⟩, st44⟩ := X43.virtualBack hx (y := (⟨"com/example/penumbra/penumbra/order/ClockedMulticast$MessageId", "equals", "(Ljava/lang/Object;)Z"⟩ : MethodName)) (z := (⟨"com/example/penumbra/penumbra/order/ClockedMulticast$MessageId", "equals", "(Ljava/lang/Object;)Z"⟩ : MethodName)) hown (mvT hZ (hw _ (List.mem_of_getElem? (i := 18) rfl))) (mvT hZ (hw _ (List.mem_of_getElem? (i := 19) rfl))) (notFace_of_selects (args := #[]) (mvT hZ (hw _ (List.mem_of_getElem? (i := 21) rfl)))) (mvT hZ (hw _ (List.mem_of_getElem? (i := 21) rfl))) (mvT hZ (hw _ (List.mem_of_getElem? (i := 20) rfl))) (by decide) (backOf (W := 0) (rmE2 l Z a0 hw [] b25 b1 bm bn m1 n1 T30.heap n0 Zc30 Ec3_x32 Fa30 Fb30 Fa3_x33 Fb3_x34) hZ (hw _ (List.mem_of_getElem? (i := 22) rfl)) (hw _ (List.mem_of_getElem? (i := 2) rfl)) (by decide) (by decide)) q44a q44c (g := (mkF m 180 #[.val (.int m1), .val (.long n1), .second, .val (.int m2), .val (.long n2), .second, .val (.int sel), .val (.int bm), .val (.long bn), .second, .val (.int (((sel.toUInt32 >>> ((2 : Int32) &&& 31).toUInt32).toInt32) &&& (3 : Int32))), .val (.ref b1), .val (.ref b25), .val (.int (0 : Int32))] [(.ref b1), (.ref b25)])) rfl (by rw [hml]; rfl) (Steps.refl _) (argsL := [(.ref b1)]) (rest := []) (lenOf pd__Ljava_lang_Object__Z rfl) rfl (by show 2 * 0 + _ ≤ _; exact Nat.le_of_eq rfl) (hb hby at_180) (fun _ _ => ⟨rfl, e43, (by decide : 2 + 0 ≤ _), (by decide : 4 + 0 ≤ _)⟩)
                dsimp only [Pt.U, Pt.locs, Pt.cells, Pt.slots] at X44 l44 y44 z44 st44 hQ44
                subst l44 y44 z44
                obtain ⟨rfl, Nq44, e44⟩ := hQ44
                have N44 := Fr.app N43 Nq44
                refine own_tr st44 ?_
                show own_Go p.tables e below _ (T44.setTop (mkF m 183 #[.val (.int m1), .val (.long n1), .second, .val (.int m2), .val (.long n2), .second, .val (.int sel), .val (.int bm), .val (.long bn), .second, .val (.int (((sel.toUInt32 >>> ((2 : Int32) &&& 31).toUInt32).toInt32) &&& (3 : Int32))), .val (.ref b1), .val (.ref b25), .val (.int (0 : Int32))] [(.int (own_e m1 bm n1 bn))]))
                refine own_st (fun _ k' => XS.iload X44.here hx rfl (hb hby at_183) rfl k') ?_
                show own_Go p.tables e below _ (T44.setTop (mkF m 185 #[.val (.int m1), .val (.long n1), .second, .val (.int m2), .val (.long n2), .second, .val (.int sel), .val (.int bm), .val (.long bn), .second, .val (.int (((sel.toUInt32 >>> ((2 : Int32) &&& 31).toUInt32).toInt32) &&& (3 : Int32))), .val (.ref b1), .val (.ref b25), .val (.int (0 : Int32))] [(.int (0 : Int32)), (.int (own_e m1 bm n1 bn))]))
                refine own_st (fun _ k' => XS.icmpNo X44.here hx rfl (hb hby at_185) rfl (teq (by simp [own_e, hc38, hc39, Ne.symm hc39])).2 k') ?_
                show own_Go p.tables e below _ (T44.setTop (mkF m 188 #[.val (.int m1), .val (.long n1), .second, .val (.int m2), .val (.long n2), .second, .val (.int sel), .val (.int bm), .val (.long bn), .second, .val (.int (((sel.toUInt32 >>> ((2 : Int32) &&& 31).toUInt32).toInt32) &&& (3 : Int32))), .val (.ref b1), .val (.ref b25), .val (.int (0 : Int32))] []))
                refine own_st (fun _ k' => XS.aload X44.here hx rfl (hb hby at_188) rfl rfl k') ?_
                show own_Go p.tables e below _ (T44.setTop (mkF m 190 #[.val (.int m1), .val (.long n1), .second, .val (.int m2), .val (.long n2), .second, .val (.int sel), .val (.int bm), .val (.long bn), .second, .val (.int (((sel.toUInt32 >>> ((2 : Int32) &&& 31).toUInt32).toInt32) &&& (3 : Int32))), .val (.ref b1), .val (.ref b25), .val (.int (0 : Int32))] [(.ref b1)]))
                refine own_st (fun _ k' => XS.aload X44.here hx rfl (hb hby at_190) rfl rfl k') ?_
                show own_Go p.tables e below _ (T44.setTop (mkF m 192 #[.val (.int m1), .val (.long n1), .second, .val (.int m2), .val (.long n2), .second, .val (.int sel), .val (.int bm), .val (.long bn), .second, .val (.int (((sel.toUInt32 >>> ((2 : Int32) &&& 31).toUInt32).toInt32) &&& (3 : Int32))), .val (.ref b1), .val (.ref b25), .val (.int (0 : Int32))] [(.ref b1), (.ref b1)]))
                obtain ⟨cq45, kq45, q45a, q45b, q45c⟩ := isOf hZ e44 Ec3_x32
                obtain ⟨_, _, ⟨T45, L45, k45, n45⟩, -, X45, ⟨Lc45, hQ45, l45, y45, z45⟩, st45⟩ := X44.virtualBack hx (y := (⟨"com/example/penumbra/penumbra/order/ClockedMulticast$MessageId", "equals", "(Ljava/lang/Object;)Z"⟩ : MethodName)) (z := (⟨"com/example/penumbra/penumbra/order/ClockedMulticast$MessageId", "equals", "(Ljava/lang/Object;)Z"⟩ : MethodName)) hown (mvT hZ (hw _ (List.mem_of_getElem? (i := 18) rfl))) (mvT hZ (hw _ (List.mem_of_getElem? (i := 19) rfl))) (notFace_of_selects (args := #[]) (mvT hZ (hw _ (List.mem_of_getElem? (i := 21) rfl)))) (mvT hZ (hw _ (List.mem_of_getElem? (i := 21) rfl))) (mvT hZ (hw _ (List.mem_of_getElem? (i := 20) rfl))) (by decide) (backOf (W := 0) (rmE2 l Z a0 hw [] b1 b1 m1 n1 m1 n1 T30.heap n0 Zc30 Ec3_x32 Fa3_x33 Fb3_x34 Fa3_x33 Fb3_x34) hZ (hw _ (List.mem_of_getElem? (i := 22) rfl)) (hw _ (List.mem_of_getElem? (i := 2) rfl)) (by decide) (by decide)) q45a q45c (g := (mkF m 192 #[.val (.int m1), .val (.long n1), .second, .val (.int m2), .val (.long n2), .second, .val (.int sel), .val (.int bm), .val (.long bn), .second, .val (.int (((sel.toUInt32 >>> ((2 : Int32) &&& 31).toUInt32).toInt32) &&& (3 : Int32))), .val (.ref b1), .val (.ref b25), .val (.int (0 : Int32))] [(.ref b1), (.ref b1)])) rfl (by rw [hml]; rfl) (Steps.refl _) (argsL := [(.ref b1)]) (rest := []) (lenOf pd__Ljava_lang_Object__Z rfl) rfl (by show 2 * 0 + _ ≤ _; exact Nat.le_of_eq rfl) (hb hby at_192) (fun _ _ => ⟨rfl, e44, (by decide : 2 + 0 ≤ _), (by decide : 4 + 0 ≤ _)⟩)
                dsimp only [Pt.U, Pt.locs, Pt.cells, Pt.slots] at X45 l45 y45 z45 st45 hQ45
                subst l45 y45 z45
                obtain ⟨rfl, Nq45, e45⟩ := hQ45
                have N45 := Fr.app N44 Nq45
                refine own_tr st45 ?_
                show own_Go p.tables e below _ (T45.setTop (mkF m 195 #[.val (.int m1), .val (.long n1), .second, .val (.int m2), .val (.long n2), .second, .val (.int sel), .val (.int bm), .val (.long bn), .second, .val (.int (((sel.toUInt32 >>> ((2 : Int32) &&& 31).toUInt32).toInt32) &&& (3 : Int32))), .val (.ref b1), .val (.ref b25), .val (.int (0 : Int32))] [(.int (own_e m1 m1 n1 n1))]))
                refine own_st (fun _ k' => XS.ifNo X45.here hx rfl (hb hby at_195) rfl ((if0 _ _).trans (feq (by simp [own_e, hc38, hc39, Ne.symm hc39])).1) k') ?_
                show own_Go p.tables e below _ (T45.setTop (mkF m 198 #[.val (.int m1), .val (.long n1), .second, .val (.int m2), .val (.long n2), .second, .val (.int sel), .val (.int bm), .val (.long bn), .second, .val (.int (((sel.toUInt32 >>> ((2 : Int32) &&& 31).toUInt32).toInt32) &&& (3 : Int32))), .val (.ref b1), .val (.ref b25), .val (.int (0 : Int32))] []))
                refine own_st (fun _ k' => XS.iconst X45.here hx rfl (hb hby at_198) k') ?_
                show own_Go p.tables e below _ (T45.setTop (mkF m 199 #[.val (.int m1), .val (.long n1), .second, .val (.int m2), .val (.long n2), .second, .val (.int sel), .val (.int bm), .val (.long bn), .second, .val (.int (((sel.toUInt32 >>> ((2 : Int32) &&& 31).toUInt32).toInt32) &&& (3 : Int32))), .val (.ref b1), .val (.ref b25), .val (.int (0 : Int32))] [(.int (1 : Int32))]))
                refine own_st (fun _ k' => XS.goto X45.here hx rfl (pc0 := 199) (pc' := 203) rfl (hb hby at_199) (by decide) (by decide) k') ?_
                show own_Go p.tables e below _ (T45.setTop (mkF m 203 #[.val (.int m1), .val (.long n1), .second, .val (.int m2), .val (.long n2), .second, .val (.int sel), .val (.int bm), .val (.long bn), .second, .val (.int (((sel.toUInt32 >>> ((2 : Int32) &&& 31).toUInt32).toInt32) &&& (3 : Int32))), .val (.ref b1), .val (.ref b25), .val (.int (0 : Int32))] [(.int (1 : Int32))]))
                exact own_retN X45 hx (t := .boolean) Bd.returns (by simp) (hb hby at_203) Bd.notSynchronized ⟨rfl, N45⟩ (by decide) (by decide)
            ·  -- pc 147, not m1 = bm
              refine own_st (fun _ k' => XS.icmpYes X30.here hx rfl (pc0 := 147) (pc' := 161) rfl (hb hby at_147) rfl (feq hc38).2 (by decide) (by decide) k') ?_
              show own_Go p.tables e below _ (T30.setTop (mkF m 161 #[.val (.int m1), .val (.long n1), .second, .val (.int m2), .val (.long n2), .second, .val (.int sel), .val (.int bm), .val (.long bn), .second, .val (.int (((sel.toUInt32 >>> ((2 : Int32) &&& 31).toUInt32).toInt32) &&& (3 : Int32))), .val (.ref b1), .val (.ref b25), .unset] []))
              refine own_st (fun _ k' => XS.iconst X30.here hx rfl (hb hby at_161) k') ?_
              show own_Go p.tables e below _ (T30.setTop (mkF m 162 #[.val (.int m1), .val (.long n1), .second, .val (.int m2), .val (.long n2), .second, .val (.int sel), .val (.int bm), .val (.long bn), .second, .val (.int (((sel.toUInt32 >>> ((2 : Int32) &&& 31).toUInt32).toInt32) &&& (3 : Int32))), .val (.ref b1), .val (.ref b25), .unset] [(.int (0 : Int32))]))
              refine own_st (fun _ k' => XS.istore X30.here hx rfl (hb hby at_162) rfl (l' := #[.val (.int m1), .val (.long n1), .second, .val (.int m2), .val (.long n2), .second, .val (.int sel), .val (.int bm), .val (.long bn), .second, .val (.int (((sel.toUInt32 >>> ((2 : Int32) &&& 31).toUInt32).toInt32) &&& (3 : Int32))), .val (.ref b1), .val (.ref b25), .val (.int (0 : Int32))]) rfl k') ?_
              show own_Go p.tables e below _ (T30.setTop (mkF m 164 #[.val (.int m1), .val (.long n1), .second, .val (.int m2), .val (.long n2), .second, .val (.int sel), .val (.int bm), .val (.long bn), .second, .val (.int (((sel.toUInt32 >>> ((2 : Int32) &&& 31).toUInt32).toInt32) &&& (3 : Int32))), .val (.ref b1), .val (.ref b25), .val (.int (0 : Int32))] []))
              refine own_st (fun _ k' => XS.aload X30.here hx rfl (hb hby at_164) rfl rfl k') ?_
              show own_Go p.tables e below _ (T30.setTop (mkF m 166 #[.val (.int m1), .val (.long n1), .second, .val (.int m2), .val (.long n2), .second, .val (.int sel), .val (.int bm), .val (.long bn), .second, .val (.int (((sel.toUInt32 >>> ((2 : Int32) &&& 31).toUInt32).toInt32) &&& (3 : Int32))), .val (.ref b1), .val (.ref b25), .val (.int (0 : Int32))] [(.ref b1)]))
              refine own_st (fun _ k' => XS.aload X30.here hx rfl (hb hby at_166) rfl rfl k') ?_
              show own_Go p.tables e below _ (T30.setTop (mkF m 168 #[.val (.int m1), .val (.long n1), .second, .val (.int m2), .val (.long n2), .second, .val (.int sel), .val (.int bm), .val (.long bn), .second, .val (.int (((sel.toUInt32 >>> ((2 : Int32) &&& 31).toUInt32).toInt32) &&& (3 : Int32))), .val (.ref b1), .val (.ref b25), .val (.int (0 : Int32))] [(.ref b25), (.ref b1)]))
              obtain ⟨cq46, kq46, q46a, q46b, q46c⟩ := isOf hZ rfl Ec3_x32
              obtain ⟨_, _, ⟨T46, L46, k46, n46⟩, -, X46, ⟨Lc46, hQ46, l46, y46, z46⟩, st46⟩ := X30.virtualBack hx (y := (⟨"com/example/penumbra/penumbra/order/ClockedMulticast$MessageId", "equals", "(Ljava/lang/Object;)Z"⟩ : MethodName)) (z := (⟨"com/example/penumbra/penumbra/order/ClockedMulticast$MessageId", "equals", "(Ljava/lang/Object;)Z"⟩ : MethodName)) hown (mvT hZ (hw _ (List.mem_of_getElem? (i := 18) rfl))) (mvT hZ (hw _ (List.mem_of_getElem? (i := 19) rfl))) (notFace_of_selects (args := #[]) (mvT hZ (hw _ (List.mem_of_getElem? (i := 21) rfl)))) (mvT hZ (hw _ (List.mem_of_getElem? (i := 21) rfl))) (mvT hZ (hw _ (List.mem_of_getElem? (i := 20) rfl))) (by decide) (backOf (W := 0) (rmE2 l Z a0 hw [] b1 b25 m1 n1 bm bn T30.heap n0 Zc30 Ec30 Fa3_x33 Fb3_x34 Fa30 Fb30) hZ (hw _ (List.mem_of_getElem? (i := 22) rfl)) (hw _ (List.mem_of_getElem? (i := 2) rfl)) (by decide) (by decide)) q46a q46c (g := (mkF m 168 #[.val (.int m1), .val (.long n1), .second, .val (.int m2), .val (.long n2), .second, .val (.int sel), .val (.int bm), .val (.long bn), .second, .val (.int (((sel.toUInt32 >>> ((2 : Int32) &&& 31).toUInt32).toInt32) &&& (3 : Int32))), .val (.ref b1), .val (.ref b25), .val (.int (0 : Int32))] [(.ref b25), (.ref b1)])) rfl (by rw [hml]; rfl) (Steps.refl _) (argsL := [(.ref b25)]) (rest := []) (lenOf pd__Ljava_lang_Object__Z rfl) rfl (by show 2 * 0 + _ ≤ _; exact Nat.le_of_eq rfl) (hb hby at_168) (fun _ _ => ⟨rfl, rfl, (by decide : 2 + 0 ≤ _), (by decide : 4 + 0 ≤ _)⟩)
              dsimp only [Pt.U, Pt.locs, Pt.cells, Pt.slots] at X46 l46 y46 z46 st46 hQ46
              subst l46 y46 z46
              obtain ⟨rfl, Nq46, e46⟩ := hQ46
              have N46 := Fr.app N30 Nq46
              refine own_tr st46 ?_
              show own_Go p.tables e below _ (T46.setTop (mkF m 171 #[.val (.int m1), .val (.long n1), .second, .val (.int m2), .val (.long n2), .second, .val (.int sel), .val (.int bm), .val (.long bn), .second, .val (.int (((sel.toUInt32 >>> ((2 : Int32) &&& 31).toUInt32).toInt32) &&& (3 : Int32))), .val (.ref b1), .val (.ref b25), .val (.int (0 : Int32))] [(.int (own_e bm m1 bn n1))]))
              refine own_st (fun _ k' => XS.iload X46.here hx rfl (hb hby at_171) rfl k') ?_
              show own_Go p.tables e below _ (T46.setTop (mkF m 173 #[.val (.int m1), .val (.long n1), .second, .val (.int m2), .val (.long n2), .second, .val (.int sel), .val (.int bm), .val (.long bn), .second, .val (.int (((sel.toUInt32 >>> ((2 : Int32) &&& 31).toUInt32).toInt32) &&& (3 : Int32))), .val (.ref b1), .val (.ref b25), .val (.int (0 : Int32))] [(.int (0 : Int32)), (.int (own_e bm m1 bn n1))]))
              refine own_st (fun _ k' => XS.icmpNo X46.here hx rfl (hb hby at_173) rfl (teq (by simp [own_e, hc38, Ne.symm hc38])).2 k') ?_
              show own_Go p.tables e below _ (T46.setTop (mkF m 176 #[.val (.int m1), .val (.long n1), .second, .val (.int m2), .val (.long n2), .second, .val (.int sel), .val (.int bm), .val (.long bn), .second, .val (.int (((sel.toUInt32 >>> ((2 : Int32) &&& 31).toUInt32).toInt32) &&& (3 : Int32))), .val (.ref b1), .val (.ref b25), .val (.int (0 : Int32))] []))
              refine own_st (fun _ k' => XS.aload X46.here hx rfl (hb hby at_176) rfl rfl k') ?_
              show own_Go p.tables e below _ (T46.setTop (mkF m 178 #[.val (.int m1), .val (.long n1), .second, .val (.int m2), .val (.long n2), .second, .val (.int sel), .val (.int bm), .val (.long bn), .second, .val (.int (((sel.toUInt32 >>> ((2 : Int32) &&& 31).toUInt32).toInt32) &&& (3 : Int32))), .val (.ref b1), .val (.ref b25), .val (.int (0 : Int32))] [(.ref b25)]))
              refine own_st (fun _ k' => XS.aload X46.here hx rfl (hb hby at_178) rfl rfl k') ?_
              show own_Go p.tables e below _ (T46.setTop (mkF m 180 #[.val (.int m1), .val (.long n1), .second, .val (.int m2), .val (.long n2), .second, .val (.int sel), .val (.int bm), .val (.long bn), .second, .val (.int (((sel.toUInt32 >>> ((2 : Int32) &&& 31).toUInt32).toInt32) &&& (3 : Int32))), .val (.ref b1), .val (.ref b25), .val (.int (0 : Int32))] [(.ref b1), (.ref b25)]))
              obtain ⟨cq47, kq47, q47a, q47b, q47c⟩ := isOf hZ e46 Ec30
              obtain ⟨_, _, ⟨T47, L47, k47, n47⟩, -, X47, ⟨Lc47, hQ47, l47, y47, z47⟩, st47⟩ := X46.virtualBack hx (y := (⟨"com/example/penumbra/penumbra/order/ClockedMulticast$MessageId", "equals", "(Ljava/lang/Object;)Z"⟩ : MethodName)) (z := (⟨"com/example/penumbra/penumbra/order/ClockedMulticast$MessageId", "equals", "(Ljava/lang/Object;)Z"⟩ : MethodName)) hown (mvT hZ (hw _ (List.mem_of_getElem? (i := 18) rfl))) (mvT hZ (hw _ (List.mem_of_getElem? (i := 19) rfl))) (notFace_of_selects (args := #[]) (mvT hZ (hw _ (List.mem_of_getElem? (i := 21) rfl)))) (mvT hZ (hw _ (List.mem_of_getElem? (i := 21) rfl))) (mvT hZ (hw _ (List.mem_of_getElem? (i := 20) rfl))) (by decide) (backOf (W := 0) (rmE2 l Z a0 hw [] b25 b1 bm bn m1 n1 T30.heap n0 Zc30 Ec3_x32 Fa30 Fb30 Fa3_x33 Fb3_x34) hZ (hw _ (List.mem_of_getElem? (i := 22) rfl)) (hw _ (List.mem_of_getElem? (i := 2) rfl)) (by decide) (by decide)) q47a q47c (g := (mkF m 180 #[.val (.int m1), .val (.long n1), .second, .val (.int m2), .val (.long n2), .second, .val (.int sel), .val (.int bm), .val (.long bn), .second, .val (.int (((sel.toUInt32 >>> ((2 : Int32) &&& 31).toUInt32).toInt32) &&& (3 : Int32))), .val (.ref b1), .val (.ref b25), .val (.int (0 : Int32))] [(.ref b1), (.ref b25)])) rfl (by rw [hml]; rfl) (Steps.refl _) (argsL := [(.ref b1)]) (rest := []) (lenOf pd__Ljava_lang_Object__Z rfl) rfl (by show 2 * 0 + _ ≤ _; exact Nat.le_of_eq rfl) (hb hby at_180) (fun _ _ => ⟨rfl, e46, (by decide : 2 + 0 ≤ _), (by decide : 4 + 0 ≤ _)⟩)
              dsimp only [Pt.U, Pt.locs, Pt.cells, Pt.slots] at X47 l47 y47 z47 st47 hQ47
              subst l47 y47 z47
              obtain ⟨rfl, Nq47, e47⟩ := hQ47
              have N47 := Fr.app N46 Nq47
              refine own_tr st47 ?_
              show own_Go p.tables e below _ (T47.setTop (mkF m 183 #[.val (.int m1), .val (.long n1), .second, .val (.int m2), .val (.long n2), .second, .val (.int sel), .val (.int bm), .val (.long bn), .second, .val (.int (((sel.toUInt32 >>> ((2 : Int32) &&& 31).toUInt32).toInt32) &&& (3 : Int32))), .val (.ref b1), .val (.ref b25), .val (.int (0 : Int32))] [(.int (own_e m1 bm n1 bn))]))
              refine own_st (fun _ k' => XS.iload X47.here hx rfl (hb hby at_183) rfl k') ?_
              show own_Go p.tables e below _ (T47.setTop (mkF m 185 #[.val (.int m1), .val (.long n1), .second, .val (.int m2), .val (.long n2), .second, .val (.int sel), .val (.int bm), .val (.long bn), .second, .val (.int (((sel.toUInt32 >>> ((2 : Int32) &&& 31).toUInt32).toInt32) &&& (3 : Int32))), .val (.ref b1), .val (.ref b25), .val (.int (0 : Int32))] [(.int (0 : Int32)), (.int (own_e m1 bm n1 bn))]))
              refine own_st (fun _ k' => XS.icmpNo X47.here hx rfl (hb hby at_185) rfl (teq (by simp [own_e, hc38, Ne.symm hc38])).2 k') ?_
              show own_Go p.tables e below _ (T47.setTop (mkF m 188 #[.val (.int m1), .val (.long n1), .second, .val (.int m2), .val (.long n2), .second, .val (.int sel), .val (.int bm), .val (.long bn), .second, .val (.int (((sel.toUInt32 >>> ((2 : Int32) &&& 31).toUInt32).toInt32) &&& (3 : Int32))), .val (.ref b1), .val (.ref b25), .val (.int (0 : Int32))] []))
              refine own_st (fun _ k' => XS.aload X47.here hx rfl (hb hby at_188) rfl rfl k') ?_
              show own_Go p.tables e below _ (T47.setTop (mkF m 190 #[.val (.int m1), .val (.long n1), .second, .val (.int m2), .val (.long n2), .second, .val (.int sel), .val (.int bm), .val (.long bn), .second, .val (.int (((sel.toUInt32 >>> ((2 : Int32) &&& 31).toUInt32).toInt32) &&& (3 : Int32))), .val (.ref b1), .val (.ref b25), .val (.int (0 : Int32))] [(.ref b1)]))
              refine own_st (fun _ k' => XS.aload X47.here hx rfl (hb hby at_190) rfl rfl k') ?_
              show own_Go p.tables e below _ (T47.setTop (mkF m 192 #[.val (.int m1), .val (.long n1), .second, .val (.int m2), .val (.long n2), .second, .val (.int sel), .val (.int bm), .val (.long bn), .second, .val (.int (((sel.toUInt32 >>> ((2 : Int32) &&& 31).toUInt32).toInt32) &&& (3 : Int32))), .val (.ref b1), .val (.ref b25), .val (.int (0 : Int32))] [(.ref b1), (.ref b1)]))
              obtain ⟨cq48, kq48, q48a, q48b, q48c⟩ := isOf hZ e47 Ec3_x32
              obtain ⟨_, _, ⟨T48, L48, k48, n48⟩, -, X48, ⟨Lc48, hQ48, l48, y48, z48⟩, st48⟩ := X47.virtualBack hx (y := (⟨"com/example/penumbra/penumbra/order/ClockedMulticast$MessageId", "equals", "(Ljava/lang/Object;)Z"⟩ : MethodName)) (z := (⟨"com/example/penumbra/penumbra/order/ClockedMulticast$MessageId", "equals", "(Ljava/lang/Object;)Z"⟩ : MethodName)) hown (mvT hZ (hw _ (List.mem_of_getElem? (i := 18) rfl))) (mvT hZ (hw _ (List.mem_of_getElem? (i := 19) rfl))) (notFace_of_selects (args := #[]) (mvT hZ (hw _ (List.mem_of_getElem? (i := 21) rfl)))) (mvT hZ (hw _ (List.mem_of_getElem? (i := 21) rfl))) (mvT hZ (hw _ (List.mem_of_getElem? (i := 20) rfl))) (by decide) (backOf (W := 0) (rmE2 l Z a0 hw [] b1 b1 m1 n1 m1 n1 T30.heap n0 Zc30 Ec3_x32 Fa3_x33 Fb3_x34 Fa3_x33 Fb3_x34) hZ (hw _ (List.mem_of_getElem? (i := 22) rfl)) (hw _ (List.mem_of_getElem? (i := 2) rfl)) (by decide) (by decide)) q48a q48c (g := (mkF m 192 #[.val (.int m1), .val (.long n1), .second, .val (.int m2), .val (.long n2), .second, .val (.int sel), .val (.int bm), .val (.long bn), .second, .val (.int (((sel.toUInt32 >>> ((2 : Int32) &&& 31).toUInt32).toInt32) &&& (3 : Int32))), .val (.ref b1), .val (.ref b25), .val (.int (0 : Int32))] [(.ref b1), (.ref b1)])) rfl (by rw [hml]; rfl) (Steps.refl _) (argsL := [(.ref b1)]) (rest := []) (lenOf pd__Ljava_lang_Object__Z rfl) rfl (by show 2 * 0 + _ ≤ _; exact Nat.le_of_eq rfl) (hb hby at_192) (fun _ _ => ⟨rfl, e47, (by decide : 2 + 0 ≤ _), (by decide : 4 + 0 ≤ _)⟩)
              dsimp only [Pt.U, Pt.locs, Pt.cells, Pt.slots] at X48 l48 y48 z48 st48 hQ48
              subst l48 y48 z48
              obtain ⟨rfl, Nq48, e48⟩ := hQ48
              have N48 := Fr.app N47 Nq48
              refine own_tr st48 ?_
              show own_Go p.tables e below _ (T48.setTop (mkF m 195 #[.val (.int m1), .val (.long n1), .second, .val (.int m2), .val (.long n2), .second, .val (.int sel), .val (.int bm), .val (.long bn), .second, .val (.int (((sel.toUInt32 >>> ((2 : Int32) &&& 31).toUInt32).toInt32) &&& (3 : Int32))), .val (.ref b1), .val (.ref b25), .val (.int (0 : Int32))] [(.int (own_e m1 m1 n1 n1))]))
              refine own_st (fun _ k' => XS.ifNo X48.here hx rfl (hb hby at_195) rfl ((if0 _ _).trans (feq (by simp [own_e, hc38, Ne.symm hc38])).1) k') ?_
              show own_Go p.tables e below _ (T48.setTop (mkF m 198 #[.val (.int m1), .val (.long n1), .second, .val (.int m2), .val (.long n2), .second, .val (.int sel), .val (.int bm), .val (.long bn), .second, .val (.int (((sel.toUInt32 >>> ((2 : Int32) &&& 31).toUInt32).toInt32) &&& (3 : Int32))), .val (.ref b1), .val (.ref b25), .val (.int (0 : Int32))] []))
              refine own_st (fun _ k' => XS.iconst X48.here hx rfl (hb hby at_198) k') ?_
              show own_Go p.tables e below _ (T48.setTop (mkF m 199 #[.val (.int m1), .val (.long n1), .second, .val (.int m2), .val (.long n2), .second, .val (.int sel), .val (.int bm), .val (.long bn), .second, .val (.int (((sel.toUInt32 >>> ((2 : Int32) &&& 31).toUInt32).toInt32) &&& (3 : Int32))), .val (.ref b1), .val (.ref b25), .val (.int (0 : Int32))] [(.int (1 : Int32))]))
              refine own_st (fun _ k' => XS.goto X48.here hx rfl (pc0 := 199) (pc' := 203) rfl (hb hby at_199) (by decide) (by decide) k') ?_
              show own_Go p.tables e below _ (T48.setTop (mkF m 203 #[.val (.int m1), .val (.long n1), .second, .val (.int m2), .val (.long n2), .second, .val (.int sel), .val (.int bm), .val (.long bn), .second, .val (.int (((sel.toUInt32 >>> ((2 : Int32) &&& 31).toUInt32).toInt32) &&& (3 : Int32))), .val (.ref b1), .val (.ref b25), .val (.int (0 : Int32))] [(.int (1 : Int32))]))
              exact own_retN X48 hx (t := .boolean) Bd.returns (by simp) (hb hby at_203) Bd.notSynchronized ⟨rfl, N48⟩ (by decide) (by decide)
    by_cases hc49 : (sel &&& (2 : Int32)) = (0 : Int32)
    ·  -- pc 20, (sel &&& (2 : Int32)) = (0 : Int32)
      refine own_st (fun _ k' => XS.ifYes X0.here hx rfl (pc0 := 20) (pc' := 27) rfl (hb hby at_20) rfl ((if0 _ _).trans (teq hc49).1) (by decide) (by decide) k') ?_
      show own_Go p.tables e below _ (s₁.setTop (mkF m 27 #[.val (.int m1), .val (.long n1), .second, .val (.int m2), .val (.long n2), .second, .val (.int sel), .val (.int bm), .unset, .unset, .unset, .unset, .unset, .unset] []))
      refine own_st (fun _ k' => XS.lloadN X0.here hx rfl (hb hby at_27) rfl k') ?_
      show own_Go p.tables e below _ (s₁.setTop (mkF m 28 #[.val (.int m1), .val (.long n1), .second, .val (.int m2), .val (.long n2), .second, .val (.int sel), .val (.int bm), .unset, .unset, .unset, .unset, .unset, .unset] [(.long n1)]))
      refine own_st (fun _ k' => XS.lload X0.here hx rfl (hb hby at_28) rfl k') ?_
      show own_Go p.tables e below _ (s₁.setTop (mkF m 30 #[.val (.int m1), .val (.long n1), .second, .val (.int m2), .val (.long n2), .second, .val (.int sel), .val (.int bm), .unset, .unset, .unset, .unset, .unset, .unset] [(.long n2), (.long n1)]))
      refine own_st (fun _ k' => XS.ladd X0.here hx rfl (hb hby at_30) rfl k') ?_
      show own_Go p.tables e below _ (s₁.setTop (mkF m 31 #[.val (.int m1), .val (.long n1), .second, .val (.int m2), .val (.long n2), .second, .val (.int sel), .val (.int bm), .unset, .unset, .unset, .unset, .unset, .unset] [(.long (n1 + n2))]))
      exact J31 _
    ·  -- pc 20, not (sel &&& (2 : Int32)) = (0 : Int32)
      refine own_st (fun _ k' => XS.ifNo X0.here hx rfl (hb hby at_20) rfl ((if0 _ _).trans (feq hc49).1) k') ?_
      show own_Go p.tables e below _ (s₁.setTop (mkF m 23 #[.val (.int m1), .val (.long n1), .second, .val (.int m2), .val (.long n2), .second, .val (.int sel), .val (.int bm), .unset, .unset, .unset, .unset, .unset, .unset] []))
      refine own_st (fun _ k' => XS.lloadN X0.here hx rfl (hb hby at_23) rfl k') ?_
      show own_Go p.tables e below _ (s₁.setTop (mkF m 24 #[.val (.int m1), .val (.long n1), .second, .val (.int m2), .val (.long n2), .second, .val (.int sel), .val (.int bm), .unset, .unset, .unset, .unset, .unset, .unset] [(.long n1)]))
      refine own_st (fun _ k' => XS.goto X0.here hx rfl (pc0 := 24) (pc' := 31) rfl (hb hby at_24) (by decide) (by decide) k') ?_
      show own_Go p.tables e below _ (s₁.setTop (mkF m 31 #[.val (.int m1), .val (.long n1), .second, .val (.int m2), .val (.long n2), .second, .val (.int sel), .val (.int bm), .unset, .unset, .unset, .unset, .unset, .unset] [(.long n1)]))
      exact J31 _
  by_cases hc50 : (sel &&& (1 : Int32)) = (0 : Int32)
  ·  -- pc 4, (sel &&& (1 : Int32)) = (0 : Int32)
    refine own_st (fun _ k' => XS.ifYes X0.here hx rfl (pc0 := 4) (pc' := 11) rfl (hb hby at_4) rfl ((if0 _ _).trans (teq hc50).1) (by decide) (by decide) k') ?_
    show own_Go p.tables e below _ (s₁.setTop (mkF m 11 #[.val (.int m1), .val (.long n1), .second, .val (.int m2), .val (.long n2), .second, .val (.int sel), .unset, .unset, .unset, .unset, .unset, .unset, .unset] []))
    refine own_st (fun _ k' => XS.iloadN X0.here hx rfl (hb hby at_11) rfl k') ?_
    show own_Go p.tables e below _ (s₁.setTop (mkF m 12 #[.val (.int m1), .val (.long n1), .second, .val (.int m2), .val (.long n2), .second, .val (.int sel), .unset, .unset, .unset, .unset, .unset, .unset, .unset] [(.int m1)]))
    refine own_st (fun _ k' => XS.iloadN X0.here hx rfl (hb hby at_12) rfl k') ?_
    show own_Go p.tables e below _ (s₁.setTop (mkF m 13 #[.val (.int m1), .val (.long n1), .second, .val (.int m2), .val (.long n2), .second, .val (.int sel), .unset, .unset, .unset, .unset, .unset, .unset, .unset] [(.int m2), (.int m1)]))
    refine own_st (fun _ k' => XS.iadd X0.here hx rfl (hb hby at_13) rfl k') ?_
    show own_Go p.tables e below _ (s₁.setTop (mkF m 14 #[.val (.int m1), .val (.long n1), .second, .val (.int m2), .val (.long n2), .second, .val (.int sel), .unset, .unset, .unset, .unset, .unset, .unset, .unset] [(.int (m1 + m2))]))
    exact J14 _
  ·  -- pc 4, not (sel &&& (1 : Int32)) = (0 : Int32)
    refine own_st (fun _ k' => XS.ifNo X0.here hx rfl (hb hby at_4) rfl ((if0 _ _).trans (feq hc50).1) k') ?_
    show own_Go p.tables e below _ (s₁.setTop (mkF m 7 #[.val (.int m1), .val (.long n1), .second, .val (.int m2), .val (.long n2), .second, .val (.int sel), .unset, .unset, .unset, .unset, .unset, .unset, .unset] []))
    refine own_st (fun _ k' => XS.iloadN X0.here hx rfl (hb hby at_7) rfl k') ?_
    show own_Go p.tables e below _ (s₁.setTop (mkF m 8 #[.val (.int m1), .val (.long n1), .second, .val (.int m2), .val (.long n2), .second, .val (.int sel), .unset, .unset, .unset, .unset, .unset, .unset, .unset] [(.int m1)]))
    refine own_st (fun _ k' => XS.goto X0.here hx rfl (pc0 := 8) (pc' := 14) rfl (hb hby at_8) (by decide) (by decide) k') ?_
    show own_Go p.tables e below _ (s₁.setTop (mkF m 14 #[.val (.int m1), .val (.long n1), .second, .val (.int m2), .val (.long n2), .second, .val (.int sel), .unset, .unset, .unset, .unset, .unset, .unset, .unset] [(.int m1)]))
    exact J14 _

set_option maxRecDepth 65536 in
set_option maxHeartbeats 40000000 in
theorem comes_1 {Post : Tables → Env → Array Value → State → Outcome → State → Prop} (hpost : ∀ tb e args s v u, (limb_1_1.after args s (.returned v) u = true ∧ limb_1_2.after args s (.returned v) u = true ∧ True) → FrameEnd s (.returned v) u (Jvm.fieldLocs frame_1_writes args s ++ Jvm.arrayLocs frame_1_arrays args s ++ Jvm.staticLocs frame_1_statics s) 16 128 → Post tb e args s (.returned v) u) :
    ArmFor flags0 classFile x code maxLocals ret World_1 tables_1 room_1 Calls_1 rest_1 Pre_1 Post := by
  intro l hfl _ _ p e ha hc hk s m args below hf hA hF happ hP
  obtain ⟨hcalls, hrest, hpre⟩ := hP
  obtain ⟨-, -, -, hnamed, -, -, -, hat⟩ := (Spec.applies_iff hf).mp happ
  obtain ⟨hg, hn⟩ := and_e (Cond.before_iff.mp (show (Jvm.Cond.and given_1 narrow_1).before args s = true from hpre))
  obtain ⟨hcnt, hg⟩ := and_e hg
  obtain ⟨w0, w1, w2, w3, w4, rfl⟩ : ∃ w0 w1 w2 w3 w4 : Value, args = #[w0, w1, w2, w3, w4] := by
    have hs : args.size = 5 := by simpa [Cond.value, given_1] using hcnt
    obtain ⟨L⟩ := args
    match L, hs with
    | [w0, w1, w2, w3, w4], _ => exact ⟨w0, w1, w2, w3, w4, rfl⟩
  have hw := fun d (hd : d ∈ tables_1) => atoms_spec (ws := Jvm.Cond.code x code maxLocals ret :: tables_1) hat d (List.mem_cons_of_mem _ hd)
  have hfit : Fit s := fun {y c} hc i hi => by
    obtain ⟨ha, rfl⟩ := Array.getElem?_eq_some_iff.mp hc
    have q := List.all_eq_true.mp ((Array.all_eq_true_iff_forall_mem.mp hF) _ (Array.getElem_mem ha)) i (List.mem_range.mpr hi)
    simpa [Array.getElem?_eq_getElem hi] using q
  obtain ⟨hg0, hg⟩ := and_e hg
  obtain ⟨i0, ei0⟩ := is_v hg0
  obtain rfl : w0 = (.int i0) := Option.some.inj ei0
  obtain ⟨hg1, hg⟩ := and_e hg
  obtain ⟨i1, ei1⟩ := isL_v hg1
  obtain rfl : w1 = (.long i1) := Option.some.inj ei1
  obtain ⟨hg2, hg⟩ := and_e hg
  obtain ⟨i2, ei2⟩ := is_v hg2
  obtain rfl : w2 = (.int i2) := Option.some.inj ei2
  obtain ⟨hg3, hg⟩ := and_e hg
  obtain ⟨i3, ei3⟩ := isL_v hg3
  obtain rfl : w3 = (.long i3) := Option.some.inj ei3
  have hg4 := hg
  obtain ⟨i4, ei4⟩ := is_v hg4
  obtain rfl : w4 = (.int i4) := Option.some.inj ei4
  obtain ⟨hsets, hown0⟩ := atoms_of _ (rest_1_c_eq ▸ (show rest_1_c.before _ s = true from hrest))
  have w1 := (hsets _ (List.mem_of_getElem? (i := 4) rfl))
  obtain ⟨ci, v1⟩ := arr_v (Cond.before_iff.mp w1)
  obtain ⟨cci, A1⟩ := Arr.start v1 (Cond.before_iff.mp w1)
  obtain ⟨s1, s2⟩ := Jvm.Free.IntBox.length_fwd (hsets _ (List.mem_of_getElem? (i := 6) rfl)) v1 A1.1 A1.2.1 A1.2.2
  have SCI := Sta.start v1 (Or.inr ⟨(hw _ (List.mem_of_getElem? (i := 30) rfl)), (hsets _ (List.mem_of_getElem? (i := 2) rfl))⟩)
  have BI := Bxs.start (val := fun j => (.int (j - 128))) (fun idx => ((by rw [← v1]; rfl))) A1 s1 s2 (by decide) (Cond.before_iff.mp (hsets _ (List.mem_of_getElem? (i := 7) rfl))) (fun X j hj q => eqv_i (by simp [Term.eval, back32 hj]) q)
  have w2 := (hsets _ (List.mem_of_getElem? (i := 3) rfl))
  have SHI := Sta.start (eqv_i (Term.int_eval 127) (Cond.before_iff.mp w2)) (Or.inr ⟨(hw _ (List.mem_of_getElem? (i := 30) rfl)), (hsets _ (List.mem_of_getElem? (i := 0) rfl))⟩)
  have w1 := (hsets _ (List.mem_of_getElem? (i := 10) rfl))
  obtain ⟨cj, v1⟩ := arr_v (Cond.before_iff.mp w1)
  obtain ⟨ccj, A1⟩ := Arr.start v1 (Cond.before_iff.mp w1)
  obtain ⟨s1, s2⟩ := Jvm.Free.IntBox.length_fwd (hsets _ (List.mem_of_getElem? (i := 12) rfl)) v1 A1.1 A1.2.1 A1.2.2
  have SCJ := Sta.start v1 (Or.inr ⟨(hw _ (List.mem_of_getElem? (i := 68) rfl)), (hsets _ (List.mem_of_getElem? (i := 8) rfl))⟩)
  have BJ := Bxs.start (val := fun j => (.long (j - 128).toInt64)) (fun idx => ((by rw [← v1]; rfl))) A1 s1 s2 (by decide) (Cond.before_iff.mp (hsets _ (List.mem_of_getElem? (i := 13) rfl))) (fun X j hj q => eqv_l (by simp [Term.eval, Unary.apply, back32 hj]) q)
  obtain ⟨n, o, h1, h2, h3, _, L, rfl, ⟨rfl, N⟩, hq⟩ := rm0 l s _ hw tables_1 i0 i1 i2 i3 i4 ci cci _ cj ccj _ s.heap s.heap.size (Nat.le_refl _) (Old.start s) BI SCI SHI BJ SCJ p e ha hc hk s m _ below hf ((Spec.applies_iff_loose hf).mp happ).1 ⟨rfl, State.Warmed39.refl s, rfl⟩ trivial
  refine ⟨n, _, h1, h2, h3, hpost _ _ _ _ _ _ ⟨Cond.after_iff.mpr rfl, Cond.after_iff.mpr (eq_i res_at (Term.int_eval (1)) rfl), trivial⟩ ⟨hq.1, hq.2.1, (hq.2.2.sift fun y hy => Or.inr (N y hy)).mono (by decide) (by decide)⟩⟩
theorem main_1_1 : Claimed_1_1 := comes_1 fun _ _ _ _ _ _ h hF => ⟨h.1, hF⟩
theorem main_1_2 : Claimed_1_2 := comes_1 fun _ _ _ _ _ _ h hF => ⟨h.2.1, hF⟩

end Jvm.Pilot.@@N@@
namespace Jvm.Pilot.@@N@@
open Jvm Jvm.ClassFile Sem Op Lib Jvm.Free Jvm.Stand Jvm.Pilot.@@N@@.Jvm.D
/-! MADE BY PROGRAM (witnessworld.py) out of the Statement's table words and the real class files: 20 classes; the members and pool entries that the words name. The judged class is class 1, her method 1. -/
namespace start1
open Jvm.ClassFile
def u (s : String) : CpInfo := .utf8 (stringToUtf16 s)
/-- a pool by its gaps: so many unusable entries, then the entry; so many at the end -/
def gap : Nat → List CpInfo → List CpInfo
  | 0, r => r
  | n + 1, r => .unusable :: gap n r
def poolList (es : List (Nat × CpInfo)) (last : Nat) : List CpInfo := es.foldr (fun e r => gap e.1 (e.2 :: r)) (gap last [])
def pool (es : List (Nat × CpInfo)) (last : Nat) : Array CpInfo := ⟨poolList es last⟩
def fileOf (pool : Array CpInfo) (this : Nat) (attrs : Array Attribute := #[]) (ms : Array MethodInfo := #[]) (fl : Nat := 33) (sup : Nat := 0) (ifs : Array Nat := #[]) (fds : Array FieldInfo := #[]) : ClassFile where
  minorVersion := 0
  majorVersion := 65
  constantPool := pool
  accessFlags := fl
  thisClass := this
  superClass := sup
  interfaces := ifs
  fields := fds
  methods := ms
  attributes := attrs
def plain (name : String) (sup : Option ClassId) : Class where
  name := name
  kind := .ordinary
  loader := none
  accessFlags := 33
  super := sup
  interfaces := #[]
  cf := none
  fields := #[]
  methods := #[]
  instanceTypes := #[]
  staticTypes := #[]
  resolved := #[]
  callSites := []
  init := .initialized
  statics := none
  mirror := none

def pool0 : Array CpInfo := pool [(5, u "<init>"), (0, u "()V"), (1, .class_ 10), (1, u "java/lang/Object")] 113

def k0c0 : Code := { maxStack := 0, maxLocals := 1, code := object_method_1_code, exceptionTable := #[], attributes := #[] }
def k0m0 : Method := { name := "<init>", desc := "()V", sig := { parameters := [], returnType := none }, accessFlags := 1, code := some k0c0 }
/-- java/lang/Object -/
def k0 : Class := { plain "java/lang/Object" none with
  accessFlags := 33
  interfaces := #[]
  cf := some (fileOf pool0 8 #[] #[{ accessFlags := 1, nameIndex := 5, descriptorIndex := 6, attributes := #[] }] 33 0 #[] #[])
  fields := #[]
  methods := #[k0m0]
  instanceTypes := #[]
  staticTypes := #[]
  resolved := Array.replicate 124 none
  statics := none }

def pool1 : Array CpInfo := pool [(2, .class_ 4), (1, u "java/lang/Object"), (0, u "<init>"), (0, u "()V"), (0, .class_ 8), (0, u "com/example/penumbra/penumbra/order/ClockedMulticast$MessageId"), (0, .methodref 7 10), (0, .nameAndType 5 11), (0, u "(IJ)V"), (0, .methodref 7 13), (0, .nameAndType 14 15), (0, u "equals"), (0, u "(Ljava/lang/Object;)Z"), (0, .methodref 17 18), (0, .class_ 19), (0, .nameAndType 20 21), (0, u "java/lang/Integer"), (0, u "valueOf"), (0, u "(I)Ljava/lang/Integer;"), (0, .methodref 23 24), (0, .class_ 25), (0, .nameAndType 20 26), (0, u "java/lang/Long"), (0, u "(J)Ljava/lang/Long;"), (0, .class_ 28), (0, u "com/example/penumbra/penumbra/order/MessageIdEqualsPinLaw"), (2, u "law"), (0, u "(IJIJI)Z")] 7

def k1m0 : Method := { name := "<init>", desc := "()V", sig := { parameters := [], returnType := none }, accessFlags := 1, code := none }
def k1c1 : Code := { maxStack := 5, maxLocals := 14, code := code, exceptionTable := #[], attributes := #[] }
def k1m1 : Method := { name := "law", desc := "(IJIJI)Z", sig := { parameters := [.int, .long, .int, .long, .int], returnType := some .boolean }, accessFlags := 9, code := some k1c1 }
/-- com/example/penumbra/penumbra/order/MessageIdEqualsPinLaw -/
def k1 : Class := { plain "com/example/penumbra/penumbra/order/MessageIdEqualsPinLaw" (some 0) with
  accessFlags := 49
  interfaces := #[]
  cf := some (fileOf pool1 27 #[] #[{ accessFlags := 1, nameIndex := 5, descriptorIndex := 6, attributes := #[] }, { accessFlags := 9, nameIndex := 31, descriptorIndex := 32, attributes := #[] }] 49 2 #[] #[])
  fields := #[]
  methods := #[k1m0, k1m1]
  instanceTypes := #[]
  staticTypes := #[]
  resolved := Array.replicate 40 none
  statics := none }

def pool2 : Array CpInfo := pool [(1, .methodref 2 3), (0, .class_ 4), (0, .nameAndType 5 6), (0, u "java/lang/Object"), (0, u "<init>"), (0, u "()V"), (0, .class_ 8), (0, u "java/lang/Record")] 13

def k2c0 : Code := { maxStack := 1, maxLocals := 1, code := jdk_30_method_1_code, exceptionTable := #[], attributes := #[] }
def k2m0 : Method := { name := "<init>", desc := "()V", sig := { parameters := [], returnType := none }, accessFlags := 4, code := some k2c0 }
/-- java/lang/Record -/
def k2 : Class := { plain "java/lang/Record" (some 0) with
  accessFlags := 1057
  interfaces := #[]
  cf := some (fileOf pool2 7 #[] #[{ accessFlags := 4, nameIndex := 5, descriptorIndex := 6, attributes := #[] }] 1057 2 #[] #[])
  fields := #[]
  methods := #[k2m0]
  instanceTypes := #[]
  staticTypes := #[]
  resolved := Array.replicate 22 none
  statics := none }

def pool3 : Array CpInfo := pool [(1, .methodref 2 3), (0, .class_ 4), (0, .nameAndType 5 6), (0, u "java/lang/Record"), (0, u "<init>"), (0, u "()V"), (0, .fieldref 8 9), (0, .class_ 10), (0, .nameAndType 11 12), (0, u "com/example/penumbra/penumbra/order/ClockedMulticast$MessageId"), (0, u "sender"), (0, u "I"), (0, .fieldref 8 14), (0, .nameAndType 15 16), (0, u "number"), (0, u "J"), (10, u "(IJ)V"), (3, u "equals"), (0, u "(Ljava/lang/Object;)Z"), (7, .class_ 41), (0, u "com/example/penumbra/penumbra/order/ClockedMulticast")] 20

def k3c0 : Code := { maxStack := 3, maxLocals := 4, code := prog_109_method_1_code, exceptionTable := #[], attributes := #[] }
def k3m0 : Method := { name := "<init>", desc := "(IJ)V", sig := { parameters := [.int, .long], returnType := none }, accessFlags := 0, code := some k3c0 }
def k3c1 : Code := { maxStack := 4, maxLocals := 3, code := prog_109_method_2_code, exceptionTable := #[], attributes := #[] }
def k3m1 : Method := { name := "equals", desc := "(Ljava/lang/Object;)Z", sig := { parameters := [(.object "java/lang/Object")], returnType := some .boolean }, accessFlags := 1, code := some k3c1 }
/-- com/example/penumbra/penumbra/order/ClockedMulticast$MessageId -/
def k3 : Class := { plain "com/example/penumbra/penumbra/order/ClockedMulticast$MessageId" (some 2) with
  accessFlags := 48
  interfaces := #[]
  cf := some (fileOf pool3 8 #[.nestHost 40] #[{ accessFlags := 0, nameIndex := 5, descriptorIndex := 27, attributes := #[] }, { accessFlags := 1, nameIndex := 31, descriptorIndex := 32, attributes := #[] }] 48 2 #[] #[{ accessFlags := 18, nameIndex := 11, descriptorIndex := 12, attributes := #[] }, { accessFlags := 18, nameIndex := 15, descriptorIndex := 16, attributes := #[] }])
  fields := #[{ name := "sender", type := .int, accessFlags := 18, slot := 0, constantValue := 0 }, { name := "number", type := .long, accessFlags := 18, slot := 1, constantValue := 0 }]
  methods := #[k3m0, k3m1]
  instanceTypes := #[.int, .long]
  staticTypes := #[]
  resolved := Array.replicate 62 none
  statics := none }

def pool4 : Array CpInfo := pool [(1, .class_ 2), (0, u "java/io/Serializable"), (0, .class_ 4), (0, u "java/lang/Object")] 2

/-- java/io/Serializable -/
def k4 : Class := { plain "java/io/Serializable" (some 0) with
  accessFlags := 1537
  interfaces := #[]
  cf := some (fileOf pool4 1 #[] #[] 1537 3 #[] #[])
  fields := #[]
  methods := #[]
  instanceTypes := #[]
  staticTypes := #[]
  resolved := Array.replicate 7 none
  statics := none }

def pool5 : Array CpInfo := pool [(1, .methodref 2 3), (0, .class_ 4), (0, .nameAndType 5 6), (0, u "java/lang/Object"), (0, u "<init>"), (0, u "()V"), (1, .class_ 10), (1, u "java/lang/Number"), (2, .class_ 14), (0, u "java/io/Serializable"), (0, u "serialVersionUID"), (0, u "J")] 20

def k5c0 : Code := { maxStack := 1, maxLocals := 1, code := jdk_18_method_1_code, exceptionTable := #[], attributes := #[] }
def k5m0 : Method := { name := "<init>", desc := "()V", sig := { parameters := [], returnType := none }, accessFlags := 1, code := some k5c0 }
/-- java/lang/Number -/
def k5 : Class := { plain "java/lang/Number" (some 0) with
  accessFlags := 1057
  interfaces := #[4]
  cf := some (fileOf pool5 8 #[] #[{ accessFlags := 1, nameIndex := 5, descriptorIndex := 6, attributes := #[] }] 1057 2 #[13] #[{ accessFlags := 26, nameIndex := 15, descriptorIndex := 16, attributes := #[] }])
  fields := #[{ name := "serialVersionUID", type := .long, accessFlags := 26, slot := 0, constantValue := 0 }]
  methods := #[k5m0]
  instanceTypes := #[]
  staticTypes := #[.long]
  resolved := Array.replicate 37 none
  statics := none }

def pool6 : Array CpInfo := pool [(1, .class_ 2), (0, u "java/lang/Comparable"), (0, .class_ 4), (0, u "java/lang/Object")] 7

/-- java/lang/Comparable -/
def k6 : Class := { plain "java/lang/Comparable" (some 0) with
  accessFlags := 1537
  interfaces := #[]
  cf := some (fileOf pool6 1 #[] #[] 1537 3 #[] #[])
  fields := #[]
  methods := #[]
  instanceTypes := #[]
  staticTypes := #[]
  resolved := Array.replicate 12 none
  statics := none }

def pool7 : Array CpInfo := pool [(1, .class_ 2), (0, u "java/lang/constant/Constable"), (0, .class_ 4), (0, u "java/lang/Object")] 6

/-- java/lang/constant/Constable -/
def k7 : Class := { plain "java/lang/constant/Constable" (some 0) with
  accessFlags := 1537
  interfaces := #[]
  cf := some (fileOf pool7 1 #[] #[] 1537 3 #[] #[])
  fields := #[]
  methods := #[]
  instanceTypes := #[]
  staticTypes := #[]
  resolved := Array.replicate 11 none
  statics := none }

def pool8 : Array CpInfo := pool [(1, .class_ 2), (0, u "java/lang/constant/ConstantDesc"), (0, .class_ 4), (0, u "java/lang/Object")] 32

/-- java/lang/constant/ConstantDesc -/
def k8 : Class := { plain "java/lang/constant/ConstantDesc" (some 0) with
  accessFlags := 1537
  interfaces := #[]
  cf := some (fileOf pool8 1 #[] #[] 1537 3 #[] #[])
  fields := #[]
  methods := #[]
  instanceTypes := #[]
  staticTypes := #[]
  resolved := Array.replicate 37 none
  statics := none }

def pool9 : Array CpInfo := pool [(1, .class_ 2), (0, u "java/lang/Integer"), (16, u "digits"), (0, u "[C"), (46, u "<init>"), (17, u "DigitOnes"), (0, u "[B"), (2, u "DigitTens"), (10, .nameAndType 67 101), (0, u "()V"), (85, u "valueOf"), (0, u "(I)Ljava/lang/Integer;"), (0, .class_ 190), (0, u "java/lang/Integer$IntegerCache"), (0, .fieldref 189 192), (0, .nameAndType 193 194), (0, u "high"), (0, u "I"), (0, .fieldref 189 196), (0, .nameAndType 197 198), (0, u "cache"), (0, u "[Ljava/lang/Integer;"), (0, .methodref 1 200), (0, .nameAndType 67 201), (0, u "(I)V"), (0, .methodref 203 100), (0, .class_ 204), (0, u "java/lang/Number"), (0, .fieldref 1 206), (0, .nameAndType 207 194), (0, u "value"), (94, u "TYPE"), (0, u "Ljava/lang/Class;"), (0, .class_ 305), (0, u "java/lang/Comparable"), (0, .class_ 307), (0, u "java/lang/constant/Constable"), (0, .class_ 309), (0, u "java/lang/constant/ConstantDesc"), (0, u "MIN_VALUE"), (1, u "MAX_VALUE"), (3, u "SIZE"), (1, u "BYTES"), (1, u "serialVersionUID"), (0, u "J")] 131

def k9c0 : Code := { maxStack := 3, maxLocals := 1, code := jdk_33_method_22_code, exceptionTable := #[], attributes := #[] }
def k9m0 : Method := { name := "valueOf", desc := "(I)Ljava/lang/Integer;", sig := { parameters := [.int], returnType := some (.object "java/lang/Integer") }, accessFlags := 9, code := some k9c0 }
def k9c1 : Code := { maxStack := 2, maxLocals := 2, code := jdk_33_method_23_code, exceptionTable := #[], attributes := #[] }
def k9m1 : Method := { name := "<init>", desc := "(I)V", sig := { parameters := [.int], returnType := none }, accessFlags := 1, code := some k9c1 }
/-- java/lang/Integer -/
def k9 : Class := { plain "java/lang/Integer" (some 5) with
  accessFlags := 49
  interfaces := #[6, 7, 8]
  cf := some (fileOf pool9 1 #[.nestMembers #[189]] #[{ accessFlags := 9, nameIndex := 187, descriptorIndex := 188, attributes := #[] }, { accessFlags := 1, nameIndex := 67, descriptorIndex := 201, attributes := #[] }] 49 203 #[304, 306, 308] #[{ accessFlags := 25, nameIndex := 310, descriptorIndex := 194, attributes := #[] }, { accessFlags := 25, nameIndex := 312, descriptorIndex := 194, attributes := #[] }, { accessFlags := 25, nameIndex := 302, descriptorIndex := 303, attributes := #[] }, { accessFlags := 24, nameIndex := 19, descriptorIndex := 20, attributes := #[] }, { accessFlags := 24, nameIndex := 89, descriptorIndex := 86, attributes := #[] }, { accessFlags := 24, nameIndex := 85, descriptorIndex := 86, attributes := #[] }, { accessFlags := 18, nameIndex := 207, descriptorIndex := 194, attributes := #[] }, { accessFlags := 25, nameIndex := 316, descriptorIndex := 194, attributes := #[] }, { accessFlags := 25, nameIndex := 318, descriptorIndex := 194, attributes := #[] }, { accessFlags := 26, nameIndex := 320, descriptorIndex := 321, attributes := #[] }])
  fields := #[{ name := "MIN_VALUE", type := .int, accessFlags := 25, slot := 0, constantValue := 0 }, { name := "MAX_VALUE", type := .int, accessFlags := 25, slot := 1, constantValue := 0 }, { name := "TYPE", type := (.object "java/lang/Class"), accessFlags := 25, slot := 2, constantValue := 0 }, { name := "digits", type := (.array .char), accessFlags := 24, slot := 3, constantValue := 0 }, { name := "DigitTens", type := (.array .byte), accessFlags := 24, slot := 4, constantValue := 0 }, { name := "DigitOnes", type := (.array .byte), accessFlags := 24, slot := 5, constantValue := 0 }, { name := "value", type := .int, accessFlags := 18, slot := 0, constantValue := 0 }, { name := "SIZE", type := .int, accessFlags := 25, slot := 6, constantValue := 0 }, { name := "BYTES", type := .int, accessFlags := 25, slot := 7, constantValue := 0 }, { name := "serialVersionUID", type := .long, accessFlags := 26, slot := 8, constantValue := 0 }]
  methods := #[k9m0, k9m1]
  instanceTypes := #[.int]
  staticTypes := #[.int, .int, (.object "java/lang/Class"), (.array .char), (.array .byte), (.array .byte), .int, .int, .long]
  resolved := Array.replicate 453 none
  statics := none }

def pool10 : Array CpInfo := pool [(2, .class_ 4), (1, u "java/lang/Object"), (0, u "<init>"), (0, u "()V"), (0, .class_ 8), (0, u "java/lang/Integer"), (7, .class_ 18), (1, u "java/lang/Integer$IntegerCache"), (0, u "$assertionsDisabled"), (0, u "Z"), (26, u "high"), (0, u "I"), (8, u "archivedCache"), (0, u "[Ljava/lang/Integer;"), (12, u "cache"), (0, u "low")] 27

def k10m0 : Method := { name := "<init>", desc := "()V", sig := { parameters := [], returnType := none }, accessFlags := 2, code := none }
/-- java/lang/Integer$IntegerCache -/
def k10 : Class := { plain "java/lang/Integer$IntegerCache" (some 0) with
  accessFlags := 48
  interfaces := #[]
  cf := some (fileOf pool10 16 #[.nestHost 7] #[{ accessFlags := 2, nameIndex := 5, descriptorIndex := 6, attributes := #[] }] 48 2 #[] #[{ accessFlags := 24, nameIndex := 72, descriptorIndex := 48, attributes := #[] }, { accessFlags := 24, nameIndex := 47, descriptorIndex := 48, attributes := #[] }, { accessFlags := 24, nameIndex := 71, descriptorIndex := 58, attributes := #[] }, { accessFlags := 8, nameIndex := 57, descriptorIndex := 58, attributes := #[] }, { accessFlags := 4120, nameIndex := 19, descriptorIndex := 20, attributes := #[] }])
  fields := #[{ name := "low", type := .int, accessFlags := 24, slot := 0, constantValue := 0 }, { name := "high", type := .int, accessFlags := 24, slot := 1, constantValue := 0 }, { name := "cache", type := (.array (.object "java/lang/Integer")), accessFlags := 24, slot := 2, constantValue := 0 }, { name := "archivedCache", type := (.array (.object "java/lang/Integer")), accessFlags := 8, slot := 3, constantValue := 0 }, { name := "$assertionsDisabled", type := .boolean, accessFlags := 4120, slot := 4, constantValue := 0 }]
  methods := #[k10m0]
  instanceTypes := #[]
  staticTypes := #[.int, .int, (.array (.object "java/lang/Integer")), (.array (.object "java/lang/Integer")), .boolean]
  resolved := Array.replicate 100 none
  statics := some 0 }

def pool11 : Array CpInfo := pool [(1, .class_ 2), (0, u "java/lang/Long"), (55, .nameAndType 59 60), (0, u "<init>"), (0, u "()V"), (24, u "valueOf"), (143, u "(J)Ljava/lang/Long;"), (0, .long 18446744073709551488), (1, .long 127), (1, .fieldref 235 236), (0, .class_ 237), (0, .nameAndType 238 239), (0, u "java/lang/Long$LongCache"), (0, u "cache"), (0, u "[Ljava/lang/Long;"), (0, .methodref 1 241), (0, .nameAndType 59 242), (0, u "(J)V"), (27, .methodref 271 58), (0, .class_ 272), (0, u "java/lang/Number"), (0, .fieldref 1 274), (0, .nameAndType 275 276), (0, u "value"), (0, u "J"), (84, u "TYPE"), (0, u "Ljava/lang/Class;"), (0, .class_ 364), (0, u "java/lang/Comparable"), (0, .class_ 366), (0, u "java/lang/constant/Constable"), (0, .class_ 368), (0, u "java/lang/constant/ConstantDesc"), (0, u "MIN_VALUE"), (1, u "MAX_VALUE"), (4, u "SIZE"), (0, u "I"), (1, u "BYTES"), (1, u "serialVersionUID")] 142

def k11c0 : Code := { maxStack := 4, maxLocals := 3, code := jdk_35_method_24_code, exceptionTable := #[], attributes := #[] }
def k11m0 : Method := { name := "valueOf", desc := "(J)Ljava/lang/Long;", sig := { parameters := [.long], returnType := some (.object "java/lang/Long") }, accessFlags := 9, code := some k11c0 }
def k11c1 : Code := { maxStack := 3, maxLocals := 3, code := jdk_35_method_26_code, exceptionTable := #[], attributes := #[] }
def k11m1 : Method := { name := "<init>", desc := "(J)V", sig := { parameters := [.long], returnType := none }, accessFlags := 1, code := some k11c1 }
/-- java/lang/Long -/
def k11 : Class := { plain "java/lang/Long" (some 5) with
  accessFlags := 49
  interfaces := #[6, 7, 8]
  cf := some (fileOf pool11 1 #[.nestMembers #[235]] #[{ accessFlags := 9, nameIndex := 85, descriptorIndex := 229, attributes := #[] }, { accessFlags := 1, nameIndex := 59, descriptorIndex := 242, attributes := #[] }] 49 271 #[363, 365, 367] #[{ accessFlags := 25, nameIndex := 369, descriptorIndex := 276, attributes := #[] }, { accessFlags := 25, nameIndex := 371, descriptorIndex := 276, attributes := #[] }, { accessFlags := 25, nameIndex := 361, descriptorIndex := 362, attributes := #[] }, { accessFlags := 18, nameIndex := 275, descriptorIndex := 276, attributes := #[] }, { accessFlags := 25, nameIndex := 376, descriptorIndex := 377, attributes := #[] }, { accessFlags := 25, nameIndex := 379, descriptorIndex := 377, attributes := #[] }, { accessFlags := 26, nameIndex := 381, descriptorIndex := 276, attributes := #[] }])
  fields := #[{ name := "MIN_VALUE", type := .long, accessFlags := 25, slot := 0, constantValue := 0 }, { name := "MAX_VALUE", type := .long, accessFlags := 25, slot := 1, constantValue := 0 }, { name := "TYPE", type := (.object "java/lang/Class"), accessFlags := 25, slot := 2, constantValue := 0 }, { name := "value", type := .long, accessFlags := 18, slot := 0, constantValue := 0 }, { name := "SIZE", type := .int, accessFlags := 25, slot := 3, constantValue := 0 }, { name := "BYTES", type := .int, accessFlags := 25, slot := 4, constantValue := 0 }, { name := "serialVersionUID", type := .long, accessFlags := 26, slot := 5, constantValue := 0 }]
  methods := #[k11m0, k11m1]
  instanceTypes := #[.long]
  staticTypes := #[.long, .long, (.object "java/lang/Class"), .int, .int, .long]
  resolved := Array.replicate 524 none
  statics := none }

def pool12 : Array CpInfo := pool [(2, .class_ 4), (1, u "java/lang/Object"), (0, u "<init>"), (0, u "()V"), (0, .class_ 8), (0, u "java/lang/Long"), (7, .class_ 18), (1, u "java/lang/Long$LongCache"), (0, u "$assertionsDisabled"), (0, u "Z"), (8, u "archivedCache"), (0, u "[Ljava/lang/Long;"), (7, u "cache")] 24

def k12m0 : Method := { name := "<init>", desc := "()V", sig := { parameters := [], returnType := none }, accessFlags := 2, code := none }
/-- java/lang/Long$LongCache -/
def k12 : Class := { plain "java/lang/Long$LongCache" (some 0) with
  accessFlags := 48
  interfaces := #[]
  cf := some (fileOf pool12 16 #[.nestHost 7] #[{ accessFlags := 2, nameIndex := 5, descriptorIndex := 6, attributes := #[] }] 48 2 #[] #[{ accessFlags := 24, nameIndex := 38, descriptorIndex := 30, attributes := #[] }, { accessFlags := 8, nameIndex := 29, descriptorIndex := 30, attributes := #[] }, { accessFlags := 4120, nameIndex := 19, descriptorIndex := 20, attributes := #[] }])
  fields := #[{ name := "cache", type := (.array (.object "java/lang/Long")), accessFlags := 24, slot := 0, constantValue := 0 }, { name := "archivedCache", type := (.array (.object "java/lang/Long")), accessFlags := 8, slot := 1, constantValue := 0 }, { name := "$assertionsDisabled", type := .boolean, accessFlags := 4120, slot := 2, constantValue := 0 }]
  methods := #[k12m0]
  instanceTypes := #[]
  staticTypes := #[(.array (.object "java/lang/Long")), (.array (.object "java/lang/Long")), .boolean]
  resolved := Array.replicate 63 none
  statics := some 1 }

def pool13 : Array CpInfo := pool [(1, u "java/lang/Cloneable"), (0, .class_ 1), (0, u "java/lang/Object"), (0, .class_ 3)] 3

/-- java/lang/Cloneable -/
def k13 : Class := { plain "java/lang/Cloneable" (some 0) with
  accessFlags := 1537
  interfaces := #[]
  cf := some (fileOf pool13 2 #[] #[] 1537 4 #[] #[])
  fields := #[]
  methods := #[]
  instanceTypes := #[]
  staticTypes := #[]
  resolved := Array.replicate 8 none
  statics := none }

/-- the primitive byte -/
def k14 : Class := { plain "byte" none with kind := .primitive 'B', accessFlags := 0x411 }
/-- [B -/
def k15 : Class := { plain "[B" (some 0) with kind := .array 14 .byte, interfaces := #[13, 4], accessFlags := 1041 }

/-- the primitive int -/
def k16 : Class := { plain "int" none with kind := .primitive 'I', accessFlags := 0x411 }
/-- [I -/
def k17 : Class := { plain "[I" (some 0) with kind := .array 16 .int, interfaces := #[13, 4], accessFlags := 1041 }

/-- [Ljava/lang/Integer; -/
def k18 : Class := { plain "[Ljava/lang/Integer;" (some 0) with kind := .array 9 (.object "java/lang/Integer"), interfaces := #[13, 4], accessFlags := 1041 }

/-- [Ljava/lang/Long; -/
def k19 : Class := { plain "[Ljava/lang/Long;" (some 0) with kind := .array 11 (.object "java/lang/Long"), interfaces := #[13, 4], accessFlags := 1041 }

def heap : Heap := #[{ cls := 10, slots := #[.int 0, .int 127, .ref 2, .null, .int 0], vm := .statics 10 },
  { cls := 12, slots := #[.ref 3, .null, .int 0], vm := .statics 12 },
  { cls := 18, slots := #[.ref 4, .ref 5, .ref 6, .ref 7, .ref 8, .ref 9, .ref 10, .ref 11, .ref 12, .ref 13, .ref 14, .ref 15, .ref 16, .ref 17, .ref 18, .ref 19, .ref 20, .ref 21, .ref 22, .ref 23, .ref 24, .ref 25, .ref 26, .ref 27, .ref 28, .ref 29, .ref 30, .ref 31, .ref 32, .ref 33, .ref 34, .ref 35, .ref 36, .ref 37, .ref 38, .ref 39, .ref 40, .ref 41, .ref 42, .ref 43, .ref 44, .ref 45, .ref 46, .ref 47, .ref 48, .ref 49, .ref 50, .ref 51, .ref 52, .ref 53, .ref 54, .ref 55, .ref 56, .ref 57, .ref 58, .ref 59, .ref 60, .ref 61, .ref 62, .ref 63, .ref 64, .ref 65, .ref 66, .ref 67, .ref 68, .ref 69, .ref 70, .ref 71, .ref 72, .ref 73, .ref 74, .ref 75, .ref 76, .ref 77, .ref 78, .ref 79, .ref 80, .ref 81, .ref 82, .ref 83, .ref 84, .ref 85, .ref 86, .ref 87, .ref 88, .ref 89, .ref 90, .ref 91, .ref 92, .ref 93, .ref 94, .ref 95, .ref 96, .ref 97, .ref 98, .ref 99, .ref 100, .ref 101, .ref 102, .ref 103, .ref 104, .ref 105, .ref 106, .ref 107, .ref 108, .ref 109, .ref 110, .ref 111, .ref 112, .ref 113, .ref 114, .ref 115, .ref 116, .ref 117, .ref 118, .ref 119, .ref 120, .ref 121, .ref 122, .ref 123, .ref 124, .ref 125, .ref 126, .ref 127, .ref 128, .ref 129, .ref 130, .ref 131, .ref 132, .ref 133, .ref 134, .ref 135, .ref 136, .ref 137, .ref 138, .ref 139, .ref 140, .ref 141, .ref 142, .ref 143, .ref 144, .ref 145, .ref 146, .ref 147, .ref 148, .ref 149, .ref 150, .ref 151, .ref 152, .ref 153, .ref 154, .ref 155, .ref 156, .ref 157, .ref 158, .ref 159, .ref 160, .ref 161, .ref 162, .ref 163, .ref 164, .ref 165, .ref 166, .ref 167, .ref 168, .ref 169, .ref 170, .ref 171, .ref 172, .ref 173, .ref 174, .ref 175, .ref 176, .ref 177, .ref 178, .ref 179, .ref 180, .ref 181, .ref 182, .ref 183, .ref 184, .ref 185, .ref 186, .ref 187, .ref 188, .ref 189, .ref 190, .ref 191, .ref 192, .ref 193, .ref 194, .ref 195, .ref 196, .ref 197, .ref 198, .ref 199, .ref 200, .ref 201, .ref 202, .ref 203, .ref 204, .ref 205, .ref 206, .ref 207, .ref 208, .ref 209, .ref 210, .ref 211, .ref 212, .ref 213, .ref 214, .ref 215, .ref 216, .ref 217, .ref 218, .ref 219, .ref 220, .ref 221, .ref 222, .ref 223, .ref 224, .ref 225, .ref 226, .ref 227, .ref 228, .ref 229, .ref 230, .ref 231, .ref 232, .ref 233, .ref 234, .ref 235, .ref 236, .ref 237, .ref 238, .ref 239, .ref 240, .ref 241, .ref 242, .ref 243, .ref 244, .ref 245, .ref 246, .ref 247, .ref 248, .ref 249, .ref 250, .ref 251, .ref 252, .ref 253, .ref 254, .ref 255, .ref 256, .ref 257, .ref 258, .ref 259], vm := .none },
  { cls := 19, slots := #[.ref 260, .ref 261, .ref 262, .ref 263, .ref 264, .ref 265, .ref 266, .ref 267, .ref 268, .ref 269, .ref 270, .ref 271, .ref 272, .ref 273, .ref 274, .ref 275, .ref 276, .ref 277, .ref 278, .ref 279, .ref 280, .ref 281, .ref 282, .ref 283, .ref 284, .ref 285, .ref 286, .ref 287, .ref 288, .ref 289, .ref 290, .ref 291, .ref 292, .ref 293, .ref 294, .ref 295, .ref 296, .ref 297, .ref 298, .ref 299, .ref 300, .ref 301, .ref 302, .ref 303, .ref 304, .ref 305, .ref 306, .ref 307, .ref 308, .ref 309, .ref 310, .ref 311, .ref 312, .ref 313, .ref 314, .ref 315, .ref 316, .ref 317, .ref 318, .ref 319, .ref 320, .ref 321, .ref 322, .ref 323, .ref 324, .ref 325, .ref 326, .ref 327, .ref 328, .ref 329, .ref 330, .ref 331, .ref 332, .ref 333, .ref 334, .ref 335, .ref 336, .ref 337, .ref 338, .ref 339, .ref 340, .ref 341, .ref 342, .ref 343, .ref 344, .ref 345, .ref 346, .ref 347, .ref 348, .ref 349, .ref 350, .ref 351, .ref 352, .ref 353, .ref 354, .ref 355, .ref 356, .ref 357, .ref 358, .ref 359, .ref 360, .ref 361, .ref 362, .ref 363, .ref 364, .ref 365, .ref 366, .ref 367, .ref 368, .ref 369, .ref 370, .ref 371, .ref 372, .ref 373, .ref 374, .ref 375, .ref 376, .ref 377, .ref 378, .ref 379, .ref 380, .ref 381, .ref 382, .ref 383, .ref 384, .ref 385, .ref 386, .ref 387, .ref 388, .ref 389, .ref 390, .ref 391, .ref 392, .ref 393, .ref 394, .ref 395, .ref 396, .ref 397, .ref 398, .ref 399, .ref 400, .ref 401, .ref 402, .ref 403, .ref 404, .ref 405, .ref 406, .ref 407, .ref 408, .ref 409, .ref 410, .ref 411, .ref 412, .ref 413, .ref 414, .ref 415, .ref 416, .ref 417, .ref 418, .ref 419, .ref 420, .ref 421, .ref 422, .ref 423, .ref 424, .ref 425, .ref 426, .ref 427, .ref 428, .ref 429, .ref 430, .ref 431, .ref 432, .ref 433, .ref 434, .ref 435, .ref 436, .ref 437, .ref 438, .ref 439, .ref 440, .ref 441, .ref 442, .ref 443, .ref 444, .ref 445, .ref 446, .ref 447, .ref 448, .ref 449, .ref 450, .ref 451, .ref 452, .ref 453, .ref 454, .ref 455, .ref 456, .ref 457, .ref 458, .ref 459, .ref 460, .ref 461, .ref 462, .ref 463, .ref 464, .ref 465, .ref 466, .ref 467, .ref 468, .ref 469, .ref 470, .ref 471, .ref 472, .ref 473, .ref 474, .ref 475, .ref 476, .ref 477, .ref 478, .ref 479, .ref 480, .ref 481, .ref 482, .ref 483, .ref 484, .ref 485, .ref 486, .ref 487, .ref 488, .ref 489, .ref 490, .ref 491, .ref 492, .ref 493, .ref 494, .ref 495, .ref 496, .ref 497, .ref 498, .ref 499, .ref 500, .ref 501, .ref 502, .ref 503, .ref 504, .ref 505, .ref 506, .ref 507, .ref 508, .ref 509, .ref 510, .ref 511, .ref 512, .ref 513, .ref 514, .ref 515], vm := .none },
  { cls := 9, slots := #[.int (-128)], vm := .none },
  { cls := 9, slots := #[.int (-127)], vm := .none },
  { cls := 9, slots := #[.int (-126)], vm := .none },
  { cls := 9, slots := #[.int (-125)], vm := .none },
  { cls := 9, slots := #[.int (-124)], vm := .none },
  { cls := 9, slots := #[.int (-123)], vm := .none },
  { cls := 9, slots := #[.int (-122)], vm := .none },
  { cls := 9, slots := #[.int (-121)], vm := .none },
  { cls := 9, slots := #[.int (-120)], vm := .none },
  { cls := 9, slots := #[.int (-119)], vm := .none },
  { cls := 9, slots := #[.int (-118)], vm := .none },
  { cls := 9, slots := #[.int (-117)], vm := .none },
  { cls := 9, slots := #[.int (-116)], vm := .none },
  { cls := 9, slots := #[.int (-115)], vm := .none },
  { cls := 9, slots := #[.int (-114)], vm := .none },
  { cls := 9, slots := #[.int (-113)], vm := .none },
  { cls := 9, slots := #[.int (-112)], vm := .none },
  { cls := 9, slots := #[.int (-111)], vm := .none },
  { cls := 9, slots := #[.int (-110)], vm := .none },
  { cls := 9, slots := #[.int (-109)], vm := .none },
  { cls := 9, slots := #[.int (-108)], vm := .none },
  { cls := 9, slots := #[.int (-107)], vm := .none },
  { cls := 9, slots := #[.int (-106)], vm := .none },
  { cls := 9, slots := #[.int (-105)], vm := .none },
  { cls := 9, slots := #[.int (-104)], vm := .none },
  { cls := 9, slots := #[.int (-103)], vm := .none },
  { cls := 9, slots := #[.int (-102)], vm := .none },
  { cls := 9, slots := #[.int (-101)], vm := .none },
  { cls := 9, slots := #[.int (-100)], vm := .none },
  { cls := 9, slots := #[.int (-99)], vm := .none },
  { cls := 9, slots := #[.int (-98)], vm := .none },
  { cls := 9, slots := #[.int (-97)], vm := .none },
  { cls := 9, slots := #[.int (-96)], vm := .none },
  { cls := 9, slots := #[.int (-95)], vm := .none },
  { cls := 9, slots := #[.int (-94)], vm := .none },
  { cls := 9, slots := #[.int (-93)], vm := .none },
  { cls := 9, slots := #[.int (-92)], vm := .none },
  { cls := 9, slots := #[.int (-91)], vm := .none },
  { cls := 9, slots := #[.int (-90)], vm := .none },
  { cls := 9, slots := #[.int (-89)], vm := .none },
  { cls := 9, slots := #[.int (-88)], vm := .none },
  { cls := 9, slots := #[.int (-87)], vm := .none },
  { cls := 9, slots := #[.int (-86)], vm := .none },
  { cls := 9, slots := #[.int (-85)], vm := .none },
  { cls := 9, slots := #[.int (-84)], vm := .none },
  { cls := 9, slots := #[.int (-83)], vm := .none },
  { cls := 9, slots := #[.int (-82)], vm := .none },
  { cls := 9, slots := #[.int (-81)], vm := .none },
  { cls := 9, slots := #[.int (-80)], vm := .none },
  { cls := 9, slots := #[.int (-79)], vm := .none },
  { cls := 9, slots := #[.int (-78)], vm := .none },
  { cls := 9, slots := #[.int (-77)], vm := .none },
  { cls := 9, slots := #[.int (-76)], vm := .none },
  { cls := 9, slots := #[.int (-75)], vm := .none },
  { cls := 9, slots := #[.int (-74)], vm := .none },
  { cls := 9, slots := #[.int (-73)], vm := .none },
  { cls := 9, slots := #[.int (-72)], vm := .none },
  { cls := 9, slots := #[.int (-71)], vm := .none },
  { cls := 9, slots := #[.int (-70)], vm := .none },
  { cls := 9, slots := #[.int (-69)], vm := .none },
  { cls := 9, slots := #[.int (-68)], vm := .none },
  { cls := 9, slots := #[.int (-67)], vm := .none },
  { cls := 9, slots := #[.int (-66)], vm := .none },
  { cls := 9, slots := #[.int (-65)], vm := .none },
  { cls := 9, slots := #[.int (-64)], vm := .none },
  { cls := 9, slots := #[.int (-63)], vm := .none },
  { cls := 9, slots := #[.int (-62)], vm := .none },
  { cls := 9, slots := #[.int (-61)], vm := .none },
  { cls := 9, slots := #[.int (-60)], vm := .none },
  { cls := 9, slots := #[.int (-59)], vm := .none },
  { cls := 9, slots := #[.int (-58)], vm := .none },
  { cls := 9, slots := #[.int (-57)], vm := .none },
  { cls := 9, slots := #[.int (-56)], vm := .none },
  { cls := 9, slots := #[.int (-55)], vm := .none },
  { cls := 9, slots := #[.int (-54)], vm := .none },
  { cls := 9, slots := #[.int (-53)], vm := .none },
  { cls := 9, slots := #[.int (-52)], vm := .none },
  { cls := 9, slots := #[.int (-51)], vm := .none },
  { cls := 9, slots := #[.int (-50)], vm := .none },
  { cls := 9, slots := #[.int (-49)], vm := .none },
  { cls := 9, slots := #[.int (-48)], vm := .none },
  { cls := 9, slots := #[.int (-47)], vm := .none },
  { cls := 9, slots := #[.int (-46)], vm := .none },
  { cls := 9, slots := #[.int (-45)], vm := .none },
  { cls := 9, slots := #[.int (-44)], vm := .none },
  { cls := 9, slots := #[.int (-43)], vm := .none },
  { cls := 9, slots := #[.int (-42)], vm := .none },
  { cls := 9, slots := #[.int (-41)], vm := .none },
  { cls := 9, slots := #[.int (-40)], vm := .none },
  { cls := 9, slots := #[.int (-39)], vm := .none },
  { cls := 9, slots := #[.int (-38)], vm := .none },
  { cls := 9, slots := #[.int (-37)], vm := .none },
  { cls := 9, slots := #[.int (-36)], vm := .none },
  { cls := 9, slots := #[.int (-35)], vm := .none },
  { cls := 9, slots := #[.int (-34)], vm := .none },
  { cls := 9, slots := #[.int (-33)], vm := .none },
  { cls := 9, slots := #[.int (-32)], vm := .none },
  { cls := 9, slots := #[.int (-31)], vm := .none },
  { cls := 9, slots := #[.int (-30)], vm := .none },
  { cls := 9, slots := #[.int (-29)], vm := .none },
  { cls := 9, slots := #[.int (-28)], vm := .none },
  { cls := 9, slots := #[.int (-27)], vm := .none },
  { cls := 9, slots := #[.int (-26)], vm := .none },
  { cls := 9, slots := #[.int (-25)], vm := .none },
  { cls := 9, slots := #[.int (-24)], vm := .none },
  { cls := 9, slots := #[.int (-23)], vm := .none },
  { cls := 9, slots := #[.int (-22)], vm := .none },
  { cls := 9, slots := #[.int (-21)], vm := .none },
  { cls := 9, slots := #[.int (-20)], vm := .none },
  { cls := 9, slots := #[.int (-19)], vm := .none },
  { cls := 9, slots := #[.int (-18)], vm := .none },
  { cls := 9, slots := #[.int (-17)], vm := .none },
  { cls := 9, slots := #[.int (-16)], vm := .none },
  { cls := 9, slots := #[.int (-15)], vm := .none },
  { cls := 9, slots := #[.int (-14)], vm := .none },
  { cls := 9, slots := #[.int (-13)], vm := .none },
  { cls := 9, slots := #[.int (-12)], vm := .none },
  { cls := 9, slots := #[.int (-11)], vm := .none },
  { cls := 9, slots := #[.int (-10)], vm := .none },
  { cls := 9, slots := #[.int (-9)], vm := .none },
  { cls := 9, slots := #[.int (-8)], vm := .none },
  { cls := 9, slots := #[.int (-7)], vm := .none },
  { cls := 9, slots := #[.int (-6)], vm := .none },
  { cls := 9, slots := #[.int (-5)], vm := .none },
  { cls := 9, slots := #[.int (-4)], vm := .none },
  { cls := 9, slots := #[.int (-3)], vm := .none },
  { cls := 9, slots := #[.int (-2)], vm := .none },
  { cls := 9, slots := #[.int (-1)], vm := .none },
  { cls := 9, slots := #[.int 0], vm := .none },
  { cls := 9, slots := #[.int 1], vm := .none },
  { cls := 9, slots := #[.int 2], vm := .none },
  { cls := 9, slots := #[.int 3], vm := .none },
  { cls := 9, slots := #[.int 4], vm := .none },
  { cls := 9, slots := #[.int 5], vm := .none },
  { cls := 9, slots := #[.int 6], vm := .none },
  { cls := 9, slots := #[.int 7], vm := .none },
  { cls := 9, slots := #[.int 8], vm := .none },
  { cls := 9, slots := #[.int 9], vm := .none },
  { cls := 9, slots := #[.int 10], vm := .none },
  { cls := 9, slots := #[.int 11], vm := .none },
  { cls := 9, slots := #[.int 12], vm := .none },
  { cls := 9, slots := #[.int 13], vm := .none },
  { cls := 9, slots := #[.int 14], vm := .none },
  { cls := 9, slots := #[.int 15], vm := .none },
  { cls := 9, slots := #[.int 16], vm := .none },
  { cls := 9, slots := #[.int 17], vm := .none },
  { cls := 9, slots := #[.int 18], vm := .none },
  { cls := 9, slots := #[.int 19], vm := .none },
  { cls := 9, slots := #[.int 20], vm := .none },
  { cls := 9, slots := #[.int 21], vm := .none },
  { cls := 9, slots := #[.int 22], vm := .none },
  { cls := 9, slots := #[.int 23], vm := .none },
  { cls := 9, slots := #[.int 24], vm := .none },
  { cls := 9, slots := #[.int 25], vm := .none },
  { cls := 9, slots := #[.int 26], vm := .none },
  { cls := 9, slots := #[.int 27], vm := .none },
  { cls := 9, slots := #[.int 28], vm := .none },
  { cls := 9, slots := #[.int 29], vm := .none },
  { cls := 9, slots := #[.int 30], vm := .none },
  { cls := 9, slots := #[.int 31], vm := .none },
  { cls := 9, slots := #[.int 32], vm := .none },
  { cls := 9, slots := #[.int 33], vm := .none },
  { cls := 9, slots := #[.int 34], vm := .none },
  { cls := 9, slots := #[.int 35], vm := .none },
  { cls := 9, slots := #[.int 36], vm := .none },
  { cls := 9, slots := #[.int 37], vm := .none },
  { cls := 9, slots := #[.int 38], vm := .none },
  { cls := 9, slots := #[.int 39], vm := .none },
  { cls := 9, slots := #[.int 40], vm := .none },
  { cls := 9, slots := #[.int 41], vm := .none },
  { cls := 9, slots := #[.int 42], vm := .none },
  { cls := 9, slots := #[.int 43], vm := .none },
  { cls := 9, slots := #[.int 44], vm := .none },
  { cls := 9, slots := #[.int 45], vm := .none },
  { cls := 9, slots := #[.int 46], vm := .none },
  { cls := 9, slots := #[.int 47], vm := .none },
  { cls := 9, slots := #[.int 48], vm := .none },
  { cls := 9, slots := #[.int 49], vm := .none },
  { cls := 9, slots := #[.int 50], vm := .none },
  { cls := 9, slots := #[.int 51], vm := .none },
  { cls := 9, slots := #[.int 52], vm := .none },
  { cls := 9, slots := #[.int 53], vm := .none },
  { cls := 9, slots := #[.int 54], vm := .none },
  { cls := 9, slots := #[.int 55], vm := .none },
  { cls := 9, slots := #[.int 56], vm := .none },
  { cls := 9, slots := #[.int 57], vm := .none },
  { cls := 9, slots := #[.int 58], vm := .none },
  { cls := 9, slots := #[.int 59], vm := .none },
  { cls := 9, slots := #[.int 60], vm := .none },
  { cls := 9, slots := #[.int 61], vm := .none },
  { cls := 9, slots := #[.int 62], vm := .none },
  { cls := 9, slots := #[.int 63], vm := .none },
  { cls := 9, slots := #[.int 64], vm := .none },
  { cls := 9, slots := #[.int 65], vm := .none },
  { cls := 9, slots := #[.int 66], vm := .none },
  { cls := 9, slots := #[.int 67], vm := .none },
  { cls := 9, slots := #[.int 68], vm := .none },
  { cls := 9, slots := #[.int 69], vm := .none },
  { cls := 9, slots := #[.int 70], vm := .none },
  { cls := 9, slots := #[.int 71], vm := .none },
  { cls := 9, slots := #[.int 72], vm := .none },
  { cls := 9, slots := #[.int 73], vm := .none },
  { cls := 9, slots := #[.int 74], vm := .none },
  { cls := 9, slots := #[.int 75], vm := .none },
  { cls := 9, slots := #[.int 76], vm := .none },
  { cls := 9, slots := #[.int 77], vm := .none },
  { cls := 9, slots := #[.int 78], vm := .none },
  { cls := 9, slots := #[.int 79], vm := .none },
  { cls := 9, slots := #[.int 80], vm := .none },
  { cls := 9, slots := #[.int 81], vm := .none },
  { cls := 9, slots := #[.int 82], vm := .none },
  { cls := 9, slots := #[.int 83], vm := .none },
  { cls := 9, slots := #[.int 84], vm := .none },
  { cls := 9, slots := #[.int 85], vm := .none },
  { cls := 9, slots := #[.int 86], vm := .none },
  { cls := 9, slots := #[.int 87], vm := .none },
  { cls := 9, slots := #[.int 88], vm := .none },
  { cls := 9, slots := #[.int 89], vm := .none },
  { cls := 9, slots := #[.int 90], vm := .none },
  { cls := 9, slots := #[.int 91], vm := .none },
  { cls := 9, slots := #[.int 92], vm := .none },
  { cls := 9, slots := #[.int 93], vm := .none },
  { cls := 9, slots := #[.int 94], vm := .none },
  { cls := 9, slots := #[.int 95], vm := .none },
  { cls := 9, slots := #[.int 96], vm := .none },
  { cls := 9, slots := #[.int 97], vm := .none },
  { cls := 9, slots := #[.int 98], vm := .none },
  { cls := 9, slots := #[.int 99], vm := .none },
  { cls := 9, slots := #[.int 100], vm := .none },
  { cls := 9, slots := #[.int 101], vm := .none },
  { cls := 9, slots := #[.int 102], vm := .none },
  { cls := 9, slots := #[.int 103], vm := .none },
  { cls := 9, slots := #[.int 104], vm := .none },
  { cls := 9, slots := #[.int 105], vm := .none },
  { cls := 9, slots := #[.int 106], vm := .none },
  { cls := 9, slots := #[.int 107], vm := .none },
  { cls := 9, slots := #[.int 108], vm := .none },
  { cls := 9, slots := #[.int 109], vm := .none },
  { cls := 9, slots := #[.int 110], vm := .none },
  { cls := 9, slots := #[.int 111], vm := .none },
  { cls := 9, slots := #[.int 112], vm := .none },
  { cls := 9, slots := #[.int 113], vm := .none },
  { cls := 9, slots := #[.int 114], vm := .none },
  { cls := 9, slots := #[.int 115], vm := .none },
  { cls := 9, slots := #[.int 116], vm := .none },
  { cls := 9, slots := #[.int 117], vm := .none },
  { cls := 9, slots := #[.int 118], vm := .none },
  { cls := 9, slots := #[.int 119], vm := .none },
  { cls := 9, slots := #[.int 120], vm := .none },
  { cls := 9, slots := #[.int 121], vm := .none },
  { cls := 9, slots := #[.int 122], vm := .none },
  { cls := 9, slots := #[.int 123], vm := .none },
  { cls := 9, slots := #[.int 124], vm := .none },
  { cls := 9, slots := #[.int 125], vm := .none },
  { cls := 9, slots := #[.int 126], vm := .none },
  { cls := 9, slots := #[.int 127], vm := .none },
  { cls := 11, slots := #[.long (-128)], vm := .none },
  { cls := 11, slots := #[.long (-127)], vm := .none },
  { cls := 11, slots := #[.long (-126)], vm := .none },
  { cls := 11, slots := #[.long (-125)], vm := .none },
  { cls := 11, slots := #[.long (-124)], vm := .none },
  { cls := 11, slots := #[.long (-123)], vm := .none },
  { cls := 11, slots := #[.long (-122)], vm := .none },
  { cls := 11, slots := #[.long (-121)], vm := .none },
  { cls := 11, slots := #[.long (-120)], vm := .none },
  { cls := 11, slots := #[.long (-119)], vm := .none },
  { cls := 11, slots := #[.long (-118)], vm := .none },
  { cls := 11, slots := #[.long (-117)], vm := .none },
  { cls := 11, slots := #[.long (-116)], vm := .none },
  { cls := 11, slots := #[.long (-115)], vm := .none },
  { cls := 11, slots := #[.long (-114)], vm := .none },
  { cls := 11, slots := #[.long (-113)], vm := .none },
  { cls := 11, slots := #[.long (-112)], vm := .none },
  { cls := 11, slots := #[.long (-111)], vm := .none },
  { cls := 11, slots := #[.long (-110)], vm := .none },
  { cls := 11, slots := #[.long (-109)], vm := .none },
  { cls := 11, slots := #[.long (-108)], vm := .none },
  { cls := 11, slots := #[.long (-107)], vm := .none },
  { cls := 11, slots := #[.long (-106)], vm := .none },
  { cls := 11, slots := #[.long (-105)], vm := .none },
  { cls := 11, slots := #[.long (-104)], vm := .none },
  { cls := 11, slots := #[.long (-103)], vm := .none },
  { cls := 11, slots := #[.long (-102)], vm := .none },
  { cls := 11, slots := #[.long (-101)], vm := .none },
  { cls := 11, slots := #[.long (-100)], vm := .none },
  { cls := 11, slots := #[.long (-99)], vm := .none },
  { cls := 11, slots := #[.long (-98)], vm := .none },
  { cls := 11, slots := #[.long (-97)], vm := .none },
  { cls := 11, slots := #[.long (-96)], vm := .none },
  { cls := 11, slots := #[.long (-95)], vm := .none },
  { cls := 11, slots := #[.long (-94)], vm := .none },
  { cls := 11, slots := #[.long (-93)], vm := .none },
  { cls := 11, slots := #[.long (-92)], vm := .none },
  { cls := 11, slots := #[.long (-91)], vm := .none },
  { cls := 11, slots := #[.long (-90)], vm := .none },
  { cls := 11, slots := #[.long (-89)], vm := .none },
  { cls := 11, slots := #[.long (-88)], vm := .none },
  { cls := 11, slots := #[.long (-87)], vm := .none },
  { cls := 11, slots := #[.long (-86)], vm := .none },
  { cls := 11, slots := #[.long (-85)], vm := .none },
  { cls := 11, slots := #[.long (-84)], vm := .none },
  { cls := 11, slots := #[.long (-83)], vm := .none },
  { cls := 11, slots := #[.long (-82)], vm := .none },
  { cls := 11, slots := #[.long (-81)], vm := .none },
  { cls := 11, slots := #[.long (-80)], vm := .none },
  { cls := 11, slots := #[.long (-79)], vm := .none },
  { cls := 11, slots := #[.long (-78)], vm := .none },
  { cls := 11, slots := #[.long (-77)], vm := .none },
  { cls := 11, slots := #[.long (-76)], vm := .none },
  { cls := 11, slots := #[.long (-75)], vm := .none },
  { cls := 11, slots := #[.long (-74)], vm := .none },
  { cls := 11, slots := #[.long (-73)], vm := .none },
  { cls := 11, slots := #[.long (-72)], vm := .none },
  { cls := 11, slots := #[.long (-71)], vm := .none },
  { cls := 11, slots := #[.long (-70)], vm := .none },
  { cls := 11, slots := #[.long (-69)], vm := .none },
  { cls := 11, slots := #[.long (-68)], vm := .none },
  { cls := 11, slots := #[.long (-67)], vm := .none },
  { cls := 11, slots := #[.long (-66)], vm := .none },
  { cls := 11, slots := #[.long (-65)], vm := .none },
  { cls := 11, slots := #[.long (-64)], vm := .none },
  { cls := 11, slots := #[.long (-63)], vm := .none },
  { cls := 11, slots := #[.long (-62)], vm := .none },
  { cls := 11, slots := #[.long (-61)], vm := .none },
  { cls := 11, slots := #[.long (-60)], vm := .none },
  { cls := 11, slots := #[.long (-59)], vm := .none },
  { cls := 11, slots := #[.long (-58)], vm := .none },
  { cls := 11, slots := #[.long (-57)], vm := .none },
  { cls := 11, slots := #[.long (-56)], vm := .none },
  { cls := 11, slots := #[.long (-55)], vm := .none },
  { cls := 11, slots := #[.long (-54)], vm := .none },
  { cls := 11, slots := #[.long (-53)], vm := .none },
  { cls := 11, slots := #[.long (-52)], vm := .none },
  { cls := 11, slots := #[.long (-51)], vm := .none },
  { cls := 11, slots := #[.long (-50)], vm := .none },
  { cls := 11, slots := #[.long (-49)], vm := .none },
  { cls := 11, slots := #[.long (-48)], vm := .none },
  { cls := 11, slots := #[.long (-47)], vm := .none },
  { cls := 11, slots := #[.long (-46)], vm := .none },
  { cls := 11, slots := #[.long (-45)], vm := .none },
  { cls := 11, slots := #[.long (-44)], vm := .none },
  { cls := 11, slots := #[.long (-43)], vm := .none },
  { cls := 11, slots := #[.long (-42)], vm := .none },
  { cls := 11, slots := #[.long (-41)], vm := .none },
  { cls := 11, slots := #[.long (-40)], vm := .none },
  { cls := 11, slots := #[.long (-39)], vm := .none },
  { cls := 11, slots := #[.long (-38)], vm := .none },
  { cls := 11, slots := #[.long (-37)], vm := .none },
  { cls := 11, slots := #[.long (-36)], vm := .none },
  { cls := 11, slots := #[.long (-35)], vm := .none },
  { cls := 11, slots := #[.long (-34)], vm := .none },
  { cls := 11, slots := #[.long (-33)], vm := .none },
  { cls := 11, slots := #[.long (-32)], vm := .none },
  { cls := 11, slots := #[.long (-31)], vm := .none },
  { cls := 11, slots := #[.long (-30)], vm := .none },
  { cls := 11, slots := #[.long (-29)], vm := .none },
  { cls := 11, slots := #[.long (-28)], vm := .none },
  { cls := 11, slots := #[.long (-27)], vm := .none },
  { cls := 11, slots := #[.long (-26)], vm := .none },
  { cls := 11, slots := #[.long (-25)], vm := .none },
  { cls := 11, slots := #[.long (-24)], vm := .none },
  { cls := 11, slots := #[.long (-23)], vm := .none },
  { cls := 11, slots := #[.long (-22)], vm := .none },
  { cls := 11, slots := #[.long (-21)], vm := .none },
  { cls := 11, slots := #[.long (-20)], vm := .none },
  { cls := 11, slots := #[.long (-19)], vm := .none },
  { cls := 11, slots := #[.long (-18)], vm := .none },
  { cls := 11, slots := #[.long (-17)], vm := .none },
  { cls := 11, slots := #[.long (-16)], vm := .none },
  { cls := 11, slots := #[.long (-15)], vm := .none },
  { cls := 11, slots := #[.long (-14)], vm := .none },
  { cls := 11, slots := #[.long (-13)], vm := .none },
  { cls := 11, slots := #[.long (-12)], vm := .none },
  { cls := 11, slots := #[.long (-11)], vm := .none },
  { cls := 11, slots := #[.long (-10)], vm := .none },
  { cls := 11, slots := #[.long (-9)], vm := .none },
  { cls := 11, slots := #[.long (-8)], vm := .none },
  { cls := 11, slots := #[.long (-7)], vm := .none },
  { cls := 11, slots := #[.long (-6)], vm := .none },
  { cls := 11, slots := #[.long (-5)], vm := .none },
  { cls := 11, slots := #[.long (-4)], vm := .none },
  { cls := 11, slots := #[.long (-3)], vm := .none },
  { cls := 11, slots := #[.long (-2)], vm := .none },
  { cls := 11, slots := #[.long (-1)], vm := .none },
  { cls := 11, slots := #[.long 0], vm := .none },
  { cls := 11, slots := #[.long 1], vm := .none },
  { cls := 11, slots := #[.long 2], vm := .none },
  { cls := 11, slots := #[.long 3], vm := .none },
  { cls := 11, slots := #[.long 4], vm := .none },
  { cls := 11, slots := #[.long 5], vm := .none },
  { cls := 11, slots := #[.long 6], vm := .none },
  { cls := 11, slots := #[.long 7], vm := .none },
  { cls := 11, slots := #[.long 8], vm := .none },
  { cls := 11, slots := #[.long 9], vm := .none },
  { cls := 11, slots := #[.long 10], vm := .none },
  { cls := 11, slots := #[.long 11], vm := .none },
  { cls := 11, slots := #[.long 12], vm := .none },
  { cls := 11, slots := #[.long 13], vm := .none },
  { cls := 11, slots := #[.long 14], vm := .none },
  { cls := 11, slots := #[.long 15], vm := .none },
  { cls := 11, slots := #[.long 16], vm := .none },
  { cls := 11, slots := #[.long 17], vm := .none },
  { cls := 11, slots := #[.long 18], vm := .none },
  { cls := 11, slots := #[.long 19], vm := .none },
  { cls := 11, slots := #[.long 20], vm := .none },
  { cls := 11, slots := #[.long 21], vm := .none },
  { cls := 11, slots := #[.long 22], vm := .none },
  { cls := 11, slots := #[.long 23], vm := .none },
  { cls := 11, slots := #[.long 24], vm := .none },
  { cls := 11, slots := #[.long 25], vm := .none },
  { cls := 11, slots := #[.long 26], vm := .none },
  { cls := 11, slots := #[.long 27], vm := .none },
  { cls := 11, slots := #[.long 28], vm := .none },
  { cls := 11, slots := #[.long 29], vm := .none },
  { cls := 11, slots := #[.long 30], vm := .none },
  { cls := 11, slots := #[.long 31], vm := .none },
  { cls := 11, slots := #[.long 32], vm := .none },
  { cls := 11, slots := #[.long 33], vm := .none },
  { cls := 11, slots := #[.long 34], vm := .none },
  { cls := 11, slots := #[.long 35], vm := .none },
  { cls := 11, slots := #[.long 36], vm := .none },
  { cls := 11, slots := #[.long 37], vm := .none },
  { cls := 11, slots := #[.long 38], vm := .none },
  { cls := 11, slots := #[.long 39], vm := .none },
  { cls := 11, slots := #[.long 40], vm := .none },
  { cls := 11, slots := #[.long 41], vm := .none },
  { cls := 11, slots := #[.long 42], vm := .none },
  { cls := 11, slots := #[.long 43], vm := .none },
  { cls := 11, slots := #[.long 44], vm := .none },
  { cls := 11, slots := #[.long 45], vm := .none },
  { cls := 11, slots := #[.long 46], vm := .none },
  { cls := 11, slots := #[.long 47], vm := .none },
  { cls := 11, slots := #[.long 48], vm := .none },
  { cls := 11, slots := #[.long 49], vm := .none },
  { cls := 11, slots := #[.long 50], vm := .none },
  { cls := 11, slots := #[.long 51], vm := .none },
  { cls := 11, slots := #[.long 52], vm := .none },
  { cls := 11, slots := #[.long 53], vm := .none },
  { cls := 11, slots := #[.long 54], vm := .none },
  { cls := 11, slots := #[.long 55], vm := .none },
  { cls := 11, slots := #[.long 56], vm := .none },
  { cls := 11, slots := #[.long 57], vm := .none },
  { cls := 11, slots := #[.long 58], vm := .none },
  { cls := 11, slots := #[.long 59], vm := .none },
  { cls := 11, slots := #[.long 60], vm := .none },
  { cls := 11, slots := #[.long 61], vm := .none },
  { cls := 11, slots := #[.long 62], vm := .none },
  { cls := 11, slots := #[.long 63], vm := .none },
  { cls := 11, slots := #[.long 64], vm := .none },
  { cls := 11, slots := #[.long 65], vm := .none },
  { cls := 11, slots := #[.long 66], vm := .none },
  { cls := 11, slots := #[.long 67], vm := .none },
  { cls := 11, slots := #[.long 68], vm := .none },
  { cls := 11, slots := #[.long 69], vm := .none },
  { cls := 11, slots := #[.long 70], vm := .none },
  { cls := 11, slots := #[.long 71], vm := .none },
  { cls := 11, slots := #[.long 72], vm := .none },
  { cls := 11, slots := #[.long 73], vm := .none },
  { cls := 11, slots := #[.long 74], vm := .none },
  { cls := 11, slots := #[.long 75], vm := .none },
  { cls := 11, slots := #[.long 76], vm := .none },
  { cls := 11, slots := #[.long 77], vm := .none },
  { cls := 11, slots := #[.long 78], vm := .none },
  { cls := 11, slots := #[.long 79], vm := .none },
  { cls := 11, slots := #[.long 80], vm := .none },
  { cls := 11, slots := #[.long 81], vm := .none },
  { cls := 11, slots := #[.long 82], vm := .none },
  { cls := 11, slots := #[.long 83], vm := .none },
  { cls := 11, slots := #[.long 84], vm := .none },
  { cls := 11, slots := #[.long 85], vm := .none },
  { cls := 11, slots := #[.long 86], vm := .none },
  { cls := 11, slots := #[.long 87], vm := .none },
  { cls := 11, slots := #[.long 88], vm := .none },
  { cls := 11, slots := #[.long 89], vm := .none },
  { cls := 11, slots := #[.long 90], vm := .none },
  { cls := 11, slots := #[.long 91], vm := .none },
  { cls := 11, slots := #[.long 92], vm := .none },
  { cls := 11, slots := #[.long 93], vm := .none },
  { cls := 11, slots := #[.long 94], vm := .none },
  { cls := 11, slots := #[.long 95], vm := .none },
  { cls := 11, slots := #[.long 96], vm := .none },
  { cls := 11, slots := #[.long 97], vm := .none },
  { cls := 11, slots := #[.long 98], vm := .none },
  { cls := 11, slots := #[.long 99], vm := .none },
  { cls := 11, slots := #[.long 100], vm := .none },
  { cls := 11, slots := #[.long 101], vm := .none },
  { cls := 11, slots := #[.long 102], vm := .none },
  { cls := 11, slots := #[.long 103], vm := .none },
  { cls := 11, slots := #[.long 104], vm := .none },
  { cls := 11, slots := #[.long 105], vm := .none },
  { cls := 11, slots := #[.long 106], vm := .none },
  { cls := 11, slots := #[.long 107], vm := .none },
  { cls := 11, slots := #[.long 108], vm := .none },
  { cls := 11, slots := #[.long 109], vm := .none },
  { cls := 11, slots := #[.long 110], vm := .none },
  { cls := 11, slots := #[.long 111], vm := .none },
  { cls := 11, slots := #[.long 112], vm := .none },
  { cls := 11, slots := #[.long 113], vm := .none },
  { cls := 11, slots := #[.long 114], vm := .none },
  { cls := 11, slots := #[.long 115], vm := .none },
  { cls := 11, slots := #[.long 116], vm := .none },
  { cls := 11, slots := #[.long 117], vm := .none },
  { cls := 11, slots := #[.long 118], vm := .none },
  { cls := 11, slots := #[.long 119], vm := .none },
  { cls := 11, slots := #[.long 120], vm := .none },
  { cls := 11, slots := #[.long 121], vm := .none },
  { cls := 11, slots := #[.long 122], vm := .none },
  { cls := 11, slots := #[.long 123], vm := .none },
  { cls := 11, slots := #[.long 124], vm := .none },
  { cls := 11, slots := #[.long 125], vm := .none },
  { cls := 11, slots := #[.long 126], vm := .none },
  { cls := 11, slots := #[.long 127], vm := .none }]
def classes : Array Class := #[k0, k1, k2, k3, k4, k5, k6, k7, k8, k9, k10, k11, k12, k13, k14, k15, k16, k17, k18, k19]
def interned : List (Array UInt16 × Addr) := []
def slotsUsed : Nat := 1032
def theMethod : MethodId := ⟨1, 1⟩
def args0 : Array Value := #[.int 5, .long 7, .int 6, .long 9, .int 2]
def aboutOver (below : List Frame) : State where
  vm := { classes := classes, interned := interned.toArray }
  heap := heap
  slotsUsed := slotsUsed
  threads := #[{ frames := .invoking theMethod args0 :: below }]
def below0 : List Frame := [.native { method := ⟨0, 0⟩, args := #[] }]
def about1 : State := aboutOver below0
def p0 : Program := .bare "" "" ""
def e0 : Env := launch0.env 0 0 0
theorem w_frames : about1.frames = Frame.invoking theMethod args0 :: below0 := rfl
set_option maxRecDepth 65536 in
theorem w_args : argsFit about1.vm theMethod args0 = true := by decide +kernel
set_option maxRecDepth 65536 in
theorem w_heap : heapFits about1 = true := by decide +kernel
set_option maxRecDepth 65536 in
theorem w_runnable : about1.curStatus? = some .runnable := by decide +kernel
set_option maxRecDepth 65536 in
theorem w_alone : about1.alone = true := by decide +kernel
set_option maxRecDepth 65536 in
theorem w_named : about1.methodNamed? x = some theMethod := by decide +kernel
set_option maxRecDepth 65536 in
theorem w_hears : about1.hears theMethod below0 = true := by decide +kernel
set_option maxRecDepth 65536 in
theorem w_ripe : about1.ripe theMethod args0 below0 = true := by decide +kernel
theorem w_running : about1.status = .running := rfl
set_option maxRecDepth 65536 in
theorem w_room : about1.hasRoom e0.platform room_1 = true :=
  launch0.hasRoom_least _ room_1 (by decide +kernel) (by decide +kernel) (by decide +kernel) (by decide +kernel) (by decide +kernel) (by decide +kernel)
theorem allAtoms_all (ts : List Jvm.Cond) (a : Array Jvm.Value) (st : Jvm.State) : (allAtoms ts).before a st = ts.all (fun c => c.before a st) := by
  induction ts with
  | nil => rfl
  | cons c t ih =>
    show (Jvm.Cond.and c (allAtoms t)).before a st = _
    rw [Jvm.Cond.before_and, ih, List.all_cons]
def words1 : List Jvm.Cond := Jvm.Cond.code x code maxLocals ret :: tables_1
/-- a 'code' word, met by the world's own term for the bytes: nothing is compared byte by byte -/
theorem code_word {y : MethodName} {bytes : ByteArray} {mx : Nat} {rt : Option FieldType} {a : Array Value} {s : State} {m : MethodId} {meth : Method} {c : Code} (h1 : s.methodNamed? y = some m) (h2 : s.vm.method? m = some meth) (h3 : meth.code = some c) (h4 : c.code = bytes)
    (h5 : (c.maxLocals == mx && c.exceptionTable.isEmpty && decide (c.maxStack ≤ mostOperands) && decide (meth.sig.returnType = rt) && !meth.locks && decide (parseMethodDescriptor y.desc = some meth.sig)) = true) : (Jvm.Cond.code y bytes mx rt).before a s = true := by
  simp only [Bool.and_eq_true, beq_iff_eq, Bool.not_eq_true', decide_eq_true_eq] at h5
  obtain ⟨⟨⟨⟨⟨g1, g2⟩, g3⟩, g4⟩, g5⟩, g6⟩ := h5
  simp [Cond.before, Cond.holds, Cond.value, h1, h2, h3, h4, g1, g2, g3, g4, g5, g6]
def isCode : Jvm.Cond → Bool
  | .code _ _ _ _ => true
  | _ => false
theorem all_split {L : List Jvm.Cond} {P : Jvm.Cond → Bool} (h1 : L.all (fun c => isCode c || P c) = true) (h2 : ∀ c ∈ L.filter isCode, P c = true) : L.all P = true := by
  refine List.all_eq_true.mpr fun c hc => ?_
  have h := List.all_eq_true.mp h1 c hc
  rcases Bool.eq_false_or_eq_true (isCode c) with hi | hi
  · exact h2 c (List.mem_filter.mpr ⟨hc, hi⟩)
  · simpa [hi] using h
set_option maxRecDepth 65536 in
theorem w_c0 : (Jvm.Cond.code x code maxLocals ret).before args0 about1 = true := code_word (m := ⟨1, 1⟩) (meth := k1m1) (c := k1c1) (by decide +kernel) rfl rfl rfl (by decide +kernel)
set_option maxRecDepth 65536 in
theorem w_c1 : (Jvm.Cond.code ({ cls := "com/example/penumbra/penumbra/order/ClockedMulticast$MessageId", name := "<init>", desc := "(IJ)V" } : Jvm.MethodName) prog_109_method_1_code (4 : Nat) (Option.none : Option Jvm.ClassFile.FieldType)).before args0 about1 = true := code_word (m := ⟨3, 0⟩) (meth := k3m0) (c := k3c0) (by decide +kernel) rfl rfl rfl (by decide +kernel)
set_option maxRecDepth 65536 in
theorem w_c2 : (Jvm.Cond.code ({ cls := "java/lang/Record", name := "<init>", desc := "()V" } : Jvm.MethodName) jdk_30_method_1_code (1 : Nat) (Option.none : Option Jvm.ClassFile.FieldType)).before args0 about1 = true := code_word (m := ⟨2, 0⟩) (meth := k2m0) (c := k2c0) (by decide +kernel) rfl rfl rfl (by decide +kernel)
set_option maxRecDepth 65536 in
theorem w_c3 : (Jvm.Cond.code ({ cls := "java/lang/Object", name := "<init>", desc := "()V" } : Jvm.MethodName) object_method_1_code (1 : Nat) (Option.none : Option Jvm.ClassFile.FieldType)).before args0 about1 = true := code_word (m := ⟨0, 0⟩) (meth := k0m0) (c := k0c0) (by decide +kernel) rfl rfl rfl (by decide +kernel)
set_option maxRecDepth 65536 in
theorem w_c4 : (Jvm.Cond.code ({ cls := "com/example/penumbra/penumbra/order/ClockedMulticast$MessageId", name := "equals", desc := "(Ljava/lang/Object;)Z" } : Jvm.MethodName) prog_109_method_2_code (3 : Nat) (Option.some Jvm.ClassFile.FieldType.boolean)).before args0 about1 = true := code_word (m := ⟨3, 1⟩) (meth := k3m1) (c := k3c1) (by decide +kernel) rfl rfl rfl (by decide +kernel)
set_option maxRecDepth 65536 in
theorem w_c5 : (Jvm.Cond.code ({ cls := "java/lang/Integer", name := "valueOf", desc := "(I)Ljava/lang/Integer;" } : Jvm.MethodName) jdk_33_method_22_code (1 : Nat) (Option.some (Jvm.ClassFile.FieldType.object "java/lang/Integer"))).before args0 about1 = true := code_word (m := ⟨9, 0⟩) (meth := k9m0) (c := k9c0) (by decide +kernel) rfl rfl rfl (by decide +kernel)
set_option maxRecDepth 65536 in
theorem w_c6 : (Jvm.Cond.code ({ cls := "java/lang/Long", name := "valueOf", desc := "(J)Ljava/lang/Long;" } : Jvm.MethodName) jdk_35_method_24_code (3 : Nat) (Option.some (Jvm.ClassFile.FieldType.object "java/lang/Long"))).before args0 about1 = true := code_word (m := ⟨11, 0⟩) (meth := k11m0) (c := k11c0) (by decide +kernel) rfl rfl rfl (by decide +kernel)
set_option maxRecDepth 65536 in
theorem w_c7 : (Jvm.Cond.code ({ cls := "java/lang/Long", name := "<init>", desc := "(J)V" } : Jvm.MethodName) jdk_35_method_26_code (3 : Nat) (Option.none : Option Jvm.ClassFile.FieldType)).before args0 about1 = true := code_word (m := ⟨11, 1⟩) (meth := k11m1) (c := k11c1) (by decide +kernel) rfl rfl rfl (by decide +kernel)
set_option maxRecDepth 65536 in
theorem w_c8 : (Jvm.Cond.code ({ cls := "java/lang/Number", name := "<init>", desc := "()V" } : Jvm.MethodName) jdk_18_method_1_code (1 : Nat) (Option.none : Option Jvm.ClassFile.FieldType)).before args0 about1 = true := code_word (m := ⟨5, 0⟩) (meth := k5m0) (c := k5c0) (by decide +kernel) rfl rfl rfl (by decide +kernel)
set_option maxRecDepth 65536 in
theorem w_c9 : (Jvm.Cond.code ({ cls := "java/lang/Integer", name := "<init>", desc := "(I)V" } : Jvm.MethodName) jdk_33_method_23_code (2 : Nat) (Option.none : Option Jvm.ClassFile.FieldType)).before args0 about1 = true := code_word (m := ⟨9, 1⟩) (meth := k9m1) (c := k9c1) (by decide +kernel) rfl rfl rfl (by decide +kernel)
def codes1 : List Jvm.Cond := [Jvm.Cond.code x code maxLocals ret, Jvm.Cond.code ({ cls := "com/example/penumbra/penumbra/order/ClockedMulticast$MessageId", name := "<init>", desc := "(IJ)V" } : Jvm.MethodName) prog_109_method_1_code (4 : Nat) (Option.none : Option Jvm.ClassFile.FieldType), Jvm.Cond.code ({ cls := "java/lang/Record", name := "<init>", desc := "()V" } : Jvm.MethodName) jdk_30_method_1_code (1 : Nat) (Option.none : Option Jvm.ClassFile.FieldType), Jvm.Cond.code ({ cls := "java/lang/Object", name := "<init>", desc := "()V" } : Jvm.MethodName) object_method_1_code (1 : Nat) (Option.none : Option Jvm.ClassFile.FieldType), Jvm.Cond.code ({ cls := "com/example/penumbra/penumbra/order/ClockedMulticast$MessageId", name := "equals", desc := "(Ljava/lang/Object;)Z" } : Jvm.MethodName) prog_109_method_2_code (3 : Nat) (Option.some Jvm.ClassFile.FieldType.boolean), Jvm.Cond.code ({ cls := "java/lang/Integer", name := "valueOf", desc := "(I)Ljava/lang/Integer;" } : Jvm.MethodName) jdk_33_method_22_code (1 : Nat) (Option.some (Jvm.ClassFile.FieldType.object "java/lang/Integer")), Jvm.Cond.code ({ cls := "java/lang/Long", name := "valueOf", desc := "(J)Ljava/lang/Long;" } : Jvm.MethodName) jdk_35_method_24_code (3 : Nat) (Option.some (Jvm.ClassFile.FieldType.object "java/lang/Long")), Jvm.Cond.code ({ cls := "java/lang/Long", name := "<init>", desc := "(J)V" } : Jvm.MethodName) jdk_35_method_26_code (3 : Nat) (Option.none : Option Jvm.ClassFile.FieldType), Jvm.Cond.code ({ cls := "java/lang/Number", name := "<init>", desc := "()V" } : Jvm.MethodName) jdk_18_method_1_code (1 : Nat) (Option.none : Option Jvm.ClassFile.FieldType), Jvm.Cond.code ({ cls := "java/lang/Integer", name := "<init>", desc := "(I)V" } : Jvm.MethodName) jdk_33_method_23_code (2 : Nat) (Option.none : Option Jvm.ClassFile.FieldType)]
set_option maxRecDepth 65536 in
theorem codes_eq : words1.filter isCode = codes1 := rfl
theorem w_codes : ∀ c ∈ words1.filter isCode, c.before args0 about1 = true := by
  rw [codes_eq]
  intro c hc
  simp only [codes1, List.mem_cons, List.not_mem_nil, or_false] at hc
  rcases hc with rfl | rfl | rfl | rfl | rfl | rfl | rfl | rfl | rfl | rfl
  · exact w_c0
  · exact w_c1
  · exact w_c2
  · exact w_c3
  · exact w_c4
  · exact w_c5
  · exact w_c6
  · exact w_c7
  · exact w_c8
  · exact w_c9
set_option maxRecDepth 65536 in
theorem w_t1 : (words1.take 24).all (fun c => isCode c || c.before args0 about1) = true := by decide +kernel
set_option maxRecDepth 65536 in
theorem w_t2 : ((words1.drop 24).take 24).all (fun c => isCode c || c.before args0 about1) = true := by decide +kernel
set_option maxRecDepth 65536 in
theorem w_t3 : ((words1.drop 24).drop 24).all (fun c => isCode c || c.before args0 about1) = true := by decide +kernel
theorem w_tables : (allAtoms (Jvm.Cond.code x code maxLocals ret :: tables_1)).before args0 about1 = true := by
  rw [allAtoms_all]
  show words1.all (fun c => c.before args0 about1) = true
  refine all_split ?_ w_codes
  rw [← List.take_append_drop 24 words1, List.all_append, w_t1, ← List.take_append_drop 24 (words1.drop 24), List.all_append, w_t2, w_t3]
  rfl
set_option maxRecDepth 65536 in
theorem w_rest : rest_1_c.before args0 about1 = true := by decide +kernel
set_option maxRecDepth 65536 in
theorem w_case : (Jvm.Cond.and given_1 narrow_1).before args0 about1 = true := by decide +kernel
theorem w_applies : (headSpec (Jvm.Cond.code x code maxLocals ret :: tables_1) room_1).applies x e0.platform about1 = true :=
  (Spec.applies_iff w_frames).mpr ⟨w_running, w_runnable, w_alone, w_named, w_hears, w_ripe, w_room, w_tables⟩
theorem atStart : AtStart classFile x code maxLocals ret World_1 tables_1 room_1 Calls_1 rest_1 Pre_1 launch0 p0 e0 about1 theMethod args0 below0 :=
  ⟨lists_1, trivial, launch0.admits_env _ _ _, launch0.least_env, fairChoices_fair.cas, fairChoices_fair.clock, w_frames, w_args, w_heap, w_applies, trivial, w_rest, w_case⟩
end start1
theorem witness_1 : WitnessClaimed_1 := ⟨start1.p0, start1.e0, start1.about1, start1.theMethod, start1.args0, start1.below0, start1.atStart⟩
end Jvm.Pilot.@@N@@
