import JvmDerived
import JvmDerived.Pilot.@@N@@Statement
import JvmDerived.Pilot.@@N@@Code
set_option linter.unusedVariables false
set_option linter.unusedSimpArgs false
namespace Jvm.Pilot.@@N@@
open Jvm Jvm.ClassFile Sem Op Lib Jvm.Free Jvm.Stand Jvm.LawKit Jvm.RoadKit Bundle Jvm.Pilot.@@N@@.Jvm.D
/-- the run from A ends, and its end is as K says -/
def own_Go (tb : Tables) (e : Env) (below : List Frame) (K : Outcome → State → Prop) (A : State) : Prop := ∃ s₂ o, Steps tb e below A s₂ ∧ s₂.status = .running ∧ Ended s₂ below o ∧ K o s₂
theorem own_st {tb : Tables} {e : Env} {below : List Frame} {K : Outcome → State → Prop} {A B : State} (h : ∀ t, Steps tb e below B t → Steps tb e below A t) (g : own_Go tb e below K B) : own_Go tb e below K A := by
  obtain ⟨s₂, o, h1, r⟩ := g
  exact ⟨s₂, o, h _ h1, r⟩
theorem own_tr {tb : Tables} {e : Env} {below : List Frame} {K : Outcome → State → Prop} {A B : State} (h : Steps tb e below A B) (g : own_Go tb e below K B) : own_Go tb e below K A := by
  obtain ⟨s₂, o, h1, r⟩ := g
  exact ⟨s₂, o, h.trans h1, r⟩
section Rets
variable {p : Program} {l : Launch} {e : Env} {R : Room} {s : State} {m : MethodId} {args : Array Value} {below : List Frame} {meth : Method} {c : Code} {T : State} {locs : List Loc} {cells slots : Nat} {Q : Option Value → Heap → List Loc → Prop} {C S : Nat}
theorem own_ret (X : Stand p l e R s m args below meth c T locs cells slots) {v : Option Value} {A : State} (hv : meth.sig.returnType = none → v = none) (hlocks : meth.locks = false)
    (st : ∀ fs, (∀ (f : JFrame) (acts : List Action), f.method = m → f.locked = none → f.entered = [] → (doReturn e (T.setTop f) acts v).1 = T.setFrames fs) → Steps p.tables e below A (T.setFrames fs)) (q : Q v T.heap locs) (hc : cells ≤ C) (hs : slots ≤ S) :
    own_Go p.tables e below (fun o U' => ∃ v L, o = .returned v ∧ Q v U'.heap L ∧ FrameEnd s o U' L C S) A := by
  obtain ⟨fs, hr, hrun, hended, hW, hsame⟩ := X.leave (v := v) hv hlocks
  exact ⟨_, _, st fs hr, hrun, hended, _, _, rfl, q, ⟨_, rfl⟩, hW, hsame.mono hc hs⟩
theorem own_retV (X : Stand p l e R s m args below meth c T locs cells slots) (hx : p.tables.exec = Jvm.exec) {pc : Nat} {Ls : Array Slot} (hret : meth.sig.returnType = none) (hd : decode c.code pc = .ok (.return_, 1)) (hlocks : meth.locks = false) (q : Q none T.heap locs) (hc : cells ≤ C) (hs : slots ≤ S) :
    own_Go p.tables e below (fun o U' => ∃ v L, o = .returned v ∧ Q v U'.heap L ∧ FrameEnd s o U' L C S) (T.setTop (mkF m pc Ls [])) :=
  own_ret X (fun _ => rfl) hlocks (fun _ hr => X.returnOut hx hret hd hr) q hc hs
theorem own_retN (X : Stand p l e R s m args below meth c T locs cells slots) (hx : p.tables.exec = Jvm.exec) {pc : Nat} {Ls : Array Slot} {z : Int32} {t : FieldType} {rest : List Value} (hret : meth.sig.returnType = some t) (ht : t = .boolean ∨ t = .byte ∨ t = .char ∨ t = .short) (hd : decode c.code pc = .ok (.ireturn, 1)) (hlocks : meth.locks = false) (q : Q (some (.int (nar t z))) T.heap locs) (hc : cells ≤ C) (hs : slots ≤ S) :
    own_Go p.tables e below (fun o U' => ∃ v L, o = .returned v ∧ Q v U'.heap L ∧ FrameEnd s o U' L C S) (T.setTop (mkF m pc Ls (.int z :: rest))) :=
  own_ret X (fun h => by rw [hret] at h; cases h) hlocks (fun _ hr => retN X hx hret ht hd hr) q hc hs
theorem own_retI (X : Stand p l e R s m args below meth c T locs cells slots) (hx : p.tables.exec = Jvm.exec) {pc : Nat} {Ls : Array Slot} {z : Int32} {rest : List Value} (hret : meth.sig.returnType = some .int) (hd : decode c.code pc = .ok (.ireturn, 1)) (hlocks : meth.locks = false) (q : Q (some (.int z)) T.heap locs) (hc : cells ≤ C) (hs : slots ≤ S) :
    own_Go p.tables e below (fun o U' => ∃ v L, o = .returned v ∧ Q v U'.heap L ∧ FrameEnd s o U' L C S) (T.setTop (mkF m pc Ls (.int z :: rest))) :=
  own_ret X (fun h => by rw [hret] at h; cases h) hlocks (fun _ hr => retOut X hx hret rfl (Or.inl ⟨rfl, Or.inl rfl, z, rfl⟩) hd hr) q hc hs
theorem own_retJ (X : Stand p l e R s m args below meth c T locs cells slots) (hx : p.tables.exec = Jvm.exec) {pc : Nat} {Ls : Array Slot} {z : Int64} {rest : List Value} (hret : meth.sig.returnType = some .long) (hd : decode c.code pc = .ok (.lreturn, 1)) (hlocks : meth.locks = false) (q : Q (some (.long z)) T.heap locs) (hc : cells ≤ C) (hs : slots ≤ S) :
    own_Go p.tables e below (fun o U' => ∃ v L, o = .returned v ∧ Q v U'.heap L ∧ FrameEnd s o U' L C S) (T.setTop (mkF m pc Ls (.long z :: rest))) :=
  own_ret X (fun h => by rw [hret] at h; cases h) hlocks (fun _ hr => retOut X hx hret rfl (Or.inr (Or.inl ⟨rfl, rfl, z, rfl⟩)) hd hr) q hc hs
theorem own_narrow_ref {t : FieldType} {w : Value} (ht : t.isReference = true) : narrow t w = w := by cases t <;> first | (cases ht; done) | rfl
theorem own_retA (X : Stand p l e R s m args below meth c T locs cells slots) (hx : p.tables.exec = Jvm.exec) {pc : Nat} {Ls : Array Slot} {w : Value} {t : FieldType} {rest : List Value} (hret : meth.sig.returnType = some t) (ht : t.isReference = true) (hw : w.isRef = true) (hd : decode c.code pc = .ok (.areturn, 1)) (hlocks : meth.locks = false) (q : Q (some w) T.heap locs) (hc : cells ≤ C) (hs : slots ≤ S) :
    own_Go p.tables e below (fun o U' => ∃ v L, o = .returned v ∧ Q v U'.heap L ∧ FrameEnd s o U' L C S) (T.setTop (mkF m pc Ls (w :: rest))) :=
  own_ret X (fun h => by rw [hret] at h; cases h) hlocks (fun _ hr => retOut X hx hret (own_narrow_ref ht) (Or.inr (Or.inr (Or.inr (Or.inr ⟨rfl, ht, hw⟩)))) hd hr) q hc hs
end Rets

section Wide
variable {p : Program} {l : Launch} {e : Env} {R : Room} {s : State} {m : MethodId} {args : Array Value} {below : List Frame} {meth : Method} {c : Code} {T : State} {locs : List Loc} {cells slots : Nat} {Q : Option Value → Heap → List Loc → Prop} {C S : Nat}
theorem own_retNW {vm₁ : Vm} {n : Nat} (X : Stand p l e R (s.setVm vm₁) m args below meth c T locs cells slots) (hS : s.Since vm₁ n) (hn : n ≤ T.heap.size) (hx : p.tables.exec = Jvm.exec) {pc : Nat} {Ls : Array Slot} {z : Int32} {t : FieldType} {rest : List Value} (hret : meth.sig.returnType = some t) (ht : t = .boolean ∨ t = .byte ∨ t = .char ∨ t = .short) (hd : decode c.code pc = .ok (.ireturn, 1)) (hlocks : meth.locks = false) (q : Q (some (.int (nar t z))) T.heap locs) (hc : cells ≤ C) (hs : slots ≤ S) :
    own_Go p.tables e below (fun o U' => ∃ v L, o = .returned v ∧ Q v U'.heap L ∧ ReturnedEndW s o U' L C S) (T.setTop (mkF m pc Ls (.int z :: rest))) := by
  obtain ⟨fs, hr, hrun, hended, hE⟩ := X.leaveW hS hn (v := some (.int (nar t z))) (fun h => by rw [hret] at h; cases h) hlocks
  exact ⟨_, _, retN X hx hret ht hd hr, hrun, hended, _, _, rfl, q, hE.1, hE.2.1, hE.2.2.1, hE.2.2.2.mono hc hs⟩
end Wide
def own_lv (k f c r b : Int32) : Int32 := if k = 0 then f else if k = 1 then r else if k = 2 then c else b
theorem own_out {k : Int32} (h0 : ¬ k = 0) (h1 : ¬ k = 1) (h2 : ¬ k = 2) : k.toInt < 0 ∨ k.toInt > 2 := by
  have e0 : (0 : Int32).toInt = 0 := rfl
  have e1 : (1 : Int32).toInt = 1 := rfl
  have e2 : (2 : Int32).toInt = 2 := rfl
  rw [← Int32.toInt_inj, e0] at h0
  rw [← Int32.toInt_inj, e1] at h1
  rw [← Int32.toInt_inj, e2] at h2
  omega
theorem own_mask (k : Int32) : True := trivial

theorem d2_0 : decode jdk_30_method_1_code 0 = .ok (.aload_n 0, 1) := by decide +kernel
theorem d2_1 : decode jdk_30_method_1_code 1 = .ok (.invokespecial 1, 3) := by decide +kernel
theorem d2_4 : decode jdk_30_method_1_code 4 = .ok (.return_, 1) := by decide +kernel
theorem pn_java_lang_Record : plainName "java/lang/Record" = true := by first | (simp [plainName, overriddenIn]; done) | decide +kernel
theorem ef_rmRecord (m : MethodId) (x0 : Addr) : entryFrame m #[(.ref x0)] 1 = mkF m 0 #[.val (.ref x0)] [] := by first | (simp [entryFrame, mkF, argsToLocals, Value.category]; done) | rfl
def Q_rmRecord (Z : State) (o : Addr) (h0 : Heap) (n0 : Nat) (v : Option Value) (h : Heap) (L : List Loc) : Prop := v = none ∧ Fr n0 L ∧ h = h0
def K_rmRecord (Z : State) (o : Addr) (h0 : Heap) (n0 : Nat) (s : State) : Outcome → State → Prop := fun oo U' => ∃ v L, oo = .returned v ∧ Q_rmRecord Z o h0 n0 v U'.heap L ∧ FrameEnd s oo U' L ({ frames := 1, cells := 0, slots := 0, locals := 12 } : Room).cells ({ frames := 1, cells := 0, slots := 0, locals := 12 } : Room).slots
set_option maxRecDepth 65536 in
set_option maxHeartbeats 40000000 in
theorem rmRecord (l : Launch) (Z : State) (a0 : Array Value) (hw : ∀ d ∈ tables_1, d.before a0 Z = true) (ws : List Jvm.Cond) (o : Addr) (h0 : Heap) (n0 : Nat) (Z0 : n0 ≤ h0.size)  :
    MetFree l (⟨"java/lang/Record", "<init>", "()V"⟩ : MethodName) (head1 (Jvm.Cond.code (⟨"java/lang/Record", "<init>", "()V"⟩ : MethodName) jdk_30_method_1_code 1 none :: ws) ({ frames := 1, cells := 0, slots := 0, locals := 12 } : Room)) (fun a U => a = #[(.ref o)] ∧ Z.Warmed39 U.vm ∧ U.heap = h0) (fun _ _ _ _ _ => True) (fun _ U oo U' => ∃ v L, oo = .returned v ∧ Q_rmRecord Z o h0 n0 v U'.heap L ∧ FrameEnd U oo U' L ({ frames := 1, cells := 0, slots := 0, locals := 12 } : Room).cells ({ frames := 1, cells := 0, slots := 0, locals := 12 } : Room).slots) := by
  refine MetFree.of_bodySF (plainFor_of_name pn_java_lang_Record) hisR ?_
  intro p e s m args below meth c s₁ Bd hml0 hP hK
  obtain ⟨rfl, hZ, hh⟩ := hP
  have hx := Bd.exec
  have hby := Bd.bytes
  have hml : c.maxLocals = 1 := hml0
  have hown : s.vm.findClass "java/lang/Record" = some m.cls := findClass_of_methodNamed Bd.named
  have hnm := (name_of_methodNamed Bd.named Bd.method).1
  have X0 : Stand p l e ({ frames := 1, cells := 0, slots := 0, locals := 12 } : Room) s m #[(.ref o)] below meth c s₁ [] 0 0 := Stand.of_body Bd
  have e0 : s₁.heap = h0 := by rw [← hh, Bd.state]; rfl
  have N0 := Fr.nil n0
  refine own_st (K := (K_rmRecord Z o h0 n0 s)) (fun t' k' => castTop (ef_rmRecord m o) k') ?_
  show own_Go p.tables e below _ (s₁.setTop (mkF m 0 #[.val (.ref o)] []))
  refine own_st (fun _ k' => XS.aloadN X0.here hx rfl (hb hby d2_0) rfl rfl k') ?_
  show own_Go p.tables e below _ (s₁.setTop (mkF m 1 #[.val (.ref o)] [(.ref o)]))
  obtain ⟨T1, X1, e1, st1⟩ := initO X0 hx hZ hown (hw _ (List.mem_of_getElem? (i := 19) rfl)) (hw _ (List.mem_of_getElem? (i := 20) rfl)) (hw _ (List.mem_of_getElem? (i := 21) rfl)) e0 (g := (mkF m 1 #[.val (.ref o)] [(.ref o)])) rfl (by rw [hml]; rfl) rfl (hb hby d2_1) (by decide) (W := 0) (by show 2 * 0 + _ ≤ _; exact Nat.le_of_eq rfl) (by decide)
  refine own_st st1 ?_
  show own_Go p.tables e below _ (T1.setTop (mkF m 4 #[.val (.ref o)] []))
  exact own_retV X1 hx Bd.returns (hb hby d2_4) Bd.notSynchronized ⟨rfl, N0, e1⟩ (by decide) (by decide)

theorem d1_0 : decode prog_19_method_1_code 0 = .ok (.aload_n 0, 1) := by decide +kernel
theorem d1_1 : decode prog_19_method_1_code 1 = .ok (.invokespecial 1, 3) := by decide +kernel
theorem d1_4 : decode prog_19_method_1_code 4 = .ok (.aload_n 0, 1) := by decide +kernel
theorem d1_5 : decode prog_19_method_1_code 5 = .ok (.aload_n 1, 1) := by decide +kernel
theorem d1_6 : decode prog_19_method_1_code 6 = .ok (.putfield 7, 3) := by decide +kernel
theorem d1_9 : decode prog_19_method_1_code 9 = .ok (.aload_n 0, 1) := by decide +kernel
theorem d1_10 : decode prog_19_method_1_code 10 = .ok (.iload_n 2, 1) := by decide +kernel
theorem d1_11 : decode prog_19_method_1_code 11 = .ok (.putfield 13, 3) := by decide +kernel
theorem d1_14 : decode prog_19_method_1_code 14 = .ok (.aload_n 0, 1) := by decide +kernel
theorem d1_15 : decode prog_19_method_1_code 15 = .ok (.iload_n 3, 1) := by decide +kernel
theorem d1_16 : decode prog_19_method_1_code 16 = .ok (.putfield 17, 3) := by decide +kernel
theorem d1_19 : decode prog_19_method_1_code 19 = .ok (.aload_n 0, 1) := by decide +kernel
theorem d1_20 : decode prog_19_method_1_code 20 = .ok (.iload 4, 2) := by decide +kernel
theorem d1_22 : decode prog_19_method_1_code 22 = .ok (.putfield 20, 3) := by decide +kernel
theorem d1_25 : decode prog_19_method_1_code 25 = .ok (.aload_n 0, 1) := by decide +kernel
theorem d1_26 : decode prog_19_method_1_code 26 = .ok (.iload 5, 2) := by decide +kernel
theorem d1_28 : decode prog_19_method_1_code 28 = .ok (.putfield 23, 3) := by decide +kernel
theorem d1_31 : decode prog_19_method_1_code 31 = .ok (.aload_n 0, 1) := by decide +kernel
theorem d1_32 : decode prog_19_method_1_code 32 = .ok (.iload 6, 2) := by decide +kernel
theorem d1_34 : decode prog_19_method_1_code 34 = .ok (.putfield 26, 3) := by decide +kernel
theorem d1_37 : decode prog_19_method_1_code 37 = .ok (.return_, 1) := by decide +kernel
theorem pd___V : parseMethodDescriptor "()V" = some ⟨[], none⟩ := by decide +kernel
theorem pn_com_example_segmenta_segmenta_Separators : plainName "com/example/segmenta/segmenta/Separators" = true := by first | (simp [plainName, overriddenIn]; done) | decide +kernel
theorem ef_rmN (m : MethodId) (x0 : Addr) (x1 : Addr) (x2 : Int32) (x3 : Int32) (x4 : Int32) (x5 : Int32) (x6 : Int32) : entryFrame m #[(.ref x0), (.ref x1), (.int x2), (.int x3), (.int x4), (.int x5), (.int x6)] 7 = mkF m 0 #[.val (.ref x0), .val (.ref x1), .val (.int x2), .val (.int x3), .val (.int x4), .val (.int x5), .val (.int x6)] [] := by first | (simp [entryFrame, mkF, argsToLocals, Value.category]; done) | rfl
def Q_rmN (Z : State) (o st : Addr) (f c0 r x b : Int32) (h0 : Heap) (n0 : Nat) (v : Option Value) (h : Heap) (L : List Loc) : Prop := v = none ∧ Fr n0 L ∧ Keep h0 h [o] ∧ Exa Z h o "com/example/segmenta/segmenta/Separators" ∧ Fld Z h o "com/example/segmenta/segmenta/Separators" "header" "Ljava/lang/String;" (.ref st) ∧ Fld Z h o "com/example/segmenta/segmenta/Separators" "field" "I" (.int f) ∧ Fld Z h o "com/example/segmenta/segmenta/Separators" "component" "I" (.int c0) ∧ Fld Z h o "com/example/segmenta/segmenta/Separators" "repetition" "I" (.int r) ∧ Fld Z h o "com/example/segmenta/segmenta/Separators" "escape" "I" (.int x) ∧ Fld Z h o "com/example/segmenta/segmenta/Separators" "subcomponent" "I" (.int b)
def K_rmN (Z : State) (o st : Addr) (f c0 r x b : Int32) (h0 : Heap) (n0 : Nat) (s : State) : Outcome → State → Prop := fun oo U' => ∃ v L, oo = .returned v ∧ Q_rmN Z o st f c0 r x b h0 n0 v U'.heap L ∧ FrameEnd s oo U' L ({ frames := 2, cells := 0, slots := 0, locals := 24 } : Room).cells ({ frames := 2, cells := 0, slots := 0, locals := 24 } : Room).slots
set_option maxRecDepth 65536 in
set_option maxHeartbeats 40000000 in
theorem rmN (l : Launch) (Z : State) (a0 : Array Value) (hw : ∀ d ∈ tables_1, d.before a0 Z = true) (ws : List Jvm.Cond) (o st : Addr) (f c0 r x b : Int32) (h0 : Heap) (n0 : Nat) (Z0 : n0 ≤ h0.size) (E_o : Exa Z h0 o "com/example/segmenta/segmenta/Separators") (F_0 : Fld Z h0 o "com/example/segmenta/segmenta/Separators" "header" "Ljava/lang/String;" .null) (F_1 : Fld Z h0 o "com/example/segmenta/segmenta/Separators" "field" "I" (.int (0 : Int32))) (F_2 : Fld Z h0 o "com/example/segmenta/segmenta/Separators" "component" "I" (.int (0 : Int32))) (F_3 : Fld Z h0 o "com/example/segmenta/segmenta/Separators" "repetition" "I" (.int (0 : Int32))) (F_4 : Fld Z h0 o "com/example/segmenta/segmenta/Separators" "escape" "I" (.int (0 : Int32))) (F_5 : Fld Z h0 o "com/example/segmenta/segmenta/Separators" "subcomponent" "I" (.int (0 : Int32))) (g_o : n0 ≤ o) :
    MetFree l (⟨"com/example/segmenta/segmenta/Separators", "<init>", "(Ljava/lang/String;IIIII)V"⟩ : MethodName) (head1 (Jvm.Cond.code (⟨"com/example/segmenta/segmenta/Separators", "<init>", "(Ljava/lang/String;IIIII)V"⟩ : MethodName) prog_19_method_1_code 7 none :: ws) ({ frames := 2, cells := 0, slots := 0, locals := 24 } : Room)) (fun a U => a = #[(.ref o), (.ref st), (.int f), (.int c0), (.int r), (.int x), (.int b)] ∧ Z.Warmed39 U.vm ∧ U.heap = h0) (fun _ _ _ _ _ => True) (fun _ U oo U' => ∃ v L, oo = .returned v ∧ Q_rmN Z o st f c0 r x b h0 n0 v U'.heap L ∧ FrameEnd U oo U' L ({ frames := 2, cells := 0, slots := 0, locals := 24 } : Room).cells ({ frames := 2, cells := 0, slots := 0, locals := 24 } : Room).slots) := by
  refine MetFree.of_bodySF (plainFor_of_name pn_com_example_segmenta_segmenta_Separators) hisR ?_
  intro p e s m args below meth c s₁ Bd hml0 hP hK
  obtain ⟨rfl, hZ, hh⟩ := hP
  have hx := Bd.exec
  have hby := Bd.bytes
  have hml : c.maxLocals = 7 := hml0
  have hown : s.vm.findClass "com/example/segmenta/segmenta/Separators" = some m.cls := findClass_of_methodNamed Bd.named
  have hnm := (name_of_methodNamed Bd.named Bd.method).1
  have X0 : Stand p l e ({ frames := 2, cells := 0, slots := 0, locals := 24 } : Room) s m #[(.ref o), (.ref st), (.int f), (.int c0), (.int r), (.int x), (.int b)] below meth c s₁ [] 0 0 := Stand.of_body Bd
  have e0 : s₁.heap = h0 := by rw [← hh, Bd.state]; rfl
  have N0 := Fr.nil n0
  refine own_st (K := (K_rmN Z o st f c0 r x b h0 n0 s)) (fun t' k' => castTop (ef_rmN m o st f c0 r x b) k') ?_
  show own_Go p.tables e below _ (s₁.setTop (mkF m 0 #[.val (.ref o), .val (.ref st), .val (.int f), .val (.int c0), .val (.int r), .val (.int x), .val (.int b)] []))
  refine own_st (fun _ k' => XS.aloadN X0.here hx rfl (hb hby d1_0) rfl rfl k') ?_
  show own_Go p.tables e below _ (s₁.setTop (mkF m 1 #[.val (.ref o), .val (.ref st), .val (.int f), .val (.int c0), .val (.int r), .val (.int x), .val (.int b)] [(.ref o)]))
  obtain ⟨_, _, ⟨T1, L1, k1, n1⟩, -, X1, ⟨Lc1, hQ1, l1, y1, z1⟩, st1⟩ := X0.specialBack hx (y := (⟨"java/lang/Record", "<init>", "()V"⟩ : MethodName)) rfl hown (mvT hZ (hw _ (List.mem_of_getElem? (i := 14) rfl))) (mvT hZ (hw _ (List.mem_of_getElem? (i := 15) rfl))) (mvT hZ (hw _ (List.mem_of_getElem? (i := 18) rfl))) (by decide) (backOf (W := 0) (rmRecord l Z a0 hw [] o h0 n0 Z0 ) hZ (hw _ (List.mem_of_getElem? (i := 18) rfl)) (hw _ (List.mem_of_getElem? (i := 17) rfl)) (by decide) (by decide)) (g := (mkF m 1 #[.val (.ref o), .val (.ref st), .val (.int f), .val (.int c0), .val (.int r), .val (.int x), .val (.int b)] [(.ref o)])) rfl (by rw [hml]; rfl) (Steps.refl _) (a := o) (argsL := []) (rest := []) (lenOf pd___V rfl) rfl (by show 2 * 0 + _ ≤ _; exact Nat.le_of_eq rfl) (hb hby d1_1) (fun _ _ => ⟨rfl, e0, (by decide : 0 + 0 ≤ _), (by decide : 0 + 0 ≤ _)⟩)
  dsimp only [Pt.U, Pt.locs, Pt.cells, Pt.slots] at X1 l1 y1 z1 st1 hQ1
  subst l1 y1 z1
  obtain ⟨rfl, Nq1, e1⟩ := hQ1
  have N1 := Fr.app N0 Nq1
  refine own_tr st1 ?_
  show own_Go p.tables e below _ (T1.setTop (mkF m 4 #[.val (.ref o), .val (.ref st), .val (.int f), .val (.int c0), .val (.int r), .val (.int x), .val (.int b)] []))
  refine own_st (fun _ k' => XS.aloadN X1.here hx rfl (hb hby d1_4) rfl rfl k') ?_
  show own_Go p.tables e below _ (T1.setTop (mkF m 5 #[.val (.ref o), .val (.ref st), .val (.int f), .val (.int c0), .val (.int r), .val (.int x), .val (.int b)] [(.ref o)]))
  refine own_st (fun _ k' => XS.aloadN X1.here hx rfl (hb hby d1_5) rfl rfl k') ?_
  show own_Go p.tables e below _ (T1.setTop (mkF m 6 #[.val (.ref o), .val (.ref st), .val (.int f), .val (.int c0), .val (.int r), .val (.int x), .val (.int b)] [(.ref st), (.ref o)]))
  obtain ⟨T2, h2, X2, e2, W2, st2⟩ := putF X1 hx hZ hown (host := "") (Or.inl (hw _ (List.mem_of_getElem? (i := 22) rfl))) Via.refl e1 F_0 E_o (Or.inr ⟨(hw _ (List.mem_of_getElem? (i := 23) rfl)), rfl, hnm⟩) (hw _ (List.mem_of_getElem? (i := 1) rfl)) (ty := (.object "java/lang/String")) (by decide) rfl rfl (g := (mkF m 6 #[.val (.ref o), .val (.ref st), .val (.int f), .val (.int c0), .val (.int r), .val (.int x), .val (.int b)] [(.ref st), (.ref o)])) rfl rfl (hb hby d1_6)
  have N2 := Fr.snoc X2 N1 g_o
  have E_o_x3 := E_o.wr W2
  have F_0_x4 := F_0.same W2
  have F_1_x5 := F_1.other W2 (Or.inr (slot_ne (Or.inr (hw _ (List.mem_of_getElem? (i := 25) rfl))) (Or.inr (hw _ (List.mem_of_getElem? (i := 23) rfl))) (by decide) (t := .int) (t' := (.object "java/lang/String")) (by decide) (by decide)))
  have F_2_x6 := F_2.other W2 (Or.inr (slot_ne (Or.inr (hw _ (List.mem_of_getElem? (i := 27) rfl))) (Or.inr (hw _ (List.mem_of_getElem? (i := 23) rfl))) (by decide) (t := .int) (t' := (.object "java/lang/String")) (by decide) (by decide)))
  have F_3_x7 := F_3.other W2 (Or.inr (slot_ne (Or.inr (hw _ (List.mem_of_getElem? (i := 29) rfl))) (Or.inr (hw _ (List.mem_of_getElem? (i := 23) rfl))) (by decide) (t := .int) (t' := (.object "java/lang/String")) (by decide) (by decide)))
  have F_4_x8 := F_4.other W2 (Or.inr (slot_ne (Or.inr (hw _ (List.mem_of_getElem? (i := 31) rfl))) (Or.inr (hw _ (List.mem_of_getElem? (i := 23) rfl))) (by decide) (t := .int) (t' := (.object "java/lang/String")) (by decide) (by decide)))
  have F_5_x9 := F_5.other W2 (Or.inr (slot_ne (Or.inr (hw _ (List.mem_of_getElem? (i := 33) rfl))) (Or.inr (hw _ (List.mem_of_getElem? (i := 23) rfl))) (by decide) (t := .int) (t' := (.object "java/lang/String")) (by decide) (by decide)))
  have K10 : Keep h0 h2 [o] := (Keep.refl h0 [o]).wr W2 (Or.inl (List.mem_of_getElem? (i := 0) rfl))
  refine own_st st2 ?_
  show own_Go p.tables e below _ (T2.setTop (mkF m 9 #[.val (.ref o), .val (.ref st), .val (.int f), .val (.int c0), .val (.int r), .val (.int x), .val (.int b)] []))
  refine own_st (fun _ k' => XS.aloadN X2.here hx rfl (hb hby d1_9) rfl rfl k') ?_
  show own_Go p.tables e below _ (T2.setTop (mkF m 10 #[.val (.ref o), .val (.ref st), .val (.int f), .val (.int c0), .val (.int r), .val (.int x), .val (.int b)] [(.ref o)]))
  refine own_st (fun _ k' => XS.iloadN X2.here hx rfl (hb hby d1_10) rfl k') ?_
  show own_Go p.tables e below _ (T2.setTop (mkF m 11 #[.val (.ref o), .val (.ref st), .val (.int f), .val (.int c0), .val (.int r), .val (.int x), .val (.int b)] [(.int f), (.ref o)]))
  obtain ⟨T11, h11, X11, e11, W11, st11⟩ := putF X2 hx hZ hown (host := "") (Or.inl (hw _ (List.mem_of_getElem? (i := 24) rfl))) Via.refl e2 F_1_x5 E_o_x3 (Or.inr ⟨(hw _ (List.mem_of_getElem? (i := 25) rfl)), rfl, hnm⟩) (hw _ (List.mem_of_getElem? (i := 1) rfl)) (ty := .int) (by decide) rfl rfl (g := (mkF m 11 #[.val (.ref o), .val (.ref st), .val (.int f), .val (.int c0), .val (.int r), .val (.int x), .val (.int b)] [(.int f), (.ref o)])) rfl rfl (hb hby d1_11)
  have N11 := Fr.snoc X11 N2 g_o
  have E_o_x12 := E_o_x3.wr W11
  have F_0_x13 := F_0_x4.other W11 (Or.inr (slot_ne (Or.inr (hw _ (List.mem_of_getElem? (i := 23) rfl))) (Or.inr (hw _ (List.mem_of_getElem? (i := 25) rfl))) (by decide) (t := (.object "java/lang/String")) (t' := .int) (by decide) (by decide)))
  have F_1_x14 := F_1_x5.same W11
  have F_2_x15 := F_2_x6.other W11 (Or.inr (slot_ne (Or.inr (hw _ (List.mem_of_getElem? (i := 27) rfl))) (Or.inr (hw _ (List.mem_of_getElem? (i := 25) rfl))) (by decide) (t := .int) (t' := .int) (by decide) (by decide)))
  have F_3_x16 := F_3_x7.other W11 (Or.inr (slot_ne (Or.inr (hw _ (List.mem_of_getElem? (i := 29) rfl))) (Or.inr (hw _ (List.mem_of_getElem? (i := 25) rfl))) (by decide) (t := .int) (t' := .int) (by decide) (by decide)))
  have F_4_x17 := F_4_x8.other W11 (Or.inr (slot_ne (Or.inr (hw _ (List.mem_of_getElem? (i := 31) rfl))) (Or.inr (hw _ (List.mem_of_getElem? (i := 25) rfl))) (by decide) (t := .int) (t' := .int) (by decide) (by decide)))
  have F_5_x18 := F_5_x9.other W11 (Or.inr (slot_ne (Or.inr (hw _ (List.mem_of_getElem? (i := 33) rfl))) (Or.inr (hw _ (List.mem_of_getElem? (i := 25) rfl))) (by decide) (t := .int) (t' := .int) (by decide) (by decide)))
  have K19 : Keep h0 h11 [o] := K10.wr W11 (Or.inl (List.mem_of_getElem? (i := 0) rfl))
  refine own_st st11 ?_
  show own_Go p.tables e below _ (T11.setTop (mkF m 14 #[.val (.ref o), .val (.ref st), .val (.int f), .val (.int c0), .val (.int r), .val (.int x), .val (.int b)] []))
  refine own_st (fun _ k' => XS.aloadN X11.here hx rfl (hb hby d1_14) rfl rfl k') ?_
  show own_Go p.tables e below _ (T11.setTop (mkF m 15 #[.val (.ref o), .val (.ref st), .val (.int f), .val (.int c0), .val (.int r), .val (.int x), .val (.int b)] [(.ref o)]))
  refine own_st (fun _ k' => XS.iloadN X11.here hx rfl (hb hby d1_15) rfl k') ?_
  show own_Go p.tables e below _ (T11.setTop (mkF m 16 #[.val (.ref o), .val (.ref st), .val (.int f), .val (.int c0), .val (.int r), .val (.int x), .val (.int b)] [(.int c0), (.ref o)]))
  obtain ⟨T20, h20, X20, e20, W20, st20⟩ := putF X11 hx hZ hown (host := "") (Or.inl (hw _ (List.mem_of_getElem? (i := 26) rfl))) Via.refl e11 F_2_x15 E_o_x12 (Or.inr ⟨(hw _ (List.mem_of_getElem? (i := 27) rfl)), rfl, hnm⟩) (hw _ (List.mem_of_getElem? (i := 1) rfl)) (ty := .int) (by decide) rfl rfl (g := (mkF m 16 #[.val (.ref o), .val (.ref st), .val (.int f), .val (.int c0), .val (.int r), .val (.int x), .val (.int b)] [(.int c0), (.ref o)])) rfl rfl (hb hby d1_16)
  have N20 := Fr.snoc X20 N11 g_o
  have E_o_x21 := E_o_x12.wr W20
  have F_0_x22 := F_0_x13.other W20 (Or.inr (slot_ne (Or.inr (hw _ (List.mem_of_getElem? (i := 23) rfl))) (Or.inr (hw _ (List.mem_of_getElem? (i := 27) rfl))) (by decide) (t := (.object "java/lang/String")) (t' := .int) (by decide) (by decide)))
  have F_1_x23 := F_1_x14.other W20 (Or.inr (slot_ne (Or.inr (hw _ (List.mem_of_getElem? (i := 25) rfl))) (Or.inr (hw _ (List.mem_of_getElem? (i := 27) rfl))) (by decide) (t := .int) (t' := .int) (by decide) (by decide)))
  have F_2_x24 := F_2_x15.same W20
  have F_3_x25 := F_3_x16.other W20 (Or.inr (slot_ne (Or.inr (hw _ (List.mem_of_getElem? (i := 29) rfl))) (Or.inr (hw _ (List.mem_of_getElem? (i := 27) rfl))) (by decide) (t := .int) (t' := .int) (by decide) (by decide)))
  have F_4_x26 := F_4_x17.other W20 (Or.inr (slot_ne (Or.inr (hw _ (List.mem_of_getElem? (i := 31) rfl))) (Or.inr (hw _ (List.mem_of_getElem? (i := 27) rfl))) (by decide) (t := .int) (t' := .int) (by decide) (by decide)))
  have F_5_x27 := F_5_x18.other W20 (Or.inr (slot_ne (Or.inr (hw _ (List.mem_of_getElem? (i := 33) rfl))) (Or.inr (hw _ (List.mem_of_getElem? (i := 27) rfl))) (by decide) (t := .int) (t' := .int) (by decide) (by decide)))
  have K28 : Keep h0 h20 [o] := K19.wr W20 (Or.inl (List.mem_of_getElem? (i := 0) rfl))
  refine own_st st20 ?_
  show own_Go p.tables e below _ (T20.setTop (mkF m 19 #[.val (.ref o), .val (.ref st), .val (.int f), .val (.int c0), .val (.int r), .val (.int x), .val (.int b)] []))
  refine own_st (fun _ k' => XS.aloadN X20.here hx rfl (hb hby d1_19) rfl rfl k') ?_
  show own_Go p.tables e below _ (T20.setTop (mkF m 20 #[.val (.ref o), .val (.ref st), .val (.int f), .val (.int c0), .val (.int r), .val (.int x), .val (.int b)] [(.ref o)]))
  refine own_st (fun _ k' => XS.iload X20.here hx rfl (hb hby d1_20) rfl k') ?_
  show own_Go p.tables e below _ (T20.setTop (mkF m 22 #[.val (.ref o), .val (.ref st), .val (.int f), .val (.int c0), .val (.int r), .val (.int x), .val (.int b)] [(.int r), (.ref o)]))
  obtain ⟨T29, h29, X29, e29, W29, st29⟩ := putF X20 hx hZ hown (host := "") (Or.inl (hw _ (List.mem_of_getElem? (i := 28) rfl))) Via.refl e20 F_3_x25 E_o_x21 (Or.inr ⟨(hw _ (List.mem_of_getElem? (i := 29) rfl)), rfl, hnm⟩) (hw _ (List.mem_of_getElem? (i := 1) rfl)) (ty := .int) (by decide) rfl rfl (g := (mkF m 22 #[.val (.ref o), .val (.ref st), .val (.int f), .val (.int c0), .val (.int r), .val (.int x), .val (.int b)] [(.int r), (.ref o)])) rfl rfl (hb hby d1_22)
  have N29 := Fr.snoc X29 N20 g_o
  have E_o_x30 := E_o_x21.wr W29
  have F_0_x31 := F_0_x22.other W29 (Or.inr (slot_ne (Or.inr (hw _ (List.mem_of_getElem? (i := 23) rfl))) (Or.inr (hw _ (List.mem_of_getElem? (i := 29) rfl))) (by decide) (t := (.object "java/lang/String")) (t' := .int) (by decide) (by decide)))
  have F_1_x32 := F_1_x23.other W29 (Or.inr (slot_ne (Or.inr (hw _ (List.mem_of_getElem? (i := 25) rfl))) (Or.inr (hw _ (List.mem_of_getElem? (i := 29) rfl))) (by decide) (t := .int) (t' := .int) (by decide) (by decide)))
  have F_2_x33 := F_2_x24.other W29 (Or.inr (slot_ne (Or.inr (hw _ (List.mem_of_getElem? (i := 27) rfl))) (Or.inr (hw _ (List.mem_of_getElem? (i := 29) rfl))) (by decide) (t := .int) (t' := .int) (by decide) (by decide)))
  have F_3_x34 := F_3_x25.same W29
  have F_4_x35 := F_4_x26.other W29 (Or.inr (slot_ne (Or.inr (hw _ (List.mem_of_getElem? (i := 31) rfl))) (Or.inr (hw _ (List.mem_of_getElem? (i := 29) rfl))) (by decide) (t := .int) (t' := .int) (by decide) (by decide)))
  have F_5_x36 := F_5_x27.other W29 (Or.inr (slot_ne (Or.inr (hw _ (List.mem_of_getElem? (i := 33) rfl))) (Or.inr (hw _ (List.mem_of_getElem? (i := 29) rfl))) (by decide) (t := .int) (t' := .int) (by decide) (by decide)))
  have K37 : Keep h0 h29 [o] := K28.wr W29 (Or.inl (List.mem_of_getElem? (i := 0) rfl))
  refine own_st st29 ?_
  show own_Go p.tables e below _ (T29.setTop (mkF m 25 #[.val (.ref o), .val (.ref st), .val (.int f), .val (.int c0), .val (.int r), .val (.int x), .val (.int b)] []))
  refine own_st (fun _ k' => XS.aloadN X29.here hx rfl (hb hby d1_25) rfl rfl k') ?_
  show own_Go p.tables e below _ (T29.setTop (mkF m 26 #[.val (.ref o), .val (.ref st), .val (.int f), .val (.int c0), .val (.int r), .val (.int x), .val (.int b)] [(.ref o)]))
  refine own_st (fun _ k' => XS.iload X29.here hx rfl (hb hby d1_26) rfl k') ?_
  show own_Go p.tables e below _ (T29.setTop (mkF m 28 #[.val (.ref o), .val (.ref st), .val (.int f), .val (.int c0), .val (.int r), .val (.int x), .val (.int b)] [(.int x), (.ref o)]))
  obtain ⟨T38, h38, X38, e38, W38, st38⟩ := putF X29 hx hZ hown (host := "") (Or.inl (hw _ (List.mem_of_getElem? (i := 30) rfl))) Via.refl e29 F_4_x35 E_o_x30 (Or.inr ⟨(hw _ (List.mem_of_getElem? (i := 31) rfl)), rfl, hnm⟩) (hw _ (List.mem_of_getElem? (i := 1) rfl)) (ty := .int) (by decide) rfl rfl (g := (mkF m 28 #[.val (.ref o), .val (.ref st), .val (.int f), .val (.int c0), .val (.int r), .val (.int x), .val (.int b)] [(.int x), (.ref o)])) rfl rfl (hb hby d1_28)
  have N38 := Fr.snoc X38 N29 g_o
  have E_o_x39 := E_o_x30.wr W38
  have F_0_x40 := F_0_x31.other W38 (Or.inr (slot_ne (Or.inr (hw _ (List.mem_of_getElem? (i := 23) rfl))) (Or.inr (hw _ (List.mem_of_getElem? (i := 31) rfl))) (by decide) (t := (.object "java/lang/String")) (t' := .int) (by decide) (by decide)))
  have F_1_x41 := F_1_x32.other W38 (Or.inr (slot_ne (Or.inr (hw _ (List.mem_of_getElem? (i := 25) rfl))) (Or.inr (hw _ (List.mem_of_getElem? (i := 31) rfl))) (by decide) (t := .int) (t' := .int) (by decide) (by decide)))
  have F_2_x42 := F_2_x33.other W38 (Or.inr (slot_ne (Or.inr (hw _ (List.mem_of_getElem? (i := 27) rfl))) (Or.inr (hw _ (List.mem_of_getElem? (i := 31) rfl))) (by decide) (t := .int) (t' := .int) (by decide) (by decide)))
  have F_3_x43 := F_3_x34.other W38 (Or.inr (slot_ne (Or.inr (hw _ (List.mem_of_getElem? (i := 29) rfl))) (Or.inr (hw _ (List.mem_of_getElem? (i := 31) rfl))) (by decide) (t := .int) (t' := .int) (by decide) (by decide)))
  have F_4_x44 := F_4_x35.same W38
  have F_5_x45 := F_5_x36.other W38 (Or.inr (slot_ne (Or.inr (hw _ (List.mem_of_getElem? (i := 33) rfl))) (Or.inr (hw _ (List.mem_of_getElem? (i := 31) rfl))) (by decide) (t := .int) (t' := .int) (by decide) (by decide)))
  have K46 : Keep h0 h38 [o] := K37.wr W38 (Or.inl (List.mem_of_getElem? (i := 0) rfl))
  refine own_st st38 ?_
  show own_Go p.tables e below _ (T38.setTop (mkF m 31 #[.val (.ref o), .val (.ref st), .val (.int f), .val (.int c0), .val (.int r), .val (.int x), .val (.int b)] []))
  refine own_st (fun _ k' => XS.aloadN X38.here hx rfl (hb hby d1_31) rfl rfl k') ?_
  show own_Go p.tables e below _ (T38.setTop (mkF m 32 #[.val (.ref o), .val (.ref st), .val (.int f), .val (.int c0), .val (.int r), .val (.int x), .val (.int b)] [(.ref o)]))
  refine own_st (fun _ k' => XS.iload X38.here hx rfl (hb hby d1_32) rfl k') ?_
  show own_Go p.tables e below _ (T38.setTop (mkF m 34 #[.val (.ref o), .val (.ref st), .val (.int f), .val (.int c0), .val (.int r), .val (.int x), .val (.int b)] [(.int b), (.ref o)]))
  obtain ⟨T47, h47, X47, e47, W47, st47⟩ := putF X38 hx hZ hown (host := "") (Or.inl (hw _ (List.mem_of_getElem? (i := 32) rfl))) Via.refl e38 F_5_x45 E_o_x39 (Or.inr ⟨(hw _ (List.mem_of_getElem? (i := 33) rfl)), rfl, hnm⟩) (hw _ (List.mem_of_getElem? (i := 1) rfl)) (ty := .int) (by decide) rfl rfl (g := (mkF m 34 #[.val (.ref o), .val (.ref st), .val (.int f), .val (.int c0), .val (.int r), .val (.int x), .val (.int b)] [(.int b), (.ref o)])) rfl rfl (hb hby d1_34)
  have N47 := Fr.snoc X47 N38 g_o
  have E_o_x48 := E_o_x39.wr W47
  have F_0_x49 := F_0_x40.other W47 (Or.inr (slot_ne (Or.inr (hw _ (List.mem_of_getElem? (i := 23) rfl))) (Or.inr (hw _ (List.mem_of_getElem? (i := 33) rfl))) (by decide) (t := (.object "java/lang/String")) (t' := .int) (by decide) (by decide)))
  have F_1_x50 := F_1_x41.other W47 (Or.inr (slot_ne (Or.inr (hw _ (List.mem_of_getElem? (i := 25) rfl))) (Or.inr (hw _ (List.mem_of_getElem? (i := 33) rfl))) (by decide) (t := .int) (t' := .int) (by decide) (by decide)))
  have F_2_x51 := F_2_x42.other W47 (Or.inr (slot_ne (Or.inr (hw _ (List.mem_of_getElem? (i := 27) rfl))) (Or.inr (hw _ (List.mem_of_getElem? (i := 33) rfl))) (by decide) (t := .int) (t' := .int) (by decide) (by decide)))
  have F_3_x52 := F_3_x43.other W47 (Or.inr (slot_ne (Or.inr (hw _ (List.mem_of_getElem? (i := 29) rfl))) (Or.inr (hw _ (List.mem_of_getElem? (i := 33) rfl))) (by decide) (t := .int) (t' := .int) (by decide) (by decide)))
  have F_4_x53 := F_4_x44.other W47 (Or.inr (slot_ne (Or.inr (hw _ (List.mem_of_getElem? (i := 31) rfl))) (Or.inr (hw _ (List.mem_of_getElem? (i := 33) rfl))) (by decide) (t := .int) (t' := .int) (by decide) (by decide)))
  have F_5_x54 := F_5_x45.same W47
  have K55 : Keep h0 h47 [o] := K46.wr W47 (Or.inl (List.mem_of_getElem? (i := 0) rfl))
  refine own_st st47 ?_
  show own_Go p.tables e below _ (T47.setTop (mkF m 37 #[.val (.ref o), .val (.ref st), .val (.int f), .val (.int c0), .val (.int r), .val (.int x), .val (.int b)] []))
  exact own_retV X47 hx Bd.returns (hb hby d1_37) Bd.notSynchronized ⟨rfl, N47, by rw [e47]; exact K55, by rw [e47]; exact E_o_x48, by rw [e47]; exact F_0_x49, by rw [e47]; exact F_1_x50, by rw [e47]; exact F_2_x51, by rw [e47]; exact F_3_x52, by rw [e47]; exact F_4_x53, by rw [e47]; exact F_5_x54⟩ (by decide) (by decide)

theorem d4_0 : decode prog_19_method_3_code 0 = .ok (.iload_n 1, 1) := by decide +kernel
theorem d4_1 : decode prog_19_method_3_code 1 = .ok (.tableswitch 48 0 2 #[27, 34, 41], 27) := by decide +kernel
theorem d4_28 : decode prog_19_method_3_code 28 = .ok (.aload_n 0, 1) := by decide +kernel
theorem d4_29 : decode prog_19_method_3_code 29 = .ok (.getfield 13, 3) := by decide +kernel
theorem d4_32 : decode prog_19_method_3_code 32 = .ok (.goto 21, 3) := by decide +kernel
theorem d4_35 : decode prog_19_method_3_code 35 = .ok (.aload_n 0, 1) := by decide +kernel
theorem d4_36 : decode prog_19_method_3_code 36 = .ok (.getfield 20, 3) := by decide +kernel
theorem d4_39 : decode prog_19_method_3_code 39 = .ok (.goto 14, 3) := by decide +kernel
theorem d4_42 : decode prog_19_method_3_code 42 = .ok (.aload_n 0, 1) := by decide +kernel
theorem d4_43 : decode prog_19_method_3_code 43 = .ok (.getfield 17, 3) := by decide +kernel
theorem d4_46 : decode prog_19_method_3_code 46 = .ok (.goto 7, 3) := by decide +kernel
theorem d4_49 : decode prog_19_method_3_code 49 = .ok (.aload_n 0, 1) := by decide +kernel
theorem d4_50 : decode prog_19_method_3_code 50 = .ok (.getfield 26, 3) := by decide +kernel
theorem d4_53 : decode prog_19_method_3_code 53 = .ok (.ireturn, 1) := by decide +kernel
theorem ef_rmL (m : MethodId) (x0 : Addr) (x1 : Int32) : entryFrame m #[(.ref x0), (.int x1)] 2 = mkF m 0 #[.val (.ref x0), .val (.int x1)] [] := by first | (simp [entryFrame, mkF, argsToLocals, Value.category]; done) | rfl
def Q_rmL (Z : State) (o : Addr) (k f c0 r b : Int32) (h0 : Heap) (n0 : Nat) (v : Option Value) (h : Heap) (L : List Loc) : Prop := v = some (.int (own_lv k f c0 r b)) ∧ Fr n0 L ∧ h = h0
def K_rmL (Z : State) (o : Addr) (k f c0 r b : Int32) (h0 : Heap) (n0 : Nat) (s : State) : Outcome → State → Prop := fun oo U' => ∃ v L, oo = .returned v ∧ Q_rmL Z o k f c0 r b h0 n0 v U'.heap L ∧ FrameEnd s oo U' L ({ frames := 0, cells := 0, slots := 0, locals := 0 } : Room).cells ({ frames := 0, cells := 0, slots := 0, locals := 0 } : Room).slots
set_option maxRecDepth 65536 in
set_option maxHeartbeats 40000000 in
theorem rmL (l : Launch) (Z : State) (a0 : Array Value) (hw : ∀ d ∈ tables_1, d.before a0 Z = true) (ws : List Jvm.Cond) (o : Addr) (k f c0 r b : Int32) (h0 : Heap) (n0 : Nat) (Z0 : n0 ≤ h0.size) (F_field : Fld Z h0 o "com/example/segmenta/segmenta/Separators" "field" "I" (.int f)) (F_component : Fld Z h0 o "com/example/segmenta/segmenta/Separators" "component" "I" (.int c0)) (F_repetition : Fld Z h0 o "com/example/segmenta/segmenta/Separators" "repetition" "I" (.int r)) (F_subcomponent : Fld Z h0 o "com/example/segmenta/segmenta/Separators" "subcomponent" "I" (.int b)) :
    MetFree l (⟨"com/example/segmenta/segmenta/Separators", "ofLevel", "(I)I"⟩ : MethodName) (head1 (Jvm.Cond.code (⟨"com/example/segmenta/segmenta/Separators", "ofLevel", "(I)I"⟩ : MethodName) prog_19_method_3_code 2 (some .int) :: ws) ({ frames := 0, cells := 0, slots := 0, locals := 0 } : Room)) (fun a U => a = #[(.ref o), (.int k)] ∧ Z.Warmed39 U.vm ∧ U.heap = h0) (fun _ _ _ _ _ => True) (fun _ U oo U' => ∃ v L, oo = .returned v ∧ Q_rmL Z o k f c0 r b h0 n0 v U'.heap L ∧ FrameEnd U oo U' L ({ frames := 0, cells := 0, slots := 0, locals := 0 } : Room).cells ({ frames := 0, cells := 0, slots := 0, locals := 0 } : Room).slots) := by
  refine MetFree.of_bodySF (plainFor_of_name pn_com_example_segmenta_segmenta_Separators) hisR ?_
  intro p e s m args below meth c s₁ Bd hml0 hP hK
  obtain ⟨rfl, hZ, hh⟩ := hP
  have hx := Bd.exec
  have hby := Bd.bytes
  have hml : c.maxLocals = 2 := hml0
  have hown : s.vm.findClass "com/example/segmenta/segmenta/Separators" = some m.cls := findClass_of_methodNamed Bd.named
  have hnm := (name_of_methodNamed Bd.named Bd.method).1
  have X0 : Stand p l e ({ frames := 0, cells := 0, slots := 0, locals := 0 } : Room) s m #[(.ref o), (.int k)] below meth c s₁ [] 0 0 := Stand.of_body Bd
  have e0 : s₁.heap = h0 := by rw [← hh, Bd.state]; rfl
  have N0 := Fr.nil n0
  refine own_st (K := (K_rmL Z o k f c0 r b h0 n0 s)) (fun t' k' => castTop (ef_rmL m o k) k') ?_
  show own_Go p.tables e below _ (s₁.setTop (mkF m 0 #[.val (.ref o), .val (.int k)] []))
  refine own_st (fun _ k' => XS.iloadN X0.here hx rfl (hb hby d4_0) rfl k') ?_
  show own_Go p.tables e below _ (s₁.setTop (mkF m 1 #[.val (.ref o), .val (.int k)] [(.int k)]))
  by_cases h0 : k = 0
  ·  -- case 0
    subst h0
    refine own_st (fun _ k' => XS.tswIn X0.here hx rfl (pc0 := 1) (pc' := 28) rfl (hb hby d4_1) rfl (i := 0) (by decide) rfl (by decide) (by decide) k') ?_
    show own_Go p.tables e below _ (s₁.setTop (mkF m 28 #[.val (.ref o), .val (.int (0 : Int32))] []))
    refine own_st (fun _ k' => XS.aloadN X0.here hx rfl (hb hby d4_28) rfl rfl k') ?_
    show own_Go p.tables e below _ (s₁.setTop (mkF m 29 #[.val (.ref o), .val (.int (0 : Int32))] [(.ref o)]))
    obtain ⟨T1, X1, e1, st1⟩ := getF X0 hx hZ hown (host := "") (Or.inl (hw _ (List.mem_of_getElem? (i := 24) rfl))) Via.refl e0 F_field (g := (mkF m 29 #[.val (.ref o), .val (.int (0 : Int32))] [(.ref o)])) rfl rfl (hb hby d4_29)
    refine own_st st1 ?_
    show own_Go p.tables e below _ (T1.setTop (mkF m 32 #[.val (.ref o), .val (.int (0 : Int32))] [(.int f)]))
    refine own_st (fun _ k' => XS.goto X1.here hx rfl (pc0 := 32) (pc' := 53) rfl (hb hby d4_32) (by decide) (by decide) k') ?_
    show own_Go p.tables e below _ (T1.setTop (mkF m 53 #[.val (.ref o), .val (.int (0 : Int32))] [(.int f)]))
    exact own_retI X1 hx Bd.returns (hb hby d4_53) Bd.notSynchronized ⟨rfl, N0, e1⟩ (by decide) (by decide)
  by_cases h1 : k = 1
  ·  -- case 1
    subst h1
    refine own_st (fun _ k' => XS.tswIn X0.here hx rfl (pc0 := 1) (pc' := 35) rfl (hb hby d4_1) rfl (i := 1) (by decide) rfl (by decide) (by decide) k') ?_
    show own_Go p.tables e below _ (s₁.setTop (mkF m 35 #[.val (.ref o), .val (.int (1 : Int32))] []))
    refine own_st (fun _ k' => XS.aloadN X0.here hx rfl (hb hby d4_35) rfl rfl k') ?_
    show own_Go p.tables e below _ (s₁.setTop (mkF m 36 #[.val (.ref o), .val (.int (1 : Int32))] [(.ref o)]))
    obtain ⟨T2, X2, e2, st2⟩ := getF X0 hx hZ hown (host := "") (Or.inl (hw _ (List.mem_of_getElem? (i := 28) rfl))) Via.refl e0 F_repetition (g := (mkF m 36 #[.val (.ref o), .val (.int (1 : Int32))] [(.ref o)])) rfl rfl (hb hby d4_36)
    refine own_st st2 ?_
    show own_Go p.tables e below _ (T2.setTop (mkF m 39 #[.val (.ref o), .val (.int (1 : Int32))] [(.int r)]))
    refine own_st (fun _ k' => XS.goto X2.here hx rfl (pc0 := 39) (pc' := 53) rfl (hb hby d4_39) (by decide) (by decide) k') ?_
    show own_Go p.tables e below _ (T2.setTop (mkF m 53 #[.val (.ref o), .val (.int (1 : Int32))] [(.int r)]))
    exact own_retI X2 hx Bd.returns (hb hby d4_53) Bd.notSynchronized ⟨rfl, N0, e2⟩ (by decide) (by decide)
  by_cases h2 : k = 2
  ·  -- case 2
    subst h2
    refine own_st (fun _ k' => XS.tswIn X0.here hx rfl (pc0 := 1) (pc' := 42) rfl (hb hby d4_1) rfl (i := 2) (by decide) rfl (by decide) (by decide) k') ?_
    show own_Go p.tables e below _ (s₁.setTop (mkF m 42 #[.val (.ref o), .val (.int (2 : Int32))] []))
    refine own_st (fun _ k' => XS.aloadN X0.here hx rfl (hb hby d4_42) rfl rfl k') ?_
    show own_Go p.tables e below _ (s₁.setTop (mkF m 43 #[.val (.ref o), .val (.int (2 : Int32))] [(.ref o)]))
    obtain ⟨T3, X3, e3, st3⟩ := getF X0 hx hZ hown (host := "") (Or.inl (hw _ (List.mem_of_getElem? (i := 26) rfl))) Via.refl e0 F_component (g := (mkF m 43 #[.val (.ref o), .val (.int (2 : Int32))] [(.ref o)])) rfl rfl (hb hby d4_43)
    refine own_st st3 ?_
    show own_Go p.tables e below _ (T3.setTop (mkF m 46 #[.val (.ref o), .val (.int (2 : Int32))] [(.int c0)]))
    refine own_st (fun _ k' => XS.goto X3.here hx rfl (pc0 := 46) (pc' := 53) rfl (hb hby d4_46) (by decide) (by decide) k') ?_
    show own_Go p.tables e below _ (T3.setTop (mkF m 53 #[.val (.ref o), .val (.int (2 : Int32))] [(.int c0)]))
    exact own_retI X3 hx Bd.returns (hb hby d4_53) Bd.notSynchronized ⟨rfl, N0, e3⟩ (by decide) (by decide)
  refine own_st (fun _ k' => XS.tswOut X0.here hx rfl (pc0 := 1) (pc' := 49) rfl (hb hby d4_1) rfl (own_out h0 h1 h2) (by decide) (by decide) k') ?_
  show own_Go p.tables e below _ (s₁.setTop (mkF m 49 #[.val (.ref o), .val (.int k)] []))
  refine own_st (fun _ k' => XS.aloadN X0.here hx rfl (hb hby d4_49) rfl rfl k') ?_
  show own_Go p.tables e below _ (s₁.setTop (mkF m 50 #[.val (.ref o), .val (.int k)] [(.ref o)]))
  obtain ⟨T4, X4, e4, st4⟩ := getF X0 hx hZ hown (host := "") (Or.inl (hw _ (List.mem_of_getElem? (i := 32) rfl))) Via.refl e0 F_subcomponent (g := (mkF m 50 #[.val (.ref o), .val (.int k)] [(.ref o)])) rfl rfl (hb hby d4_50)
  refine own_st st4 ?_
  show own_Go p.tables e below _ (T4.setTop (mkF m 53 #[.val (.ref o), .val (.int k)] [(.int b)]))
  exact own_retI X4 hx Bd.returns (hb hby d4_53) Bd.notSynchronized ⟨by simp [own_lv, h0, h1, h2], N0, e4⟩ (by decide) (by decide)

theorem d5_0 : decode method_2_code 0 = .ok (.iload_n 0, 1) := by decide +kernel
theorem d5_1 : decode method_2_code 1 = .ok (.ifCond .ne 5, 3) := by decide +kernel
theorem d5_4 : decode method_2_code 4 = .ok (.iload_n 1, 1) := by decide +kernel
theorem d5_5 : decode method_2_code 5 = .ok (.ireturn, 1) := by decide +kernel
theorem d5_6 : decode method_2_code 6 = .ok (.iload_n 0, 1) := by decide +kernel
theorem d5_7 : decode method_2_code 7 = .ok (.iconst 1, 1) := by decide +kernel
theorem d5_8 : decode method_2_code 8 = .ok (.if_icmp .ne 5, 3) := by decide +kernel
theorem d5_11 : decode method_2_code 11 = .ok (.iload_n 3, 1) := by decide +kernel
theorem d5_12 : decode method_2_code 12 = .ok (.ireturn, 1) := by decide +kernel
theorem d5_13 : decode method_2_code 13 = .ok (.iload_n 0, 1) := by decide +kernel
theorem d5_14 : decode method_2_code 14 = .ok (.iconst 2, 1) := by decide +kernel
theorem d5_15 : decode method_2_code 15 = .ok (.if_icmp .ne 5, 3) := by decide +kernel
theorem d5_18 : decode method_2_code 18 = .ok (.iload_n 2, 1) := by decide +kernel
theorem d5_19 : decode method_2_code 19 = .ok (.ireturn, 1) := by decide +kernel
theorem d5_20 : decode method_2_code 20 = .ok (.iload 4, 2) := by decide +kernel
theorem d5_22 : decode method_2_code 22 = .ok (.ireturn, 1) := by decide +kernel
theorem pn_com_example_segmenta_segmenta_SeparatorsOfLevelPinLaw : plainName "com/example/segmenta/segmenta/SeparatorsOfLevelPinLaw" = true := by first | (simp [plainName, overriddenIn]; done) | decide +kernel
theorem ef_rmX (m : MethodId) (x0 : Int32) (x1 : Int32) (x2 : Int32) (x3 : Int32) (x4 : Int32) : entryFrame m #[(.int x0), (.int x1), (.int x2), (.int x3), (.int x4)] 5 = mkF m 0 #[.val (.int x0), .val (.int x1), .val (.int x2), .val (.int x3), .val (.int x4)] [] := by first | (simp [entryFrame, mkF, argsToLocals, Value.category]; done) | rfl
def Q_rmX (Z : State) (k f c0 r b : Int32) (h0 : Heap) (n0 : Nat) (v : Option Value) (h : Heap) (L : List Loc) : Prop := v = some (.int (own_lv k f c0 r b)) ∧ Fr n0 L ∧ h = h0
def K_rmX (Z : State) (k f c0 r b : Int32) (h0 : Heap) (n0 : Nat) (s : State) : Outcome → State → Prop := fun oo U' => ∃ v L, oo = .returned v ∧ Q_rmX Z k f c0 r b h0 n0 v U'.heap L ∧ FrameEnd s oo U' L ({ frames := 0, cells := 0, slots := 0, locals := 0 } : Room).cells ({ frames := 0, cells := 0, slots := 0, locals := 0 } : Room).slots
set_option maxRecDepth 65536 in
set_option maxHeartbeats 40000000 in
theorem rmX (l : Launch) (Z : State) (a0 : Array Value) (hw : ∀ d ∈ tables_1, d.before a0 Z = true) (ws : List Jvm.Cond) (k f c0 r b : Int32) (h0 : Heap) (n0 : Nat) (Z0 : n0 ≤ h0.size)  :
    MetFree l (⟨"com/example/segmenta/segmenta/SeparatorsOfLevelPinLaw", "expected", "(IIIII)I"⟩ : MethodName) (head1 (Jvm.Cond.code (⟨"com/example/segmenta/segmenta/SeparatorsOfLevelPinLaw", "expected", "(IIIII)I"⟩ : MethodName) method_2_code 5 (some .int) :: ws) ({ frames := 0, cells := 0, slots := 0, locals := 0 } : Room)) (fun a U => a = #[(.int k), (.int f), (.int c0), (.int r), (.int b)] ∧ Z.Warmed39 U.vm ∧ U.heap = h0) (fun _ _ _ _ _ => True) (fun _ U oo U' => ∃ v L, oo = .returned v ∧ Q_rmX Z k f c0 r b h0 n0 v U'.heap L ∧ FrameEnd U oo U' L ({ frames := 0, cells := 0, slots := 0, locals := 0 } : Room).cells ({ frames := 0, cells := 0, slots := 0, locals := 0 } : Room).slots) := by
  refine MetFree.of_bodySF (plainFor_of_name pn_com_example_segmenta_segmenta_SeparatorsOfLevelPinLaw) hisR ?_
  intro p e s m args below meth c s₁ Bd hml0 hP hK
  obtain ⟨rfl, hZ, hh⟩ := hP
  have hx := Bd.exec
  have hby := Bd.bytes
  have hml : c.maxLocals = 5 := hml0
  have hown : s.vm.findClass "com/example/segmenta/segmenta/SeparatorsOfLevelPinLaw" = some m.cls := findClass_of_methodNamed Bd.named
  have hnm := (name_of_methodNamed Bd.named Bd.method).1
  have X0 : Stand p l e ({ frames := 0, cells := 0, slots := 0, locals := 0 } : Room) s m #[(.int k), (.int f), (.int c0), (.int r), (.int b)] below meth c s₁ [] 0 0 := Stand.of_body Bd
  have e0 : s₁.heap = h0 := by rw [← hh, Bd.state]; rfl
  have N0 := Fr.nil n0
  refine own_st (K := (K_rmX Z k f c0 r b h0 n0 s)) (fun t' k' => castTop (ef_rmX m k f c0 r b) k') ?_
  show own_Go p.tables e below _ (s₁.setTop (mkF m 0 #[.val (.int k), .val (.int f), .val (.int c0), .val (.int r), .val (.int b)] []))
  refine own_st (fun _ k' => XS.iloadN X0.here hx rfl (hb hby d5_0) rfl k') ?_
  show own_Go p.tables e below _ (s₁.setTop (mkF m 1 #[.val (.int k), .val (.int f), .val (.int c0), .val (.int r), .val (.int b)] [(.int k)]))
  by_cases hc1 : k = (0 : Int32)
  ·  -- pc 1, k = (0 : Int32)
    refine own_st (fun _ k' => XS.ifNo X0.here hx rfl (hb hby d5_1) rfl ((if0 _ _).trans (teq hc1).2) k') ?_
    show own_Go p.tables e below _ (s₁.setTop (mkF m 4 #[.val (.int k), .val (.int f), .val (.int c0), .val (.int r), .val (.int b)] []))
    refine own_st (fun _ k' => XS.iloadN X0.here hx rfl (hb hby d5_4) rfl k') ?_
    show own_Go p.tables e below _ (s₁.setTop (mkF m 5 #[.val (.int k), .val (.int f), .val (.int c0), .val (.int r), .val (.int b)] [(.int f)]))
    exact own_retI X0 hx Bd.returns (hb hby d5_5) Bd.notSynchronized ⟨by simp [own_lv, hc1], N0, e0⟩ (by decide) (by decide)
  ·  -- pc 1, not k = (0 : Int32)
    refine own_st (fun _ k' => XS.ifYes X0.here hx rfl (pc0 := 1) (pc' := 6) rfl (hb hby d5_1) rfl ((if0 _ _).trans (feq hc1).2) (by decide) (by decide) k') ?_
    show own_Go p.tables e below _ (s₁.setTop (mkF m 6 #[.val (.int k), .val (.int f), .val (.int c0), .val (.int r), .val (.int b)] []))
    refine own_st (fun _ k' => XS.iloadN X0.here hx rfl (hb hby d5_6) rfl k') ?_
    show own_Go p.tables e below _ (s₁.setTop (mkF m 7 #[.val (.int k), .val (.int f), .val (.int c0), .val (.int r), .val (.int b)] [(.int k)]))
    refine own_st (fun _ k' => XS.iconst X0.here hx rfl (hb hby d5_7) k') ?_
    show own_Go p.tables e below _ (s₁.setTop (mkF m 8 #[.val (.int k), .val (.int f), .val (.int c0), .val (.int r), .val (.int b)] [(.int (1 : Int32)), (.int k)]))
    by_cases hc2 : k = (1 : Int32)
    ·  -- pc 8, k = (1 : Int32)
      refine own_st (fun _ k' => XS.icmpNo X0.here hx rfl (hb hby d5_8) rfl (teq hc2).2 k') ?_
      show own_Go p.tables e below _ (s₁.setTop (mkF m 11 #[.val (.int k), .val (.int f), .val (.int c0), .val (.int r), .val (.int b)] []))
      refine own_st (fun _ k' => XS.iloadN X0.here hx rfl (hb hby d5_11) rfl k') ?_
      show own_Go p.tables e below _ (s₁.setTop (mkF m 12 #[.val (.int k), .val (.int f), .val (.int c0), .val (.int r), .val (.int b)] [(.int r)]))
      exact own_retI X0 hx Bd.returns (hb hby d5_12) Bd.notSynchronized ⟨by simp [own_lv, hc1, hc2], N0, e0⟩ (by decide) (by decide)
    ·  -- pc 8, not k = (1 : Int32)
      refine own_st (fun _ k' => XS.icmpYes X0.here hx rfl (pc0 := 8) (pc' := 13) rfl (hb hby d5_8) rfl (feq hc2).2 (by decide) (by decide) k') ?_
      show own_Go p.tables e below _ (s₁.setTop (mkF m 13 #[.val (.int k), .val (.int f), .val (.int c0), .val (.int r), .val (.int b)] []))
      refine own_st (fun _ k' => XS.iloadN X0.here hx rfl (hb hby d5_13) rfl k') ?_
      show own_Go p.tables e below _ (s₁.setTop (mkF m 14 #[.val (.int k), .val (.int f), .val (.int c0), .val (.int r), .val (.int b)] [(.int k)]))
      refine own_st (fun _ k' => XS.iconst X0.here hx rfl (hb hby d5_14) k') ?_
      show own_Go p.tables e below _ (s₁.setTop (mkF m 15 #[.val (.int k), .val (.int f), .val (.int c0), .val (.int r), .val (.int b)] [(.int (2 : Int32)), (.int k)]))
      by_cases hc3 : k = (2 : Int32)
      ·  -- pc 15, k = (2 : Int32)
        refine own_st (fun _ k' => XS.icmpNo X0.here hx rfl (hb hby d5_15) rfl (teq hc3).2 k') ?_
        show own_Go p.tables e below _ (s₁.setTop (mkF m 18 #[.val (.int k), .val (.int f), .val (.int c0), .val (.int r), .val (.int b)] []))
        refine own_st (fun _ k' => XS.iloadN X0.here hx rfl (hb hby d5_18) rfl k') ?_
        show own_Go p.tables e below _ (s₁.setTop (mkF m 19 #[.val (.int k), .val (.int f), .val (.int c0), .val (.int r), .val (.int b)] [(.int c0)]))
        exact own_retI X0 hx Bd.returns (hb hby d5_19) Bd.notSynchronized ⟨by simp [own_lv, hc1, hc2, hc3], N0, e0⟩ (by decide) (by decide)
      ·  -- pc 15, not k = (2 : Int32)
        refine own_st (fun _ k' => XS.icmpYes X0.here hx rfl (pc0 := 15) (pc' := 20) rfl (hb hby d5_15) rfl (feq hc3).2 (by decide) (by decide) k') ?_
        show own_Go p.tables e below _ (s₁.setTop (mkF m 20 #[.val (.int k), .val (.int f), .val (.int c0), .val (.int r), .val (.int b)] []))
        refine own_st (fun _ k' => XS.iload X0.here hx rfl (hb hby d5_20) rfl k') ?_
        show own_Go p.tables e below _ (s₁.setTop (mkF m 22 #[.val (.int k), .val (.int f), .val (.int c0), .val (.int r), .val (.int b)] [(.int b)]))
        exact own_retI X0 hx Bd.returns (hb hby d5_22) Bd.notSynchronized ⟨by simp [own_lv, hc1, hc2, hc3], N0, e0⟩ (by decide) (by decide)

theorem pd__Ljava_lang_String_IIIII_V : parseMethodDescriptor "(Ljava/lang/String;IIIII)V" = some ⟨[(.object "java/lang/String"), .int, .int, .int, .int, .int], none⟩ := by decide +kernel
theorem pd__I_I : parseMethodDescriptor "(I)I" = some ⟨[.int], some .int⟩ := by decide +kernel
theorem pd__IIIII_I : parseMethodDescriptor "(IIIII)I" = some ⟨[.int, .int, .int, .int, .int], some .int⟩ := by decide +kernel
theorem ef_rm0 (m : MethodId) (x0 : Int32) (x1 : Int32) (x2 : Int32) (x3 : Int32) (x4 : Int32) (x5 : Int32) : entryFrame m #[(.int x0), (.int x1), (.int x2), (.int x3), (.int x4), (.int x5)] maxLocals = mkF m 0 #[.val (.int x0), .val (.int x1), .val (.int x2), .val (.int x3), .val (.int x4), .val (.int x5), .unset, .unset, .unset] [] := by first | (simp [entryFrame, mkF, argsToLocals, Value.category, maxLocals]; done) | rfl
def Q_rm0 (Z : State) (p0 p1 p2 p3 p4 p5 : Int32) (h0 : Heap) (n0 : Nat) (v : Option Value) (h : Heap) (L : List Loc) : Prop := v = some (.int 1) ∧ Fr n0 L
def K_rm0 (Z : State) (p0 p1 p2 p3 p4 p5 : Int32) (h0 : Heap) (n0 : Nat) (s : State) : Outcome → State → Prop := fun oo U' => ∃ v L, oo = .returned v ∧ Q_rm0 Z p0 p1 p2 p3 p4 p5 h0 n0 v U'.heap L ∧ ReturnedEndW s oo U' L 3 22
set_option maxRecDepth 65536 in
set_option maxHeartbeats 40000000 in
theorem rm0 (l : Launch) (Z : State) (a0 : Array Value) (hw : ∀ d ∈ tables_1, d.before a0 Z = true) (ws : List Jvm.Cond) (p0 p1 p2 p3 p4 p5 : Int32) (h0 : Heap) (n0 : Nat) (Z0 : n0 ≤ h0.size)  :
    MetFree l x (head1 (Jvm.Cond.code x code maxLocals ret :: ws) room_1) (fun a U => a = #[(.int p0), (.int p1), (.int p2), (.int p3), (.int p4), (.int p5)] ∧ Z.Warmed39 U.vm ∧ U.heap = h0) (fun _ _ _ _ _ => True) (fun _ U oo U' => ∃ v L, oo = .returned v ∧ Q_rm0 Z p0 p1 p2 p3 p4 p5 h0 n0 v U'.heap L ∧ ReturnedEndW U oo U' L 3 22) := by
  refine MetFree.of_bodySF (plainFor_of_name pn_com_example_segmenta_segmenta_SeparatorsOfLevelPinLaw) hisR ?_
  intro p e s m args below meth c s₁ Bd hml0 hP hK
  obtain ⟨rfl, hZ, hh⟩ := hP
  have hx := Bd.exec
  have hby := Bd.bytes
  have hml : c.maxLocals = 9 := hml0
  have hown : s.vm.findClass "com/example/segmenta/segmenta/SeparatorsOfLevelPinLaw" = some m.cls := findClass_of_methodNamed Bd.named
  have hnm := (name_of_methodNamed Bd.named Bd.method).1
  have X0 : Stand p l e room_1 s m #[(.int p0), (.int p1), (.int p2), (.int p3), (.int p4), (.int p5)] below meth c s₁ [] 0 0 := Stand.of_body Bd
  have e0 : s₁.heap = h0 := by rw [← hh, Bd.state]; rfl
  have N0 := Fr.nil n0
  refine own_st (K := (K_rm0 Z p0 p1 p2 p3 p4 p5 h0 n0 s)) (fun t' k' => castTop (ef_rm0 m p0 p1 p2 p3 p4 p5) k') ?_
  show own_Go p.tables e below _ (s₁.setTop (mkF m 0 #[.val (.int p0), .val (.int p1), .val (.int p2), .val (.int p3), .val (.int p4), .val (.int p5), .unset, .unset, .unset] []))
  refine own_st (fun _ k' => XS.iloadN X0.here hx rfl (hb hby at_0) rfl k') ?_
  show own_Go p.tables e below _ (s₁.setTop (mkF m 1 #[.val (.int p0), .val (.int p1), .val (.int p2), .val (.int p3), .val (.int p4), .val (.int p5), .unset, .unset, .unset] [(.int p0)]))
  refine own_st (fun _ k' => XS.iconst X0.here hx rfl (hb hby at_1) k') ?_
  show own_Go p.tables e below _ (s₁.setTop (mkF m 2 #[.val (.int p0), .val (.int p1), .val (.int p2), .val (.int p3), .val (.int p4), .val (.int p5), .unset, .unset, .unset] [(.int (3 : Int32)), (.int p0)]))
  refine own_st (fun _ k' => XS.iand X0.here hx rfl (hb hby at_2) rfl k') ?_
  show own_Go p.tables e below _ (s₁.setTop (mkF m 3 #[.val (.int p0), .val (.int p1), .val (.int p2), .val (.int p3), .val (.int p4), .val (.int p5), .unset, .unset, .unset] [(.int (p0 &&& (3 : Int32)))]))
  refine own_st (fun _ k' => XS.istore X0.here hx rfl (hb hby at_3) rfl (l' := #[.val (.int p0), .val (.int p1), .val (.int p2), .val (.int p3), .val (.int p4), .val (.int p5), .val (.int (p0 &&& (3 : Int32))), .unset, .unset]) rfl k') ?_
  show own_Go p.tables e below _ (s₁.setTop (mkF m 5 #[.val (.int p0), .val (.int p1), .val (.int p2), .val (.int p3), .val (.int p4), .val (.int p5), .val (.int (p0 &&& (3 : Int32))), .unset, .unset] []))
  obtain ⟨T1, h1, X1, e1, E1, A1, D1, -, st1⟩ := newO X0 hx hZ hown (hw _ (List.mem_of_getElem? (i := 0) rfl)) (hw _ (List.mem_of_getElem? (i := 1) rfl)) (hw _ (List.mem_of_getElem? (i := 2) rfl)) e0 (g := (mkF m 5 #[.val (.int p0), .val (.int p1), .val (.int p2), .val (.int p3), .val (.int p4), .val (.int p5), .val (.int (p0 &&& (3 : Int32))), .unset, .unset] [])) rfl (hb hby at_5) (by decide) (by decide)
  obtain ⟨b1, g1⟩ : ∃ z, z = h0.size := ⟨_, rfl⟩
  rw [← g1] at A1 D1 st1
  have g_b1 : n0 ≤ b1 := Nat.le_trans Z0 (Nat.le_of_eq g1.symm)
  have ZE1 : n0 ≤ h1.size := Nat.le_trans Z0 E1.1
  have F_header_b1 : Fld Z h1 b1 "com/example/segmenta/segmenta/Separators" "header" "Ljava/lang/String;" .null := D1 (Or.inr (hw _ (List.mem_of_getElem? (i := 23) rfl))) (ty := (.object "java/lang/String")) (by decide)
  have F_field_b1 : Fld Z h1 b1 "com/example/segmenta/segmenta/Separators" "field" "I" (.int (0 : Int32)) := D1 (Or.inr (hw _ (List.mem_of_getElem? (i := 25) rfl))) (ty := .int) (by decide)
  have F_component_b1 : Fld Z h1 b1 "com/example/segmenta/segmenta/Separators" "component" "I" (.int (0 : Int32)) := D1 (Or.inr (hw _ (List.mem_of_getElem? (i := 27) rfl))) (ty := .int) (by decide)
  have F_repetition_b1 : Fld Z h1 b1 "com/example/segmenta/segmenta/Separators" "repetition" "I" (.int (0 : Int32)) := D1 (Or.inr (hw _ (List.mem_of_getElem? (i := 29) rfl))) (ty := .int) (by decide)
  have F_escape_b1 : Fld Z h1 b1 "com/example/segmenta/segmenta/Separators" "escape" "I" (.int (0 : Int32)) := D1 (Or.inr (hw _ (List.mem_of_getElem? (i := 31) rfl))) (ty := .int) (by decide)
  have F_subcomponent_b1 : Fld Z h1 b1 "com/example/segmenta/segmenta/Separators" "subcomponent" "I" (.int (0 : Int32)) := D1 (Or.inr (hw _ (List.mem_of_getElem? (i := 33) rfl))) (ty := .int) (by decide)
  refine own_st st1 ?_
  show own_Go p.tables e below _ (T1.setTop (mkF m 8 #[.val (.int p0), .val (.int p1), .val (.int p2), .val (.int p3), .val (.int p4), .val (.int p5), .val (.int (p0 &&& (3 : Int32))), .unset, .unset] [(.ref b1)]))
  refine own_st (fun _ k' => XS.dup X1.here hx rfl (hb hby at_8) rfl rfl k') ?_
  show own_Go p.tables e below _ (T1.setTop (mkF m 9 #[.val (.int p0), .val (.int p1), .val (.int p2), .val (.int p3), .val (.int p4), .val (.int p5), .val (.int (p0 &&& (3 : Int32))), .unset, .unset] [(.ref b1), (.ref b1)]))
  have hlink : (Jvm.Cond.stringLink "com/example/segmenta/segmenta/SeparatorsOfLevelPinLaw" 9 "MSH").before #[(.int p0), (.int p1), (.int p2), (.int p3), (.int p4), (.int p5)] s = true := by
    have q := Cond.stringLink_warmed39 hZ (hw _ (List.mem_of_getElem? (i := 3) rfl))
    simp only [Jvm.Cond.before, Jvm.Cond.holds, Jvm.Cond.value] at q ⊢; exact q
  have hSA : ∀ a ∈ Bundle.stringAtoms, a.before #[(.int p0), (.int p1), (.int p2), (.int p3), (.int p4), (.int p5)] s = true := by
    intro a ha
    simp only [Bundle.stringAtoms, List.mem_cons, List.not_mem_nil, or_false] at ha
    rcases ha with rfl | rfl | rfl | rfl | rfl | rfl | rfl
    · exact mvT hZ (hw _ (List.mem_of_getElem? (i := 4) rfl))
    · exact mvT hZ (hw _ (List.mem_of_getElem? (i := 5) rfl))
    · exact mvA hZ (hw _ (List.mem_of_getElem? (i := 6) rfl))
    · exact mvT hZ (hw _ (List.mem_of_getElem? (i := 7) rfl))
    · exact mvT hZ (hw _ (List.mem_of_getElem? (i := 8) rfl))
    · exact mvT hZ (hw _ (List.mem_of_getElem? (i := 9) rfl))
    · exact mvT hZ (hw _ (List.mem_of_getElem? (i := 10) rfl))
  obtain ⟨st, T2, X2, hS2, -, hk2, hI2, st2⟩ := X1.ldcStringCold hx hown hlink hSA (g := (mkF m 9 #[.val (.int p0), .val (.int p1), .val (.int p2), .val (.int p3), .val (.int p4), .val (.int p5), .val (.int (p0 &&& (3 : Int32))), .unset, .unset] [(.ref b1), (.ref b1)])) rfl (hb hby at_9) (n := 12) (by decide) (by decide) (by decide) (by decide)
  have E2 : Ext h1 T2.heap := ⟨by rw [← e1]; exact hI2.1, fun a0 c q => by rw [hk2 a0 (by rw [e1]; exact (Array.getElem?_eq_some_iff.mp q).1), e1]; exact q⟩
  have hZ : Z.Warmed39 (s.setVm T2.vm).vm := State.Warmed39.trans hZ hS2.1
  have hown : (s.setVm T2.vm).vm.findClass "com/example/segmenta/segmenta/SeparatorsOfLevelPinLaw" = some m.cls := (hS2.1.alike.findClass _ _).trans hown
  have A1_x3 := A1.ext E2
  have F_header_b1_x4 := F_header_b1.ext E2
  have F_field_b1_x5 := F_field_b1.ext E2
  have F_component_b1_x6 := F_component_b1.ext E2
  have F_repetition_b1_x7 := F_repetition_b1.ext E2
  have F_escape_b1_x8 := F_escape_b1.ext E2
  have F_subcomponent_b1_x9 := F_subcomponent_b1.ext E2
  have ZE2 : n0 ≤ T2.heap.size := Nat.le_trans ZE1 E2.1
  refine own_st st2 ?_
  show own_Go p.tables e below _ (T2.setTop (mkF m 11 #[.val (.int p0), .val (.int p1), .val (.int p2), .val (.int p3), .val (.int p4), .val (.int p5), .val (.int (p0 &&& (3 : Int32))), .unset, .unset] [(.ref st), (.ref b1), (.ref b1)]))
  refine own_st (fun _ k' => XS.iloadN X2.here hx rfl (hb hby at_11) rfl k') ?_
  show own_Go p.tables e below _ (T2.setTop (mkF m 12 #[.val (.int p0), .val (.int p1), .val (.int p2), .val (.int p3), .val (.int p4), .val (.int p5), .val (.int (p0 &&& (3 : Int32))), .unset, .unset] [(.int p1), (.ref st), (.ref b1), (.ref b1)]))
  refine own_st (fun _ k' => XS.iloadN X2.here hx rfl (hb hby at_12) rfl k') ?_
  show own_Go p.tables e below _ (T2.setTop (mkF m 13 #[.val (.int p0), .val (.int p1), .val (.int p2), .val (.int p3), .val (.int p4), .val (.int p5), .val (.int (p0 &&& (3 : Int32))), .unset, .unset] [(.int p2), (.int p1), (.ref st), (.ref b1), (.ref b1)]))
  refine own_st (fun _ k' => XS.iloadN X2.here hx rfl (hb hby at_13) rfl k') ?_
  show own_Go p.tables e below _ (T2.setTop (mkF m 14 #[.val (.int p0), .val (.int p1), .val (.int p2), .val (.int p3), .val (.int p4), .val (.int p5), .val (.int (p0 &&& (3 : Int32))), .unset, .unset] [(.int p3), (.int p2), (.int p1), (.ref st), (.ref b1), (.ref b1)]))
  refine own_st (fun _ k' => XS.iload X2.here hx rfl (hb hby at_14) rfl k') ?_
  show own_Go p.tables e below _ (T2.setTop (mkF m 16 #[.val (.int p0), .val (.int p1), .val (.int p2), .val (.int p3), .val (.int p4), .val (.int p5), .val (.int (p0 &&& (3 : Int32))), .unset, .unset] [(.int p4), (.int p3), (.int p2), (.int p1), (.ref st), (.ref b1), (.ref b1)]))
  refine own_st (fun _ k' => XS.iload X2.here hx rfl (hb hby at_16) rfl k') ?_
  show own_Go p.tables e below _ (T2.setTop (mkF m 18 #[.val (.int p0), .val (.int p1), .val (.int p2), .val (.int p3), .val (.int p4), .val (.int p5), .val (.int (p0 &&& (3 : Int32))), .unset, .unset] [(.int p5), (.int p4), (.int p3), (.int p2), (.int p1), (.ref st), (.ref b1), (.ref b1)]))
  obtain ⟨_, _, ⟨T10, L10, k10, n10⟩, -, X10, ⟨Lc10, hQ10, l10, y10, z10⟩, st10⟩ := X2.specialBack hx (y := (⟨"com/example/segmenta/segmenta/Separators", "<init>", "(Ljava/lang/String;IIIII)V"⟩ : MethodName)) rfl hown (mvT hZ (hw _ (List.mem_of_getElem? (i := 11) rfl))) (mvT hZ (hw _ (List.mem_of_getElem? (i := 12) rfl))) (mvT hZ (hw _ (List.mem_of_getElem? (i := 13) rfl))) (by decide) (backOf (W := 1) (rmN l Z a0 hw [] b1 st p1 p2 p3 p4 p5 T2.heap n0 ZE2 A1_x3 F_header_b1_x4 F_field_b1_x5 F_component_b1_x6 F_repetition_b1_x7 F_escape_b1_x8 F_subcomponent_b1_x9 g_b1) hZ (hw _ (List.mem_of_getElem? (i := 13) rfl)) (hw _ (List.mem_of_getElem? (i := 2) rfl)) (by decide) (by decide)) (g := (mkF m 18 #[.val (.int p0), .val (.int p1), .val (.int p2), .val (.int p3), .val (.int p4), .val (.int p5), .val (.int (p0 &&& (3 : Int32))), .unset, .unset] [(.int p5), (.int p4), (.int p3), (.int p2), (.int p1), (.ref st), (.ref b1), (.ref b1)])) rfl (by rw [hml]; rfl) (Steps.refl _) (a := b1) (argsL := [(.ref st), (.int p1), (.int p2), (.int p3), (.int p4), (.int p5)]) (rest := [(.ref b1)]) (lenOf pd__Ljava_lang_String_IIIII_V rfl) rfl (by show 2 * 0 + _ ≤ _; exact Nat.le_of_eq rfl) (hb hby at_18) (fun _ _ => ⟨rfl, rfl, (by decide : 3 + 0 ≤ _), (by decide : 22 + 0 ≤ _)⟩)
  dsimp only [Pt.U, Pt.locs, Pt.cells, Pt.slots] at X10 l10 y10 z10 st10 hQ10
  subst l10 y10 z10
  obtain ⟨rfl, Nq10, Kc10, Ec10, Fcheader_10, Fcfield_10, Fccomponent_10, Fcrepetition_10, Fcescape_10, Fcsubcomponent_10⟩ := hQ10
  have N10 := Fr.app N0 Nq10
  have A1_x11 := A1_x3.keep Kc10
  have Zc10 : n0 ≤ T10.heap.size := Nat.le_trans ZE2 Kc10.1
  refine own_tr st10 ?_
  show own_Go p.tables e below _ (T10.setTop (mkF m 21 #[.val (.int p0), .val (.int p1), .val (.int p2), .val (.int p3), .val (.int p4), .val (.int p5), .val (.int (p0 &&& (3 : Int32))), .unset, .unset] [(.ref b1)]))
  refine own_st (fun _ k' => XS.astore X10.here hx rfl (hb hby at_21) rfl rfl (l' := #[.val (.int p0), .val (.int p1), .val (.int p2), .val (.int p3), .val (.int p4), .val (.int p5), .val (.int (p0 &&& (3 : Int32))), .val (.ref b1), .unset]) rfl k') ?_
  show own_Go p.tables e below _ (T10.setTop (mkF m 23 #[.val (.int p0), .val (.int p1), .val (.int p2), .val (.int p3), .val (.int p4), .val (.int p5), .val (.int (p0 &&& (3 : Int32))), .val (.ref b1), .unset] []))
  refine own_st (fun _ k' => XS.aload X10.here hx rfl (hb hby at_23) rfl rfl k') ?_
  show own_Go p.tables e below _ (T10.setTop (mkF m 25 #[.val (.int p0), .val (.int p1), .val (.int p2), .val (.int p3), .val (.int p4), .val (.int p5), .val (.int (p0 &&& (3 : Int32))), .val (.ref b1), .unset] [(.ref b1)]))
  refine own_st (fun _ k' => XS.iload X10.here hx rfl (hb hby at_25) rfl k') ?_
  show own_Go p.tables e below _ (T10.setTop (mkF m 27 #[.val (.int p0), .val (.int p1), .val (.int p2), .val (.int p3), .val (.int p4), .val (.int p5), .val (.int (p0 &&& (3 : Int32))), .val (.ref b1), .unset] [(.int (p0 &&& (3 : Int32))), (.ref b1)]))
  obtain ⟨cq18, kq18, q18a, q18b, q18c⟩ := isOf hZ rfl Ec10
  obtain ⟨_, _, ⟨T18, L18, k18, n18⟩, -, X18, ⟨Lc18, hQ18, l18, y18, z18⟩, st18⟩ := X10.virtualBack hx (y := (⟨"com/example/segmenta/segmenta/Separators", "ofLevel", "(I)I"⟩ : MethodName)) (z := (⟨"com/example/segmenta/segmenta/Separators", "ofLevel", "(I)I"⟩ : MethodName)) hown (mvT hZ (hw _ (List.mem_of_getElem? (i := 34) rfl))) (mvT hZ (hw _ (List.mem_of_getElem? (i := 35) rfl))) (notFace_of_selects (args := #[]) (mvT hZ (hw _ (List.mem_of_getElem? (i := 37) rfl)))) (mvT hZ (hw _ (List.mem_of_getElem? (i := 37) rfl))) (mvT hZ (hw _ (List.mem_of_getElem? (i := 36) rfl))) (by decide) (backOf (W := 0) (rmL l Z a0 hw [] b1 (p0 &&& (3 : Int32)) p1 p2 p3 p5 T10.heap n0 Zc10 Fcfield_10 Fccomponent_10 Fcrepetition_10 Fcsubcomponent_10) hZ (hw _ (List.mem_of_getElem? (i := 38) rfl)) (hw _ (List.mem_of_getElem? (i := 2) rfl)) (by decide) (by decide)) q18a q18c (g := (mkF m 27 #[.val (.int p0), .val (.int p1), .val (.int p2), .val (.int p3), .val (.int p4), .val (.int p5), .val (.int (p0 &&& (3 : Int32))), .val (.ref b1), .unset] [(.int (p0 &&& (3 : Int32))), (.ref b1)])) rfl (by rw [hml]; rfl) (Steps.refl _) (argsL := [(.int (p0 &&& (3 : Int32)))]) (rest := []) (lenOf pd__I_I rfl) rfl (by show 2 * 0 + _ ≤ _; exact Nat.le_of_eq rfl) (hb hby at_27) (fun _ _ => ⟨rfl, rfl, (by decide : 3 + 0 ≤ _), (by decide : 22 + 0 ≤ _)⟩)
  dsimp only [Pt.U, Pt.locs, Pt.cells, Pt.slots] at X18 l18 y18 z18 st18 hQ18
  subst l18 y18 z18
  obtain ⟨rfl, Nq18, e18⟩ := hQ18
  have N18 := Fr.app N10 Nq18
  refine own_tr st18 ?_
  show own_Go p.tables e below _ (T18.setTop (mkF m 30 #[.val (.int p0), .val (.int p1), .val (.int p2), .val (.int p3), .val (.int p4), .val (.int p5), .val (.int (p0 &&& (3 : Int32))), .val (.ref b1), .unset] [(.int (own_lv (p0 &&& (3 : Int32)) p1 p2 p3 p5))]))
  refine own_st (fun _ k' => XS.istore X18.here hx rfl (hb hby at_30) rfl (l' := #[.val (.int p0), .val (.int p1), .val (.int p2), .val (.int p3), .val (.int p4), .val (.int p5), .val (.int (p0 &&& (3 : Int32))), .val (.ref b1), .val (.int (own_lv (p0 &&& (3 : Int32)) p1 p2 p3 p5))]) rfl k') ?_
  show own_Go p.tables e below _ (T18.setTop (mkF m 32 #[.val (.int p0), .val (.int p1), .val (.int p2), .val (.int p3), .val (.int p4), .val (.int p5), .val (.int (p0 &&& (3 : Int32))), .val (.ref b1), .val (.int (own_lv (p0 &&& (3 : Int32)) p1 p2 p3 p5))] []))
  refine own_st (fun _ k' => XS.iload X18.here hx rfl (hb hby at_32) rfl k') ?_
  show own_Go p.tables e below _ (T18.setTop (mkF m 34 #[.val (.int p0), .val (.int p1), .val (.int p2), .val (.int p3), .val (.int p4), .val (.int p5), .val (.int (p0 &&& (3 : Int32))), .val (.ref b1), .val (.int (own_lv (p0 &&& (3 : Int32)) p1 p2 p3 p5))] [(.int (own_lv (p0 &&& (3 : Int32)) p1 p2 p3 p5))]))
  refine own_st (fun _ k' => XS.iload X18.here hx rfl (hb hby at_34) rfl k') ?_
  show own_Go p.tables e below _ (T18.setTop (mkF m 36 #[.val (.int p0), .val (.int p1), .val (.int p2), .val (.int p3), .val (.int p4), .val (.int p5), .val (.int (p0 &&& (3 : Int32))), .val (.ref b1), .val (.int (own_lv (p0 &&& (3 : Int32)) p1 p2 p3 p5))] [(.int (p0 &&& (3 : Int32))), (.int (own_lv (p0 &&& (3 : Int32)) p1 p2 p3 p5))]))
  refine own_st (fun _ k' => XS.iloadN X18.here hx rfl (hb hby at_36) rfl k') ?_
  show own_Go p.tables e below _ (T18.setTop (mkF m 37 #[.val (.int p0), .val (.int p1), .val (.int p2), .val (.int p3), .val (.int p4), .val (.int p5), .val (.int (p0 &&& (3 : Int32))), .val (.ref b1), .val (.int (own_lv (p0 &&& (3 : Int32)) p1 p2 p3 p5))] [(.int p1), (.int (p0 &&& (3 : Int32))), (.int (own_lv (p0 &&& (3 : Int32)) p1 p2 p3 p5))]))
  refine own_st (fun _ k' => XS.iloadN X18.here hx rfl (hb hby at_37) rfl k') ?_
  show own_Go p.tables e below _ (T18.setTop (mkF m 38 #[.val (.int p0), .val (.int p1), .val (.int p2), .val (.int p3), .val (.int p4), .val (.int p5), .val (.int (p0 &&& (3 : Int32))), .val (.ref b1), .val (.int (own_lv (p0 &&& (3 : Int32)) p1 p2 p3 p5))] [(.int p2), (.int p1), (.int (p0 &&& (3 : Int32))), (.int (own_lv (p0 &&& (3 : Int32)) p1 p2 p3 p5))]))
  refine own_st (fun _ k' => XS.iloadN X18.here hx rfl (hb hby at_38) rfl k') ?_
  show own_Go p.tables e below _ (T18.setTop (mkF m 39 #[.val (.int p0), .val (.int p1), .val (.int p2), .val (.int p3), .val (.int p4), .val (.int p5), .val (.int (p0 &&& (3 : Int32))), .val (.ref b1), .val (.int (own_lv (p0 &&& (3 : Int32)) p1 p2 p3 p5))] [(.int p3), (.int p2), (.int p1), (.int (p0 &&& (3 : Int32))), (.int (own_lv (p0 &&& (3 : Int32)) p1 p2 p3 p5))]))
  refine own_st (fun _ k' => XS.iload X18.here hx rfl (hb hby at_39) rfl k') ?_
  show own_Go p.tables e below _ (T18.setTop (mkF m 41 #[.val (.int p0), .val (.int p1), .val (.int p2), .val (.int p3), .val (.int p4), .val (.int p5), .val (.int (p0 &&& (3 : Int32))), .val (.ref b1), .val (.int (own_lv (p0 &&& (3 : Int32)) p1 p2 p3 p5))] [(.int p5), (.int p3), (.int p2), (.int p1), (.int (p0 &&& (3 : Int32))), (.int (own_lv (p0 &&& (3 : Int32)) p1 p2 p3 p5))]))
  obtain ⟨_, _, ⟨T19, L19, k19, n19⟩, -, X19, ⟨Lc19, hQ19, l19, y19, z19⟩, st19⟩ := Jvm.LawKit.callS X18 hx (y := (⟨"com/example/segmenta/segmenta/SeparatorsOfLevelPinLaw", "expected", "(IIIII)I"⟩ : MethodName)) hown (mvT hZ (hw _ (List.mem_of_getElem? (i := 39) rfl))) (mvT hZ (hw _ (List.mem_of_getElem? (i := 40) rfl))) (mvT hZ (hw _ (List.mem_of_getElem? (i := 41) rfl))) (mvT hZ (hw _ (List.mem_of_getElem? (i := 42) rfl))) (by decide) (backOf (W := 1) (rmX l Z a0 hw [] (p0 &&& (3 : Int32)) p1 p2 p3 p5 T10.heap n0 Zc10 ) hZ (hw _ (List.mem_of_getElem? (i := 42) rfl)) (hw _ (List.mem_of_getElem? (i := 41) rfl)) (by decide) (by decide)) (g := (mkF m 41 #[.val (.int p0), .val (.int p1), .val (.int p2), .val (.int p3), .val (.int p4), .val (.int p5), .val (.int (p0 &&& (3 : Int32))), .val (.ref b1), .val (.int (own_lv (p0 &&& (3 : Int32)) p1 p2 p3 p5))] [(.int p5), (.int p3), (.int p2), (.int p1), (.int (p0 &&& (3 : Int32))), (.int (own_lv (p0 &&& (3 : Int32)) p1 p2 p3 p5))])) rfl (by rw [hml]; rfl) (argsL := [(.int (p0 &&& (3 : Int32))), (.int p1), (.int p2), (.int p3), (.int p5)]) (rest := [(.int (own_lv (p0 &&& (3 : Int32)) p1 p2 p3 p5))]) (lenOf pd__IIIII_I rfl) rfl (by show 2 * 0 + _ ≤ _; exact Nat.le_of_eq rfl) (hb hby at_41) (fun _ _ => ⟨rfl, e18, (by decide : 3 + 0 ≤ _), (by decide : 22 + 0 ≤ _)⟩)
  dsimp only [Pt.U, Pt.locs, Pt.cells, Pt.slots] at X19 l19 y19 z19 st19 hQ19
  subst l19 y19 z19
  obtain ⟨rfl, Nq19, e19⟩ := hQ19
  have N19 := Fr.app N18 Nq19
  refine own_st st19 ?_
  show own_Go p.tables e below _ (T19.setTop (mkF m 44 #[.val (.int p0), .val (.int p1), .val (.int p2), .val (.int p3), .val (.int p4), .val (.int p5), .val (.int (p0 &&& (3 : Int32))), .val (.ref b1), .val (.int (own_lv (p0 &&& (3 : Int32)) p1 p2 p3 p5))] [(.int (own_lv (p0 &&& (3 : Int32)) p1 p2 p3 p5)), (.int (own_lv (p0 &&& (3 : Int32)) p1 p2 p3 p5))]))
  refine own_st (fun _ k' => XS.icmpNo X19.here hx rfl (hb hby at_44) rfl (teq (rfl : (own_lv (p0 &&& (3 : Int32)) p1 p2 p3 p5) = (own_lv (p0 &&& (3 : Int32)) p1 p2 p3 p5))).2 k') ?_
  show own_Go p.tables e below _ (T19.setTop (mkF m 47 #[.val (.int p0), .val (.int p1), .val (.int p2), .val (.int p3), .val (.int p4), .val (.int p5), .val (.int (p0 &&& (3 : Int32))), .val (.ref b1), .val (.int (own_lv (p0 &&& (3 : Int32)) p1 p2 p3 p5))] []))
  refine own_st (fun _ k' => XS.iconst X19.here hx rfl (hb hby at_47) k') ?_
  show own_Go p.tables e below _ (T19.setTop (mkF m 48 #[.val (.int p0), .val (.int p1), .val (.int p2), .val (.int p3), .val (.int p4), .val (.int p5), .val (.int (p0 &&& (3 : Int32))), .val (.ref b1), .val (.int (own_lv (p0 &&& (3 : Int32)) p1 p2 p3 p5))] [(.int (1 : Int32))]))
  refine own_st (fun _ k' => XS.goto X19.here hx rfl (pc0 := 48) (pc' := 52) rfl (hb hby at_48) (by decide) (by decide) k') ?_
  show own_Go p.tables e below _ (T19.setTop (mkF m 52 #[.val (.int p0), .val (.int p1), .val (.int p2), .val (.int p3), .val (.int p4), .val (.int p5), .val (.int (p0 &&& (3 : Int32))), .val (.ref b1), .val (.int (own_lv (p0 &&& (3 : Int32)) p1 p2 p3 p5))] [(.int (1 : Int32))]))
  exact own_retNW X19 hS2 (by rw [e19]; exact Kc10.1) hx (t := .boolean) Bd.returns (by simp) (hb hby at_52) Bd.notSynchronized ⟨rfl, N19⟩ (by decide) (by decide)

set_option maxRecDepth 65536 in
set_option maxHeartbeats 40000000 in
theorem comes_1 {Post : Tables → Env → Array Value → State → Outcome → State → Prop} (hpost : ∀ tb e args s v u, (limb_1_1.after args s (.returned v) u = true ∧ limb_1_2.after args s (.returned v) u = true ∧ True) → ReturnedEndW s (.returned v) u (Jvm.fieldLocs frame_1_writes args s ++ Jvm.arrayLocs frame_1_arrays args s ++ Jvm.staticLocs frame_1_statics s) 16 1152 → Post tb e args s (.returned v) u) :
    ArmFor flags0 classFile x code maxLocals ret World_1 tables_1 room_1 Calls_1 rest_1 Pre_1 Post := by
  intro l hfl _ _ p e ha hc hk s m args below hf hA hF happ hP
  obtain ⟨hcalls, hrest, hpre⟩ := hP
  obtain ⟨-, -, -, hnamed, -, -, -, hat⟩ := (Spec.applies_iff hf).mp happ
  obtain ⟨hg, hn⟩ := and_e (Cond.before_iff.mp (show (Jvm.Cond.and given_1 narrow_1).before args s = true from hpre))
  obtain ⟨hcnt, hg⟩ := and_e hg
  obtain ⟨w0, w1, w2, w3, w4, w5, rfl⟩ : ∃ w0 w1 w2 w3 w4 w5 : Value, args = #[w0, w1, w2, w3, w4, w5] := by
    have hs : args.size = 6 := by simpa [Cond.value, given_1] using hcnt
    obtain ⟨L⟩ := args
    match L, hs with
    | [w0, w1, w2, w3, w4, w5], _ => exact ⟨w0, w1, w2, w3, w4, w5, rfl⟩
  have hw := fun d (hd : d ∈ tables_1) => atoms_spec (ws := Jvm.Cond.code x code maxLocals ret :: tables_1) hat d (List.mem_cons_of_mem _ hd)
  have hfit : Fit s := fun {y c} hc i hi => by
    obtain ⟨ha, rfl⟩ := Array.getElem?_eq_some_iff.mp hc
    have q := List.all_eq_true.mp ((Array.all_eq_true_iff_forall_mem.mp hF) _ (Array.getElem_mem ha)) i (List.mem_range.mpr hi)
    simpa [Array.getElem?_eq_getElem hi] using q
  obtain ⟨hg0, hg⟩ := and_e hg
  obtain ⟨i0, ei0⟩ := is_v hg0
  obtain rfl : w0 = (.int i0) := Option.some.inj ei0
  obtain ⟨hg1, hg⟩ := and_e hg
  obtain ⟨i1, ei1⟩ := is_v hg1
  obtain rfl : w1 = (.int i1) := Option.some.inj ei1
  obtain ⟨hg2, hg⟩ := and_e hg
  obtain ⟨i2, ei2⟩ := is_v hg2
  obtain rfl : w2 = (.int i2) := Option.some.inj ei2
  obtain ⟨hg3, hg⟩ := and_e hg
  obtain ⟨i3, ei3⟩ := is_v hg3
  obtain rfl : w3 = (.int i3) := Option.some.inj ei3
  obtain ⟨hg4, hg⟩ := and_e hg
  obtain ⟨i4, ei4⟩ := is_v hg4
  obtain rfl : w4 = (.int i4) := Option.some.inj ei4
  have hg5 := hg
  obtain ⟨i5, ei5⟩ := is_v hg5
  obtain rfl : w5 = (.int i5) := Option.some.inj ei5
  obtain ⟨n, o, h1, h2, h3, _, L, rfl, ⟨rfl, N⟩, hq⟩ := rm0 l s _ hw tables_1 i0 i1 i2 i3 i4 i5 s.heap s.heap.size (Nat.le_refl _)  p e ha hc hk s m _ below hf ((Spec.applies_iff_loose hf).mp happ).1 ⟨rfl, State.Warmed39.refl s, rfl⟩ trivial
  refine ⟨n, _, h1, h2, h3, hpost _ _ _ _ _ _ ⟨Cond.after_iff.mpr rfl, Cond.after_iff.mpr (eq_i res_at (Term.int_eval (1)) rfl), trivial⟩ ⟨hq.1, hq.2.1, hq.2.2.1, (hq.2.2.2.sift fun y hy => Or.inr (N y hy)).mono (by decide) (by decide)⟩⟩
theorem main_1_1 : Claimed_1_1 := comes_1 fun _ _ _ _ _ _ h hF => ⟨h.1, hF⟩
theorem main_1_2 : Claimed_1_2 := comes_1 fun _ _ _ _ _ _ h hF => ⟨h.2.1, hF⟩

end Jvm.Pilot.@@N@@
namespace Jvm.Pilot.@@N@@
open Jvm Jvm.ClassFile Sem Op Lib Jvm.Free Jvm.Stand Jvm.Pilot.@@N@@.Jvm.D
/-! MADE BY PROGRAM (witnessworld.py) out of the Statement's table words and the real class files: 15 classes; the members and pool entries that the words name. The judged class is class 1, her method 2. -/
namespace start1
open Jvm.ClassFile
def u (s : String) : CpInfo := .utf8 (stringToUtf16 s)
/-- a pool by its gaps: so many unusable entries, then the entry; so many at the end -/
def gap : Nat → List CpInfo → List CpInfo
  | 0, r => r
  | n + 1, r => .unusable :: gap n r
def poolList (es : List (Nat × CpInfo)) (last : Nat) : List CpInfo := es.foldr (fun e r => gap e.1 (e.2 :: r)) (gap last [])
def pool (es : List (Nat × CpInfo)) (last : Nat) : Array CpInfo := ⟨poolList es last⟩
def fileOf (pool : Array CpInfo) (this : Nat) (attrs : Array Attribute := #[]) (ms : Array MethodInfo := #[]) (fl : Nat := 33) (sup : Nat := 0) (ifs : Array Nat := #[]) (fds : Array FieldInfo := #[]) : ClassFile where
  minorVersion := 0
  majorVersion := 65
  constantPool := pool
  accessFlags := fl
  thisClass := this
  superClass := sup
  interfaces := ifs
  fields := fds
  methods := ms
  attributes := attrs
def plain (name : String) (sup : Option ClassId) : Class where
  name := name
  kind := .ordinary
  loader := none
  accessFlags := 33
  super := sup
  interfaces := #[]
  cf := none
  fields := #[]
  methods := #[]
  instanceTypes := #[]
  staticTypes := #[]
  resolved := #[]
  callSites := []
  init := .initialized
  statics := none
  mirror := none

def pool0 : Array CpInfo := pool [(5, u "<init>"), (0, u "()V"), (1, .class_ 10), (1, u "java/lang/Object")] 113

def k0c0 : Code := { maxStack := 0, maxLocals := 1, code := object_method_1_code, exceptionTable := #[], attributes := #[] }
def k0m0 : Method := { name := "<init>", desc := "()V", sig := { parameters := [], returnType := none }, accessFlags := 1, code := some k0c0 }
/-- java/lang/Object -/
def k0 : Class := { plain "java/lang/Object" none with
  accessFlags := 33
  interfaces := #[]
  cf := some (fileOf pool0 8 #[] #[{ accessFlags := 1, nameIndex := 5, descriptorIndex := 6, attributes := #[] }] 33 0 #[] #[])
  fields := #[]
  methods := #[k0m0]
  instanceTypes := #[]
  staticTypes := #[]
  resolved := Array.replicate 124 none
  statics := none }

def pool1 : Array CpInfo := pool [(2, .class_ 4), (1, u "java/lang/Object"), (0, u "<init>"), (0, u "()V"), (0, .class_ 8), (0, u "com/example/segmenta/segmenta/Separators"), (0, .string 10), (0, u "MSH"), (0, .methodref 7 12), (0, .nameAndType 5 13), (0, u "(Ljava/lang/String;IIIII)V"), (0, .methodref 7 15), (0, .nameAndType 16 17), (0, u "ofLevel"), (0, u "(I)I"), (0, .methodref 19 20), (0, .class_ 21), (0, .nameAndType 22 23), (0, u "com/example/segmenta/segmenta/SeparatorsOfLevelPinLaw"), (0, u "expected"), (0, u "(IIIII)I"), (3, u "law"), (0, u "(IIIIII)Z")] 2

def k1m0 : Method := { name := "<init>", desc := "()V", sig := { parameters := [], returnType := none }, accessFlags := 2, code := none }
def k1c1 : Code := { maxStack := 2, maxLocals := 5, code := method_2_code, exceptionTable := #[], attributes := #[] }
def k1m1 : Method := { name := "expected", desc := "(IIIII)I", sig := { parameters := [.int, .int, .int, .int, .int], returnType := some .int }, accessFlags := 10, code := some k1c1 }
def k1c2 : Code := { maxStack := 8, maxLocals := 9, code := code, exceptionTable := #[], attributes := #[] }
def k1m2 : Method := { name := "law", desc := "(IIIIII)Z", sig := { parameters := [.int, .int, .int, .int, .int, .int], returnType := some .boolean }, accessFlags := 9, code := some k1c2 }
/-- com/example/segmenta/segmenta/SeparatorsOfLevelPinLaw -/
def k1 : Class := { plain "com/example/segmenta/segmenta/SeparatorsOfLevelPinLaw" (some 0) with
  accessFlags := 49
  interfaces := #[]
  cf := some (fileOf pool1 19 #[] #[{ accessFlags := 2, nameIndex := 5, descriptorIndex := 6, attributes := #[] }, { accessFlags := 10, nameIndex := 22, descriptorIndex := 23, attributes := #[] }, { accessFlags := 9, nameIndex := 27, descriptorIndex := 28, attributes := #[] }] 49 2 #[] #[])
  fields := #[]
  methods := #[k1m0, k1m1, k1m2]
  instanceTypes := #[]
  staticTypes := #[]
  resolved := Array.replicate 31 none
  statics := none }

def pool2 : Array CpInfo := pool [(1, .methodref 2 3), (0, .class_ 4), (0, .nameAndType 5 6), (0, u "java/lang/Object"), (0, u "<init>"), (0, u "()V"), (0, .class_ 8), (0, u "java/lang/Record")] 13

def k2c0 : Code := { maxStack := 1, maxLocals := 1, code := jdk_30_method_1_code, exceptionTable := #[], attributes := #[] }
def k2m0 : Method := { name := "<init>", desc := "()V", sig := { parameters := [], returnType := none }, accessFlags := 4, code := some k2c0 }
/-- java/lang/Record -/
def k2 : Class := { plain "java/lang/Record" (some 0) with
  accessFlags := 1057
  interfaces := #[]
  cf := some (fileOf pool2 7 #[] #[{ accessFlags := 4, nameIndex := 5, descriptorIndex := 6, attributes := #[] }] 1057 2 #[] #[])
  fields := #[]
  methods := #[k2m0]
  instanceTypes := #[]
  staticTypes := #[]
  resolved := Array.replicate 22 none
  statics := none }

def pool3 : Array CpInfo := pool [(1, .methodref 2 3), (0, .class_ 4), (0, .nameAndType 5 6), (0, u "java/lang/Record"), (0, u "<init>"), (0, u "()V"), (0, .fieldref 8 9), (0, .class_ 10), (0, .nameAndType 11 12), (0, u "com/example/segmenta/segmenta/Separators"), (0, u "header"), (0, u "Ljava/lang/String;"), (0, .fieldref 8 14), (0, .nameAndType 15 16), (0, u "field"), (0, u "I"), (0, .fieldref 8 18), (0, .nameAndType 19 16), (0, u "component"), (0, .fieldref 8 21), (0, .nameAndType 22 16), (0, u "repetition"), (0, .fieldref 8 24), (0, .nameAndType 25 16), (0, u "escape"), (0, .fieldref 8 27), (0, .nameAndType 28 16), (0, u "subcomponent"), (6, u "LEVELS"), (0, u "Ljava/util/List;"), (8, u "ofLevel"), (0, u "(I)I"), (74, u "(Ljava/lang/String;IIIII)V"), (19, u "ABSENT")] 60

def k3c0 : Code := { maxStack := 2, maxLocals := 7, code := prog_19_method_1_code, exceptionTable := #[], attributes := #[] }
def k3m0 : Method := { name := "<init>", desc := "(Ljava/lang/String;IIIII)V", sig := { parameters := [(.object "java/lang/String"), .int, .int, .int, .int, .int], returnType := none }, accessFlags := 0, code := some k3c0 }
def k3c1 : Code := { maxStack := 1, maxLocals := 2, code := prog_19_method_3_code, exceptionTable := #[], attributes := #[] }
def k3m1 : Method := { name := "ofLevel", desc := "(I)I", sig := { parameters := [.int], returnType := some .int }, accessFlags := 0, code := some k3c1 }
/-- com/example/segmenta/segmenta/Separators -/
def k3 : Class := { plain "com/example/segmenta/segmenta/Separators" (some 2) with
  accessFlags := 48
  interfaces := #[]
  cf := some (fileOf pool3 8 #[] #[{ accessFlags := 0, nameIndex := 5, descriptorIndex := 121, attributes := #[] }, { accessFlags := 0, nameIndex := 45, descriptorIndex := 46, attributes := #[] }] 48 2 #[] #[{ accessFlags := 18, nameIndex := 11, descriptorIndex := 12, attributes := #[] }, { accessFlags := 18, nameIndex := 15, descriptorIndex := 16, attributes := #[] }, { accessFlags := 18, nameIndex := 19, descriptorIndex := 16, attributes := #[] }, { accessFlags := 18, nameIndex := 22, descriptorIndex := 16, attributes := #[] }, { accessFlags := 18, nameIndex := 25, descriptorIndex := 16, attributes := #[] }, { accessFlags := 18, nameIndex := 28, descriptorIndex := 16, attributes := #[] }, { accessFlags := 24, nameIndex := 141, descriptorIndex := 16, attributes := #[] }, { accessFlags := 24, nameIndex := 35, descriptorIndex := 36, attributes := #[] }])
  fields := #[{ name := "header", type := (.object "java/lang/String"), accessFlags := 18, slot := 0, constantValue := 0 }, { name := "field", type := .int, accessFlags := 18, slot := 1, constantValue := 0 }, { name := "component", type := .int, accessFlags := 18, slot := 2, constantValue := 0 }, { name := "repetition", type := .int, accessFlags := 18, slot := 3, constantValue := 0 }, { name := "escape", type := .int, accessFlags := 18, slot := 4, constantValue := 0 }, { name := "subcomponent", type := .int, accessFlags := 18, slot := 5, constantValue := 0 }, { name := "ABSENT", type := .int, accessFlags := 24, slot := 0, constantValue := 0 }, { name := "LEVELS", type := (.object "java/util/List"), accessFlags := 24, slot := 1, constantValue := 0 }]
  methods := #[k3m0, k3m1]
  instanceTypes := #[(.object "java/lang/String"), .int, .int, .int, .int, .int]
  staticTypes := #[.int, (.object "java/util/List")]
  resolved := Array.replicate 202 none
  statics := none }

def pool4 : Array CpInfo := pool [(1, .class_ 2), (0, u "java/io/Serializable"), (0, .class_ 4), (0, u "java/lang/Object")] 2

/-- java/io/Serializable -/
def k4 : Class := { plain "java/io/Serializable" (some 0) with
  accessFlags := 1537
  interfaces := #[]
  cf := some (fileOf pool4 1 #[] #[] 1537 3 #[] #[])
  fields := #[]
  methods := #[]
  instanceTypes := #[]
  staticTypes := #[]
  resolved := Array.replicate 7 none
  statics := none }

def pool5 : Array CpInfo := pool [(1, .class_ 2), (0, u "java/lang/Comparable"), (0, .class_ 4), (0, u "java/lang/Object")] 7

/-- java/lang/Comparable -/
def k5 : Class := { plain "java/lang/Comparable" (some 0) with
  accessFlags := 1537
  interfaces := #[]
  cf := some (fileOf pool5 1 #[] #[] 1537 3 #[] #[])
  fields := #[]
  methods := #[]
  instanceTypes := #[]
  staticTypes := #[]
  resolved := Array.replicate 12 none
  statics := none }

def pool6 : Array CpInfo := pool [(2, .class_ 4), (1, u "java/lang/CharSequence"), (42, .class_ 48), (0, u "java/lang/CharSequence$1CodePointIterator"), (10, .class_ 60), (0, u "java/lang/CharSequence$1CharIterator"), (5, .class_ 67), (0, u "java/lang/Object")] 63

/-- java/lang/CharSequence -/
def k6 : Class := { plain "java/lang/CharSequence" (some 0) with
  accessFlags := 1537
  interfaces := #[]
  cf := some (fileOf pool6 2 #[.nestMembers #[47, 59]] #[] 1537 66 #[] #[])
  fields := #[]
  methods := #[]
  instanceTypes := #[]
  staticTypes := #[]
  resolved := Array.replicate 131 none
  statics := none }

def pool7 : Array CpInfo := pool [(1, .class_ 2), (0, u "java/lang/constant/Constable"), (0, .class_ 4), (0, u "java/lang/Object")] 6

/-- java/lang/constant/Constable -/
def k7 : Class := { plain "java/lang/constant/Constable" (some 0) with
  accessFlags := 1537
  interfaces := #[]
  cf := some (fileOf pool7 1 #[] #[] 1537 3 #[] #[])
  fields := #[]
  methods := #[]
  instanceTypes := #[]
  staticTypes := #[]
  resolved := Array.replicate 11 none
  statics := none }

def pool8 : Array CpInfo := pool [(1, .class_ 2), (0, u "java/lang/constant/ConstantDesc"), (0, .class_ 4), (0, u "java/lang/Object")] 32

/-- java/lang/constant/ConstantDesc -/
def k8 : Class := { plain "java/lang/constant/ConstantDesc" (some 0) with
  accessFlags := 1537
  interfaces := #[]
  cf := some (fileOf pool8 1 #[] #[] 1537 3 #[] #[])
  fields := #[]
  methods := #[]
  instanceTypes := #[]
  staticTypes := #[]
  resolved := Array.replicate 37 none
  statics := none }

def pool9 : Array CpInfo := pool [(2, .class_ 4), (1, u "java/lang/Object"), (0, u "<init>"), (0, u "()V"), (3, .class_ 12), (1, u "java/lang/String"), (0, u "value"), (0, u "[B"), (2, u "coder"), (0, u "B"), (2, u "hash"), (0, u "I"), (2, u "hashIsZero"), (0, u "Z"), (13, u "COMPACT_STRINGS"), (534, .class_ 576), (0, u "java/lang/CharSequence"), (22, u "CASE_INSENSITIVE_ORDER"), (0, u "Ljava/util/Comparator;"), (500, u "serialPersistentFields"), (0, u "[Ljava/io/ObjectStreamField;"), (0, .class_ 1104), (0, u "java/lang/String$CaseInsensitiveComparator"), (1, .class_ 1107), (0, u "java/io/Serializable"), (0, .class_ 1109), (0, u "java/lang/Comparable"), (0, .class_ 1111), (0, u "java/lang/constant/Constable"), (0, .class_ 1113), (0, u "java/lang/constant/ConstantDesc"), (2, u "serialVersionUID"), (0, u "J"), (3, u "REPL"), (0, u "C"), (2, u "LATIN1"), (1, u "UTF16")] 323

def k9m0 : Method := { name := "<init>", desc := "()V", sig := { parameters := [], returnType := none }, accessFlags := 1, code := none }
/-- java/lang/String -/
def k9 : Class := { plain "java/lang/String" (some 0) with
  accessFlags := 49
  interfaces := #[4, 5, 6, 7, 8]
  cf := some (fileOf pool9 10 #[.nestMembers #[1103]] #[{ accessFlags := 1, nameIndex := 5, descriptorIndex := 6, attributes := #[] }] 49 2 #[1106, 1108, 575, 1110, 1112] #[{ accessFlags := 18, nameIndex := 13, descriptorIndex := 14, attributes := #[] }, { accessFlags := 18, nameIndex := 17, descriptorIndex := 18, attributes := #[] }, { accessFlags := 2, nameIndex := 21, descriptorIndex := 22, attributes := #[] }, { accessFlags := 2, nameIndex := 25, descriptorIndex := 26, attributes := #[] }, { accessFlags := 26, nameIndex := 1116, descriptorIndex := 1117, attributes := #[] }, { accessFlags := 24, nameIndex := 40, descriptorIndex := 26, attributes := #[] }, { accessFlags := 26, nameIndex := 1101, descriptorIndex := 1102, attributes := #[] }, { accessFlags := 26, nameIndex := 1121, descriptorIndex := 1122, attributes := #[] }, { accessFlags := 25, nameIndex := 599, descriptorIndex := 600, attributes := #[] }, { accessFlags := 24, nameIndex := 1125, descriptorIndex := 18, attributes := #[] }, { accessFlags := 24, nameIndex := 1127, descriptorIndex := 18, attributes := #[] }])
  fields := #[{ name := "value", type := (.array .byte), accessFlags := 18, slot := 0, constantValue := 0 }, { name := "coder", type := .byte, accessFlags := 18, slot := 1, constantValue := 0 }, { name := "hash", type := .int, accessFlags := 2, slot := 2, constantValue := 0 }, { name := "hashIsZero", type := .boolean, accessFlags := 2, slot := 3, constantValue := 0 }, { name := "serialVersionUID", type := .long, accessFlags := 26, slot := 0, constantValue := 0 }, { name := "COMPACT_STRINGS", type := .boolean, accessFlags := 24, slot := 1, constantValue := 0 }, { name := "serialPersistentFields", type := (.array (.object "java/io/ObjectStreamField")), accessFlags := 26, slot := 2, constantValue := 0 }, { name := "REPL", type := .char, accessFlags := 26, slot := 3, constantValue := 0 }, { name := "CASE_INSENSITIVE_ORDER", type := (.object "java/util/Comparator"), accessFlags := 25, slot := 4, constantValue := 0 }, { name := "LATIN1", type := .byte, accessFlags := 24, slot := 5, constantValue := 0 }, { name := "UTF16", type := .byte, accessFlags := 24, slot := 6, constantValue := 0 }]
  methods := #[k9m0]
  instanceTypes := #[(.array .byte), .byte, .int, .boolean]
  staticTypes := #[.long, .boolean, (.array (.object "java/io/ObjectStreamField")), .char, (.object "java/util/Comparator"), .byte, .byte]
  resolved := Array.replicate 1451 none
  statics := none }

def pool10 : Array CpInfo := pool [(1, u "java/lang/Cloneable"), (0, .class_ 1), (0, u "java/lang/Object"), (0, .class_ 3)] 3

/-- java/lang/Cloneable -/
def k10 : Class := { plain "java/lang/Cloneable" (some 0) with
  accessFlags := 1537
  interfaces := #[]
  cf := some (fileOf pool10 2 #[] #[] 1537 4 #[] #[])
  fields := #[]
  methods := #[]
  instanceTypes := #[]
  staticTypes := #[]
  resolved := Array.replicate 8 none
  statics := none }

/-- the primitive byte -/
def k11 : Class := { plain "byte" none with kind := .primitive 'B', accessFlags := 0x411 }
/-- [B -/
def k12 : Class := { plain "[B" (some 0) with kind := .array 11 .byte, interfaces := #[10, 4], accessFlags := 1041 }

/-- the primitive int -/
def k13 : Class := { plain "int" none with kind := .primitive 'I', accessFlags := 0x411 }
/-- [I -/
def k14 : Class := { plain "[I" (some 0) with kind := .array 13 .int, interfaces := #[10, 4], accessFlags := 1041 }

def heap : Heap := #[]
def classes : Array Class := #[k0, k1, k2, k3, k4, k5, k6, k7, k8, k9, k10, k11, k12, k13, k14]
def interned : List (Array UInt16 × Addr) := []
def slotsUsed : Nat := 0
def theMethod : MethodId := ⟨1, 2⟩
def args0 : Array Value := #[.int 1, .int 2, .int 3, .int 4, .int 5, .int 6]
def aboutOver (below : List Frame) : State where
  vm := { classes := classes, interned := interned.toArray }
  heap := heap
  slotsUsed := slotsUsed
  threads := #[{ frames := .invoking theMethod args0 :: below }]
def below0 : List Frame := [.native { method := ⟨0, 0⟩, args := #[] }]
def about1 : State := aboutOver below0
def p0 : Program := .bare "" "" ""
def e0 : Env := launch0.env 0 0 0
theorem w_frames : about1.frames = Frame.invoking theMethod args0 :: below0 := rfl
set_option maxRecDepth 65536 in
theorem w_args : argsFit about1.vm theMethod args0 = true := by decide +kernel
set_option maxRecDepth 65536 in
theorem w_heap : heapFits about1 = true := by decide +kernel
set_option maxRecDepth 65536 in
theorem w_runnable : about1.curStatus? = some .runnable := by decide +kernel
set_option maxRecDepth 65536 in
theorem w_alone : about1.alone = true := by decide +kernel
set_option maxRecDepth 65536 in
theorem w_named : about1.methodNamed? x = some theMethod := by decide +kernel
set_option maxRecDepth 65536 in
theorem w_hears : about1.hears theMethod below0 = true := by decide +kernel
set_option maxRecDepth 65536 in
theorem w_ripe : about1.ripe theMethod args0 below0 = true := by decide +kernel
theorem w_running : about1.status = .running := rfl
set_option maxRecDepth 65536 in
theorem w_room : about1.hasRoom e0.platform room_1 = true :=
  launch0.hasRoom_least _ room_1 (by decide +kernel) (by decide +kernel) (by decide +kernel) (by decide +kernel) (by decide +kernel) (by decide +kernel)
theorem allAtoms_all (ts : List Jvm.Cond) (a : Array Jvm.Value) (st : Jvm.State) : (allAtoms ts).before a st = ts.all (fun c => c.before a st) := by
  induction ts with
  | nil => rfl
  | cons c t ih =>
    show (Jvm.Cond.and c (allAtoms t)).before a st = _
    rw [Jvm.Cond.before_and, ih, List.all_cons]
def words1 : List Jvm.Cond := Jvm.Cond.code x code maxLocals ret :: tables_1
/-- a 'code' word, met by the world's own term for the bytes: nothing is compared byte by byte -/
theorem code_word {y : MethodName} {bytes : ByteArray} {mx : Nat} {rt : Option FieldType} {a : Array Value} {s : State} {m : MethodId} {meth : Method} {c : Code} (h1 : s.methodNamed? y = some m) (h2 : s.vm.method? m = some meth) (h3 : meth.code = some c) (h4 : c.code = bytes)
    (h5 : (c.maxLocals == mx && c.exceptionTable.isEmpty && decide (c.maxStack ≤ mostOperands) && decide (meth.sig.returnType = rt) && !meth.locks && decide (parseMethodDescriptor y.desc = some meth.sig)) = true) : (Jvm.Cond.code y bytes mx rt).before a s = true := by
  simp only [Bool.and_eq_true, beq_iff_eq, Bool.not_eq_true', decide_eq_true_eq] at h5
  obtain ⟨⟨⟨⟨⟨g1, g2⟩, g3⟩, g4⟩, g5⟩, g6⟩ := h5
  simp [Cond.before, Cond.holds, Cond.value, h1, h2, h3, h4, g1, g2, g3, g4, g5, g6]
def isCode : Jvm.Cond → Bool
  | .code _ _ _ _ => true
  | _ => false
theorem all_split {L : List Jvm.Cond} {P : Jvm.Cond → Bool} (h1 : L.all (fun c => isCode c || P c) = true) (h2 : ∀ c ∈ L.filter isCode, P c = true) : L.all P = true := by
  refine List.all_eq_true.mpr fun c hc => ?_
  have h := List.all_eq_true.mp h1 c hc
  rcases Bool.eq_false_or_eq_true (isCode c) with hi | hi
  · exact h2 c (List.mem_filter.mpr ⟨hc, hi⟩)
  · simpa [hi] using h
set_option maxRecDepth 65536 in
theorem w_c0 : (Jvm.Cond.code x code maxLocals ret).before args0 about1 = true := code_word (m := ⟨1, 2⟩) (meth := k1m2) (c := k1c2) (by decide +kernel) rfl rfl rfl (by decide +kernel)
set_option maxRecDepth 65536 in
theorem w_c1 : (Jvm.Cond.code ({ cls := "com/example/segmenta/segmenta/Separators", name := "<init>", desc := "(Ljava/lang/String;IIIII)V" } : Jvm.MethodName) prog_19_method_1_code (7 : Nat) (Option.none : Option Jvm.ClassFile.FieldType)).before args0 about1 = true := code_word (m := ⟨3, 0⟩) (meth := k3m0) (c := k3c0) (by decide +kernel) rfl rfl rfl (by decide +kernel)
set_option maxRecDepth 65536 in
theorem w_c2 : (Jvm.Cond.code ({ cls := "java/lang/Record", name := "<init>", desc := "()V" } : Jvm.MethodName) jdk_30_method_1_code (1 : Nat) (Option.none : Option Jvm.ClassFile.FieldType)).before args0 about1 = true := code_word (m := ⟨2, 0⟩) (meth := k2m0) (c := k2c0) (by decide +kernel) rfl rfl rfl (by decide +kernel)
set_option maxRecDepth 65536 in
theorem w_c3 : (Jvm.Cond.code ({ cls := "java/lang/Object", name := "<init>", desc := "()V" } : Jvm.MethodName) object_method_1_code (1 : Nat) (Option.none : Option Jvm.ClassFile.FieldType)).before args0 about1 = true := code_word (m := ⟨0, 0⟩) (meth := k0m0) (c := k0c0) (by decide +kernel) rfl rfl rfl (by decide +kernel)
set_option maxRecDepth 65536 in
theorem w_c4 : (Jvm.Cond.code ({ cls := "com/example/segmenta/segmenta/Separators", name := "ofLevel", desc := "(I)I" } : Jvm.MethodName) prog_19_method_3_code (2 : Nat) (Option.some Jvm.ClassFile.FieldType.int)).before args0 about1 = true := code_word (m := ⟨3, 1⟩) (meth := k3m1) (c := k3c1) (by decide +kernel) rfl rfl rfl (by decide +kernel)
set_option maxRecDepth 65536 in
theorem w_c5 : (Jvm.Cond.code ({ cls := "com/example/segmenta/segmenta/SeparatorsOfLevelPinLaw", name := "expected", desc := "(IIIII)I" } : Jvm.MethodName) method_2_code (5 : Nat) (Option.some Jvm.ClassFile.FieldType.int)).before args0 about1 = true := code_word (m := ⟨1, 1⟩) (meth := k1m1) (c := k1c1) (by decide +kernel) rfl rfl rfl (by decide +kernel)
def codes1 : List Jvm.Cond := [Jvm.Cond.code x code maxLocals ret, Jvm.Cond.code ({ cls := "com/example/segmenta/segmenta/Separators", name := "<init>", desc := "(Ljava/lang/String;IIIII)V" } : Jvm.MethodName) prog_19_method_1_code (7 : Nat) (Option.none : Option Jvm.ClassFile.FieldType), Jvm.Cond.code ({ cls := "java/lang/Record", name := "<init>", desc := "()V" } : Jvm.MethodName) jdk_30_method_1_code (1 : Nat) (Option.none : Option Jvm.ClassFile.FieldType), Jvm.Cond.code ({ cls := "java/lang/Object", name := "<init>", desc := "()V" } : Jvm.MethodName) object_method_1_code (1 : Nat) (Option.none : Option Jvm.ClassFile.FieldType), Jvm.Cond.code ({ cls := "com/example/segmenta/segmenta/Separators", name := "ofLevel", desc := "(I)I" } : Jvm.MethodName) prog_19_method_3_code (2 : Nat) (Option.some Jvm.ClassFile.FieldType.int), Jvm.Cond.code ({ cls := "com/example/segmenta/segmenta/SeparatorsOfLevelPinLaw", name := "expected", desc := "(IIIII)I" } : Jvm.MethodName) method_2_code (5 : Nat) (Option.some Jvm.ClassFile.FieldType.int)]
set_option maxRecDepth 65536 in
theorem codes_eq : words1.filter isCode = codes1 := rfl
theorem w_codes : ∀ c ∈ words1.filter isCode, c.before args0 about1 = true := by
  rw [codes_eq]
  intro c hc
  simp only [codes1, List.mem_cons, List.not_mem_nil, or_false] at hc
  rcases hc with rfl | rfl | rfl | rfl | rfl | rfl
  · exact w_c0
  · exact w_c1
  · exact w_c2
  · exact w_c3
  · exact w_c4
  · exact w_c5
set_option maxRecDepth 65536 in
theorem w_t1 : (words1.take 24).all (fun c => isCode c || c.before args0 about1) = true := by decide +kernel
set_option maxRecDepth 65536 in
theorem w_t2 : (words1.drop 24).all (fun c => isCode c || c.before args0 about1) = true := by decide +kernel
theorem w_tables : (allAtoms (Jvm.Cond.code x code maxLocals ret :: tables_1)).before args0 about1 = true := by
  rw [allAtoms_all]
  show words1.all (fun c => c.before args0 about1) = true
  refine all_split ?_ w_codes
  rw [← List.take_append_drop 24 words1, List.all_append, w_t1, w_t2]
  rfl
set_option maxRecDepth 65536 in
theorem w_case : (Jvm.Cond.and given_1 narrow_1).before args0 about1 = true := by decide +kernel
theorem w_applies : (headSpec (Jvm.Cond.code x code maxLocals ret :: tables_1) room_1).applies x e0.platform about1 = true :=
  (Spec.applies_iff w_frames).mpr ⟨w_running, w_runnable, w_alone, w_named, w_hears, w_ripe, w_room, w_tables⟩
theorem atStart : AtStart classFile x code maxLocals ret World_1 tables_1 room_1 Calls_1 rest_1 Pre_1 launch0 p0 e0 about1 theMethod args0 below0 :=
  ⟨lists_1, trivial, launch0.admits_env _ _ _, launch0.least_env, fairChoices_fair.cas, fairChoices_fair.clock, w_frames, w_args, w_heap, w_applies, trivial, trivial, w_case⟩
end start1
theorem witness_1 : WitnessClaimed_1 := ⟨start1.p0, start1.e0, start1.about1, start1.theMethod, start1.args0, start1.below0, start1.atStart⟩
end Jvm.Pilot.@@N@@
