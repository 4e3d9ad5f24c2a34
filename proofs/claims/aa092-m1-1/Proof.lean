import JvmDerived
import JvmDerived.Pilot.@@N@@Statement
import JvmDerived.Pilot.@@N@@Code
set_option linter.unusedVariables false
set_option linter.unusedSimpArgs false
namespace Jvm.Pilot.@@N@@
open Jvm Jvm.ClassFile Sem Op Lib Jvm.Free Jvm.Stand Jvm.LawKit Jvm.RoadKit Bundle Jvm.Pilot.@@N@@.Jvm.D
/-- the run from A ends, and its end is as K says -/
def own_Go (tb : Tables) (e : Env) (below : List Frame) (K : Outcome → State → Prop) (A : State) : Prop := ∃ s₂ o, Steps tb e below A s₂ ∧ s₂.status = .running ∧ Ended s₂ below o ∧ K o s₂
theorem own_st {tb : Tables} {e : Env} {below : List Frame} {K : Outcome → State → Prop} {A B : State} (h : ∀ t, Steps tb e below B t → Steps tb e below A t) (g : own_Go tb e below K B) : own_Go tb e below K A := by
  obtain ⟨s₂, o, h1, r⟩ := g
  exact ⟨s₂, o, h _ h1, r⟩
theorem own_tr {tb : Tables} {e : Env} {below : List Frame} {K : Outcome → State → Prop} {A B : State} (h : Steps tb e below A B) (g : own_Go tb e below K B) : own_Go tb e below K A := by
  obtain ⟨s₂, o, h1, r⟩ := g
  exact ⟨s₂, o, h.trans h1, r⟩
section Rets
variable {p : Program} {l : Launch} {e : Env} {R : Room} {s : State} {m : MethodId} {args : Array Value} {below : List Frame} {meth : Method} {c : Code} {T : State} {locs : List Loc} {cells slots : Nat} {Q : Option Value → Heap → List Loc → Prop} {C S : Nat}
theorem own_ret (X : Stand p l e R s m args below meth c T locs cells slots) {v : Option Value} {A : State} (hv : meth.sig.returnType = none → v = none) (hlocks : meth.locks = false)
    (st : ∀ fs, (∀ (f : JFrame) (acts : List Action), f.method = m → f.locked = none → f.entered = [] → (doReturn e (T.setTop f) acts v).1 = T.setFrames fs) → Steps p.tables e below A (T.setFrames fs)) (q : Q v T.heap locs) (hc : cells ≤ C) (hs : slots ≤ S) :
    own_Go p.tables e below (fun o U' => ∃ v L, o = .returned v ∧ Q v U'.heap L ∧ FrameEnd s o U' L C S) A := by
  obtain ⟨fs, hr, hrun, hended, hW, hsame⟩ := X.leave (v := v) hv hlocks
  exact ⟨_, _, st fs hr, hrun, hended, _, _, rfl, q, ⟨_, rfl⟩, hW, hsame.mono hc hs⟩
theorem own_retV (X : Stand p l e R s m args below meth c T locs cells slots) (hx : p.tables.exec = Jvm.exec) {pc : Nat} {Ls : Array Slot} (hret : meth.sig.returnType = none) (hd : decode c.code pc = .ok (.return_, 1)) (hlocks : meth.locks = false) (q : Q none T.heap locs) (hc : cells ≤ C) (hs : slots ≤ S) :
    own_Go p.tables e below (fun o U' => ∃ v L, o = .returned v ∧ Q v U'.heap L ∧ FrameEnd s o U' L C S) (T.setTop (mkF m pc Ls [])) :=
  own_ret X (fun _ => rfl) hlocks (fun _ hr => X.returnOut hx hret hd hr) q hc hs
theorem own_retN (X : Stand p l e R s m args below meth c T locs cells slots) (hx : p.tables.exec = Jvm.exec) {pc : Nat} {Ls : Array Slot} {z : Int32} {t : FieldType} {rest : List Value} (hret : meth.sig.returnType = some t) (ht : t = .boolean ∨ t = .byte ∨ t = .char ∨ t = .short) (hd : decode c.code pc = .ok (.ireturn, 1)) (hlocks : meth.locks = false) (q : Q (some (.int (nar t z))) T.heap locs) (hc : cells ≤ C) (hs : slots ≤ S) :
    own_Go p.tables e below (fun o U' => ∃ v L, o = .returned v ∧ Q v U'.heap L ∧ FrameEnd s o U' L C S) (T.setTop (mkF m pc Ls (.int z :: rest))) :=
  own_ret X (fun h => by rw [hret] at h; cases h) hlocks (fun _ hr => retN X hx hret ht hd hr) q hc hs
theorem own_retI (X : Stand p l e R s m args below meth c T locs cells slots) (hx : p.tables.exec = Jvm.exec) {pc : Nat} {Ls : Array Slot} {z : Int32} {rest : List Value} (hret : meth.sig.returnType = some .int) (hd : decode c.code pc = .ok (.ireturn, 1)) (hlocks : meth.locks = false) (q : Q (some (.int z)) T.heap locs) (hc : cells ≤ C) (hs : slots ≤ S) :
    own_Go p.tables e below (fun o U' => ∃ v L, o = .returned v ∧ Q v U'.heap L ∧ FrameEnd s o U' L C S) (T.setTop (mkF m pc Ls (.int z :: rest))) :=
  own_ret X (fun h => by rw [hret] at h; cases h) hlocks (fun _ hr => retOut X hx hret rfl (Or.inl ⟨rfl, Or.inl rfl, z, rfl⟩) hd hr) q hc hs
theorem own_retJ (X : Stand p l e R s m args below meth c T locs cells slots) (hx : p.tables.exec = Jvm.exec) {pc : Nat} {Ls : Array Slot} {z : Int64} {rest : List Value} (hret : meth.sig.returnType = some .long) (hd : decode c.code pc = .ok (.lreturn, 1)) (hlocks : meth.locks = false) (q : Q (some (.long z)) T.heap locs) (hc : cells ≤ C) (hs : slots ≤ S) :
    own_Go p.tables e below (fun o U' => ∃ v L, o = .returned v ∧ Q v U'.heap L ∧ FrameEnd s o U' L C S) (T.setTop (mkF m pc Ls (.long z :: rest))) :=
  own_ret X (fun h => by rw [hret] at h; cases h) hlocks (fun _ hr => retOut X hx hret rfl (Or.inr (Or.inl ⟨rfl, rfl, z, rfl⟩)) hd hr) q hc hs
theorem own_narrow_ref {t : FieldType} {w : Value} (ht : t.isReference = true) : narrow t w = w := by cases t <;> first | (cases ht; done) | rfl
theorem own_retA (X : Stand p l e R s m args below meth c T locs cells slots) (hx : p.tables.exec = Jvm.exec) {pc : Nat} {Ls : Array Slot} {w : Value} {t : FieldType} {rest : List Value} (hret : meth.sig.returnType = some t) (ht : t.isReference = true) (hw : w.isRef = true) (hd : decode c.code pc = .ok (.areturn, 1)) (hlocks : meth.locks = false) (q : Q (some w) T.heap locs) (hc : cells ≤ C) (hs : slots ≤ S) :
    own_Go p.tables e below (fun o U' => ∃ v L, o = .returned v ∧ Q v U'.heap L ∧ FrameEnd s o U' L C S) (T.setTop (mkF m pc Ls (w :: rest))) :=
  own_ret X (fun h => by rw [hret] at h; cases h) hlocks (fun _ hr => retOut X hx hret (own_narrow_ref ht) (Or.inr (Or.inr (Or.inr (Or.inr ⟨rfl, ht, hw⟩)))) hd hr) q hc hs
end Rets

theorem own_nul {Z : State} {h h' : Heap} {a : Addr} {k : ClassId} {ty : FieldType} {z j : Int32} (hf : fits ty .null = true) (V : Arv Z h a k ty z [] .null) (W : Wr h h' a j.toNatClampNeg .null) : Arv Z h' a k ty z [] .null := by
  obtain ⟨c, A, q1, S, q3, H, G⟩ := V.pad (pad_rep [] .null (j.toNatClampNeg + 1))
  have V2 := Arv.set A q1 S q3 H G hf W j.toNatClampNeg rfl (by simp)
  refine V2.pad fun i => ?_
  have e : (([] ++ List.replicate (j.toNatClampNeg + 1) Value.null).set j.toNatClampNeg Value.null) = [] ++ List.replicate (j.toNatClampNeg + 1) Value.null := by simp
  rw [e]
  exact (pad_rep [] .null _ i).symm
def own_pk (i : Int64) (e1 e2 e3 : Addr) : Addr := if i = 1 then e1 else if i = 2 then e2 else e3
def own_ix (d : Int64) : Int32 := (d - (d / (1024 : Int32).toInt64) * (1024 : Int32).toInt64).toInt32
theorem own_k (x : Int32) : (x &&& 3) = 0 ∨ (x &&& 3) = 1 ∨ (x &&& 3) = 2 ∨ (x &&& 3) = 3 := by
  have h := c_mask x 3 2 (by decide) (by decide)
  rcases (by omega : (x &&& 3).toInt = 0 ∨ (x &&& 3).toInt = 1 ∨ (x &&& 3).toInt = 2 ∨ (x &&& 3).toInt = 3) with q | q | q | q
  · exact Or.inl (Int32.toInt_inj.mp q)
  · exact Or.inr (Or.inl (Int32.toInt_inj.mp q))
  · exact Or.inr (Or.inr (Or.inl (Int32.toInt_inj.mp q)))
  · exact Or.inr (Or.inr (Or.inr (Int32.toInt_inj.mp q)))

theorem d2_0 : decode jdk_30_method_1_code 0 = .ok (.aload_n 0, 1) := by decide +kernel
theorem d2_1 : decode jdk_30_method_1_code 1 = .ok (.invokespecial 1, 3) := by decide +kernel
theorem d2_4 : decode jdk_30_method_1_code 4 = .ok (.return_, 1) := by decide +kernel
theorem pn_java_lang_Record : plainName "java/lang/Record" = true := by first | (simp [plainName, overriddenIn]; done) | decide +kernel
theorem ef_rmRecord (m : MethodId) (x0 : Addr) : entryFrame m #[(.ref x0)] 1 = mkF m 0 #[.val (.ref x0)] [] := by first | (simp [entryFrame, mkF, argsToLocals, Value.category]; done) | rfl
def Q_rmRecord (Z : State) (o : Addr) (h0 : Heap) (n0 : Nat) (v : Option Value) (h : Heap) (L : List Loc) : Prop := v = none ∧ Fr n0 L ∧ h = h0
def K_rmRecord (Z : State) (o : Addr) (h0 : Heap) (n0 : Nat) (s : State) : Outcome → State → Prop := fun oo U' => ∃ v L, oo = .returned v ∧ Q_rmRecord Z o h0 n0 v U'.heap L ∧ FrameEnd s oo U' L ({ frames := 1, cells := 0, slots := 0, locals := 12 } : Room).cells ({ frames := 1, cells := 0, slots := 0, locals := 12 } : Room).slots
set_option maxRecDepth 65536 in
set_option maxHeartbeats 40000000 in
theorem rmRecord (l : Launch) (Z : State) (a0 : Array Value) (hw : ∀ d ∈ tables_1, d.before a0 Z = true) (ws : List Jvm.Cond) (o : Addr) (h0 : Heap) (n0 : Nat) (Z0 : n0 ≤ h0.size)  :
    MetFree l (⟨"java/lang/Record", "<init>", "()V"⟩ : MethodName) (head1 (Jvm.Cond.code (⟨"java/lang/Record", "<init>", "()V"⟩ : MethodName) jdk_30_method_1_code 1 none :: ws) ({ frames := 1, cells := 0, slots := 0, locals := 12 } : Room)) (fun a U => a = #[(.ref o)] ∧ Z.Warmed39 U.vm ∧ U.heap = h0) (fun _ _ _ _ _ => True) (fun _ U oo U' => ∃ v L, oo = .returned v ∧ Q_rmRecord Z o h0 n0 v U'.heap L ∧ FrameEnd U oo U' L ({ frames := 1, cells := 0, slots := 0, locals := 12 } : Room).cells ({ frames := 1, cells := 0, slots := 0, locals := 12 } : Room).slots) := by
  refine MetFree.of_bodySF (plainFor_of_name pn_java_lang_Record) hisR ?_
  intro p e s m args below meth c s₁ Bd hml0 hP hK
  obtain ⟨rfl, hZ, hh⟩ := hP
  have hx := Bd.exec
  have hby := Bd.bytes
  have hml : c.maxLocals = 1 := hml0
  have hown : s.vm.findClass "java/lang/Record" = some m.cls := findClass_of_methodNamed Bd.named
  have hnm := (name_of_methodNamed Bd.named Bd.method).1
  have X0 : Stand p l e ({ frames := 1, cells := 0, slots := 0, locals := 12 } : Room) s m #[(.ref o)] below meth c s₁ [] 0 0 := Stand.of_body Bd
  have e0 : s₁.heap = h0 := by rw [← hh, Bd.state]; rfl
  have N0 := Fr.nil n0
  refine own_st (K := (K_rmRecord Z o h0 n0 s)) (fun t' k' => castTop (ef_rmRecord m o) k') ?_
  show own_Go p.tables e below _ (s₁.setTop (mkF m 0 #[.val (.ref o)] []))
  refine own_st (fun _ k' => XS.aloadN X0.here hx rfl (hb hby d2_0) rfl rfl k') ?_
  show own_Go p.tables e below _ (s₁.setTop (mkF m 1 #[.val (.ref o)] [(.ref o)]))
  obtain ⟨T1, X1, e1, st1⟩ := initO X0 hx hZ hown (hw _ (List.mem_of_getElem? (i := 14) rfl)) (hw _ (List.mem_of_getElem? (i := 15) rfl)) (hw _ (List.mem_of_getElem? (i := 16) rfl)) e0 (g := (mkF m 1 #[.val (.ref o)] [(.ref o)])) rfl (by rw [hml]; rfl) rfl (hb hby d2_1) (by decide) (W := 0) (by show 2 * 0 + _ ≤ _; exact Nat.le_of_eq rfl) (by decide)
  refine own_st st1 ?_
  show own_Go p.tables e below _ (T1.setTop (mkF m 4 #[.val (.ref o)] []))
  exact own_retV X1 hx Bd.returns (hb hby d2_4) Bd.notSynchronized ⟨rfl, N0, e1⟩ (by decide) (by decide)

theorem d1_0 : decode prog_130_method_1_code 0 = .ok (.aload_n 0, 1) := by decide +kernel
theorem d1_1 : decode prog_130_method_1_code 1 = .ok (.invokespecial 1, 3) := by decide +kernel
theorem d1_4 : decode prog_130_method_1_code 4 = .ok (.aload_n 0, 1) := by decide +kernel
theorem d1_5 : decode prog_130_method_1_code 5 = .ok (.lload_n 1, 1) := by decide +kernel
theorem d1_6 : decode prog_130_method_1_code 6 = .ok (.putfield 7, 3) := by decide +kernel
theorem d1_9 : decode prog_130_method_1_code 9 = .ok (.aload_n 0, 1) := by decide +kernel
theorem d1_10 : decode prog_130_method_1_code 10 = .ok (.iload_n 3, 1) := by decide +kernel
theorem d1_11 : decode prog_130_method_1_code 11 = .ok (.putfield 13, 3) := by decide +kernel
theorem d1_14 : decode prog_130_method_1_code 14 = .ok (.aload_n 0, 1) := by decide +kernel
theorem d1_15 : decode prog_130_method_1_code 15 = .ok (.lload 4, 2) := by decide +kernel
theorem d1_17 : decode prog_130_method_1_code 17 = .ok (.putfield 17, 3) := by decide +kernel
theorem d1_20 : decode prog_130_method_1_code 20 = .ok (.aload_n 0, 1) := by decide +kernel
theorem d1_21 : decode prog_130_method_1_code 21 = .ok (.aload 6, 2) := by decide +kernel
theorem d1_23 : decode prog_130_method_1_code 23 = .ok (.putfield 20, 3) := by decide +kernel
theorem d1_26 : decode prog_130_method_1_code 26 = .ok (.return_, 1) := by decide +kernel
theorem pd___V : parseMethodDescriptor "()V" = some ⟨[], none⟩ := by decide +kernel
theorem pn_com_example_penumbra_penumbra_order_SequenceLog_Entry : plainName "com/example/penumbra/penumbra/order/SequenceLog$Entry" = true := by first | (simp [plainName, overriddenIn]; done) | decide +kernel
theorem ef_rmE (m : MethodId) (x0 : Addr) (x1 : Int64) (x2 : Int32) (x3 : Int64) (x4 : Addr) : entryFrame m #[(.ref x0), (.long x1), (.int x2), (.long x3), (.ref x4)] 7 = mkF m 0 #[.val (.ref x0), .val (.long x1), .second, .val (.int x2), .val (.long x3), .second, .val (.ref x4)] [] := by first | (simp [entryFrame, mkF, argsToLocals, Value.category]; done) | rfl
def Q_rmE (Z : State) (o : Addr) (nu : Int64) (og : Int32) (ct : Int64) (ms : Addr) (h0 : Heap) (n0 : Nat) (v : Option Value) (h : Heap) (L : List Loc) : Prop := v = none ∧ Fr n0 L ∧ Keep h0 h [o] ∧ Exa Z h o "com/example/penumbra/penumbra/order/SequenceLog$Entry" ∧ Fld Z h o "com/example/penumbra/penumbra/order/SequenceLog$Entry" "number" "J" (.long nu)
def K_rmE (Z : State) (o : Addr) (nu : Int64) (og : Int32) (ct : Int64) (ms : Addr) (h0 : Heap) (n0 : Nat) (s : State) : Outcome → State → Prop := fun oo U' => ∃ v L, oo = .returned v ∧ Q_rmE Z o nu og ct ms h0 n0 v U'.heap L ∧ FrameEnd s oo U' L ({ frames := 2, cells := 0, slots := 0, locals := 24 } : Room).cells ({ frames := 2, cells := 0, slots := 0, locals := 24 } : Room).slots
set_option maxRecDepth 65536 in
set_option maxHeartbeats 40000000 in
theorem rmE (l : Launch) (Z : State) (a0 : Array Value) (hw : ∀ d ∈ tables_1, d.before a0 Z = true) (ws : List Jvm.Cond) (o : Addr) (nu : Int64) (og : Int32) (ct : Int64) (ms : Addr) (h0 : Heap) (n0 : Nat) (Z0 : n0 ≤ h0.size) (E_o : Exa Z h0 o "com/example/penumbra/penumbra/order/SequenceLog$Entry") (F_0 : Fld Z h0 o "com/example/penumbra/penumbra/order/SequenceLog$Entry" "number" "J" (.long (0 : Int64))) (F_1 : Fld Z h0 o "com/example/penumbra/penumbra/order/SequenceLog$Entry" "origin" "I" (.int (0 : Int32))) (F_2 : Fld Z h0 o "com/example/penumbra/penumbra/order/SequenceLog$Entry" "counter" "J" (.long (0 : Int64))) (F_3 : Fld Z h0 o "com/example/penumbra/penumbra/order/SequenceLog$Entry" "message" "[B" .null) (g_o : n0 ≤ o) :
    MetFree l (⟨"com/example/penumbra/penumbra/order/SequenceLog$Entry", "<init>", "(JIJ[B)V"⟩ : MethodName) (head1 (Jvm.Cond.code (⟨"com/example/penumbra/penumbra/order/SequenceLog$Entry", "<init>", "(JIJ[B)V"⟩ : MethodName) prog_130_method_1_code 7 none :: ws) ({ frames := 2, cells := 0, slots := 0, locals := 24 } : Room)) (fun a U => a = #[(.ref o), (.long nu), (.int og), (.long ct), (.ref ms)] ∧ Z.Warmed39 U.vm ∧ U.heap = h0) (fun _ _ _ _ _ => True) (fun _ U oo U' => ∃ v L, oo = .returned v ∧ Q_rmE Z o nu og ct ms h0 n0 v U'.heap L ∧ FrameEnd U oo U' L ({ frames := 2, cells := 0, slots := 0, locals := 24 } : Room).cells ({ frames := 2, cells := 0, slots := 0, locals := 24 } : Room).slots) := by
  refine MetFree.of_bodySF (plainFor_of_name pn_com_example_penumbra_penumbra_order_SequenceLog_Entry) hisR ?_
  intro p e s m args below meth c s₁ Bd hml0 hP hK
  obtain ⟨rfl, hZ, hh⟩ := hP
  have hx := Bd.exec
  have hby := Bd.bytes
  have hml : c.maxLocals = 7 := hml0
  have hown : s.vm.findClass "com/example/penumbra/penumbra/order/SequenceLog$Entry" = some m.cls := findClass_of_methodNamed Bd.named
  have hnm := (name_of_methodNamed Bd.named Bd.method).1
  have X0 : Stand p l e ({ frames := 2, cells := 0, slots := 0, locals := 24 } : Room) s m #[(.ref o), (.long nu), (.int og), (.long ct), (.ref ms)] below meth c s₁ [] 0 0 := Stand.of_body Bd
  have e0 : s₁.heap = h0 := by rw [← hh, Bd.state]; rfl
  have N0 := Fr.nil n0
  refine own_st (K := (K_rmE Z o nu og ct ms h0 n0 s)) (fun t' k' => castTop (ef_rmE m o nu og ct ms) k') ?_
  show own_Go p.tables e below _ (s₁.setTop (mkF m 0 #[.val (.ref o), .val (.long nu), .second, .val (.int og), .val (.long ct), .second, .val (.ref ms)] []))
  refine own_st (fun _ k' => XS.aloadN X0.here hx rfl (hb hby d1_0) rfl rfl k') ?_
  show own_Go p.tables e below _ (s₁.setTop (mkF m 1 #[.val (.ref o), .val (.long nu), .second, .val (.int og), .val (.long ct), .second, .val (.ref ms)] [(.ref o)]))
  obtain ⟨_, _, ⟨T1, L1, k1, n1⟩, -, X1, ⟨Lc1, hQ1, l1, y1, z1⟩, st1⟩ := X0.specialBack hx (y := (⟨"java/lang/Record", "<init>", "()V"⟩ : MethodName)) rfl hown (mvT hZ (hw _ (List.mem_of_getElem? (i := 9) rfl))) (mvT hZ (hw _ (List.mem_of_getElem? (i := 10) rfl))) (mvT hZ (hw _ (List.mem_of_getElem? (i := 13) rfl))) (by decide) (backOf (W := 0) (rmRecord l Z a0 hw [] o h0 n0 Z0 ) hZ (hw _ (List.mem_of_getElem? (i := 13) rfl)) (hw _ (List.mem_of_getElem? (i := 12) rfl)) (by decide) (by decide)) (g := (mkF m 1 #[.val (.ref o), .val (.long nu), .second, .val (.int og), .val (.long ct), .second, .val (.ref ms)] [(.ref o)])) rfl (by rw [hml]; rfl) (Steps.refl _) (a := o) (argsL := []) (rest := []) (lenOf pd___V rfl) rfl (by show 2 * 0 + _ ≤ _; exact Nat.le_of_eq rfl) (hb hby d1_1) (fun _ _ => ⟨rfl, e0, (by decide : 0 + 0 ≤ _), (by decide : 0 + 0 ≤ _)⟩)
  dsimp only [Pt.U, Pt.locs, Pt.cells, Pt.slots] at X1 l1 y1 z1 st1 hQ1
  subst l1 y1 z1
  obtain ⟨rfl, Nq1, e1⟩ := hQ1
  have N1 := Fr.app N0 Nq1
  refine own_tr st1 ?_
  show own_Go p.tables e below _ (T1.setTop (mkF m 4 #[.val (.ref o), .val (.long nu), .second, .val (.int og), .val (.long ct), .second, .val (.ref ms)] []))
  refine own_st (fun _ k' => XS.aloadN X1.here hx rfl (hb hby d1_4) rfl rfl k') ?_
  show own_Go p.tables e below _ (T1.setTop (mkF m 5 #[.val (.ref o), .val (.long nu), .second, .val (.int og), .val (.long ct), .second, .val (.ref ms)] [(.ref o)]))
  refine own_st (fun _ k' => XS.lloadN X1.here hx rfl (hb hby d1_5) rfl k') ?_
  show own_Go p.tables e below _ (T1.setTop (mkF m 6 #[.val (.ref o), .val (.long nu), .second, .val (.int og), .val (.long ct), .second, .val (.ref ms)] [(.long nu), (.ref o)]))
  obtain ⟨T2, h2, X2, e2, W2, st2⟩ := putF X1 hx hZ hown (host := "") (Or.inl (hw _ (List.mem_of_getElem? (i := 17) rfl))) Via.refl e1 F_0 E_o (Or.inr ⟨(hw _ (List.mem_of_getElem? (i := 18) rfl)), rfl, hnm⟩) (hw _ (List.mem_of_getElem? (i := 4) rfl)) (ty := .long) (by decide) rfl rfl (g := (mkF m 6 #[.val (.ref o), .val (.long nu), .second, .val (.int og), .val (.long ct), .second, .val (.ref ms)] [(.long nu), (.ref o)])) rfl rfl (hb hby d1_6)
  have N2 := Fr.snoc X2 N1 g_o
  have E_o_x3 := E_o.wr W2
  have F_0_x4 := F_0.same W2
  have F_1_x5 := F_1.other W2 (Or.inr (slot_ne (Or.inr (hw _ (List.mem_of_getElem? (i := 20) rfl))) (Or.inr (hw _ (List.mem_of_getElem? (i := 18) rfl))) (by decide) (t := .int) (t' := .long) (by decide) (by decide)))
  have F_2_x6 := F_2.other W2 (Or.inr (slot_ne (Or.inr (hw _ (List.mem_of_getElem? (i := 22) rfl))) (Or.inr (hw _ (List.mem_of_getElem? (i := 18) rfl))) (by decide) (t := .long) (t' := .long) (by decide) (by decide)))
  have F_3_x7 := F_3.other W2 (Or.inr (slot_ne (Or.inr (hw _ (List.mem_of_getElem? (i := 24) rfl))) (Or.inr (hw _ (List.mem_of_getElem? (i := 18) rfl))) (by decide) (t := (.array .byte)) (t' := .long) (by decide) (by decide)))
  have K8 : Keep h0 h2 [o] := (Keep.refl h0 [o]).wr W2 (Or.inl (List.mem_of_getElem? (i := 0) rfl))
  refine own_st st2 ?_
  show own_Go p.tables e below _ (T2.setTop (mkF m 9 #[.val (.ref o), .val (.long nu), .second, .val (.int og), .val (.long ct), .second, .val (.ref ms)] []))
  refine own_st (fun _ k' => XS.aloadN X2.here hx rfl (hb hby d1_9) rfl rfl k') ?_
  show own_Go p.tables e below _ (T2.setTop (mkF m 10 #[.val (.ref o), .val (.long nu), .second, .val (.int og), .val (.long ct), .second, .val (.ref ms)] [(.ref o)]))
  refine own_st (fun _ k' => XS.iloadN X2.here hx rfl (hb hby d1_10) rfl k') ?_
  show own_Go p.tables e below _ (T2.setTop (mkF m 11 #[.val (.ref o), .val (.long nu), .second, .val (.int og), .val (.long ct), .second, .val (.ref ms)] [(.int og), (.ref o)]))
  obtain ⟨T9, h9, X9, e9, W9, st9⟩ := putF X2 hx hZ hown (host := "") (Or.inl (hw _ (List.mem_of_getElem? (i := 19) rfl))) Via.refl e2 F_1_x5 E_o_x3 (Or.inr ⟨(hw _ (List.mem_of_getElem? (i := 20) rfl)), rfl, hnm⟩) (hw _ (List.mem_of_getElem? (i := 4) rfl)) (ty := .int) (by decide) rfl rfl (g := (mkF m 11 #[.val (.ref o), .val (.long nu), .second, .val (.int og), .val (.long ct), .second, .val (.ref ms)] [(.int og), (.ref o)])) rfl rfl (hb hby d1_11)
  have N9 := Fr.snoc X9 N2 g_o
  have E_o_x10 := E_o_x3.wr W9
  have F_0_x11 := F_0_x4.other W9 (Or.inr (slot_ne (Or.inr (hw _ (List.mem_of_getElem? (i := 18) rfl))) (Or.inr (hw _ (List.mem_of_getElem? (i := 20) rfl))) (by decide) (t := .long) (t' := .int) (by decide) (by decide)))
  have F_1_x12 := F_1_x5.same W9
  have F_2_x13 := F_2_x6.other W9 (Or.inr (slot_ne (Or.inr (hw _ (List.mem_of_getElem? (i := 22) rfl))) (Or.inr (hw _ (List.mem_of_getElem? (i := 20) rfl))) (by decide) (t := .long) (t' := .int) (by decide) (by decide)))
  have F_3_x14 := F_3_x7.other W9 (Or.inr (slot_ne (Or.inr (hw _ (List.mem_of_getElem? (i := 24) rfl))) (Or.inr (hw _ (List.mem_of_getElem? (i := 20) rfl))) (by decide) (t := (.array .byte)) (t' := .int) (by decide) (by decide)))
  have K15 : Keep h0 h9 [o] := K8.wr W9 (Or.inl (List.mem_of_getElem? (i := 0) rfl))
  refine own_st st9 ?_
  show own_Go p.tables e below _ (T9.setTop (mkF m 14 #[.val (.ref o), .val (.long nu), .second, .val (.int og), .val (.long ct), .second, .val (.ref ms)] []))
  refine own_st (fun _ k' => XS.aloadN X9.here hx rfl (hb hby d1_14) rfl rfl k') ?_
  show own_Go p.tables e below _ (T9.setTop (mkF m 15 #[.val (.ref o), .val (.long nu), .second, .val (.int og), .val (.long ct), .second, .val (.ref ms)] [(.ref o)]))
  refine own_st (fun _ k' => XS.lload X9.here hx rfl (hb hby d1_15) rfl k') ?_
  show own_Go p.tables e below _ (T9.setTop (mkF m 17 #[.val (.ref o), .val (.long nu), .second, .val (.int og), .val (.long ct), .second, .val (.ref ms)] [(.long ct), (.ref o)]))
  obtain ⟨T16, h16, X16, e16, W16, st16⟩ := putF X9 hx hZ hown (host := "") (Or.inl (hw _ (List.mem_of_getElem? (i := 21) rfl))) Via.refl e9 F_2_x13 E_o_x10 (Or.inr ⟨(hw _ (List.mem_of_getElem? (i := 22) rfl)), rfl, hnm⟩) (hw _ (List.mem_of_getElem? (i := 4) rfl)) (ty := .long) (by decide) rfl rfl (g := (mkF m 17 #[.val (.ref o), .val (.long nu), .second, .val (.int og), .val (.long ct), .second, .val (.ref ms)] [(.long ct), (.ref o)])) rfl rfl (hb hby d1_17)
  have N16 := Fr.snoc X16 N9 g_o
  have E_o_x17 := E_o_x10.wr W16
  have F_0_x18 := F_0_x11.other W16 (Or.inr (slot_ne (Or.inr (hw _ (List.mem_of_getElem? (i := 18) rfl))) (Or.inr (hw _ (List.mem_of_getElem? (i := 22) rfl))) (by decide) (t := .long) (t' := .long) (by decide) (by decide)))
  have F_1_x19 := F_1_x12.other W16 (Or.inr (slot_ne (Or.inr (hw _ (List.mem_of_getElem? (i := 20) rfl))) (Or.inr (hw _ (List.mem_of_getElem? (i := 22) rfl))) (by decide) (t := .int) (t' := .long) (by decide) (by decide)))
  have F_2_x20 := F_2_x13.same W16
  have F_3_x21 := F_3_x14.other W16 (Or.inr (slot_ne (Or.inr (hw _ (List.mem_of_getElem? (i := 24) rfl))) (Or.inr (hw _ (List.mem_of_getElem? (i := 22) rfl))) (by decide) (t := (.array .byte)) (t' := .long) (by decide) (by decide)))
  have K22 : Keep h0 h16 [o] := K15.wr W16 (Or.inl (List.mem_of_getElem? (i := 0) rfl))
  refine own_st st16 ?_
  show own_Go p.tables e below _ (T16.setTop (mkF m 20 #[.val (.ref o), .val (.long nu), .second, .val (.int og), .val (.long ct), .second, .val (.ref ms)] []))
  refine own_st (fun _ k' => XS.aloadN X16.here hx rfl (hb hby d1_20) rfl rfl k') ?_
  show own_Go p.tables e below _ (T16.setTop (mkF m 21 #[.val (.ref o), .val (.long nu), .second, .val (.int og), .val (.long ct), .second, .val (.ref ms)] [(.ref o)]))
  refine own_st (fun _ k' => XS.aload X16.here hx rfl (hb hby d1_21) rfl rfl k') ?_
  show own_Go p.tables e below _ (T16.setTop (mkF m 23 #[.val (.ref o), .val (.long nu), .second, .val (.int og), .val (.long ct), .second, .val (.ref ms)] [(.ref ms), (.ref o)]))
  obtain ⟨T23, h23, X23, e23, W23, st23⟩ := putF X16 hx hZ hown (host := "") (Or.inl (hw _ (List.mem_of_getElem? (i := 23) rfl))) Via.refl e16 F_3_x21 E_o_x17 (Or.inr ⟨(hw _ (List.mem_of_getElem? (i := 24) rfl)), rfl, hnm⟩) (hw _ (List.mem_of_getElem? (i := 4) rfl)) (ty := (.array .byte)) (by decide) rfl rfl (g := (mkF m 23 #[.val (.ref o), .val (.long nu), .second, .val (.int og), .val (.long ct), .second, .val (.ref ms)] [(.ref ms), (.ref o)])) rfl rfl (hb hby d1_23)
  have N23 := Fr.snoc X23 N16 g_o
  have E_o_x24 := E_o_x17.wr W23
  have F_0_x25 := F_0_x18.other W23 (Or.inr (slot_ne (Or.inr (hw _ (List.mem_of_getElem? (i := 18) rfl))) (Or.inr (hw _ (List.mem_of_getElem? (i := 24) rfl))) (by decide) (t := .long) (t' := (.array .byte)) (by decide) (by decide)))
  have F_1_x26 := F_1_x19.other W23 (Or.inr (slot_ne (Or.inr (hw _ (List.mem_of_getElem? (i := 20) rfl))) (Or.inr (hw _ (List.mem_of_getElem? (i := 24) rfl))) (by decide) (t := .int) (t' := (.array .byte)) (by decide) (by decide)))
  have F_2_x27 := F_2_x20.other W23 (Or.inr (slot_ne (Or.inr (hw _ (List.mem_of_getElem? (i := 22) rfl))) (Or.inr (hw _ (List.mem_of_getElem? (i := 24) rfl))) (by decide) (t := .long) (t' := (.array .byte)) (by decide) (by decide)))
  have F_3_x28 := F_3_x21.same W23
  have K29 : Keep h0 h23 [o] := K22.wr W23 (Or.inl (List.mem_of_getElem? (i := 0) rfl))
  refine own_st st23 ?_
  show own_Go p.tables e below _ (T23.setTop (mkF m 26 #[.val (.ref o), .val (.long nu), .second, .val (.int og), .val (.long ct), .second, .val (.ref ms)] []))
  exact own_retV X23 hx Bd.returns (hb hby d1_26) Bd.notSynchronized ⟨rfl, N23, by rw [e23]; exact K29, by rw [e23]; exact E_o_x24, by rw [e23]; exact F_0_x25⟩ (by decide) (by decide)

theorem d4_0 : decode prog_129_method_1_code 0 = .ok (.aload_n 0, 1) := by decide +kernel
theorem d4_1 : decode prog_129_method_1_code 1 = .ok (.invokespecial 1, 3) := by decide +kernel
theorem d4_4 : decode prog_129_method_1_code 4 = .ok (.aload_n 0, 1) := by decide +kernel
theorem d4_5 : decode prog_129_method_1_code 5 = .ok (.sipush 1024, 3) := by decide +kernel
theorem d4_8 : decode prog_129_method_1_code 8 = .ok (.anewarray 7, 3) := by decide +kernel
theorem d4_11 : decode prog_129_method_1_code 11 = .ok (.putfield 9, 3) := by decide +kernel
theorem d4_14 : decode prog_129_method_1_code 14 = .ok (.aload_n 0, 1) := by decide +kernel
theorem d4_15 : decode prog_129_method_1_code 15 = .ok (.lconst 1, 1) := by decide +kernel
theorem d4_16 : decode prog_129_method_1_code 16 = .ok (.putfield 15, 3) := by decide +kernel
theorem d4_19 : decode prog_129_method_1_code 19 = .ok (.return_, 1) := by decide +kernel
theorem pn_com_example_penumbra_penumbra_order_SequenceLog : plainName "com/example/penumbra/penumbra/order/SequenceLog" = true := by first | (simp [plainName, overriddenIn]; done) | decide +kernel
theorem ef_rmI (m : MethodId) (x0 : Addr) : entryFrame m #[(.ref x0)] 1 = mkF m 0 #[.val (.ref x0)] [] := by first | (simp [entryFrame, mkF, argsToLocals, Value.category]; done) | rfl
def Q_rmI (Z : State) (o : Addr) (h0 : Heap) (n0 : Nat) (v : Option Value) (h : Heap) (L : List Loc) : Prop := v = none ∧ Fr n0 L ∧ Keep h0 h [o] ∧ ∃ (rg : Addr) (kk : ClassId), n0 ≤ rg ∧ h0.size ≤ rg ∧ Ovr Z kk "com/example/penumbra/penumbra/order/SequenceLog$Entry" ∧ Exa Z h o "com/example/penumbra/penumbra/order/SequenceLog" ∧ Fld Z h o "com/example/penumbra/penumbra/order/SequenceLog" "ring" "[Lcom/example/penumbra/penumbra/order/SequenceLog$Entry;" (.ref rg) ∧ Fld Z h o "com/example/penumbra/penumbra/order/SequenceLog" "first" "J" (.long (1 : Int64)) ∧ Fld Z h o "com/example/penumbra/penumbra/order/SequenceLog" "head" "I" (.int (0 : Int32)) ∧ Fld Z h o "com/example/penumbra/penumbra/order/SequenceLog" "size" "I" (.int (0 : Int32)) ∧ Arv Z h rg kk (.object "com/example/penumbra/penumbra/order/SequenceLog$Entry") (1024 : Int32) [] .null
def K_rmI (Z : State) (o : Addr) (h0 : Heap) (n0 : Nat) (s : State) : Outcome → State → Prop := fun oo U' => ∃ v L, oo = .returned v ∧ Q_rmI Z o h0 n0 v U'.heap L ∧ FrameEnd s oo U' L ({ frames := 1, cells := 1, slots := 1024, locals := 12 } : Room).cells ({ frames := 1, cells := 1, slots := 1024, locals := 12 } : Room).slots
set_option maxRecDepth 65536 in
set_option maxHeartbeats 40000000 in
theorem rmI (l : Launch) (Z : State) (a0 : Array Value) (hw : ∀ d ∈ tables_1, d.before a0 Z = true) (ws : List Jvm.Cond) (o : Addr) (h0 : Heap) (n0 : Nat) (Z0 : n0 ≤ h0.size) (E_o : Exa Z h0 o "com/example/penumbra/penumbra/order/SequenceLog") (F_ring : Fld Z h0 o "com/example/penumbra/penumbra/order/SequenceLog" "ring" "[Lcom/example/penumbra/penumbra/order/SequenceLog$Entry;" .null) (F_first : Fld Z h0 o "com/example/penumbra/penumbra/order/SequenceLog" "first" "J" (.long (0 : Int64))) (F_head : Fld Z h0 o "com/example/penumbra/penumbra/order/SequenceLog" "head" "I" (.int (0 : Int32))) (F_size : Fld Z h0 o "com/example/penumbra/penumbra/order/SequenceLog" "size" "I" (.int (0 : Int32))) (g_o : n0 ≤ o) :
    MetFree l (⟨"com/example/penumbra/penumbra/order/SequenceLog", "<init>", "()V"⟩ : MethodName) (head1 (Jvm.Cond.code (⟨"com/example/penumbra/penumbra/order/SequenceLog", "<init>", "()V"⟩ : MethodName) prog_129_method_1_code 1 none :: ws) ({ frames := 1, cells := 1, slots := 1024, locals := 12 } : Room)) (fun a U => a = #[(.ref o)] ∧ Z.Warmed39 U.vm ∧ U.heap = h0) (fun _ _ _ _ _ => True) (fun _ U oo U' => ∃ v L, oo = .returned v ∧ Q_rmI Z o h0 n0 v U'.heap L ∧ FrameEnd U oo U' L ({ frames := 1, cells := 1, slots := 1024, locals := 12 } : Room).cells ({ frames := 1, cells := 1, slots := 1024, locals := 12 } : Room).slots) := by
  refine MetFree.of_bodySF (plainFor_of_name pn_com_example_penumbra_penumbra_order_SequenceLog) hisR ?_
  intro p e s m args below meth c s₁ Bd hml0 hP hK
  obtain ⟨rfl, hZ, hh⟩ := hP
  have hx := Bd.exec
  have hby := Bd.bytes
  have hml : c.maxLocals = 1 := hml0
  have hown : s.vm.findClass "com/example/penumbra/penumbra/order/SequenceLog" = some m.cls := findClass_of_methodNamed Bd.named
  have hnm := (name_of_methodNamed Bd.named Bd.method).1
  have X0 : Stand p l e ({ frames := 1, cells := 1, slots := 1024, locals := 12 } : Room) s m #[(.ref o)] below meth c s₁ [] 0 0 := Stand.of_body Bd
  have e0 : s₁.heap = h0 := by rw [← hh, Bd.state]; rfl
  have N0 := Fr.nil n0
  refine own_st (K := (K_rmI Z o h0 n0 s)) (fun t' k' => castTop (ef_rmI m o) k') ?_
  show own_Go p.tables e below _ (s₁.setTop (mkF m 0 #[.val (.ref o)] []))
  refine own_st (fun _ k' => XS.aloadN X0.here hx rfl (hb hby d4_0) rfl rfl k') ?_
  show own_Go p.tables e below _ (s₁.setTop (mkF m 1 #[.val (.ref o)] [(.ref o)]))
  obtain ⟨T1, X1, e1, st1⟩ := initO X0 hx hZ hown (hw _ (List.mem_of_getElem? (i := 32) rfl)) (hw _ (List.mem_of_getElem? (i := 15) rfl)) (hw _ (List.mem_of_getElem? (i := 16) rfl)) e0 (g := (mkF m 1 #[.val (.ref o)] [(.ref o)])) rfl (by rw [hml]; rfl) rfl (hb hby d4_1) (by decide) (W := 0) (by show 2 * 0 + _ ≤ _; exact Nat.le_of_eq rfl) (by decide)
  refine own_st st1 ?_
  show own_Go p.tables e below _ (T1.setTop (mkF m 4 #[.val (.ref o)] []))
  refine own_st (fun _ k' => XS.aloadN X1.here hx rfl (hb hby d4_4) rfl rfl k') ?_
  show own_Go p.tables e below _ (T1.setTop (mkF m 5 #[.val (.ref o)] [(.ref o)]))
  refine own_st (fun _ k' => XS.sipush X1.here hx rfl (hb hby d4_5) k') ?_
  show own_Go p.tables e below _ (T1.setTop (mkF m 8 #[.val (.ref o)] [(.int (1024 : Int32)), (.ref o)]))
  obtain ⟨T2, h2, k2, X2, e2, E2, A2, O2, st2⟩ := newR X1 hx hZ hown (hw _ (List.mem_of_getElem? (i := 33) rfl)) (hw _ (List.mem_of_getElem? (i := 34) rfl)) e1 (g := (mkF m 8 #[.val (.ref o)] [(.int (1024 : Int32)), (.ref o)])) rfl (hb hby d4_8) rfl (by decide) (cap := 1024) (by decide) (by decide) (by decide) (by decide)
  obtain ⟨rg, g2⟩ : ∃ z, z = h0.size := ⟨_, rfl⟩
  rw [← g2] at A2 st2
  have g_rg : n0 ≤ rg := Nat.le_trans Z0 (Nat.le_of_eq g2.symm)
  have sz_rg : h0.size ≤ rg := Nat.le_trans (Keep.refl h0 [o]).1 (Nat.le_of_eq g2.symm)
  have ne_o_rg : o ≠ rg := Nat.ne_of_lt (Nat.lt_of_lt_of_le E_o.lt (Nat.le_of_eq g2.symm))
  have E_o_x3 := E_o.ext E2
  have F_ring_x4 := F_ring.ext E2
  have F_first_x5 := F_first.ext E2
  have F_head_x6 := F_head.ext E2
  have F_size_x7 := F_size.ext E2
  have K8 : Keep h0 h2 [o] := (Keep.refl h0 [o]).ext E2
  have ZE2 : n0 ≤ h2.size := Nat.le_trans Z0 E2.1
  have V_rg : Arv Z h2 rg k2 (.object "com/example/penumbra/penumbra/order/SequenceLog$Entry") (1024 : Int32) [] .null := Arv.new A2 (by decide)
  refine own_st st2 ?_
  show own_Go p.tables e below _ (T2.setTop (mkF m 11 #[.val (.ref o)] [(.ref rg), (.ref o)]))
  obtain ⟨T9, h9, X9, e9, W9, st9⟩ := putF X2 hx hZ hown (host := "") (Or.inl (hw _ (List.mem_of_getElem? (i := 35) rfl))) Via.refl e2 F_ring_x4 E_o_x3 (Or.inl (hw _ (List.mem_of_getElem? (i := 36) rfl))) (hw _ (List.mem_of_getElem? (i := 27) rfl)) (ty := (.array (.object "com/example/penumbra/penumbra/order/SequenceLog$Entry"))) (by decide) rfl rfl (g := (mkF m 11 #[.val (.ref o)] [(.ref rg), (.ref o)])) rfl rfl (hb hby d4_11)
  have N9 := Fr.snoc X9 N0 g_o
  have E_o_x10 := E_o_x3.wr W9
  have F_ring_x11 := F_ring_x4.same W9
  have F_first_x12 := F_first_x5.other W9 (Or.inr (slot_ne (Or.inl (hw _ (List.mem_of_getElem? (i := 38) rfl))) (Or.inl (hw _ (List.mem_of_getElem? (i := 36) rfl))) (by decide) (t := .long) (t' := (.array (.object "com/example/penumbra/penumbra/order/SequenceLog$Entry"))) (by decide) (by decide)))
  have F_head_x13 := F_head_x6.other W9 (Or.inr (slot_ne (Or.inl (hw _ (List.mem_of_getElem? (i := 49) rfl))) (Or.inl (hw _ (List.mem_of_getElem? (i := 36) rfl))) (by decide) (t := .int) (t' := (.array (.object "com/example/penumbra/penumbra/order/SequenceLog$Entry"))) (by decide) (by decide)))
  have F_size_x14 := F_size_x7.other W9 (Or.inr (slot_ne (Or.inl (hw _ (List.mem_of_getElem? (i := 51) rfl))) (Or.inl (hw _ (List.mem_of_getElem? (i := 36) rfl))) (by decide) (t := .int) (t' := (.array (.object "com/example/penumbra/penumbra/order/SequenceLog$Entry"))) (by decide) (by decide)))
  have V_rg_x15 := V_rg.other W9 (Ne.symm ne_o_rg)
  have K16 : Keep h0 h9 [o] := K8.wr W9 (Or.inl (List.mem_of_getElem? (i := 0) rfl))
  refine own_st st9 ?_
  show own_Go p.tables e below _ (T9.setTop (mkF m 14 #[.val (.ref o)] []))
  refine own_st (fun _ k' => XS.aloadN X9.here hx rfl (hb hby d4_14) rfl rfl k') ?_
  show own_Go p.tables e below _ (T9.setTop (mkF m 15 #[.val (.ref o)] [(.ref o)]))
  refine own_st (fun _ k' => XS.lconst X9.here hx rfl (hb hby d4_15) k') ?_
  show own_Go p.tables e below _ (T9.setTop (mkF m 16 #[.val (.ref o)] [(.long (1 : Int64)), (.ref o)]))
  obtain ⟨T17, h17, X17, e17, W17, st17⟩ := putF X9 hx hZ hown (host := "") (Or.inl (hw _ (List.mem_of_getElem? (i := 37) rfl))) Via.refl e9 F_first_x12 E_o_x10 (Or.inl (hw _ (List.mem_of_getElem? (i := 38) rfl))) (hw _ (List.mem_of_getElem? (i := 27) rfl)) (ty := .long) (by decide) rfl rfl (g := (mkF m 16 #[.val (.ref o)] [(.long (1 : Int64)), (.ref o)])) rfl rfl (hb hby d4_16)
  have N17 := Fr.snoc X17 N9 g_o
  have E_o_x18 := E_o_x10.wr W17
  have F_ring_x19 := F_ring_x11.other W17 (Or.inr (slot_ne (Or.inl (hw _ (List.mem_of_getElem? (i := 36) rfl))) (Or.inl (hw _ (List.mem_of_getElem? (i := 38) rfl))) (by decide) (t := (.array (.object "com/example/penumbra/penumbra/order/SequenceLog$Entry"))) (t' := .long) (by decide) (by decide)))
  have F_first_x20 := F_first_x12.same W17
  have F_head_x21 := F_head_x13.other W17 (Or.inr (slot_ne (Or.inl (hw _ (List.mem_of_getElem? (i := 49) rfl))) (Or.inl (hw _ (List.mem_of_getElem? (i := 38) rfl))) (by decide) (t := .int) (t' := .long) (by decide) (by decide)))
  have F_size_x22 := F_size_x14.other W17 (Or.inr (slot_ne (Or.inl (hw _ (List.mem_of_getElem? (i := 51) rfl))) (Or.inl (hw _ (List.mem_of_getElem? (i := 38) rfl))) (by decide) (t := .int) (t' := .long) (by decide) (by decide)))
  have V_rg_x23 := V_rg_x15.other W17 (Ne.symm ne_o_rg)
  have K24 : Keep h0 h17 [o] := K16.wr W17 (Or.inl (List.mem_of_getElem? (i := 0) rfl))
  refine own_st st17 ?_
  show own_Go p.tables e below _ (T17.setTop (mkF m 19 #[.val (.ref o)] []))
  exact own_retV X17 hx Bd.returns (hb hby d4_19) Bd.notSynchronized ⟨rfl, N17, by rw [e17]; exact K24, rg, k2, g_rg, sz_rg, O2, by rw [e17]; exact E_o_x18, by rw [e17]; exact F_ring_x19, by rw [e17]; exact F_first_x20, by rw [e17]; exact F_head_x21, by rw [e17]; exact F_size_x22, by rw [e17]; exact V_rg_x23⟩ (by decide) (by decide)

theorem d6_0 : decode jdk_65_method_117_code 0 = .ok (.iconst 0, 1) := by decide +kernel
theorem d6_1 : decode jdk_65_method_117_code 1 = .ok (.istore_n 2, 1) := by decide +kernel
theorem d6_2 : decode jdk_65_method_117_code 2 = .ok (.aload_n 0, 1) := by decide +kernel
theorem d6_3 : decode jdk_65_method_117_code 3 = .ok (.arraylength, 1) := by decide +kernel
theorem d6_4 : decode jdk_65_method_117_code 4 = .ok (.istore_n 3, 1) := by decide +kernel
theorem d6_5 : decode jdk_65_method_117_code 5 = .ok (.iload_n 2, 1) := by decide +kernel
theorem d6_6 : decode jdk_65_method_117_code 6 = .ok (.iload_n 3, 1) := by decide +kernel
theorem d6_7 : decode jdk_65_method_117_code 7 = .ok (.if_icmp .ge 13, 3) := by decide +kernel
theorem d6_10 : decode jdk_65_method_117_code 10 = .ok (.aload_n 0, 1) := by decide +kernel
theorem d6_11 : decode jdk_65_method_117_code 11 = .ok (.iload_n 2, 1) := by decide +kernel
theorem d6_12 : decode jdk_65_method_117_code 12 = .ok (.aload_n 1, 1) := by decide +kernel
theorem d6_13 : decode jdk_65_method_117_code 13 = .ok (.aastore, 1) := by decide +kernel
theorem d6_14 : decode jdk_65_method_117_code 14 = .ok (.iinc 2 1, 3) := by decide +kernel
theorem d6_17 : decode jdk_65_method_117_code 17 = .ok (.goto (-12), 3) := by decide +kernel
theorem d6_20 : decode jdk_65_method_117_code 20 = .ok (.return_, 1) := by decide +kernel
theorem pn_java_util_Arrays : plainName "java/util/Arrays" = true := by first | (simp [plainName, overriddenIn]; done) | decide +kernel
theorem ef_rmF (m : MethodId) (x0 : Addr) : entryFrame m #[(.ref x0), .null] 4 = mkF m 0 #[.val (.ref x0), .val .null, .unset, .unset] [] := by first | (simp [entryFrame, mkF, argsToLocals, Value.category]; done) | rfl
def Q_rmF (Z : State) (rg : Addr) (kk : ClassId) (h0 : Heap) (n0 : Nat) (v : Option Value) (h : Heap) (L : List Loc) : Prop := v = none ∧ Fr n0 L ∧ Keep h0 h [rg] ∧ Arv Z h rg kk (.object "com/example/penumbra/penumbra/order/SequenceLog$Entry") (1024 : Int32) [] .null
def K_rmF (Z : State) (rg : Addr) (kk : ClassId) (h0 : Heap) (n0 : Nat) (s : State) : Outcome → State → Prop := fun oo U' => ∃ v L, oo = .returned v ∧ Q_rmF Z rg kk h0 n0 v U'.heap L ∧ FrameEnd s oo U' L ({ frames := 0, cells := 0, slots := 0, locals := 0 } : Room).cells ({ frames := 0, cells := 0, slots := 0, locals := 0 } : Room).slots
set_option maxRecDepth 65536 in
set_option maxHeartbeats 40000000 in
theorem rmF (l : Launch) (Z : State) (a0 : Array Value) (hw : ∀ d ∈ tables_1, d.before a0 Z = true) (ws : List Jvm.Cond) (rg : Addr) (kk : ClassId) (h0 : Heap) (n0 : Nat) (Z0 : n0 ≤ h0.size) (V_rg : Arv Z h0 rg kk (.object "com/example/penumbra/penumbra/order/SequenceLog$Entry") (1024 : Int32) [] .null) (g_rg : n0 ≤ rg) :
    MetFree l (⟨"java/util/Arrays", "fill", "([Ljava/lang/Object;Ljava/lang/Object;)V"⟩ : MethodName) (head1 (Jvm.Cond.code (⟨"java/util/Arrays", "fill", "([Ljava/lang/Object;Ljava/lang/Object;)V"⟩ : MethodName) jdk_65_method_117_code 4 none :: ws) ({ frames := 0, cells := 0, slots := 0, locals := 0 } : Room)) (fun a U => a = #[(.ref rg), .null] ∧ Z.Warmed39 U.vm ∧ U.heap = h0) (fun _ _ _ _ _ => True) (fun _ U oo U' => ∃ v L, oo = .returned v ∧ Q_rmF Z rg kk h0 n0 v U'.heap L ∧ FrameEnd U oo U' L ({ frames := 0, cells := 0, slots := 0, locals := 0 } : Room).cells ({ frames := 0, cells := 0, slots := 0, locals := 0 } : Room).slots) := by
  refine MetFree.of_bodySF (plainFor_of_name pn_java_util_Arrays) hisR ?_
  intro p e s m args below meth c s₁ Bd hml0 hP hK
  obtain ⟨rfl, hZ, hh⟩ := hP
  have hx := Bd.exec
  have hby := Bd.bytes
  have hml : c.maxLocals = 4 := hml0
  have hown : s.vm.findClass "java/util/Arrays" = some m.cls := findClass_of_methodNamed Bd.named
  have hnm := (name_of_methodNamed Bd.named Bd.method).1
  have X0 : Stand p l e ({ frames := 0, cells := 0, slots := 0, locals := 0 } : Room) s m #[(.ref rg), .null] below meth c s₁ [] 0 0 := Stand.of_body Bd
  have e0 : s₁.heap = h0 := by rw [← hh, Bd.state]; rfl
  have N0 := Fr.nil n0
  refine own_st (K := (K_rmF Z rg kk h0 n0 s)) (fun t' k' => castTop (ef_rmF m rg) k') ?_
  show own_Go p.tables e below _ (s₁.setTop (mkF m 0 #[.val (.ref rg), .val .null, .unset, .unset] []))
  refine own_st (fun _ k' => XS.iconst X0.here hx rfl (hb hby d6_0) k') ?_
  show own_Go p.tables e below _ (s₁.setTop (mkF m 1 #[.val (.ref rg), .val .null, .unset, .unset] [(.int (0 : Int32))]))
  refine own_st (fun _ k' => XS.istoreN X0.here hx rfl (hb hby d6_1) rfl (l' := #[.val (.ref rg), .val .null, .val (.int (0 : Int32)), .unset]) rfl k') ?_
  show own_Go p.tables e below _ (s₁.setTop (mkF m 2 #[.val (.ref rg), .val .null, .val (.int (0 : Int32)), .unset] []))
  refine own_st (fun _ k' => XS.aloadN X0.here hx rfl (hb hby d6_2) rfl rfl k') ?_
  show own_Go p.tables e below _ (s₁.setTop (mkF m 3 #[.val (.ref rg), .val .null, .val (.int (0 : Int32)), .unset] [(.ref rg)]))
  obtain ⟨cl1, Ar1, qc1, Sz1, Nn1, Hs1, Gs1⟩ := id V_rg
  refine own_st (fun t' k' => X0.arraylength hx (by rw [e0]; exact Ar1.1) (State.isArrayOf_alike hZ.alike Ar1.2.1) (g := (mkF m 3 #[.val (.ref rg), .val .null, .val (.int (0 : Int32)), .unset] [(.ref rg)])) rfl rfl (hb hby d6_3) t' k') ?_
  rw [len_of Sz1 Nn1]
  show own_Go p.tables e below _ (s₁.setTop (mkF m 4 #[.val (.ref rg), .val .null, .val (.int (0 : Int32)), .unset] [(.int (1024 : Int32))]))
  refine own_st (fun _ k' => XS.istoreN X0.here hx rfl (hb hby d6_4) rfl (l' := #[.val (.ref rg), .val .null, .val (.int (0 : Int32)), .val (.int (1024 : Int32))]) rfl k') ?_
  show own_Go p.tables e below _ (s₁.setTop (mkF m 5 #[.val (.ref rg), .val .null, .val (.int (0 : Int32)), .val (.int (1024 : Int32))] []))
  have loop : ∀ (k : Nat) (T : State) (h : Heap) (locs : List Loc) (i : Int32), i.toInt + k = 1024 → 0 ≤ i.toInt → Stand p l e ({ frames := 0, cells := 0, slots := 0, locals := 0 } : Room) s m #[(.ref rg), .null] below meth c T locs 0 0 → T.heap = h → Fr n0 locs → Keep h0 h [rg] → Arv Z h rg kk (.object "com/example/penumbra/penumbra/order/SequenceLog$Entry") (1024 : Int32) [] .null → own_Go p.tables e below (K_rmF Z rg kk h0 n0 s) (T.setTop (mkF m 5 #[.val (.ref rg), .val .null, .val (.int i), .val (.int (1024 : Int32))] [])) := by
    have e24 : (1024 : Int32).toInt = 1024 := by decide
    intro k
    induction k with
    | zero =>
      intro T h locs i hi hi0 X eT N K V
      have hlt : ¬ i < (1024 : Int32) := by rw [Int32.lt_iff_toInt_lt, e24]; omega
      refine own_st (fun _ k' => XS.iloadN X.here hx rfl (hb hby d6_5) rfl k') ?_
      show own_Go p.tables e below _ (T.setTop (mkF m 6 #[.val (.ref rg), .val .null, .val (.int i), .val (.int (1024 : Int32))] [(.int i)]))
      refine own_st (fun _ k' => XS.iloadN X.here hx rfl (hb hby d6_6) rfl k') ?_
      show own_Go p.tables e below _ (T.setTop (mkF m 7 #[.val (.ref rg), .val .null, .val (.int i), .val (.int (1024 : Int32))] [(.int (1024 : Int32)), (.int i)]))
      refine own_st (fun _ k' => XS.icmpYes X.here hx rfl (pc0 := 7) (pc' := 20) rfl (hb hby d6_7) rfl (flt hlt).2.1 (by decide) (by decide) k') ?_
      show own_Go p.tables e below _ (T.setTop (mkF m 20 #[.val (.ref rg), .val .null, .val (.int i), .val (.int (1024 : Int32))] []))
      exact own_retV X hx Bd.returns (hb hby d6_20) Bd.notSynchronized ⟨rfl, N, by rw [eT]; exact K, by rw [eT]; exact V⟩ (by decide) (by decide)
    | succ k ih =>
      intro T h locs i hi hi0 X eT N K V
      have hlt : i < (1024 : Int32) := by rw [Int32.lt_iff_toInt_lt, e24]; omega
      have hn0 : ¬ i < (0 : Int32) := by rw [Int32.lt_iff_toInt_lt]; exact Int.not_lt.mpr hi0
      refine own_st (fun _ k' => XS.iloadN X.here hx rfl (hb hby d6_5) rfl k') ?_
      show own_Go p.tables e below _ (T.setTop (mkF m 6 #[.val (.ref rg), .val .null, .val (.int i), .val (.int (1024 : Int32))] [(.int i)]))
      refine own_st (fun _ k' => XS.iloadN X.here hx rfl (hb hby d6_6) rfl k') ?_
      show own_Go p.tables e below _ (T.setTop (mkF m 7 #[.val (.ref rg), .val .null, .val (.int i), .val (.int (1024 : Int32))] [(.int (1024 : Int32)), (.int i)]))
      refine own_st (fun _ k' => XS.icmpNo X.here hx rfl (hb hby d6_7) rfl (tlt hlt).2.1 k') ?_
      show own_Go p.tables e below _ (T.setTop (mkF m 10 #[.val (.ref rg), .val .null, .val (.int i), .val (.int (1024 : Int32))] []))
      refine own_st (fun _ k' => XS.aloadN X.here hx rfl (hb hby d6_10) rfl rfl k') ?_
      show own_Go p.tables e below _ (T.setTop (mkF m 11 #[.val (.ref rg), .val .null, .val (.int i), .val (.int (1024 : Int32))] [(.ref rg)]))
      refine own_st (fun _ k' => XS.iloadN X.here hx rfl (hb hby d6_11) rfl k') ?_
      show own_Go p.tables e below _ (T.setTop (mkF m 12 #[.val (.ref rg), .val .null, .val (.int i), .val (.int (1024 : Int32))] [(.int i), (.ref rg)]))
      refine own_st (fun _ k' => XS.aloadN X.here hx rfl (hb hby d6_12) rfl rfl k') ?_
      show own_Go p.tables e below _ (T.setTop (mkF m 13 #[.val (.ref rg), .val .null, .val (.int i), .val (.int (1024 : Int32))] [.null, (.int i), (.ref rg)]))
      have V0 := V
      obtain ⟨cl, Ar, qc, Sz, Nn, Hs, Gs⟩ := V
      have hin : ¬ (i < 0 ∨ cl.slots.size ≤ i.toNatClampNeg) := inb_of Sz ⟨hn0, hlt⟩
      obtain ⟨T2, h2, X2, e2, W2, st2⟩ := stR X hx hZ eT Ar (j := i) hin rfl (Or.inl rfl) (g := (mkF m 13 #[.val (.ref rg), .val .null, .val (.int i), .val (.int (1024 : Int32))] [.null, (.int i), (.ref rg)])) rfl rfl (hb hby d6_13)
      have N2 := Fr.snoc X2 N g_rg
      have K3 : Keep h0 h2 [rg] := K.wr W2 (Or.inl (List.mem_of_getElem? (i := 0) rfl))
      have V2 := own_nul rfl V0 W2
      refine own_st st2 ?_
      show own_Go p.tables e below _ (T2.setTop (mkF m 14 #[.val (.ref rg), .val .null, .val (.int i), .val (.int (1024 : Int32))] []))
      refine own_st (fun _ k' => XS.iinc X2.here hx rfl (hb hby d6_14) rfl (l' := #[.val (.ref rg), .val .null, .val (.int (i + (1 : Int32))), .val (.int (1024 : Int32))]) rfl k') ?_
      show own_Go p.tables e below _ (T2.setTop (mkF m 17 #[.val (.ref rg), .val .null, .val (.int (i + (1 : Int32))), .val (.int (1024 : Int32))] []))
      refine own_st (fun _ k' => XS.goto X2.here hx rfl (pc0 := 17) (pc' := 5) rfl (hb hby d6_17) (by decide) (by decide) k') ?_
      show own_Go p.tables e below _ (T2.setTop (mkF m 5 #[.val (.ref rg), .val .null, .val (.int (i + (1 : Int32))), .val (.int (1024 : Int32))] []))
      have hs : (i + (1 : Int32)).toInt = i.toInt + 1 := by
        have q1 := c_iadd i 1
        have q2 := rng32 (i + 1)
        have q3 : (1 : Int32).toInt = 1 := by decide
        have q4 := Int32.lt_iff_toInt_lt.mp hlt
        omega
      exact ih T2 h2 _ (i + (1 : Int32)) (by omega) (by omega) X2 e2 N2 K3 V2
  exact loop 1024 _ _ _ _ (by decide) (by decide) X0 e0 N0 (Keep.refl h0 [rg]) V_rg

theorem d5_0 : decode prog_129_method_4_code 0 = .ok (.aload_n 0, 1) := by decide +kernel
theorem d5_1 : decode prog_129_method_4_code 1 = .ok (.getfield 9, 3) := by decide +kernel
theorem d5_4 : decode prog_129_method_4_code 4 = .ok (.aconst_null, 1) := by decide +kernel
theorem d5_5 : decode prog_129_method_4_code 5 = .ok (.invokestatic 23, 3) := by decide +kernel
theorem d5_8 : decode prog_129_method_4_code 8 = .ok (.aload_n 0, 1) := by decide +kernel
theorem d5_9 : decode prog_129_method_4_code 9 = .ok (.iconst 0, 1) := by decide +kernel
theorem d5_10 : decode prog_129_method_4_code 10 = .ok (.putfield 29, 3) := by decide +kernel
theorem d5_13 : decode prog_129_method_4_code 13 = .ok (.aload_n 0, 1) := by decide +kernel
theorem d5_14 : decode prog_129_method_4_code 14 = .ok (.iconst 0, 1) := by decide +kernel
theorem d5_15 : decode prog_129_method_4_code 15 = .ok (.putfield 19, 3) := by decide +kernel
theorem d5_18 : decode prog_129_method_4_code 18 = .ok (.aload_n 0, 1) := by decide +kernel
theorem d5_19 : decode prog_129_method_4_code 19 = .ok (.lload_n 1, 1) := by decide +kernel
theorem d5_20 : decode prog_129_method_4_code 20 = .ok (.lconst 1, 1) := by decide +kernel
theorem d5_21 : decode prog_129_method_4_code 21 = .ok (.ladd, 1) := by decide +kernel
theorem d5_22 : decode prog_129_method_4_code 22 = .ok (.putfield 15, 3) := by decide +kernel
theorem d5_25 : decode prog_129_method_4_code 25 = .ok (.return_, 1) := by decide +kernel
theorem pd___Ljava_lang_Object_Ljava_lang_Object__V : parseMethodDescriptor "([Ljava/lang/Object;Ljava/lang/Object;)V" = some ⟨[(.array (.object "java/lang/Object")), (.object "java/lang/Object")], none⟩ := by decide +kernel
theorem ef_rmA (m : MethodId) (x0 : Addr) (x1 : Int64) : entryFrame m #[(.ref x0), (.long x1)] 3 = mkF m 0 #[.val (.ref x0), .val (.long x1), .second] [] := by first | (simp [entryFrame, mkF, argsToLocals, Value.category]; done) | rfl
def Q_rmA (Z : State) (o : Addr) (b : Int64) (rg : Addr) (kk : ClassId) (h0 : Heap) (n0 : Nat) (v : Option Value) (h : Heap) (L : List Loc) : Prop := v = none ∧ Fr n0 L ∧ Keep h0 h [o, rg] ∧ Exa Z h o "com/example/penumbra/penumbra/order/SequenceLog" ∧ Fld Z h o "com/example/penumbra/penumbra/order/SequenceLog" "ring" "[Lcom/example/penumbra/penumbra/order/SequenceLog$Entry;" (.ref rg) ∧ Fld Z h o "com/example/penumbra/penumbra/order/SequenceLog" "first" "J" (.long (b + (1 : Int64))) ∧ Fld Z h o "com/example/penumbra/penumbra/order/SequenceLog" "head" "I" (.int (0 : Int32)) ∧ Fld Z h o "com/example/penumbra/penumbra/order/SequenceLog" "size" "I" (.int (0 : Int32)) ∧ Arv Z h rg kk (.object "com/example/penumbra/penumbra/order/SequenceLog$Entry") (1024 : Int32) [.null, .null, .null] .null
def K_rmA (Z : State) (o : Addr) (b : Int64) (rg : Addr) (kk : ClassId) (h0 : Heap) (n0 : Nat) (s : State) : Outcome → State → Prop := fun oo U' => ∃ v L, oo = .returned v ∧ Q_rmA Z o b rg kk h0 n0 v U'.heap L ∧ FrameEnd s oo U' L ({ frames := 1, cells := 0, slots := 0, locals := 15 } : Room).cells ({ frames := 1, cells := 0, slots := 0, locals := 15 } : Room).slots
set_option maxRecDepth 65536 in
set_option maxHeartbeats 40000000 in
theorem rmA (l : Launch) (Z : State) (a0 : Array Value) (hw : ∀ d ∈ tables_1, d.before a0 Z = true) (ws : List Jvm.Cond) (o : Addr) (b : Int64) (rg : Addr) (kk : ClassId) (h0 : Heap) (n0 : Nat) (Z0 : n0 ≤ h0.size) (E_o : Exa Z h0 o "com/example/penumbra/penumbra/order/SequenceLog") (F_ring : Fld Z h0 o "com/example/penumbra/penumbra/order/SequenceLog" "ring" "[Lcom/example/penumbra/penumbra/order/SequenceLog$Entry;" (.ref rg)) (F_first : Fld Z h0 o "com/example/penumbra/penumbra/order/SequenceLog" "first" "J" (.long (1 : Int64))) (F_head : Fld Z h0 o "com/example/penumbra/penumbra/order/SequenceLog" "head" "I" (.int (0 : Int32))) (F_size : Fld Z h0 o "com/example/penumbra/penumbra/order/SequenceLog" "size" "I" (.int (0 : Int32))) (V_rg : Arv Z h0 rg kk (.object "com/example/penumbra/penumbra/order/SequenceLog$Entry") (1024 : Int32) [] .null) (OV : Ovr Z kk "com/example/penumbra/penumbra/order/SequenceLog$Entry") (ne_o_rg : o ≠ rg) (g_o : n0 ≤ o) (g_rg : n0 ≤ rg) :
    MetFree l (⟨"com/example/penumbra/penumbra/order/SequenceLog", "restartAfter", "(J)V"⟩ : MethodName) (head1 (Jvm.Cond.code (⟨"com/example/penumbra/penumbra/order/SequenceLog", "restartAfter", "(J)V"⟩ : MethodName) prog_129_method_4_code 3 none :: ws) ({ frames := 1, cells := 0, slots := 0, locals := 15 } : Room)) (fun a U => a = #[(.ref o), (.long b)] ∧ Z.Warmed39 U.vm ∧ U.heap = h0) (fun _ _ _ _ _ => True) (fun _ U oo U' => ∃ v L, oo = .returned v ∧ Q_rmA Z o b rg kk h0 n0 v U'.heap L ∧ FrameEnd U oo U' L ({ frames := 1, cells := 0, slots := 0, locals := 15 } : Room).cells ({ frames := 1, cells := 0, slots := 0, locals := 15 } : Room).slots) := by
  refine MetFree.of_bodySF (plainFor_of_name pn_com_example_penumbra_penumbra_order_SequenceLog) hisR ?_
  intro p e s m args below meth c s₁ Bd hml0 hP hK
  obtain ⟨rfl, hZ, hh⟩ := hP
  have hx := Bd.exec
  have hby := Bd.bytes
  have hml : c.maxLocals = 3 := hml0
  have hown : s.vm.findClass "com/example/penumbra/penumbra/order/SequenceLog" = some m.cls := findClass_of_methodNamed Bd.named
  have hnm := (name_of_methodNamed Bd.named Bd.method).1
  have X0 : Stand p l e ({ frames := 1, cells := 0, slots := 0, locals := 15 } : Room) s m #[(.ref o), (.long b)] below meth c s₁ [] 0 0 := Stand.of_body Bd
  have e0 : s₁.heap = h0 := by rw [← hh, Bd.state]; rfl
  have N0 := Fr.nil n0
  refine own_st (K := (K_rmA Z o b rg kk h0 n0 s)) (fun t' k' => castTop (ef_rmA m o b) k') ?_
  show own_Go p.tables e below _ (s₁.setTop (mkF m 0 #[.val (.ref o), .val (.long b), .second] []))
  refine own_st (fun _ k' => XS.aloadN X0.here hx rfl (hb hby d5_0) rfl rfl k') ?_
  show own_Go p.tables e below _ (s₁.setTop (mkF m 1 #[.val (.ref o), .val (.long b), .second] [(.ref o)]))
  obtain ⟨T1, X1, e1, st1⟩ := getF X0 hx hZ hown (host := "") (Or.inl (hw _ (List.mem_of_getElem? (i := 35) rfl))) Via.refl e0 F_ring (g := (mkF m 1 #[.val (.ref o), .val (.long b), .second] [(.ref o)])) rfl rfl (hb hby d5_1)
  refine own_st st1 ?_
  show own_Go p.tables e below _ (T1.setTop (mkF m 4 #[.val (.ref o), .val (.long b), .second] [(.ref rg)]))
  refine own_st (fun _ k' => XS.aconstNull X1.here hx rfl (hb hby d5_4) k') ?_
  show own_Go p.tables e below _ (T1.setTop (mkF m 5 #[.val (.ref o), .val (.long b), .second] [.null, (.ref rg)]))
  obtain ⟨_, _, ⟨T2, L2, k2, n2⟩, -, X2, ⟨Lc2, hQ2, l2, y2, z2⟩, st2⟩ := Jvm.LawKit.callS X1 hx (y := (⟨"java/util/Arrays", "fill", "([Ljava/lang/Object;Ljava/lang/Object;)V"⟩ : MethodName)) hown (mvT hZ (hw _ (List.mem_of_getElem? (i := 44) rfl))) (mvT hZ (hw _ (List.mem_of_getElem? (i := 45) rfl))) (mvT hZ (hw _ (List.mem_of_getElem? (i := 46) rfl))) (mvT hZ (hw _ (List.mem_of_getElem? (i := 47) rfl))) (by decide) (backOf (W := 0) (rmF l Z a0 hw [] rg kk h0 n0 Z0 V_rg g_rg) hZ (hw _ (List.mem_of_getElem? (i := 47) rfl)) (hw _ (List.mem_of_getElem? (i := 46) rfl)) (by decide) (by decide)) (g := (mkF m 5 #[.val (.ref o), .val (.long b), .second] [.null, (.ref rg)])) rfl (by rw [hml]; rfl) (argsL := [(.ref rg), .null]) (rest := []) (lenOf pd___Ljava_lang_Object_Ljava_lang_Object__V rfl) rfl (by show 2 * 0 + _ ≤ _; exact Nat.le_of_eq rfl) (hb hby d5_5) (fun _ _ => ⟨rfl, e1, (by decide : 0 + 0 ≤ _), (by decide : 0 + 0 ≤ _)⟩)
  dsimp only [Pt.U, Pt.locs, Pt.cells, Pt.slots] at X2 l2 y2 z2 st2 hQ2
  subst l2 y2 z2
  obtain ⟨rfl, Nq2, Kc2, V2⟩ := hQ2
  have N2 := Fr.app N0 Nq2
  have E_o_x3 := E_o.keep Kc2
  have F_ring_x4 := F_ring.keep Kc2 (ninS ne_o_rg nin0)
  have F_first_x5 := F_first.keep Kc2 (ninS ne_o_rg nin0)
  have F_head_x6 := F_head.keep Kc2 (ninS ne_o_rg nin0)
  have F_size_x7 := F_size.keep Kc2 (ninS ne_o_rg nin0)
  have Zc2 : n0 ≤ T2.heap.size := Nat.le_trans Z0 Kc2.1
  have Kk2 : Keep h0 T2.heap [o, rg] := (Keep.refl h0 [o, rg]).trans Kc2 (allS (Or.inl (List.mem_of_getElem? (i := 1) rfl)) all0)
  have Vp2 : Arv Z T2.heap rg kk (.object "com/example/penumbra/penumbra/order/SequenceLog$Entry") (1024 : Int32) [.null, .null, .null] .null := V2.pad (pad_rep [] .null 3)
  refine own_st st2 ?_
  show own_Go p.tables e below _ (T2.setTop (mkF m 8 #[.val (.ref o), .val (.long b), .second] []))
  refine own_st (fun _ k' => XS.aloadN X2.here hx rfl (hb hby d5_8) rfl rfl k') ?_
  show own_Go p.tables e below _ (T2.setTop (mkF m 9 #[.val (.ref o), .val (.long b), .second] [(.ref o)]))
  refine own_st (fun _ k' => XS.iconst X2.here hx rfl (hb hby d5_9) k') ?_
  show own_Go p.tables e below _ (T2.setTop (mkF m 10 #[.val (.ref o), .val (.long b), .second] [(.int (0 : Int32)), (.ref o)]))
  obtain ⟨T9, h9, X9, e9, W9, st9⟩ := putF X2 hx hZ hown (host := "") (Or.inl (hw _ (List.mem_of_getElem? (i := 48) rfl))) Via.refl rfl F_head_x6 E_o_x3 (Or.inl (hw _ (List.mem_of_getElem? (i := 49) rfl))) (hw _ (List.mem_of_getElem? (i := 27) rfl)) (ty := .int) (by decide) rfl rfl (g := (mkF m 10 #[.val (.ref o), .val (.long b), .second] [(.int (0 : Int32)), (.ref o)])) rfl rfl (hb hby d5_10)
  have N9 := Fr.snoc X9 N2 g_o
  have E_o_x10 := E_o_x3.wr W9
  have F_ring_x11 := F_ring_x4.other W9 (Or.inr (slot_ne (Or.inl (hw _ (List.mem_of_getElem? (i := 36) rfl))) (Or.inl (hw _ (List.mem_of_getElem? (i := 49) rfl))) (by decide) (t := (.array (.object "com/example/penumbra/penumbra/order/SequenceLog$Entry"))) (t' := .int) (by decide) (by decide)))
  have F_first_x12 := F_first_x5.other W9 (Or.inr (slot_ne (Or.inl (hw _ (List.mem_of_getElem? (i := 38) rfl))) (Or.inl (hw _ (List.mem_of_getElem? (i := 49) rfl))) (by decide) (t := .long) (t' := .int) (by decide) (by decide)))
  have F_head_x13 := F_head_x6.same W9
  have F_size_x14 := F_size_x7.other W9 (Or.inr (slot_ne (Or.inl (hw _ (List.mem_of_getElem? (i := 51) rfl))) (Or.inl (hw _ (List.mem_of_getElem? (i := 49) rfl))) (by decide) (t := .int) (t' := .int) (by decide) (by decide)))
  have Vp2_x15 := Vp2.other W9 (Ne.symm ne_o_rg)
  have K16 : Keep h0 h9 [o, rg] := Kk2.wr W9 (Or.inl (List.mem_of_getElem? (i := 0) rfl))
  refine own_st st9 ?_
  show own_Go p.tables e below _ (T9.setTop (mkF m 13 #[.val (.ref o), .val (.long b), .second] []))
  refine own_st (fun _ k' => XS.aloadN X9.here hx rfl (hb hby d5_13) rfl rfl k') ?_
  show own_Go p.tables e below _ (T9.setTop (mkF m 14 #[.val (.ref o), .val (.long b), .second] [(.ref o)]))
  refine own_st (fun _ k' => XS.iconst X9.here hx rfl (hb hby d5_14) k') ?_
  show own_Go p.tables e below _ (T9.setTop (mkF m 15 #[.val (.ref o), .val (.long b), .second] [(.int (0 : Int32)), (.ref o)]))
  obtain ⟨T17, h17, X17, e17, W17, st17⟩ := putF X9 hx hZ hown (host := "") (Or.inl (hw _ (List.mem_of_getElem? (i := 50) rfl))) Via.refl e9 F_size_x14 E_o_x10 (Or.inl (hw _ (List.mem_of_getElem? (i := 51) rfl))) (hw _ (List.mem_of_getElem? (i := 27) rfl)) (ty := .int) (by decide) rfl rfl (g := (mkF m 15 #[.val (.ref o), .val (.long b), .second] [(.int (0 : Int32)), (.ref o)])) rfl rfl (hb hby d5_15)
  have N17 := Fr.snoc X17 N9 g_o
  have E_o_x18 := E_o_x10.wr W17
  have F_ring_x19 := F_ring_x11.other W17 (Or.inr (slot_ne (Or.inl (hw _ (List.mem_of_getElem? (i := 36) rfl))) (Or.inl (hw _ (List.mem_of_getElem? (i := 51) rfl))) (by decide) (t := (.array (.object "com/example/penumbra/penumbra/order/SequenceLog$Entry"))) (t' := .int) (by decide) (by decide)))
  have F_first_x20 := F_first_x12.other W17 (Or.inr (slot_ne (Or.inl (hw _ (List.mem_of_getElem? (i := 38) rfl))) (Or.inl (hw _ (List.mem_of_getElem? (i := 51) rfl))) (by decide) (t := .long) (t' := .int) (by decide) (by decide)))
  have F_head_x21 := F_head_x13.other W17 (Or.inr (slot_ne (Or.inl (hw _ (List.mem_of_getElem? (i := 49) rfl))) (Or.inl (hw _ (List.mem_of_getElem? (i := 51) rfl))) (by decide) (t := .int) (t' := .int) (by decide) (by decide)))
  have F_size_x22 := F_size_x14.same W17
  have Vp2_x23 := Vp2_x15.other W17 (Ne.symm ne_o_rg)
  have K24 : Keep h0 h17 [o, rg] := K16.wr W17 (Or.inl (List.mem_of_getElem? (i := 0) rfl))
  refine own_st st17 ?_
  show own_Go p.tables e below _ (T17.setTop (mkF m 18 #[.val (.ref o), .val (.long b), .second] []))
  refine own_st (fun _ k' => XS.aloadN X17.here hx rfl (hb hby d5_18) rfl rfl k') ?_
  show own_Go p.tables e below _ (T17.setTop (mkF m 19 #[.val (.ref o), .val (.long b), .second] [(.ref o)]))
  refine own_st (fun _ k' => XS.lloadN X17.here hx rfl (hb hby d5_19) rfl k') ?_
  show own_Go p.tables e below _ (T17.setTop (mkF m 20 #[.val (.ref o), .val (.long b), .second] [(.long b), (.ref o)]))
  refine own_st (fun _ k' => XS.lconst X17.here hx rfl (hb hby d5_20) k') ?_
  show own_Go p.tables e below _ (T17.setTop (mkF m 21 #[.val (.ref o), .val (.long b), .second] [(.long (1 : Int64)), (.long b), (.ref o)]))
  refine own_st (fun _ k' => XS.ladd X17.here hx rfl (hb hby d5_21) rfl k') ?_
  show own_Go p.tables e below _ (T17.setTop (mkF m 22 #[.val (.ref o), .val (.long b), .second] [(.long (b + (1 : Int64))), (.ref o)]))
  obtain ⟨T25, h25, X25, e25, W25, st25⟩ := putF X17 hx hZ hown (host := "") (Or.inl (hw _ (List.mem_of_getElem? (i := 37) rfl))) Via.refl e17 F_first_x20 E_o_x18 (Or.inl (hw _ (List.mem_of_getElem? (i := 38) rfl))) (hw _ (List.mem_of_getElem? (i := 27) rfl)) (ty := .long) (by decide) rfl rfl (g := (mkF m 22 #[.val (.ref o), .val (.long b), .second] [(.long (b + (1 : Int64))), (.ref o)])) rfl rfl (hb hby d5_22)
  have N25 := Fr.snoc X25 N17 g_o
  have E_o_x26 := E_o_x18.wr W25
  have F_ring_x27 := F_ring_x19.other W25 (Or.inr (slot_ne (Or.inl (hw _ (List.mem_of_getElem? (i := 36) rfl))) (Or.inl (hw _ (List.mem_of_getElem? (i := 38) rfl))) (by decide) (t := (.array (.object "com/example/penumbra/penumbra/order/SequenceLog$Entry"))) (t' := .long) (by decide) (by decide)))
  have F_first_x28 := F_first_x20.same W25
  have F_head_x29 := F_head_x21.other W25 (Or.inr (slot_ne (Or.inl (hw _ (List.mem_of_getElem? (i := 49) rfl))) (Or.inl (hw _ (List.mem_of_getElem? (i := 38) rfl))) (by decide) (t := .int) (t' := .long) (by decide) (by decide)))
  have F_size_x30 := F_size_x22.other W25 (Or.inr (slot_ne (Or.inl (hw _ (List.mem_of_getElem? (i := 51) rfl))) (Or.inl (hw _ (List.mem_of_getElem? (i := 38) rfl))) (by decide) (t := .int) (t' := .long) (by decide) (by decide)))
  have Vp2_x31 := Vp2_x23.other W25 (Ne.symm ne_o_rg)
  have K32 : Keep h0 h25 [o, rg] := K24.wr W25 (Or.inl (List.mem_of_getElem? (i := 0) rfl))
  refine own_st st25 ?_
  show own_Go p.tables e below _ (T25.setTop (mkF m 25 #[.val (.ref o), .val (.long b), .second] []))
  exact own_retV X25 hx Bd.returns (hb hby d5_25) Bd.notSynchronized ⟨rfl, N25, by rw [e25]; exact K32, by rw [e25]; exact E_o_x26, by rw [e25]; exact F_ring_x27, by rw [e25]; exact F_first_x28, by rw [e25]; exact F_head_x29, by rw [e25]; exact F_size_x30, by rw [e25]; exact Vp2_x31⟩ (by decide) (by decide)

theorem d8_0 : decode prog_130_method_5_code 0 = .ok (.aload_n 0, 1) := by decide +kernel
theorem d8_1 : decode prog_130_method_5_code 1 = .ok (.getfield 7, 3) := by decide +kernel
theorem d8_4 : decode prog_130_method_5_code 4 = .ok (.lreturn, 1) := by decide +kernel
theorem ef_rmNu (m : MethodId) (x0 : Addr) : entryFrame m #[(.ref x0)] 1 = mkF m 0 #[.val (.ref x0)] [] := by first | (simp [entryFrame, mkF, argsToLocals, Value.category]; done) | rfl
def Q_rmNu (Z : State) (o : Addr) (nu : Int64) (h0 : Heap) (n0 : Nat) (v : Option Value) (h : Heap) (L : List Loc) : Prop := v = some (.long nu) ∧ Fr n0 L ∧ h = h0
def K_rmNu (Z : State) (o : Addr) (nu : Int64) (h0 : Heap) (n0 : Nat) (s : State) : Outcome → State → Prop := fun oo U' => ∃ v L, oo = .returned v ∧ Q_rmNu Z o nu h0 n0 v U'.heap L ∧ FrameEnd s oo U' L ({ frames := 0, cells := 0, slots := 0, locals := 0 } : Room).cells ({ frames := 0, cells := 0, slots := 0, locals := 0 } : Room).slots
set_option maxRecDepth 65536 in
set_option maxHeartbeats 40000000 in
theorem rmNu (l : Launch) (Z : State) (a0 : Array Value) (hw : ∀ d ∈ tables_1, d.before a0 Z = true) (ws : List Jvm.Cond) (o : Addr) (nu : Int64) (h0 : Heap) (n0 : Nat) (Z0 : n0 ≤ h0.size) (F_n : Fld Z h0 o "com/example/penumbra/penumbra/order/SequenceLog$Entry" "number" "J" (.long nu)) :
    MetFree l (⟨"com/example/penumbra/penumbra/order/SequenceLog$Entry", "number", "()J"⟩ : MethodName) (head1 (Jvm.Cond.code (⟨"com/example/penumbra/penumbra/order/SequenceLog$Entry", "number", "()J"⟩ : MethodName) prog_130_method_5_code 1 (some .long) :: ws) ({ frames := 0, cells := 0, slots := 0, locals := 0 } : Room)) (fun a U => a = #[(.ref o)] ∧ Z.Warmed39 U.vm ∧ U.heap = h0) (fun _ _ _ _ _ => True) (fun _ U oo U' => ∃ v L, oo = .returned v ∧ Q_rmNu Z o nu h0 n0 v U'.heap L ∧ FrameEnd U oo U' L ({ frames := 0, cells := 0, slots := 0, locals := 0 } : Room).cells ({ frames := 0, cells := 0, slots := 0, locals := 0 } : Room).slots) := by
  refine MetFree.of_bodySF (plainFor_of_name pn_com_example_penumbra_penumbra_order_SequenceLog_Entry) hisR ?_
  intro p e s m args below meth c s₁ Bd hml0 hP hK
  obtain ⟨rfl, hZ, hh⟩ := hP
  have hx := Bd.exec
  have hby := Bd.bytes
  have hml : c.maxLocals = 1 := hml0
  have hown : s.vm.findClass "com/example/penumbra/penumbra/order/SequenceLog$Entry" = some m.cls := findClass_of_methodNamed Bd.named
  have hnm := (name_of_methodNamed Bd.named Bd.method).1
  have X0 : Stand p l e ({ frames := 0, cells := 0, slots := 0, locals := 0 } : Room) s m #[(.ref o)] below meth c s₁ [] 0 0 := Stand.of_body Bd
  have e0 : s₁.heap = h0 := by rw [← hh, Bd.state]; rfl
  have N0 := Fr.nil n0
  refine own_st (K := (K_rmNu Z o nu h0 n0 s)) (fun t' k' => castTop (ef_rmNu m o) k') ?_
  show own_Go p.tables e below _ (s₁.setTop (mkF m 0 #[.val (.ref o)] []))
  refine own_st (fun _ k' => XS.aloadN X0.here hx rfl (hb hby d8_0) rfl rfl k') ?_
  show own_Go p.tables e below _ (s₁.setTop (mkF m 1 #[.val (.ref o)] [(.ref o)]))
  obtain ⟨T1, X1, e1, st1⟩ := getF X0 hx hZ hown (host := "") (Or.inl (hw _ (List.mem_of_getElem? (i := 17) rfl))) Via.refl e0 F_n (g := (mkF m 1 #[.val (.ref o)] [(.ref o)])) rfl rfl (hb hby d8_1)
  refine own_st st1 ?_
  show own_Go p.tables e below _ (T1.setTop (mkF m 4 #[.val (.ref o)] [(.long nu)]))
  exact own_retJ X1 hx Bd.returns (hb hby d8_4) Bd.notSynchronized ⟨rfl, N0, e1⟩ (by decide) (by decide)

theorem d9_0 : decode prog_129_method_2_code 0 = .ok (.aload_n 0, 1) := by decide +kernel
theorem d9_1 : decode prog_129_method_2_code 1 = .ok (.getfield 15, 3) := by decide +kernel
theorem d9_4 : decode prog_129_method_2_code 4 = .ok (.aload_n 0, 1) := by decide +kernel
theorem d9_5 : decode prog_129_method_2_code 5 = .ok (.getfield 19, 3) := by decide +kernel
theorem d9_8 : decode prog_129_method_2_code 8 = .ok (.i2l, 1) := by decide +kernel
theorem d9_9 : decode prog_129_method_2_code 9 = .ok (.ladd, 1) := by decide +kernel
theorem d9_10 : decode prog_129_method_2_code 10 = .ok (.lconst 1, 1) := by decide +kernel
theorem d9_11 : decode prog_129_method_2_code 11 = .ok (.lsub, 1) := by decide +kernel
theorem d9_12 : decode prog_129_method_2_code 12 = .ok (.lreturn, 1) := by decide +kernel
theorem ef_rmLa (m : MethodId) (x0 : Addr) : entryFrame m #[(.ref x0)] 1 = mkF m 0 #[.val (.ref x0)] [] := by first | (simp [entryFrame, mkF, argsToLocals, Value.category]; done) | rfl
def Q_rmLa (Z : State) (o : Addr) (F : Int64) (S : Int32) (h0 : Heap) (n0 : Nat) (v : Option Value) (h : Heap) (L : List Loc) : Prop := v = some (.long ((F + (S.toInt64)) - (1 : Int64))) ∧ Fr n0 L ∧ h = h0
def K_rmLa (Z : State) (o : Addr) (F : Int64) (S : Int32) (h0 : Heap) (n0 : Nat) (s : State) : Outcome → State → Prop := fun oo U' => ∃ v L, oo = .returned v ∧ Q_rmLa Z o F S h0 n0 v U'.heap L ∧ FrameEnd s oo U' L ({ frames := 0, cells := 0, slots := 0, locals := 0 } : Room).cells ({ frames := 0, cells := 0, slots := 0, locals := 0 } : Room).slots
set_option maxRecDepth 65536 in
set_option maxHeartbeats 40000000 in
theorem rmLa (l : Launch) (Z : State) (a0 : Array Value) (hw : ∀ d ∈ tables_1, d.before a0 Z = true) (ws : List Jvm.Cond) (o : Addr) (F : Int64) (S : Int32) (h0 : Heap) (n0 : Nat) (Z0 : n0 ≤ h0.size) (F_first : Fld Z h0 o "com/example/penumbra/penumbra/order/SequenceLog" "first" "J" (.long F)) (F_size : Fld Z h0 o "com/example/penumbra/penumbra/order/SequenceLog" "size" "I" (.int S)) :
    MetFree l (⟨"com/example/penumbra/penumbra/order/SequenceLog", "last", "()J"⟩ : MethodName) (head1 (Jvm.Cond.code (⟨"com/example/penumbra/penumbra/order/SequenceLog", "last", "()J"⟩ : MethodName) prog_129_method_2_code 1 (some .long) :: ws) ({ frames := 0, cells := 0, slots := 0, locals := 0 } : Room)) (fun a U => a = #[(.ref o)] ∧ Z.Warmed39 U.vm ∧ U.heap = h0) (fun _ _ _ _ _ => True) (fun _ U oo U' => ∃ v L, oo = .returned v ∧ Q_rmLa Z o F S h0 n0 v U'.heap L ∧ FrameEnd U oo U' L ({ frames := 0, cells := 0, slots := 0, locals := 0 } : Room).cells ({ frames := 0, cells := 0, slots := 0, locals := 0 } : Room).slots) := by
  refine MetFree.of_bodySF (plainFor_of_name pn_com_example_penumbra_penumbra_order_SequenceLog) hisR ?_
  intro p e s m args below meth c s₁ Bd hml0 hP hK
  obtain ⟨rfl, hZ, hh⟩ := hP
  have hx := Bd.exec
  have hby := Bd.bytes
  have hml : c.maxLocals = 1 := hml0
  have hown : s.vm.findClass "com/example/penumbra/penumbra/order/SequenceLog" = some m.cls := findClass_of_methodNamed Bd.named
  have hnm := (name_of_methodNamed Bd.named Bd.method).1
  have X0 : Stand p l e ({ frames := 0, cells := 0, slots := 0, locals := 0 } : Room) s m #[(.ref o)] below meth c s₁ [] 0 0 := Stand.of_body Bd
  have e0 : s₁.heap = h0 := by rw [← hh, Bd.state]; rfl
  have N0 := Fr.nil n0
  refine own_st (K := (K_rmLa Z o F S h0 n0 s)) (fun t' k' => castTop (ef_rmLa m o) k') ?_
  show own_Go p.tables e below _ (s₁.setTop (mkF m 0 #[.val (.ref o)] []))
  refine own_st (fun _ k' => XS.aloadN X0.here hx rfl (hb hby d9_0) rfl rfl k') ?_
  show own_Go p.tables e below _ (s₁.setTop (mkF m 1 #[.val (.ref o)] [(.ref o)]))
  obtain ⟨T1, X1, e1, st1⟩ := getF X0 hx hZ hown (host := "") (Or.inl (hw _ (List.mem_of_getElem? (i := 37) rfl))) Via.refl e0 F_first (g := (mkF m 1 #[.val (.ref o)] [(.ref o)])) rfl rfl (hb hby d9_1)
  refine own_st st1 ?_
  show own_Go p.tables e below _ (T1.setTop (mkF m 4 #[.val (.ref o)] [(.long F)]))
  refine own_st (fun _ k' => XS.aloadN X1.here hx rfl (hb hby d9_4) rfl rfl k') ?_
  show own_Go p.tables e below _ (T1.setTop (mkF m 5 #[.val (.ref o)] [(.ref o), (.long F)]))
  obtain ⟨T2, X2, e2, st2⟩ := getF X1 hx hZ hown (host := "") (Or.inl (hw _ (List.mem_of_getElem? (i := 50) rfl))) Via.refl e1 F_size (g := (mkF m 5 #[.val (.ref o)] [(.ref o), (.long F)])) rfl rfl (hb hby d9_5)
  refine own_st st2 ?_
  show own_Go p.tables e below _ (T2.setTop (mkF m 8 #[.val (.ref o)] [(.int S), (.long F)]))
  refine own_st (fun _ k' => XS.i2l X2.here hx rfl (hb hby d9_8) rfl k') ?_
  show own_Go p.tables e below _ (T2.setTop (mkF m 9 #[.val (.ref o)] [(.long (S.toInt64)), (.long F)]))
  refine own_st (fun _ k' => XS.ladd X2.here hx rfl (hb hby d9_9) rfl k') ?_
  show own_Go p.tables e below _ (T2.setTop (mkF m 10 #[.val (.ref o)] [(.long (F + (S.toInt64)))]))
  refine own_st (fun _ k' => XS.lconst X2.here hx rfl (hb hby d9_10) k') ?_
  show own_Go p.tables e below _ (T2.setTop (mkF m 11 #[.val (.ref o)] [(.long (1 : Int64)), (.long (F + (S.toInt64)))]))
  refine own_st (fun _ k' => XS.lsub X2.here hx rfl (hb hby d9_11) rfl k') ?_
  show own_Go p.tables e below _ (T2.setTop (mkF m 12 #[.val (.ref o)] [(.long ((F + (S.toInt64)) - (1 : Int64)))]))
  exact own_retJ X2 hx Bd.returns (hb hby d9_12) Bd.notSynchronized ⟨rfl, N0, e2⟩ (by decide) (by decide)

theorem d11_0 : decode prog_129_method_3_code 0 = .ok (.aload_n 0, 1) := by decide +kernel
theorem d11_1 : decode prog_129_method_3_code 1 = .ok (.getfield 15, 3) := by decide +kernel
theorem d11_4 : decode prog_129_method_3_code 4 = .ok (.lreturn, 1) := by decide +kernel
theorem ef_rmFi (m : MethodId) (x0 : Addr) : entryFrame m #[(.ref x0)] 1 = mkF m 0 #[.val (.ref x0)] [] := by first | (simp [entryFrame, mkF, argsToLocals, Value.category]; done) | rfl
def Q_rmFi (Z : State) (o : Addr) (F : Int64) (h0 : Heap) (n0 : Nat) (v : Option Value) (h : Heap) (L : List Loc) : Prop := v = some (.long F) ∧ Fr n0 L ∧ h = h0
def K_rmFi (Z : State) (o : Addr) (F : Int64) (h0 : Heap) (n0 : Nat) (s : State) : Outcome → State → Prop := fun oo U' => ∃ v L, oo = .returned v ∧ Q_rmFi Z o F h0 n0 v U'.heap L ∧ FrameEnd s oo U' L ({ frames := 0, cells := 0, slots := 0, locals := 0 } : Room).cells ({ frames := 0, cells := 0, slots := 0, locals := 0 } : Room).slots
set_option maxRecDepth 65536 in
set_option maxHeartbeats 40000000 in
theorem rmFi (l : Launch) (Z : State) (a0 : Array Value) (hw : ∀ d ∈ tables_1, d.before a0 Z = true) (ws : List Jvm.Cond) (o : Addr) (F : Int64) (h0 : Heap) (n0 : Nat) (Z0 : n0 ≤ h0.size) (F_first : Fld Z h0 o "com/example/penumbra/penumbra/order/SequenceLog" "first" "J" (.long F)) :
    MetFree l (⟨"com/example/penumbra/penumbra/order/SequenceLog", "first", "()J"⟩ : MethodName) (head1 (Jvm.Cond.code (⟨"com/example/penumbra/penumbra/order/SequenceLog", "first", "()J"⟩ : MethodName) prog_129_method_3_code 1 (some .long) :: ws) ({ frames := 0, cells := 0, slots := 0, locals := 0 } : Room)) (fun a U => a = #[(.ref o)] ∧ Z.Warmed39 U.vm ∧ U.heap = h0) (fun _ _ _ _ _ => True) (fun _ U oo U' => ∃ v L, oo = .returned v ∧ Q_rmFi Z o F h0 n0 v U'.heap L ∧ FrameEnd U oo U' L ({ frames := 0, cells := 0, slots := 0, locals := 0 } : Room).cells ({ frames := 0, cells := 0, slots := 0, locals := 0 } : Room).slots) := by
  refine MetFree.of_bodySF (plainFor_of_name pn_com_example_penumbra_penumbra_order_SequenceLog) hisR ?_
  intro p e s m args below meth c s₁ Bd hml0 hP hK
  obtain ⟨rfl, hZ, hh⟩ := hP
  have hx := Bd.exec
  have hby := Bd.bytes
  have hml : c.maxLocals = 1 := hml0
  have hown : s.vm.findClass "com/example/penumbra/penumbra/order/SequenceLog" = some m.cls := findClass_of_methodNamed Bd.named
  have hnm := (name_of_methodNamed Bd.named Bd.method).1
  have X0 : Stand p l e ({ frames := 0, cells := 0, slots := 0, locals := 0 } : Room) s m #[(.ref o)] below meth c s₁ [] 0 0 := Stand.of_body Bd
  have e0 : s₁.heap = h0 := by rw [← hh, Bd.state]; rfl
  have N0 := Fr.nil n0
  refine own_st (K := (K_rmFi Z o F h0 n0 s)) (fun t' k' => castTop (ef_rmFi m o) k') ?_
  show own_Go p.tables e below _ (s₁.setTop (mkF m 0 #[.val (.ref o)] []))
  refine own_st (fun _ k' => XS.aloadN X0.here hx rfl (hb hby d11_0) rfl rfl k') ?_
  show own_Go p.tables e below _ (s₁.setTop (mkF m 1 #[.val (.ref o)] [(.ref o)]))
  obtain ⟨T1, X1, e1, st1⟩ := getF X0 hx hZ hown (host := "") (Or.inl (hw _ (List.mem_of_getElem? (i := 37) rfl))) Via.refl e0 F_first (g := (mkF m 1 #[.val (.ref o)] [(.ref o)])) rfl rfl (hb hby d11_1)
  refine own_st st1 ?_
  show own_Go p.tables e below _ (T1.setTop (mkF m 4 #[.val (.ref o)] [(.long F)]))
  exact own_retJ X1 hx Bd.returns (hb hby d11_4) Bd.notSynchronized ⟨rfl, N0, e1⟩ (by decide) (by decide)

theorem d7_0 : decode prog_129_method_5_code 0 = .ok (.aload_n 1, 1) := by decide +kernel
theorem d7_1 : decode prog_129_method_5_code 1 = .ok (.invokevirtual 32, 3) := by decide +kernel
theorem d7_4 : decode prog_129_method_5_code 4 = .ok (.aload_n 0, 1) := by decide +kernel
theorem d7_5 : decode prog_129_method_5_code 5 = .ok (.invokevirtual 36, 3) := by decide +kernel
theorem d7_8 : decode prog_129_method_5_code 8 = .ok (.lconst 1, 1) := by decide +kernel
theorem d7_9 : decode prog_129_method_5_code 9 = .ok (.ladd, 1) := by decide +kernel
theorem d7_10 : decode prog_129_method_5_code 10 = .ok (.lcmp, 1) := by decide +kernel
theorem d7_11 : decode prog_129_method_5_code 11 = .ok (.ifCond .eq 26, 3) := by decide +kernel
theorem d7_37 : decode prog_129_method_5_code 37 = .ok (.aload_n 0, 1) := by decide +kernel
theorem d7_38 : decode prog_129_method_5_code 38 = .ok (.getfield 19, 3) := by decide +kernel
theorem d7_41 : decode prog_129_method_5_code 41 = .ok (.aload_n 0, 1) := by decide +kernel
theorem d7_42 : decode prog_129_method_5_code 42 = .ok (.getfield 9, 3) := by decide +kernel
theorem d7_45 : decode prog_129_method_5_code 45 = .ok (.arraylength, 1) := by decide +kernel
theorem d7_46 : decode prog_129_method_5_code 46 = .ok (.if_icmp .ne 60, 3) := by decide +kernel
theorem d7_106 : decode prog_129_method_5_code 106 = .ok (.aload_n 0, 1) := by decide +kernel
theorem d7_107 : decode prog_129_method_5_code 107 = .ok (.getfield 9, 3) := by decide +kernel
theorem d7_110 : decode prog_129_method_5_code 110 = .ok (.aload_n 0, 1) := by decide +kernel
theorem d7_111 : decode prog_129_method_5_code 111 = .ok (.getfield 29, 3) := by decide +kernel
theorem d7_114 : decode prog_129_method_5_code 114 = .ok (.aload_n 0, 1) := by decide +kernel
theorem d7_115 : decode prog_129_method_5_code 115 = .ok (.getfield 19, 3) := by decide +kernel
theorem d7_118 : decode prog_129_method_5_code 118 = .ok (.iadd, 1) := by decide +kernel
theorem d7_119 : decode prog_129_method_5_code 119 = .ok (.aload_n 0, 1) := by decide +kernel
theorem d7_120 : decode prog_129_method_5_code 120 = .ok (.getfield 9, 3) := by decide +kernel
theorem d7_123 : decode prog_129_method_5_code 123 = .ok (.arraylength, 1) := by decide +kernel
theorem d7_124 : decode prog_129_method_5_code 124 = .ok (.irem, 1) := by decide +kernel
theorem d7_125 : decode prog_129_method_5_code 125 = .ok (.aload_n 1, 1) := by decide +kernel
theorem d7_126 : decode prog_129_method_5_code 126 = .ok (.aastore, 1) := by decide +kernel
theorem d7_127 : decode prog_129_method_5_code 127 = .ok (.aload_n 0, 1) := by decide +kernel
theorem d7_128 : decode prog_129_method_5_code 128 = .ok (.dup, 1) := by decide +kernel
theorem d7_129 : decode prog_129_method_5_code 129 = .ok (.getfield 19, 3) := by decide +kernel
theorem d7_132 : decode prog_129_method_5_code 132 = .ok (.iconst 1, 1) := by decide +kernel
theorem d7_133 : decode prog_129_method_5_code 133 = .ok (.iadd, 1) := by decide +kernel
theorem d7_134 : decode prog_129_method_5_code 134 = .ok (.putfield 19, 3) := by decide +kernel
theorem d7_137 : decode prog_129_method_5_code 137 = .ok (.return_, 1) := by decide +kernel
theorem pd___J : parseMethodDescriptor "()J" = some ⟨[], some .long⟩ := by decide +kernel
theorem ef_rmP0 (m : MethodId) (x0 : Addr) (x1 : Addr) : entryFrame m #[(.ref x0), (.ref x1)] 4 = mkF m 0 #[.val (.ref x0), .val (.ref x1), .unset, .unset] [] := by first | (simp [entryFrame, mkF, argsToLocals, Value.category]; done) | rfl
def Q_rmP0 (Z : State) (o en : Addr) (F nu : Int64) (rg : Addr) (kk : ClassId) (v0 v1 v2 : Value) (h0 : Heap) (n0 : Nat) (v : Option Value) (h : Heap) (L : List Loc) : Prop := v = none ∧ Fr n0 L ∧ Keep h0 h [o, rg] ∧ Exa Z h o "com/example/penumbra/penumbra/order/SequenceLog" ∧ Fld Z h o "com/example/penumbra/penumbra/order/SequenceLog" "ring" "[Lcom/example/penumbra/penumbra/order/SequenceLog$Entry;" (.ref rg) ∧ Fld Z h o "com/example/penumbra/penumbra/order/SequenceLog" "first" "J" (.long F) ∧ Fld Z h o "com/example/penumbra/penumbra/order/SequenceLog" "head" "I" (.int (0 : Int32)) ∧ Fld Z h o "com/example/penumbra/penumbra/order/SequenceLog" "size" "I" (.int (1 : Int32)) ∧ Arv Z h rg kk (.object "com/example/penumbra/penumbra/order/SequenceLog$Entry") (1024 : Int32) [(.ref en), v1, v2] .null
def K_rmP0 (Z : State) (o en : Addr) (F nu : Int64) (rg : Addr) (kk : ClassId) (v0 v1 v2 : Value) (h0 : Heap) (n0 : Nat) (s : State) : Outcome → State → Prop := fun oo U' => ∃ v L, oo = .returned v ∧ Q_rmP0 Z o en F nu rg kk v0 v1 v2 h0 n0 v U'.heap L ∧ FrameEnd s oo U' L ({ frames := 1, cells := 0, slots := 0, locals := 14 } : Room).cells ({ frames := 1, cells := 0, slots := 0, locals := 14 } : Room).slots
set_option maxRecDepth 65536 in
set_option maxHeartbeats 40000000 in
theorem rmP0 (l : Launch) (Z : State) (a0 : Array Value) (hw : ∀ d ∈ tables_1, d.before a0 Z = true) (ws : List Jvm.Cond) (o en : Addr) (F nu : Int64) (rg : Addr) (kk : ClassId) (v0 v1 v2 : Value) (h0 : Heap) (n0 : Nat) (Z0 : n0 ≤ h0.size) (E_o : Exa Z h0 o "com/example/penumbra/penumbra/order/SequenceLog") (F_ring : Fld Z h0 o "com/example/penumbra/penumbra/order/SequenceLog" "ring" "[Lcom/example/penumbra/penumbra/order/SequenceLog$Entry;" (.ref rg)) (F_first : Fld Z h0 o "com/example/penumbra/penumbra/order/SequenceLog" "first" "J" (.long F)) (F_head : Fld Z h0 o "com/example/penumbra/penumbra/order/SequenceLog" "head" "I" (.int (0 : Int32))) (F_size : Fld Z h0 o "com/example/penumbra/penumbra/order/SequenceLog" "size" "I" (.int (0 : Int32))) (V_rg : Arv Z h0 rg kk (.object "com/example/penumbra/penumbra/order/SequenceLog$Entry") (1024 : Int32) [v0, v1, v2] .null) (OV : Ovr Z kk "com/example/penumbra/penumbra/order/SequenceLog$Entry") (ne_o_rg : o ≠ rg) (g_o : n0 ≤ o) (g_rg : n0 ≤ rg) (E_en : Exa Z h0 en "com/example/penumbra/penumbra/order/SequenceLog$Entry") (F_en : Fld Z h0 en "com/example/penumbra/penumbra/order/SequenceLog$Entry" "number" "J" (.long nu)) (ne_en_o : en ≠ o) (ne_en_rg : en ≠ rg) (hnu : nu = (((F + ((0 : Int32).toInt64)) - (1 : Int64)) + (1 : Int64))) :
    MetFree l (⟨"com/example/penumbra/penumbra/order/SequenceLog", "append", "(Lcom/example/penumbra/penumbra/order/SequenceLog$Entry;)V"⟩ : MethodName) (head1 (Jvm.Cond.code (⟨"com/example/penumbra/penumbra/order/SequenceLog", "append", "(Lcom/example/penumbra/penumbra/order/SequenceLog$Entry;)V"⟩ : MethodName) prog_129_method_5_code 4 none :: ws) ({ frames := 1, cells := 0, slots := 0, locals := 14 } : Room)) (fun a U => a = #[(.ref o), (.ref en)] ∧ Z.Warmed39 U.vm ∧ U.heap = h0) (fun _ _ _ _ _ => True) (fun _ U oo U' => ∃ v L, oo = .returned v ∧ Q_rmP0 Z o en F nu rg kk v0 v1 v2 h0 n0 v U'.heap L ∧ FrameEnd U oo U' L ({ frames := 1, cells := 0, slots := 0, locals := 14 } : Room).cells ({ frames := 1, cells := 0, slots := 0, locals := 14 } : Room).slots) := by
  refine MetFree.of_bodySF (plainFor_of_name pn_com_example_penumbra_penumbra_order_SequenceLog) hisR ?_
  intro p e s m args below meth c s₁ Bd hml0 hP hK
  obtain ⟨rfl, hZ, hh⟩ := hP
  have hx := Bd.exec
  have hby := Bd.bytes
  have hml : c.maxLocals = 4 := hml0
  have hown : s.vm.findClass "com/example/penumbra/penumbra/order/SequenceLog" = some m.cls := findClass_of_methodNamed Bd.named
  have hnm := (name_of_methodNamed Bd.named Bd.method).1
  have X0 : Stand p l e ({ frames := 1, cells := 0, slots := 0, locals := 14 } : Room) s m #[(.ref o), (.ref en)] below meth c s₁ [] 0 0 := Stand.of_body Bd
  have e0 : s₁.heap = h0 := by rw [← hh, Bd.state]; rfl
  have N0 := Fr.nil n0
  refine own_st (K := (K_rmP0 Z o en F nu rg kk v0 v1 v2 h0 n0 s)) (fun t' k' => castTop (ef_rmP0 m o en) k') ?_
  show own_Go p.tables e below _ (s₁.setTop (mkF m 0 #[.val (.ref o), .val (.ref en), .unset, .unset] []))
  refine own_st (fun _ k' => XS.aloadN X0.here hx rfl (hb hby d7_0) rfl rfl k') ?_
  show own_Go p.tables e below _ (s₁.setTop (mkF m 1 #[.val (.ref o), .val (.ref en), .unset, .unset] [(.ref en)]))
  obtain ⟨cq1, kq1, q1a, q1b, q1c⟩ := isOf hZ e0 E_en
  obtain ⟨_, _, ⟨T1, L1, k1, n1⟩, -, X1, ⟨Lc1, hQ1, l1, y1, z1⟩, st1⟩ := X0.virtualBack hx (y := (⟨"com/example/penumbra/penumbra/order/SequenceLog$Entry", "number", "()J"⟩ : MethodName)) (z := (⟨"com/example/penumbra/penumbra/order/SequenceLog$Entry", "number", "()J"⟩ : MethodName)) hown (mvT hZ (hw _ (List.mem_of_getElem? (i := 57) rfl))) (mvT hZ (hw _ (List.mem_of_getElem? (i := 58) rfl))) (notFace_of_selects (args := #[]) (mvT hZ (hw _ (List.mem_of_getElem? (i := 60) rfl)))) (mvT hZ (hw _ (List.mem_of_getElem? (i := 60) rfl))) (mvT hZ (hw _ (List.mem_of_getElem? (i := 59) rfl))) (by decide) (backOf (W := 0) (rmNu l Z a0 hw [] en nu h0 n0 Z0 F_en) hZ (hw _ (List.mem_of_getElem? (i := 61) rfl)) (hw _ (List.mem_of_getElem? (i := 5) rfl)) (by decide) (by decide)) q1a q1c (g := (mkF m 1 #[.val (.ref o), .val (.ref en), .unset, .unset] [(.ref en)])) rfl (by rw [hml]; rfl) (Steps.refl _) (argsL := []) (rest := []) (lenOf pd___J rfl) rfl (by show 2 * 0 + _ ≤ _; exact Nat.le_of_eq rfl) (hb hby d7_1) (fun _ _ => ⟨rfl, e0, (by decide : 0 + 0 ≤ _), (by decide : 0 + 0 ≤ _)⟩)
  dsimp only [Pt.U, Pt.locs, Pt.cells, Pt.slots] at X1 l1 y1 z1 st1 hQ1
  subst l1 y1 z1
  obtain ⟨rfl, Nq1, e1⟩ := hQ1
  have N1 := Fr.app N0 Nq1
  refine own_tr st1 ?_
  show own_Go p.tables e below _ (T1.setTop (mkF m 4 #[.val (.ref o), .val (.ref en), .unset, .unset] [(.long nu)]))
  refine own_st (fun _ k' => XS.aloadN X1.here hx rfl (hb hby d7_4) rfl rfl k') ?_
  show own_Go p.tables e below _ (T1.setTop (mkF m 5 #[.val (.ref o), .val (.ref en), .unset, .unset] [(.ref o), (.long nu)]))
  obtain ⟨cq2, kq2, q2a, q2b, q2c⟩ := isOf hZ e1 E_o
  obtain ⟨_, _, ⟨T2, L2, k2, n2⟩, -, X2, ⟨Lc2, hQ2, l2, y2, z2⟩, st2⟩ := X1.virtualBack hx (y := (⟨"com/example/penumbra/penumbra/order/SequenceLog", "last", "()J"⟩ : MethodName)) (z := (⟨"com/example/penumbra/penumbra/order/SequenceLog", "last", "()J"⟩ : MethodName)) hown (mvT hZ (hw _ (List.mem_of_getElem? (i := 62) rfl))) (mvT hZ (hw _ (List.mem_of_getElem? (i := 63) rfl))) (notFace_of_selects (args := #[]) (mvT hZ (hw _ (List.mem_of_getElem? (i := 65) rfl)))) (mvT hZ (hw _ (List.mem_of_getElem? (i := 65) rfl))) (mvT hZ (hw _ (List.mem_of_getElem? (i := 64) rfl))) (by decide) (backOf (W := 2) (rmLa l Z a0 hw [] o F (0 : Int32) h0 n0 Z0 F_first F_size) hZ (hw _ (List.mem_of_getElem? (i := 66) rfl)) (hw _ (List.mem_of_getElem? (i := 28) rfl)) (by decide) (by decide)) q2a q2c (g := (mkF m 5 #[.val (.ref o), .val (.ref en), .unset, .unset] [(.ref o), (.long nu)])) rfl (by rw [hml]; rfl) (Steps.refl _) (argsL := []) (rest := [(.long nu)]) (lenOf pd___J rfl) rfl (by show 2 * 0 + _ ≤ _; exact Nat.le_of_eq rfl) (hb hby d7_5) (fun _ _ => ⟨rfl, e1, (by decide : 0 + 0 ≤ _), (by decide : 0 + 0 ≤ _)⟩)
  dsimp only [Pt.U, Pt.locs, Pt.cells, Pt.slots] at X2 l2 y2 z2 st2 hQ2
  subst l2 y2 z2
  obtain ⟨rfl, Nq2, e2⟩ := hQ2
  have N2 := Fr.app N1 Nq2
  refine own_tr st2 ?_
  show own_Go p.tables e below _ (T2.setTop (mkF m 8 #[.val (.ref o), .val (.ref en), .unset, .unset] [(.long ((F + ((0 : Int32).toInt64)) - (1 : Int64))), (.long nu)]))
  refine own_st (fun _ k' => XS.lconst X2.here hx rfl (hb hby d7_8) k') ?_
  show own_Go p.tables e below _ (T2.setTop (mkF m 9 #[.val (.ref o), .val (.ref en), .unset, .unset] [(.long (1 : Int64)), (.long ((F + ((0 : Int32).toInt64)) - (1 : Int64))), (.long nu)]))
  refine own_st (fun _ k' => XS.ladd X2.here hx rfl (hb hby d7_9) rfl k') ?_
  show own_Go p.tables e below _ (T2.setTop (mkF m 10 #[.val (.ref o), .val (.ref en), .unset, .unset] [(.long (((F + ((0 : Int32).toInt64)) - (1 : Int64)) + (1 : Int64))), (.long nu)]))
  refine own_st (fun _ k' => XS.lcmp X2.here hx rfl (hb hby d7_10) rfl k') ?_
  show own_Go p.tables e below _ (T2.setTop (mkF m 11 #[.val (.ref o), .val (.ref en), .unset, .unset] [(.int (lcmpW nu (((F + ((0 : Int32).toInt64)) - (1 : Int64)) + (1 : Int64))))]))
  refine own_st (fun _ k' => XS.ifYes X2.here hx rfl (pc0 := 11) (pc' := 37) rfl (hb hby d7_11) rfl ((if0 _ _).trans (teq ((lw_eq nu (((F + ((0 : Int32).toInt64)) - (1 : Int64)) + (1 : Int64))).mpr hnu)).1) (by decide) (by decide) k') ?_
  show own_Go p.tables e below _ (T2.setTop (mkF m 37 #[.val (.ref o), .val (.ref en), .unset, .unset] []))
  refine own_st (fun _ k' => XS.aloadN X2.here hx rfl (hb hby d7_37) rfl rfl k') ?_
  show own_Go p.tables e below _ (T2.setTop (mkF m 38 #[.val (.ref o), .val (.ref en), .unset, .unset] [(.ref o)]))
  obtain ⟨T3, X3, e3, st3⟩ := getF X2 hx hZ hown (host := "") (Or.inl (hw _ (List.mem_of_getElem? (i := 50) rfl))) Via.refl e2 F_size (g := (mkF m 38 #[.val (.ref o), .val (.ref en), .unset, .unset] [(.ref o)])) rfl rfl (hb hby d7_38)
  refine own_st st3 ?_
  show own_Go p.tables e below _ (T3.setTop (mkF m 41 #[.val (.ref o), .val (.ref en), .unset, .unset] [(.int (0 : Int32))]))
  refine own_st (fun _ k' => XS.aloadN X3.here hx rfl (hb hby d7_41) rfl rfl k') ?_
  show own_Go p.tables e below _ (T3.setTop (mkF m 42 #[.val (.ref o), .val (.ref en), .unset, .unset] [(.ref o), (.int (0 : Int32))]))
  obtain ⟨T4, X4, e4, st4⟩ := getF X3 hx hZ hown (host := "") (Or.inl (hw _ (List.mem_of_getElem? (i := 35) rfl))) Via.refl e3 F_ring (g := (mkF m 42 #[.val (.ref o), .val (.ref en), .unset, .unset] [(.ref o), (.int (0 : Int32))])) rfl rfl (hb hby d7_42)
  refine own_st st4 ?_
  show own_Go p.tables e below _ (T4.setTop (mkF m 45 #[.val (.ref o), .val (.ref en), .unset, .unset] [(.ref rg), (.int (0 : Int32))]))
  obtain ⟨cl5, Ar5, qc5, Sz5, Nn5, Hs5, Gs5⟩ := id V_rg
  refine own_st (fun t' k' => X4.arraylength hx (by rw [e4]; exact Ar5.1) (State.isArrayOf_alike hZ.alike Ar5.2.1) (g := (mkF m 45 #[.val (.ref o), .val (.ref en), .unset, .unset] [(.ref rg), (.int (0 : Int32))])) rfl rfl (hb hby d7_45) t' k') ?_
  rw [len_of Sz5 Nn5]
  show own_Go p.tables e below _ (T4.setTop (mkF m 46 #[.val (.ref o), .val (.ref en), .unset, .unset] [(.int (1024 : Int32)), (.int (0 : Int32))]))
  refine own_st (fun _ k' => XS.icmpYes X4.here hx rfl (pc0 := 46) (pc' := 106) rfl (hb hby d7_46) rfl (feq (by decide : ¬ (0 : Int32) = (1024 : Int32))).2 (by decide) (by decide) k') ?_
  show own_Go p.tables e below _ (T4.setTop (mkF m 106 #[.val (.ref o), .val (.ref en), .unset, .unset] []))
  refine own_st (fun _ k' => XS.aloadN X4.here hx rfl (hb hby d7_106) rfl rfl k') ?_
  show own_Go p.tables e below _ (T4.setTop (mkF m 107 #[.val (.ref o), .val (.ref en), .unset, .unset] [(.ref o)]))
  obtain ⟨T6, X6, e6, st6⟩ := getF X4 hx hZ hown (host := "") (Or.inl (hw _ (List.mem_of_getElem? (i := 35) rfl))) Via.refl e4 F_ring (g := (mkF m 107 #[.val (.ref o), .val (.ref en), .unset, .unset] [(.ref o)])) rfl rfl (hb hby d7_107)
  refine own_st st6 ?_
  show own_Go p.tables e below _ (T6.setTop (mkF m 110 #[.val (.ref o), .val (.ref en), .unset, .unset] [(.ref rg)]))
  refine own_st (fun _ k' => XS.aloadN X6.here hx rfl (hb hby d7_110) rfl rfl k') ?_
  show own_Go p.tables e below _ (T6.setTop (mkF m 111 #[.val (.ref o), .val (.ref en), .unset, .unset] [(.ref o), (.ref rg)]))
  obtain ⟨T7, X7, e7, st7⟩ := getF X6 hx hZ hown (host := "") (Or.inl (hw _ (List.mem_of_getElem? (i := 48) rfl))) Via.refl e6 F_head (g := (mkF m 111 #[.val (.ref o), .val (.ref en), .unset, .unset] [(.ref o), (.ref rg)])) rfl rfl (hb hby d7_111)
  refine own_st st7 ?_
  show own_Go p.tables e below _ (T7.setTop (mkF m 114 #[.val (.ref o), .val (.ref en), .unset, .unset] [(.int (0 : Int32)), (.ref rg)]))
  refine own_st (fun _ k' => XS.aloadN X7.here hx rfl (hb hby d7_114) rfl rfl k') ?_
  show own_Go p.tables e below _ (T7.setTop (mkF m 115 #[.val (.ref o), .val (.ref en), .unset, .unset] [(.ref o), (.int (0 : Int32)), (.ref rg)]))
  obtain ⟨T8, X8, e8, st8⟩ := getF X7 hx hZ hown (host := "") (Or.inl (hw _ (List.mem_of_getElem? (i := 50) rfl))) Via.refl e7 F_size (g := (mkF m 115 #[.val (.ref o), .val (.ref en), .unset, .unset] [(.ref o), (.int (0 : Int32)), (.ref rg)])) rfl rfl (hb hby d7_115)
  refine own_st st8 ?_
  show own_Go p.tables e below _ (T8.setTop (mkF m 118 #[.val (.ref o), .val (.ref en), .unset, .unset] [(.int (0 : Int32)), (.int (0 : Int32)), (.ref rg)]))
  refine own_st (fun _ k' => XS.iadd X8.here hx rfl (hb hby d7_118) rfl k') ?_
  show own_Go p.tables e below _ (T8.setTop (mkF m 119 #[.val (.ref o), .val (.ref en), .unset, .unset] [(.int (0 : Int32)), (.ref rg)]))
  refine own_st (fun _ k' => XS.aloadN X8.here hx rfl (hb hby d7_119) rfl rfl k') ?_
  show own_Go p.tables e below _ (T8.setTop (mkF m 120 #[.val (.ref o), .val (.ref en), .unset, .unset] [(.ref o), (.int (0 : Int32)), (.ref rg)]))
  obtain ⟨T9, X9, e9, st9⟩ := getF X8 hx hZ hown (host := "") (Or.inl (hw _ (List.mem_of_getElem? (i := 35) rfl))) Via.refl e8 F_ring (g := (mkF m 120 #[.val (.ref o), .val (.ref en), .unset, .unset] [(.ref o), (.int (0 : Int32)), (.ref rg)])) rfl rfl (hb hby d7_120)
  refine own_st st9 ?_
  show own_Go p.tables e below _ (T9.setTop (mkF m 123 #[.val (.ref o), .val (.ref en), .unset, .unset] [(.ref rg), (.int (0 : Int32)), (.ref rg)]))
  obtain ⟨cl10, Ar10, qc10, Sz10, Nn10, Hs10, Gs10⟩ := id V_rg
  refine own_st (fun t' k' => X9.arraylength hx (by rw [e9]; exact Ar10.1) (State.isArrayOf_alike hZ.alike Ar10.2.1) (g := (mkF m 123 #[.val (.ref o), .val (.ref en), .unset, .unset] [(.ref rg), (.int (0 : Int32)), (.ref rg)])) rfl rfl (hb hby d7_123) t' k') ?_
  rw [len_of Sz10 Nn10]
  show own_Go p.tables e below _ (T9.setTop (mkF m 124 #[.val (.ref o), .val (.ref en), .unset, .unset] [(.int (1024 : Int32)), (.int (0 : Int32)), (.ref rg)]))
  refine own_st (fun _ k' => iremM X9 hx rfl (hb hby d7_124) rfl (by decide) k') ?_
  show own_Go p.tables e below _ (T9.setTop (mkF m 125 #[.val (.ref o), .val (.ref en), .unset, .unset] [(.int (0 : Int32)), (.ref rg)]))
  refine own_st (fun _ k' => XS.aloadN X9.here hx rfl (hb hby d7_125) rfl rfl k') ?_
  show own_Go p.tables e below _ (T9.setTop (mkF m 126 #[.val (.ref o), .val (.ref en), .unset, .unset] [(.ref en), (.int (0 : Int32)), (.ref rg)]))
  obtain ⟨cl11, Ar11, qc11, Sz11, Nn11, Hs11, Gs11⟩ := id V_rg
  have hin11 : ¬ ((0 : Int32) < 0 ∨ cl11.slots.size ≤ ((0 : Int32)).toNatClampNeg) := inb_of Sz11 ⟨by decide, by decide⟩
  obtain ⟨T12, h12, X12, e12, W12, st12⟩ := stR X9 hx hZ e9 Ar11 (j := (0 : Int32)) hin11 rfl (Sto.ofV Ar11 qc11 OV (Ins.self E_en)) (g := (mkF m 126 #[.val (.ref o), .val (.ref en), .unset, .unset] [(.ref en), (.int (0 : Int32)), (.ref rg)])) rfl rfl (hb hby d7_126)
  have N12 := Fr.snoc X12 N2 g_rg
  have Vn12 := Arv.set Ar11 qc11 Sz11 Nn11 Hs11 Gs11 rfl W12 0 rfl (Nat.le_of_ble_eq_true rfl)
  have E_o_x13 := E_o.wr W12
  have F_ring_x14 := F_ring.other W12 (Or.inl ne_o_rg)
  have F_first_x15 := F_first.other W12 (Or.inl ne_o_rg)
  have F_head_x16 := F_head.other W12 (Or.inl ne_o_rg)
  have F_size_x17 := F_size.other W12 (Or.inl ne_o_rg)
  have E_en_x19 := E_en.wr W12
  have F_en_x20 := F_en.other W12 (Or.inl ne_en_rg)
  have K21 : Keep h0 h12 [o, rg] := (Keep.refl h0 [o, rg]).wr W12 (Or.inl (List.mem_of_getElem? (i := 1) rfl))
  refine own_st st12 ?_
  show own_Go p.tables e below _ (T12.setTop (mkF m 127 #[.val (.ref o), .val (.ref en), .unset, .unset] []))
  refine own_st (fun _ k' => XS.aloadN X12.here hx rfl (hb hby d7_127) rfl rfl k') ?_
  show own_Go p.tables e below _ (T12.setTop (mkF m 128 #[.val (.ref o), .val (.ref en), .unset, .unset] [(.ref o)]))
  refine own_st (fun _ k' => XS.dup X12.here hx rfl (hb hby d7_128) rfl rfl k') ?_
  show own_Go p.tables e below _ (T12.setTop (mkF m 129 #[.val (.ref o), .val (.ref en), .unset, .unset] [(.ref o), (.ref o)]))
  obtain ⟨T22, X22, e22, st22⟩ := getF X12 hx hZ hown (host := "") (Or.inl (hw _ (List.mem_of_getElem? (i := 50) rfl))) Via.refl e12 F_size_x17 (g := (mkF m 129 #[.val (.ref o), .val (.ref en), .unset, .unset] [(.ref o), (.ref o)])) rfl rfl (hb hby d7_129)
  refine own_st st22 ?_
  show own_Go p.tables e below _ (T22.setTop (mkF m 132 #[.val (.ref o), .val (.ref en), .unset, .unset] [(.int (0 : Int32)), (.ref o)]))
  refine own_st (fun _ k' => XS.iconst X22.here hx rfl (hb hby d7_132) k') ?_
  show own_Go p.tables e below _ (T22.setTop (mkF m 133 #[.val (.ref o), .val (.ref en), .unset, .unset] [(.int (1 : Int32)), (.int (0 : Int32)), (.ref o)]))
  refine own_st (fun _ k' => XS.iadd X22.here hx rfl (hb hby d7_133) rfl k') ?_
  show own_Go p.tables e below _ (T22.setTop (mkF m 134 #[.val (.ref o), .val (.ref en), .unset, .unset] [(.int (1 : Int32)), (.ref o)]))
  obtain ⟨T23, h23, X23, e23, W23, st23⟩ := putF X22 hx hZ hown (host := "") (Or.inl (hw _ (List.mem_of_getElem? (i := 50) rfl))) Via.refl e22 F_size_x17 E_o_x13 (Or.inl (hw _ (List.mem_of_getElem? (i := 51) rfl))) (hw _ (List.mem_of_getElem? (i := 27) rfl)) (ty := .int) (by decide) rfl rfl (g := (mkF m 134 #[.val (.ref o), .val (.ref en), .unset, .unset] [(.int (1 : Int32)), (.ref o)])) rfl rfl (hb hby d7_134)
  have N23 := Fr.snoc X23 N12 g_o
  have E_o_x24 := E_o_x13.wr W23
  have F_ring_x25 := F_ring_x14.other W23 (Or.inr (slot_ne (Or.inl (hw _ (List.mem_of_getElem? (i := 36) rfl))) (Or.inl (hw _ (List.mem_of_getElem? (i := 51) rfl))) (by decide) (t := (.array (.object "com/example/penumbra/penumbra/order/SequenceLog$Entry"))) (t' := .int) (by decide) (by decide)))
  have F_first_x26 := F_first_x15.other W23 (Or.inr (slot_ne (Or.inl (hw _ (List.mem_of_getElem? (i := 38) rfl))) (Or.inl (hw _ (List.mem_of_getElem? (i := 51) rfl))) (by decide) (t := .long) (t' := .int) (by decide) (by decide)))
  have F_head_x27 := F_head_x16.other W23 (Or.inr (slot_ne (Or.inl (hw _ (List.mem_of_getElem? (i := 49) rfl))) (Or.inl (hw _ (List.mem_of_getElem? (i := 51) rfl))) (by decide) (t := .int) (t' := .int) (by decide) (by decide)))
  have F_size_x28 := F_size_x17.same W23
  have Vn12_x29 := Vn12.other W23 (Ne.symm ne_o_rg)
  have E_en_x30 := E_en_x19.wr W23
  have F_en_x31 := F_en_x20.other W23 (Or.inl ne_en_o)
  have K32 : Keep h0 h23 [o, rg] := K21.wr W23 (Or.inl (List.mem_of_getElem? (i := 0) rfl))
  refine own_st st23 ?_
  show own_Go p.tables e below _ (T23.setTop (mkF m 137 #[.val (.ref o), .val (.ref en), .unset, .unset] []))
  exact own_retV X23 hx Bd.returns (hb hby d7_137) Bd.notSynchronized ⟨rfl, N23, by rw [e23]; exact K32, by rw [e23]; exact E_o_x24, by rw [e23]; exact F_ring_x25, by rw [e23]; exact F_first_x26, by rw [e23]; exact F_head_x27, by rw [e23]; exact F_size_x28, by rw [e23]; exact Vn12_x29⟩ (by decide) (by decide)

theorem ef_rmP1 (m : MethodId) (x0 : Addr) (x1 : Addr) : entryFrame m #[(.ref x0), (.ref x1)] 4 = mkF m 0 #[.val (.ref x0), .val (.ref x1), .unset, .unset] [] := by first | (simp [entryFrame, mkF, argsToLocals, Value.category]; done) | rfl
def Q_rmP1 (Z : State) (o en : Addr) (F nu : Int64) (rg : Addr) (kk : ClassId) (v0 v1 v2 : Value) (h0 : Heap) (n0 : Nat) (v : Option Value) (h : Heap) (L : List Loc) : Prop := v = none ∧ Fr n0 L ∧ Keep h0 h [o, rg] ∧ Exa Z h o "com/example/penumbra/penumbra/order/SequenceLog" ∧ Fld Z h o "com/example/penumbra/penumbra/order/SequenceLog" "ring" "[Lcom/example/penumbra/penumbra/order/SequenceLog$Entry;" (.ref rg) ∧ Fld Z h o "com/example/penumbra/penumbra/order/SequenceLog" "first" "J" (.long F) ∧ Fld Z h o "com/example/penumbra/penumbra/order/SequenceLog" "head" "I" (.int (0 : Int32)) ∧ Fld Z h o "com/example/penumbra/penumbra/order/SequenceLog" "size" "I" (.int (2 : Int32)) ∧ Arv Z h rg kk (.object "com/example/penumbra/penumbra/order/SequenceLog$Entry") (1024 : Int32) [v0, (.ref en), v2] .null
def K_rmP1 (Z : State) (o en : Addr) (F nu : Int64) (rg : Addr) (kk : ClassId) (v0 v1 v2 : Value) (h0 : Heap) (n0 : Nat) (s : State) : Outcome → State → Prop := fun oo U' => ∃ v L, oo = .returned v ∧ Q_rmP1 Z o en F nu rg kk v0 v1 v2 h0 n0 v U'.heap L ∧ FrameEnd s oo U' L ({ frames := 1, cells := 0, slots := 0, locals := 14 } : Room).cells ({ frames := 1, cells := 0, slots := 0, locals := 14 } : Room).slots
set_option maxRecDepth 65536 in
set_option maxHeartbeats 40000000 in
theorem rmP1 (l : Launch) (Z : State) (a0 : Array Value) (hw : ∀ d ∈ tables_1, d.before a0 Z = true) (ws : List Jvm.Cond) (o en : Addr) (F nu : Int64) (rg : Addr) (kk : ClassId) (v0 v1 v2 : Value) (h0 : Heap) (n0 : Nat) (Z0 : n0 ≤ h0.size) (E_o : Exa Z h0 o "com/example/penumbra/penumbra/order/SequenceLog") (F_ring : Fld Z h0 o "com/example/penumbra/penumbra/order/SequenceLog" "ring" "[Lcom/example/penumbra/penumbra/order/SequenceLog$Entry;" (.ref rg)) (F_first : Fld Z h0 o "com/example/penumbra/penumbra/order/SequenceLog" "first" "J" (.long F)) (F_head : Fld Z h0 o "com/example/penumbra/penumbra/order/SequenceLog" "head" "I" (.int (0 : Int32))) (F_size : Fld Z h0 o "com/example/penumbra/penumbra/order/SequenceLog" "size" "I" (.int (1 : Int32))) (V_rg : Arv Z h0 rg kk (.object "com/example/penumbra/penumbra/order/SequenceLog$Entry") (1024 : Int32) [v0, v1, v2] .null) (OV : Ovr Z kk "com/example/penumbra/penumbra/order/SequenceLog$Entry") (ne_o_rg : o ≠ rg) (g_o : n0 ≤ o) (g_rg : n0 ≤ rg) (E_en : Exa Z h0 en "com/example/penumbra/penumbra/order/SequenceLog$Entry") (F_en : Fld Z h0 en "com/example/penumbra/penumbra/order/SequenceLog$Entry" "number" "J" (.long nu)) (ne_en_o : en ≠ o) (ne_en_rg : en ≠ rg) (hnu : nu = (((F + ((1 : Int32).toInt64)) - (1 : Int64)) + (1 : Int64))) :
    MetFree l (⟨"com/example/penumbra/penumbra/order/SequenceLog", "append", "(Lcom/example/penumbra/penumbra/order/SequenceLog$Entry;)V"⟩ : MethodName) (head1 (Jvm.Cond.code (⟨"com/example/penumbra/penumbra/order/SequenceLog", "append", "(Lcom/example/penumbra/penumbra/order/SequenceLog$Entry;)V"⟩ : MethodName) prog_129_method_5_code 4 none :: ws) ({ frames := 1, cells := 0, slots := 0, locals := 14 } : Room)) (fun a U => a = #[(.ref o), (.ref en)] ∧ Z.Warmed39 U.vm ∧ U.heap = h0) (fun _ _ _ _ _ => True) (fun _ U oo U' => ∃ v L, oo = .returned v ∧ Q_rmP1 Z o en F nu rg kk v0 v1 v2 h0 n0 v U'.heap L ∧ FrameEnd U oo U' L ({ frames := 1, cells := 0, slots := 0, locals := 14 } : Room).cells ({ frames := 1, cells := 0, slots := 0, locals := 14 } : Room).slots) := by
  refine MetFree.of_bodySF (plainFor_of_name pn_com_example_penumbra_penumbra_order_SequenceLog) hisR ?_
  intro p e s m args below meth c s₁ Bd hml0 hP hK
  obtain ⟨rfl, hZ, hh⟩ := hP
  have hx := Bd.exec
  have hby := Bd.bytes
  have hml : c.maxLocals = 4 := hml0
  have hown : s.vm.findClass "com/example/penumbra/penumbra/order/SequenceLog" = some m.cls := findClass_of_methodNamed Bd.named
  have hnm := (name_of_methodNamed Bd.named Bd.method).1
  have X0 : Stand p l e ({ frames := 1, cells := 0, slots := 0, locals := 14 } : Room) s m #[(.ref o), (.ref en)] below meth c s₁ [] 0 0 := Stand.of_body Bd
  have e0 : s₁.heap = h0 := by rw [← hh, Bd.state]; rfl
  have N0 := Fr.nil n0
  refine own_st (K := (K_rmP1 Z o en F nu rg kk v0 v1 v2 h0 n0 s)) (fun t' k' => castTop (ef_rmP1 m o en) k') ?_
  show own_Go p.tables e below _ (s₁.setTop (mkF m 0 #[.val (.ref o), .val (.ref en), .unset, .unset] []))
  refine own_st (fun _ k' => XS.aloadN X0.here hx rfl (hb hby d7_0) rfl rfl k') ?_
  show own_Go p.tables e below _ (s₁.setTop (mkF m 1 #[.val (.ref o), .val (.ref en), .unset, .unset] [(.ref en)]))
  obtain ⟨cq1, kq1, q1a, q1b, q1c⟩ := isOf hZ e0 E_en
  obtain ⟨_, _, ⟨T1, L1, k1, n1⟩, -, X1, ⟨Lc1, hQ1, l1, y1, z1⟩, st1⟩ := X0.virtualBack hx (y := (⟨"com/example/penumbra/penumbra/order/SequenceLog$Entry", "number", "()J"⟩ : MethodName)) (z := (⟨"com/example/penumbra/penumbra/order/SequenceLog$Entry", "number", "()J"⟩ : MethodName)) hown (mvT hZ (hw _ (List.mem_of_getElem? (i := 57) rfl))) (mvT hZ (hw _ (List.mem_of_getElem? (i := 58) rfl))) (notFace_of_selects (args := #[]) (mvT hZ (hw _ (List.mem_of_getElem? (i := 60) rfl)))) (mvT hZ (hw _ (List.mem_of_getElem? (i := 60) rfl))) (mvT hZ (hw _ (List.mem_of_getElem? (i := 59) rfl))) (by decide) (backOf (W := 0) (rmNu l Z a0 hw [] en nu h0 n0 Z0 F_en) hZ (hw _ (List.mem_of_getElem? (i := 61) rfl)) (hw _ (List.mem_of_getElem? (i := 5) rfl)) (by decide) (by decide)) q1a q1c (g := (mkF m 1 #[.val (.ref o), .val (.ref en), .unset, .unset] [(.ref en)])) rfl (by rw [hml]; rfl) (Steps.refl _) (argsL := []) (rest := []) (lenOf pd___J rfl) rfl (by show 2 * 0 + _ ≤ _; exact Nat.le_of_eq rfl) (hb hby d7_1) (fun _ _ => ⟨rfl, e0, (by decide : 0 + 0 ≤ _), (by decide : 0 + 0 ≤ _)⟩)
  dsimp only [Pt.U, Pt.locs, Pt.cells, Pt.slots] at X1 l1 y1 z1 st1 hQ1
  subst l1 y1 z1
  obtain ⟨rfl, Nq1, e1⟩ := hQ1
  have N1 := Fr.app N0 Nq1
  refine own_tr st1 ?_
  show own_Go p.tables e below _ (T1.setTop (mkF m 4 #[.val (.ref o), .val (.ref en), .unset, .unset] [(.long nu)]))
  refine own_st (fun _ k' => XS.aloadN X1.here hx rfl (hb hby d7_4) rfl rfl k') ?_
  show own_Go p.tables e below _ (T1.setTop (mkF m 5 #[.val (.ref o), .val (.ref en), .unset, .unset] [(.ref o), (.long nu)]))
  obtain ⟨cq2, kq2, q2a, q2b, q2c⟩ := isOf hZ e1 E_o
  obtain ⟨_, _, ⟨T2, L2, k2, n2⟩, -, X2, ⟨Lc2, hQ2, l2, y2, z2⟩, st2⟩ := X1.virtualBack hx (y := (⟨"com/example/penumbra/penumbra/order/SequenceLog", "last", "()J"⟩ : MethodName)) (z := (⟨"com/example/penumbra/penumbra/order/SequenceLog", "last", "()J"⟩ : MethodName)) hown (mvT hZ (hw _ (List.mem_of_getElem? (i := 62) rfl))) (mvT hZ (hw _ (List.mem_of_getElem? (i := 63) rfl))) (notFace_of_selects (args := #[]) (mvT hZ (hw _ (List.mem_of_getElem? (i := 65) rfl)))) (mvT hZ (hw _ (List.mem_of_getElem? (i := 65) rfl))) (mvT hZ (hw _ (List.mem_of_getElem? (i := 64) rfl))) (by decide) (backOf (W := 2) (rmLa l Z a0 hw [] o F (1 : Int32) h0 n0 Z0 F_first F_size) hZ (hw _ (List.mem_of_getElem? (i := 66) rfl)) (hw _ (List.mem_of_getElem? (i := 28) rfl)) (by decide) (by decide)) q2a q2c (g := (mkF m 5 #[.val (.ref o), .val (.ref en), .unset, .unset] [(.ref o), (.long nu)])) rfl (by rw [hml]; rfl) (Steps.refl _) (argsL := []) (rest := [(.long nu)]) (lenOf pd___J rfl) rfl (by show 2 * 0 + _ ≤ _; exact Nat.le_of_eq rfl) (hb hby d7_5) (fun _ _ => ⟨rfl, e1, (by decide : 0 + 0 ≤ _), (by decide : 0 + 0 ≤ _)⟩)
  dsimp only [Pt.U, Pt.locs, Pt.cells, Pt.slots] at X2 l2 y2 z2 st2 hQ2
  subst l2 y2 z2
  obtain ⟨rfl, Nq2, e2⟩ := hQ2
  have N2 := Fr.app N1 Nq2
  refine own_tr st2 ?_
  show own_Go p.tables e below _ (T2.setTop (mkF m 8 #[.val (.ref o), .val (.ref en), .unset, .unset] [(.long ((F + ((1 : Int32).toInt64)) - (1 : Int64))), (.long nu)]))
  refine own_st (fun _ k' => XS.lconst X2.here hx rfl (hb hby d7_8) k') ?_
  show own_Go p.tables e below _ (T2.setTop (mkF m 9 #[.val (.ref o), .val (.ref en), .unset, .unset] [(.long (1 : Int64)), (.long ((F + ((1 : Int32).toInt64)) - (1 : Int64))), (.long nu)]))
  refine own_st (fun _ k' => XS.ladd X2.here hx rfl (hb hby d7_9) rfl k') ?_
  show own_Go p.tables e below _ (T2.setTop (mkF m 10 #[.val (.ref o), .val (.ref en), .unset, .unset] [(.long (((F + ((1 : Int32).toInt64)) - (1 : Int64)) + (1 : Int64))), (.long nu)]))
  refine own_st (fun _ k' => XS.lcmp X2.here hx rfl (hb hby d7_10) rfl k') ?_
  show own_Go p.tables e below _ (T2.setTop (mkF m 11 #[.val (.ref o), .val (.ref en), .unset, .unset] [(.int (lcmpW nu (((F + ((1 : Int32).toInt64)) - (1 : Int64)) + (1 : Int64))))]))
  refine own_st (fun _ k' => XS.ifYes X2.here hx rfl (pc0 := 11) (pc' := 37) rfl (hb hby d7_11) rfl ((if0 _ _).trans (teq ((lw_eq nu (((F + ((1 : Int32).toInt64)) - (1 : Int64)) + (1 : Int64))).mpr hnu)).1) (by decide) (by decide) k') ?_
  show own_Go p.tables e below _ (T2.setTop (mkF m 37 #[.val (.ref o), .val (.ref en), .unset, .unset] []))
  refine own_st (fun _ k' => XS.aloadN X2.here hx rfl (hb hby d7_37) rfl rfl k') ?_
  show own_Go p.tables e below _ (T2.setTop (mkF m 38 #[.val (.ref o), .val (.ref en), .unset, .unset] [(.ref o)]))
  obtain ⟨T3, X3, e3, st3⟩ := getF X2 hx hZ hown (host := "") (Or.inl (hw _ (List.mem_of_getElem? (i := 50) rfl))) Via.refl e2 F_size (g := (mkF m 38 #[.val (.ref o), .val (.ref en), .unset, .unset] [(.ref o)])) rfl rfl (hb hby d7_38)
  refine own_st st3 ?_
  show own_Go p.tables e below _ (T3.setTop (mkF m 41 #[.val (.ref o), .val (.ref en), .unset, .unset] [(.int (1 : Int32))]))
  refine own_st (fun _ k' => XS.aloadN X3.here hx rfl (hb hby d7_41) rfl rfl k') ?_
  show own_Go p.tables e below _ (T3.setTop (mkF m 42 #[.val (.ref o), .val (.ref en), .unset, .unset] [(.ref o), (.int (1 : Int32))]))
  obtain ⟨T4, X4, e4, st4⟩ := getF X3 hx hZ hown (host := "") (Or.inl (hw _ (List.mem_of_getElem? (i := 35) rfl))) Via.refl e3 F_ring (g := (mkF m 42 #[.val (.ref o), .val (.ref en), .unset, .unset] [(.ref o), (.int (1 : Int32))])) rfl rfl (hb hby d7_42)
  refine own_st st4 ?_
  show own_Go p.tables e below _ (T4.setTop (mkF m 45 #[.val (.ref o), .val (.ref en), .unset, .unset] [(.ref rg), (.int (1 : Int32))]))
  obtain ⟨cl5, Ar5, qc5, Sz5, Nn5, Hs5, Gs5⟩ := id V_rg
  refine own_st (fun t' k' => X4.arraylength hx (by rw [e4]; exact Ar5.1) (State.isArrayOf_alike hZ.alike Ar5.2.1) (g := (mkF m 45 #[.val (.ref o), .val (.ref en), .unset, .unset] [(.ref rg), (.int (1 : Int32))])) rfl rfl (hb hby d7_45) t' k') ?_
  rw [len_of Sz5 Nn5]
  show own_Go p.tables e below _ (T4.setTop (mkF m 46 #[.val (.ref o), .val (.ref en), .unset, .unset] [(.int (1024 : Int32)), (.int (1 : Int32))]))
  refine own_st (fun _ k' => XS.icmpYes X4.here hx rfl (pc0 := 46) (pc' := 106) rfl (hb hby d7_46) rfl (feq (by decide : ¬ (1 : Int32) = (1024 : Int32))).2 (by decide) (by decide) k') ?_
  show own_Go p.tables e below _ (T4.setTop (mkF m 106 #[.val (.ref o), .val (.ref en), .unset, .unset] []))
  refine own_st (fun _ k' => XS.aloadN X4.here hx rfl (hb hby d7_106) rfl rfl k') ?_
  show own_Go p.tables e below _ (T4.setTop (mkF m 107 #[.val (.ref o), .val (.ref en), .unset, .unset] [(.ref o)]))
  obtain ⟨T6, X6, e6, st6⟩ := getF X4 hx hZ hown (host := "") (Or.inl (hw _ (List.mem_of_getElem? (i := 35) rfl))) Via.refl e4 F_ring (g := (mkF m 107 #[.val (.ref o), .val (.ref en), .unset, .unset] [(.ref o)])) rfl rfl (hb hby d7_107)
  refine own_st st6 ?_
  show own_Go p.tables e below _ (T6.setTop (mkF m 110 #[.val (.ref o), .val (.ref en), .unset, .unset] [(.ref rg)]))
  refine own_st (fun _ k' => XS.aloadN X6.here hx rfl (hb hby d7_110) rfl rfl k') ?_
  show own_Go p.tables e below _ (T6.setTop (mkF m 111 #[.val (.ref o), .val (.ref en), .unset, .unset] [(.ref o), (.ref rg)]))
  obtain ⟨T7, X7, e7, st7⟩ := getF X6 hx hZ hown (host := "") (Or.inl (hw _ (List.mem_of_getElem? (i := 48) rfl))) Via.refl e6 F_head (g := (mkF m 111 #[.val (.ref o), .val (.ref en), .unset, .unset] [(.ref o), (.ref rg)])) rfl rfl (hb hby d7_111)
  refine own_st st7 ?_
  show own_Go p.tables e below _ (T7.setTop (mkF m 114 #[.val (.ref o), .val (.ref en), .unset, .unset] [(.int (0 : Int32)), (.ref rg)]))
  refine own_st (fun _ k' => XS.aloadN X7.here hx rfl (hb hby d7_114) rfl rfl k') ?_
  show own_Go p.tables e below _ (T7.setTop (mkF m 115 #[.val (.ref o), .val (.ref en), .unset, .unset] [(.ref o), (.int (0 : Int32)), (.ref rg)]))
  obtain ⟨T8, X8, e8, st8⟩ := getF X7 hx hZ hown (host := "") (Or.inl (hw _ (List.mem_of_getElem? (i := 50) rfl))) Via.refl e7 F_size (g := (mkF m 115 #[.val (.ref o), .val (.ref en), .unset, .unset] [(.ref o), (.int (0 : Int32)), (.ref rg)])) rfl rfl (hb hby d7_115)
  refine own_st st8 ?_
  show own_Go p.tables e below _ (T8.setTop (mkF m 118 #[.val (.ref o), .val (.ref en), .unset, .unset] [(.int (1 : Int32)), (.int (0 : Int32)), (.ref rg)]))
  refine own_st (fun _ k' => XS.iadd X8.here hx rfl (hb hby d7_118) rfl k') ?_
  show own_Go p.tables e below _ (T8.setTop (mkF m 119 #[.val (.ref o), .val (.ref en), .unset, .unset] [(.int (1 : Int32)), (.ref rg)]))
  refine own_st (fun _ k' => XS.aloadN X8.here hx rfl (hb hby d7_119) rfl rfl k') ?_
  show own_Go p.tables e below _ (T8.setTop (mkF m 120 #[.val (.ref o), .val (.ref en), .unset, .unset] [(.ref o), (.int (1 : Int32)), (.ref rg)]))
  obtain ⟨T9, X9, e9, st9⟩ := getF X8 hx hZ hown (host := "") (Or.inl (hw _ (List.mem_of_getElem? (i := 35) rfl))) Via.refl e8 F_ring (g := (mkF m 120 #[.val (.ref o), .val (.ref en), .unset, .unset] [(.ref o), (.int (1 : Int32)), (.ref rg)])) rfl rfl (hb hby d7_120)
  refine own_st st9 ?_
  show own_Go p.tables e below _ (T9.setTop (mkF m 123 #[.val (.ref o), .val (.ref en), .unset, .unset] [(.ref rg), (.int (1 : Int32)), (.ref rg)]))
  obtain ⟨cl10, Ar10, qc10, Sz10, Nn10, Hs10, Gs10⟩ := id V_rg
  refine own_st (fun t' k' => X9.arraylength hx (by rw [e9]; exact Ar10.1) (State.isArrayOf_alike hZ.alike Ar10.2.1) (g := (mkF m 123 #[.val (.ref o), .val (.ref en), .unset, .unset] [(.ref rg), (.int (1 : Int32)), (.ref rg)])) rfl rfl (hb hby d7_123) t' k') ?_
  rw [len_of Sz10 Nn10]
  show own_Go p.tables e below _ (T9.setTop (mkF m 124 #[.val (.ref o), .val (.ref en), .unset, .unset] [(.int (1024 : Int32)), (.int (1 : Int32)), (.ref rg)]))
  refine own_st (fun _ k' => iremM X9 hx rfl (hb hby d7_124) rfl (by decide) k') ?_
  show own_Go p.tables e below _ (T9.setTop (mkF m 125 #[.val (.ref o), .val (.ref en), .unset, .unset] [(.int (1 : Int32)), (.ref rg)]))
  refine own_st (fun _ k' => XS.aloadN X9.here hx rfl (hb hby d7_125) rfl rfl k') ?_
  show own_Go p.tables e below _ (T9.setTop (mkF m 126 #[.val (.ref o), .val (.ref en), .unset, .unset] [(.ref en), (.int (1 : Int32)), (.ref rg)]))
  obtain ⟨cl11, Ar11, qc11, Sz11, Nn11, Hs11, Gs11⟩ := id V_rg
  have hin11 : ¬ ((1 : Int32) < 0 ∨ cl11.slots.size ≤ ((1 : Int32)).toNatClampNeg) := inb_of Sz11 ⟨by decide, by decide⟩
  obtain ⟨T12, h12, X12, e12, W12, st12⟩ := stR X9 hx hZ e9 Ar11 (j := (1 : Int32)) hin11 rfl (Sto.ofV Ar11 qc11 OV (Ins.self E_en)) (g := (mkF m 126 #[.val (.ref o), .val (.ref en), .unset, .unset] [(.ref en), (.int (1 : Int32)), (.ref rg)])) rfl rfl (hb hby d7_126)
  have N12 := Fr.snoc X12 N2 g_rg
  have Vn12 := Arv.set Ar11 qc11 Sz11 Nn11 Hs11 Gs11 rfl W12 1 rfl (Nat.le_of_ble_eq_true rfl)
  have E_o_x13 := E_o.wr W12
  have F_ring_x14 := F_ring.other W12 (Or.inl ne_o_rg)
  have F_first_x15 := F_first.other W12 (Or.inl ne_o_rg)
  have F_head_x16 := F_head.other W12 (Or.inl ne_o_rg)
  have F_size_x17 := F_size.other W12 (Or.inl ne_o_rg)
  have E_en_x19 := E_en.wr W12
  have F_en_x20 := F_en.other W12 (Or.inl ne_en_rg)
  have K21 : Keep h0 h12 [o, rg] := (Keep.refl h0 [o, rg]).wr W12 (Or.inl (List.mem_of_getElem? (i := 1) rfl))
  refine own_st st12 ?_
  show own_Go p.tables e below _ (T12.setTop (mkF m 127 #[.val (.ref o), .val (.ref en), .unset, .unset] []))
  refine own_st (fun _ k' => XS.aloadN X12.here hx rfl (hb hby d7_127) rfl rfl k') ?_
  show own_Go p.tables e below _ (T12.setTop (mkF m 128 #[.val (.ref o), .val (.ref en), .unset, .unset] [(.ref o)]))
  refine own_st (fun _ k' => XS.dup X12.here hx rfl (hb hby d7_128) rfl rfl k') ?_
  show own_Go p.tables e below _ (T12.setTop (mkF m 129 #[.val (.ref o), .val (.ref en), .unset, .unset] [(.ref o), (.ref o)]))
  obtain ⟨T22, X22, e22, st22⟩ := getF X12 hx hZ hown (host := "") (Or.inl (hw _ (List.mem_of_getElem? (i := 50) rfl))) Via.refl e12 F_size_x17 (g := (mkF m 129 #[.val (.ref o), .val (.ref en), .unset, .unset] [(.ref o), (.ref o)])) rfl rfl (hb hby d7_129)
  refine own_st st22 ?_
  show own_Go p.tables e below _ (T22.setTop (mkF m 132 #[.val (.ref o), .val (.ref en), .unset, .unset] [(.int (1 : Int32)), (.ref o)]))
  refine own_st (fun _ k' => XS.iconst X22.here hx rfl (hb hby d7_132) k') ?_
  show own_Go p.tables e below _ (T22.setTop (mkF m 133 #[.val (.ref o), .val (.ref en), .unset, .unset] [(.int (1 : Int32)), (.int (1 : Int32)), (.ref o)]))
  refine own_st (fun _ k' => XS.iadd X22.here hx rfl (hb hby d7_133) rfl k') ?_
  show own_Go p.tables e below _ (T22.setTop (mkF m 134 #[.val (.ref o), .val (.ref en), .unset, .unset] [(.int (2 : Int32)), (.ref o)]))
  obtain ⟨T23, h23, X23, e23, W23, st23⟩ := putF X22 hx hZ hown (host := "") (Or.inl (hw _ (List.mem_of_getElem? (i := 50) rfl))) Via.refl e22 F_size_x17 E_o_x13 (Or.inl (hw _ (List.mem_of_getElem? (i := 51) rfl))) (hw _ (List.mem_of_getElem? (i := 27) rfl)) (ty := .int) (by decide) rfl rfl (g := (mkF m 134 #[.val (.ref o), .val (.ref en), .unset, .unset] [(.int (2 : Int32)), (.ref o)])) rfl rfl (hb hby d7_134)
  have N23 := Fr.snoc X23 N12 g_o
  have E_o_x24 := E_o_x13.wr W23
  have F_ring_x25 := F_ring_x14.other W23 (Or.inr (slot_ne (Or.inl (hw _ (List.mem_of_getElem? (i := 36) rfl))) (Or.inl (hw _ (List.mem_of_getElem? (i := 51) rfl))) (by decide) (t := (.array (.object "com/example/penumbra/penumbra/order/SequenceLog$Entry"))) (t' := .int) (by decide) (by decide)))
  have F_first_x26 := F_first_x15.other W23 (Or.inr (slot_ne (Or.inl (hw _ (List.mem_of_getElem? (i := 38) rfl))) (Or.inl (hw _ (List.mem_of_getElem? (i := 51) rfl))) (by decide) (t := .long) (t' := .int) (by decide) (by decide)))
  have F_head_x27 := F_head_x16.other W23 (Or.inr (slot_ne (Or.inl (hw _ (List.mem_of_getElem? (i := 49) rfl))) (Or.inl (hw _ (List.mem_of_getElem? (i := 51) rfl))) (by decide) (t := .int) (t' := .int) (by decide) (by decide)))
  have F_size_x28 := F_size_x17.same W23
  have Vn12_x29 := Vn12.other W23 (Ne.symm ne_o_rg)
  have E_en_x30 := E_en_x19.wr W23
  have F_en_x31 := F_en_x20.other W23 (Or.inl ne_en_o)
  have K32 : Keep h0 h23 [o, rg] := K21.wr W23 (Or.inl (List.mem_of_getElem? (i := 0) rfl))
  refine own_st st23 ?_
  show own_Go p.tables e below _ (T23.setTop (mkF m 137 #[.val (.ref o), .val (.ref en), .unset, .unset] []))
  exact own_retV X23 hx Bd.returns (hb hby d7_137) Bd.notSynchronized ⟨rfl, N23, by rw [e23]; exact K32, by rw [e23]; exact E_o_x24, by rw [e23]; exact F_ring_x25, by rw [e23]; exact F_first_x26, by rw [e23]; exact F_head_x27, by rw [e23]; exact F_size_x28, by rw [e23]; exact Vn12_x29⟩ (by decide) (by decide)

theorem ef_rmP2 (m : MethodId) (x0 : Addr) (x1 : Addr) : entryFrame m #[(.ref x0), (.ref x1)] 4 = mkF m 0 #[.val (.ref x0), .val (.ref x1), .unset, .unset] [] := by first | (simp [entryFrame, mkF, argsToLocals, Value.category]; done) | rfl
def Q_rmP2 (Z : State) (o en : Addr) (F nu : Int64) (rg : Addr) (kk : ClassId) (v0 v1 v2 : Value) (h0 : Heap) (n0 : Nat) (v : Option Value) (h : Heap) (L : List Loc) : Prop := v = none ∧ Fr n0 L ∧ Keep h0 h [o, rg] ∧ Exa Z h o "com/example/penumbra/penumbra/order/SequenceLog" ∧ Fld Z h o "com/example/penumbra/penumbra/order/SequenceLog" "ring" "[Lcom/example/penumbra/penumbra/order/SequenceLog$Entry;" (.ref rg) ∧ Fld Z h o "com/example/penumbra/penumbra/order/SequenceLog" "first" "J" (.long F) ∧ Fld Z h o "com/example/penumbra/penumbra/order/SequenceLog" "head" "I" (.int (0 : Int32)) ∧ Fld Z h o "com/example/penumbra/penumbra/order/SequenceLog" "size" "I" (.int (3 : Int32)) ∧ Arv Z h rg kk (.object "com/example/penumbra/penumbra/order/SequenceLog$Entry") (1024 : Int32) [v0, v1, (.ref en)] .null
def K_rmP2 (Z : State) (o en : Addr) (F nu : Int64) (rg : Addr) (kk : ClassId) (v0 v1 v2 : Value) (h0 : Heap) (n0 : Nat) (s : State) : Outcome → State → Prop := fun oo U' => ∃ v L, oo = .returned v ∧ Q_rmP2 Z o en F nu rg kk v0 v1 v2 h0 n0 v U'.heap L ∧ FrameEnd s oo U' L ({ frames := 1, cells := 0, slots := 0, locals := 14 } : Room).cells ({ frames := 1, cells := 0, slots := 0, locals := 14 } : Room).slots
set_option maxRecDepth 65536 in
set_option maxHeartbeats 40000000 in
theorem rmP2 (l : Launch) (Z : State) (a0 : Array Value) (hw : ∀ d ∈ tables_1, d.before a0 Z = true) (ws : List Jvm.Cond) (o en : Addr) (F nu : Int64) (rg : Addr) (kk : ClassId) (v0 v1 v2 : Value) (h0 : Heap) (n0 : Nat) (Z0 : n0 ≤ h0.size) (E_o : Exa Z h0 o "com/example/penumbra/penumbra/order/SequenceLog") (F_ring : Fld Z h0 o "com/example/penumbra/penumbra/order/SequenceLog" "ring" "[Lcom/example/penumbra/penumbra/order/SequenceLog$Entry;" (.ref rg)) (F_first : Fld Z h0 o "com/example/penumbra/penumbra/order/SequenceLog" "first" "J" (.long F)) (F_head : Fld Z h0 o "com/example/penumbra/penumbra/order/SequenceLog" "head" "I" (.int (0 : Int32))) (F_size : Fld Z h0 o "com/example/penumbra/penumbra/order/SequenceLog" "size" "I" (.int (2 : Int32))) (V_rg : Arv Z h0 rg kk (.object "com/example/penumbra/penumbra/order/SequenceLog$Entry") (1024 : Int32) [v0, v1, v2] .null) (OV : Ovr Z kk "com/example/penumbra/penumbra/order/SequenceLog$Entry") (ne_o_rg : o ≠ rg) (g_o : n0 ≤ o) (g_rg : n0 ≤ rg) (E_en : Exa Z h0 en "com/example/penumbra/penumbra/order/SequenceLog$Entry") (F_en : Fld Z h0 en "com/example/penumbra/penumbra/order/SequenceLog$Entry" "number" "J" (.long nu)) (ne_en_o : en ≠ o) (ne_en_rg : en ≠ rg) (hnu : nu = (((F + ((2 : Int32).toInt64)) - (1 : Int64)) + (1 : Int64))) :
    MetFree l (⟨"com/example/penumbra/penumbra/order/SequenceLog", "append", "(Lcom/example/penumbra/penumbra/order/SequenceLog$Entry;)V"⟩ : MethodName) (head1 (Jvm.Cond.code (⟨"com/example/penumbra/penumbra/order/SequenceLog", "append", "(Lcom/example/penumbra/penumbra/order/SequenceLog$Entry;)V"⟩ : MethodName) prog_129_method_5_code 4 none :: ws) ({ frames := 1, cells := 0, slots := 0, locals := 14 } : Room)) (fun a U => a = #[(.ref o), (.ref en)] ∧ Z.Warmed39 U.vm ∧ U.heap = h0) (fun _ _ _ _ _ => True) (fun _ U oo U' => ∃ v L, oo = .returned v ∧ Q_rmP2 Z o en F nu rg kk v0 v1 v2 h0 n0 v U'.heap L ∧ FrameEnd U oo U' L ({ frames := 1, cells := 0, slots := 0, locals := 14 } : Room).cells ({ frames := 1, cells := 0, slots := 0, locals := 14 } : Room).slots) := by
  refine MetFree.of_bodySF (plainFor_of_name pn_com_example_penumbra_penumbra_order_SequenceLog) hisR ?_
  intro p e s m args below meth c s₁ Bd hml0 hP hK
  obtain ⟨rfl, hZ, hh⟩ := hP
  have hx := Bd.exec
  have hby := Bd.bytes
  have hml : c.maxLocals = 4 := hml0
  have hown : s.vm.findClass "com/example/penumbra/penumbra/order/SequenceLog" = some m.cls := findClass_of_methodNamed Bd.named
  have hnm := (name_of_methodNamed Bd.named Bd.method).1
  have X0 : Stand p l e ({ frames := 1, cells := 0, slots := 0, locals := 14 } : Room) s m #[(.ref o), (.ref en)] below meth c s₁ [] 0 0 := Stand.of_body Bd
  have e0 : s₁.heap = h0 := by rw [← hh, Bd.state]; rfl
  have N0 := Fr.nil n0
  refine own_st (K := (K_rmP2 Z o en F nu rg kk v0 v1 v2 h0 n0 s)) (fun t' k' => castTop (ef_rmP2 m o en) k') ?_
  show own_Go p.tables e below _ (s₁.setTop (mkF m 0 #[.val (.ref o), .val (.ref en), .unset, .unset] []))
  refine own_st (fun _ k' => XS.aloadN X0.here hx rfl (hb hby d7_0) rfl rfl k') ?_
  show own_Go p.tables e below _ (s₁.setTop (mkF m 1 #[.val (.ref o), .val (.ref en), .unset, .unset] [(.ref en)]))
  obtain ⟨cq1, kq1, q1a, q1b, q1c⟩ := isOf hZ e0 E_en
  obtain ⟨_, _, ⟨T1, L1, k1, n1⟩, -, X1, ⟨Lc1, hQ1, l1, y1, z1⟩, st1⟩ := X0.virtualBack hx (y := (⟨"com/example/penumbra/penumbra/order/SequenceLog$Entry", "number", "()J"⟩ : MethodName)) (z := (⟨"com/example/penumbra/penumbra/order/SequenceLog$Entry", "number", "()J"⟩ : MethodName)) hown (mvT hZ (hw _ (List.mem_of_getElem? (i := 57) rfl))) (mvT hZ (hw _ (List.mem_of_getElem? (i := 58) rfl))) (notFace_of_selects (args := #[]) (mvT hZ (hw _ (List.mem_of_getElem? (i := 60) rfl)))) (mvT hZ (hw _ (List.mem_of_getElem? (i := 60) rfl))) (mvT hZ (hw _ (List.mem_of_getElem? (i := 59) rfl))) (by decide) (backOf (W := 0) (rmNu l Z a0 hw [] en nu h0 n0 Z0 F_en) hZ (hw _ (List.mem_of_getElem? (i := 61) rfl)) (hw _ (List.mem_of_getElem? (i := 5) rfl)) (by decide) (by decide)) q1a q1c (g := (mkF m 1 #[.val (.ref o), .val (.ref en), .unset, .unset] [(.ref en)])) rfl (by rw [hml]; rfl) (Steps.refl _) (argsL := []) (rest := []) (lenOf pd___J rfl) rfl (by show 2 * 0 + _ ≤ _; exact Nat.le_of_eq rfl) (hb hby d7_1) (fun _ _ => ⟨rfl, e0, (by decide : 0 + 0 ≤ _), (by decide : 0 + 0 ≤ _)⟩)
  dsimp only [Pt.U, Pt.locs, Pt.cells, Pt.slots] at X1 l1 y1 z1 st1 hQ1
  subst l1 y1 z1
  obtain ⟨rfl, Nq1, e1⟩ := hQ1
  have N1 := Fr.app N0 Nq1
  refine own_tr st1 ?_
  show own_Go p.tables e below _ (T1.setTop (mkF m 4 #[.val (.ref o), .val (.ref en), .unset, .unset] [(.long nu)]))
  refine own_st (fun _ k' => XS.aloadN X1.here hx rfl (hb hby d7_4) rfl rfl k') ?_
  show own_Go p.tables e below _ (T1.setTop (mkF m 5 #[.val (.ref o), .val (.ref en), .unset, .unset] [(.ref o), (.long nu)]))
  obtain ⟨cq2, kq2, q2a, q2b, q2c⟩ := isOf hZ e1 E_o
  obtain ⟨_, _, ⟨T2, L2, k2, n2⟩, -, X2, ⟨Lc2, hQ2, l2, y2, z2⟩, st2⟩ := X1.virtualBack hx (y := (⟨"com/example/penumbra/penumbra/order/SequenceLog", "last", "()J"⟩ : MethodName)) (z := (⟨"com/example/penumbra/penumbra/order/SequenceLog", "last", "()J"⟩ : MethodName)) hown (mvT hZ (hw _ (List.mem_of_getElem? (i := 62) rfl))) (mvT hZ (hw _ (List.mem_of_getElem? (i := 63) rfl))) (notFace_of_selects (args := #[]) (mvT hZ (hw _ (List.mem_of_getElem? (i := 65) rfl)))) (mvT hZ (hw _ (List.mem_of_getElem? (i := 65) rfl))) (mvT hZ (hw _ (List.mem_of_getElem? (i := 64) rfl))) (by decide) (backOf (W := 2) (rmLa l Z a0 hw [] o F (2 : Int32) h0 n0 Z0 F_first F_size) hZ (hw _ (List.mem_of_getElem? (i := 66) rfl)) (hw _ (List.mem_of_getElem? (i := 28) rfl)) (by decide) (by decide)) q2a q2c (g := (mkF m 5 #[.val (.ref o), .val (.ref en), .unset, .unset] [(.ref o), (.long nu)])) rfl (by rw [hml]; rfl) (Steps.refl _) (argsL := []) (rest := [(.long nu)]) (lenOf pd___J rfl) rfl (by show 2 * 0 + _ ≤ _; exact Nat.le_of_eq rfl) (hb hby d7_5) (fun _ _ => ⟨rfl, e1, (by decide : 0 + 0 ≤ _), (by decide : 0 + 0 ≤ _)⟩)
  dsimp only [Pt.U, Pt.locs, Pt.cells, Pt.slots] at X2 l2 y2 z2 st2 hQ2
  subst l2 y2 z2
  obtain ⟨rfl, Nq2, e2⟩ := hQ2
  have N2 := Fr.app N1 Nq2
  refine own_tr st2 ?_
  show own_Go p.tables e below _ (T2.setTop (mkF m 8 #[.val (.ref o), .val (.ref en), .unset, .unset] [(.long ((F + ((2 : Int32).toInt64)) - (1 : Int64))), (.long nu)]))
  refine own_st (fun _ k' => XS.lconst X2.here hx rfl (hb hby d7_8) k') ?_
  show own_Go p.tables e below _ (T2.setTop (mkF m 9 #[.val (.ref o), .val (.ref en), .unset, .unset] [(.long (1 : Int64)), (.long ((F + ((2 : Int32).toInt64)) - (1 : Int64))), (.long nu)]))
  refine own_st (fun _ k' => XS.ladd X2.here hx rfl (hb hby d7_9) rfl k') ?_
  show own_Go p.tables e below _ (T2.setTop (mkF m 10 #[.val (.ref o), .val (.ref en), .unset, .unset] [(.long (((F + ((2 : Int32).toInt64)) - (1 : Int64)) + (1 : Int64))), (.long nu)]))
  refine own_st (fun _ k' => XS.lcmp X2.here hx rfl (hb hby d7_10) rfl k') ?_
  show own_Go p.tables e below _ (T2.setTop (mkF m 11 #[.val (.ref o), .val (.ref en), .unset, .unset] [(.int (lcmpW nu (((F + ((2 : Int32).toInt64)) - (1 : Int64)) + (1 : Int64))))]))
  refine own_st (fun _ k' => XS.ifYes X2.here hx rfl (pc0 := 11) (pc' := 37) rfl (hb hby d7_11) rfl ((if0 _ _).trans (teq ((lw_eq nu (((F + ((2 : Int32).toInt64)) - (1 : Int64)) + (1 : Int64))).mpr hnu)).1) (by decide) (by decide) k') ?_
  show own_Go p.tables e below _ (T2.setTop (mkF m 37 #[.val (.ref o), .val (.ref en), .unset, .unset] []))
  refine own_st (fun _ k' => XS.aloadN X2.here hx rfl (hb hby d7_37) rfl rfl k') ?_
  show own_Go p.tables e below _ (T2.setTop (mkF m 38 #[.val (.ref o), .val (.ref en), .unset, .unset] [(.ref o)]))
  obtain ⟨T3, X3, e3, st3⟩ := getF X2 hx hZ hown (host := "") (Or.inl (hw _ (List.mem_of_getElem? (i := 50) rfl))) Via.refl e2 F_size (g := (mkF m 38 #[.val (.ref o), .val (.ref en), .unset, .unset] [(.ref o)])) rfl rfl (hb hby d7_38)
  refine own_st st3 ?_
  show own_Go p.tables e below _ (T3.setTop (mkF m 41 #[.val (.ref o), .val (.ref en), .unset, .unset] [(.int (2 : Int32))]))
  refine own_st (fun _ k' => XS.aloadN X3.here hx rfl (hb hby d7_41) rfl rfl k') ?_
  show own_Go p.tables e below _ (T3.setTop (mkF m 42 #[.val (.ref o), .val (.ref en), .unset, .unset] [(.ref o), (.int (2 : Int32))]))
  obtain ⟨T4, X4, e4, st4⟩ := getF X3 hx hZ hown (host := "") (Or.inl (hw _ (List.mem_of_getElem? (i := 35) rfl))) Via.refl e3 F_ring (g := (mkF m 42 #[.val (.ref o), .val (.ref en), .unset, .unset] [(.ref o), (.int (2 : Int32))])) rfl rfl (hb hby d7_42)
  refine own_st st4 ?_
  show own_Go p.tables e below _ (T4.setTop (mkF m 45 #[.val (.ref o), .val (.ref en), .unset, .unset] [(.ref rg), (.int (2 : Int32))]))
  obtain ⟨cl5, Ar5, qc5, Sz5, Nn5, Hs5, Gs5⟩ := id V_rg
  refine own_st (fun t' k' => X4.arraylength hx (by rw [e4]; exact Ar5.1) (State.isArrayOf_alike hZ.alike Ar5.2.1) (g := (mkF m 45 #[.val (.ref o), .val (.ref en), .unset, .unset] [(.ref rg), (.int (2 : Int32))])) rfl rfl (hb hby d7_45) t' k') ?_
  rw [len_of Sz5 Nn5]
  show own_Go p.tables e below _ (T4.setTop (mkF m 46 #[.val (.ref o), .val (.ref en), .unset, .unset] [(.int (1024 : Int32)), (.int (2 : Int32))]))
  refine own_st (fun _ k' => XS.icmpYes X4.here hx rfl (pc0 := 46) (pc' := 106) rfl (hb hby d7_46) rfl (feq (by decide : ¬ (2 : Int32) = (1024 : Int32))).2 (by decide) (by decide) k') ?_
  show own_Go p.tables e below _ (T4.setTop (mkF m 106 #[.val (.ref o), .val (.ref en), .unset, .unset] []))
  refine own_st (fun _ k' => XS.aloadN X4.here hx rfl (hb hby d7_106) rfl rfl k') ?_
  show own_Go p.tables e below _ (T4.setTop (mkF m 107 #[.val (.ref o), .val (.ref en), .unset, .unset] [(.ref o)]))
  obtain ⟨T6, X6, e6, st6⟩ := getF X4 hx hZ hown (host := "") (Or.inl (hw _ (List.mem_of_getElem? (i := 35) rfl))) Via.refl e4 F_ring (g := (mkF m 107 #[.val (.ref o), .val (.ref en), .unset, .unset] [(.ref o)])) rfl rfl (hb hby d7_107)
  refine own_st st6 ?_
  show own_Go p.tables e below _ (T6.setTop (mkF m 110 #[.val (.ref o), .val (.ref en), .unset, .unset] [(.ref rg)]))
  refine own_st (fun _ k' => XS.aloadN X6.here hx rfl (hb hby d7_110) rfl rfl k') ?_
  show own_Go p.tables e below _ (T6.setTop (mkF m 111 #[.val (.ref o), .val (.ref en), .unset, .unset] [(.ref o), (.ref rg)]))
  obtain ⟨T7, X7, e7, st7⟩ := getF X6 hx hZ hown (host := "") (Or.inl (hw _ (List.mem_of_getElem? (i := 48) rfl))) Via.refl e6 F_head (g := (mkF m 111 #[.val (.ref o), .val (.ref en), .unset, .unset] [(.ref o), (.ref rg)])) rfl rfl (hb hby d7_111)
  refine own_st st7 ?_
  show own_Go p.tables e below _ (T7.setTop (mkF m 114 #[.val (.ref o), .val (.ref en), .unset, .unset] [(.int (0 : Int32)), (.ref rg)]))
  refine own_st (fun _ k' => XS.aloadN X7.here hx rfl (hb hby d7_114) rfl rfl k') ?_
  show own_Go p.tables e below _ (T7.setTop (mkF m 115 #[.val (.ref o), .val (.ref en), .unset, .unset] [(.ref o), (.int (0 : Int32)), (.ref rg)]))
  obtain ⟨T8, X8, e8, st8⟩ := getF X7 hx hZ hown (host := "") (Or.inl (hw _ (List.mem_of_getElem? (i := 50) rfl))) Via.refl e7 F_size (g := (mkF m 115 #[.val (.ref o), .val (.ref en), .unset, .unset] [(.ref o), (.int (0 : Int32)), (.ref rg)])) rfl rfl (hb hby d7_115)
  refine own_st st8 ?_
  show own_Go p.tables e below _ (T8.setTop (mkF m 118 #[.val (.ref o), .val (.ref en), .unset, .unset] [(.int (2 : Int32)), (.int (0 : Int32)), (.ref rg)]))
  refine own_st (fun _ k' => XS.iadd X8.here hx rfl (hb hby d7_118) rfl k') ?_
  show own_Go p.tables e below _ (T8.setTop (mkF m 119 #[.val (.ref o), .val (.ref en), .unset, .unset] [(.int (2 : Int32)), (.ref rg)]))
  refine own_st (fun _ k' => XS.aloadN X8.here hx rfl (hb hby d7_119) rfl rfl k') ?_
  show own_Go p.tables e below _ (T8.setTop (mkF m 120 #[.val (.ref o), .val (.ref en), .unset, .unset] [(.ref o), (.int (2 : Int32)), (.ref rg)]))
  obtain ⟨T9, X9, e9, st9⟩ := getF X8 hx hZ hown (host := "") (Or.inl (hw _ (List.mem_of_getElem? (i := 35) rfl))) Via.refl e8 F_ring (g := (mkF m 120 #[.val (.ref o), .val (.ref en), .unset, .unset] [(.ref o), (.int (2 : Int32)), (.ref rg)])) rfl rfl (hb hby d7_120)
  refine own_st st9 ?_
  show own_Go p.tables e below _ (T9.setTop (mkF m 123 #[.val (.ref o), .val (.ref en), .unset, .unset] [(.ref rg), (.int (2 : Int32)), (.ref rg)]))
  obtain ⟨cl10, Ar10, qc10, Sz10, Nn10, Hs10, Gs10⟩ := id V_rg
  refine own_st (fun t' k' => X9.arraylength hx (by rw [e9]; exact Ar10.1) (State.isArrayOf_alike hZ.alike Ar10.2.1) (g := (mkF m 123 #[.val (.ref o), .val (.ref en), .unset, .unset] [(.ref rg), (.int (2 : Int32)), (.ref rg)])) rfl rfl (hb hby d7_123) t' k') ?_
  rw [len_of Sz10 Nn10]
  show own_Go p.tables e below _ (T9.setTop (mkF m 124 #[.val (.ref o), .val (.ref en), .unset, .unset] [(.int (1024 : Int32)), (.int (2 : Int32)), (.ref rg)]))
  refine own_st (fun _ k' => iremM X9 hx rfl (hb hby d7_124) rfl (by decide) k') ?_
  show own_Go p.tables e below _ (T9.setTop (mkF m 125 #[.val (.ref o), .val (.ref en), .unset, .unset] [(.int (2 : Int32)), (.ref rg)]))
  refine own_st (fun _ k' => XS.aloadN X9.here hx rfl (hb hby d7_125) rfl rfl k') ?_
  show own_Go p.tables e below _ (T9.setTop (mkF m 126 #[.val (.ref o), .val (.ref en), .unset, .unset] [(.ref en), (.int (2 : Int32)), (.ref rg)]))
  obtain ⟨cl11, Ar11, qc11, Sz11, Nn11, Hs11, Gs11⟩ := id V_rg
  have hin11 : ¬ ((2 : Int32) < 0 ∨ cl11.slots.size ≤ ((2 : Int32)).toNatClampNeg) := inb_of Sz11 ⟨by decide, by decide⟩
  obtain ⟨T12, h12, X12, e12, W12, st12⟩ := stR X9 hx hZ e9 Ar11 (j := (2 : Int32)) hin11 rfl (Sto.ofV Ar11 qc11 OV (Ins.self E_en)) (g := (mkF m 126 #[.val (.ref o), .val (.ref en), .unset, .unset] [(.ref en), (.int (2 : Int32)), (.ref rg)])) rfl rfl (hb hby d7_126)
  have N12 := Fr.snoc X12 N2 g_rg
  have Vn12 := Arv.set Ar11 qc11 Sz11 Nn11 Hs11 Gs11 rfl W12 2 rfl (Nat.le_of_ble_eq_true rfl)
  have E_o_x13 := E_o.wr W12
  have F_ring_x14 := F_ring.other W12 (Or.inl ne_o_rg)
  have F_first_x15 := F_first.other W12 (Or.inl ne_o_rg)
  have F_head_x16 := F_head.other W12 (Or.inl ne_o_rg)
  have F_size_x17 := F_size.other W12 (Or.inl ne_o_rg)
  have E_en_x19 := E_en.wr W12
  have F_en_x20 := F_en.other W12 (Or.inl ne_en_rg)
  have K21 : Keep h0 h12 [o, rg] := (Keep.refl h0 [o, rg]).wr W12 (Or.inl (List.mem_of_getElem? (i := 1) rfl))
  refine own_st st12 ?_
  show own_Go p.tables e below _ (T12.setTop (mkF m 127 #[.val (.ref o), .val (.ref en), .unset, .unset] []))
  refine own_st (fun _ k' => XS.aloadN X12.here hx rfl (hb hby d7_127) rfl rfl k') ?_
  show own_Go p.tables e below _ (T12.setTop (mkF m 128 #[.val (.ref o), .val (.ref en), .unset, .unset] [(.ref o)]))
  refine own_st (fun _ k' => XS.dup X12.here hx rfl (hb hby d7_128) rfl rfl k') ?_
  show own_Go p.tables e below _ (T12.setTop (mkF m 129 #[.val (.ref o), .val (.ref en), .unset, .unset] [(.ref o), (.ref o)]))
  obtain ⟨T22, X22, e22, st22⟩ := getF X12 hx hZ hown (host := "") (Or.inl (hw _ (List.mem_of_getElem? (i := 50) rfl))) Via.refl e12 F_size_x17 (g := (mkF m 129 #[.val (.ref o), .val (.ref en), .unset, .unset] [(.ref o), (.ref o)])) rfl rfl (hb hby d7_129)
  refine own_st st22 ?_
  show own_Go p.tables e below _ (T22.setTop (mkF m 132 #[.val (.ref o), .val (.ref en), .unset, .unset] [(.int (2 : Int32)), (.ref o)]))
  refine own_st (fun _ k' => XS.iconst X22.here hx rfl (hb hby d7_132) k') ?_
  show own_Go p.tables e below _ (T22.setTop (mkF m 133 #[.val (.ref o), .val (.ref en), .unset, .unset] [(.int (1 : Int32)), (.int (2 : Int32)), (.ref o)]))
  refine own_st (fun _ k' => XS.iadd X22.here hx rfl (hb hby d7_133) rfl k') ?_
  show own_Go p.tables e below _ (T22.setTop (mkF m 134 #[.val (.ref o), .val (.ref en), .unset, .unset] [(.int (3 : Int32)), (.ref o)]))
  obtain ⟨T23, h23, X23, e23, W23, st23⟩ := putF X22 hx hZ hown (host := "") (Or.inl (hw _ (List.mem_of_getElem? (i := 50) rfl))) Via.refl e22 F_size_x17 E_o_x13 (Or.inl (hw _ (List.mem_of_getElem? (i := 51) rfl))) (hw _ (List.mem_of_getElem? (i := 27) rfl)) (ty := .int) (by decide) rfl rfl (g := (mkF m 134 #[.val (.ref o), .val (.ref en), .unset, .unset] [(.int (3 : Int32)), (.ref o)])) rfl rfl (hb hby d7_134)
  have N23 := Fr.snoc X23 N12 g_o
  have E_o_x24 := E_o_x13.wr W23
  have F_ring_x25 := F_ring_x14.other W23 (Or.inr (slot_ne (Or.inl (hw _ (List.mem_of_getElem? (i := 36) rfl))) (Or.inl (hw _ (List.mem_of_getElem? (i := 51) rfl))) (by decide) (t := (.array (.object "com/example/penumbra/penumbra/order/SequenceLog$Entry"))) (t' := .int) (by decide) (by decide)))
  have F_first_x26 := F_first_x15.other W23 (Or.inr (slot_ne (Or.inl (hw _ (List.mem_of_getElem? (i := 38) rfl))) (Or.inl (hw _ (List.mem_of_getElem? (i := 51) rfl))) (by decide) (t := .long) (t' := .int) (by decide) (by decide)))
  have F_head_x27 := F_head_x16.other W23 (Or.inr (slot_ne (Or.inl (hw _ (List.mem_of_getElem? (i := 49) rfl))) (Or.inl (hw _ (List.mem_of_getElem? (i := 51) rfl))) (by decide) (t := .int) (t' := .int) (by decide) (by decide)))
  have F_size_x28 := F_size_x17.same W23
  have Vn12_x29 := Vn12.other W23 (Ne.symm ne_o_rg)
  have E_en_x30 := E_en_x19.wr W23
  have F_en_x31 := F_en_x20.other W23 (Or.inl ne_en_o)
  have K32 : Keep h0 h23 [o, rg] := K21.wr W23 (Or.inl (List.mem_of_getElem? (i := 0) rfl))
  refine own_st st23 ?_
  show own_Go p.tables e below _ (T23.setTop (mkF m 137 #[.val (.ref o), .val (.ref en), .unset, .unset] []))
  exact own_retV X23 hx Bd.returns (hb hby d7_137) Bd.notSynchronized ⟨rfl, N23, by rw [e23]; exact K32, by rw [e23]; exact E_o_x24, by rw [e23]; exact F_ring_x25, by rw [e23]; exact F_first_x26, by rw [e23]; exact F_head_x27, by rw [e23]; exact F_size_x28, by rw [e23]; exact Vn12_x29⟩ (by decide) (by decide)

theorem d10_0 : decode prog_129_method_7_code 0 = .ok (.aload_n 0, 1) := by decide +kernel
theorem d10_1 : decode prog_129_method_7_code 1 = .ok (.getfield 19, 3) := by decide +kernel
theorem d10_4 : decode prog_129_method_7_code 4 = .ok (.ifCond .le 61, 3) := by decide +kernel
theorem d10_65 : decode prog_129_method_7_code 65 = .ok (.return_, 1) := by decide +kernel
theorem ef_rmD0 (m : MethodId) (x0 : Addr) (x1 : Int64) : entryFrame m #[(.ref x0), (.long x1)] 3 = mkF m 0 #[.val (.ref x0), .val (.long x1), .second] [] := by first | (simp [entryFrame, mkF, argsToLocals, Value.category]; done) | rfl
def Q_rmD0 (Z : State) (o : Addr) (n F : Int64) (rg : Addr) (kk : ClassId) (v0 v1 v2 : Value) (h0 : Heap) (n0 : Nat) (v : Option Value) (h : Heap) (L : List Loc) : Prop := v = none ∧ Fr n0 L ∧ Keep h0 h [o, rg] ∧ ((Exa Z h o "com/example/penumbra/penumbra/order/SequenceLog" ∧ Fld Z h o "com/example/penumbra/penumbra/order/SequenceLog" "ring" "[Lcom/example/penumbra/penumbra/order/SequenceLog$Entry;" (.ref rg) ∧ Fld Z h o "com/example/penumbra/penumbra/order/SequenceLog" "first" "J" (.long F) ∧ Fld Z h o "com/example/penumbra/penumbra/order/SequenceLog" "head" "I" (.int (0 : Int32)) ∧ Fld Z h o "com/example/penumbra/penumbra/order/SequenceLog" "size" "I" (.int (0 : Int32)) ∧ Arv Z h rg kk (.object "com/example/penumbra/penumbra/order/SequenceLog$Entry") (1024 : Int32) [v0, v1, v2] .null))
def K_rmD0 (Z : State) (o : Addr) (n F : Int64) (rg : Addr) (kk : ClassId) (v0 v1 v2 : Value) (h0 : Heap) (n0 : Nat) (s : State) : Outcome → State → Prop := fun oo U' => ∃ v L, oo = .returned v ∧ Q_rmD0 Z o n F rg kk v0 v1 v2 h0 n0 v U'.heap L ∧ FrameEnd s oo U' L ({ frames := 0, cells := 0, slots := 0, locals := 0 } : Room).cells ({ frames := 0, cells := 0, slots := 0, locals := 0 } : Room).slots
set_option maxRecDepth 65536 in
set_option maxHeartbeats 40000000 in
theorem rmD0 (l : Launch) (Z : State) (a0 : Array Value) (hw : ∀ d ∈ tables_1, d.before a0 Z = true) (ws : List Jvm.Cond) (o : Addr) (n F : Int64) (rg : Addr) (kk : ClassId) (v0 v1 v2 : Value) (h0 : Heap) (n0 : Nat) (Z0 : n0 ≤ h0.size) (E_o : Exa Z h0 o "com/example/penumbra/penumbra/order/SequenceLog") (F_ring : Fld Z h0 o "com/example/penumbra/penumbra/order/SequenceLog" "ring" "[Lcom/example/penumbra/penumbra/order/SequenceLog$Entry;" (.ref rg)) (F_first : Fld Z h0 o "com/example/penumbra/penumbra/order/SequenceLog" "first" "J" (.long F)) (F_head : Fld Z h0 o "com/example/penumbra/penumbra/order/SequenceLog" "head" "I" (.int (0 : Int32))) (F_size : Fld Z h0 o "com/example/penumbra/penumbra/order/SequenceLog" "size" "I" (.int (0 : Int32))) (V_rg : Arv Z h0 rg kk (.object "com/example/penumbra/penumbra/order/SequenceLog$Entry") (1024 : Int32) [v0, v1, v2] .null) (OV : Ovr Z kk "com/example/penumbra/penumbra/order/SequenceLog$Entry") (ne_o_rg : o ≠ rg) (g_o : n0 ≤ o) (g_rg : n0 ≤ rg) :
    MetFree l (⟨"com/example/penumbra/penumbra/order/SequenceLog", "dropUpTo", "(J)V"⟩ : MethodName) (head1 (Jvm.Cond.code (⟨"com/example/penumbra/penumbra/order/SequenceLog", "dropUpTo", "(J)V"⟩ : MethodName) prog_129_method_7_code 3 none :: ws) ({ frames := 0, cells := 0, slots := 0, locals := 0 } : Room)) (fun a U => a = #[(.ref o), (.long n)] ∧ Z.Warmed39 U.vm ∧ U.heap = h0) (fun _ _ _ _ _ => True) (fun _ U oo U' => ∃ v L, oo = .returned v ∧ Q_rmD0 Z o n F rg kk v0 v1 v2 h0 n0 v U'.heap L ∧ FrameEnd U oo U' L ({ frames := 0, cells := 0, slots := 0, locals := 0 } : Room).cells ({ frames := 0, cells := 0, slots := 0, locals := 0 } : Room).slots) := by
  refine MetFree.of_bodySF (plainFor_of_name pn_com_example_penumbra_penumbra_order_SequenceLog) hisR ?_
  intro p e s m args below meth c s₁ Bd hml0 hP hK
  obtain ⟨rfl, hZ, hh⟩ := hP
  have hx := Bd.exec
  have hby := Bd.bytes
  have hml : c.maxLocals = 3 := hml0
  have hown : s.vm.findClass "com/example/penumbra/penumbra/order/SequenceLog" = some m.cls := findClass_of_methodNamed Bd.named
  have hnm := (name_of_methodNamed Bd.named Bd.method).1
  have X0 : Stand p l e ({ frames := 0, cells := 0, slots := 0, locals := 0 } : Room) s m #[(.ref o), (.long n)] below meth c s₁ [] 0 0 := Stand.of_body Bd
  have e0 : s₁.heap = h0 := by rw [← hh, Bd.state]; rfl
  have N0 := Fr.nil n0
  refine own_st (K := (K_rmD0 Z o n F rg kk v0 v1 v2 h0 n0 s)) (fun t' k' => castTop (ef_rmD0 m o n) k') ?_
  show own_Go p.tables e below _ (s₁.setTop (mkF m 0 #[.val (.ref o), .val (.long n), .second] []))
  refine own_st (fun _ k' => XS.aloadN X0.here hx rfl (hb hby d10_0) rfl rfl k') ?_
  show own_Go p.tables e below _ (s₁.setTop (mkF m 1 #[.val (.ref o), .val (.long n), .second] [(.ref o)]))
  obtain ⟨T1, X1, e1, st1⟩ := getF X0 hx hZ hown (host := "") (Or.inl (hw _ (List.mem_of_getElem? (i := 50) rfl))) Via.refl e0 F_size (g := (mkF m 1 #[.val (.ref o), .val (.long n), .second] [(.ref o)])) rfl rfl (hb hby d10_1)
  refine own_st st1 ?_
  show own_Go p.tables e below _ (T1.setTop (mkF m 4 #[.val (.ref o), .val (.long n), .second] [(.int (0 : Int32))]))
  refine own_st (fun _ k' => XS.ifYes X1.here hx rfl (pc0 := 4) (pc' := 65) rfl (hb hby d10_4) rfl ((if0 _ _).trans (flt (by decide : ¬ (0 : Int32) < (0 : Int32))).2.2.2) (by decide) (by decide) k') ?_
  show own_Go p.tables e below _ (T1.setTop (mkF m 65 #[.val (.ref o), .val (.long n), .second] []))
  exact own_retV X1 hx Bd.returns (hb hby d10_65) Bd.notSynchronized ⟨rfl, N0, by rw [e1]; exact (Keep.refl h0 [o, rg]), ⟨by rw [e1]; exact E_o, by rw [e1]; exact F_ring, by rw [e1]; exact F_first, by rw [e1]; exact F_head, by rw [e1]; exact F_size, by rw [e1]; exact V_rg⟩⟩ (by decide) (by decide)

theorem d10_7 : decode prog_129_method_7_code 7 = .ok (.aload_n 0, 1) := by decide +kernel
theorem d10_8 : decode prog_129_method_7_code 8 = .ok (.getfield 15, 3) := by decide +kernel
theorem d10_11 : decode prog_129_method_7_code 11 = .ok (.lload_n 1, 1) := by decide +kernel
theorem d10_12 : decode prog_129_method_7_code 12 = .ok (.lcmp, 1) := by decide +kernel
theorem d10_13 : decode prog_129_method_7_code 13 = .ok (.ifCond .gt 52, 3) := by decide +kernel
theorem d10_16 : decode prog_129_method_7_code 16 = .ok (.aload_n 0, 1) := by decide +kernel
theorem d10_17 : decode prog_129_method_7_code 17 = .ok (.getfield 9, 3) := by decide +kernel
theorem d10_20 : decode prog_129_method_7_code 20 = .ok (.aload_n 0, 1) := by decide +kernel
theorem d10_21 : decode prog_129_method_7_code 21 = .ok (.getfield 29, 3) := by decide +kernel
theorem d10_24 : decode prog_129_method_7_code 24 = .ok (.aconst_null, 1) := by decide +kernel
theorem d10_25 : decode prog_129_method_7_code 25 = .ok (.aastore, 1) := by decide +kernel
theorem d10_26 : decode prog_129_method_7_code 26 = .ok (.aload_n 0, 1) := by decide +kernel
theorem d10_27 : decode prog_129_method_7_code 27 = .ok (.aload_n 0, 1) := by decide +kernel
theorem d10_28 : decode prog_129_method_7_code 28 = .ok (.getfield 29, 3) := by decide +kernel
theorem d10_31 : decode prog_129_method_7_code 31 = .ok (.iconst 1, 1) := by decide +kernel
theorem d10_32 : decode prog_129_method_7_code 32 = .ok (.iadd, 1) := by decide +kernel
theorem d10_33 : decode prog_129_method_7_code 33 = .ok (.aload_n 0, 1) := by decide +kernel
theorem d10_34 : decode prog_129_method_7_code 34 = .ok (.getfield 9, 3) := by decide +kernel
theorem d10_37 : decode prog_129_method_7_code 37 = .ok (.arraylength, 1) := by decide +kernel
theorem d10_38 : decode prog_129_method_7_code 38 = .ok (.irem, 1) := by decide +kernel
theorem d10_39 : decode prog_129_method_7_code 39 = .ok (.putfield 29, 3) := by decide +kernel
theorem d10_42 : decode prog_129_method_7_code 42 = .ok (.aload_n 0, 1) := by decide +kernel
theorem d10_43 : decode prog_129_method_7_code 43 = .ok (.dup, 1) := by decide +kernel
theorem d10_44 : decode prog_129_method_7_code 44 = .ok (.getfield 19, 3) := by decide +kernel
theorem d10_47 : decode prog_129_method_7_code 47 = .ok (.iconst 1, 1) := by decide +kernel
theorem d10_48 : decode prog_129_method_7_code 48 = .ok (.isub, 1) := by decide +kernel
theorem d10_49 : decode prog_129_method_7_code 49 = .ok (.putfield 19, 3) := by decide +kernel
theorem d10_52 : decode prog_129_method_7_code 52 = .ok (.aload_n 0, 1) := by decide +kernel
theorem d10_53 : decode prog_129_method_7_code 53 = .ok (.dup, 1) := by decide +kernel
theorem d10_54 : decode prog_129_method_7_code 54 = .ok (.getfield 15, 3) := by decide +kernel
theorem d10_57 : decode prog_129_method_7_code 57 = .ok (.lconst 1, 1) := by decide +kernel
theorem d10_58 : decode prog_129_method_7_code 58 = .ok (.ladd, 1) := by decide +kernel
theorem d10_59 : decode prog_129_method_7_code 59 = .ok (.putfield 15, 3) := by decide +kernel
theorem d10_62 : decode prog_129_method_7_code 62 = .ok (.goto (-62), 3) := by decide +kernel
theorem ef_rmD1 (m : MethodId) (x0 : Addr) (x1 : Int64) : entryFrame m #[(.ref x0), (.long x1)] 3 = mkF m 0 #[.val (.ref x0), .val (.long x1), .second] [] := by first | (simp [entryFrame, mkF, argsToLocals, Value.category]; done) | rfl
def Q_rmD1 (Z : State) (o : Addr) (n F : Int64) (rg : Addr) (kk : ClassId) (v0 v1 v2 : Value) (h0 : Heap) (n0 : Nat) (v : Option Value) (h : Heap) (L : List Loc) : Prop := v = none ∧ Fr n0 L ∧ Keep h0 h [o, rg] ∧ ((n < F ∧ Exa Z h o "com/example/penumbra/penumbra/order/SequenceLog" ∧ Fld Z h o "com/example/penumbra/penumbra/order/SequenceLog" "ring" "[Lcom/example/penumbra/penumbra/order/SequenceLog$Entry;" (.ref rg) ∧ Fld Z h o "com/example/penumbra/penumbra/order/SequenceLog" "first" "J" (.long F) ∧ Fld Z h o "com/example/penumbra/penumbra/order/SequenceLog" "head" "I" (.int (0 : Int32)) ∧ Fld Z h o "com/example/penumbra/penumbra/order/SequenceLog" "size" "I" (.int (1 : Int32)) ∧ Arv Z h rg kk (.object "com/example/penumbra/penumbra/order/SequenceLog$Entry") (1024 : Int32) [v0, v1, v2] .null) ∨ (¬ n < F ∧ Exa Z h o "com/example/penumbra/penumbra/order/SequenceLog" ∧ Fld Z h o "com/example/penumbra/penumbra/order/SequenceLog" "ring" "[Lcom/example/penumbra/penumbra/order/SequenceLog$Entry;" (.ref rg) ∧ Fld Z h o "com/example/penumbra/penumbra/order/SequenceLog" "first" "J" (.long (F + (1 : Int64))) ∧ Fld Z h o "com/example/penumbra/penumbra/order/SequenceLog" "head" "I" (.int (1 : Int32)) ∧ Fld Z h o "com/example/penumbra/penumbra/order/SequenceLog" "size" "I" (.int (0 : Int32)) ∧ Arv Z h rg kk (.object "com/example/penumbra/penumbra/order/SequenceLog$Entry") (1024 : Int32) [.null, v1, v2] .null))
def K_rmD1 (Z : State) (o : Addr) (n F : Int64) (rg : Addr) (kk : ClassId) (v0 v1 v2 : Value) (h0 : Heap) (n0 : Nat) (s : State) : Outcome → State → Prop := fun oo U' => ∃ v L, oo = .returned v ∧ Q_rmD1 Z o n F rg kk v0 v1 v2 h0 n0 v U'.heap L ∧ FrameEnd s oo U' L ({ frames := 0, cells := 0, slots := 0, locals := 0 } : Room).cells ({ frames := 0, cells := 0, slots := 0, locals := 0 } : Room).slots
set_option maxRecDepth 65536 in
set_option maxHeartbeats 40000000 in
theorem rmD1 (l : Launch) (Z : State) (a0 : Array Value) (hw : ∀ d ∈ tables_1, d.before a0 Z = true) (ws : List Jvm.Cond) (o : Addr) (n F : Int64) (rg : Addr) (kk : ClassId) (v0 v1 v2 : Value) (h0 : Heap) (n0 : Nat) (Z0 : n0 ≤ h0.size) (E_o : Exa Z h0 o "com/example/penumbra/penumbra/order/SequenceLog") (F_ring : Fld Z h0 o "com/example/penumbra/penumbra/order/SequenceLog" "ring" "[Lcom/example/penumbra/penumbra/order/SequenceLog$Entry;" (.ref rg)) (F_first : Fld Z h0 o "com/example/penumbra/penumbra/order/SequenceLog" "first" "J" (.long F)) (F_head : Fld Z h0 o "com/example/penumbra/penumbra/order/SequenceLog" "head" "I" (.int (0 : Int32))) (F_size : Fld Z h0 o "com/example/penumbra/penumbra/order/SequenceLog" "size" "I" (.int (1 : Int32))) (V_rg : Arv Z h0 rg kk (.object "com/example/penumbra/penumbra/order/SequenceLog$Entry") (1024 : Int32) [v0, v1, v2] .null) (OV : Ovr Z kk "com/example/penumbra/penumbra/order/SequenceLog$Entry") (ne_o_rg : o ≠ rg) (g_o : n0 ≤ o) (g_rg : n0 ≤ rg) :
    MetFree l (⟨"com/example/penumbra/penumbra/order/SequenceLog", "dropUpTo", "(J)V"⟩ : MethodName) (head1 (Jvm.Cond.code (⟨"com/example/penumbra/penumbra/order/SequenceLog", "dropUpTo", "(J)V"⟩ : MethodName) prog_129_method_7_code 3 none :: ws) ({ frames := 0, cells := 0, slots := 0, locals := 0 } : Room)) (fun a U => a = #[(.ref o), (.long n)] ∧ Z.Warmed39 U.vm ∧ U.heap = h0) (fun _ _ _ _ _ => True) (fun _ U oo U' => ∃ v L, oo = .returned v ∧ Q_rmD1 Z o n F rg kk v0 v1 v2 h0 n0 v U'.heap L ∧ FrameEnd U oo U' L ({ frames := 0, cells := 0, slots := 0, locals := 0 } : Room).cells ({ frames := 0, cells := 0, slots := 0, locals := 0 } : Room).slots) := by
  refine MetFree.of_bodySF (plainFor_of_name pn_com_example_penumbra_penumbra_order_SequenceLog) hisR ?_
  intro p e s m args below meth c s₁ Bd hml0 hP hK
  obtain ⟨rfl, hZ, hh⟩ := hP
  have hx := Bd.exec
  have hby := Bd.bytes
  have hml : c.maxLocals = 3 := hml0
  have hown : s.vm.findClass "com/example/penumbra/penumbra/order/SequenceLog" = some m.cls := findClass_of_methodNamed Bd.named
  have hnm := (name_of_methodNamed Bd.named Bd.method).1
  have X0 : Stand p l e ({ frames := 0, cells := 0, slots := 0, locals := 0 } : Room) s m #[(.ref o), (.long n)] below meth c s₁ [] 0 0 := Stand.of_body Bd
  have e0 : s₁.heap = h0 := by rw [← hh, Bd.state]; rfl
  have N0 := Fr.nil n0
  refine own_st (K := (K_rmD1 Z o n F rg kk v0 v1 v2 h0 n0 s)) (fun t' k' => castTop (ef_rmD1 m o n) k') ?_
  show own_Go p.tables e below _ (s₁.setTop (mkF m 0 #[.val (.ref o), .val (.long n), .second] []))
  refine own_st (fun _ k' => XS.aloadN X0.here hx rfl (hb hby d10_0) rfl rfl k') ?_
  show own_Go p.tables e below _ (s₁.setTop (mkF m 1 #[.val (.ref o), .val (.long n), .second] [(.ref o)]))
  obtain ⟨T1, X1, e1, st1⟩ := getF X0 hx hZ hown (host := "") (Or.inl (hw _ (List.mem_of_getElem? (i := 50) rfl))) Via.refl e0 F_size (g := (mkF m 1 #[.val (.ref o), .val (.long n), .second] [(.ref o)])) rfl rfl (hb hby d10_1)
  refine own_st st1 ?_
  show own_Go p.tables e below _ (T1.setTop (mkF m 4 #[.val (.ref o), .val (.long n), .second] [(.int (1 : Int32))]))
  refine own_st (fun _ k' => XS.ifNo X1.here hx rfl (hb hby d10_4) rfl ((if0 _ _).trans (tlt (by decide : (0 : Int32) < (1 : Int32))).2.2.2) k') ?_
  show own_Go p.tables e below _ (T1.setTop (mkF m 7 #[.val (.ref o), .val (.long n), .second] []))
  refine own_st (fun _ k' => XS.aloadN X1.here hx rfl (hb hby d10_7) rfl rfl k') ?_
  show own_Go p.tables e below _ (T1.setTop (mkF m 8 #[.val (.ref o), .val (.long n), .second] [(.ref o)]))
  obtain ⟨T2, X2, e2, st2⟩ := getF X1 hx hZ hown (host := "") (Or.inl (hw _ (List.mem_of_getElem? (i := 37) rfl))) Via.refl e1 F_first (g := (mkF m 8 #[.val (.ref o), .val (.long n), .second] [(.ref o)])) rfl rfl (hb hby d10_8)
  refine own_st st2 ?_
  show own_Go p.tables e below _ (T2.setTop (mkF m 11 #[.val (.ref o), .val (.long n), .second] [(.long F)]))
  refine own_st (fun _ k' => XS.lloadN X2.here hx rfl (hb hby d10_11) rfl k') ?_
  show own_Go p.tables e below _ (T2.setTop (mkF m 12 #[.val (.ref o), .val (.long n), .second] [(.long n), (.long F)]))
  refine own_st (fun _ k' => XS.lcmp X2.here hx rfl (hb hby d10_12) rfl k') ?_
  show own_Go p.tables e below _ (T2.setTop (mkF m 13 #[.val (.ref o), .val (.long n), .second] [(.int (lcmpW F n))]))
  by_cases hc3 : n < F
  ·  -- pc 13, n < F
    refine own_st (fun _ k' => XS.ifYes X2.here hx rfl (pc0 := 13) (pc' := 65) rfl (hb hby d10_13) rfl ((if0 _ _).trans (tlt ((lw_gt F n).mpr hc3)).2.2.1) (by decide) (by decide) k') ?_
    show own_Go p.tables e below _ (T2.setTop (mkF m 65 #[.val (.ref o), .val (.long n), .second] []))
    exact own_retV X2 hx Bd.returns (hb hby d10_65) Bd.notSynchronized ⟨rfl, N0, by rw [e2]; exact (Keep.refl h0 [o, rg]), Or.inl ⟨hc3, by rw [e2]; exact E_o, by rw [e2]; exact F_ring, by rw [e2]; exact F_first, by rw [e2]; exact F_head, by rw [e2]; exact F_size, by rw [e2]; exact V_rg⟩⟩ (by decide) (by decide)
  ·  -- pc 13, not n < F
    refine own_st (fun _ k' => XS.ifNo X2.here hx rfl (hb hby d10_13) rfl ((if0 _ _).trans (flt (mt (lw_gt F n).mp hc3)).2.2.1) k') ?_
    show own_Go p.tables e below _ (T2.setTop (mkF m 16 #[.val (.ref o), .val (.long n), .second] []))
    refine own_st (fun _ k' => XS.aloadN X2.here hx rfl (hb hby d10_16) rfl rfl k') ?_
    show own_Go p.tables e below _ (T2.setTop (mkF m 17 #[.val (.ref o), .val (.long n), .second] [(.ref o)]))
    obtain ⟨T4, X4, e4, st4⟩ := getF X2 hx hZ hown (host := "") (Or.inl (hw _ (List.mem_of_getElem? (i := 35) rfl))) Via.refl e2 F_ring (g := (mkF m 17 #[.val (.ref o), .val (.long n), .second] [(.ref o)])) rfl rfl (hb hby d10_17)
    refine own_st st4 ?_
    show own_Go p.tables e below _ (T4.setTop (mkF m 20 #[.val (.ref o), .val (.long n), .second] [(.ref rg)]))
    refine own_st (fun _ k' => XS.aloadN X4.here hx rfl (hb hby d10_20) rfl rfl k') ?_
    show own_Go p.tables e below _ (T4.setTop (mkF m 21 #[.val (.ref o), .val (.long n), .second] [(.ref o), (.ref rg)]))
    obtain ⟨T5, X5, e5, st5⟩ := getF X4 hx hZ hown (host := "") (Or.inl (hw _ (List.mem_of_getElem? (i := 48) rfl))) Via.refl e4 F_head (g := (mkF m 21 #[.val (.ref o), .val (.long n), .second] [(.ref o), (.ref rg)])) rfl rfl (hb hby d10_21)
    refine own_st st5 ?_
    show own_Go p.tables e below _ (T5.setTop (mkF m 24 #[.val (.ref o), .val (.long n), .second] [(.int (0 : Int32)), (.ref rg)]))
    refine own_st (fun _ k' => XS.aconstNull X5.here hx rfl (hb hby d10_24) k') ?_
    show own_Go p.tables e below _ (T5.setTop (mkF m 25 #[.val (.ref o), .val (.long n), .second] [.null, (.int (0 : Int32)), (.ref rg)]))
    obtain ⟨cl6, Ar6, qc6, Sz6, Nn6, Hs6, Gs6⟩ := id V_rg
    have hin6 : ¬ ((0 : Int32) < 0 ∨ cl6.slots.size ≤ ((0 : Int32)).toNatClampNeg) := inb_of Sz6 ⟨by decide, by decide⟩
    obtain ⟨T7, h7, X7, e7, W7, st7⟩ := stR X5 hx hZ e5 Ar6 (j := (0 : Int32)) hin6 rfl (Or.inl rfl) (g := (mkF m 25 #[.val (.ref o), .val (.long n), .second] [.null, (.int (0 : Int32)), (.ref rg)])) rfl rfl (hb hby d10_25)
    have N7 := Fr.snoc X7 N0 g_rg
    have Vn7 := Arv.set Ar6 qc6 Sz6 Nn6 Hs6 Gs6 rfl W7 0 rfl (Nat.le_of_ble_eq_true rfl)
    have E_o_x8 := E_o.wr W7
    have F_ring_x9 := F_ring.other W7 (Or.inl ne_o_rg)
    have F_first_x10 := F_first.other W7 (Or.inl ne_o_rg)
    have F_head_x11 := F_head.other W7 (Or.inl ne_o_rg)
    have F_size_x12 := F_size.other W7 (Or.inl ne_o_rg)
    have K14 : Keep h0 h7 [o, rg] := (Keep.refl h0 [o, rg]).wr W7 (Or.inl (List.mem_of_getElem? (i := 1) rfl))
    refine own_st st7 ?_
    show own_Go p.tables e below _ (T7.setTop (mkF m 26 #[.val (.ref o), .val (.long n), .second] []))
    refine own_st (fun _ k' => XS.aloadN X7.here hx rfl (hb hby d10_26) rfl rfl k') ?_
    show own_Go p.tables e below _ (T7.setTop (mkF m 27 #[.val (.ref o), .val (.long n), .second] [(.ref o)]))
    refine own_st (fun _ k' => XS.aloadN X7.here hx rfl (hb hby d10_27) rfl rfl k') ?_
    show own_Go p.tables e below _ (T7.setTop (mkF m 28 #[.val (.ref o), .val (.long n), .second] [(.ref o), (.ref o)]))
    obtain ⟨T15, X15, e15, st15⟩ := getF X7 hx hZ hown (host := "") (Or.inl (hw _ (List.mem_of_getElem? (i := 48) rfl))) Via.refl e7 F_head_x11 (g := (mkF m 28 #[.val (.ref o), .val (.long n), .second] [(.ref o), (.ref o)])) rfl rfl (hb hby d10_28)
    refine own_st st15 ?_
    show own_Go p.tables e below _ (T15.setTop (mkF m 31 #[.val (.ref o), .val (.long n), .second] [(.int (0 : Int32)), (.ref o)]))
    refine own_st (fun _ k' => XS.iconst X15.here hx rfl (hb hby d10_31) k') ?_
    show own_Go p.tables e below _ (T15.setTop (mkF m 32 #[.val (.ref o), .val (.long n), .second] [(.int (1 : Int32)), (.int (0 : Int32)), (.ref o)]))
    refine own_st (fun _ k' => XS.iadd X15.here hx rfl (hb hby d10_32) rfl k') ?_
    show own_Go p.tables e below _ (T15.setTop (mkF m 33 #[.val (.ref o), .val (.long n), .second] [(.int (1 : Int32)), (.ref o)]))
    refine own_st (fun _ k' => XS.aloadN X15.here hx rfl (hb hby d10_33) rfl rfl k') ?_
    show own_Go p.tables e below _ (T15.setTop (mkF m 34 #[.val (.ref o), .val (.long n), .second] [(.ref o), (.int (1 : Int32)), (.ref o)]))
    obtain ⟨T16, X16, e16, st16⟩ := getF X15 hx hZ hown (host := "") (Or.inl (hw _ (List.mem_of_getElem? (i := 35) rfl))) Via.refl e15 F_ring_x9 (g := (mkF m 34 #[.val (.ref o), .val (.long n), .second] [(.ref o), (.int (1 : Int32)), (.ref o)])) rfl rfl (hb hby d10_34)
    refine own_st st16 ?_
    show own_Go p.tables e below _ (T16.setTop (mkF m 37 #[.val (.ref o), .val (.long n), .second] [(.ref rg), (.int (1 : Int32)), (.ref o)]))
    obtain ⟨cl17, Ar17, qc17, Sz17, Nn17, Hs17, Gs17⟩ := id Vn7
    refine own_st (fun t' k' => X16.arraylength hx (by rw [e16]; exact Ar17.1) (State.isArrayOf_alike hZ.alike Ar17.2.1) (g := (mkF m 37 #[.val (.ref o), .val (.long n), .second] [(.ref rg), (.int (1 : Int32)), (.ref o)])) rfl rfl (hb hby d10_37) t' k') ?_
    rw [len_of Sz17 Nn17]
    show own_Go p.tables e below _ (T16.setTop (mkF m 38 #[.val (.ref o), .val (.long n), .second] [(.int (1024 : Int32)), (.int (1 : Int32)), (.ref o)]))
    refine own_st (fun _ k' => iremM X16 hx rfl (hb hby d10_38) rfl (by decide) k') ?_
    show own_Go p.tables e below _ (T16.setTop (mkF m 39 #[.val (.ref o), .val (.long n), .second] [(.int (1 : Int32)), (.ref o)]))
    obtain ⟨T18, h18, X18, e18, W18, st18⟩ := putF X16 hx hZ hown (host := "") (Or.inl (hw _ (List.mem_of_getElem? (i := 48) rfl))) Via.refl e16 F_head_x11 E_o_x8 (Or.inl (hw _ (List.mem_of_getElem? (i := 49) rfl))) (hw _ (List.mem_of_getElem? (i := 27) rfl)) (ty := .int) (by decide) rfl rfl (g := (mkF m 39 #[.val (.ref o), .val (.long n), .second] [(.int (1 : Int32)), (.ref o)])) rfl rfl (hb hby d10_39)
    have N18 := Fr.snoc X18 N7 g_o
    have E_o_x19 := E_o_x8.wr W18
    have F_ring_x20 := F_ring_x9.other W18 (Or.inr (slot_ne (Or.inl (hw _ (List.mem_of_getElem? (i := 36) rfl))) (Or.inl (hw _ (List.mem_of_getElem? (i := 49) rfl))) (by decide) (t := (.array (.object "com/example/penumbra/penumbra/order/SequenceLog$Entry"))) (t' := .int) (by decide) (by decide)))
    have F_first_x21 := F_first_x10.other W18 (Or.inr (slot_ne (Or.inl (hw _ (List.mem_of_getElem? (i := 38) rfl))) (Or.inl (hw _ (List.mem_of_getElem? (i := 49) rfl))) (by decide) (t := .long) (t' := .int) (by decide) (by decide)))
    have F_head_x22 := F_head_x11.same W18
    have F_size_x23 := F_size_x12.other W18 (Or.inr (slot_ne (Or.inl (hw _ (List.mem_of_getElem? (i := 51) rfl))) (Or.inl (hw _ (List.mem_of_getElem? (i := 49) rfl))) (by decide) (t := .int) (t' := .int) (by decide) (by decide)))
    have Vn7_x24 := Vn7.other W18 (Ne.symm ne_o_rg)
    have K25 : Keep h0 h18 [o, rg] := K14.wr W18 (Or.inl (List.mem_of_getElem? (i := 0) rfl))
    refine own_st st18 ?_
    show own_Go p.tables e below _ (T18.setTop (mkF m 42 #[.val (.ref o), .val (.long n), .second] []))
    refine own_st (fun _ k' => XS.aloadN X18.here hx rfl (hb hby d10_42) rfl rfl k') ?_
    show own_Go p.tables e below _ (T18.setTop (mkF m 43 #[.val (.ref o), .val (.long n), .second] [(.ref o)]))
    refine own_st (fun _ k' => XS.dup X18.here hx rfl (hb hby d10_43) rfl rfl k') ?_
    show own_Go p.tables e below _ (T18.setTop (mkF m 44 #[.val (.ref o), .val (.long n), .second] [(.ref o), (.ref o)]))
    obtain ⟨T26, X26, e26, st26⟩ := getF X18 hx hZ hown (host := "") (Or.inl (hw _ (List.mem_of_getElem? (i := 50) rfl))) Via.refl e18 F_size_x23 (g := (mkF m 44 #[.val (.ref o), .val (.long n), .second] [(.ref o), (.ref o)])) rfl rfl (hb hby d10_44)
    refine own_st st26 ?_
    show own_Go p.tables e below _ (T26.setTop (mkF m 47 #[.val (.ref o), .val (.long n), .second] [(.int (1 : Int32)), (.ref o)]))
    refine own_st (fun _ k' => XS.iconst X26.here hx rfl (hb hby d10_47) k') ?_
    show own_Go p.tables e below _ (T26.setTop (mkF m 48 #[.val (.ref o), .val (.long n), .second] [(.int (1 : Int32)), (.int (1 : Int32)), (.ref o)]))
    refine own_st (fun _ k' => XS.isub X26.here hx rfl (hb hby d10_48) rfl k') ?_
    show own_Go p.tables e below _ (T26.setTop (mkF m 49 #[.val (.ref o), .val (.long n), .second] [(.int (0 : Int32)), (.ref o)]))
    obtain ⟨T27, h27, X27, e27, W27, st27⟩ := putF X26 hx hZ hown (host := "") (Or.inl (hw _ (List.mem_of_getElem? (i := 50) rfl))) Via.refl e26 F_size_x23 E_o_x19 (Or.inl (hw _ (List.mem_of_getElem? (i := 51) rfl))) (hw _ (List.mem_of_getElem? (i := 27) rfl)) (ty := .int) (by decide) rfl rfl (g := (mkF m 49 #[.val (.ref o), .val (.long n), .second] [(.int (0 : Int32)), (.ref o)])) rfl rfl (hb hby d10_49)
    have N27 := Fr.snoc X27 N18 g_o
    have E_o_x28 := E_o_x19.wr W27
    have F_ring_x29 := F_ring_x20.other W27 (Or.inr (slot_ne (Or.inl (hw _ (List.mem_of_getElem? (i := 36) rfl))) (Or.inl (hw _ (List.mem_of_getElem? (i := 51) rfl))) (by decide) (t := (.array (.object "com/example/penumbra/penumbra/order/SequenceLog$Entry"))) (t' := .int) (by decide) (by decide)))
    have F_first_x30 := F_first_x21.other W27 (Or.inr (slot_ne (Or.inl (hw _ (List.mem_of_getElem? (i := 38) rfl))) (Or.inl (hw _ (List.mem_of_getElem? (i := 51) rfl))) (by decide) (t := .long) (t' := .int) (by decide) (by decide)))
    have F_head_x31 := F_head_x22.other W27 (Or.inr (slot_ne (Or.inl (hw _ (List.mem_of_getElem? (i := 49) rfl))) (Or.inl (hw _ (List.mem_of_getElem? (i := 51) rfl))) (by decide) (t := .int) (t' := .int) (by decide) (by decide)))
    have F_size_x32 := F_size_x23.same W27
    have Vn7_x33 := Vn7_x24.other W27 (Ne.symm ne_o_rg)
    have K34 : Keep h0 h27 [o, rg] := K25.wr W27 (Or.inl (List.mem_of_getElem? (i := 0) rfl))
    refine own_st st27 ?_
    show own_Go p.tables e below _ (T27.setTop (mkF m 52 #[.val (.ref o), .val (.long n), .second] []))
    refine own_st (fun _ k' => XS.aloadN X27.here hx rfl (hb hby d10_52) rfl rfl k') ?_
    show own_Go p.tables e below _ (T27.setTop (mkF m 53 #[.val (.ref o), .val (.long n), .second] [(.ref o)]))
    refine own_st (fun _ k' => XS.dup X27.here hx rfl (hb hby d10_53) rfl rfl k') ?_
    show own_Go p.tables e below _ (T27.setTop (mkF m 54 #[.val (.ref o), .val (.long n), .second] [(.ref o), (.ref o)]))
    obtain ⟨T35, X35, e35, st35⟩ := getF X27 hx hZ hown (host := "") (Or.inl (hw _ (List.mem_of_getElem? (i := 37) rfl))) Via.refl e27 F_first_x30 (g := (mkF m 54 #[.val (.ref o), .val (.long n), .second] [(.ref o), (.ref o)])) rfl rfl (hb hby d10_54)
    refine own_st st35 ?_
    show own_Go p.tables e below _ (T35.setTop (mkF m 57 #[.val (.ref o), .val (.long n), .second] [(.long F), (.ref o)]))
    refine own_st (fun _ k' => XS.lconst X35.here hx rfl (hb hby d10_57) k') ?_
    show own_Go p.tables e below _ (T35.setTop (mkF m 58 #[.val (.ref o), .val (.long n), .second] [(.long (1 : Int64)), (.long F), (.ref o)]))
    refine own_st (fun _ k' => XS.ladd X35.here hx rfl (hb hby d10_58) rfl k') ?_
    show own_Go p.tables e below _ (T35.setTop (mkF m 59 #[.val (.ref o), .val (.long n), .second] [(.long (F + (1 : Int64))), (.ref o)]))
    obtain ⟨T36, h36, X36, e36, W36, st36⟩ := putF X35 hx hZ hown (host := "") (Or.inl (hw _ (List.mem_of_getElem? (i := 37) rfl))) Via.refl e35 F_first_x30 E_o_x28 (Or.inl (hw _ (List.mem_of_getElem? (i := 38) rfl))) (hw _ (List.mem_of_getElem? (i := 27) rfl)) (ty := .long) (by decide) rfl rfl (g := (mkF m 59 #[.val (.ref o), .val (.long n), .second] [(.long (F + (1 : Int64))), (.ref o)])) rfl rfl (hb hby d10_59)
    have N36 := Fr.snoc X36 N27 g_o
    have E_o_x37 := E_o_x28.wr W36
    have F_ring_x38 := F_ring_x29.other W36 (Or.inr (slot_ne (Or.inl (hw _ (List.mem_of_getElem? (i := 36) rfl))) (Or.inl (hw _ (List.mem_of_getElem? (i := 38) rfl))) (by decide) (t := (.array (.object "com/example/penumbra/penumbra/order/SequenceLog$Entry"))) (t' := .long) (by decide) (by decide)))
    have F_first_x39 := F_first_x30.same W36
    have F_head_x40 := F_head_x31.other W36 (Or.inr (slot_ne (Or.inl (hw _ (List.mem_of_getElem? (i := 49) rfl))) (Or.inl (hw _ (List.mem_of_getElem? (i := 38) rfl))) (by decide) (t := .int) (t' := .long) (by decide) (by decide)))
    have F_size_x41 := F_size_x32.other W36 (Or.inr (slot_ne (Or.inl (hw _ (List.mem_of_getElem? (i := 51) rfl))) (Or.inl (hw _ (List.mem_of_getElem? (i := 38) rfl))) (by decide) (t := .int) (t' := .long) (by decide) (by decide)))
    have Vn7_x42 := Vn7_x33.other W36 (Ne.symm ne_o_rg)
    have K43 : Keep h0 h36 [o, rg] := K34.wr W36 (Or.inl (List.mem_of_getElem? (i := 0) rfl))
    refine own_st st36 ?_
    show own_Go p.tables e below _ (T36.setTop (mkF m 62 #[.val (.ref o), .val (.long n), .second] []))
    refine own_st (fun _ k' => XS.goto X36.here hx rfl (pc0 := 62) (pc' := 0) rfl (hb hby d10_62) (by decide) (by decide) k') ?_
    show own_Go p.tables e below _ (T36.setTop (mkF m 0 #[.val (.ref o), .val (.long n), .second] []))
    refine own_st (fun _ k' => XS.aloadN X36.here hx rfl (hb hby d10_0) rfl rfl k') ?_
    show own_Go p.tables e below _ (T36.setTop (mkF m 1 #[.val (.ref o), .val (.long n), .second] [(.ref o)]))
    obtain ⟨T44, X44, e44, st44⟩ := getF X36 hx hZ hown (host := "") (Or.inl (hw _ (List.mem_of_getElem? (i := 50) rfl))) Via.refl e36 F_size_x41 (g := (mkF m 1 #[.val (.ref o), .val (.long n), .second] [(.ref o)])) rfl rfl (hb hby d10_1)
    refine own_st st44 ?_
    show own_Go p.tables e below _ (T44.setTop (mkF m 4 #[.val (.ref o), .val (.long n), .second] [(.int (0 : Int32))]))
    refine own_st (fun _ k' => XS.ifYes X44.here hx rfl (pc0 := 4) (pc' := 65) rfl (hb hby d10_4) rfl ((if0 _ _).trans (flt (by decide : ¬ (0 : Int32) < (0 : Int32))).2.2.2) (by decide) (by decide) k') ?_
    show own_Go p.tables e below _ (T44.setTop (mkF m 65 #[.val (.ref o), .val (.long n), .second] []))
    exact own_retV X44 hx Bd.returns (hb hby d10_65) Bd.notSynchronized ⟨rfl, N36, by rw [e44]; exact K43, Or.inr (⟨hc3, by rw [e44]; exact E_o_x37, by rw [e44]; exact F_ring_x38, by rw [e44]; exact F_first_x39, by rw [e44]; exact F_head_x40, by rw [e44]; exact F_size_x41, by rw [e44]; exact Vn7_x42⟩)⟩ (by decide) (by decide)

theorem ef_rmD2 (m : MethodId) (x0 : Addr) (x1 : Int64) : entryFrame m #[(.ref x0), (.long x1)] 3 = mkF m 0 #[.val (.ref x0), .val (.long x1), .second] [] := by first | (simp [entryFrame, mkF, argsToLocals, Value.category]; done) | rfl
def Q_rmD2 (Z : State) (o : Addr) (n F : Int64) (rg : Addr) (kk : ClassId) (v0 v1 v2 : Value) (h0 : Heap) (n0 : Nat) (v : Option Value) (h : Heap) (L : List Loc) : Prop := v = none ∧ Fr n0 L ∧ Keep h0 h [o, rg] ∧ ((n < F ∧ Exa Z h o "com/example/penumbra/penumbra/order/SequenceLog" ∧ Fld Z h o "com/example/penumbra/penumbra/order/SequenceLog" "ring" "[Lcom/example/penumbra/penumbra/order/SequenceLog$Entry;" (.ref rg) ∧ Fld Z h o "com/example/penumbra/penumbra/order/SequenceLog" "first" "J" (.long F) ∧ Fld Z h o "com/example/penumbra/penumbra/order/SequenceLog" "head" "I" (.int (0 : Int32)) ∧ Fld Z h o "com/example/penumbra/penumbra/order/SequenceLog" "size" "I" (.int (2 : Int32)) ∧ Arv Z h rg kk (.object "com/example/penumbra/penumbra/order/SequenceLog$Entry") (1024 : Int32) [v0, v1, v2] .null) ∨ (n < (F + (1 : Int64)) ∧ ¬ n < F ∧ Exa Z h o "com/example/penumbra/penumbra/order/SequenceLog" ∧ Fld Z h o "com/example/penumbra/penumbra/order/SequenceLog" "ring" "[Lcom/example/penumbra/penumbra/order/SequenceLog$Entry;" (.ref rg) ∧ Fld Z h o "com/example/penumbra/penumbra/order/SequenceLog" "first" "J" (.long (F + (1 : Int64))) ∧ Fld Z h o "com/example/penumbra/penumbra/order/SequenceLog" "head" "I" (.int (1 : Int32)) ∧ Fld Z h o "com/example/penumbra/penumbra/order/SequenceLog" "size" "I" (.int (1 : Int32)) ∧ Arv Z h rg kk (.object "com/example/penumbra/penumbra/order/SequenceLog$Entry") (1024 : Int32) [.null, v1, v2] .null) ∨ (¬ n < (F + (1 : Int64)) ∧ Exa Z h o "com/example/penumbra/penumbra/order/SequenceLog" ∧ Fld Z h o "com/example/penumbra/penumbra/order/SequenceLog" "ring" "[Lcom/example/penumbra/penumbra/order/SequenceLog$Entry;" (.ref rg) ∧ Fld Z h o "com/example/penumbra/penumbra/order/SequenceLog" "first" "J" (.long ((F + (1 : Int64)) + (1 : Int64))) ∧ Fld Z h o "com/example/penumbra/penumbra/order/SequenceLog" "head" "I" (.int (2 : Int32)) ∧ Fld Z h o "com/example/penumbra/penumbra/order/SequenceLog" "size" "I" (.int (0 : Int32)) ∧ Arv Z h rg kk (.object "com/example/penumbra/penumbra/order/SequenceLog$Entry") (1024 : Int32) [.null, .null, v2] .null))
def K_rmD2 (Z : State) (o : Addr) (n F : Int64) (rg : Addr) (kk : ClassId) (v0 v1 v2 : Value) (h0 : Heap) (n0 : Nat) (s : State) : Outcome → State → Prop := fun oo U' => ∃ v L, oo = .returned v ∧ Q_rmD2 Z o n F rg kk v0 v1 v2 h0 n0 v U'.heap L ∧ FrameEnd s oo U' L ({ frames := 0, cells := 0, slots := 0, locals := 0 } : Room).cells ({ frames := 0, cells := 0, slots := 0, locals := 0 } : Room).slots
set_option maxRecDepth 65536 in
set_option maxHeartbeats 40000000 in
theorem rmD2 (l : Launch) (Z : State) (a0 : Array Value) (hw : ∀ d ∈ tables_1, d.before a0 Z = true) (ws : List Jvm.Cond) (o : Addr) (n F : Int64) (rg : Addr) (kk : ClassId) (v0 v1 v2 : Value) (h0 : Heap) (n0 : Nat) (Z0 : n0 ≤ h0.size) (E_o : Exa Z h0 o "com/example/penumbra/penumbra/order/SequenceLog") (F_ring : Fld Z h0 o "com/example/penumbra/penumbra/order/SequenceLog" "ring" "[Lcom/example/penumbra/penumbra/order/SequenceLog$Entry;" (.ref rg)) (F_first : Fld Z h0 o "com/example/penumbra/penumbra/order/SequenceLog" "first" "J" (.long F)) (F_head : Fld Z h0 o "com/example/penumbra/penumbra/order/SequenceLog" "head" "I" (.int (0 : Int32))) (F_size : Fld Z h0 o "com/example/penumbra/penumbra/order/SequenceLog" "size" "I" (.int (2 : Int32))) (V_rg : Arv Z h0 rg kk (.object "com/example/penumbra/penumbra/order/SequenceLog$Entry") (1024 : Int32) [v0, v1, v2] .null) (OV : Ovr Z kk "com/example/penumbra/penumbra/order/SequenceLog$Entry") (ne_o_rg : o ≠ rg) (g_o : n0 ≤ o) (g_rg : n0 ≤ rg) :
    MetFree l (⟨"com/example/penumbra/penumbra/order/SequenceLog", "dropUpTo", "(J)V"⟩ : MethodName) (head1 (Jvm.Cond.code (⟨"com/example/penumbra/penumbra/order/SequenceLog", "dropUpTo", "(J)V"⟩ : MethodName) prog_129_method_7_code 3 none :: ws) ({ frames := 0, cells := 0, slots := 0, locals := 0 } : Room)) (fun a U => a = #[(.ref o), (.long n)] ∧ Z.Warmed39 U.vm ∧ U.heap = h0) (fun _ _ _ _ _ => True) (fun _ U oo U' => ∃ v L, oo = .returned v ∧ Q_rmD2 Z o n F rg kk v0 v1 v2 h0 n0 v U'.heap L ∧ FrameEnd U oo U' L ({ frames := 0, cells := 0, slots := 0, locals := 0 } : Room).cells ({ frames := 0, cells := 0, slots := 0, locals := 0 } : Room).slots) := by
  refine MetFree.of_bodySF (plainFor_of_name pn_com_example_penumbra_penumbra_order_SequenceLog) hisR ?_
  intro p e s m args below meth c s₁ Bd hml0 hP hK
  obtain ⟨rfl, hZ, hh⟩ := hP
  have hx := Bd.exec
  have hby := Bd.bytes
  have hml : c.maxLocals = 3 := hml0
  have hown : s.vm.findClass "com/example/penumbra/penumbra/order/SequenceLog" = some m.cls := findClass_of_methodNamed Bd.named
  have hnm := (name_of_methodNamed Bd.named Bd.method).1
  have X0 : Stand p l e ({ frames := 0, cells := 0, slots := 0, locals := 0 } : Room) s m #[(.ref o), (.long n)] below meth c s₁ [] 0 0 := Stand.of_body Bd
  have e0 : s₁.heap = h0 := by rw [← hh, Bd.state]; rfl
  have N0 := Fr.nil n0
  refine own_st (K := (K_rmD2 Z o n F rg kk v0 v1 v2 h0 n0 s)) (fun t' k' => castTop (ef_rmD2 m o n) k') ?_
  show own_Go p.tables e below _ (s₁.setTop (mkF m 0 #[.val (.ref o), .val (.long n), .second] []))
  refine own_st (fun _ k' => XS.aloadN X0.here hx rfl (hb hby d10_0) rfl rfl k') ?_
  show own_Go p.tables e below _ (s₁.setTop (mkF m 1 #[.val (.ref o), .val (.long n), .second] [(.ref o)]))
  obtain ⟨T1, X1, e1, st1⟩ := getF X0 hx hZ hown (host := "") (Or.inl (hw _ (List.mem_of_getElem? (i := 50) rfl))) Via.refl e0 F_size (g := (mkF m 1 #[.val (.ref o), .val (.long n), .second] [(.ref o)])) rfl rfl (hb hby d10_1)
  refine own_st st1 ?_
  show own_Go p.tables e below _ (T1.setTop (mkF m 4 #[.val (.ref o), .val (.long n), .second] [(.int (2 : Int32))]))
  refine own_st (fun _ k' => XS.ifNo X1.here hx rfl (hb hby d10_4) rfl ((if0 _ _).trans (tlt (by decide : (0 : Int32) < (2 : Int32))).2.2.2) k') ?_
  show own_Go p.tables e below _ (T1.setTop (mkF m 7 #[.val (.ref o), .val (.long n), .second] []))
  refine own_st (fun _ k' => XS.aloadN X1.here hx rfl (hb hby d10_7) rfl rfl k') ?_
  show own_Go p.tables e below _ (T1.setTop (mkF m 8 #[.val (.ref o), .val (.long n), .second] [(.ref o)]))
  obtain ⟨T2, X2, e2, st2⟩ := getF X1 hx hZ hown (host := "") (Or.inl (hw _ (List.mem_of_getElem? (i := 37) rfl))) Via.refl e1 F_first (g := (mkF m 8 #[.val (.ref o), .val (.long n), .second] [(.ref o)])) rfl rfl (hb hby d10_8)
  refine own_st st2 ?_
  show own_Go p.tables e below _ (T2.setTop (mkF m 11 #[.val (.ref o), .val (.long n), .second] [(.long F)]))
  refine own_st (fun _ k' => XS.lloadN X2.here hx rfl (hb hby d10_11) rfl k') ?_
  show own_Go p.tables e below _ (T2.setTop (mkF m 12 #[.val (.ref o), .val (.long n), .second] [(.long n), (.long F)]))
  refine own_st (fun _ k' => XS.lcmp X2.here hx rfl (hb hby d10_12) rfl k') ?_
  show own_Go p.tables e below _ (T2.setTop (mkF m 13 #[.val (.ref o), .val (.long n), .second] [(.int (lcmpW F n))]))
  by_cases hc3 : n < F
  ·  -- pc 13, n < F
    refine own_st (fun _ k' => XS.ifYes X2.here hx rfl (pc0 := 13) (pc' := 65) rfl (hb hby d10_13) rfl ((if0 _ _).trans (tlt ((lw_gt F n).mpr hc3)).2.2.1) (by decide) (by decide) k') ?_
    show own_Go p.tables e below _ (T2.setTop (mkF m 65 #[.val (.ref o), .val (.long n), .second] []))
    exact own_retV X2 hx Bd.returns (hb hby d10_65) Bd.notSynchronized ⟨rfl, N0, by rw [e2]; exact (Keep.refl h0 [o, rg]), Or.inl ⟨hc3, by rw [e2]; exact E_o, by rw [e2]; exact F_ring, by rw [e2]; exact F_first, by rw [e2]; exact F_head, by rw [e2]; exact F_size, by rw [e2]; exact V_rg⟩⟩ (by decide) (by decide)
  ·  -- pc 13, not n < F
    refine own_st (fun _ k' => XS.ifNo X2.here hx rfl (hb hby d10_13) rfl ((if0 _ _).trans (flt (mt (lw_gt F n).mp hc3)).2.2.1) k') ?_
    show own_Go p.tables e below _ (T2.setTop (mkF m 16 #[.val (.ref o), .val (.long n), .second] []))
    refine own_st (fun _ k' => XS.aloadN X2.here hx rfl (hb hby d10_16) rfl rfl k') ?_
    show own_Go p.tables e below _ (T2.setTop (mkF m 17 #[.val (.ref o), .val (.long n), .second] [(.ref o)]))
    obtain ⟨T4, X4, e4, st4⟩ := getF X2 hx hZ hown (host := "") (Or.inl (hw _ (List.mem_of_getElem? (i := 35) rfl))) Via.refl e2 F_ring (g := (mkF m 17 #[.val (.ref o), .val (.long n), .second] [(.ref o)])) rfl rfl (hb hby d10_17)
    refine own_st st4 ?_
    show own_Go p.tables e below _ (T4.setTop (mkF m 20 #[.val (.ref o), .val (.long n), .second] [(.ref rg)]))
    refine own_st (fun _ k' => XS.aloadN X4.here hx rfl (hb hby d10_20) rfl rfl k') ?_
    show own_Go p.tables e below _ (T4.setTop (mkF m 21 #[.val (.ref o), .val (.long n), .second] [(.ref o), (.ref rg)]))
    obtain ⟨T5, X5, e5, st5⟩ := getF X4 hx hZ hown (host := "") (Or.inl (hw _ (List.mem_of_getElem? (i := 48) rfl))) Via.refl e4 F_head (g := (mkF m 21 #[.val (.ref o), .val (.long n), .second] [(.ref o), (.ref rg)])) rfl rfl (hb hby d10_21)
    refine own_st st5 ?_
    show own_Go p.tables e below _ (T5.setTop (mkF m 24 #[.val (.ref o), .val (.long n), .second] [(.int (0 : Int32)), (.ref rg)]))
    refine own_st (fun _ k' => XS.aconstNull X5.here hx rfl (hb hby d10_24) k') ?_
    show own_Go p.tables e below _ (T5.setTop (mkF m 25 #[.val (.ref o), .val (.long n), .second] [.null, (.int (0 : Int32)), (.ref rg)]))
    obtain ⟨cl6, Ar6, qc6, Sz6, Nn6, Hs6, Gs6⟩ := id V_rg
    have hin6 : ¬ ((0 : Int32) < 0 ∨ cl6.slots.size ≤ ((0 : Int32)).toNatClampNeg) := inb_of Sz6 ⟨by decide, by decide⟩
    obtain ⟨T7, h7, X7, e7, W7, st7⟩ := stR X5 hx hZ e5 Ar6 (j := (0 : Int32)) hin6 rfl (Or.inl rfl) (g := (mkF m 25 #[.val (.ref o), .val (.long n), .second] [.null, (.int (0 : Int32)), (.ref rg)])) rfl rfl (hb hby d10_25)
    have N7 := Fr.snoc X7 N0 g_rg
    have Vn7 := Arv.set Ar6 qc6 Sz6 Nn6 Hs6 Gs6 rfl W7 0 rfl (Nat.le_of_ble_eq_true rfl)
    have E_o_x8 := E_o.wr W7
    have F_ring_x9 := F_ring.other W7 (Or.inl ne_o_rg)
    have F_first_x10 := F_first.other W7 (Or.inl ne_o_rg)
    have F_head_x11 := F_head.other W7 (Or.inl ne_o_rg)
    have F_size_x12 := F_size.other W7 (Or.inl ne_o_rg)
    have K14 : Keep h0 h7 [o, rg] := (Keep.refl h0 [o, rg]).wr W7 (Or.inl (List.mem_of_getElem? (i := 1) rfl))
    refine own_st st7 ?_
    show own_Go p.tables e below _ (T7.setTop (mkF m 26 #[.val (.ref o), .val (.long n), .second] []))
    refine own_st (fun _ k' => XS.aloadN X7.here hx rfl (hb hby d10_26) rfl rfl k') ?_
    show own_Go p.tables e below _ (T7.setTop (mkF m 27 #[.val (.ref o), .val (.long n), .second] [(.ref o)]))
    refine own_st (fun _ k' => XS.aloadN X7.here hx rfl (hb hby d10_27) rfl rfl k') ?_
    show own_Go p.tables e below _ (T7.setTop (mkF m 28 #[.val (.ref o), .val (.long n), .second] [(.ref o), (.ref o)]))
    obtain ⟨T15, X15, e15, st15⟩ := getF X7 hx hZ hown (host := "") (Or.inl (hw _ (List.mem_of_getElem? (i := 48) rfl))) Via.refl e7 F_head_x11 (g := (mkF m 28 #[.val (.ref o), .val (.long n), .second] [(.ref o), (.ref o)])) rfl rfl (hb hby d10_28)
    refine own_st st15 ?_
    show own_Go p.tables e below _ (T15.setTop (mkF m 31 #[.val (.ref o), .val (.long n), .second] [(.int (0 : Int32)), (.ref o)]))
    refine own_st (fun _ k' => XS.iconst X15.here hx rfl (hb hby d10_31) k') ?_
    show own_Go p.tables e below _ (T15.setTop (mkF m 32 #[.val (.ref o), .val (.long n), .second] [(.int (1 : Int32)), (.int (0 : Int32)), (.ref o)]))
    refine own_st (fun _ k' => XS.iadd X15.here hx rfl (hb hby d10_32) rfl k') ?_
    show own_Go p.tables e below _ (T15.setTop (mkF m 33 #[.val (.ref o), .val (.long n), .second] [(.int (1 : Int32)), (.ref o)]))
    refine own_st (fun _ k' => XS.aloadN X15.here hx rfl (hb hby d10_33) rfl rfl k') ?_
    show own_Go p.tables e below _ (T15.setTop (mkF m 34 #[.val (.ref o), .val (.long n), .second] [(.ref o), (.int (1 : Int32)), (.ref o)]))
    obtain ⟨T16, X16, e16, st16⟩ := getF X15 hx hZ hown (host := "") (Or.inl (hw _ (List.mem_of_getElem? (i := 35) rfl))) Via.refl e15 F_ring_x9 (g := (mkF m 34 #[.val (.ref o), .val (.long n), .second] [(.ref o), (.int (1 : Int32)), (.ref o)])) rfl rfl (hb hby d10_34)
    refine own_st st16 ?_
    show own_Go p.tables e below _ (T16.setTop (mkF m 37 #[.val (.ref o), .val (.long n), .second] [(.ref rg), (.int (1 : Int32)), (.ref o)]))
    obtain ⟨cl17, Ar17, qc17, Sz17, Nn17, Hs17, Gs17⟩ := id Vn7
    refine own_st (fun t' k' => X16.arraylength hx (by rw [e16]; exact Ar17.1) (State.isArrayOf_alike hZ.alike Ar17.2.1) (g := (mkF m 37 #[.val (.ref o), .val (.long n), .second] [(.ref rg), (.int (1 : Int32)), (.ref o)])) rfl rfl (hb hby d10_37) t' k') ?_
    rw [len_of Sz17 Nn17]
    show own_Go p.tables e below _ (T16.setTop (mkF m 38 #[.val (.ref o), .val (.long n), .second] [(.int (1024 : Int32)), (.int (1 : Int32)), (.ref o)]))
    refine own_st (fun _ k' => iremM X16 hx rfl (hb hby d10_38) rfl (by decide) k') ?_
    show own_Go p.tables e below _ (T16.setTop (mkF m 39 #[.val (.ref o), .val (.long n), .second] [(.int (1 : Int32)), (.ref o)]))
    obtain ⟨T18, h18, X18, e18, W18, st18⟩ := putF X16 hx hZ hown (host := "") (Or.inl (hw _ (List.mem_of_getElem? (i := 48) rfl))) Via.refl e16 F_head_x11 E_o_x8 (Or.inl (hw _ (List.mem_of_getElem? (i := 49) rfl))) (hw _ (List.mem_of_getElem? (i := 27) rfl)) (ty := .int) (by decide) rfl rfl (g := (mkF m 39 #[.val (.ref o), .val (.long n), .second] [(.int (1 : Int32)), (.ref o)])) rfl rfl (hb hby d10_39)
    have N18 := Fr.snoc X18 N7 g_o
    have E_o_x19 := E_o_x8.wr W18
    have F_ring_x20 := F_ring_x9.other W18 (Or.inr (slot_ne (Or.inl (hw _ (List.mem_of_getElem? (i := 36) rfl))) (Or.inl (hw _ (List.mem_of_getElem? (i := 49) rfl))) (by decide) (t := (.array (.object "com/example/penumbra/penumbra/order/SequenceLog$Entry"))) (t' := .int) (by decide) (by decide)))
    have F_first_x21 := F_first_x10.other W18 (Or.inr (slot_ne (Or.inl (hw _ (List.mem_of_getElem? (i := 38) rfl))) (Or.inl (hw _ (List.mem_of_getElem? (i := 49) rfl))) (by decide) (t := .long) (t' := .int) (by decide) (by decide)))
    have F_head_x22 := F_head_x11.same W18
    have F_size_x23 := F_size_x12.other W18 (Or.inr (slot_ne (Or.inl (hw _ (List.mem_of_getElem? (i := 51) rfl))) (Or.inl (hw _ (List.mem_of_getElem? (i := 49) rfl))) (by decide) (t := .int) (t' := .int) (by decide) (by decide)))
    have Vn7_x24 := Vn7.other W18 (Ne.symm ne_o_rg)
    have K25 : Keep h0 h18 [o, rg] := K14.wr W18 (Or.inl (List.mem_of_getElem? (i := 0) rfl))
    refine own_st st18 ?_
    show own_Go p.tables e below _ (T18.setTop (mkF m 42 #[.val (.ref o), .val (.long n), .second] []))
    refine own_st (fun _ k' => XS.aloadN X18.here hx rfl (hb hby d10_42) rfl rfl k') ?_
    show own_Go p.tables e below _ (T18.setTop (mkF m 43 #[.val (.ref o), .val (.long n), .second] [(.ref o)]))
    refine own_st (fun _ k' => XS.dup X18.here hx rfl (hb hby d10_43) rfl rfl k') ?_
    show own_Go p.tables e below _ (T18.setTop (mkF m 44 #[.val (.ref o), .val (.long n), .second] [(.ref o), (.ref o)]))
    obtain ⟨T26, X26, e26, st26⟩ := getF X18 hx hZ hown (host := "") (Or.inl (hw _ (List.mem_of_getElem? (i := 50) rfl))) Via.refl e18 F_size_x23 (g := (mkF m 44 #[.val (.ref o), .val (.long n), .second] [(.ref o), (.ref o)])) rfl rfl (hb hby d10_44)
    refine own_st st26 ?_
    show own_Go p.tables e below _ (T26.setTop (mkF m 47 #[.val (.ref o), .val (.long n), .second] [(.int (2 : Int32)), (.ref o)]))
    refine own_st (fun _ k' => XS.iconst X26.here hx rfl (hb hby d10_47) k') ?_
    show own_Go p.tables e below _ (T26.setTop (mkF m 48 #[.val (.ref o), .val (.long n), .second] [(.int (1 : Int32)), (.int (2 : Int32)), (.ref o)]))
    refine own_st (fun _ k' => XS.isub X26.here hx rfl (hb hby d10_48) rfl k') ?_
    show own_Go p.tables e below _ (T26.setTop (mkF m 49 #[.val (.ref o), .val (.long n), .second] [(.int (1 : Int32)), (.ref o)]))
    obtain ⟨T27, h27, X27, e27, W27, st27⟩ := putF X26 hx hZ hown (host := "") (Or.inl (hw _ (List.mem_of_getElem? (i := 50) rfl))) Via.refl e26 F_size_x23 E_o_x19 (Or.inl (hw _ (List.mem_of_getElem? (i := 51) rfl))) (hw _ (List.mem_of_getElem? (i := 27) rfl)) (ty := .int) (by decide) rfl rfl (g := (mkF m 49 #[.val (.ref o), .val (.long n), .second] [(.int (1 : Int32)), (.ref o)])) rfl rfl (hb hby d10_49)
    have N27 := Fr.snoc X27 N18 g_o
    have E_o_x28 := E_o_x19.wr W27
    have F_ring_x29 := F_ring_x20.other W27 (Or.inr (slot_ne (Or.inl (hw _ (List.mem_of_getElem? (i := 36) rfl))) (Or.inl (hw _ (List.mem_of_getElem? (i := 51) rfl))) (by decide) (t := (.array (.object "com/example/penumbra/penumbra/order/SequenceLog$Entry"))) (t' := .int) (by decide) (by decide)))
    have F_first_x30 := F_first_x21.other W27 (Or.inr (slot_ne (Or.inl (hw _ (List.mem_of_getElem? (i := 38) rfl))) (Or.inl (hw _ (List.mem_of_getElem? (i := 51) rfl))) (by decide) (t := .long) (t' := .int) (by decide) (by decide)))
    have F_head_x31 := F_head_x22.other W27 (Or.inr (slot_ne (Or.inl (hw _ (List.mem_of_getElem? (i := 49) rfl))) (Or.inl (hw _ (List.mem_of_getElem? (i := 51) rfl))) (by decide) (t := .int) (t' := .int) (by decide) (by decide)))
    have F_size_x32 := F_size_x23.same W27
    have Vn7_x33 := Vn7_x24.other W27 (Ne.symm ne_o_rg)
    have K34 : Keep h0 h27 [o, rg] := K25.wr W27 (Or.inl (List.mem_of_getElem? (i := 0) rfl))
    refine own_st st27 ?_
    show own_Go p.tables e below _ (T27.setTop (mkF m 52 #[.val (.ref o), .val (.long n), .second] []))
    refine own_st (fun _ k' => XS.aloadN X27.here hx rfl (hb hby d10_52) rfl rfl k') ?_
    show own_Go p.tables e below _ (T27.setTop (mkF m 53 #[.val (.ref o), .val (.long n), .second] [(.ref o)]))
    refine own_st (fun _ k' => XS.dup X27.here hx rfl (hb hby d10_53) rfl rfl k') ?_
    show own_Go p.tables e below _ (T27.setTop (mkF m 54 #[.val (.ref o), .val (.long n), .second] [(.ref o), (.ref o)]))
    obtain ⟨T35, X35, e35, st35⟩ := getF X27 hx hZ hown (host := "") (Or.inl (hw _ (List.mem_of_getElem? (i := 37) rfl))) Via.refl e27 F_first_x30 (g := (mkF m 54 #[.val (.ref o), .val (.long n), .second] [(.ref o), (.ref o)])) rfl rfl (hb hby d10_54)
    refine own_st st35 ?_
    show own_Go p.tables e below _ (T35.setTop (mkF m 57 #[.val (.ref o), .val (.long n), .second] [(.long F), (.ref o)]))
    refine own_st (fun _ k' => XS.lconst X35.here hx rfl (hb hby d10_57) k') ?_
    show own_Go p.tables e below _ (T35.setTop (mkF m 58 #[.val (.ref o), .val (.long n), .second] [(.long (1 : Int64)), (.long F), (.ref o)]))
    refine own_st (fun _ k' => XS.ladd X35.here hx rfl (hb hby d10_58) rfl k') ?_
    show own_Go p.tables e below _ (T35.setTop (mkF m 59 #[.val (.ref o), .val (.long n), .second] [(.long (F + (1 : Int64))), (.ref o)]))
    obtain ⟨T36, h36, X36, e36, W36, st36⟩ := putF X35 hx hZ hown (host := "") (Or.inl (hw _ (List.mem_of_getElem? (i := 37) rfl))) Via.refl e35 F_first_x30 E_o_x28 (Or.inl (hw _ (List.mem_of_getElem? (i := 38) rfl))) (hw _ (List.mem_of_getElem? (i := 27) rfl)) (ty := .long) (by decide) rfl rfl (g := (mkF m 59 #[.val (.ref o), .val (.long n), .second] [(.long (F + (1 : Int64))), (.ref o)])) rfl rfl (hb hby d10_59)
    have N36 := Fr.snoc X36 N27 g_o
    have E_o_x37 := E_o_x28.wr W36
    have F_ring_x38 := F_ring_x29.other W36 (Or.inr (slot_ne (Or.inl (hw _ (List.mem_of_getElem? (i := 36) rfl))) (Or.inl (hw _ (List.mem_of_getElem? (i := 38) rfl))) (by decide) (t := (.array (.object "com/example/penumbra/penumbra/order/SequenceLog$Entry"))) (t' := .long) (by decide) (by decide)))
    have F_first_x39 := F_first_x30.same W36
    have F_head_x40 := F_head_x31.other W36 (Or.inr (slot_ne (Or.inl (hw _ (List.mem_of_getElem? (i := 49) rfl))) (Or.inl (hw _ (List.mem_of_getElem? (i := 38) rfl))) (by decide) (t := .int) (t' := .long) (by decide) (by decide)))
    have F_size_x41 := F_size_x32.other W36 (Or.inr (slot_ne (Or.inl (hw _ (List.mem_of_getElem? (i := 51) rfl))) (Or.inl (hw _ (List.mem_of_getElem? (i := 38) rfl))) (by decide) (t := .int) (t' := .long) (by decide) (by decide)))
    have Vn7_x42 := Vn7_x33.other W36 (Ne.symm ne_o_rg)
    have K43 : Keep h0 h36 [o, rg] := K34.wr W36 (Or.inl (List.mem_of_getElem? (i := 0) rfl))
    refine own_st st36 ?_
    show own_Go p.tables e below _ (T36.setTop (mkF m 62 #[.val (.ref o), .val (.long n), .second] []))
    refine own_st (fun _ k' => XS.goto X36.here hx rfl (pc0 := 62) (pc' := 0) rfl (hb hby d10_62) (by decide) (by decide) k') ?_
    show own_Go p.tables e below _ (T36.setTop (mkF m 0 #[.val (.ref o), .val (.long n), .second] []))
    refine own_st (fun _ k' => XS.aloadN X36.here hx rfl (hb hby d10_0) rfl rfl k') ?_
    show own_Go p.tables e below _ (T36.setTop (mkF m 1 #[.val (.ref o), .val (.long n), .second] [(.ref o)]))
    obtain ⟨T44, X44, e44, st44⟩ := getF X36 hx hZ hown (host := "") (Or.inl (hw _ (List.mem_of_getElem? (i := 50) rfl))) Via.refl e36 F_size_x41 (g := (mkF m 1 #[.val (.ref o), .val (.long n), .second] [(.ref o)])) rfl rfl (hb hby d10_1)
    refine own_st st44 ?_
    show own_Go p.tables e below _ (T44.setTop (mkF m 4 #[.val (.ref o), .val (.long n), .second] [(.int (1 : Int32))]))
    refine own_st (fun _ k' => XS.ifNo X44.here hx rfl (hb hby d10_4) rfl ((if0 _ _).trans (tlt (by decide : (0 : Int32) < (1 : Int32))).2.2.2) k') ?_
    show own_Go p.tables e below _ (T44.setTop (mkF m 7 #[.val (.ref o), .val (.long n), .second] []))
    refine own_st (fun _ k' => XS.aloadN X44.here hx rfl (hb hby d10_7) rfl rfl k') ?_
    show own_Go p.tables e below _ (T44.setTop (mkF m 8 #[.val (.ref o), .val (.long n), .second] [(.ref o)]))
    obtain ⟨T45, X45, e45, st45⟩ := getF X44 hx hZ hown (host := "") (Or.inl (hw _ (List.mem_of_getElem? (i := 37) rfl))) Via.refl e44 F_first_x39 (g := (mkF m 8 #[.val (.ref o), .val (.long n), .second] [(.ref o)])) rfl rfl (hb hby d10_8)
    refine own_st st45 ?_
    show own_Go p.tables e below _ (T45.setTop (mkF m 11 #[.val (.ref o), .val (.long n), .second] [(.long (F + (1 : Int64)))]))
    refine own_st (fun _ k' => XS.lloadN X45.here hx rfl (hb hby d10_11) rfl k') ?_
    show own_Go p.tables e below _ (T45.setTop (mkF m 12 #[.val (.ref o), .val (.long n), .second] [(.long n), (.long (F + (1 : Int64)))]))
    refine own_st (fun _ k' => XS.lcmp X45.here hx rfl (hb hby d10_12) rfl k') ?_
    show own_Go p.tables e below _ (T45.setTop (mkF m 13 #[.val (.ref o), .val (.long n), .second] [(.int (lcmpW (F + (1 : Int64)) n))]))
    by_cases hc46 : n < (F + (1 : Int64))
    ·  -- pc 13, n < (F + (1 : Int64))
      refine own_st (fun _ k' => XS.ifYes X45.here hx rfl (pc0 := 13) (pc' := 65) rfl (hb hby d10_13) rfl ((if0 _ _).trans (tlt ((lw_gt (F + (1 : Int64)) n).mpr hc46)).2.2.1) (by decide) (by decide) k') ?_
      show own_Go p.tables e below _ (T45.setTop (mkF m 65 #[.val (.ref o), .val (.long n), .second] []))
      exact own_retV X45 hx Bd.returns (hb hby d10_65) Bd.notSynchronized ⟨rfl, N36, by rw [e45]; exact K43, Or.inr (Or.inl ⟨hc46, hc3, by rw [e45]; exact E_o_x37, by rw [e45]; exact F_ring_x38, by rw [e45]; exact F_first_x39, by rw [e45]; exact F_head_x40, by rw [e45]; exact F_size_x41, by rw [e45]; exact Vn7_x42⟩)⟩ (by decide) (by decide)
    ·  -- pc 13, not n < (F + (1 : Int64))
      refine own_st (fun _ k' => XS.ifNo X45.here hx rfl (hb hby d10_13) rfl ((if0 _ _).trans (flt (mt (lw_gt (F + (1 : Int64)) n).mp hc46)).2.2.1) k') ?_
      show own_Go p.tables e below _ (T45.setTop (mkF m 16 #[.val (.ref o), .val (.long n), .second] []))
      refine own_st (fun _ k' => XS.aloadN X45.here hx rfl (hb hby d10_16) rfl rfl k') ?_
      show own_Go p.tables e below _ (T45.setTop (mkF m 17 #[.val (.ref o), .val (.long n), .second] [(.ref o)]))
      obtain ⟨T47, X47, e47, st47⟩ := getF X45 hx hZ hown (host := "") (Or.inl (hw _ (List.mem_of_getElem? (i := 35) rfl))) Via.refl e45 F_ring_x38 (g := (mkF m 17 #[.val (.ref o), .val (.long n), .second] [(.ref o)])) rfl rfl (hb hby d10_17)
      refine own_st st47 ?_
      show own_Go p.tables e below _ (T47.setTop (mkF m 20 #[.val (.ref o), .val (.long n), .second] [(.ref rg)]))
      refine own_st (fun _ k' => XS.aloadN X47.here hx rfl (hb hby d10_20) rfl rfl k') ?_
      show own_Go p.tables e below _ (T47.setTop (mkF m 21 #[.val (.ref o), .val (.long n), .second] [(.ref o), (.ref rg)]))
      obtain ⟨T48, X48, e48, st48⟩ := getF X47 hx hZ hown (host := "") (Or.inl (hw _ (List.mem_of_getElem? (i := 48) rfl))) Via.refl e47 F_head_x40 (g := (mkF m 21 #[.val (.ref o), .val (.long n), .second] [(.ref o), (.ref rg)])) rfl rfl (hb hby d10_21)
      refine own_st st48 ?_
      show own_Go p.tables e below _ (T48.setTop (mkF m 24 #[.val (.ref o), .val (.long n), .second] [(.int (1 : Int32)), (.ref rg)]))
      refine own_st (fun _ k' => XS.aconstNull X48.here hx rfl (hb hby d10_24) k') ?_
      show own_Go p.tables e below _ (T48.setTop (mkF m 25 #[.val (.ref o), .val (.long n), .second] [.null, (.int (1 : Int32)), (.ref rg)]))
      obtain ⟨cl49, Ar49, qc49, Sz49, Nn49, Hs49, Gs49⟩ := id Vn7_x42
      have hin49 : ¬ ((1 : Int32) < 0 ∨ cl49.slots.size ≤ ((1 : Int32)).toNatClampNeg) := inb_of Sz49 ⟨by decide, by decide⟩
      obtain ⟨T50, h50, X50, e50, W50, st50⟩ := stR X48 hx hZ e48 Ar49 (j := (1 : Int32)) hin49 rfl (Or.inl rfl) (g := (mkF m 25 #[.val (.ref o), .val (.long n), .second] [.null, (.int (1 : Int32)), (.ref rg)])) rfl rfl (hb hby d10_25)
      have N50 := Fr.snoc X50 N36 g_rg
      have Vn50 := Arv.set Ar49 qc49 Sz49 Nn49 Hs49 Gs49 rfl W50 1 rfl (Nat.le_of_ble_eq_true rfl)
      have E_o_x51 := E_o_x37.wr W50
      have F_ring_x52 := F_ring_x38.other W50 (Or.inl ne_o_rg)
      have F_first_x53 := F_first_x39.other W50 (Or.inl ne_o_rg)
      have F_head_x54 := F_head_x40.other W50 (Or.inl ne_o_rg)
      have F_size_x55 := F_size_x41.other W50 (Or.inl ne_o_rg)
      have K57 : Keep h0 h50 [o, rg] := K43.wr W50 (Or.inl (List.mem_of_getElem? (i := 1) rfl))
      refine own_st st50 ?_
      show own_Go p.tables e below _ (T50.setTop (mkF m 26 #[.val (.ref o), .val (.long n), .second] []))
      refine own_st (fun _ k' => XS.aloadN X50.here hx rfl (hb hby d10_26) rfl rfl k') ?_
      show own_Go p.tables e below _ (T50.setTop (mkF m 27 #[.val (.ref o), .val (.long n), .second] [(.ref o)]))
      refine own_st (fun _ k' => XS.aloadN X50.here hx rfl (hb hby d10_27) rfl rfl k') ?_
      show own_Go p.tables e below _ (T50.setTop (mkF m 28 #[.val (.ref o), .val (.long n), .second] [(.ref o), (.ref o)]))
      obtain ⟨T58, X58, e58, st58⟩ := getF X50 hx hZ hown (host := "") (Or.inl (hw _ (List.mem_of_getElem? (i := 48) rfl))) Via.refl e50 F_head_x54 (g := (mkF m 28 #[.val (.ref o), .val (.long n), .second] [(.ref o), (.ref o)])) rfl rfl (hb hby d10_28)
      refine own_st st58 ?_
      show own_Go p.tables e below _ (T58.setTop (mkF m 31 #[.val (.ref o), .val (.long n), .second] [(.int (1 : Int32)), (.ref o)]))
      refine own_st (fun _ k' => XS.iconst X58.here hx rfl (hb hby d10_31) k') ?_
      show own_Go p.tables e below _ (T58.setTop (mkF m 32 #[.val (.ref o), .val (.long n), .second] [(.int (1 : Int32)), (.int (1 : Int32)), (.ref o)]))
      refine own_st (fun _ k' => XS.iadd X58.here hx rfl (hb hby d10_32) rfl k') ?_
      show own_Go p.tables e below _ (T58.setTop (mkF m 33 #[.val (.ref o), .val (.long n), .second] [(.int (2 : Int32)), (.ref o)]))
      refine own_st (fun _ k' => XS.aloadN X58.here hx rfl (hb hby d10_33) rfl rfl k') ?_
      show own_Go p.tables e below _ (T58.setTop (mkF m 34 #[.val (.ref o), .val (.long n), .second] [(.ref o), (.int (2 : Int32)), (.ref o)]))
      obtain ⟨T59, X59, e59, st59⟩ := getF X58 hx hZ hown (host := "") (Or.inl (hw _ (List.mem_of_getElem? (i := 35) rfl))) Via.refl e58 F_ring_x52 (g := (mkF m 34 #[.val (.ref o), .val (.long n), .second] [(.ref o), (.int (2 : Int32)), (.ref o)])) rfl rfl (hb hby d10_34)
      refine own_st st59 ?_
      show own_Go p.tables e below _ (T59.setTop (mkF m 37 #[.val (.ref o), .val (.long n), .second] [(.ref rg), (.int (2 : Int32)), (.ref o)]))
      obtain ⟨cl60, Ar60, qc60, Sz60, Nn60, Hs60, Gs60⟩ := id Vn50
      refine own_st (fun t' k' => X59.arraylength hx (by rw [e59]; exact Ar60.1) (State.isArrayOf_alike hZ.alike Ar60.2.1) (g := (mkF m 37 #[.val (.ref o), .val (.long n), .second] [(.ref rg), (.int (2 : Int32)), (.ref o)])) rfl rfl (hb hby d10_37) t' k') ?_
      rw [len_of Sz60 Nn60]
      show own_Go p.tables e below _ (T59.setTop (mkF m 38 #[.val (.ref o), .val (.long n), .second] [(.int (1024 : Int32)), (.int (2 : Int32)), (.ref o)]))
      refine own_st (fun _ k' => iremM X59 hx rfl (hb hby d10_38) rfl (by decide) k') ?_
      show own_Go p.tables e below _ (T59.setTop (mkF m 39 #[.val (.ref o), .val (.long n), .second] [(.int (2 : Int32)), (.ref o)]))
      obtain ⟨T61, h61, X61, e61, W61, st61⟩ := putF X59 hx hZ hown (host := "") (Or.inl (hw _ (List.mem_of_getElem? (i := 48) rfl))) Via.refl e59 F_head_x54 E_o_x51 (Or.inl (hw _ (List.mem_of_getElem? (i := 49) rfl))) (hw _ (List.mem_of_getElem? (i := 27) rfl)) (ty := .int) (by decide) rfl rfl (g := (mkF m 39 #[.val (.ref o), .val (.long n), .second] [(.int (2 : Int32)), (.ref o)])) rfl rfl (hb hby d10_39)
      have N61 := Fr.snoc X61 N50 g_o
      have E_o_x62 := E_o_x51.wr W61
      have F_ring_x63 := F_ring_x52.other W61 (Or.inr (slot_ne (Or.inl (hw _ (List.mem_of_getElem? (i := 36) rfl))) (Or.inl (hw _ (List.mem_of_getElem? (i := 49) rfl))) (by decide) (t := (.array (.object "com/example/penumbra/penumbra/order/SequenceLog$Entry"))) (t' := .int) (by decide) (by decide)))
      have F_first_x64 := F_first_x53.other W61 (Or.inr (slot_ne (Or.inl (hw _ (List.mem_of_getElem? (i := 38) rfl))) (Or.inl (hw _ (List.mem_of_getElem? (i := 49) rfl))) (by decide) (t := .long) (t' := .int) (by decide) (by decide)))
      have F_head_x65 := F_head_x54.same W61
      have F_size_x66 := F_size_x55.other W61 (Or.inr (slot_ne (Or.inl (hw _ (List.mem_of_getElem? (i := 51) rfl))) (Or.inl (hw _ (List.mem_of_getElem? (i := 49) rfl))) (by decide) (t := .int) (t' := .int) (by decide) (by decide)))
      have Vn50_x67 := Vn50.other W61 (Ne.symm ne_o_rg)
      have K68 : Keep h0 h61 [o, rg] := K57.wr W61 (Or.inl (List.mem_of_getElem? (i := 0) rfl))
      refine own_st st61 ?_
      show own_Go p.tables e below _ (T61.setTop (mkF m 42 #[.val (.ref o), .val (.long n), .second] []))
      refine own_st (fun _ k' => XS.aloadN X61.here hx rfl (hb hby d10_42) rfl rfl k') ?_
      show own_Go p.tables e below _ (T61.setTop (mkF m 43 #[.val (.ref o), .val (.long n), .second] [(.ref o)]))
      refine own_st (fun _ k' => XS.dup X61.here hx rfl (hb hby d10_43) rfl rfl k') ?_
      show own_Go p.tables e below _ (T61.setTop (mkF m 44 #[.val (.ref o), .val (.long n), .second] [(.ref o), (.ref o)]))
      obtain ⟨T69, X69, e69, st69⟩ := getF X61 hx hZ hown (host := "") (Or.inl (hw _ (List.mem_of_getElem? (i := 50) rfl))) Via.refl e61 F_size_x66 (g := (mkF m 44 #[.val (.ref o), .val (.long n), .second] [(.ref o), (.ref o)])) rfl rfl (hb hby d10_44)
      refine own_st st69 ?_
      show own_Go p.tables e below _ (T69.setTop (mkF m 47 #[.val (.ref o), .val (.long n), .second] [(.int (1 : Int32)), (.ref o)]))
      refine own_st (fun _ k' => XS.iconst X69.here hx rfl (hb hby d10_47) k') ?_
      show own_Go p.tables e below _ (T69.setTop (mkF m 48 #[.val (.ref o), .val (.long n), .second] [(.int (1 : Int32)), (.int (1 : Int32)), (.ref o)]))
      refine own_st (fun _ k' => XS.isub X69.here hx rfl (hb hby d10_48) rfl k') ?_
      show own_Go p.tables e below _ (T69.setTop (mkF m 49 #[.val (.ref o), .val (.long n), .second] [(.int (0 : Int32)), (.ref o)]))
      obtain ⟨T70, h70, X70, e70, W70, st70⟩ := putF X69 hx hZ hown (host := "") (Or.inl (hw _ (List.mem_of_getElem? (i := 50) rfl))) Via.refl e69 F_size_x66 E_o_x62 (Or.inl (hw _ (List.mem_of_getElem? (i := 51) rfl))) (hw _ (List.mem_of_getElem? (i := 27) rfl)) (ty := .int) (by decide) rfl rfl (g := (mkF m 49 #[.val (.ref o), .val (.long n), .second] [(.int (0 : Int32)), (.ref o)])) rfl rfl (hb hby d10_49)
      have N70 := Fr.snoc X70 N61 g_o
      have E_o_x71 := E_o_x62.wr W70
      have F_ring_x72 := F_ring_x63.other W70 (Or.inr (slot_ne (Or.inl (hw _ (List.mem_of_getElem? (i := 36) rfl))) (Or.inl (hw _ (List.mem_of_getElem? (i := 51) rfl))) (by decide) (t := (.array (.object "com/example/penumbra/penumbra/order/SequenceLog$Entry"))) (t' := .int) (by decide) (by decide)))
      have F_first_x73 := F_first_x64.other W70 (Or.inr (slot_ne (Or.inl (hw _ (List.mem_of_getElem? (i := 38) rfl))) (Or.inl (hw _ (List.mem_of_getElem? (i := 51) rfl))) (by decide) (t := .long) (t' := .int) (by decide) (by decide)))
      have F_head_x74 := F_head_x65.other W70 (Or.inr (slot_ne (Or.inl (hw _ (List.mem_of_getElem? (i := 49) rfl))) (Or.inl (hw _ (List.mem_of_getElem? (i := 51) rfl))) (by decide) (t := .int) (t' := .int) (by decide) (by decide)))
      have F_size_x75 := F_size_x66.same W70
      have Vn50_x76 := Vn50_x67.other W70 (Ne.symm ne_o_rg)
      have K77 : Keep h0 h70 [o, rg] := K68.wr W70 (Or.inl (List.mem_of_getElem? (i := 0) rfl))
      refine own_st st70 ?_
      show own_Go p.tables e below _ (T70.setTop (mkF m 52 #[.val (.ref o), .val (.long n), .second] []))
      refine own_st (fun _ k' => XS.aloadN X70.here hx rfl (hb hby d10_52) rfl rfl k') ?_
      show own_Go p.tables e below _ (T70.setTop (mkF m 53 #[.val (.ref o), .val (.long n), .second] [(.ref o)]))
      refine own_st (fun _ k' => XS.dup X70.here hx rfl (hb hby d10_53) rfl rfl k') ?_
      show own_Go p.tables e below _ (T70.setTop (mkF m 54 #[.val (.ref o), .val (.long n), .second] [(.ref o), (.ref o)]))
      obtain ⟨T78, X78, e78, st78⟩ := getF X70 hx hZ hown (host := "") (Or.inl (hw _ (List.mem_of_getElem? (i := 37) rfl))) Via.refl e70 F_first_x73 (g := (mkF m 54 #[.val (.ref o), .val (.long n), .second] [(.ref o), (.ref o)])) rfl rfl (hb hby d10_54)
      refine own_st st78 ?_
      show own_Go p.tables e below _ (T78.setTop (mkF m 57 #[.val (.ref o), .val (.long n), .second] [(.long (F + (1 : Int64))), (.ref o)]))
      refine own_st (fun _ k' => XS.lconst X78.here hx rfl (hb hby d10_57) k') ?_
      show own_Go p.tables e below _ (T78.setTop (mkF m 58 #[.val (.ref o), .val (.long n), .second] [(.long (1 : Int64)), (.long (F + (1 : Int64))), (.ref o)]))
      refine own_st (fun _ k' => XS.ladd X78.here hx rfl (hb hby d10_58) rfl k') ?_
      show own_Go p.tables e below _ (T78.setTop (mkF m 59 #[.val (.ref o), .val (.long n), .second] [(.long ((F + (1 : Int64)) + (1 : Int64))), (.ref o)]))
      obtain ⟨T79, h79, X79, e79, W79, st79⟩ := putF X78 hx hZ hown (host := "") (Or.inl (hw _ (List.mem_of_getElem? (i := 37) rfl))) Via.refl e78 F_first_x73 E_o_x71 (Or.inl (hw _ (List.mem_of_getElem? (i := 38) rfl))) (hw _ (List.mem_of_getElem? (i := 27) rfl)) (ty := .long) (by decide) rfl rfl (g := (mkF m 59 #[.val (.ref o), .val (.long n), .second] [(.long ((F + (1 : Int64)) + (1 : Int64))), (.ref o)])) rfl rfl (hb hby d10_59)
      have N79 := Fr.snoc X79 N70 g_o
      have E_o_x80 := E_o_x71.wr W79
      have F_ring_x81 := F_ring_x72.other W79 (Or.inr (slot_ne (Or.inl (hw _ (List.mem_of_getElem? (i := 36) rfl))) (Or.inl (hw _ (List.mem_of_getElem? (i := 38) rfl))) (by decide) (t := (.array (.object "com/example/penumbra/penumbra/order/SequenceLog$Entry"))) (t' := .long) (by decide) (by decide)))
      have F_first_x82 := F_first_x73.same W79
      have F_head_x83 := F_head_x74.other W79 (Or.inr (slot_ne (Or.inl (hw _ (List.mem_of_getElem? (i := 49) rfl))) (Or.inl (hw _ (List.mem_of_getElem? (i := 38) rfl))) (by decide) (t := .int) (t' := .long) (by decide) (by decide)))
      have F_size_x84 := F_size_x75.other W79 (Or.inr (slot_ne (Or.inl (hw _ (List.mem_of_getElem? (i := 51) rfl))) (Or.inl (hw _ (List.mem_of_getElem? (i := 38) rfl))) (by decide) (t := .int) (t' := .long) (by decide) (by decide)))
      have Vn50_x85 := Vn50_x76.other W79 (Ne.symm ne_o_rg)
      have K86 : Keep h0 h79 [o, rg] := K77.wr W79 (Or.inl (List.mem_of_getElem? (i := 0) rfl))
      refine own_st st79 ?_
      show own_Go p.tables e below _ (T79.setTop (mkF m 62 #[.val (.ref o), .val (.long n), .second] []))
      refine own_st (fun _ k' => XS.goto X79.here hx rfl (pc0 := 62) (pc' := 0) rfl (hb hby d10_62) (by decide) (by decide) k') ?_
      show own_Go p.tables e below _ (T79.setTop (mkF m 0 #[.val (.ref o), .val (.long n), .second] []))
      refine own_st (fun _ k' => XS.aloadN X79.here hx rfl (hb hby d10_0) rfl rfl k') ?_
      show own_Go p.tables e below _ (T79.setTop (mkF m 1 #[.val (.ref o), .val (.long n), .second] [(.ref o)]))
      obtain ⟨T87, X87, e87, st87⟩ := getF X79 hx hZ hown (host := "") (Or.inl (hw _ (List.mem_of_getElem? (i := 50) rfl))) Via.refl e79 F_size_x84 (g := (mkF m 1 #[.val (.ref o), .val (.long n), .second] [(.ref o)])) rfl rfl (hb hby d10_1)
      refine own_st st87 ?_
      show own_Go p.tables e below _ (T87.setTop (mkF m 4 #[.val (.ref o), .val (.long n), .second] [(.int (0 : Int32))]))
      refine own_st (fun _ k' => XS.ifYes X87.here hx rfl (pc0 := 4) (pc' := 65) rfl (hb hby d10_4) rfl ((if0 _ _).trans (flt (by decide : ¬ (0 : Int32) < (0 : Int32))).2.2.2) (by decide) (by decide) k') ?_
      show own_Go p.tables e below _ (T87.setTop (mkF m 65 #[.val (.ref o), .val (.long n), .second] []))
      exact own_retV X87 hx Bd.returns (hb hby d10_65) Bd.notSynchronized ⟨rfl, N79, by rw [e87]; exact K86, Or.inr (Or.inr (⟨hc46, by rw [e87]; exact E_o_x80, by rw [e87]; exact F_ring_x81, by rw [e87]; exact F_first_x82, by rw [e87]; exact F_head_x83, by rw [e87]; exact F_size_x84, by rw [e87]; exact Vn50_x85⟩))⟩ (by decide) (by decide)

theorem ef_rmD3 (m : MethodId) (x0 : Addr) (x1 : Int64) : entryFrame m #[(.ref x0), (.long x1)] 3 = mkF m 0 #[.val (.ref x0), .val (.long x1), .second] [] := by first | (simp [entryFrame, mkF, argsToLocals, Value.category]; done) | rfl
def Q_rmD3 (Z : State) (o : Addr) (n F : Int64) (rg : Addr) (kk : ClassId) (v0 v1 v2 : Value) (h0 : Heap) (n0 : Nat) (v : Option Value) (h : Heap) (L : List Loc) : Prop := v = none ∧ Fr n0 L ∧ Keep h0 h [o, rg] ∧ ((n < F ∧ Exa Z h o "com/example/penumbra/penumbra/order/SequenceLog" ∧ Fld Z h o "com/example/penumbra/penumbra/order/SequenceLog" "ring" "[Lcom/example/penumbra/penumbra/order/SequenceLog$Entry;" (.ref rg) ∧ Fld Z h o "com/example/penumbra/penumbra/order/SequenceLog" "first" "J" (.long F) ∧ Fld Z h o "com/example/penumbra/penumbra/order/SequenceLog" "head" "I" (.int (0 : Int32)) ∧ Fld Z h o "com/example/penumbra/penumbra/order/SequenceLog" "size" "I" (.int (3 : Int32)) ∧ Arv Z h rg kk (.object "com/example/penumbra/penumbra/order/SequenceLog$Entry") (1024 : Int32) [v0, v1, v2] .null) ∨ (n < (F + (1 : Int64)) ∧ ¬ n < F ∧ Exa Z h o "com/example/penumbra/penumbra/order/SequenceLog" ∧ Fld Z h o "com/example/penumbra/penumbra/order/SequenceLog" "ring" "[Lcom/example/penumbra/penumbra/order/SequenceLog$Entry;" (.ref rg) ∧ Fld Z h o "com/example/penumbra/penumbra/order/SequenceLog" "first" "J" (.long (F + (1 : Int64))) ∧ Fld Z h o "com/example/penumbra/penumbra/order/SequenceLog" "head" "I" (.int (1 : Int32)) ∧ Fld Z h o "com/example/penumbra/penumbra/order/SequenceLog" "size" "I" (.int (2 : Int32)) ∧ Arv Z h rg kk (.object "com/example/penumbra/penumbra/order/SequenceLog$Entry") (1024 : Int32) [.null, v1, v2] .null) ∨ (n < ((F + (1 : Int64)) + (1 : Int64)) ∧ ¬ n < (F + (1 : Int64)) ∧ Exa Z h o "com/example/penumbra/penumbra/order/SequenceLog" ∧ Fld Z h o "com/example/penumbra/penumbra/order/SequenceLog" "ring" "[Lcom/example/penumbra/penumbra/order/SequenceLog$Entry;" (.ref rg) ∧ Fld Z h o "com/example/penumbra/penumbra/order/SequenceLog" "first" "J" (.long ((F + (1 : Int64)) + (1 : Int64))) ∧ Fld Z h o "com/example/penumbra/penumbra/order/SequenceLog" "head" "I" (.int (2 : Int32)) ∧ Fld Z h o "com/example/penumbra/penumbra/order/SequenceLog" "size" "I" (.int (1 : Int32)) ∧ Arv Z h rg kk (.object "com/example/penumbra/penumbra/order/SequenceLog$Entry") (1024 : Int32) [.null, .null, v2] .null) ∨ (¬ n < ((F + (1 : Int64)) + (1 : Int64)) ∧ Exa Z h o "com/example/penumbra/penumbra/order/SequenceLog" ∧ Fld Z h o "com/example/penumbra/penumbra/order/SequenceLog" "ring" "[Lcom/example/penumbra/penumbra/order/SequenceLog$Entry;" (.ref rg) ∧ Fld Z h o "com/example/penumbra/penumbra/order/SequenceLog" "first" "J" (.long (((F + (1 : Int64)) + (1 : Int64)) + (1 : Int64))) ∧ Fld Z h o "com/example/penumbra/penumbra/order/SequenceLog" "head" "I" (.int (3 : Int32)) ∧ Fld Z h o "com/example/penumbra/penumbra/order/SequenceLog" "size" "I" (.int (0 : Int32)) ∧ Arv Z h rg kk (.object "com/example/penumbra/penumbra/order/SequenceLog$Entry") (1024 : Int32) [.null, .null, .null] .null))
def K_rmD3 (Z : State) (o : Addr) (n F : Int64) (rg : Addr) (kk : ClassId) (v0 v1 v2 : Value) (h0 : Heap) (n0 : Nat) (s : State) : Outcome → State → Prop := fun oo U' => ∃ v L, oo = .returned v ∧ Q_rmD3 Z o n F rg kk v0 v1 v2 h0 n0 v U'.heap L ∧ FrameEnd s oo U' L ({ frames := 0, cells := 0, slots := 0, locals := 0 } : Room).cells ({ frames := 0, cells := 0, slots := 0, locals := 0 } : Room).slots
set_option maxRecDepth 65536 in
set_option maxHeartbeats 40000000 in
theorem rmD3 (l : Launch) (Z : State) (a0 : Array Value) (hw : ∀ d ∈ tables_1, d.before a0 Z = true) (ws : List Jvm.Cond) (o : Addr) (n F : Int64) (rg : Addr) (kk : ClassId) (v0 v1 v2 : Value) (h0 : Heap) (n0 : Nat) (Z0 : n0 ≤ h0.size) (E_o : Exa Z h0 o "com/example/penumbra/penumbra/order/SequenceLog") (F_ring : Fld Z h0 o "com/example/penumbra/penumbra/order/SequenceLog" "ring" "[Lcom/example/penumbra/penumbra/order/SequenceLog$Entry;" (.ref rg)) (F_first : Fld Z h0 o "com/example/penumbra/penumbra/order/SequenceLog" "first" "J" (.long F)) (F_head : Fld Z h0 o "com/example/penumbra/penumbra/order/SequenceLog" "head" "I" (.int (0 : Int32))) (F_size : Fld Z h0 o "com/example/penumbra/penumbra/order/SequenceLog" "size" "I" (.int (3 : Int32))) (V_rg : Arv Z h0 rg kk (.object "com/example/penumbra/penumbra/order/SequenceLog$Entry") (1024 : Int32) [v0, v1, v2] .null) (OV : Ovr Z kk "com/example/penumbra/penumbra/order/SequenceLog$Entry") (ne_o_rg : o ≠ rg) (g_o : n0 ≤ o) (g_rg : n0 ≤ rg) :
    MetFree l (⟨"com/example/penumbra/penumbra/order/SequenceLog", "dropUpTo", "(J)V"⟩ : MethodName) (head1 (Jvm.Cond.code (⟨"com/example/penumbra/penumbra/order/SequenceLog", "dropUpTo", "(J)V"⟩ : MethodName) prog_129_method_7_code 3 none :: ws) ({ frames := 0, cells := 0, slots := 0, locals := 0 } : Room)) (fun a U => a = #[(.ref o), (.long n)] ∧ Z.Warmed39 U.vm ∧ U.heap = h0) (fun _ _ _ _ _ => True) (fun _ U oo U' => ∃ v L, oo = .returned v ∧ Q_rmD3 Z o n F rg kk v0 v1 v2 h0 n0 v U'.heap L ∧ FrameEnd U oo U' L ({ frames := 0, cells := 0, slots := 0, locals := 0 } : Room).cells ({ frames := 0, cells := 0, slots := 0, locals := 0 } : Room).slots) := by
  refine MetFree.of_bodySF (plainFor_of_name pn_com_example_penumbra_penumbra_order_SequenceLog) hisR ?_
  intro p e s m args below meth c s₁ Bd hml0 hP hK
  obtain ⟨rfl, hZ, hh⟩ := hP
  have hx := Bd.exec
  have hby := Bd.bytes
  have hml : c.maxLocals = 3 := hml0
  have hown : s.vm.findClass "com/example/penumbra/penumbra/order/SequenceLog" = some m.cls := findClass_of_methodNamed Bd.named
  have hnm := (name_of_methodNamed Bd.named Bd.method).1
  have X0 : Stand p l e ({ frames := 0, cells := 0, slots := 0, locals := 0 } : Room) s m #[(.ref o), (.long n)] below meth c s₁ [] 0 0 := Stand.of_body Bd
  have e0 : s₁.heap = h0 := by rw [← hh, Bd.state]; rfl
  have N0 := Fr.nil n0
  refine own_st (K := (K_rmD3 Z o n F rg kk v0 v1 v2 h0 n0 s)) (fun t' k' => castTop (ef_rmD3 m o n) k') ?_
  show own_Go p.tables e below _ (s₁.setTop (mkF m 0 #[.val (.ref o), .val (.long n), .second] []))
  refine own_st (fun _ k' => XS.aloadN X0.here hx rfl (hb hby d10_0) rfl rfl k') ?_
  show own_Go p.tables e below _ (s₁.setTop (mkF m 1 #[.val (.ref o), .val (.long n), .second] [(.ref o)]))
  obtain ⟨T1, X1, e1, st1⟩ := getF X0 hx hZ hown (host := "") (Or.inl (hw _ (List.mem_of_getElem? (i := 50) rfl))) Via.refl e0 F_size (g := (mkF m 1 #[.val (.ref o), .val (.long n), .second] [(.ref o)])) rfl rfl (hb hby d10_1)
  refine own_st st1 ?_
  show own_Go p.tables e below _ (T1.setTop (mkF m 4 #[.val (.ref o), .val (.long n), .second] [(.int (3 : Int32))]))
  refine own_st (fun _ k' => XS.ifNo X1.here hx rfl (hb hby d10_4) rfl ((if0 _ _).trans (tlt (by decide : (0 : Int32) < (3 : Int32))).2.2.2) k') ?_
  show own_Go p.tables e below _ (T1.setTop (mkF m 7 #[.val (.ref o), .val (.long n), .second] []))
  refine own_st (fun _ k' => XS.aloadN X1.here hx rfl (hb hby d10_7) rfl rfl k') ?_
  show own_Go p.tables e below _ (T1.setTop (mkF m 8 #[.val (.ref o), .val (.long n), .second] [(.ref o)]))
  obtain ⟨T2, X2, e2, st2⟩ := getF X1 hx hZ hown (host := "") (Or.inl (hw _ (List.mem_of_getElem? (i := 37) rfl))) Via.refl e1 F_first (g := (mkF m 8 #[.val (.ref o), .val (.long n), .second] [(.ref o)])) rfl rfl (hb hby d10_8)
  refine own_st st2 ?_
  show own_Go p.tables e below _ (T2.setTop (mkF m 11 #[.val (.ref o), .val (.long n), .second] [(.long F)]))
  refine own_st (fun _ k' => XS.lloadN X2.here hx rfl (hb hby d10_11) rfl k') ?_
  show own_Go p.tables e below _ (T2.setTop (mkF m 12 #[.val (.ref o), .val (.long n), .second] [(.long n), (.long F)]))
  refine own_st (fun _ k' => XS.lcmp X2.here hx rfl (hb hby d10_12) rfl k') ?_
  show own_Go p.tables e below _ (T2.setTop (mkF m 13 #[.val (.ref o), .val (.long n), .second] [(.int (lcmpW F n))]))
  by_cases hc3 : n < F
  ·  -- pc 13, n < F
    refine own_st (fun _ k' => XS.ifYes X2.here hx rfl (pc0 := 13) (pc' := 65) rfl (hb hby d10_13) rfl ((if0 _ _).trans (tlt ((lw_gt F n).mpr hc3)).2.2.1) (by decide) (by decide) k') ?_
    show own_Go p.tables e below _ (T2.setTop (mkF m 65 #[.val (.ref o), .val (.long n), .second] []))
    exact own_retV X2 hx Bd.returns (hb hby d10_65) Bd.notSynchronized ⟨rfl, N0, by rw [e2]; exact (Keep.refl h0 [o, rg]), Or.inl ⟨hc3, by rw [e2]; exact E_o, by rw [e2]; exact F_ring, by rw [e2]; exact F_first, by rw [e2]; exact F_head, by rw [e2]; exact F_size, by rw [e2]; exact V_rg⟩⟩ (by decide) (by decide)
  ·  -- pc 13, not n < F
    refine own_st (fun _ k' => XS.ifNo X2.here hx rfl (hb hby d10_13) rfl ((if0 _ _).trans (flt (mt (lw_gt F n).mp hc3)).2.2.1) k') ?_
    show own_Go p.tables e below _ (T2.setTop (mkF m 16 #[.val (.ref o), .val (.long n), .second] []))
    refine own_st (fun _ k' => XS.aloadN X2.here hx rfl (hb hby d10_16) rfl rfl k') ?_
    show own_Go p.tables e below _ (T2.setTop (mkF m 17 #[.val (.ref o), .val (.long n), .second] [(.ref o)]))
    obtain ⟨T4, X4, e4, st4⟩ := getF X2 hx hZ hown (host := "") (Or.inl (hw _ (List.mem_of_getElem? (i := 35) rfl))) Via.refl e2 F_ring (g := (mkF m 17 #[.val (.ref o), .val (.long n), .second] [(.ref o)])) rfl rfl (hb hby d10_17)
    refine own_st st4 ?_
    show own_Go p.tables e below _ (T4.setTop (mkF m 20 #[.val (.ref o), .val (.long n), .second] [(.ref rg)]))
    refine own_st (fun _ k' => XS.aloadN X4.here hx rfl (hb hby d10_20) rfl rfl k') ?_
    show own_Go p.tables e below _ (T4.setTop (mkF m 21 #[.val (.ref o), .val (.long n), .second] [(.ref o), (.ref rg)]))
    obtain ⟨T5, X5, e5, st5⟩ := getF X4 hx hZ hown (host := "") (Or.inl (hw _ (List.mem_of_getElem? (i := 48) rfl))) Via.refl e4 F_head (g := (mkF m 21 #[.val (.ref o), .val (.long n), .second] [(.ref o), (.ref rg)])) rfl rfl (hb hby d10_21)
    refine own_st st5 ?_
    show own_Go p.tables e below _ (T5.setTop (mkF m 24 #[.val (.ref o), .val (.long n), .second] [(.int (0 : Int32)), (.ref rg)]))
    refine own_st (fun _ k' => XS.aconstNull X5.here hx rfl (hb hby d10_24) k') ?_
    show own_Go p.tables e below _ (T5.setTop (mkF m 25 #[.val (.ref o), .val (.long n), .second] [.null, (.int (0 : Int32)), (.ref rg)]))
    obtain ⟨cl6, Ar6, qc6, Sz6, Nn6, Hs6, Gs6⟩ := id V_rg
    have hin6 : ¬ ((0 : Int32) < 0 ∨ cl6.slots.size ≤ ((0 : Int32)).toNatClampNeg) := inb_of Sz6 ⟨by decide, by decide⟩
    obtain ⟨T7, h7, X7, e7, W7, st7⟩ := stR X5 hx hZ e5 Ar6 (j := (0 : Int32)) hin6 rfl (Or.inl rfl) (g := (mkF m 25 #[.val (.ref o), .val (.long n), .second] [.null, (.int (0 : Int32)), (.ref rg)])) rfl rfl (hb hby d10_25)
    have N7 := Fr.snoc X7 N0 g_rg
    have Vn7 := Arv.set Ar6 qc6 Sz6 Nn6 Hs6 Gs6 rfl W7 0 rfl (Nat.le_of_ble_eq_true rfl)
    have E_o_x8 := E_o.wr W7
    have F_ring_x9 := F_ring.other W7 (Or.inl ne_o_rg)
    have F_first_x10 := F_first.other W7 (Or.inl ne_o_rg)
    have F_head_x11 := F_head.other W7 (Or.inl ne_o_rg)
    have F_size_x12 := F_size.other W7 (Or.inl ne_o_rg)
    have K14 : Keep h0 h7 [o, rg] := (Keep.refl h0 [o, rg]).wr W7 (Or.inl (List.mem_of_getElem? (i := 1) rfl))
    refine own_st st7 ?_
    show own_Go p.tables e below _ (T7.setTop (mkF m 26 #[.val (.ref o), .val (.long n), .second] []))
    refine own_st (fun _ k' => XS.aloadN X7.here hx rfl (hb hby d10_26) rfl rfl k') ?_
    show own_Go p.tables e below _ (T7.setTop (mkF m 27 #[.val (.ref o), .val (.long n), .second] [(.ref o)]))
    refine own_st (fun _ k' => XS.aloadN X7.here hx rfl (hb hby d10_27) rfl rfl k') ?_
    show own_Go p.tables e below _ (T7.setTop (mkF m 28 #[.val (.ref o), .val (.long n), .second] [(.ref o), (.ref o)]))
    obtain ⟨T15, X15, e15, st15⟩ := getF X7 hx hZ hown (host := "") (Or.inl (hw _ (List.mem_of_getElem? (i := 48) rfl))) Via.refl e7 F_head_x11 (g := (mkF m 28 #[.val (.ref o), .val (.long n), .second] [(.ref o), (.ref o)])) rfl rfl (hb hby d10_28)
    refine own_st st15 ?_
    show own_Go p.tables e below _ (T15.setTop (mkF m 31 #[.val (.ref o), .val (.long n), .second] [(.int (0 : Int32)), (.ref o)]))
    refine own_st (fun _ k' => XS.iconst X15.here hx rfl (hb hby d10_31) k') ?_
    show own_Go p.tables e below _ (T15.setTop (mkF m 32 #[.val (.ref o), .val (.long n), .second] [(.int (1 : Int32)), (.int (0 : Int32)), (.ref o)]))
    refine own_st (fun _ k' => XS.iadd X15.here hx rfl (hb hby d10_32) rfl k') ?_
    show own_Go p.tables e below _ (T15.setTop (mkF m 33 #[.val (.ref o), .val (.long n), .second] [(.int (1 : Int32)), (.ref o)]))
    refine own_st (fun _ k' => XS.aloadN X15.here hx rfl (hb hby d10_33) rfl rfl k') ?_
    show own_Go p.tables e below _ (T15.setTop (mkF m 34 #[.val (.ref o), .val (.long n), .second] [(.ref o), (.int (1 : Int32)), (.ref o)]))
    obtain ⟨T16, X16, e16, st16⟩ := getF X15 hx hZ hown (host := "") (Or.inl (hw _ (List.mem_of_getElem? (i := 35) rfl))) Via.refl e15 F_ring_x9 (g := (mkF m 34 #[.val (.ref o), .val (.long n), .second] [(.ref o), (.int (1 : Int32)), (.ref o)])) rfl rfl (hb hby d10_34)
    refine own_st st16 ?_
    show own_Go p.tables e below _ (T16.setTop (mkF m 37 #[.val (.ref o), .val (.long n), .second] [(.ref rg), (.int (1 : Int32)), (.ref o)]))
    obtain ⟨cl17, Ar17, qc17, Sz17, Nn17, Hs17, Gs17⟩ := id Vn7
    refine own_st (fun t' k' => X16.arraylength hx (by rw [e16]; exact Ar17.1) (State.isArrayOf_alike hZ.alike Ar17.2.1) (g := (mkF m 37 #[.val (.ref o), .val (.long n), .second] [(.ref rg), (.int (1 : Int32)), (.ref o)])) rfl rfl (hb hby d10_37) t' k') ?_
    rw [len_of Sz17 Nn17]
    show own_Go p.tables e below _ (T16.setTop (mkF m 38 #[.val (.ref o), .val (.long n), .second] [(.int (1024 : Int32)), (.int (1 : Int32)), (.ref o)]))
    refine own_st (fun _ k' => iremM X16 hx rfl (hb hby d10_38) rfl (by decide) k') ?_
    show own_Go p.tables e below _ (T16.setTop (mkF m 39 #[.val (.ref o), .val (.long n), .second] [(.int (1 : Int32)), (.ref o)]))
    obtain ⟨T18, h18, X18, e18, W18, st18⟩ := putF X16 hx hZ hown (host := "") (Or.inl (hw _ (List.mem_of_getElem? (i := 48) rfl))) Via.refl e16 F_head_x11 E_o_x8 (Or.inl (hw _ (List.mem_of_getElem? (i := 49) rfl))) (hw _ (List.mem_of_getElem? (i := 27) rfl)) (ty := .int) (by decide) rfl rfl (g := (mkF m 39 #[.val (.ref o), .val (.long n), .second] [(.int (1 : Int32)), (.ref o)])) rfl rfl (hb hby d10_39)
    have N18 := Fr.snoc X18 N7 g_o
    have E_o_x19 := E_o_x8.wr W18
    have F_ring_x20 := F_ring_x9.other W18 (Or.inr (slot_ne (Or.inl (hw _ (List.mem_of_getElem? (i := 36) rfl))) (Or.inl (hw _ (List.mem_of_getElem? (i := 49) rfl))) (by decide) (t := (.array (.object "com/example/penumbra/penumbra/order/SequenceLog$Entry"))) (t' := .int) (by decide) (by decide)))
    have F_first_x21 := F_first_x10.other W18 (Or.inr (slot_ne (Or.inl (hw _ (List.mem_of_getElem? (i := 38) rfl))) (Or.inl (hw _ (List.mem_of_getElem? (i := 49) rfl))) (by decide) (t := .long) (t' := .int) (by decide) (by decide)))
    have F_head_x22 := F_head_x11.same W18
    have F_size_x23 := F_size_x12.other W18 (Or.inr (slot_ne (Or.inl (hw _ (List.mem_of_getElem? (i := 51) rfl))) (Or.inl (hw _ (List.mem_of_getElem? (i := 49) rfl))) (by decide) (t := .int) (t' := .int) (by decide) (by decide)))
    have Vn7_x24 := Vn7.other W18 (Ne.symm ne_o_rg)
    have K25 : Keep h0 h18 [o, rg] := K14.wr W18 (Or.inl (List.mem_of_getElem? (i := 0) rfl))
    refine own_st st18 ?_
    show own_Go p.tables e below _ (T18.setTop (mkF m 42 #[.val (.ref o), .val (.long n), .second] []))
    refine own_st (fun _ k' => XS.aloadN X18.here hx rfl (hb hby d10_42) rfl rfl k') ?_
    show own_Go p.tables e below _ (T18.setTop (mkF m 43 #[.val (.ref o), .val (.long n), .second] [(.ref o)]))
    refine own_st (fun _ k' => XS.dup X18.here hx rfl (hb hby d10_43) rfl rfl k') ?_
    show own_Go p.tables e below _ (T18.setTop (mkF m 44 #[.val (.ref o), .val (.long n), .second] [(.ref o), (.ref o)]))
    obtain ⟨T26, X26, e26, st26⟩ := getF X18 hx hZ hown (host := "") (Or.inl (hw _ (List.mem_of_getElem? (i := 50) rfl))) Via.refl e18 F_size_x23 (g := (mkF m 44 #[.val (.ref o), .val (.long n), .second] [(.ref o), (.ref o)])) rfl rfl (hb hby d10_44)
    refine own_st st26 ?_
    show own_Go p.tables e below _ (T26.setTop (mkF m 47 #[.val (.ref o), .val (.long n), .second] [(.int (3 : Int32)), (.ref o)]))
    refine own_st (fun _ k' => XS.iconst X26.here hx rfl (hb hby d10_47) k') ?_
    show own_Go p.tables e below _ (T26.setTop (mkF m 48 #[.val (.ref o), .val (.long n), .second] [(.int (1 : Int32)), (.int (3 : Int32)), (.ref o)]))
    refine own_st (fun _ k' => XS.isub X26.here hx rfl (hb hby d10_48) rfl k') ?_
    show own_Go p.tables e below _ (T26.setTop (mkF m 49 #[.val (.ref o), .val (.long n), .second] [(.int (2 : Int32)), (.ref o)]))
    obtain ⟨T27, h27, X27, e27, W27, st27⟩ := putF X26 hx hZ hown (host := "") (Or.inl (hw _ (List.mem_of_getElem? (i := 50) rfl))) Via.refl e26 F_size_x23 E_o_x19 (Or.inl (hw _ (List.mem_of_getElem? (i := 51) rfl))) (hw _ (List.mem_of_getElem? (i := 27) rfl)) (ty := .int) (by decide) rfl rfl (g := (mkF m 49 #[.val (.ref o), .val (.long n), .second] [(.int (2 : Int32)), (.ref o)])) rfl rfl (hb hby d10_49)
    have N27 := Fr.snoc X27 N18 g_o
    have E_o_x28 := E_o_x19.wr W27
    have F_ring_x29 := F_ring_x20.other W27 (Or.inr (slot_ne (Or.inl (hw _ (List.mem_of_getElem? (i := 36) rfl))) (Or.inl (hw _ (List.mem_of_getElem? (i := 51) rfl))) (by decide) (t := (.array (.object "com/example/penumbra/penumbra/order/SequenceLog$Entry"))) (t' := .int) (by decide) (by decide)))
    have F_first_x30 := F_first_x21.other W27 (Or.inr (slot_ne (Or.inl (hw _ (List.mem_of_getElem? (i := 38) rfl))) (Or.inl (hw _ (List.mem_of_getElem? (i := 51) rfl))) (by decide) (t := .long) (t' := .int) (by decide) (by decide)))
    have F_head_x31 := F_head_x22.other W27 (Or.inr (slot_ne (Or.inl (hw _ (List.mem_of_getElem? (i := 49) rfl))) (Or.inl (hw _ (List.mem_of_getElem? (i := 51) rfl))) (by decide) (t := .int) (t' := .int) (by decide) (by decide)))
    have F_size_x32 := F_size_x23.same W27
    have Vn7_x33 := Vn7_x24.other W27 (Ne.symm ne_o_rg)
    have K34 : Keep h0 h27 [o, rg] := K25.wr W27 (Or.inl (List.mem_of_getElem? (i := 0) rfl))
    refine own_st st27 ?_
    show own_Go p.tables e below _ (T27.setTop (mkF m 52 #[.val (.ref o), .val (.long n), .second] []))
    refine own_st (fun _ k' => XS.aloadN X27.here hx rfl (hb hby d10_52) rfl rfl k') ?_
    show own_Go p.tables e below _ (T27.setTop (mkF m 53 #[.val (.ref o), .val (.long n), .second] [(.ref o)]))
    refine own_st (fun _ k' => XS.dup X27.here hx rfl (hb hby d10_53) rfl rfl k') ?_
    show own_Go p.tables e below _ (T27.setTop (mkF m 54 #[.val (.ref o), .val (.long n), .second] [(.ref o), (.ref o)]))
    obtain ⟨T35, X35, e35, st35⟩ := getF X27 hx hZ hown (host := "") (Or.inl (hw _ (List.mem_of_getElem? (i := 37) rfl))) Via.refl e27 F_first_x30 (g := (mkF m 54 #[.val (.ref o), .val (.long n), .second] [(.ref o), (.ref o)])) rfl rfl (hb hby d10_54)
    refine own_st st35 ?_
    show own_Go p.tables e below _ (T35.setTop (mkF m 57 #[.val (.ref o), .val (.long n), .second] [(.long F), (.ref o)]))
    refine own_st (fun _ k' => XS.lconst X35.here hx rfl (hb hby d10_57) k') ?_
    show own_Go p.tables e below _ (T35.setTop (mkF m 58 #[.val (.ref o), .val (.long n), .second] [(.long (1 : Int64)), (.long F), (.ref o)]))
    refine own_st (fun _ k' => XS.ladd X35.here hx rfl (hb hby d10_58) rfl k') ?_
    show own_Go p.tables e below _ (T35.setTop (mkF m 59 #[.val (.ref o), .val (.long n), .second] [(.long (F + (1 : Int64))), (.ref o)]))
    obtain ⟨T36, h36, X36, e36, W36, st36⟩ := putF X35 hx hZ hown (host := "") (Or.inl (hw _ (List.mem_of_getElem? (i := 37) rfl))) Via.refl e35 F_first_x30 E_o_x28 (Or.inl (hw _ (List.mem_of_getElem? (i := 38) rfl))) (hw _ (List.mem_of_getElem? (i := 27) rfl)) (ty := .long) (by decide) rfl rfl (g := (mkF m 59 #[.val (.ref o), .val (.long n), .second] [(.long (F + (1 : Int64))), (.ref o)])) rfl rfl (hb hby d10_59)
    have N36 := Fr.snoc X36 N27 g_o
    have E_o_x37 := E_o_x28.wr W36
    have F_ring_x38 := F_ring_x29.other W36 (Or.inr (slot_ne (Or.inl (hw _ (List.mem_of_getElem? (i := 36) rfl))) (Or.inl (hw _ (List.mem_of_getElem? (i := 38) rfl))) (by decide) (t := (.array (.object "com/example/penumbra/penumbra/order/SequenceLog$Entry"))) (t' := .long) (by decide) (by decide)))
    have F_first_x39 := F_first_x30.same W36
    have F_head_x40 := F_head_x31.other W36 (Or.inr (slot_ne (Or.inl (hw _ (List.mem_of_getElem? (i := 49) rfl))) (Or.inl (hw _ (List.mem_of_getElem? (i := 38) rfl))) (by decide) (t := .int) (t' := .long) (by decide) (by decide)))
    have F_size_x41 := F_size_x32.other W36 (Or.inr (slot_ne (Or.inl (hw _ (List.mem_of_getElem? (i := 51) rfl))) (Or.inl (hw _ (List.mem_of_getElem? (i := 38) rfl))) (by decide) (t := .int) (t' := .long) (by decide) (by decide)))
    have Vn7_x42 := Vn7_x33.other W36 (Ne.symm ne_o_rg)
    have K43 : Keep h0 h36 [o, rg] := K34.wr W36 (Or.inl (List.mem_of_getElem? (i := 0) rfl))
    refine own_st st36 ?_
    show own_Go p.tables e below _ (T36.setTop (mkF m 62 #[.val (.ref o), .val (.long n), .second] []))
    refine own_st (fun _ k' => XS.goto X36.here hx rfl (pc0 := 62) (pc' := 0) rfl (hb hby d10_62) (by decide) (by decide) k') ?_
    show own_Go p.tables e below _ (T36.setTop (mkF m 0 #[.val (.ref o), .val (.long n), .second] []))
    refine own_st (fun _ k' => XS.aloadN X36.here hx rfl (hb hby d10_0) rfl rfl k') ?_
    show own_Go p.tables e below _ (T36.setTop (mkF m 1 #[.val (.ref o), .val (.long n), .second] [(.ref o)]))
    obtain ⟨T44, X44, e44, st44⟩ := getF X36 hx hZ hown (host := "") (Or.inl (hw _ (List.mem_of_getElem? (i := 50) rfl))) Via.refl e36 F_size_x41 (g := (mkF m 1 #[.val (.ref o), .val (.long n), .second] [(.ref o)])) rfl rfl (hb hby d10_1)
    refine own_st st44 ?_
    show own_Go p.tables e below _ (T44.setTop (mkF m 4 #[.val (.ref o), .val (.long n), .second] [(.int (2 : Int32))]))
    refine own_st (fun _ k' => XS.ifNo X44.here hx rfl (hb hby d10_4) rfl ((if0 _ _).trans (tlt (by decide : (0 : Int32) < (2 : Int32))).2.2.2) k') ?_
    show own_Go p.tables e below _ (T44.setTop (mkF m 7 #[.val (.ref o), .val (.long n), .second] []))
    refine own_st (fun _ k' => XS.aloadN X44.here hx rfl (hb hby d10_7) rfl rfl k') ?_
    show own_Go p.tables e below _ (T44.setTop (mkF m 8 #[.val (.ref o), .val (.long n), .second] [(.ref o)]))
    obtain ⟨T45, X45, e45, st45⟩ := getF X44 hx hZ hown (host := "") (Or.inl (hw _ (List.mem_of_getElem? (i := 37) rfl))) Via.refl e44 F_first_x39 (g := (mkF m 8 #[.val (.ref o), .val (.long n), .second] [(.ref o)])) rfl rfl (hb hby d10_8)
    refine own_st st45 ?_
    show own_Go p.tables e below _ (T45.setTop (mkF m 11 #[.val (.ref o), .val (.long n), .second] [(.long (F + (1 : Int64)))]))
    refine own_st (fun _ k' => XS.lloadN X45.here hx rfl (hb hby d10_11) rfl k') ?_
    show own_Go p.tables e below _ (T45.setTop (mkF m 12 #[.val (.ref o), .val (.long n), .second] [(.long n), (.long (F + (1 : Int64)))]))
    refine own_st (fun _ k' => XS.lcmp X45.here hx rfl (hb hby d10_12) rfl k') ?_
    show own_Go p.tables e below _ (T45.setTop (mkF m 13 #[.val (.ref o), .val (.long n), .second] [(.int (lcmpW (F + (1 : Int64)) n))]))
    by_cases hc46 : n < (F + (1 : Int64))
    ·  -- pc 13, n < (F + (1 : Int64))
      refine own_st (fun _ k' => XS.ifYes X45.here hx rfl (pc0 := 13) (pc' := 65) rfl (hb hby d10_13) rfl ((if0 _ _).trans (tlt ((lw_gt (F + (1 : Int64)) n).mpr hc46)).2.2.1) (by decide) (by decide) k') ?_
      show own_Go p.tables e below _ (T45.setTop (mkF m 65 #[.val (.ref o), .val (.long n), .second] []))
      exact own_retV X45 hx Bd.returns (hb hby d10_65) Bd.notSynchronized ⟨rfl, N36, by rw [e45]; exact K43, Or.inr (Or.inl ⟨hc46, hc3, by rw [e45]; exact E_o_x37, by rw [e45]; exact F_ring_x38, by rw [e45]; exact F_first_x39, by rw [e45]; exact F_head_x40, by rw [e45]; exact F_size_x41, by rw [e45]; exact Vn7_x42⟩)⟩ (by decide) (by decide)
    ·  -- pc 13, not n < (F + (1 : Int64))
      refine own_st (fun _ k' => XS.ifNo X45.here hx rfl (hb hby d10_13) rfl ((if0 _ _).trans (flt (mt (lw_gt (F + (1 : Int64)) n).mp hc46)).2.2.1) k') ?_
      show own_Go p.tables e below _ (T45.setTop (mkF m 16 #[.val (.ref o), .val (.long n), .second] []))
      refine own_st (fun _ k' => XS.aloadN X45.here hx rfl (hb hby d10_16) rfl rfl k') ?_
      show own_Go p.tables e below _ (T45.setTop (mkF m 17 #[.val (.ref o), .val (.long n), .second] [(.ref o)]))
      obtain ⟨T47, X47, e47, st47⟩ := getF X45 hx hZ hown (host := "") (Or.inl (hw _ (List.mem_of_getElem? (i := 35) rfl))) Via.refl e45 F_ring_x38 (g := (mkF m 17 #[.val (.ref o), .val (.long n), .second] [(.ref o)])) rfl rfl (hb hby d10_17)
      refine own_st st47 ?_
      show own_Go p.tables e below _ (T47.setTop (mkF m 20 #[.val (.ref o), .val (.long n), .second] [(.ref rg)]))
      refine own_st (fun _ k' => XS.aloadN X47.here hx rfl (hb hby d10_20) rfl rfl k') ?_
      show own_Go p.tables e below _ (T47.setTop (mkF m 21 #[.val (.ref o), .val (.long n), .second] [(.ref o), (.ref rg)]))
      obtain ⟨T48, X48, e48, st48⟩ := getF X47 hx hZ hown (host := "") (Or.inl (hw _ (List.mem_of_getElem? (i := 48) rfl))) Via.refl e47 F_head_x40 (g := (mkF m 21 #[.val (.ref o), .val (.long n), .second] [(.ref o), (.ref rg)])) rfl rfl (hb hby d10_21)
      refine own_st st48 ?_
      show own_Go p.tables e below _ (T48.setTop (mkF m 24 #[.val (.ref o), .val (.long n), .second] [(.int (1 : Int32)), (.ref rg)]))
      refine own_st (fun _ k' => XS.aconstNull X48.here hx rfl (hb hby d10_24) k') ?_
      show own_Go p.tables e below _ (T48.setTop (mkF m 25 #[.val (.ref o), .val (.long n), .second] [.null, (.int (1 : Int32)), (.ref rg)]))
      obtain ⟨cl49, Ar49, qc49, Sz49, Nn49, Hs49, Gs49⟩ := id Vn7_x42
      have hin49 : ¬ ((1 : Int32) < 0 ∨ cl49.slots.size ≤ ((1 : Int32)).toNatClampNeg) := inb_of Sz49 ⟨by decide, by decide⟩
      obtain ⟨T50, h50, X50, e50, W50, st50⟩ := stR X48 hx hZ e48 Ar49 (j := (1 : Int32)) hin49 rfl (Or.inl rfl) (g := (mkF m 25 #[.val (.ref o), .val (.long n), .second] [.null, (.int (1 : Int32)), (.ref rg)])) rfl rfl (hb hby d10_25)
      have N50 := Fr.snoc X50 N36 g_rg
      have Vn50 := Arv.set Ar49 qc49 Sz49 Nn49 Hs49 Gs49 rfl W50 1 rfl (Nat.le_of_ble_eq_true rfl)
      have E_o_x51 := E_o_x37.wr W50
      have F_ring_x52 := F_ring_x38.other W50 (Or.inl ne_o_rg)
      have F_first_x53 := F_first_x39.other W50 (Or.inl ne_o_rg)
      have F_head_x54 := F_head_x40.other W50 (Or.inl ne_o_rg)
      have F_size_x55 := F_size_x41.other W50 (Or.inl ne_o_rg)
      have K57 : Keep h0 h50 [o, rg] := K43.wr W50 (Or.inl (List.mem_of_getElem? (i := 1) rfl))
      refine own_st st50 ?_
      show own_Go p.tables e below _ (T50.setTop (mkF m 26 #[.val (.ref o), .val (.long n), .second] []))
      refine own_st (fun _ k' => XS.aloadN X50.here hx rfl (hb hby d10_26) rfl rfl k') ?_
      show own_Go p.tables e below _ (T50.setTop (mkF m 27 #[.val (.ref o), .val (.long n), .second] [(.ref o)]))
      refine own_st (fun _ k' => XS.aloadN X50.here hx rfl (hb hby d10_27) rfl rfl k') ?_
      show own_Go p.tables e below _ (T50.setTop (mkF m 28 #[.val (.ref o), .val (.long n), .second] [(.ref o), (.ref o)]))
      obtain ⟨T58, X58, e58, st58⟩ := getF X50 hx hZ hown (host := "") (Or.inl (hw _ (List.mem_of_getElem? (i := 48) rfl))) Via.refl e50 F_head_x54 (g := (mkF m 28 #[.val (.ref o), .val (.long n), .second] [(.ref o), (.ref o)])) rfl rfl (hb hby d10_28)
      refine own_st st58 ?_
      show own_Go p.tables e below _ (T58.setTop (mkF m 31 #[.val (.ref o), .val (.long n), .second] [(.int (1 : Int32)), (.ref o)]))
      refine own_st (fun _ k' => XS.iconst X58.here hx rfl (hb hby d10_31) k') ?_
      show own_Go p.tables e below _ (T58.setTop (mkF m 32 #[.val (.ref o), .val (.long n), .second] [(.int (1 : Int32)), (.int (1 : Int32)), (.ref o)]))
      refine own_st (fun _ k' => XS.iadd X58.here hx rfl (hb hby d10_32) rfl k') ?_
      show own_Go p.tables e below _ (T58.setTop (mkF m 33 #[.val (.ref o), .val (.long n), .second] [(.int (2 : Int32)), (.ref o)]))
      refine own_st (fun _ k' => XS.aloadN X58.here hx rfl (hb hby d10_33) rfl rfl k') ?_
      show own_Go p.tables e below _ (T58.setTop (mkF m 34 #[.val (.ref o), .val (.long n), .second] [(.ref o), (.int (2 : Int32)), (.ref o)]))
      obtain ⟨T59, X59, e59, st59⟩ := getF X58 hx hZ hown (host := "") (Or.inl (hw _ (List.mem_of_getElem? (i := 35) rfl))) Via.refl e58 F_ring_x52 (g := (mkF m 34 #[.val (.ref o), .val (.long n), .second] [(.ref o), (.int (2 : Int32)), (.ref o)])) rfl rfl (hb hby d10_34)
      refine own_st st59 ?_
      show own_Go p.tables e below _ (T59.setTop (mkF m 37 #[.val (.ref o), .val (.long n), .second] [(.ref rg), (.int (2 : Int32)), (.ref o)]))
      obtain ⟨cl60, Ar60, qc60, Sz60, Nn60, Hs60, Gs60⟩ := id Vn50
      refine own_st (fun t' k' => X59.arraylength hx (by rw [e59]; exact Ar60.1) (State.isArrayOf_alike hZ.alike Ar60.2.1) (g := (mkF m 37 #[.val (.ref o), .val (.long n), .second] [(.ref rg), (.int (2 : Int32)), (.ref o)])) rfl rfl (hb hby d10_37) t' k') ?_
      rw [len_of Sz60 Nn60]
      show own_Go p.tables e below _ (T59.setTop (mkF m 38 #[.val (.ref o), .val (.long n), .second] [(.int (1024 : Int32)), (.int (2 : Int32)), (.ref o)]))
      refine own_st (fun _ k' => iremM X59 hx rfl (hb hby d10_38) rfl (by decide) k') ?_
      show own_Go p.tables e below _ (T59.setTop (mkF m 39 #[.val (.ref o), .val (.long n), .second] [(.int (2 : Int32)), (.ref o)]))
      obtain ⟨T61, h61, X61, e61, W61, st61⟩ := putF X59 hx hZ hown (host := "") (Or.inl (hw _ (List.mem_of_getElem? (i := 48) rfl))) Via.refl e59 F_head_x54 E_o_x51 (Or.inl (hw _ (List.mem_of_getElem? (i := 49) rfl))) (hw _ (List.mem_of_getElem? (i := 27) rfl)) (ty := .int) (by decide) rfl rfl (g := (mkF m 39 #[.val (.ref o), .val (.long n), .second] [(.int (2 : Int32)), (.ref o)])) rfl rfl (hb hby d10_39)
      have N61 := Fr.snoc X61 N50 g_o
      have E_o_x62 := E_o_x51.wr W61
      have F_ring_x63 := F_ring_x52.other W61 (Or.inr (slot_ne (Or.inl (hw _ (List.mem_of_getElem? (i := 36) rfl))) (Or.inl (hw _ (List.mem_of_getElem? (i := 49) rfl))) (by decide) (t := (.array (.object "com/example/penumbra/penumbra/order/SequenceLog$Entry"))) (t' := .int) (by decide) (by decide)))
      have F_first_x64 := F_first_x53.other W61 (Or.inr (slot_ne (Or.inl (hw _ (List.mem_of_getElem? (i := 38) rfl))) (Or.inl (hw _ (List.mem_of_getElem? (i := 49) rfl))) (by decide) (t := .long) (t' := .int) (by decide) (by decide)))
      have F_head_x65 := F_head_x54.same W61
      have F_size_x66 := F_size_x55.other W61 (Or.inr (slot_ne (Or.inl (hw _ (List.mem_of_getElem? (i := 51) rfl))) (Or.inl (hw _ (List.mem_of_getElem? (i := 49) rfl))) (by decide) (t := .int) (t' := .int) (by decide) (by decide)))
      have Vn50_x67 := Vn50.other W61 (Ne.symm ne_o_rg)
      have K68 : Keep h0 h61 [o, rg] := K57.wr W61 (Or.inl (List.mem_of_getElem? (i := 0) rfl))
      refine own_st st61 ?_
      show own_Go p.tables e below _ (T61.setTop (mkF m 42 #[.val (.ref o), .val (.long n), .second] []))
      refine own_st (fun _ k' => XS.aloadN X61.here hx rfl (hb hby d10_42) rfl rfl k') ?_
      show own_Go p.tables e below _ (T61.setTop (mkF m 43 #[.val (.ref o), .val (.long n), .second] [(.ref o)]))
      refine own_st (fun _ k' => XS.dup X61.here hx rfl (hb hby d10_43) rfl rfl k') ?_
      show own_Go p.tables e below _ (T61.setTop (mkF m 44 #[.val (.ref o), .val (.long n), .second] [(.ref o), (.ref o)]))
      obtain ⟨T69, X69, e69, st69⟩ := getF X61 hx hZ hown (host := "") (Or.inl (hw _ (List.mem_of_getElem? (i := 50) rfl))) Via.refl e61 F_size_x66 (g := (mkF m 44 #[.val (.ref o), .val (.long n), .second] [(.ref o), (.ref o)])) rfl rfl (hb hby d10_44)
      refine own_st st69 ?_
      show own_Go p.tables e below _ (T69.setTop (mkF m 47 #[.val (.ref o), .val (.long n), .second] [(.int (2 : Int32)), (.ref o)]))
      refine own_st (fun _ k' => XS.iconst X69.here hx rfl (hb hby d10_47) k') ?_
      show own_Go p.tables e below _ (T69.setTop (mkF m 48 #[.val (.ref o), .val (.long n), .second] [(.int (1 : Int32)), (.int (2 : Int32)), (.ref o)]))
      refine own_st (fun _ k' => XS.isub X69.here hx rfl (hb hby d10_48) rfl k') ?_
      show own_Go p.tables e below _ (T69.setTop (mkF m 49 #[.val (.ref o), .val (.long n), .second] [(.int (1 : Int32)), (.ref o)]))
      obtain ⟨T70, h70, X70, e70, W70, st70⟩ := putF X69 hx hZ hown (host := "") (Or.inl (hw _ (List.mem_of_getElem? (i := 50) rfl))) Via.refl e69 F_size_x66 E_o_x62 (Or.inl (hw _ (List.mem_of_getElem? (i := 51) rfl))) (hw _ (List.mem_of_getElem? (i := 27) rfl)) (ty := .int) (by decide) rfl rfl (g := (mkF m 49 #[.val (.ref o), .val (.long n), .second] [(.int (1 : Int32)), (.ref o)])) rfl rfl (hb hby d10_49)
      have N70 := Fr.snoc X70 N61 g_o
      have E_o_x71 := E_o_x62.wr W70
      have F_ring_x72 := F_ring_x63.other W70 (Or.inr (slot_ne (Or.inl (hw _ (List.mem_of_getElem? (i := 36) rfl))) (Or.inl (hw _ (List.mem_of_getElem? (i := 51) rfl))) (by decide) (t := (.array (.object "com/example/penumbra/penumbra/order/SequenceLog$Entry"))) (t' := .int) (by decide) (by decide)))
      have F_first_x73 := F_first_x64.other W70 (Or.inr (slot_ne (Or.inl (hw _ (List.mem_of_getElem? (i := 38) rfl))) (Or.inl (hw _ (List.mem_of_getElem? (i := 51) rfl))) (by decide) (t := .long) (t' := .int) (by decide) (by decide)))
      have F_head_x74 := F_head_x65.other W70 (Or.inr (slot_ne (Or.inl (hw _ (List.mem_of_getElem? (i := 49) rfl))) (Or.inl (hw _ (List.mem_of_getElem? (i := 51) rfl))) (by decide) (t := .int) (t' := .int) (by decide) (by decide)))
      have F_size_x75 := F_size_x66.same W70
      have Vn50_x76 := Vn50_x67.other W70 (Ne.symm ne_o_rg)
      have K77 : Keep h0 h70 [o, rg] := K68.wr W70 (Or.inl (List.mem_of_getElem? (i := 0) rfl))
      refine own_st st70 ?_
      show own_Go p.tables e below _ (T70.setTop (mkF m 52 #[.val (.ref o), .val (.long n), .second] []))
      refine own_st (fun _ k' => XS.aloadN X70.here hx rfl (hb hby d10_52) rfl rfl k') ?_
      show own_Go p.tables e below _ (T70.setTop (mkF m 53 #[.val (.ref o), .val (.long n), .second] [(.ref o)]))
      refine own_st (fun _ k' => XS.dup X70.here hx rfl (hb hby d10_53) rfl rfl k') ?_
      show own_Go p.tables e below _ (T70.setTop (mkF m 54 #[.val (.ref o), .val (.long n), .second] [(.ref o), (.ref o)]))
      obtain ⟨T78, X78, e78, st78⟩ := getF X70 hx hZ hown (host := "") (Or.inl (hw _ (List.mem_of_getElem? (i := 37) rfl))) Via.refl e70 F_first_x73 (g := (mkF m 54 #[.val (.ref o), .val (.long n), .second] [(.ref o), (.ref o)])) rfl rfl (hb hby d10_54)
      refine own_st st78 ?_
      show own_Go p.tables e below _ (T78.setTop (mkF m 57 #[.val (.ref o), .val (.long n), .second] [(.long (F + (1 : Int64))), (.ref o)]))
      refine own_st (fun _ k' => XS.lconst X78.here hx rfl (hb hby d10_57) k') ?_
      show own_Go p.tables e below _ (T78.setTop (mkF m 58 #[.val (.ref o), .val (.long n), .second] [(.long (1 : Int64)), (.long (F + (1 : Int64))), (.ref o)]))
      refine own_st (fun _ k' => XS.ladd X78.here hx rfl (hb hby d10_58) rfl k') ?_
      show own_Go p.tables e below _ (T78.setTop (mkF m 59 #[.val (.ref o), .val (.long n), .second] [(.long ((F + (1 : Int64)) + (1 : Int64))), (.ref o)]))
      obtain ⟨T79, h79, X79, e79, W79, st79⟩ := putF X78 hx hZ hown (host := "") (Or.inl (hw _ (List.mem_of_getElem? (i := 37) rfl))) Via.refl e78 F_first_x73 E_o_x71 (Or.inl (hw _ (List.mem_of_getElem? (i := 38) rfl))) (hw _ (List.mem_of_getElem? (i := 27) rfl)) (ty := .long) (by decide) rfl rfl (g := (mkF m 59 #[.val (.ref o), .val (.long n), .second] [(.long ((F + (1 : Int64)) + (1 : Int64))), (.ref o)])) rfl rfl (hb hby d10_59)
      have N79 := Fr.snoc X79 N70 g_o
      have E_o_x80 := E_o_x71.wr W79
      have F_ring_x81 := F_ring_x72.other W79 (Or.inr (slot_ne (Or.inl (hw _ (List.mem_of_getElem? (i := 36) rfl))) (Or.inl (hw _ (List.mem_of_getElem? (i := 38) rfl))) (by decide) (t := (.array (.object "com/example/penumbra/penumbra/order/SequenceLog$Entry"))) (t' := .long) (by decide) (by decide)))
      have F_first_x82 := F_first_x73.same W79
      have F_head_x83 := F_head_x74.other W79 (Or.inr (slot_ne (Or.inl (hw _ (List.mem_of_getElem? (i := 49) rfl))) (Or.inl (hw _ (List.mem_of_getElem? (i := 38) rfl))) (by decide) (t := .int) (t' := .long) (by decide) (by decide)))
      have F_size_x84 := F_size_x75.other W79 (Or.inr (slot_ne (Or.inl (hw _ (List.mem_of_getElem? (i := 51) rfl))) (Or.inl (hw _ (List.mem_of_getElem? (i := 38) rfl))) (by decide) (t := .int) (t' := .long) (by decide) (by decide)))
      have Vn50_x85 := Vn50_x76.other W79 (Ne.symm ne_o_rg)
      have K86 : Keep h0 h79 [o, rg] := K77.wr W79 (Or.inl (List.mem_of_getElem? (i := 0) rfl))
      refine own_st st79 ?_
      show own_Go p.tables e below _ (T79.setTop (mkF m 62 #[.val (.ref o), .val (.long n), .second] []))
      refine own_st (fun _ k' => XS.goto X79.here hx rfl (pc0 := 62) (pc' := 0) rfl (hb hby d10_62) (by decide) (by decide) k') ?_
      show own_Go p.tables e below _ (T79.setTop (mkF m 0 #[.val (.ref o), .val (.long n), .second] []))
      refine own_st (fun _ k' => XS.aloadN X79.here hx rfl (hb hby d10_0) rfl rfl k') ?_
      show own_Go p.tables e below _ (T79.setTop (mkF m 1 #[.val (.ref o), .val (.long n), .second] [(.ref o)]))
      obtain ⟨T87, X87, e87, st87⟩ := getF X79 hx hZ hown (host := "") (Or.inl (hw _ (List.mem_of_getElem? (i := 50) rfl))) Via.refl e79 F_size_x84 (g := (mkF m 1 #[.val (.ref o), .val (.long n), .second] [(.ref o)])) rfl rfl (hb hby d10_1)
      refine own_st st87 ?_
      show own_Go p.tables e below _ (T87.setTop (mkF m 4 #[.val (.ref o), .val (.long n), .second] [(.int (1 : Int32))]))
      refine own_st (fun _ k' => XS.ifNo X87.here hx rfl (hb hby d10_4) rfl ((if0 _ _).trans (tlt (by decide : (0 : Int32) < (1 : Int32))).2.2.2) k') ?_
      show own_Go p.tables e below _ (T87.setTop (mkF m 7 #[.val (.ref o), .val (.long n), .second] []))
      refine own_st (fun _ k' => XS.aloadN X87.here hx rfl (hb hby d10_7) rfl rfl k') ?_
      show own_Go p.tables e below _ (T87.setTop (mkF m 8 #[.val (.ref o), .val (.long n), .second] [(.ref o)]))
      obtain ⟨T88, X88, e88, st88⟩ := getF X87 hx hZ hown (host := "") (Or.inl (hw _ (List.mem_of_getElem? (i := 37) rfl))) Via.refl e87 F_first_x82 (g := (mkF m 8 #[.val (.ref o), .val (.long n), .second] [(.ref o)])) rfl rfl (hb hby d10_8)
      refine own_st st88 ?_
      show own_Go p.tables e below _ (T88.setTop (mkF m 11 #[.val (.ref o), .val (.long n), .second] [(.long ((F + (1 : Int64)) + (1 : Int64)))]))
      refine own_st (fun _ k' => XS.lloadN X88.here hx rfl (hb hby d10_11) rfl k') ?_
      show own_Go p.tables e below _ (T88.setTop (mkF m 12 #[.val (.ref o), .val (.long n), .second] [(.long n), (.long ((F + (1 : Int64)) + (1 : Int64)))]))
      refine own_st (fun _ k' => XS.lcmp X88.here hx rfl (hb hby d10_12) rfl k') ?_
      show own_Go p.tables e below _ (T88.setTop (mkF m 13 #[.val (.ref o), .val (.long n), .second] [(.int (lcmpW ((F + (1 : Int64)) + (1 : Int64)) n))]))
      by_cases hc89 : n < ((F + (1 : Int64)) + (1 : Int64))
      ·  -- pc 13, n < ((F + (1 : Int64)) + (1 : Int64))
        refine own_st (fun _ k' => XS.ifYes X88.here hx rfl (pc0 := 13) (pc' := 65) rfl (hb hby d10_13) rfl ((if0 _ _).trans (tlt ((lw_gt ((F + (1 : Int64)) + (1 : Int64)) n).mpr hc89)).2.2.1) (by decide) (by decide) k') ?_
        show own_Go p.tables e below _ (T88.setTop (mkF m 65 #[.val (.ref o), .val (.long n), .second] []))
        exact own_retV X88 hx Bd.returns (hb hby d10_65) Bd.notSynchronized ⟨rfl, N79, by rw [e88]; exact K86, Or.inr (Or.inr (Or.inl ⟨hc89, hc46, by rw [e88]; exact E_o_x80, by rw [e88]; exact F_ring_x81, by rw [e88]; exact F_first_x82, by rw [e88]; exact F_head_x83, by rw [e88]; exact F_size_x84, by rw [e88]; exact Vn50_x85⟩))⟩ (by decide) (by decide)
      ·  -- pc 13, not n < ((F + (1 : Int64)) + (1 : Int64))
        refine own_st (fun _ k' => XS.ifNo X88.here hx rfl (hb hby d10_13) rfl ((if0 _ _).trans (flt (mt (lw_gt ((F + (1 : Int64)) + (1 : Int64)) n).mp hc89)).2.2.1) k') ?_
        show own_Go p.tables e below _ (T88.setTop (mkF m 16 #[.val (.ref o), .val (.long n), .second] []))
        refine own_st (fun _ k' => XS.aloadN X88.here hx rfl (hb hby d10_16) rfl rfl k') ?_
        show own_Go p.tables e below _ (T88.setTop (mkF m 17 #[.val (.ref o), .val (.long n), .second] [(.ref o)]))
        obtain ⟨T90, X90, e90, st90⟩ := getF X88 hx hZ hown (host := "") (Or.inl (hw _ (List.mem_of_getElem? (i := 35) rfl))) Via.refl e88 F_ring_x81 (g := (mkF m 17 #[.val (.ref o), .val (.long n), .second] [(.ref o)])) rfl rfl (hb hby d10_17)
        refine own_st st90 ?_
        show own_Go p.tables e below _ (T90.setTop (mkF m 20 #[.val (.ref o), .val (.long n), .second] [(.ref rg)]))
        refine own_st (fun _ k' => XS.aloadN X90.here hx rfl (hb hby d10_20) rfl rfl k') ?_
        show own_Go p.tables e below _ (T90.setTop (mkF m 21 #[.val (.ref o), .val (.long n), .second] [(.ref o), (.ref rg)]))
        obtain ⟨T91, X91, e91, st91⟩ := getF X90 hx hZ hown (host := "") (Or.inl (hw _ (List.mem_of_getElem? (i := 48) rfl))) Via.refl e90 F_head_x83 (g := (mkF m 21 #[.val (.ref o), .val (.long n), .second] [(.ref o), (.ref rg)])) rfl rfl (hb hby d10_21)
        refine own_st st91 ?_
        show own_Go p.tables e below _ (T91.setTop (mkF m 24 #[.val (.ref o), .val (.long n), .second] [(.int (2 : Int32)), (.ref rg)]))
        refine own_st (fun _ k' => XS.aconstNull X91.here hx rfl (hb hby d10_24) k') ?_
        show own_Go p.tables e below _ (T91.setTop (mkF m 25 #[.val (.ref o), .val (.long n), .second] [.null, (.int (2 : Int32)), (.ref rg)]))
        obtain ⟨cl92, Ar92, qc92, Sz92, Nn92, Hs92, Gs92⟩ := id Vn50_x85
        have hin92 : ¬ ((2 : Int32) < 0 ∨ cl92.slots.size ≤ ((2 : Int32)).toNatClampNeg) := inb_of Sz92 ⟨by decide, by decide⟩
        obtain ⟨T93, h93, X93, e93, W93, st93⟩ := stR X91 hx hZ e91 Ar92 (j := (2 : Int32)) hin92 rfl (Or.inl rfl) (g := (mkF m 25 #[.val (.ref o), .val (.long n), .second] [.null, (.int (2 : Int32)), (.ref rg)])) rfl rfl (hb hby d10_25)
        have N93 := Fr.snoc X93 N79 g_rg
        have Vn93 := Arv.set Ar92 qc92 Sz92 Nn92 Hs92 Gs92 rfl W93 2 rfl (Nat.le_of_ble_eq_true rfl)
        have E_o_x94 := E_o_x80.wr W93
        have F_ring_x95 := F_ring_x81.other W93 (Or.inl ne_o_rg)
        have F_first_x96 := F_first_x82.other W93 (Or.inl ne_o_rg)
        have F_head_x97 := F_head_x83.other W93 (Or.inl ne_o_rg)
        have F_size_x98 := F_size_x84.other W93 (Or.inl ne_o_rg)
        have K100 : Keep h0 h93 [o, rg] := K86.wr W93 (Or.inl (List.mem_of_getElem? (i := 1) rfl))
        refine own_st st93 ?_
        show own_Go p.tables e below _ (T93.setTop (mkF m 26 #[.val (.ref o), .val (.long n), .second] []))
        refine own_st (fun _ k' => XS.aloadN X93.here hx rfl (hb hby d10_26) rfl rfl k') ?_
        show own_Go p.tables e below _ (T93.setTop (mkF m 27 #[.val (.ref o), .val (.long n), .second] [(.ref o)]))
        refine own_st (fun _ k' => XS.aloadN X93.here hx rfl (hb hby d10_27) rfl rfl k') ?_
        show own_Go p.tables e below _ (T93.setTop (mkF m 28 #[.val (.ref o), .val (.long n), .second] [(.ref o), (.ref o)]))
        obtain ⟨T101, X101, e101, st101⟩ := getF X93 hx hZ hown (host := "") (Or.inl (hw _ (List.mem_of_getElem? (i := 48) rfl))) Via.refl e93 F_head_x97 (g := (mkF m 28 #[.val (.ref o), .val (.long n), .second] [(.ref o), (.ref o)])) rfl rfl (hb hby d10_28)
        refine own_st st101 ?_
        show own_Go p.tables e below _ (T101.setTop (mkF m 31 #[.val (.ref o), .val (.long n), .second] [(.int (2 : Int32)), (.ref o)]))
        refine own_st (fun _ k' => XS.iconst X101.here hx rfl (hb hby d10_31) k') ?_
        show own_Go p.tables e below _ (T101.setTop (mkF m 32 #[.val (.ref o), .val (.long n), .second] [(.int (1 : Int32)), (.int (2 : Int32)), (.ref o)]))
        refine own_st (fun _ k' => XS.iadd X101.here hx rfl (hb hby d10_32) rfl k') ?_
        show own_Go p.tables e below _ (T101.setTop (mkF m 33 #[.val (.ref o), .val (.long n), .second] [(.int (3 : Int32)), (.ref o)]))
        refine own_st (fun _ k' => XS.aloadN X101.here hx rfl (hb hby d10_33) rfl rfl k') ?_
        show own_Go p.tables e below _ (T101.setTop (mkF m 34 #[.val (.ref o), .val (.long n), .second] [(.ref o), (.int (3 : Int32)), (.ref o)]))
        obtain ⟨T102, X102, e102, st102⟩ := getF X101 hx hZ hown (host := "") (Or.inl (hw _ (List.mem_of_getElem? (i := 35) rfl))) Via.refl e101 F_ring_x95 (g := (mkF m 34 #[.val (.ref o), .val (.long n), .second] [(.ref o), (.int (3 : Int32)), (.ref o)])) rfl rfl (hb hby d10_34)
        refine own_st st102 ?_
        show own_Go p.tables e below _ (T102.setTop (mkF m 37 #[.val (.ref o), .val (.long n), .second] [(.ref rg), (.int (3 : Int32)), (.ref o)]))
        obtain ⟨cl103, Ar103, qc103, Sz103, Nn103, Hs103, Gs103⟩ := id Vn93
        refine own_st (fun t' k' => X102.arraylength hx (by rw [e102]; exact Ar103.1) (State.isArrayOf_alike hZ.alike Ar103.2.1) (g := (mkF m 37 #[.val (.ref o), .val (.long n), .second] [(.ref rg), (.int (3 : Int32)), (.ref o)])) rfl rfl (hb hby d10_37) t' k') ?_
        rw [len_of Sz103 Nn103]
        show own_Go p.tables e below _ (T102.setTop (mkF m 38 #[.val (.ref o), .val (.long n), .second] [(.int (1024 : Int32)), (.int (3 : Int32)), (.ref o)]))
        refine own_st (fun _ k' => iremM X102 hx rfl (hb hby d10_38) rfl (by decide) k') ?_
        show own_Go p.tables e below _ (T102.setTop (mkF m 39 #[.val (.ref o), .val (.long n), .second] [(.int (3 : Int32)), (.ref o)]))
        obtain ⟨T104, h104, X104, e104, W104, st104⟩ := putF X102 hx hZ hown (host := "") (Or.inl (hw _ (List.mem_of_getElem? (i := 48) rfl))) Via.refl e102 F_head_x97 E_o_x94 (Or.inl (hw _ (List.mem_of_getElem? (i := 49) rfl))) (hw _ (List.mem_of_getElem? (i := 27) rfl)) (ty := .int) (by decide) rfl rfl (g := (mkF m 39 #[.val (.ref o), .val (.long n), .second] [(.int (3 : Int32)), (.ref o)])) rfl rfl (hb hby d10_39)
        have N104 := Fr.snoc X104 N93 g_o
        have E_o_x105 := E_o_x94.wr W104
        have F_ring_x106 := F_ring_x95.other W104 (Or.inr (slot_ne (Or.inl (hw _ (List.mem_of_getElem? (i := 36) rfl))) (Or.inl (hw _ (List.mem_of_getElem? (i := 49) rfl))) (by decide) (t := (.array (.object "com/example/penumbra/penumbra/order/SequenceLog$Entry"))) (t' := .int) (by decide) (by decide)))
        have F_first_x107 := F_first_x96.other W104 (Or.inr (slot_ne (Or.inl (hw _ (List.mem_of_getElem? (i := 38) rfl))) (Or.inl (hw _ (List.mem_of_getElem? (i := 49) rfl))) (by decide) (t := .long) (t' := .int) (by decide) (by decide)))
        have F_head_x108 := F_head_x97.same W104
        have F_size_x109 := F_size_x98.other W104 (Or.inr (slot_ne (Or.inl (hw _ (List.mem_of_getElem? (i := 51) rfl))) (Or.inl (hw _ (List.mem_of_getElem? (i := 49) rfl))) (by decide) (t := .int) (t' := .int) (by decide) (by decide)))
        have Vn93_x110 := Vn93.other W104 (Ne.symm ne_o_rg)
        have K111 : Keep h0 h104 [o, rg] := K100.wr W104 (Or.inl (List.mem_of_getElem? (i := 0) rfl))
        refine own_st st104 ?_
        show own_Go p.tables e below _ (T104.setTop (mkF m 42 #[.val (.ref o), .val (.long n), .second] []))
        refine own_st (fun _ k' => XS.aloadN X104.here hx rfl (hb hby d10_42) rfl rfl k') ?_
        show own_Go p.tables e below _ (T104.setTop (mkF m 43 #[.val (.ref o), .val (.long n), .second] [(.ref o)]))
        refine own_st (fun _ k' => XS.dup X104.here hx rfl (hb hby d10_43) rfl rfl k') ?_
        show own_Go p.tables e below _ (T104.setTop (mkF m 44 #[.val (.ref o), .val (.long n), .second] [(.ref o), (.ref o)]))
        obtain ⟨T112, X112, e112, st112⟩ := getF X104 hx hZ hown (host := "") (Or.inl (hw _ (List.mem_of_getElem? (i := 50) rfl))) Via.refl e104 F_size_x109 (g := (mkF m 44 #[.val (.ref o), .val (.long n), .second] [(.ref o), (.ref o)])) rfl rfl (hb hby d10_44)
        refine own_st st112 ?_
        show own_Go p.tables e below _ (T112.setTop (mkF m 47 #[.val (.ref o), .val (.long n), .second] [(.int (1 : Int32)), (.ref o)]))
        refine own_st (fun _ k' => XS.iconst X112.here hx rfl (hb hby d10_47) k') ?_
        show own_Go p.tables e below _ (T112.setTop (mkF m 48 #[.val (.ref o), .val (.long n), .second] [(.int (1 : Int32)), (.int (1 : Int32)), (.ref o)]))
        refine own_st (fun _ k' => XS.isub X112.here hx rfl (hb hby d10_48) rfl k') ?_
        show own_Go p.tables e below _ (T112.setTop (mkF m 49 #[.val (.ref o), .val (.long n), .second] [(.int (0 : Int32)), (.ref o)]))
        obtain ⟨T113, h113, X113, e113, W113, st113⟩ := putF X112 hx hZ hown (host := "") (Or.inl (hw _ (List.mem_of_getElem? (i := 50) rfl))) Via.refl e112 F_size_x109 E_o_x105 (Or.inl (hw _ (List.mem_of_getElem? (i := 51) rfl))) (hw _ (List.mem_of_getElem? (i := 27) rfl)) (ty := .int) (by decide) rfl rfl (g := (mkF m 49 #[.val (.ref o), .val (.long n), .second] [(.int (0 : Int32)), (.ref o)])) rfl rfl (hb hby d10_49)
        have N113 := Fr.snoc X113 N104 g_o
        have E_o_x114 := E_o_x105.wr W113
        have F_ring_x115 := F_ring_x106.other W113 (Or.inr (slot_ne (Or.inl (hw _ (List.mem_of_getElem? (i := 36) rfl))) (Or.inl (hw _ (List.mem_of_getElem? (i := 51) rfl))) (by decide) (t := (.array (.object "com/example/penumbra/penumbra/order/SequenceLog$Entry"))) (t' := .int) (by decide) (by decide)))
        have F_first_x116 := F_first_x107.other W113 (Or.inr (slot_ne (Or.inl (hw _ (List.mem_of_getElem? (i := 38) rfl))) (Or.inl (hw _ (List.mem_of_getElem? (i := 51) rfl))) (by decide) (t := .long) (t' := .int) (by decide) (by decide)))
        have F_head_x117 := F_head_x108.other W113 (Or.inr (slot_ne (Or.inl (hw _ (List.mem_of_getElem? (i := 49) rfl))) (Or.inl (hw _ (List.mem_of_getElem? (i := 51) rfl))) (by decide) (t := .int) (t' := .int) (by decide) (by decide)))
        have F_size_x118 := F_size_x109.same W113
        have Vn93_x119 := Vn93_x110.other W113 (Ne.symm ne_o_rg)
        have K120 : Keep h0 h113 [o, rg] := K111.wr W113 (Or.inl (List.mem_of_getElem? (i := 0) rfl))
        refine own_st st113 ?_
        show own_Go p.tables e below _ (T113.setTop (mkF m 52 #[.val (.ref o), .val (.long n), .second] []))
        refine own_st (fun _ k' => XS.aloadN X113.here hx rfl (hb hby d10_52) rfl rfl k') ?_
        show own_Go p.tables e below _ (T113.setTop (mkF m 53 #[.val (.ref o), .val (.long n), .second] [(.ref o)]))
        refine own_st (fun _ k' => XS.dup X113.here hx rfl (hb hby d10_53) rfl rfl k') ?_
        show own_Go p.tables e below _ (T113.setTop (mkF m 54 #[.val (.ref o), .val (.long n), .second] [(.ref o), (.ref o)]))
        obtain ⟨T121, X121, e121, st121⟩ := getF X113 hx hZ hown (host := "") (Or.inl (hw _ (List.mem_of_getElem? (i := 37) rfl))) Via.refl e113 F_first_x116 (g := (mkF m 54 #[.val (.ref o), .val (.long n), .second] [(.ref o), (.ref o)])) rfl rfl (hb hby d10_54)
        refine own_st st121 ?_
        show own_Go p.tables e below _ (T121.setTop (mkF m 57 #[.val (.ref o), .val (.long n), .second] [(.long ((F + (1 : Int64)) + (1 : Int64))), (.ref o)]))
        refine own_st (fun _ k' => XS.lconst X121.here hx rfl (hb hby d10_57) k') ?_
        show own_Go p.tables e below _ (T121.setTop (mkF m 58 #[.val (.ref o), .val (.long n), .second] [(.long (1 : Int64)), (.long ((F + (1 : Int64)) + (1 : Int64))), (.ref o)]))
        refine own_st (fun _ k' => XS.ladd X121.here hx rfl (hb hby d10_58) rfl k') ?_
        show own_Go p.tables e below _ (T121.setTop (mkF m 59 #[.val (.ref o), .val (.long n), .second] [(.long (((F + (1 : Int64)) + (1 : Int64)) + (1 : Int64))), (.ref o)]))
        obtain ⟨T122, h122, X122, e122, W122, st122⟩ := putF X121 hx hZ hown (host := "") (Or.inl (hw _ (List.mem_of_getElem? (i := 37) rfl))) Via.refl e121 F_first_x116 E_o_x114 (Or.inl (hw _ (List.mem_of_getElem? (i := 38) rfl))) (hw _ (List.mem_of_getElem? (i := 27) rfl)) (ty := .long) (by decide) rfl rfl (g := (mkF m 59 #[.val (.ref o), .val (.long n), .second] [(.long (((F + (1 : Int64)) + (1 : Int64)) + (1 : Int64))), (.ref o)])) rfl rfl (hb hby d10_59)
        have N122 := Fr.snoc X122 N113 g_o
        have E_o_x123 := E_o_x114.wr W122
        have F_ring_x124 := F_ring_x115.other W122 (Or.inr (slot_ne (Or.inl (hw _ (List.mem_of_getElem? (i := 36) rfl))) (Or.inl (hw _ (List.mem_of_getElem? (i := 38) rfl))) (by decide) (t := (.array (.object "com/example/penumbra/penumbra/order/SequenceLog$Entry"))) (t' := .long) (by decide) (by decide)))
        have F_first_x125 := F_first_x116.same W122
        have F_head_x126 := F_head_x117.other W122 (Or.inr (slot_ne (Or.inl (hw _ (List.mem_of_getElem? (i := 49) rfl))) (Or.inl (hw _ (List.mem_of_getElem? (i := 38) rfl))) (by decide) (t := .int) (t' := .long) (by decide) (by decide)))
        have F_size_x127 := F_size_x118.other W122 (Or.inr (slot_ne (Or.inl (hw _ (List.mem_of_getElem? (i := 51) rfl))) (Or.inl (hw _ (List.mem_of_getElem? (i := 38) rfl))) (by decide) (t := .int) (t' := .long) (by decide) (by decide)))
        have Vn93_x128 := Vn93_x119.other W122 (Ne.symm ne_o_rg)
        have K129 : Keep h0 h122 [o, rg] := K120.wr W122 (Or.inl (List.mem_of_getElem? (i := 0) rfl))
        refine own_st st122 ?_
        show own_Go p.tables e below _ (T122.setTop (mkF m 62 #[.val (.ref o), .val (.long n), .second] []))
        refine own_st (fun _ k' => XS.goto X122.here hx rfl (pc0 := 62) (pc' := 0) rfl (hb hby d10_62) (by decide) (by decide) k') ?_
        show own_Go p.tables e below _ (T122.setTop (mkF m 0 #[.val (.ref o), .val (.long n), .second] []))
        refine own_st (fun _ k' => XS.aloadN X122.here hx rfl (hb hby d10_0) rfl rfl k') ?_
        show own_Go p.tables e below _ (T122.setTop (mkF m 1 #[.val (.ref o), .val (.long n), .second] [(.ref o)]))
        obtain ⟨T130, X130, e130, st130⟩ := getF X122 hx hZ hown (host := "") (Or.inl (hw _ (List.mem_of_getElem? (i := 50) rfl))) Via.refl e122 F_size_x127 (g := (mkF m 1 #[.val (.ref o), .val (.long n), .second] [(.ref o)])) rfl rfl (hb hby d10_1)
        refine own_st st130 ?_
        show own_Go p.tables e below _ (T130.setTop (mkF m 4 #[.val (.ref o), .val (.long n), .second] [(.int (0 : Int32))]))
        refine own_st (fun _ k' => XS.ifYes X130.here hx rfl (pc0 := 4) (pc' := 65) rfl (hb hby d10_4) rfl ((if0 _ _).trans (flt (by decide : ¬ (0 : Int32) < (0 : Int32))).2.2.2) (by decide) (by decide) k') ?_
        show own_Go p.tables e below _ (T130.setTop (mkF m 65 #[.val (.ref o), .val (.long n), .second] []))
        exact own_retV X130 hx Bd.returns (hb hby d10_65) Bd.notSynchronized ⟨rfl, N122, by rw [e130]; exact K129, Or.inr (Or.inr (Or.inr (⟨hc89, by rw [e130]; exact E_o_x123, by rw [e130]; exact F_ring_x124, by rw [e130]; exact F_first_x125, by rw [e130]; exact F_head_x126, by rw [e130]; exact F_size_x127, by rw [e130]; exact Vn93_x128⟩)))⟩ (by decide) (by decide)

theorem d12_0 : decode prog_129_method_6_code 0 = .ok (.lload_n 1, 1) := by decide +kernel
theorem d12_1 : decode prog_129_method_6_code 1 = .ok (.aload_n 0, 1) := by decide +kernel
theorem d12_2 : decode prog_129_method_6_code 2 = .ok (.getfield 15, 3) := by decide +kernel
theorem d12_5 : decode prog_129_method_6_code 5 = .ok (.lcmp, 1) := by decide +kernel
theorem d12_6 : decode prog_129_method_6_code 6 = .ok (.ifCond .lt 12, 3) := by decide +kernel
theorem d12_9 : decode prog_129_method_6_code 9 = .ok (.lload_n 1, 1) := by decide +kernel
theorem d12_10 : decode prog_129_method_6_code 10 = .ok (.aload_n 0, 1) := by decide +kernel
theorem d12_11 : decode prog_129_method_6_code 11 = .ok (.invokevirtual 36, 3) := by decide +kernel
theorem d12_14 : decode prog_129_method_6_code 14 = .ok (.lcmp, 1) := by decide +kernel
theorem d12_15 : decode prog_129_method_6_code 15 = .ok (.ifCond .le 25, 3) := by decide +kernel
theorem d12_40 : decode prog_129_method_6_code 40 = .ok (.aload_n 0, 1) := by decide +kernel
theorem d12_41 : decode prog_129_method_6_code 41 = .ok (.getfield 9, 3) := by decide +kernel
theorem d12_44 : decode prog_129_method_6_code 44 = .ok (.aload_n 0, 1) := by decide +kernel
theorem d12_45 : decode prog_129_method_6_code 45 = .ok (.getfield 29, 3) := by decide +kernel
theorem d12_48 : decode prog_129_method_6_code 48 = .ok (.i2l, 1) := by decide +kernel
theorem d12_49 : decode prog_129_method_6_code 49 = .ok (.lload_n 1, 1) := by decide +kernel
theorem d12_50 : decode prog_129_method_6_code 50 = .ok (.ladd, 1) := by decide +kernel
theorem d12_51 : decode prog_129_method_6_code 51 = .ok (.aload_n 0, 1) := by decide +kernel
theorem d12_52 : decode prog_129_method_6_code 52 = .ok (.getfield 15, 3) := by decide +kernel
theorem d12_55 : decode prog_129_method_6_code 55 = .ok (.lsub, 1) := by decide +kernel
theorem d12_56 : decode prog_129_method_6_code 56 = .ok (.aload_n 0, 1) := by decide +kernel
theorem d12_57 : decode prog_129_method_6_code 57 = .ok (.getfield 9, 3) := by decide +kernel
theorem d12_60 : decode prog_129_method_6_code 60 = .ok (.arraylength, 1) := by decide +kernel
theorem d12_61 : decode prog_129_method_6_code 61 = .ok (.i2l, 1) := by decide +kernel
theorem d12_62 : decode prog_129_method_6_code 62 = .ok (.lrem, 1) := by decide +kernel
theorem d12_63 : decode prog_129_method_6_code 63 = .ok (.l2i, 1) := by decide +kernel
theorem d12_64 : decode prog_129_method_6_code 64 = .ok (.aaload, 1) := by decide +kernel
theorem d12_65 : decode prog_129_method_6_code 65 = .ok (.areturn, 1) := by decide +kernel
theorem ef_rmG (m : MethodId) (x0 : Addr) (x1 : Int64) : entryFrame m #[(.ref x0), (.long x1)] 3 = mkF m 0 #[.val (.ref x0), .val (.long x1), .second] [] := by first | (simp [entryFrame, mkF, argsToLocals, Value.category]; done) | rfl
def Q_rmG (Z : State) (o : Addr) (i F : Int64) (H S : Int32) (rg : Addr) (kk : ClassId) (v0 v1 v2 : Value) (jj : Int32) (x : Addr) (h0 : Heap) (n0 : Nat) (v : Option Value) (h : Heap) (L : List Loc) : Prop := v = some (.ref x) ∧ Fr n0 L ∧ h = h0
def K_rmG (Z : State) (o : Addr) (i F : Int64) (H S : Int32) (rg : Addr) (kk : ClassId) (v0 v1 v2 : Value) (jj : Int32) (x : Addr) (h0 : Heap) (n0 : Nat) (s : State) : Outcome → State → Prop := fun oo U' => ∃ v L, oo = .returned v ∧ Q_rmG Z o i F H S rg kk v0 v1 v2 jj x h0 n0 v U'.heap L ∧ FrameEnd s oo U' L ({ frames := 1, cells := 0, slots := 0, locals := 14 } : Room).cells ({ frames := 1, cells := 0, slots := 0, locals := 14 } : Room).slots
set_option maxRecDepth 65536 in
set_option maxHeartbeats 40000000 in
theorem rmG (l : Launch) (Z : State) (a0 : Array Value) (hw : ∀ d ∈ tables_1, d.before a0 Z = true) (ws : List Jvm.Cond) (o : Addr) (i F : Int64) (H S : Int32) (rg : Addr) (kk : ClassId) (v0 v1 v2 : Value) (jj : Int32) (x : Addr) (h0 : Heap) (n0 : Nat) (Z0 : n0 ≤ h0.size) (E_o : Exa Z h0 o "com/example/penumbra/penumbra/order/SequenceLog") (F_ring : Fld Z h0 o "com/example/penumbra/penumbra/order/SequenceLog" "ring" "[Lcom/example/penumbra/penumbra/order/SequenceLog$Entry;" (.ref rg)) (F_first : Fld Z h0 o "com/example/penumbra/penumbra/order/SequenceLog" "first" "J" (.long F)) (F_head : Fld Z h0 o "com/example/penumbra/penumbra/order/SequenceLog" "head" "I" (.int H)) (F_size : Fld Z h0 o "com/example/penumbra/penumbra/order/SequenceLog" "size" "I" (.int S)) (V_rg : Arv Z h0 rg kk (.object "com/example/penumbra/penumbra/order/SequenceLog$Entry") (1024 : Int32) [v0, v1, v2] .null) (OV : Ovr Z kk "com/example/penumbra/penumbra/order/SequenceLog$Entry") (hlo : ¬ i < F) (hhi : ¬ ((F + (S.toInt64)) - (1 : Int64)) < i) (hj : own_ix (((H.toInt64) + i) - F) = jj) (hj0 : ¬ jj < 0) (hj1 : jj < 1024) (hv : [v0, v1, v2].getD jj.toNatClampNeg .null = .ref x) :
    MetFree l (⟨"com/example/penumbra/penumbra/order/SequenceLog", "get", "(J)Lcom/example/penumbra/penumbra/order/SequenceLog$Entry;"⟩ : MethodName) (head1 (Jvm.Cond.code (⟨"com/example/penumbra/penumbra/order/SequenceLog", "get", "(J)Lcom/example/penumbra/penumbra/order/SequenceLog$Entry;"⟩ : MethodName) prog_129_method_6_code 3 (some (.object "com/example/penumbra/penumbra/order/SequenceLog$Entry")) :: ws) ({ frames := 1, cells := 0, slots := 0, locals := 14 } : Room)) (fun a U => a = #[(.ref o), (.long i)] ∧ Z.Warmed39 U.vm ∧ U.heap = h0) (fun _ _ _ _ _ => True) (fun _ U oo U' => ∃ v L, oo = .returned v ∧ Q_rmG Z o i F H S rg kk v0 v1 v2 jj x h0 n0 v U'.heap L ∧ FrameEnd U oo U' L ({ frames := 1, cells := 0, slots := 0, locals := 14 } : Room).cells ({ frames := 1, cells := 0, slots := 0, locals := 14 } : Room).slots) := by
  refine MetFree.of_bodySF (plainFor_of_name pn_com_example_penumbra_penumbra_order_SequenceLog) hisR ?_
  intro p e s m args below meth c s₁ Bd hml0 hP hK
  obtain ⟨rfl, hZ, hh⟩ := hP
  have hx := Bd.exec
  have hby := Bd.bytes
  have hml : c.maxLocals = 3 := hml0
  have hown : s.vm.findClass "com/example/penumbra/penumbra/order/SequenceLog" = some m.cls := findClass_of_methodNamed Bd.named
  have hnm := (name_of_methodNamed Bd.named Bd.method).1
  have X0 : Stand p l e ({ frames := 1, cells := 0, slots := 0, locals := 14 } : Room) s m #[(.ref o), (.long i)] below meth c s₁ [] 0 0 := Stand.of_body Bd
  have e0 : s₁.heap = h0 := by rw [← hh, Bd.state]; rfl
  have N0 := Fr.nil n0
  refine own_st (K := (K_rmG Z o i F H S rg kk v0 v1 v2 jj x h0 n0 s)) (fun t' k' => castTop (ef_rmG m o i) k') ?_
  show own_Go p.tables e below _ (s₁.setTop (mkF m 0 #[.val (.ref o), .val (.long i), .second] []))
  refine own_st (fun _ k' => XS.lloadN X0.here hx rfl (hb hby d12_0) rfl k') ?_
  show own_Go p.tables e below _ (s₁.setTop (mkF m 1 #[.val (.ref o), .val (.long i), .second] [(.long i)]))
  refine own_st (fun _ k' => XS.aloadN X0.here hx rfl (hb hby d12_1) rfl rfl k') ?_
  show own_Go p.tables e below _ (s₁.setTop (mkF m 2 #[.val (.ref o), .val (.long i), .second] [(.ref o), (.long i)]))
  obtain ⟨T1, X1, e1, st1⟩ := getF X0 hx hZ hown (host := "") (Or.inl (hw _ (List.mem_of_getElem? (i := 37) rfl))) Via.refl e0 F_first (g := (mkF m 2 #[.val (.ref o), .val (.long i), .second] [(.ref o), (.long i)])) rfl rfl (hb hby d12_2)
  refine own_st st1 ?_
  show own_Go p.tables e below _ (T1.setTop (mkF m 5 #[.val (.ref o), .val (.long i), .second] [(.long F), (.long i)]))
  refine own_st (fun _ k' => XS.lcmp X1.here hx rfl (hb hby d12_5) rfl k') ?_
  show own_Go p.tables e below _ (T1.setTop (mkF m 6 #[.val (.ref o), .val (.long i), .second] [(.int (lcmpW i F))]))
  refine own_st (fun _ k' => XS.ifNo X1.here hx rfl (hb hby d12_6) rfl ((if0 _ _).trans (flt (mt (lw_lt i F).mp hlo)).1) k') ?_
  show own_Go p.tables e below _ (T1.setTop (mkF m 9 #[.val (.ref o), .val (.long i), .second] []))
  refine own_st (fun _ k' => XS.lloadN X1.here hx rfl (hb hby d12_9) rfl k') ?_
  show own_Go p.tables e below _ (T1.setTop (mkF m 10 #[.val (.ref o), .val (.long i), .second] [(.long i)]))
  refine own_st (fun _ k' => XS.aloadN X1.here hx rfl (hb hby d12_10) rfl rfl k') ?_
  show own_Go p.tables e below _ (T1.setTop (mkF m 11 #[.val (.ref o), .val (.long i), .second] [(.ref o), (.long i)]))
  obtain ⟨cq2, kq2, q2a, q2b, q2c⟩ := isOf hZ e1 E_o
  obtain ⟨_, _, ⟨T2, L2, k2, n2⟩, -, X2, ⟨Lc2, hQ2, l2, y2, z2⟩, st2⟩ := X1.virtualBack hx (y := (⟨"com/example/penumbra/penumbra/order/SequenceLog", "last", "()J"⟩ : MethodName)) (z := (⟨"com/example/penumbra/penumbra/order/SequenceLog", "last", "()J"⟩ : MethodName)) hown (mvT hZ (hw _ (List.mem_of_getElem? (i := 62) rfl))) (mvT hZ (hw _ (List.mem_of_getElem? (i := 63) rfl))) (notFace_of_selects (args := #[]) (mvT hZ (hw _ (List.mem_of_getElem? (i := 65) rfl)))) (mvT hZ (hw _ (List.mem_of_getElem? (i := 65) rfl))) (mvT hZ (hw _ (List.mem_of_getElem? (i := 64) rfl))) (by decide) (backOf (W := 2) (rmLa l Z a0 hw [] o F S h0 n0 Z0 F_first F_size) hZ (hw _ (List.mem_of_getElem? (i := 66) rfl)) (hw _ (List.mem_of_getElem? (i := 28) rfl)) (by decide) (by decide)) q2a q2c (g := (mkF m 11 #[.val (.ref o), .val (.long i), .second] [(.ref o), (.long i)])) rfl (by rw [hml]; rfl) (Steps.refl _) (argsL := []) (rest := [(.long i)]) (lenOf pd___J rfl) rfl (by show 2 * 0 + _ ≤ _; exact Nat.le_of_eq rfl) (hb hby d12_11) (fun _ _ => ⟨rfl, e1, (by decide : 0 + 0 ≤ _), (by decide : 0 + 0 ≤ _)⟩)
  dsimp only [Pt.U, Pt.locs, Pt.cells, Pt.slots] at X2 l2 y2 z2 st2 hQ2
  subst l2 y2 z2
  obtain ⟨rfl, Nq2, e2⟩ := hQ2
  have N2 := Fr.app N0 Nq2
  refine own_tr st2 ?_
  show own_Go p.tables e below _ (T2.setTop (mkF m 14 #[.val (.ref o), .val (.long i), .second] [(.long ((F + (S.toInt64)) - (1 : Int64))), (.long i)]))
  refine own_st (fun _ k' => XS.lcmp X2.here hx rfl (hb hby d12_14) rfl k') ?_
  show own_Go p.tables e below _ (T2.setTop (mkF m 15 #[.val (.ref o), .val (.long i), .second] [(.int (lcmpW i ((F + (S.toInt64)) - (1 : Int64))))]))
  refine own_st (fun _ k' => XS.ifYes X2.here hx rfl (pc0 := 15) (pc' := 40) rfl (hb hby d12_15) rfl ((if0 _ _).trans (flt (mt (lw_gt i ((F + (S.toInt64)) - (1 : Int64))).mp hhi)).2.2.2) (by decide) (by decide) k') ?_
  show own_Go p.tables e below _ (T2.setTop (mkF m 40 #[.val (.ref o), .val (.long i), .second] []))
  refine own_st (fun _ k' => XS.aloadN X2.here hx rfl (hb hby d12_40) rfl rfl k') ?_
  show own_Go p.tables e below _ (T2.setTop (mkF m 41 #[.val (.ref o), .val (.long i), .second] [(.ref o)]))
  obtain ⟨T3, X3, e3, st3⟩ := getF X2 hx hZ hown (host := "") (Or.inl (hw _ (List.mem_of_getElem? (i := 35) rfl))) Via.refl e2 F_ring (g := (mkF m 41 #[.val (.ref o), .val (.long i), .second] [(.ref o)])) rfl rfl (hb hby d12_41)
  refine own_st st3 ?_
  show own_Go p.tables e below _ (T3.setTop (mkF m 44 #[.val (.ref o), .val (.long i), .second] [(.ref rg)]))
  refine own_st (fun _ k' => XS.aloadN X3.here hx rfl (hb hby d12_44) rfl rfl k') ?_
  show own_Go p.tables e below _ (T3.setTop (mkF m 45 #[.val (.ref o), .val (.long i), .second] [(.ref o), (.ref rg)]))
  obtain ⟨T4, X4, e4, st4⟩ := getF X3 hx hZ hown (host := "") (Or.inl (hw _ (List.mem_of_getElem? (i := 48) rfl))) Via.refl e3 F_head (g := (mkF m 45 #[.val (.ref o), .val (.long i), .second] [(.ref o), (.ref rg)])) rfl rfl (hb hby d12_45)
  refine own_st st4 ?_
  show own_Go p.tables e below _ (T4.setTop (mkF m 48 #[.val (.ref o), .val (.long i), .second] [(.int H), (.ref rg)]))
  refine own_st (fun _ k' => XS.i2l X4.here hx rfl (hb hby d12_48) rfl k') ?_
  show own_Go p.tables e below _ (T4.setTop (mkF m 49 #[.val (.ref o), .val (.long i), .second] [(.long (H.toInt64)), (.ref rg)]))
  refine own_st (fun _ k' => XS.lloadN X4.here hx rfl (hb hby d12_49) rfl k') ?_
  show own_Go p.tables e below _ (T4.setTop (mkF m 50 #[.val (.ref o), .val (.long i), .second] [(.long i), (.long (H.toInt64)), (.ref rg)]))
  refine own_st (fun _ k' => XS.ladd X4.here hx rfl (hb hby d12_50) rfl k') ?_
  show own_Go p.tables e below _ (T4.setTop (mkF m 51 #[.val (.ref o), .val (.long i), .second] [(.long ((H.toInt64) + i)), (.ref rg)]))
  refine own_st (fun _ k' => XS.aloadN X4.here hx rfl (hb hby d12_51) rfl rfl k') ?_
  show own_Go p.tables e below _ (T4.setTop (mkF m 52 #[.val (.ref o), .val (.long i), .second] [(.ref o), (.long ((H.toInt64) + i)), (.ref rg)]))
  obtain ⟨T5, X5, e5, st5⟩ := getF X4 hx hZ hown (host := "") (Or.inl (hw _ (List.mem_of_getElem? (i := 37) rfl))) Via.refl e4 F_first (g := (mkF m 52 #[.val (.ref o), .val (.long i), .second] [(.ref o), (.long ((H.toInt64) + i)), (.ref rg)])) rfl rfl (hb hby d12_52)
  refine own_st st5 ?_
  show own_Go p.tables e below _ (T5.setTop (mkF m 55 #[.val (.ref o), .val (.long i), .second] [(.long F), (.long ((H.toInt64) + i)), (.ref rg)]))
  refine own_st (fun _ k' => XS.lsub X5.here hx rfl (hb hby d12_55) rfl k') ?_
  show own_Go p.tables e below _ (T5.setTop (mkF m 56 #[.val (.ref o), .val (.long i), .second] [(.long (((H.toInt64) + i) - F)), (.ref rg)]))
  refine own_st (fun _ k' => XS.aloadN X5.here hx rfl (hb hby d12_56) rfl rfl k') ?_
  show own_Go p.tables e below _ (T5.setTop (mkF m 57 #[.val (.ref o), .val (.long i), .second] [(.ref o), (.long (((H.toInt64) + i) - F)), (.ref rg)]))
  obtain ⟨T6, X6, e6, st6⟩ := getF X5 hx hZ hown (host := "") (Or.inl (hw _ (List.mem_of_getElem? (i := 35) rfl))) Via.refl e5 F_ring (g := (mkF m 57 #[.val (.ref o), .val (.long i), .second] [(.ref o), (.long (((H.toInt64) + i) - F)), (.ref rg)])) rfl rfl (hb hby d12_57)
  refine own_st st6 ?_
  show own_Go p.tables e below _ (T6.setTop (mkF m 60 #[.val (.ref o), .val (.long i), .second] [(.ref rg), (.long (((H.toInt64) + i) - F)), (.ref rg)]))
  obtain ⟨cl7, Ar7, qc7, Sz7, Nn7, Hs7, Gs7⟩ := id V_rg
  refine own_st (fun t' k' => X6.arraylength hx (by rw [e6]; exact Ar7.1) (State.isArrayOf_alike hZ.alike Ar7.2.1) (g := (mkF m 60 #[.val (.ref o), .val (.long i), .second] [(.ref rg), (.long (((H.toInt64) + i) - F)), (.ref rg)])) rfl rfl (hb hby d12_60) t' k') ?_
  rw [len_of Sz7 Nn7]
  show own_Go p.tables e below _ (T6.setTop (mkF m 61 #[.val (.ref o), .val (.long i), .second] [(.int (1024 : Int32)), (.long (((H.toInt64) + i) - F)), (.ref rg)]))
  refine own_st (fun _ k' => XS.i2l X6.here hx rfl (hb hby d12_61) rfl k') ?_
  show own_Go p.tables e below _ (T6.setTop (mkF m 62 #[.val (.ref o), .val (.long i), .second] [(.long ((1024 : Int32).toInt64)), (.long (((H.toInt64) + i) - F)), (.ref rg)]))
  refine own_st (fun _ k' => XS.lrem X6.here hx rfl (hb hby d12_62) rfl (by decide) k') ?_
  show own_Go p.tables e below _ (T6.setTop (mkF m 63 #[.val (.ref o), .val (.long i), .second] [(.long ((((H.toInt64) + i) - F) - ((((H.toInt64) + i) - F) / ((1024 : Int32).toInt64)) * ((1024 : Int32).toInt64))), (.ref rg)]))
  refine own_st (fun _ k' => XS.l2i X6.here hx rfl (hb hby d12_63) rfl k') ?_
  show own_Go p.tables e below _ (T6.setTop (mkF m 64 #[.val (.ref o), .val (.long i), .second] [(.int (((((H.toInt64) + i) - F) - ((((H.toInt64) + i) - F) / ((1024 : Int32).toInt64)) * ((1024 : Int32).toInt64)).toInt32)), (.ref rg)]))
  obtain ⟨cl8, Ar8, qc8, Sz8, Nn8, Hs8, Gs8⟩ := id V_rg
  have hin : ¬ ((((((H.toInt64) + i) - F) - ((((H.toInt64) + i) - F) / ((1024 : Int32).toInt64)) * ((1024 : Int32).toInt64)).toInt32) < 0 ∨ cl8.slots.size ≤ ((((((H.toInt64) + i) - F) - ((((H.toInt64) + i) - F) / ((1024 : Int32).toInt64)) * ((1024 : Int32).toInt64)).toInt32)).toNatClampNeg) := by have hj' := hj; unfold own_ix at hj'; rw [hj']; exact inb_of Sz8 ⟨hj0, hj1⟩
  have hat : cl8.slots[((((((H.toInt64) + i) - F) - ((((H.toInt64) + i) - F) / ((1024 : Int32).toInt64)) * ((1024 : Int32).toInt64)).toInt32)).toNatClampNeg]? = some (.ref x) := Hs8.at hin (by have hj' := hj; unfold own_ix at hj'; rw [hj']; exact hv)
  refine own_st (fun t' k' => X6.aaload hx (j := (((((H.toInt64) + i) - F) - ((((H.toInt64) + i) - F) / ((1024 : Int32).toInt64)) * ((1024 : Int32).toInt64)).toInt32)) (v := (.ref x)) (by rw [e6]; exact Ar8.1) (State.isArrayOf_alike hZ.alike Ar8.2.1) rfl Ar8.2.2 hin hat (g := (mkF m 64 #[.val (.ref o), .val (.long i), .second] [(.int (((((H.toInt64) + i) - F) - ((((H.toInt64) + i) - F) / ((1024 : Int32).toInt64)) * ((1024 : Int32).toInt64)).toInt32)), (.ref rg)])) rfl rfl (hb hby d12_64) t' k') ?_
  show own_Go p.tables e below _ (T6.setTop (mkF m 65 #[.val (.ref o), .val (.long i), .second] [(.ref x)]))
  exact own_retA X6 hx Bd.returns rfl rfl (hb hby d12_65) Bd.notSynchronized ⟨rfl, N2, e6⟩ (by decide) (by decide)

theorem d13_0 : decode method_2_code 0 = .ok (.lload_n 0, 1) := by decide +kernel
theorem d13_1 : decode method_2_code 1 = .ok (.lconst 1, 1) := by decide +kernel
theorem d13_2 : decode method_2_code 2 = .ok (.lcmp, 1) := by decide +kernel
theorem d13_3 : decode method_2_code 3 = .ok (.ifCond .ne 5, 3) := by decide +kernel
theorem d13_6 : decode method_2_code 6 = .ok (.aload_n 2, 1) := by decide +kernel
theorem d13_7 : decode method_2_code 7 = .ok (.areturn, 1) := by decide +kernel
theorem d13_8 : decode method_2_code 8 = .ok (.lload_n 0, 1) := by decide +kernel
theorem d13_9 : decode method_2_code 9 = .ok (.ldc2_w 7, 3) := by decide +kernel
theorem d13_12 : decode method_2_code 12 = .ok (.lcmp, 1) := by decide +kernel
theorem d13_13 : decode method_2_code 13 = .ok (.ifCond .ne 5, 3) := by decide +kernel
theorem d13_16 : decode method_2_code 16 = .ok (.aload_n 3, 1) := by decide +kernel
theorem d13_17 : decode method_2_code 17 = .ok (.areturn, 1) := by decide +kernel
theorem d13_18 : decode method_2_code 18 = .ok (.aload 4, 2) := by decide +kernel
theorem d13_20 : decode method_2_code 20 = .ok (.areturn, 1) := by decide +kernel
theorem pn_com_example_penumbra_penumbra_order_SequenceLogDropUpToPinLaw : plainName "com/example/penumbra/penumbra/order/SequenceLogDropUpToPinLaw" = true := by first | (simp [plainName, overriddenIn]; done) | decide +kernel
theorem ef_rmK (m : MethodId) (x0 : Int64) (x1 : Addr) (x2 : Addr) (x3 : Addr) : entryFrame m #[(.long x0), (.ref x1), (.ref x2), (.ref x3)] 5 = mkF m 0 #[.val (.long x0), .second, .val (.ref x1), .val (.ref x2), .val (.ref x3)] [] := by first | (simp [entryFrame, mkF, argsToLocals, Value.category]; done) | rfl
def Q_rmK (Z : State) (i : Int64) (e1 e2 e3 : Addr) (h0 : Heap) (n0 : Nat) (v : Option Value) (h : Heap) (L : List Loc) : Prop := v = some (.ref (own_pk i e1 e2 e3)) ∧ Fr n0 L ∧ h = h0
def K_rmK (Z : State) (i : Int64) (e1 e2 e3 : Addr) (h0 : Heap) (n0 : Nat) (s : State) : Outcome → State → Prop := fun oo U' => ∃ v L, oo = .returned v ∧ Q_rmK Z i e1 e2 e3 h0 n0 v U'.heap L ∧ FrameEnd s oo U' L ({ frames := 0, cells := 0, slots := 0, locals := 0 } : Room).cells ({ frames := 0, cells := 0, slots := 0, locals := 0 } : Room).slots
set_option maxRecDepth 65536 in
set_option maxHeartbeats 40000000 in
theorem rmK (l : Launch) (Z : State) (a0 : Array Value) (hw : ∀ d ∈ tables_1, d.before a0 Z = true) (ws : List Jvm.Cond) (i : Int64) (e1 e2 e3 : Addr) (h0 : Heap) (n0 : Nat) (Z0 : n0 ≤ h0.size)  :
    MetFree l (⟨"com/example/penumbra/penumbra/order/SequenceLogDropUpToPinLaw", "pick", "(JLcom/example/penumbra/penumbra/order/SequenceLog$Entry;Lcom/example/penumbra/penumbra/order/SequenceLog$Entry;Lcom/example/penumbra/penumbra/order/SequenceLog$Entry;)Lcom/example/penumbra/penumbra/order/SequenceLog$Entry;"⟩ : MethodName) (head1 (Jvm.Cond.code (⟨"com/example/penumbra/penumbra/order/SequenceLogDropUpToPinLaw", "pick", "(JLcom/example/penumbra/penumbra/order/SequenceLog$Entry;Lcom/example/penumbra/penumbra/order/SequenceLog$Entry;Lcom/example/penumbra/penumbra/order/SequenceLog$Entry;)Lcom/example/penumbra/penumbra/order/SequenceLog$Entry;"⟩ : MethodName) method_2_code 5 (some (.object "com/example/penumbra/penumbra/order/SequenceLog$Entry")) :: ws) ({ frames := 0, cells := 0, slots := 0, locals := 0 } : Room)) (fun a U => a = #[(.long i), (.ref e1), (.ref e2), (.ref e3)] ∧ Z.Warmed39 U.vm ∧ U.heap = h0) (fun _ _ _ _ _ => True) (fun _ U oo U' => ∃ v L, oo = .returned v ∧ Q_rmK Z i e1 e2 e3 h0 n0 v U'.heap L ∧ FrameEnd U oo U' L ({ frames := 0, cells := 0, slots := 0, locals := 0 } : Room).cells ({ frames := 0, cells := 0, slots := 0, locals := 0 } : Room).slots) := by
  refine MetFree.of_bodySF (plainFor_of_name pn_com_example_penumbra_penumbra_order_SequenceLogDropUpToPinLaw) hisR ?_
  intro p e s m args below meth c s₁ Bd hml0 hP hK
  obtain ⟨rfl, hZ, hh⟩ := hP
  have hx := Bd.exec
  have hby := Bd.bytes
  have hml : c.maxLocals = 5 := hml0
  have hown : s.vm.findClass "com/example/penumbra/penumbra/order/SequenceLogDropUpToPinLaw" = some m.cls := findClass_of_methodNamed Bd.named
  have hnm := (name_of_methodNamed Bd.named Bd.method).1
  have X0 : Stand p l e ({ frames := 0, cells := 0, slots := 0, locals := 0 } : Room) s m #[(.long i), (.ref e1), (.ref e2), (.ref e3)] below meth c s₁ [] 0 0 := Stand.of_body Bd
  have e0 : s₁.heap = h0 := by rw [← hh, Bd.state]; rfl
  have N0 := Fr.nil n0
  refine own_st (K := (K_rmK Z i e1 e2 e3 h0 n0 s)) (fun t' k' => castTop (ef_rmK m i e1 e2 e3) k') ?_
  show own_Go p.tables e below _ (s₁.setTop (mkF m 0 #[.val (.long i), .second, .val (.ref e1), .val (.ref e2), .val (.ref e3)] []))
  refine own_st (fun _ k' => XS.lloadN X0.here hx rfl (hb hby d13_0) rfl k') ?_
  show own_Go p.tables e below _ (s₁.setTop (mkF m 1 #[.val (.long i), .second, .val (.ref e1), .val (.ref e2), .val (.ref e3)] [(.long i)]))
  refine own_st (fun _ k' => XS.lconst X0.here hx rfl (hb hby d13_1) k') ?_
  show own_Go p.tables e below _ (s₁.setTop (mkF m 2 #[.val (.long i), .second, .val (.ref e1), .val (.ref e2), .val (.ref e3)] [(.long (1 : Int64)), (.long i)]))
  refine own_st (fun _ k' => XS.lcmp X0.here hx rfl (hb hby d13_2) rfl k') ?_
  show own_Go p.tables e below _ (s₁.setTop (mkF m 3 #[.val (.long i), .second, .val (.ref e1), .val (.ref e2), .val (.ref e3)] [(.int (lcmpW i (1 : Int64)))]))
  by_cases hc1 : i = (1 : Int64)
  ·  -- pc 3, i = (1 : Int64)
    refine own_st (fun _ k' => XS.ifNo X0.here hx rfl (hb hby d13_3) rfl ((if0 _ _).trans (teq ((lw_eq i (1 : Int64)).mpr hc1)).2) k') ?_
    show own_Go p.tables e below _ (s₁.setTop (mkF m 6 #[.val (.long i), .second, .val (.ref e1), .val (.ref e2), .val (.ref e3)] []))
    refine own_st (fun _ k' => XS.aloadN X0.here hx rfl (hb hby d13_6) rfl rfl k') ?_
    show own_Go p.tables e below _ (s₁.setTop (mkF m 7 #[.val (.long i), .second, .val (.ref e1), .val (.ref e2), .val (.ref e3)] [(.ref e1)]))
    exact own_retA X0 hx Bd.returns rfl rfl (hb hby d13_7) Bd.notSynchronized ⟨by simp [own_pk, hc1], N0, e0⟩ (by decide) (by decide)
  ·  -- pc 3, not i = (1 : Int64)
    refine own_st (fun _ k' => XS.ifYes X0.here hx rfl (pc0 := 3) (pc' := 8) rfl (hb hby d13_3) rfl ((if0 _ _).trans (feq (mt (lw_eq i (1 : Int64)).mp hc1)).2) (by decide) (by decide) k') ?_
    show own_Go p.tables e below _ (s₁.setTop (mkF m 8 #[.val (.long i), .second, .val (.ref e1), .val (.ref e2), .val (.ref e3)] []))
    refine own_st (fun _ k' => XS.lloadN X0.here hx rfl (hb hby d13_8) rfl k') ?_
    show own_Go p.tables e below _ (s₁.setTop (mkF m 9 #[.val (.long i), .second, .val (.ref e1), .val (.ref e2), .val (.ref e3)] [(.long i)]))
    refine own_st (fun t' k' => X0.ldc2Long hx hown (mvT hZ (hw _ (List.mem_of_getElem? (i := 1) rfl))) (g := (mkF m 9 #[.val (.long i), .second, .val (.ref e1), .val (.ref e2), .val (.ref e3)] [(.long i)])) rfl (hb hby d13_9) t' k') ?_
    show own_Go p.tables e below _ (s₁.setTop (mkF m 12 #[.val (.long i), .second, .val (.ref e1), .val (.ref e2), .val (.ref e3)] [(.long (2 : Int64)), (.long i)]))
    refine own_st (fun _ k' => XS.lcmp X0.here hx rfl (hb hby d13_12) rfl k') ?_
    show own_Go p.tables e below _ (s₁.setTop (mkF m 13 #[.val (.long i), .second, .val (.ref e1), .val (.ref e2), .val (.ref e3)] [(.int (lcmpW i (2 : Int64)))]))
    by_cases hc2 : i = (2 : Int64)
    ·  -- pc 13, i = (2 : Int64)
      refine own_st (fun _ k' => XS.ifNo X0.here hx rfl (hb hby d13_13) rfl ((if0 _ _).trans (teq ((lw_eq i (2 : Int64)).mpr hc2)).2) k') ?_
      show own_Go p.tables e below _ (s₁.setTop (mkF m 16 #[.val (.long i), .second, .val (.ref e1), .val (.ref e2), .val (.ref e3)] []))
      refine own_st (fun _ k' => XS.aloadN X0.here hx rfl (hb hby d13_16) rfl rfl k') ?_
      show own_Go p.tables e below _ (s₁.setTop (mkF m 17 #[.val (.long i), .second, .val (.ref e1), .val (.ref e2), .val (.ref e3)] [(.ref e2)]))
      exact own_retA X0 hx Bd.returns rfl rfl (hb hby d13_17) Bd.notSynchronized ⟨by simp [own_pk, hc1, hc2], N0, e0⟩ (by decide) (by decide)
    ·  -- pc 13, not i = (2 : Int64)
      refine own_st (fun _ k' => XS.ifYes X0.here hx rfl (pc0 := 13) (pc' := 18) rfl (hb hby d13_13) rfl ((if0 _ _).trans (feq (mt (lw_eq i (2 : Int64)).mp hc2)).2) (by decide) (by decide) k') ?_
      show own_Go p.tables e below _ (s₁.setTop (mkF m 18 #[.val (.long i), .second, .val (.ref e1), .val (.ref e2), .val (.ref e3)] []))
      refine own_st (fun _ k' => XS.aload X0.here hx rfl (hb hby d13_18) rfl rfl k') ?_
      show own_Go p.tables e below _ (s₁.setTop (mkF m 20 #[.val (.long i), .second, .val (.ref e1), .val (.ref e2), .val (.ref e3)] [(.ref e3)]))
      exact own_retA X0 hx Bd.returns rfl rfl (hb hby d13_20) Bd.notSynchronized ⟨by simp [own_pk, hc1, hc2], N0, e0⟩ (by decide) (by decide)

theorem pd__JIJ_B_V : parseMethodDescriptor "(JIJ[B)V" = some ⟨[.long, .int, .long, (.array .byte)], none⟩ := by decide +kernel
theorem pd__J_V : parseMethodDescriptor "(J)V" = some ⟨[.long], none⟩ := by decide +kernel
theorem pd__Lcom_example_penumbra_penumbra_order_SequenceLog_Entry__V : parseMethodDescriptor "(Lcom/example/penumbra/penumbra/order/SequenceLog$Entry;)V" = some ⟨[(.object "com/example/penumbra/penumbra/order/SequenceLog$Entry")], none⟩ := by decide +kernel
theorem pd__J_Lcom_example_penumbra_penumbra_order_SequenceLog_Entry_ : parseMethodDescriptor "(J)Lcom/example/penumbra/penumbra/order/SequenceLog$Entry;" = some ⟨[.long], some (.object "com/example/penumbra/penumbra/order/SequenceLog$Entry")⟩ := by decide +kernel
theorem pd__JLcom_example_penumbra_penumbra_order_SequenceLog_Entry_Lcom_example_penumbra_penumbra_order_SequenceLog_Entry_Lcom_example_penumbra_penumbra_order_SequenceLog_Entry__Lcom_example_penumbra_penumbra_order_SequenceLog_Entry_ : parseMethodDescriptor "(JLcom/example/penumbra/penumbra/order/SequenceLog$Entry;Lcom/example/penumbra/penumbra/order/SequenceLog$Entry;Lcom/example/penumbra/penumbra/order/SequenceLog$Entry;)Lcom/example/penumbra/penumbra/order/SequenceLog$Entry;" = some ⟨[.long, (.object "com/example/penumbra/penumbra/order/SequenceLog$Entry"), (.object "com/example/penumbra/penumbra/order/SequenceLog$Entry"), (.object "com/example/penumbra/penumbra/order/SequenceLog$Entry")], some (.object "com/example/penumbra/penumbra/order/SequenceLog$Entry")⟩ := by decide +kernel
theorem ef_rm0 (m : MethodId) (x0 : Int64) (x1 : Int64) (x2 : Int32) (x3 : Int32) (x4 : Int32) : entryFrame m #[(.long x0), (.long x1), (.int x2), (.int x3), (.int x4)] maxLocals = mkF m 0 #[.val (.long x0), .second, .val (.long x1), .second, .val (.int x2), .val (.int x3), .val (.int x4), .unset, .unset, .unset, .unset, .unset, .unset, .unset, .unset, .unset, .unset, .unset, .unset, .unset, .unset] [] := by first | (simp [entryFrame, mkF, argsToLocals, Value.category, maxLocals]; done) | rfl
def Q_rm0 (Z : State) (base raw : Int64) (delta count mode : Int32) (h0 : Heap) (n0 : Nat) (v : Option Value) (h : Heap) (L : List Loc) : Prop := v = some (.int 1) ∧ Fr n0 L
def K_rm0 (Z : State) (base raw : Int64) (delta count mode : Int32) (h0 : Heap) (n0 : Nat) (s : State) : Outcome → State → Prop := fun oo U' => ∃ v L, oo = .returned v ∧ Q_rm0 Z base raw delta count mode h0 n0 v U'.heap L ∧ FrameEnd s oo U' L 6 1040
set_option maxRecDepth 65536 in
set_option maxHeartbeats 40000000 in
theorem rm0 (l : Launch) (Z : State) (a0 : Array Value) (hw : ∀ d ∈ tables_1, d.before a0 Z = true) (ws : List Jvm.Cond) (base raw : Int64) (delta count mode : Int32) (h0 : Heap) (n0 : Nat) (Z0 : n0 ≤ h0.size)  :
    MetFree l x (head1 (Jvm.Cond.code x code maxLocals ret :: ws) room_1) (fun a U => a = #[(.long base), (.long raw), (.int delta), (.int count), (.int mode)] ∧ Z.Warmed39 U.vm ∧ U.heap = h0) (fun _ _ _ _ _ => True) (fun _ U oo U' => ∃ v L, oo = .returned v ∧ Q_rm0 Z base raw delta count mode h0 n0 v U'.heap L ∧ FrameEnd U oo U' L 6 1040) := by
  refine MetFree.of_bodySF (plainFor_of_name pn_com_example_penumbra_penumbra_order_SequenceLogDropUpToPinLaw) hisR ?_
  intro p e s m args below meth c s₁ Bd hml0 hP hK
  obtain ⟨rfl, hZ, hh⟩ := hP
  have hx := Bd.exec
  have hby := Bd.bytes
  have hml : c.maxLocals = 21 := hml0
  have hown : s.vm.findClass "com/example/penumbra/penumbra/order/SequenceLogDropUpToPinLaw" = some m.cls := findClass_of_methodNamed Bd.named
  have hnm := (name_of_methodNamed Bd.named Bd.method).1
  have X0 : Stand p l e room_1 s m #[(.long base), (.long raw), (.int delta), (.int count), (.int mode)] below meth c s₁ [] 0 0 := Stand.of_body Bd
  have e0 : s₁.heap = h0 := by rw [← hh, Bd.state]; rfl
  have N0 := Fr.nil n0
  refine own_st (K := (K_rm0 Z base raw delta count mode h0 n0 s)) (fun t' k' => castTop (ef_rm0 m base raw delta count mode) k') ?_
  show own_Go p.tables e below _ (s₁.setTop (mkF m 0 #[.val (.long base), .second, .val (.long raw), .second, .val (.int delta), .val (.int count), .val (.int mode), .unset, .unset, .unset, .unset, .unset, .unset, .unset, .unset, .unset, .unset, .unset, .unset, .unset, .unset] []))
  refine own_st (fun _ k' => XS.lloadN X0.here hx rfl (hb hby at_0) rfl k') ?_
  show own_Go p.tables e below _ (s₁.setTop (mkF m 1 #[.val (.long base), .second, .val (.long raw), .second, .val (.int delta), .val (.int count), .val (.int mode), .unset, .unset, .unset, .unset, .unset, .unset, .unset, .unset, .unset, .unset, .unset, .unset, .unset, .unset] [(.long base)]))
  refine own_st (fun t' k' => X0.ldc2Long hx hown (mvT hZ (hw _ (List.mem_of_getElem? (i := 0) rfl))) (g := (mkF m 1 #[.val (.long base), .second, .val (.long raw), .second, .val (.int delta), .val (.int count), .val (.int mode), .unset, .unset, .unset, .unset, .unset, .unset, .unset, .unset, .unset, .unset, .unset, .unset, .unset, .unset] [(.long base)])) rfl (hb hby at_1) t' k') ?_
  show own_Go p.tables e below _ (s₁.setTop (mkF m 4 #[.val (.long base), .second, .val (.long raw), .second, .val (.int delta), .val (.int count), .val (.int mode), .unset, .unset, .unset, .unset, .unset, .unset, .unset, .unset, .unset, .unset, .unset, .unset, .unset, .unset] [(.long (4611686018427387903 : Int64)), (.long base)]))
  refine own_st (fun _ k' => XS.land X0.here hx rfl (hb hby at_4) rfl k') ?_
  show own_Go p.tables e below _ (s₁.setTop (mkF m 5 #[.val (.long base), .second, .val (.long raw), .second, .val (.int delta), .val (.int count), .val (.int mode), .unset, .unset, .unset, .unset, .unset, .unset, .unset, .unset, .unset, .unset, .unset, .unset, .unset, .unset] [(.long (base &&& (4611686018427387903 : Int64)))]))
  obtain ⟨b, hbd⟩ : ∃ z, z = (base &&& (4611686018427387903 : Int64)) := ⟨_, rfl⟩
  rw [← hbd]
  have hbb : 0 ≤ b.toInt ∧ b.toInt < 4611686018427387904 := by rw [hbd, c_maskL base 4611686018427387903 62 (by decide) (by decide)]; omega
  show own_Go p.tables e below _ (s₁.setTop (mkF m 5 #[.val (.long base), .second, .val (.long raw), .second, .val (.int delta), .val (.int count), .val (.int mode), .unset, .unset, .unset, .unset, .unset, .unset, .unset, .unset, .unset, .unset, .unset, .unset, .unset, .unset] [(.long b)]))
  refine own_st (fun _ k' => XS.lstore X0.here hx rfl (hb hby at_5) rfl (l' := #[.val (.long base), .second, .val (.long raw), .second, .val (.int delta), .val (.int count), .val (.int mode), .val (.long b), .second, .unset, .unset, .unset, .unset, .unset, .unset, .unset, .unset, .unset, .unset, .unset, .unset]) rfl k') ?_
  show own_Go p.tables e below _ (s₁.setTop (mkF m 7 #[.val (.long base), .second, .val (.long raw), .second, .val (.int delta), .val (.int count), .val (.int mode), .val (.long b), .second, .unset, .unset, .unset, .unset, .unset, .unset, .unset, .unset, .unset, .unset, .unset, .unset] []))
  refine own_st (fun _ k' => XS.iload X0.here hx rfl (hb hby at_7) rfl k') ?_
  show own_Go p.tables e below _ (s₁.setTop (mkF m 9 #[.val (.long base), .second, .val (.long raw), .second, .val (.int delta), .val (.int count), .val (.int mode), .val (.long b), .second, .unset, .unset, .unset, .unset, .unset, .unset, .unset, .unset, .unset, .unset, .unset, .unset] [(.int count)]))
  refine own_st (fun _ k' => XS.iconst X0.here hx rfl (hb hby at_9) k') ?_
  show own_Go p.tables e below _ (s₁.setTop (mkF m 10 #[.val (.long base), .second, .val (.long raw), .second, .val (.int delta), .val (.int count), .val (.int mode), .val (.long b), .second, .unset, .unset, .unset, .unset, .unset, .unset, .unset, .unset, .unset, .unset, .unset, .unset] [(.int (3 : Int32)), (.int count)]))
  refine own_st (fun _ k' => XS.iand X0.here hx rfl (hb hby at_10) rfl k') ?_
  show own_Go p.tables e below _ (s₁.setTop (mkF m 11 #[.val (.long base), .second, .val (.long raw), .second, .val (.int delta), .val (.int count), .val (.int mode), .val (.long b), .second, .unset, .unset, .unset, .unset, .unset, .unset, .unset, .unset, .unset, .unset, .unset, .unset] [(.int (count &&& (3 : Int32)))]))
  refine own_st (fun _ k' => XS.istore X0.here hx rfl (hb hby at_11) rfl (l' := #[.val (.long base), .second, .val (.long raw), .second, .val (.int delta), .val (.int count), .val (.int mode), .val (.long b), .second, .val (.int (count &&& (3 : Int32))), .unset, .unset, .unset, .unset, .unset, .unset, .unset, .unset, .unset, .unset, .unset]) rfl k') ?_
  show own_Go p.tables e below _ (s₁.setTop (mkF m 13 #[.val (.long base), .second, .val (.long raw), .second, .val (.int delta), .val (.int count), .val (.int mode), .val (.long b), .second, .val (.int (count &&& (3 : Int32))), .unset, .unset, .unset, .unset, .unset, .unset, .unset, .unset, .unset, .unset, .unset] []))
  refine own_st (fun _ k' => XS.iload X0.here hx rfl (hb hby at_13) rfl k') ?_
  show own_Go p.tables e below _ (s₁.setTop (mkF m 15 #[.val (.long base), .second, .val (.long raw), .second, .val (.int delta), .val (.int count), .val (.int mode), .val (.long b), .second, .val (.int (count &&& (3 : Int32))), .unset, .unset, .unset, .unset, .unset, .unset, .unset, .unset, .unset, .unset, .unset] [(.int mode)]))
  refine own_st (fun _ k' => XS.iconst X0.here hx rfl (hb hby at_15) k') ?_
  show own_Go p.tables e below _ (s₁.setTop (mkF m 16 #[.val (.long base), .second, .val (.long raw), .second, .val (.int delta), .val (.int count), .val (.int mode), .val (.long b), .second, .val (.int (count &&& (3 : Int32))), .unset, .unset, .unset, .unset, .unset, .unset, .unset, .unset, .unset, .unset, .unset] [(.int (1 : Int32)), (.int mode)]))
  refine own_st (fun _ k' => XS.iand X0.here hx rfl (hb hby at_16) rfl k') ?_
  show own_Go p.tables e below _ (s₁.setTop (mkF m 17 #[.val (.long base), .second, .val (.long raw), .second, .val (.int delta), .val (.int count), .val (.int mode), .val (.long b), .second, .val (.int (count &&& (3 : Int32))), .unset, .unset, .unset, .unset, .unset, .unset, .unset, .unset, .unset, .unset, .unset] [(.int (mode &&& (1 : Int32)))]))
  have J37 : ∀ nn : Int64, own_Go p.tables e below (K_rm0 Z base raw delta count mode h0 n0 s) (s₁.setTop (mkF m 37 #[.val (.long base), .second, .val (.long raw), .second, .val (.int delta), .val (.int count), .val (.int mode), .val (.long b), .second, .val (.int (count &&& (3 : Int32))), .unset, .unset, .unset, .unset, .unset, .unset, .unset, .unset, .unset, .unset, .unset] [(.long nn)])) := by
    intro nn
    refine own_st (fun _ k' => XS.lstore X0.here hx rfl (hb hby at_37) rfl (l' := #[.val (.long base), .second, .val (.long raw), .second, .val (.int delta), .val (.int count), .val (.int mode), .val (.long b), .second, .val (.int (count &&& (3 : Int32))), .val (.long nn), .second, .unset, .unset, .unset, .unset, .unset, .unset, .unset, .unset, .unset]) rfl k') ?_
    show own_Go p.tables e below _ (s₁.setTop (mkF m 39 #[.val (.long base), .second, .val (.long raw), .second, .val (.int delta), .val (.int count), .val (.int mode), .val (.long b), .second, .val (.int (count &&& (3 : Int32))), .val (.long nn), .second, .unset, .unset, .unset, .unset, .unset, .unset, .unset, .unset, .unset] []))
    refine own_st (fun _ k' => XS.iconst X0.here hx rfl (hb hby at_39) k') ?_
    show own_Go p.tables e below _ (s₁.setTop (mkF m 40 #[.val (.long base), .second, .val (.long raw), .second, .val (.int delta), .val (.int count), .val (.int mode), .val (.long b), .second, .val (.int (count &&& (3 : Int32))), .val (.long nn), .second, .unset, .unset, .unset, .unset, .unset, .unset, .unset, .unset, .unset] [(.int (0 : Int32))]))
    obtain ⟨T1, h1, k1, X1, e1, E1, A1, st1⟩ := newP X0 hx hZ (hw _ (List.mem_of_getElem? (i := 2) rfl)) e0 (g := (mkF m 40 #[.val (.long base), .second, .val (.long raw), .second, .val (.int delta), .val (.int count), .val (.int mode), .val (.long b), .second, .val (.int (count &&& (3 : Int32))), .val (.long nn), .second, .unset, .unset, .unset, .unset, .unset, .unset, .unset, .unset, .unset] [(.int (0 : Int32))])) rfl (hb hby at_40) rfl (by decide) (cap := 0) (by decide) (by decide) (by decide) (by decide)
    obtain ⟨ms, g1⟩ : ∃ z, z = h0.size := ⟨_, rfl⟩
    rw [← g1] at st1
    have ZE1 : n0 ≤ h1.size := Nat.le_trans Z0 E1.1
    refine own_st st1 ?_
    show own_Go p.tables e below _ (T1.setTop (mkF m 42 #[.val (.long base), .second, .val (.long raw), .second, .val (.int delta), .val (.int count), .val (.int mode), .val (.long b), .second, .val (.int (count &&& (3 : Int32))), .val (.long nn), .second, .unset, .unset, .unset, .unset, .unset, .unset, .unset, .unset, .unset] [(.ref ms)]))
    refine own_st (fun _ k' => XS.astore X1.here hx rfl (hb hby at_42) rfl rfl (l' := #[.val (.long base), .second, .val (.long raw), .second, .val (.int delta), .val (.int count), .val (.int mode), .val (.long b), .second, .val (.int (count &&& (3 : Int32))), .val (.long nn), .second, .val (.ref ms), .unset, .unset, .unset, .unset, .unset, .unset, .unset, .unset]) rfl k') ?_
    show own_Go p.tables e below _ (T1.setTop (mkF m 44 #[.val (.long base), .second, .val (.long raw), .second, .val (.int delta), .val (.int count), .val (.int mode), .val (.long b), .second, .val (.int (count &&& (3 : Int32))), .val (.long nn), .second, .val (.ref ms), .unset, .unset, .unset, .unset, .unset, .unset, .unset, .unset] []))
    obtain ⟨T2, h2, X2, e2, E2, A2, D2, -, st2⟩ := newO X1 hx hZ hown (hw _ (List.mem_of_getElem? (i := 3) rfl)) (hw _ (List.mem_of_getElem? (i := 4) rfl)) (hw _ (List.mem_of_getElem? (i := 5) rfl)) e1 (g := (mkF m 44 #[.val (.long base), .second, .val (.long raw), .second, .val (.int delta), .val (.int count), .val (.int mode), .val (.long b), .second, .val (.int (count &&& (3 : Int32))), .val (.long nn), .second, .val (.ref ms), .unset, .unset, .unset, .unset, .unset, .unset, .unset, .unset] [])) rfl (hb hby at_44) (by decide) (by decide)
    obtain ⟨b2, g2⟩ : ∃ z, z = h1.size := ⟨_, rfl⟩
    rw [← g2] at A2 D2 st2
    have g_b2 : n0 ≤ b2 := Nat.le_trans ZE1 (Nat.le_of_eq g2.symm)
    have ZE2 : n0 ≤ h2.size := Nat.le_trans ZE1 E2.1
    have F_number_b2 : Fld Z h2 b2 "com/example/penumbra/penumbra/order/SequenceLog$Entry" "number" "J" (.long (0 : Int64)) := D2 (Or.inr (hw _ (List.mem_of_getElem? (i := 18) rfl))) (ty := .long) (by decide)
    have F_origin_b2 : Fld Z h2 b2 "com/example/penumbra/penumbra/order/SequenceLog$Entry" "origin" "I" (.int (0 : Int32)) := D2 (Or.inr (hw _ (List.mem_of_getElem? (i := 20) rfl))) (ty := .int) (by decide)
    have F_counter_b2 : Fld Z h2 b2 "com/example/penumbra/penumbra/order/SequenceLog$Entry" "counter" "J" (.long (0 : Int64)) := D2 (Or.inr (hw _ (List.mem_of_getElem? (i := 22) rfl))) (ty := .long) (by decide)
    have F_message_b2 : Fld Z h2 b2 "com/example/penumbra/penumbra/order/SequenceLog$Entry" "message" "[B" .null := D2 (Or.inr (hw _ (List.mem_of_getElem? (i := 24) rfl))) (ty := (.array .byte)) (by decide)
    refine own_st st2 ?_
    show own_Go p.tables e below _ (T2.setTop (mkF m 47 #[.val (.long base), .second, .val (.long raw), .second, .val (.int delta), .val (.int count), .val (.int mode), .val (.long b), .second, .val (.int (count &&& (3 : Int32))), .val (.long nn), .second, .val (.ref ms), .unset, .unset, .unset, .unset, .unset, .unset, .unset, .unset] [(.ref b2)]))
    refine own_st (fun _ k' => XS.dup X2.here hx rfl (hb hby at_47) rfl rfl k') ?_
    show own_Go p.tables e below _ (T2.setTop (mkF m 48 #[.val (.long base), .second, .val (.long raw), .second, .val (.int delta), .val (.int count), .val (.int mode), .val (.long b), .second, .val (.int (count &&& (3 : Int32))), .val (.long nn), .second, .val (.ref ms), .unset, .unset, .unset, .unset, .unset, .unset, .unset, .unset] [(.ref b2), (.ref b2)]))
    refine own_st (fun _ k' => XS.lload X2.here hx rfl (hb hby at_48) rfl k') ?_
    show own_Go p.tables e below _ (T2.setTop (mkF m 50 #[.val (.long base), .second, .val (.long raw), .second, .val (.int delta), .val (.int count), .val (.int mode), .val (.long b), .second, .val (.int (count &&& (3 : Int32))), .val (.long nn), .second, .val (.ref ms), .unset, .unset, .unset, .unset, .unset, .unset, .unset, .unset] [(.long b), (.ref b2), (.ref b2)]))
    refine own_st (fun _ k' => XS.lconst X2.here hx rfl (hb hby at_50) k') ?_
    show own_Go p.tables e below _ (T2.setTop (mkF m 51 #[.val (.long base), .second, .val (.long raw), .second, .val (.int delta), .val (.int count), .val (.int mode), .val (.long b), .second, .val (.int (count &&& (3 : Int32))), .val (.long nn), .second, .val (.ref ms), .unset, .unset, .unset, .unset, .unset, .unset, .unset, .unset] [(.long (1 : Int64)), (.long b), (.ref b2), (.ref b2)]))
    refine own_st (fun _ k' => XS.ladd X2.here hx rfl (hb hby at_51) rfl k') ?_
    show own_Go p.tables e below _ (T2.setTop (mkF m 52 #[.val (.long base), .second, .val (.long raw), .second, .val (.int delta), .val (.int count), .val (.int mode), .val (.long b), .second, .val (.int (count &&& (3 : Int32))), .val (.long nn), .second, .val (.ref ms), .unset, .unset, .unset, .unset, .unset, .unset, .unset, .unset] [(.long (b + (1 : Int64))), (.ref b2), (.ref b2)]))
    refine own_st (fun _ k' => XS.iconst X2.here hx rfl (hb hby at_52) k') ?_
    show own_Go p.tables e below _ (T2.setTop (mkF m 53 #[.val (.long base), .second, .val (.long raw), .second, .val (.int delta), .val (.int count), .val (.int mode), .val (.long b), .second, .val (.int (count &&& (3 : Int32))), .val (.long nn), .second, .val (.ref ms), .unset, .unset, .unset, .unset, .unset, .unset, .unset, .unset] [(.int (1 : Int32)), (.long (b + (1 : Int64))), (.ref b2), (.ref b2)]))
    refine own_st (fun _ k' => XS.lconst X2.here hx rfl (hb hby at_53) k') ?_
    show own_Go p.tables e below _ (T2.setTop (mkF m 54 #[.val (.long base), .second, .val (.long raw), .second, .val (.int delta), .val (.int count), .val (.int mode), .val (.long b), .second, .val (.int (count &&& (3 : Int32))), .val (.long nn), .second, .val (.ref ms), .unset, .unset, .unset, .unset, .unset, .unset, .unset, .unset] [(.long (1 : Int64)), (.int (1 : Int32)), (.long (b + (1 : Int64))), (.ref b2), (.ref b2)]))
    refine own_st (fun _ k' => XS.aload X2.here hx rfl (hb hby at_54) rfl rfl k') ?_
    show own_Go p.tables e below _ (T2.setTop (mkF m 56 #[.val (.long base), .second, .val (.long raw), .second, .val (.int delta), .val (.int count), .val (.int mode), .val (.long b), .second, .val (.int (count &&& (3 : Int32))), .val (.long nn), .second, .val (.ref ms), .unset, .unset, .unset, .unset, .unset, .unset, .unset, .unset] [(.ref ms), (.long (1 : Int64)), (.int (1 : Int32)), (.long (b + (1 : Int64))), (.ref b2), (.ref b2)]))
    obtain ⟨_, _, ⟨T3, L3, k3, n3⟩, -, X3, ⟨Lc3, hQ3, l3, y3, z3⟩, st3⟩ := X2.specialBack hx (y := (⟨"com/example/penumbra/penumbra/order/SequenceLog$Entry", "<init>", "(JIJ[B)V"⟩ : MethodName)) rfl hown (mvT hZ (hw _ (List.mem_of_getElem? (i := 6) rfl))) (mvT hZ (hw _ (List.mem_of_getElem? (i := 7) rfl))) (mvT hZ (hw _ (List.mem_of_getElem? (i := 8) rfl))) (by decide) (backOf (W := 1) (rmE l Z a0 hw [] b2 (b + (1 : Int64)) (1 : Int32) (1 : Int64) ms h2 n0 ZE2 A2 F_number_b2 F_origin_b2 F_counter_b2 F_message_b2 g_b2) hZ (hw _ (List.mem_of_getElem? (i := 8) rfl)) (hw _ (List.mem_of_getElem? (i := 5) rfl)) (by decide) (by decide)) (g := (mkF m 56 #[.val (.long base), .second, .val (.long raw), .second, .val (.int delta), .val (.int count), .val (.int mode), .val (.long b), .second, .val (.int (count &&& (3 : Int32))), .val (.long nn), .second, .val (.ref ms), .unset, .unset, .unset, .unset, .unset, .unset, .unset, .unset] [(.ref ms), (.long (1 : Int64)), (.int (1 : Int32)), (.long (b + (1 : Int64))), (.ref b2), (.ref b2)])) rfl (by rw [hml]; rfl) (Steps.refl _) (a := b2) (argsL := [(.long (b + (1 : Int64))), (.int (1 : Int32)), (.long (1 : Int64)), (.ref ms)]) (rest := [(.ref b2)]) (lenOf pd__JIJ_B_V rfl) rfl (by show 2 * 0 + _ ≤ _; exact Nat.le_of_eq rfl) (hb hby at_56) (fun _ _ => ⟨rfl, e2, (by decide : 2 + 0 ≤ _), (by decide : 4 + 0 ≤ _)⟩)
    dsimp only [Pt.U, Pt.locs, Pt.cells, Pt.slots] at X3 l3 y3 z3 st3 hQ3
    subst l3 y3 z3
    obtain ⟨rfl, Nq3, Kc3, Ec3, Fc3⟩ := hQ3
    have N3 := Fr.app N0 Nq3
    have A2_x4 := A2.keep Kc3
    have Zc3 : n0 ≤ T3.heap.size := Nat.le_trans ZE2 Kc3.1
    refine own_tr st3 ?_
    show own_Go p.tables e below _ (T3.setTop (mkF m 59 #[.val (.long base), .second, .val (.long raw), .second, .val (.int delta), .val (.int count), .val (.int mode), .val (.long b), .second, .val (.int (count &&& (3 : Int32))), .val (.long nn), .second, .val (.ref ms), .unset, .unset, .unset, .unset, .unset, .unset, .unset, .unset] [(.ref b2)]))
    refine own_st (fun _ k' => XS.astore X3.here hx rfl (hb hby at_59) rfl rfl (l' := #[.val (.long base), .second, .val (.long raw), .second, .val (.int delta), .val (.int count), .val (.int mode), .val (.long b), .second, .val (.int (count &&& (3 : Int32))), .val (.long nn), .second, .val (.ref ms), .val (.ref b2), .unset, .unset, .unset, .unset, .unset, .unset, .unset]) rfl k') ?_
    show own_Go p.tables e below _ (T3.setTop (mkF m 61 #[.val (.long base), .second, .val (.long raw), .second, .val (.int delta), .val (.int count), .val (.int mode), .val (.long b), .second, .val (.int (count &&& (3 : Int32))), .val (.long nn), .second, .val (.ref ms), .val (.ref b2), .unset, .unset, .unset, .unset, .unset, .unset, .unset] []))
    obtain ⟨T9, h9, X9, e9, E9, A9, D9, -, st9⟩ := newO X3 hx hZ hown (hw _ (List.mem_of_getElem? (i := 3) rfl)) (hw _ (List.mem_of_getElem? (i := 4) rfl)) (hw _ (List.mem_of_getElem? (i := 5) rfl)) rfl (g := (mkF m 61 #[.val (.long base), .second, .val (.long raw), .second, .val (.int delta), .val (.int count), .val (.int mode), .val (.long b), .second, .val (.int (count &&& (3 : Int32))), .val (.long nn), .second, .val (.ref ms), .val (.ref b2), .unset, .unset, .unset, .unset, .unset, .unset, .unset] [])) rfl (hb hby at_61) (by decide) (by decide)
    obtain ⟨b9, g9⟩ : ∃ z, z = T3.heap.size := ⟨_, rfl⟩
    rw [← g9] at A9 D9 st9
    have g_b9 : n0 ≤ b9 := Nat.le_trans Zc3 (Nat.le_of_eq g9.symm)
    have ne_b2_b9 : b2 ≠ b9 := Nat.ne_of_lt (Nat.lt_of_lt_of_le Ec3.lt (Nat.le_of_eq g9.symm))
    have Ec3_x10 := Ec3.ext E9
    have Fc3_x11 := Fc3.ext E9
    have ZE9 : n0 ≤ h9.size := Nat.le_trans Zc3 E9.1
    have F_number_b9 : Fld Z h9 b9 "com/example/penumbra/penumbra/order/SequenceLog$Entry" "number" "J" (.long (0 : Int64)) := D9 (Or.inr (hw _ (List.mem_of_getElem? (i := 18) rfl))) (ty := .long) (by decide)
    have F_origin_b9 : Fld Z h9 b9 "com/example/penumbra/penumbra/order/SequenceLog$Entry" "origin" "I" (.int (0 : Int32)) := D9 (Or.inr (hw _ (List.mem_of_getElem? (i := 20) rfl))) (ty := .int) (by decide)
    have F_counter_b9 : Fld Z h9 b9 "com/example/penumbra/penumbra/order/SequenceLog$Entry" "counter" "J" (.long (0 : Int64)) := D9 (Or.inr (hw _ (List.mem_of_getElem? (i := 22) rfl))) (ty := .long) (by decide)
    have F_message_b9 : Fld Z h9 b9 "com/example/penumbra/penumbra/order/SequenceLog$Entry" "message" "[B" .null := D9 (Or.inr (hw _ (List.mem_of_getElem? (i := 24) rfl))) (ty := (.array .byte)) (by decide)
    refine own_st st9 ?_
    show own_Go p.tables e below _ (T9.setTop (mkF m 64 #[.val (.long base), .second, .val (.long raw), .second, .val (.int delta), .val (.int count), .val (.int mode), .val (.long b), .second, .val (.int (count &&& (3 : Int32))), .val (.long nn), .second, .val (.ref ms), .val (.ref b2), .unset, .unset, .unset, .unset, .unset, .unset, .unset] [(.ref b9)]))
    refine own_st (fun _ k' => XS.dup X9.here hx rfl (hb hby at_64) rfl rfl k') ?_
    show own_Go p.tables e below _ (T9.setTop (mkF m 65 #[.val (.long base), .second, .val (.long raw), .second, .val (.int delta), .val (.int count), .val (.int mode), .val (.long b), .second, .val (.int (count &&& (3 : Int32))), .val (.long nn), .second, .val (.ref ms), .val (.ref b2), .unset, .unset, .unset, .unset, .unset, .unset, .unset] [(.ref b9), (.ref b9)]))
    refine own_st (fun _ k' => XS.lload X9.here hx rfl (hb hby at_65) rfl k') ?_
    show own_Go p.tables e below _ (T9.setTop (mkF m 67 #[.val (.long base), .second, .val (.long raw), .second, .val (.int delta), .val (.int count), .val (.int mode), .val (.long b), .second, .val (.int (count &&& (3 : Int32))), .val (.long nn), .second, .val (.ref ms), .val (.ref b2), .unset, .unset, .unset, .unset, .unset, .unset, .unset] [(.long b), (.ref b9), (.ref b9)]))
    refine own_st (fun t' k' => X9.ldc2Long hx hown (mvT hZ (hw _ (List.mem_of_getElem? (i := 1) rfl))) (g := (mkF m 67 #[.val (.long base), .second, .val (.long raw), .second, .val (.int delta), .val (.int count), .val (.int mode), .val (.long b), .second, .val (.int (count &&& (3 : Int32))), .val (.long nn), .second, .val (.ref ms), .val (.ref b2), .unset, .unset, .unset, .unset, .unset, .unset, .unset] [(.long b), (.ref b9), (.ref b9)])) rfl (hb hby at_67) t' k') ?_
    show own_Go p.tables e below _ (T9.setTop (mkF m 70 #[.val (.long base), .second, .val (.long raw), .second, .val (.int delta), .val (.int count), .val (.int mode), .val (.long b), .second, .val (.int (count &&& (3 : Int32))), .val (.long nn), .second, .val (.ref ms), .val (.ref b2), .unset, .unset, .unset, .unset, .unset, .unset, .unset] [(.long (2 : Int64)), (.long b), (.ref b9), (.ref b9)]))
    refine own_st (fun _ k' => XS.ladd X9.here hx rfl (hb hby at_70) rfl k') ?_
    show own_Go p.tables e below _ (T9.setTop (mkF m 71 #[.val (.long base), .second, .val (.long raw), .second, .val (.int delta), .val (.int count), .val (.int mode), .val (.long b), .second, .val (.int (count &&& (3 : Int32))), .val (.long nn), .second, .val (.ref ms), .val (.ref b2), .unset, .unset, .unset, .unset, .unset, .unset, .unset] [(.long (b + (2 : Int64))), (.ref b9), (.ref b9)]))
    refine own_st (fun _ k' => XS.iconst X9.here hx rfl (hb hby at_71) k') ?_
    show own_Go p.tables e below _ (T9.setTop (mkF m 72 #[.val (.long base), .second, .val (.long raw), .second, .val (.int delta), .val (.int count), .val (.int mode), .val (.long b), .second, .val (.int (count &&& (3 : Int32))), .val (.long nn), .second, .val (.ref ms), .val (.ref b2), .unset, .unset, .unset, .unset, .unset, .unset, .unset] [(.int (1 : Int32)), (.long (b + (2 : Int64))), (.ref b9), (.ref b9)]))
    refine own_st (fun t' k' => X9.ldc2Long hx hown (mvT hZ (hw _ (List.mem_of_getElem? (i := 1) rfl))) (g := (mkF m 72 #[.val (.long base), .second, .val (.long raw), .second, .val (.int delta), .val (.int count), .val (.int mode), .val (.long b), .second, .val (.int (count &&& (3 : Int32))), .val (.long nn), .second, .val (.ref ms), .val (.ref b2), .unset, .unset, .unset, .unset, .unset, .unset, .unset] [(.int (1 : Int32)), (.long (b + (2 : Int64))), (.ref b9), (.ref b9)])) rfl (hb hby at_72) t' k') ?_
    show own_Go p.tables e below _ (T9.setTop (mkF m 75 #[.val (.long base), .second, .val (.long raw), .second, .val (.int delta), .val (.int count), .val (.int mode), .val (.long b), .second, .val (.int (count &&& (3 : Int32))), .val (.long nn), .second, .val (.ref ms), .val (.ref b2), .unset, .unset, .unset, .unset, .unset, .unset, .unset] [(.long (2 : Int64)), (.int (1 : Int32)), (.long (b + (2 : Int64))), (.ref b9), (.ref b9)]))
    refine own_st (fun _ k' => XS.aload X9.here hx rfl (hb hby at_75) rfl rfl k') ?_
    show own_Go p.tables e below _ (T9.setTop (mkF m 77 #[.val (.long base), .second, .val (.long raw), .second, .val (.int delta), .val (.int count), .val (.int mode), .val (.long b), .second, .val (.int (count &&& (3 : Int32))), .val (.long nn), .second, .val (.ref ms), .val (.ref b2), .unset, .unset, .unset, .unset, .unset, .unset, .unset] [(.ref ms), (.long (2 : Int64)), (.int (1 : Int32)), (.long (b + (2 : Int64))), (.ref b9), (.ref b9)]))
    obtain ⟨_, _, ⟨T12, L12, k12, n12⟩, -, X12, ⟨Lc12, hQ12, l12, y12, z12⟩, st12⟩ := X9.specialBack hx (y := (⟨"com/example/penumbra/penumbra/order/SequenceLog$Entry", "<init>", "(JIJ[B)V"⟩ : MethodName)) rfl hown (mvT hZ (hw _ (List.mem_of_getElem? (i := 6) rfl))) (mvT hZ (hw _ (List.mem_of_getElem? (i := 7) rfl))) (mvT hZ (hw _ (List.mem_of_getElem? (i := 8) rfl))) (by decide) (backOf (W := 1) (rmE l Z a0 hw [] b9 (b + (2 : Int64)) (1 : Int32) (2 : Int64) ms h9 n0 ZE9 A9 F_number_b9 F_origin_b9 F_counter_b9 F_message_b9 g_b9) hZ (hw _ (List.mem_of_getElem? (i := 8) rfl)) (hw _ (List.mem_of_getElem? (i := 5) rfl)) (by decide) (by decide)) (g := (mkF m 77 #[.val (.long base), .second, .val (.long raw), .second, .val (.int delta), .val (.int count), .val (.int mode), .val (.long b), .second, .val (.int (count &&& (3 : Int32))), .val (.long nn), .second, .val (.ref ms), .val (.ref b2), .unset, .unset, .unset, .unset, .unset, .unset, .unset] [(.ref ms), (.long (2 : Int64)), (.int (1 : Int32)), (.long (b + (2 : Int64))), (.ref b9), (.ref b9)])) rfl (by rw [hml]; rfl) (Steps.refl _) (a := b9) (argsL := [(.long (b + (2 : Int64))), (.int (1 : Int32)), (.long (2 : Int64)), (.ref ms)]) (rest := [(.ref b9)]) (lenOf pd__JIJ_B_V rfl) rfl (by show 2 * 0 + _ ≤ _; exact Nat.le_of_eq rfl) (hb hby at_77) (fun _ _ => ⟨rfl, e9, (by decide : 3 + 0 ≤ _), (by decide : 8 + 0 ≤ _)⟩)
    dsimp only [Pt.U, Pt.locs, Pt.cells, Pt.slots] at X12 l12 y12 z12 st12 hQ12
    subst l12 y12 z12
    obtain ⟨rfl, Nq12, Kc12, Ec12, Fc12⟩ := hQ12
    have N12 := Fr.app N3 Nq12
    have Ec3_x13 := Ec3_x10.keep Kc12
    have Fc3_x14 := Fc3_x11.keep Kc12 (ninS ne_b2_b9 nin0)
    have A9_x15 := A9.keep Kc12
    have Zc12 : n0 ≤ T12.heap.size := Nat.le_trans ZE9 Kc12.1
    refine own_tr st12 ?_
    show own_Go p.tables e below _ (T12.setTop (mkF m 80 #[.val (.long base), .second, .val (.long raw), .second, .val (.int delta), .val (.int count), .val (.int mode), .val (.long b), .second, .val (.int (count &&& (3 : Int32))), .val (.long nn), .second, .val (.ref ms), .val (.ref b2), .unset, .unset, .unset, .unset, .unset, .unset, .unset] [(.ref b9)]))
    refine own_st (fun _ k' => XS.astore X12.here hx rfl (hb hby at_80) rfl rfl (l' := #[.val (.long base), .second, .val (.long raw), .second, .val (.int delta), .val (.int count), .val (.int mode), .val (.long b), .second, .val (.int (count &&& (3 : Int32))), .val (.long nn), .second, .val (.ref ms), .val (.ref b2), .val (.ref b9), .unset, .unset, .unset, .unset, .unset, .unset]) rfl k') ?_
    show own_Go p.tables e below _ (T12.setTop (mkF m 82 #[.val (.long base), .second, .val (.long raw), .second, .val (.int delta), .val (.int count), .val (.int mode), .val (.long b), .second, .val (.int (count &&& (3 : Int32))), .val (.long nn), .second, .val (.ref ms), .val (.ref b2), .val (.ref b9), .unset, .unset, .unset, .unset, .unset, .unset] []))
    obtain ⟨T20, h20, X20, e20, E20, A20, D20, -, st20⟩ := newO X12 hx hZ hown (hw _ (List.mem_of_getElem? (i := 3) rfl)) (hw _ (List.mem_of_getElem? (i := 4) rfl)) (hw _ (List.mem_of_getElem? (i := 5) rfl)) rfl (g := (mkF m 82 #[.val (.long base), .second, .val (.long raw), .second, .val (.int delta), .val (.int count), .val (.int mode), .val (.long b), .second, .val (.int (count &&& (3 : Int32))), .val (.long nn), .second, .val (.ref ms), .val (.ref b2), .val (.ref b9), .unset, .unset, .unset, .unset, .unset, .unset] [])) rfl (hb hby at_82) (by decide) (by decide)
    obtain ⟨b20, g20⟩ : ∃ z, z = T12.heap.size := ⟨_, rfl⟩
    rw [← g20] at A20 D20 st20
    have g_b20 : n0 ≤ b20 := Nat.le_trans Zc12 (Nat.le_of_eq g20.symm)
    have ne_b2_b20 : b2 ≠ b20 := Nat.ne_of_lt (Nat.lt_of_lt_of_le Ec3_x13.lt (Nat.le_of_eq g20.symm))
    have ne_b9_b20 : b9 ≠ b20 := Nat.ne_of_lt (Nat.lt_of_lt_of_le Ec12.lt (Nat.le_of_eq g20.symm))
    have Ec3_x21 := Ec3_x13.ext E20
    have Fc3_x22 := Fc3_x14.ext E20
    have Ec12_x23 := Ec12.ext E20
    have Fc12_x24 := Fc12.ext E20
    have ZE20 : n0 ≤ h20.size := Nat.le_trans Zc12 E20.1
    have F_number_b20 : Fld Z h20 b20 "com/example/penumbra/penumbra/order/SequenceLog$Entry" "number" "J" (.long (0 : Int64)) := D20 (Or.inr (hw _ (List.mem_of_getElem? (i := 18) rfl))) (ty := .long) (by decide)
    have F_origin_b20 : Fld Z h20 b20 "com/example/penumbra/penumbra/order/SequenceLog$Entry" "origin" "I" (.int (0 : Int32)) := D20 (Or.inr (hw _ (List.mem_of_getElem? (i := 20) rfl))) (ty := .int) (by decide)
    have F_counter_b20 : Fld Z h20 b20 "com/example/penumbra/penumbra/order/SequenceLog$Entry" "counter" "J" (.long (0 : Int64)) := D20 (Or.inr (hw _ (List.mem_of_getElem? (i := 22) rfl))) (ty := .long) (by decide)
    have F_message_b20 : Fld Z h20 b20 "com/example/penumbra/penumbra/order/SequenceLog$Entry" "message" "[B" .null := D20 (Or.inr (hw _ (List.mem_of_getElem? (i := 24) rfl))) (ty := (.array .byte)) (by decide)
    refine own_st st20 ?_
    show own_Go p.tables e below _ (T20.setTop (mkF m 85 #[.val (.long base), .second, .val (.long raw), .second, .val (.int delta), .val (.int count), .val (.int mode), .val (.long b), .second, .val (.int (count &&& (3 : Int32))), .val (.long nn), .second, .val (.ref ms), .val (.ref b2), .val (.ref b9), .unset, .unset, .unset, .unset, .unset, .unset] [(.ref b20)]))
    refine own_st (fun _ k' => XS.dup X20.here hx rfl (hb hby at_85) rfl rfl k') ?_
    show own_Go p.tables e below _ (T20.setTop (mkF m 86 #[.val (.long base), .second, .val (.long raw), .second, .val (.int delta), .val (.int count), .val (.int mode), .val (.long b), .second, .val (.int (count &&& (3 : Int32))), .val (.long nn), .second, .val (.ref ms), .val (.ref b2), .val (.ref b9), .unset, .unset, .unset, .unset, .unset, .unset] [(.ref b20), (.ref b20)]))
    refine own_st (fun _ k' => XS.lload X20.here hx rfl (hb hby at_86) rfl k') ?_
    show own_Go p.tables e below _ (T20.setTop (mkF m 88 #[.val (.long base), .second, .val (.long raw), .second, .val (.int delta), .val (.int count), .val (.int mode), .val (.long b), .second, .val (.int (count &&& (3 : Int32))), .val (.long nn), .second, .val (.ref ms), .val (.ref b2), .val (.ref b9), .unset, .unset, .unset, .unset, .unset, .unset] [(.long b), (.ref b20), (.ref b20)]))
    refine own_st (fun t' k' => X20.ldc2Long hx hown (mvT hZ (hw _ (List.mem_of_getElem? (i := 25) rfl))) (g := (mkF m 88 #[.val (.long base), .second, .val (.long raw), .second, .val (.int delta), .val (.int count), .val (.int mode), .val (.long b), .second, .val (.int (count &&& (3 : Int32))), .val (.long nn), .second, .val (.ref ms), .val (.ref b2), .val (.ref b9), .unset, .unset, .unset, .unset, .unset, .unset] [(.long b), (.ref b20), (.ref b20)])) rfl (hb hby at_88) t' k') ?_
    show own_Go p.tables e below _ (T20.setTop (mkF m 91 #[.val (.long base), .second, .val (.long raw), .second, .val (.int delta), .val (.int count), .val (.int mode), .val (.long b), .second, .val (.int (count &&& (3 : Int32))), .val (.long nn), .second, .val (.ref ms), .val (.ref b2), .val (.ref b9), .unset, .unset, .unset, .unset, .unset, .unset] [(.long (3 : Int64)), (.long b), (.ref b20), (.ref b20)]))
    refine own_st (fun _ k' => XS.ladd X20.here hx rfl (hb hby at_91) rfl k') ?_
    show own_Go p.tables e below _ (T20.setTop (mkF m 92 #[.val (.long base), .second, .val (.long raw), .second, .val (.int delta), .val (.int count), .val (.int mode), .val (.long b), .second, .val (.int (count &&& (3 : Int32))), .val (.long nn), .second, .val (.ref ms), .val (.ref b2), .val (.ref b9), .unset, .unset, .unset, .unset, .unset, .unset] [(.long (b + (3 : Int64))), (.ref b20), (.ref b20)]))
    refine own_st (fun _ k' => XS.iconst X20.here hx rfl (hb hby at_92) k') ?_
    show own_Go p.tables e below _ (T20.setTop (mkF m 93 #[.val (.long base), .second, .val (.long raw), .second, .val (.int delta), .val (.int count), .val (.int mode), .val (.long b), .second, .val (.int (count &&& (3 : Int32))), .val (.long nn), .second, .val (.ref ms), .val (.ref b2), .val (.ref b9), .unset, .unset, .unset, .unset, .unset, .unset] [(.int (1 : Int32)), (.long (b + (3 : Int64))), (.ref b20), (.ref b20)]))
    refine own_st (fun t' k' => X20.ldc2Long hx hown (mvT hZ (hw _ (List.mem_of_getElem? (i := 25) rfl))) (g := (mkF m 93 #[.val (.long base), .second, .val (.long raw), .second, .val (.int delta), .val (.int count), .val (.int mode), .val (.long b), .second, .val (.int (count &&& (3 : Int32))), .val (.long nn), .second, .val (.ref ms), .val (.ref b2), .val (.ref b9), .unset, .unset, .unset, .unset, .unset, .unset] [(.int (1 : Int32)), (.long (b + (3 : Int64))), (.ref b20), (.ref b20)])) rfl (hb hby at_93) t' k') ?_
    show own_Go p.tables e below _ (T20.setTop (mkF m 96 #[.val (.long base), .second, .val (.long raw), .second, .val (.int delta), .val (.int count), .val (.int mode), .val (.long b), .second, .val (.int (count &&& (3 : Int32))), .val (.long nn), .second, .val (.ref ms), .val (.ref b2), .val (.ref b9), .unset, .unset, .unset, .unset, .unset, .unset] [(.long (3 : Int64)), (.int (1 : Int32)), (.long (b + (3 : Int64))), (.ref b20), (.ref b20)]))
    refine own_st (fun _ k' => XS.aload X20.here hx rfl (hb hby at_96) rfl rfl k') ?_
    show own_Go p.tables e below _ (T20.setTop (mkF m 98 #[.val (.long base), .second, .val (.long raw), .second, .val (.int delta), .val (.int count), .val (.int mode), .val (.long b), .second, .val (.int (count &&& (3 : Int32))), .val (.long nn), .second, .val (.ref ms), .val (.ref b2), .val (.ref b9), .unset, .unset, .unset, .unset, .unset, .unset] [(.ref ms), (.long (3 : Int64)), (.int (1 : Int32)), (.long (b + (3 : Int64))), (.ref b20), (.ref b20)]))
    obtain ⟨_, _, ⟨T25, L25, k25, n25⟩, -, X25, ⟨Lc25, hQ25, l25, y25, z25⟩, st25⟩ := X20.specialBack hx (y := (⟨"com/example/penumbra/penumbra/order/SequenceLog$Entry", "<init>", "(JIJ[B)V"⟩ : MethodName)) rfl hown (mvT hZ (hw _ (List.mem_of_getElem? (i := 6) rfl))) (mvT hZ (hw _ (List.mem_of_getElem? (i := 7) rfl))) (mvT hZ (hw _ (List.mem_of_getElem? (i := 8) rfl))) (by decide) (backOf (W := 1) (rmE l Z a0 hw [] b20 (b + (3 : Int64)) (1 : Int32) (3 : Int64) ms h20 n0 ZE20 A20 F_number_b20 F_origin_b20 F_counter_b20 F_message_b20 g_b20) hZ (hw _ (List.mem_of_getElem? (i := 8) rfl)) (hw _ (List.mem_of_getElem? (i := 5) rfl)) (by decide) (by decide)) (g := (mkF m 98 #[.val (.long base), .second, .val (.long raw), .second, .val (.int delta), .val (.int count), .val (.int mode), .val (.long b), .second, .val (.int (count &&& (3 : Int32))), .val (.long nn), .second, .val (.ref ms), .val (.ref b2), .val (.ref b9), .unset, .unset, .unset, .unset, .unset, .unset] [(.ref ms), (.long (3 : Int64)), (.int (1 : Int32)), (.long (b + (3 : Int64))), (.ref b20), (.ref b20)])) rfl (by rw [hml]; rfl) (Steps.refl _) (a := b20) (argsL := [(.long (b + (3 : Int64))), (.int (1 : Int32)), (.long (3 : Int64)), (.ref ms)]) (rest := [(.ref b20)]) (lenOf pd__JIJ_B_V rfl) rfl (by show 2 * 0 + _ ≤ _; exact Nat.le_of_eq rfl) (hb hby at_98) (fun _ _ => ⟨rfl, e20, (by decide : 4 + 0 ≤ _), (by decide : 12 + 0 ≤ _)⟩)
    dsimp only [Pt.U, Pt.locs, Pt.cells, Pt.slots] at X25 l25 y25 z25 st25 hQ25
    subst l25 y25 z25
    obtain ⟨rfl, Nq25, Kc25, Ec25, Fc25⟩ := hQ25
    have N25 := Fr.app N12 Nq25
    have Ec3_x26 := Ec3_x21.keep Kc25
    have Fc3_x27 := Fc3_x22.keep Kc25 (ninS ne_b2_b20 nin0)
    have Ec12_x28 := Ec12_x23.keep Kc25
    have Fc12_x29 := Fc12_x24.keep Kc25 (ninS ne_b9_b20 nin0)
    have A20_x30 := A20.keep Kc25
    have Zc25 : n0 ≤ T25.heap.size := Nat.le_trans ZE20 Kc25.1
    refine own_tr st25 ?_
    show own_Go p.tables e below _ (T25.setTop (mkF m 101 #[.val (.long base), .second, .val (.long raw), .second, .val (.int delta), .val (.int count), .val (.int mode), .val (.long b), .second, .val (.int (count &&& (3 : Int32))), .val (.long nn), .second, .val (.ref ms), .val (.ref b2), .val (.ref b9), .unset, .unset, .unset, .unset, .unset, .unset] [(.ref b20)]))
    refine own_st (fun _ k' => XS.astore X25.here hx rfl (hb hby at_101) rfl rfl (l' := #[.val (.long base), .second, .val (.long raw), .second, .val (.int delta), .val (.int count), .val (.int mode), .val (.long b), .second, .val (.int (count &&& (3 : Int32))), .val (.long nn), .second, .val (.ref ms), .val (.ref b2), .val (.ref b9), .val (.ref b20), .unset, .unset, .unset, .unset, .unset]) rfl k') ?_
    show own_Go p.tables e below _ (T25.setTop (mkF m 103 #[.val (.long base), .second, .val (.long raw), .second, .val (.int delta), .val (.int count), .val (.int mode), .val (.long b), .second, .val (.int (count &&& (3 : Int32))), .val (.long nn), .second, .val (.ref ms), .val (.ref b2), .val (.ref b9), .val (.ref b20), .unset, .unset, .unset, .unset, .unset] []))
    obtain ⟨T35, h35, X35, e35, E35, A35, D35, -, st35⟩ := newO X25 hx hZ hown (hw _ (List.mem_of_getElem? (i := 26) rfl)) (hw _ (List.mem_of_getElem? (i := 27) rfl)) (hw _ (List.mem_of_getElem? (i := 28) rfl)) rfl (g := (mkF m 103 #[.val (.long base), .second, .val (.long raw), .second, .val (.int delta), .val (.int count), .val (.int mode), .val (.long b), .second, .val (.int (count &&& (3 : Int32))), .val (.long nn), .second, .val (.ref ms), .val (.ref b2), .val (.ref b9), .val (.ref b20), .unset, .unset, .unset, .unset, .unset] [])) rfl (hb hby at_103) (by decide) (by decide)
    obtain ⟨b35, g35⟩ : ∃ z, z = T25.heap.size := ⟨_, rfl⟩
    rw [← g35] at A35 D35 st35
    have g_b35 : n0 ≤ b35 := Nat.le_trans Zc25 (Nat.le_of_eq g35.symm)
    have ne_b2_b35 : b2 ≠ b35 := Nat.ne_of_lt (Nat.lt_of_lt_of_le Ec3_x26.lt (Nat.le_of_eq g35.symm))
    have ne_b9_b35 : b9 ≠ b35 := Nat.ne_of_lt (Nat.lt_of_lt_of_le Ec12_x28.lt (Nat.le_of_eq g35.symm))
    have ne_b20_b35 : b20 ≠ b35 := Nat.ne_of_lt (Nat.lt_of_lt_of_le Ec25.lt (Nat.le_of_eq g35.symm))
    have Ec3_x36 := Ec3_x26.ext E35
    have Fc3_x37 := Fc3_x27.ext E35
    have Ec12_x38 := Ec12_x28.ext E35
    have Fc12_x39 := Fc12_x29.ext E35
    have Ec25_x40 := Ec25.ext E35
    have Fc25_x41 := Fc25.ext E35
    have ZE35 : n0 ≤ h35.size := Nat.le_trans Zc25 E35.1
    have F_ring_b35 : Fld Z h35 b35 "com/example/penumbra/penumbra/order/SequenceLog" "ring" "[Lcom/example/penumbra/penumbra/order/SequenceLog$Entry;" .null := D35 (Or.inl (hw _ (List.mem_of_getElem? (i := 36) rfl))) (ty := (.array (.object "com/example/penumbra/penumbra/order/SequenceLog$Entry"))) (by decide)
    have F_first_b35 : Fld Z h35 b35 "com/example/penumbra/penumbra/order/SequenceLog" "first" "J" (.long (0 : Int64)) := D35 (Or.inl (hw _ (List.mem_of_getElem? (i := 38) rfl))) (ty := .long) (by decide)
    have F_head_b35 : Fld Z h35 b35 "com/example/penumbra/penumbra/order/SequenceLog" "head" "I" (.int (0 : Int32)) := D35 (Or.inl (hw _ (List.mem_of_getElem? (i := 49) rfl))) (ty := .int) (by decide)
    have F_size_b35 : Fld Z h35 b35 "com/example/penumbra/penumbra/order/SequenceLog" "size" "I" (.int (0 : Int32)) := D35 (Or.inl (hw _ (List.mem_of_getElem? (i := 51) rfl))) (ty := .int) (by decide)
    refine own_st st35 ?_
    show own_Go p.tables e below _ (T35.setTop (mkF m 106 #[.val (.long base), .second, .val (.long raw), .second, .val (.int delta), .val (.int count), .val (.int mode), .val (.long b), .second, .val (.int (count &&& (3 : Int32))), .val (.long nn), .second, .val (.ref ms), .val (.ref b2), .val (.ref b9), .val (.ref b20), .unset, .unset, .unset, .unset, .unset] [(.ref b35)]))
    refine own_st (fun _ k' => XS.dup X35.here hx rfl (hb hby at_106) rfl rfl k') ?_
    show own_Go p.tables e below _ (T35.setTop (mkF m 107 #[.val (.long base), .second, .val (.long raw), .second, .val (.int delta), .val (.int count), .val (.int mode), .val (.long b), .second, .val (.int (count &&& (3 : Int32))), .val (.long nn), .second, .val (.ref ms), .val (.ref b2), .val (.ref b9), .val (.ref b20), .unset, .unset, .unset, .unset, .unset] [(.ref b35), (.ref b35)]))
    obtain ⟨_, _, ⟨T42, L42, k42, n42⟩, -, X42, ⟨Lc42, hQ42, l42, y42, z42⟩, st42⟩ := X35.specialBack hx (y := (⟨"com/example/penumbra/penumbra/order/SequenceLog", "<init>", "()V"⟩ : MethodName)) rfl hown (mvT hZ (hw _ (List.mem_of_getElem? (i := 29) rfl))) (mvT hZ (hw _ (List.mem_of_getElem? (i := 30) rfl))) (mvT hZ (hw _ (List.mem_of_getElem? (i := 31) rfl))) (by decide) (backOf (W := 1) (rmI l Z a0 hw [] b35 h35 n0 ZE35 A35 F_ring_b35 F_first_b35 F_head_b35 F_size_b35 g_b35) hZ (hw _ (List.mem_of_getElem? (i := 31) rfl)) (hw _ (List.mem_of_getElem? (i := 28) rfl)) (by decide) (by decide)) (g := (mkF m 107 #[.val (.long base), .second, .val (.long raw), .second, .val (.int delta), .val (.int count), .val (.int mode), .val (.long b), .second, .val (.int (count &&& (3 : Int32))), .val (.long nn), .second, .val (.ref ms), .val (.ref b2), .val (.ref b9), .val (.ref b20), .unset, .unset, .unset, .unset, .unset] [(.ref b35), (.ref b35)])) rfl (by rw [hml]; rfl) (Steps.refl _) (a := b35) (argsL := []) (rest := [(.ref b35)]) (lenOf pd___V rfl) rfl (by show 2 * 0 + _ ≤ _; exact Nat.le_of_eq rfl) (hb hby at_107) (fun _ _ => ⟨rfl, e35, (by decide : 5 + 1 ≤ _), (by decide : 16 + 1024 ≤ _)⟩)
    dsimp only [Pt.U, Pt.locs, Pt.cells, Pt.slots] at X42 l42 y42 z42 st42 hQ42
    subst l42 y42 z42
    obtain ⟨rfl, Nq42, Kc42, rg, kk, g_rg, hrg, OV, El, Fl_ring, Fl_first, Fl_head, Fl_size, Vl⟩ := hQ42
    have N42 := Fr.app N25 Nq42
    have ne_b2_rg : b2 ≠ rg := Nat.ne_of_lt (Nat.lt_of_lt_of_le Fc3_x37.lt hrg)
    have ne_b9_rg : b9 ≠ rg := Nat.ne_of_lt (Nat.lt_of_lt_of_le Fc12_x39.lt hrg)
    have ne_b20_rg : b20 ≠ rg := Nat.ne_of_lt (Nat.lt_of_lt_of_le Fc25_x41.lt hrg)
    have ne_b35_rg : b35 ≠ rg := Nat.ne_of_lt (Nat.lt_of_lt_of_le F_size_b35.lt hrg)
    have Ec3_x43 := Ec3_x36.keep Kc42
    have Fc3_x44 := Fc3_x37.keep Kc42 (ninS ne_b2_b35 nin0)
    have Ec12_x45 := Ec12_x38.keep Kc42
    have Fc12_x46 := Fc12_x39.keep Kc42 (ninS ne_b9_b35 nin0)
    have Ec25_x47 := Ec25_x40.keep Kc42
    have Fc25_x48 := Fc25_x41.keep Kc42 (ninS ne_b20_b35 nin0)
    have A35_x49 := A35.keep Kc42
    have Zc42 : n0 ≤ T42.heap.size := Nat.le_trans ZE35 Kc42.1
    refine own_tr st42 ?_
    show own_Go p.tables e below _ (T42.setTop (mkF m 110 #[.val (.long base), .second, .val (.long raw), .second, .val (.int delta), .val (.int count), .val (.int mode), .val (.long b), .second, .val (.int (count &&& (3 : Int32))), .val (.long nn), .second, .val (.ref ms), .val (.ref b2), .val (.ref b9), .val (.ref b20), .unset, .unset, .unset, .unset, .unset] [(.ref b35)]))
    refine own_st (fun _ k' => XS.astore X42.here hx rfl (hb hby at_110) rfl rfl (l' := #[.val (.long base), .second, .val (.long raw), .second, .val (.int delta), .val (.int count), .val (.int mode), .val (.long b), .second, .val (.int (count &&& (3 : Int32))), .val (.long nn), .second, .val (.ref ms), .val (.ref b2), .val (.ref b9), .val (.ref b20), .val (.ref b35), .unset, .unset, .unset, .unset]) rfl k') ?_
    show own_Go p.tables e below _ (T42.setTop (mkF m 112 #[.val (.long base), .second, .val (.long raw), .second, .val (.int delta), .val (.int count), .val (.int mode), .val (.long b), .second, .val (.int (count &&& (3 : Int32))), .val (.long nn), .second, .val (.ref ms), .val (.ref b2), .val (.ref b9), .val (.ref b20), .val (.ref b35), .unset, .unset, .unset, .unset] []))
    refine own_st (fun _ k' => XS.aload X42.here hx rfl (hb hby at_112) rfl rfl k') ?_
    show own_Go p.tables e below _ (T42.setTop (mkF m 114 #[.val (.long base), .second, .val (.long raw), .second, .val (.int delta), .val (.int count), .val (.int mode), .val (.long b), .second, .val (.int (count &&& (3 : Int32))), .val (.long nn), .second, .val (.ref ms), .val (.ref b2), .val (.ref b9), .val (.ref b20), .val (.ref b35), .unset, .unset, .unset, .unset] [(.ref b35)]))
    refine own_st (fun _ k' => XS.lload X42.here hx rfl (hb hby at_114) rfl k') ?_
    show own_Go p.tables e below _ (T42.setTop (mkF m 116 #[.val (.long base), .second, .val (.long raw), .second, .val (.int delta), .val (.int count), .val (.int mode), .val (.long b), .second, .val (.int (count &&& (3 : Int32))), .val (.long nn), .second, .val (.ref ms), .val (.ref b2), .val (.ref b9), .val (.ref b20), .val (.ref b35), .unset, .unset, .unset, .unset] [(.long b), (.ref b35)]))
    obtain ⟨cq54, kq54, q54a, q54b, q54c⟩ := isOf hZ rfl El
    obtain ⟨_, _, ⟨T54, L54, k54, n54⟩, -, X54, ⟨Lc54, hQ54, l54, y54, z54⟩, st54⟩ := X42.virtualBack hx (y := (⟨"com/example/penumbra/penumbra/order/SequenceLog", "restartAfter", "(J)V"⟩ : MethodName)) (z := (⟨"com/example/penumbra/penumbra/order/SequenceLog", "restartAfter", "(J)V"⟩ : MethodName)) hown (mvT hZ (hw _ (List.mem_of_getElem? (i := 39) rfl))) (mvT hZ (hw _ (List.mem_of_getElem? (i := 40) rfl))) (notFace_of_selects (args := #[]) (mvT hZ (hw _ (List.mem_of_getElem? (i := 42) rfl)))) (mvT hZ (hw _ (List.mem_of_getElem? (i := 42) rfl))) (mvT hZ (hw _ (List.mem_of_getElem? (i := 41) rfl))) (by decide) (backOf (W := 0) (rmA l Z a0 hw [] b35 b rg kk T42.heap n0 Zc42 El Fl_ring Fl_first Fl_head Fl_size Vl OV ne_b35_rg g_b35 g_rg) hZ (hw _ (List.mem_of_getElem? (i := 43) rfl)) (hw _ (List.mem_of_getElem? (i := 28) rfl)) (by decide) (by decide)) q54a q54c (g := (mkF m 116 #[.val (.long base), .second, .val (.long raw), .second, .val (.int delta), .val (.int count), .val (.int mode), .val (.long b), .second, .val (.int (count &&& (3 : Int32))), .val (.long nn), .second, .val (.ref ms), .val (.ref b2), .val (.ref b9), .val (.ref b20), .val (.ref b35), .unset, .unset, .unset, .unset] [(.long b), (.ref b35)])) rfl (by rw [hml]; rfl) (Steps.refl _) (argsL := [(.long b)]) (rest := []) (lenOf pd__J_V rfl) rfl (by show 2 * 0 + _ ≤ _; exact Nat.le_of_eq rfl) (hb hby at_116) (fun _ _ => ⟨rfl, rfl, (by decide : 6 + 0 ≤ _), (by decide : 1040 + 0 ≤ _)⟩)
    dsimp only [Pt.U, Pt.locs, Pt.cells, Pt.slots] at X54 l54 y54 z54 st54 hQ54
    subst l54 y54 z54
    obtain ⟨rfl, Nq54, Kc54, Ea54, Fa_ring54, Fa_first54, Fa_head54, Fa_size54, Va54⟩ := hQ54
    have N54 := Fr.app N42 Nq54
    have Ec3_x55 := Ec3_x43.keep Kc54
    have Fc3_x56 := Fc3_x44.keep Kc54 (ninS ne_b2_b35 (ninS ne_b2_rg nin0))
    have Ec12_x57 := Ec12_x45.keep Kc54
    have Fc12_x58 := Fc12_x46.keep Kc54 (ninS ne_b9_b35 (ninS ne_b9_rg nin0))
    have Ec25_x59 := Ec25_x47.keep Kc54
    have Fc25_x60 := Fc25_x48.keep Kc54 (ninS ne_b20_b35 (ninS ne_b20_rg nin0))
    have El_x61 := El.keep Kc54
    have Zc54 : n0 ≤ T54.heap.size := Nat.le_trans Zc42 Kc54.1
    refine own_tr st54 ?_
    show own_Go p.tables e below _ (T54.setTop (mkF m 119 #[.val (.long base), .second, .val (.long raw), .second, .val (.int delta), .val (.int count), .val (.int mode), .val (.long b), .second, .val (.int (count &&& (3 : Int32))), .val (.long nn), .second, .val (.ref ms), .val (.ref b2), .val (.ref b9), .val (.ref b20), .val (.ref b35), .unset, .unset, .unset, .unset] []))
    rcases own_k count with hk | hk | hk | hk
    ·  -- k = 0
      rw [hk]
      show own_Go p.tables e below _ (T54.setTop (mkF m 119 #[.val (.long base), .second, .val (.long raw), .second, .val (.int delta), .val (.int count), .val (.int mode), .val (.long b), .second, .val (.int (0 : Int32)), .val (.long nn), .second, .val (.ref ms), .val (.ref b2), .val (.ref b9), .val (.ref b20), .val (.ref b35), .unset, .unset, .unset, .unset] []))
      refine own_st (fun _ k' => XS.iload X54.here hx rfl (hb hby at_119) rfl k') ?_
      show own_Go p.tables e below _ (T54.setTop (mkF m 121 #[.val (.long base), .second, .val (.long raw), .second, .val (.int delta), .val (.int count), .val (.int mode), .val (.long b), .second, .val (.int (0 : Int32)), .val (.long nn), .second, .val (.ref ms), .val (.ref b2), .val (.ref b9), .val (.ref b20), .val (.ref b35), .unset, .unset, .unset, .unset] [(.int (0 : Int32))]))
      refine own_st (fun _ k' => XS.iconst X54.here hx rfl (hb hby at_121) k') ?_
      show own_Go p.tables e below _ (T54.setTop (mkF m 122 #[.val (.long base), .second, .val (.long raw), .second, .val (.int delta), .val (.int count), .val (.int mode), .val (.long b), .second, .val (.int (0 : Int32)), .val (.long nn), .second, .val (.ref ms), .val (.ref b2), .val (.ref b9), .val (.ref b20), .val (.ref b35), .unset, .unset, .unset, .unset] [(.int (1 : Int32)), (.int (0 : Int32))]))
      refine own_st (fun _ k' => XS.icmpYes X54.here hx rfl (pc0 := 122) (pc' := 132) rfl (hb hby at_122) rfl (tlt (by decide : (0 : Int32) < (1 : Int32))).1 (by decide) (by decide) k') ?_
      show own_Go p.tables e below _ (T54.setTop (mkF m 132 #[.val (.long base), .second, .val (.long raw), .second, .val (.int delta), .val (.int count), .val (.int mode), .val (.long b), .second, .val (.int (0 : Int32)), .val (.long nn), .second, .val (.ref ms), .val (.ref b2), .val (.ref b9), .val (.ref b20), .val (.ref b35), .unset, .unset, .unset, .unset] []))
      refine own_st (fun _ k' => XS.iload X54.here hx rfl (hb hby at_132) rfl k') ?_
      show own_Go p.tables e below _ (T54.setTop (mkF m 134 #[.val (.long base), .second, .val (.long raw), .second, .val (.int delta), .val (.int count), .val (.int mode), .val (.long b), .second, .val (.int (0 : Int32)), .val (.long nn), .second, .val (.ref ms), .val (.ref b2), .val (.ref b9), .val (.ref b20), .val (.ref b35), .unset, .unset, .unset, .unset] [(.int (0 : Int32))]))
      refine own_st (fun _ k' => XS.iconst X54.here hx rfl (hb hby at_134) k') ?_
      show own_Go p.tables e below _ (T54.setTop (mkF m 135 #[.val (.long base), .second, .val (.long raw), .second, .val (.int delta), .val (.int count), .val (.int mode), .val (.long b), .second, .val (.int (0 : Int32)), .val (.long nn), .second, .val (.ref ms), .val (.ref b2), .val (.ref b9), .val (.ref b20), .val (.ref b35), .unset, .unset, .unset, .unset] [(.int (2 : Int32)), (.int (0 : Int32))]))
      refine own_st (fun _ k' => XS.icmpYes X54.here hx rfl (pc0 := 135) (pc' := 145) rfl (hb hby at_135) rfl (tlt (by decide : (0 : Int32) < (2 : Int32))).1 (by decide) (by decide) k') ?_
      show own_Go p.tables e below _ (T54.setTop (mkF m 145 #[.val (.long base), .second, .val (.long raw), .second, .val (.int delta), .val (.int count), .val (.int mode), .val (.long b), .second, .val (.int (0 : Int32)), .val (.long nn), .second, .val (.ref ms), .val (.ref b2), .val (.ref b9), .val (.ref b20), .val (.ref b35), .unset, .unset, .unset, .unset] []))
      refine own_st (fun _ k' => XS.iload X54.here hx rfl (hb hby at_145) rfl k') ?_
      show own_Go p.tables e below _ (T54.setTop (mkF m 147 #[.val (.long base), .second, .val (.long raw), .second, .val (.int delta), .val (.int count), .val (.int mode), .val (.long b), .second, .val (.int (0 : Int32)), .val (.long nn), .second, .val (.ref ms), .val (.ref b2), .val (.ref b9), .val (.ref b20), .val (.ref b35), .unset, .unset, .unset, .unset] [(.int (0 : Int32))]))
      refine own_st (fun _ k' => XS.iconst X54.here hx rfl (hb hby at_147) k') ?_
      show own_Go p.tables e below _ (T54.setTop (mkF m 148 #[.val (.long base), .second, .val (.long raw), .second, .val (.int delta), .val (.int count), .val (.int mode), .val (.long b), .second, .val (.int (0 : Int32)), .val (.long nn), .second, .val (.ref ms), .val (.ref b2), .val (.ref b9), .val (.ref b20), .val (.ref b35), .unset, .unset, .unset, .unset] [(.int (3 : Int32)), (.int (0 : Int32))]))
      refine own_st (fun _ k' => XS.icmpYes X54.here hx rfl (pc0 := 148) (pc' := 158) rfl (hb hby at_148) rfl (tlt (by decide : (0 : Int32) < (3 : Int32))).1 (by decide) (by decide) k') ?_
      show own_Go p.tables e below _ (T54.setTop (mkF m 158 #[.val (.long base), .second, .val (.long raw), .second, .val (.int delta), .val (.int count), .val (.int mode), .val (.long b), .second, .val (.int (0 : Int32)), .val (.long nn), .second, .val (.ref ms), .val (.ref b2), .val (.ref b9), .val (.ref b20), .val (.ref b35), .unset, .unset, .unset, .unset] []))
      refine own_st (fun _ k' => XS.aload X54.here hx rfl (hb hby at_158) rfl rfl k') ?_
      show own_Go p.tables e below _ (T54.setTop (mkF m 160 #[.val (.long base), .second, .val (.long raw), .second, .val (.int delta), .val (.int count), .val (.int mode), .val (.long b), .second, .val (.int (0 : Int32)), .val (.long nn), .second, .val (.ref ms), .val (.ref b2), .val (.ref b9), .val (.ref b20), .val (.ref b35), .unset, .unset, .unset, .unset] [(.ref b35)]))
      refine own_st (fun _ k' => XS.lload X54.here hx rfl (hb hby at_160) rfl k') ?_
      show own_Go p.tables e below _ (T54.setTop (mkF m 162 #[.val (.long base), .second, .val (.long raw), .second, .val (.int delta), .val (.int count), .val (.int mode), .val (.long b), .second, .val (.int (0 : Int32)), .val (.long nn), .second, .val (.ref ms), .val (.ref b2), .val (.ref b9), .val (.ref b20), .val (.ref b35), .unset, .unset, .unset, .unset] [(.long nn), (.ref b35)]))
      obtain ⟨cq67, kq67, q67a, q67b, q67c⟩ := isOf hZ rfl Ea54
      obtain ⟨_, _, ⟨T67, L67, k67, n67⟩, -, X67, ⟨Lc67, hQ67, l67, y67, z67⟩, st67⟩ := X54.virtualBack hx (y := (⟨"com/example/penumbra/penumbra/order/SequenceLog", "dropUpTo", "(J)V"⟩ : MethodName)) (z := (⟨"com/example/penumbra/penumbra/order/SequenceLog", "dropUpTo", "(J)V"⟩ : MethodName)) hown (mvT hZ (hw _ (List.mem_of_getElem? (i := 68) rfl))) (mvT hZ (hw _ (List.mem_of_getElem? (i := 69) rfl))) (notFace_of_selects (args := #[]) (mvT hZ (hw _ (List.mem_of_getElem? (i := 71) rfl)))) (mvT hZ (hw _ (List.mem_of_getElem? (i := 71) rfl))) (mvT hZ (hw _ (List.mem_of_getElem? (i := 70) rfl))) (by decide) (backOf (W := 0) (rmD0 l Z a0 hw [] b35 nn (b + (1 : Int64)) rg kk .null .null .null T54.heap n0 Zc54 Ea54 Fa_ring54 Fa_first54 Fa_head54 Fa_size54 Va54 OV ne_b35_rg g_b35 g_rg) hZ (hw _ (List.mem_of_getElem? (i := 72) rfl)) (hw _ (List.mem_of_getElem? (i := 28) rfl)) (by decide) (by decide)) q67a q67c (g := (mkF m 162 #[.val (.long base), .second, .val (.long raw), .second, .val (.int delta), .val (.int count), .val (.int mode), .val (.long b), .second, .val (.int (0 : Int32)), .val (.long nn), .second, .val (.ref ms), .val (.ref b2), .val (.ref b9), .val (.ref b20), .val (.ref b35), .unset, .unset, .unset, .unset] [(.long nn), (.ref b35)])) rfl (by rw [hml]; rfl) (Steps.refl _) (argsL := [(.long nn)]) (rest := []) (lenOf pd__J_V rfl) rfl (by show 2 * 0 + _ ≤ _; exact Nat.le_of_eq rfl) (hb hby at_162) (fun _ _ => ⟨rfl, rfl, (by decide : 6 + 0 ≤ _), (by decide : 1040 + 0 ≤ _)⟩)
      dsimp only [Pt.U, Pt.locs, Pt.cells, Pt.slots] at X67 l67 y67 z67 st67 hQ67
      subst l67 y67 z67
      obtain ⟨rfl, Nq67, Kc67, hD67⟩ := hQ67
      have N67 := Fr.app N54 Nq67
      have Ec3_x68 := Ec3_x55.keep Kc67
      have Fc3_x69 := Fc3_x56.keep Kc67 (ninS ne_b2_b35 (ninS ne_b2_rg nin0))
      have Ec12_x70 := Ec12_x57.keep Kc67
      have Fc12_x71 := Fc12_x58.keep Kc67 (ninS ne_b9_b35 (ninS ne_b9_rg nin0))
      have Ec25_x72 := Ec25_x59.keep Kc67
      have Fc25_x73 := Fc25_x60.keep Kc67 (ninS ne_b20_b35 (ninS ne_b20_rg nin0))
      have Ea54_x74 := Ea54.keep Kc67
      have Zc67 : n0 ≤ T67.heap.size := Nat.le_trans Zc54 Kc67.1
      rcases hD67 with ⟨Ea67, Fa_ring67, Fa_first67, Fa_head67, Fa_size67, Va67⟩
      ·  -- 0 dropped of 0
        refine own_tr st67 ?_
        show own_Go p.tables e below _ (T67.setTop (mkF m 165 #[.val (.long base), .second, .val (.long raw), .second, .val (.int delta), .val (.int count), .val (.int mode), .val (.long b), .second, .val (.int (0 : Int32)), .val (.long nn), .second, .val (.ref ms), .val (.ref b2), .val (.ref b9), .val (.ref b20), .val (.ref b35), .unset, .unset, .unset, .unset] []))
        refine own_st (fun _ k' => XS.lload X67.here hx rfl (hb hby at_165) rfl k') ?_
        show own_Go p.tables e below _ (T67.setTop (mkF m 167 #[.val (.long base), .second, .val (.long raw), .second, .val (.int delta), .val (.int count), .val (.int mode), .val (.long b), .second, .val (.int (0 : Int32)), .val (.long nn), .second, .val (.ref ms), .val (.ref b2), .val (.ref b9), .val (.ref b20), .val (.ref b35), .unset, .unset, .unset, .unset] [(.long b)]))
        refine own_st (fun _ k' => XS.iload X67.here hx rfl (hb hby at_167) rfl k') ?_
        show own_Go p.tables e below _ (T67.setTop (mkF m 169 #[.val (.long base), .second, .val (.long raw), .second, .val (.int delta), .val (.int count), .val (.int mode), .val (.long b), .second, .val (.int (0 : Int32)), .val (.long nn), .second, .val (.ref ms), .val (.ref b2), .val (.ref b9), .val (.ref b20), .val (.ref b35), .unset, .unset, .unset, .unset] [(.int (0 : Int32)), (.long b)]))
        refine own_st (fun _ k' => XS.i2l X67.here hx rfl (hb hby at_169) rfl k') ?_
        show own_Go p.tables e below _ (T67.setTop (mkF m 170 #[.val (.long base), .second, .val (.long raw), .second, .val (.int delta), .val (.int count), .val (.int mode), .val (.long b), .second, .val (.int (0 : Int32)), .val (.long nn), .second, .val (.ref ms), .val (.ref b2), .val (.ref b9), .val (.ref b20), .val (.ref b35), .unset, .unset, .unset, .unset] [(.long ((0 : Int32).toInt64)), (.long b)]))
        refine own_st (fun _ k' => XS.ladd X67.here hx rfl (hb hby at_170) rfl k') ?_
        show own_Go p.tables e below _ (T67.setTop (mkF m 171 #[.val (.long base), .second, .val (.long raw), .second, .val (.int delta), .val (.int count), .val (.int mode), .val (.long b), .second, .val (.int (0 : Int32)), .val (.long nn), .second, .val (.ref ms), .val (.ref b2), .val (.ref b9), .val (.ref b20), .val (.ref b35), .unset, .unset, .unset, .unset] [(.long (b + ((0 : Int32).toInt64)))]))
        refine own_st (fun _ k' => XS.lstore X67.here hx rfl (hb hby at_171) rfl (l' := #[.val (.long base), .second, .val (.long raw), .second, .val (.int delta), .val (.int count), .val (.int mode), .val (.long b), .second, .val (.int (0 : Int32)), .val (.long nn), .second, .val (.ref ms), .val (.ref b2), .val (.ref b9), .val (.ref b20), .val (.ref b35), .val (.long (b + ((0 : Int32).toInt64))), .second, .unset, .unset]) rfl k') ?_
        show own_Go p.tables e below _ (T67.setTop (mkF m 173 #[.val (.long base), .second, .val (.long raw), .second, .val (.int delta), .val (.int count), .val (.int mode), .val (.long b), .second, .val (.int (0 : Int32)), .val (.long nn), .second, .val (.ref ms), .val (.ref b2), .val (.ref b9), .val (.ref b20), .val (.ref b35), .val (.long (b + ((0 : Int32).toInt64))), .second, .unset, .unset] []))
        refine own_st (fun _ k' => XS.iload X67.here hx rfl (hb hby at_173) rfl k') ?_
        show own_Go p.tables e below _ (T67.setTop (mkF m 175 #[.val (.long base), .second, .val (.long raw), .second, .val (.int delta), .val (.int count), .val (.int mode), .val (.long b), .second, .val (.int (0 : Int32)), .val (.long nn), .second, .val (.ref ms), .val (.ref b2), .val (.ref b9), .val (.ref b20), .val (.ref b35), .val (.long (b + ((0 : Int32).toInt64))), .second, .unset, .unset] [(.int (0 : Int32))]))
        refine own_st (fun _ k' => XS.ifNo X67.here hx rfl (hb hby at_175) rfl ((if0 _ _).trans (teq (by decide : (0 : Int32) = (0 : Int32))).2) k') ?_
        show own_Go p.tables e below _ (T67.setTop (mkF m 178 #[.val (.long base), .second, .val (.long raw), .second, .val (.int delta), .val (.int count), .val (.int mode), .val (.long b), .second, .val (.int (0 : Int32)), .val (.long nn), .second, .val (.ref ms), .val (.ref b2), .val (.ref b9), .val (.ref b20), .val (.ref b35), .val (.long (b + ((0 : Int32).toInt64))), .second, .unset, .unset] []))
        refine own_st (fun _ k' => XS.lload X67.here hx rfl (hb hby at_178) rfl k') ?_
        show own_Go p.tables e below _ (T67.setTop (mkF m 180 #[.val (.long base), .second, .val (.long raw), .second, .val (.int delta), .val (.int count), .val (.int mode), .val (.long b), .second, .val (.int (0 : Int32)), .val (.long nn), .second, .val (.ref ms), .val (.ref b2), .val (.ref b9), .val (.ref b20), .val (.ref b35), .val (.long (b + ((0 : Int32).toInt64))), .second, .unset, .unset] [(.long b)]))
        refine own_st (fun _ k' => XS.lconst X67.here hx rfl (hb hby at_180) k') ?_
        show own_Go p.tables e below _ (T67.setTop (mkF m 181 #[.val (.long base), .second, .val (.long raw), .second, .val (.int delta), .val (.int count), .val (.int mode), .val (.long b), .second, .val (.int (0 : Int32)), .val (.long nn), .second, .val (.ref ms), .val (.ref b2), .val (.ref b9), .val (.ref b20), .val (.ref b35), .val (.long (b + ((0 : Int32).toInt64))), .second, .unset, .unset] [(.long (1 : Int64)), (.long b)]))
        refine own_st (fun _ k' => XS.ladd X67.here hx rfl (hb hby at_181) rfl k') ?_
        show own_Go p.tables e below _ (T67.setTop (mkF m 182 #[.val (.long base), .second, .val (.long raw), .second, .val (.int delta), .val (.int count), .val (.int mode), .val (.long b), .second, .val (.int (0 : Int32)), .val (.long nn), .second, .val (.ref ms), .val (.ref b2), .val (.ref b9), .val (.ref b20), .val (.ref b35), .val (.long (b + ((0 : Int32).toInt64))), .second, .unset, .unset] [(.long (b + (1 : Int64)))]))
        refine own_st (fun _ k' => XS.lstore X67.here hx rfl (hb hby at_182) rfl (l' := #[.val (.long base), .second, .val (.long raw), .second, .val (.int delta), .val (.int count), .val (.int mode), .val (.long b), .second, .val (.int (0 : Int32)), .val (.long nn), .second, .val (.ref ms), .val (.ref b2), .val (.ref b9), .val (.ref b20), .val (.ref b35), .val (.long (b + ((0 : Int32).toInt64))), .second, .val (.long (b + (1 : Int64))), .second]) rfl k') ?_
        show own_Go p.tables e below _ (T67.setTop (mkF m 184 #[.val (.long base), .second, .val (.long raw), .second, .val (.int delta), .val (.int count), .val (.int mode), .val (.long b), .second, .val (.int (0 : Int32)), .val (.long nn), .second, .val (.ref ms), .val (.ref b2), .val (.ref b9), .val (.ref b20), .val (.ref b35), .val (.long (b + ((0 : Int32).toInt64))), .second, .val (.long (b + (1 : Int64))), .second] []))
        refine own_st (fun _ k' => XS.goto X67.here hx rfl (pc0 := 184) (pc' := 227) rfl (hb hby at_184) (by decide) (by decide) k') ?_
        show own_Go p.tables e below _ (T67.setTop (mkF m 227 #[.val (.long base), .second, .val (.long raw), .second, .val (.int delta), .val (.int count), .val (.int mode), .val (.long b), .second, .val (.int (0 : Int32)), .val (.long nn), .second, .val (.ref ms), .val (.ref b2), .val (.ref b9), .val (.ref b20), .val (.ref b35), .val (.long (b + ((0 : Int32).toInt64))), .second, .val (.long (b + (1 : Int64))), .second] []))
        refine own_st (fun _ k' => XS.aload X67.here hx rfl (hb hby at_227) rfl rfl k') ?_
        show own_Go p.tables e below _ (T67.setTop (mkF m 229 #[.val (.long base), .second, .val (.long raw), .second, .val (.int delta), .val (.int count), .val (.int mode), .val (.long b), .second, .val (.int (0 : Int32)), .val (.long nn), .second, .val (.ref ms), .val (.ref b2), .val (.ref b9), .val (.ref b20), .val (.ref b35), .val (.long (b + ((0 : Int32).toInt64))), .second, .val (.long (b + (1 : Int64))), .second] [(.ref b35)]))
        obtain ⟨cq80, kq80, q80a, q80b, q80c⟩ := isOf hZ rfl Ea67
        obtain ⟨_, _, ⟨T80, L80, k80, n80⟩, -, X80, ⟨Lc80, hQ80, l80, y80, z80⟩, st80⟩ := X67.virtualBack hx (y := (⟨"com/example/penumbra/penumbra/order/SequenceLog", "first", "()J"⟩ : MethodName)) (z := (⟨"com/example/penumbra/penumbra/order/SequenceLog", "first", "()J"⟩ : MethodName)) hown (mvT hZ (hw _ (List.mem_of_getElem? (i := 73) rfl))) (mvT hZ (hw _ (List.mem_of_getElem? (i := 74) rfl))) (notFace_of_selects (args := #[]) (mvT hZ (hw _ (List.mem_of_getElem? (i := 76) rfl)))) (mvT hZ (hw _ (List.mem_of_getElem? (i := 76) rfl))) (mvT hZ (hw _ (List.mem_of_getElem? (i := 75) rfl))) (by decide) (backOf (W := 0) (rmFi l Z a0 hw [] b35 (b + (1 : Int64)) T67.heap n0 Zc67 Fa_first67) hZ (hw _ (List.mem_of_getElem? (i := 77) rfl)) (hw _ (List.mem_of_getElem? (i := 28) rfl)) (by decide) (by decide)) q80a q80c (g := (mkF m 229 #[.val (.long base), .second, .val (.long raw), .second, .val (.int delta), .val (.int count), .val (.int mode), .val (.long b), .second, .val (.int (0 : Int32)), .val (.long nn), .second, .val (.ref ms), .val (.ref b2), .val (.ref b9), .val (.ref b20), .val (.ref b35), .val (.long (b + ((0 : Int32).toInt64))), .second, .val (.long (b + (1 : Int64))), .second] [(.ref b35)])) rfl (by rw [hml]; rfl) (Steps.refl _) (argsL := []) (rest := []) (lenOf pd___J rfl) rfl (by show 2 * 0 + _ ≤ _; exact Nat.le_of_eq rfl) (hb hby at_229) (fun _ _ => ⟨rfl, rfl, (by decide : 6 + 0 ≤ _), (by decide : 1040 + 0 ≤ _)⟩)
        dsimp only [Pt.U, Pt.locs, Pt.cells, Pt.slots] at X80 l80 y80 z80 st80 hQ80
        subst l80 y80 z80
        obtain ⟨rfl, Nq80, e80⟩ := hQ80
        have N80 := Fr.app N67 Nq80
        refine own_tr st80 ?_
        show own_Go p.tables e below _ (T80.setTop (mkF m 232 #[.val (.long base), .second, .val (.long raw), .second, .val (.int delta), .val (.int count), .val (.int mode), .val (.long b), .second, .val (.int (0 : Int32)), .val (.long nn), .second, .val (.ref ms), .val (.ref b2), .val (.ref b9), .val (.ref b20), .val (.ref b35), .val (.long (b + ((0 : Int32).toInt64))), .second, .val (.long (b + (1 : Int64))), .second] [(.long (b + (1 : Int64)))]))
        refine own_st (fun _ k' => XS.lload X80.here hx rfl (hb hby at_232) rfl k') ?_
        show own_Go p.tables e below _ (T80.setTop (mkF m 234 #[.val (.long base), .second, .val (.long raw), .second, .val (.int delta), .val (.int count), .val (.int mode), .val (.long b), .second, .val (.int (0 : Int32)), .val (.long nn), .second, .val (.ref ms), .val (.ref b2), .val (.ref b9), .val (.ref b20), .val (.ref b35), .val (.long (b + ((0 : Int32).toInt64))), .second, .val (.long (b + (1 : Int64))), .second] [(.long (b + (1 : Int64))), (.long (b + (1 : Int64)))]))
        refine own_st (fun _ k' => XS.lcmp X80.here hx rfl (hb hby at_234) rfl k') ?_
        show own_Go p.tables e below _ (T80.setTop (mkF m 235 #[.val (.long base), .second, .val (.long raw), .second, .val (.int delta), .val (.int count), .val (.int mode), .val (.long b), .second, .val (.int (0 : Int32)), .val (.long nn), .second, .val (.ref ms), .val (.ref b2), .val (.ref b9), .val (.ref b20), .val (.ref b35), .val (.long (b + ((0 : Int32).toInt64))), .second, .val (.long (b + (1 : Int64))), .second] [(.int (lcmpW (b + (1 : Int64)) (b + (1 : Int64))))]))
        refine own_st (fun _ k' => XS.ifYes X80.here hx rfl (pc0 := 235) (pc' := 240) rfl (hb hby at_235) rfl ((if0 _ _).trans (teq ((lw_eq (b + (1 : Int64)) (b + (1 : Int64))).mpr (by have := hbb; have := rng64 b; have := (by decide : (1 : Int64).toInt = 1); have := c_ladd b (1 : Int64); have := rng64 (b + (1 : Int64)); refine (Int64.toInt_inj.symm).mpr ?_; omega : (b + (1 : Int64)) = (b + (1 : Int64))))).1) (by decide) (by decide) k') ?_
        show own_Go p.tables e below _ (T80.setTop (mkF m 240 #[.val (.long base), .second, .val (.long raw), .second, .val (.int delta), .val (.int count), .val (.int mode), .val (.long b), .second, .val (.int (0 : Int32)), .val (.long nn), .second, .val (.ref ms), .val (.ref b2), .val (.ref b9), .val (.ref b20), .val (.ref b35), .val (.long (b + ((0 : Int32).toInt64))), .second, .val (.long (b + (1 : Int64))), .second] []))
        refine own_st (fun _ k' => XS.aload X80.here hx rfl (hb hby at_240) rfl rfl k') ?_
        show own_Go p.tables e below _ (T80.setTop (mkF m 242 #[.val (.long base), .second, .val (.long raw), .second, .val (.int delta), .val (.int count), .val (.int mode), .val (.long b), .second, .val (.int (0 : Int32)), .val (.long nn), .second, .val (.ref ms), .val (.ref b2), .val (.ref b9), .val (.ref b20), .val (.ref b35), .val (.long (b + ((0 : Int32).toInt64))), .second, .val (.long (b + (1 : Int64))), .second] [(.ref b35)]))
        obtain ⟨cq81, kq81, q81a, q81b, q81c⟩ := isOf hZ e80 Ea67
        obtain ⟨_, _, ⟨T81, L81, k81, n81⟩, -, X81, ⟨Lc81, hQ81, l81, y81, z81⟩, st81⟩ := X80.virtualBack hx (y := (⟨"com/example/penumbra/penumbra/order/SequenceLog", "last", "()J"⟩ : MethodName)) (z := (⟨"com/example/penumbra/penumbra/order/SequenceLog", "last", "()J"⟩ : MethodName)) hown (mvT hZ (hw _ (List.mem_of_getElem? (i := 78) rfl))) (mvT hZ (hw _ (List.mem_of_getElem? (i := 63) rfl))) (notFace_of_selects (args := #[]) (mvT hZ (hw _ (List.mem_of_getElem? (i := 65) rfl)))) (mvT hZ (hw _ (List.mem_of_getElem? (i := 65) rfl))) (mvT hZ (hw _ (List.mem_of_getElem? (i := 64) rfl))) (by decide) (backOf (W := 0) (rmLa l Z a0 hw [] b35 (b + (1 : Int64)) (0 : Int32) T67.heap n0 Zc67 Fa_first67 Fa_size67) hZ (hw _ (List.mem_of_getElem? (i := 66) rfl)) (hw _ (List.mem_of_getElem? (i := 28) rfl)) (by decide) (by decide)) q81a q81c (g := (mkF m 242 #[.val (.long base), .second, .val (.long raw), .second, .val (.int delta), .val (.int count), .val (.int mode), .val (.long b), .second, .val (.int (0 : Int32)), .val (.long nn), .second, .val (.ref ms), .val (.ref b2), .val (.ref b9), .val (.ref b20), .val (.ref b35), .val (.long (b + ((0 : Int32).toInt64))), .second, .val (.long (b + (1 : Int64))), .second] [(.ref b35)])) rfl (by rw [hml]; rfl) (Steps.refl _) (argsL := []) (rest := []) (lenOf pd___J rfl) rfl (by show 2 * 0 + _ ≤ _; exact Nat.le_of_eq rfl) (hb hby at_242) (fun _ _ => ⟨rfl, e80, (by decide : 6 + 0 ≤ _), (by decide : 1040 + 0 ≤ _)⟩)
        dsimp only [Pt.U, Pt.locs, Pt.cells, Pt.slots] at X81 l81 y81 z81 st81 hQ81
        subst l81 y81 z81
        obtain ⟨rfl, Nq81, e81⟩ := hQ81
        have N81 := Fr.app N80 Nq81
        refine own_tr st81 ?_
        show own_Go p.tables e below _ (T81.setTop (mkF m 245 #[.val (.long base), .second, .val (.long raw), .second, .val (.int delta), .val (.int count), .val (.int mode), .val (.long b), .second, .val (.int (0 : Int32)), .val (.long nn), .second, .val (.ref ms), .val (.ref b2), .val (.ref b9), .val (.ref b20), .val (.ref b35), .val (.long (b + ((0 : Int32).toInt64))), .second, .val (.long (b + (1 : Int64))), .second] [(.long (((b + (1 : Int64)) + ((0 : Int32).toInt64)) - (1 : Int64)))]))
        refine own_st (fun _ k' => XS.lload X81.here hx rfl (hb hby at_245) rfl k') ?_
        show own_Go p.tables e below _ (T81.setTop (mkF m 247 #[.val (.long base), .second, .val (.long raw), .second, .val (.int delta), .val (.int count), .val (.int mode), .val (.long b), .second, .val (.int (0 : Int32)), .val (.long nn), .second, .val (.ref ms), .val (.ref b2), .val (.ref b9), .val (.ref b20), .val (.ref b35), .val (.long (b + ((0 : Int32).toInt64))), .second, .val (.long (b + (1 : Int64))), .second] [(.long (b + ((0 : Int32).toInt64))), (.long (((b + (1 : Int64)) + ((0 : Int32).toInt64)) - (1 : Int64)))]))
        refine own_st (fun _ k' => XS.lcmp X81.here hx rfl (hb hby at_247) rfl k') ?_
        show own_Go p.tables e below _ (T81.setTop (mkF m 248 #[.val (.long base), .second, .val (.long raw), .second, .val (.int delta), .val (.int count), .val (.int mode), .val (.long b), .second, .val (.int (0 : Int32)), .val (.long nn), .second, .val (.ref ms), .val (.ref b2), .val (.ref b9), .val (.ref b20), .val (.ref b35), .val (.long (b + ((0 : Int32).toInt64))), .second, .val (.long (b + (1 : Int64))), .second] [(.int (lcmpW (((b + (1 : Int64)) + ((0 : Int32).toInt64)) - (1 : Int64)) (b + ((0 : Int32).toInt64))))]))
        refine own_st (fun _ k' => XS.ifYes X81.here hx rfl (pc0 := 248) (pc' := 253) rfl (hb hby at_248) rfl ((if0 _ _).trans (teq ((lw_eq (((b + (1 : Int64)) + ((0 : Int32).toInt64)) - (1 : Int64)) (b + ((0 : Int32).toInt64))).mpr (by have := hbb; have := rng64 b; have := (by decide : (1 : Int64).toInt = 1); have := c_ladd b (1 : Int64); have := rng64 (b + (1 : Int64)); have := (by decide : ((0 : Int32).toInt64).toInt = 0); have := c_ladd (b + (1 : Int64)) (0 : Int32).toInt64; have := rng64 ((b + (1 : Int64)) + (0 : Int32).toInt64); have := c_lsub ((b + (1 : Int64)) + (0 : Int32).toInt64) (1 : Int64); have := rng64 (((b + (1 : Int64)) + (0 : Int32).toInt64) - (1 : Int64)); have := c_ladd b (0 : Int32).toInt64; have := rng64 (b + (0 : Int32).toInt64); refine (Int64.toInt_inj.symm).mpr ?_; omega : (((b + (1 : Int64)) + ((0 : Int32).toInt64)) - (1 : Int64)) = (b + ((0 : Int32).toInt64))))).1) (by decide) (by decide) k') ?_
        show own_Go p.tables e below _ (T81.setTop (mkF m 253 #[.val (.long base), .second, .val (.long raw), .second, .val (.int delta), .val (.int count), .val (.int mode), .val (.long b), .second, .val (.int (0 : Int32)), .val (.long nn), .second, .val (.ref ms), .val (.ref b2), .val (.ref b9), .val (.ref b20), .val (.ref b35), .val (.long (b + ((0 : Int32).toInt64))), .second, .val (.long (b + (1 : Int64))), .second] []))
        refine own_st (fun _ k' => XS.lload X81.here hx rfl (hb hby at_253) rfl k') ?_
        show own_Go p.tables e below _ (T81.setTop (mkF m 255 #[.val (.long base), .second, .val (.long raw), .second, .val (.int delta), .val (.int count), .val (.int mode), .val (.long b), .second, .val (.int (0 : Int32)), .val (.long nn), .second, .val (.ref ms), .val (.ref b2), .val (.ref b9), .val (.ref b20), .val (.ref b35), .val (.long (b + ((0 : Int32).toInt64))), .second, .val (.long (b + (1 : Int64))), .second] [(.long (b + (1 : Int64)))]))
        refine own_st (fun _ k' => XS.lload X81.here hx rfl (hb hby at_255) rfl k') ?_
        show own_Go p.tables e below _ (T81.setTop (mkF m 257 #[.val (.long base), .second, .val (.long raw), .second, .val (.int delta), .val (.int count), .val (.int mode), .val (.long b), .second, .val (.int (0 : Int32)), .val (.long nn), .second, .val (.ref ms), .val (.ref b2), .val (.ref b9), .val (.ref b20), .val (.ref b35), .val (.long (b + ((0 : Int32).toInt64))), .second, .val (.long (b + (1 : Int64))), .second] [(.long (b + ((0 : Int32).toInt64))), (.long (b + (1 : Int64)))]))
        refine own_st (fun _ k' => XS.lcmp X81.here hx rfl (hb hby at_257) rfl k') ?_
        show own_Go p.tables e below _ (T81.setTop (mkF m 258 #[.val (.long base), .second, .val (.long raw), .second, .val (.int delta), .val (.int count), .val (.int mode), .val (.long b), .second, .val (.int (0 : Int32)), .val (.long nn), .second, .val (.ref ms), .val (.ref b2), .val (.ref b9), .val (.ref b20), .val (.ref b35), .val (.long (b + ((0 : Int32).toInt64))), .second, .val (.long (b + (1 : Int64))), .second] [(.int (lcmpW (b + (1 : Int64)) (b + ((0 : Int32).toInt64))))]))
        refine own_st (fun _ k' => XS.ifYes X81.here hx rfl (pc0 := 258) (pc' := 311) rfl (hb hby at_258) rfl ((if0 _ _).trans (tlt ((lw_gt (b + (1 : Int64)) (b + ((0 : Int32).toInt64))).mpr (by have := hbb; have := rng64 b; have := (by decide : ((0 : Int32).toInt64).toInt = 0); have := c_ladd b (0 : Int32).toInt64; have := rng64 (b + (0 : Int32).toInt64); have := (by decide : (1 : Int64).toInt = 1); have := c_ladd b (1 : Int64); have := rng64 (b + (1 : Int64)); refine (Int64.lt_iff_toInt_lt).mpr ?_; omega : (b + ((0 : Int32).toInt64)) < (b + (1 : Int64))))).2.2.1) (by decide) (by decide) k') ?_
        show own_Go p.tables e below _ (T81.setTop (mkF m 311 #[.val (.long base), .second, .val (.long raw), .second, .val (.int delta), .val (.int count), .val (.int mode), .val (.long b), .second, .val (.int (0 : Int32)), .val (.long nn), .second, .val (.ref ms), .val (.ref b2), .val (.ref b9), .val (.ref b20), .val (.ref b35), .val (.long (b + ((0 : Int32).toInt64))), .second, .val (.long (b + (1 : Int64))), .second] []))
        refine own_st (fun _ k' => XS.iconst X81.here hx rfl (hb hby at_311) k') ?_
        show own_Go p.tables e below _ (T81.setTop (mkF m 312 #[.val (.long base), .second, .val (.long raw), .second, .val (.int delta), .val (.int count), .val (.int mode), .val (.long b), .second, .val (.int (0 : Int32)), .val (.long nn), .second, .val (.ref ms), .val (.ref b2), .val (.ref b9), .val (.ref b20), .val (.ref b35), .val (.long (b + ((0 : Int32).toInt64))), .second, .val (.long (b + (1 : Int64))), .second] [(.int (1 : Int32))]))
        exact own_retN X81 hx (t := .boolean) Bd.returns (by simp) (hb hby at_312) Bd.notSynchronized ⟨rfl, N81⟩ (by decide) (by decide)
    ·  -- k = 1
      rw [hk]
      show own_Go p.tables e below _ (T54.setTop (mkF m 119 #[.val (.long base), .second, .val (.long raw), .second, .val (.int delta), .val (.int count), .val (.int mode), .val (.long b), .second, .val (.int (1 : Int32)), .val (.long nn), .second, .val (.ref ms), .val (.ref b2), .val (.ref b9), .val (.ref b20), .val (.ref b35), .unset, .unset, .unset, .unset] []))
      refine own_st (fun _ k' => XS.iload X54.here hx rfl (hb hby at_119) rfl k') ?_
      show own_Go p.tables e below _ (T54.setTop (mkF m 121 #[.val (.long base), .second, .val (.long raw), .second, .val (.int delta), .val (.int count), .val (.int mode), .val (.long b), .second, .val (.int (1 : Int32)), .val (.long nn), .second, .val (.ref ms), .val (.ref b2), .val (.ref b9), .val (.ref b20), .val (.ref b35), .unset, .unset, .unset, .unset] [(.int (1 : Int32))]))
      refine own_st (fun _ k' => XS.iconst X54.here hx rfl (hb hby at_121) k') ?_
      show own_Go p.tables e below _ (T54.setTop (mkF m 122 #[.val (.long base), .second, .val (.long raw), .second, .val (.int delta), .val (.int count), .val (.int mode), .val (.long b), .second, .val (.int (1 : Int32)), .val (.long nn), .second, .val (.ref ms), .val (.ref b2), .val (.ref b9), .val (.ref b20), .val (.ref b35), .unset, .unset, .unset, .unset] [(.int (1 : Int32)), (.int (1 : Int32))]))
      refine own_st (fun _ k' => XS.icmpNo X54.here hx rfl (hb hby at_122) rfl (flt (by decide : ¬ (1 : Int32) < (1 : Int32))).1 k') ?_
      show own_Go p.tables e below _ (T54.setTop (mkF m 125 #[.val (.long base), .second, .val (.long raw), .second, .val (.int delta), .val (.int count), .val (.int mode), .val (.long b), .second, .val (.int (1 : Int32)), .val (.long nn), .second, .val (.ref ms), .val (.ref b2), .val (.ref b9), .val (.ref b20), .val (.ref b35), .unset, .unset, .unset, .unset] []))
      refine own_st (fun _ k' => XS.aload X54.here hx rfl (hb hby at_125) rfl rfl k') ?_
      show own_Go p.tables e below _ (T54.setTop (mkF m 127 #[.val (.long base), .second, .val (.long raw), .second, .val (.int delta), .val (.int count), .val (.int mode), .val (.long b), .second, .val (.int (1 : Int32)), .val (.long nn), .second, .val (.ref ms), .val (.ref b2), .val (.ref b9), .val (.ref b20), .val (.ref b35), .unset, .unset, .unset, .unset] [(.ref b35)]))
      refine own_st (fun _ k' => XS.aload X54.here hx rfl (hb hby at_127) rfl rfl k') ?_
      show own_Go p.tables e below _ (T54.setTop (mkF m 129 #[.val (.long base), .second, .val (.long raw), .second, .val (.int delta), .val (.int count), .val (.int mode), .val (.long b), .second, .val (.int (1 : Int32)), .val (.long nn), .second, .val (.ref ms), .val (.ref b2), .val (.ref b9), .val (.ref b20), .val (.ref b35), .unset, .unset, .unset, .unset] [(.ref b2), (.ref b35)]))
      obtain ⟨cq82, kq82, q82a, q82b, q82c⟩ := isOf hZ rfl Ea54
      obtain ⟨_, _, ⟨T82, L82, k82, n82⟩, -, X82, ⟨Lc82, hQ82, l82, y82, z82⟩, st82⟩ := X54.virtualBack hx (y := (⟨"com/example/penumbra/penumbra/order/SequenceLog", "append", "(Lcom/example/penumbra/penumbra/order/SequenceLog$Entry;)V"⟩ : MethodName)) (z := (⟨"com/example/penumbra/penumbra/order/SequenceLog", "append", "(Lcom/example/penumbra/penumbra/order/SequenceLog$Entry;)V"⟩ : MethodName)) hown (mvT hZ (hw _ (List.mem_of_getElem? (i := 52) rfl))) (mvT hZ (hw _ (List.mem_of_getElem? (i := 53) rfl))) (notFace_of_selects (args := #[]) (mvT hZ (hw _ (List.mem_of_getElem? (i := 55) rfl)))) (mvT hZ (hw _ (List.mem_of_getElem? (i := 55) rfl))) (mvT hZ (hw _ (List.mem_of_getElem? (i := 54) rfl))) (by decide) (backOf (W := 0) (rmP0 l Z a0 hw [] b35 b2 (b + (1 : Int64)) (b + (1 : Int64)) rg kk .null .null .null T54.heap n0 Zc54 Ea54 Fa_ring54 Fa_first54 Fa_head54 Fa_size54 Va54 OV ne_b35_rg g_b35 g_rg Ec3_x55 Fc3_x56 ne_b2_b35 ne_b2_rg (by have := hbb; have := rng64 b; have := (by decide : (1 : Int64).toInt = 1); have := c_ladd b (1 : Int64); have := rng64 (b + (1 : Int64)); have := (by decide : ((0 : Int32).toInt64).toInt = 0); have := c_ladd (b + (1 : Int64)) (0 : Int32).toInt64; have := rng64 ((b + (1 : Int64)) + (0 : Int32).toInt64); have := c_lsub ((b + (1 : Int64)) + (0 : Int32).toInt64) (1 : Int64); have := rng64 (((b + (1 : Int64)) + (0 : Int32).toInt64) - (1 : Int64)); have := c_ladd (((b + (1 : Int64)) + (0 : Int32).toInt64) - (1 : Int64)) (1 : Int64); have := rng64 ((((b + (1 : Int64)) + (0 : Int32).toInt64) - (1 : Int64)) + (1 : Int64)); refine (Int64.toInt_inj.symm).mpr ?_; omega : (b + (1 : Int64)) = ((((b + (1 : Int64)) + ((0 : Int32).toInt64)) - (1 : Int64)) + (1 : Int64)))) hZ (hw _ (List.mem_of_getElem? (i := 56) rfl)) (hw _ (List.mem_of_getElem? (i := 28) rfl)) (by decide) (by decide)) q82a q82c (g := (mkF m 129 #[.val (.long base), .second, .val (.long raw), .second, .val (.int delta), .val (.int count), .val (.int mode), .val (.long b), .second, .val (.int (1 : Int32)), .val (.long nn), .second, .val (.ref ms), .val (.ref b2), .val (.ref b9), .val (.ref b20), .val (.ref b35), .unset, .unset, .unset, .unset] [(.ref b2), (.ref b35)])) rfl (by rw [hml]; rfl) (Steps.refl _) (argsL := [(.ref b2)]) (rest := []) (lenOf pd__Lcom_example_penumbra_penumbra_order_SequenceLog_Entry__V rfl) rfl (by show 2 * 0 + _ ≤ _; exact Nat.le_of_eq rfl) (hb hby at_129) (fun _ _ => ⟨rfl, rfl, (by decide : 6 + 0 ≤ _), (by decide : 1040 + 0 ≤ _)⟩)
      dsimp only [Pt.U, Pt.locs, Pt.cells, Pt.slots] at X82 l82 y82 z82 st82 hQ82
      subst l82 y82 z82
      obtain ⟨rfl, Nq82, Kc82, Ea82, Fa_ring82, Fa_first82, Fa_head82, Fa_size82, Va82⟩ := hQ82
      have N82 := Fr.app N54 Nq82
      have Ec3_x83 := Ec3_x55.keep Kc82
      have Fc3_x84 := Fc3_x56.keep Kc82 (ninS ne_b2_b35 (ninS ne_b2_rg nin0))
      have Ec12_x85 := Ec12_x57.keep Kc82
      have Fc12_x86 := Fc12_x58.keep Kc82 (ninS ne_b9_b35 (ninS ne_b9_rg nin0))
      have Ec25_x87 := Ec25_x59.keep Kc82
      have Fc25_x88 := Fc25_x60.keep Kc82 (ninS ne_b20_b35 (ninS ne_b20_rg nin0))
      have Ea54_x89 := Ea54.keep Kc82
      have Zc82 : n0 ≤ T82.heap.size := Nat.le_trans Zc54 Kc82.1
      refine own_tr st82 ?_
      show own_Go p.tables e below _ (T82.setTop (mkF m 132 #[.val (.long base), .second, .val (.long raw), .second, .val (.int delta), .val (.int count), .val (.int mode), .val (.long b), .second, .val (.int (1 : Int32)), .val (.long nn), .second, .val (.ref ms), .val (.ref b2), .val (.ref b9), .val (.ref b20), .val (.ref b35), .unset, .unset, .unset, .unset] []))
      refine own_st (fun _ k' => XS.iload X82.here hx rfl (hb hby at_132) rfl k') ?_
      show own_Go p.tables e below _ (T82.setTop (mkF m 134 #[.val (.long base), .second, .val (.long raw), .second, .val (.int delta), .val (.int count), .val (.int mode), .val (.long b), .second, .val (.int (1 : Int32)), .val (.long nn), .second, .val (.ref ms), .val (.ref b2), .val (.ref b9), .val (.ref b20), .val (.ref b35), .unset, .unset, .unset, .unset] [(.int (1 : Int32))]))
      refine own_st (fun _ k' => XS.iconst X82.here hx rfl (hb hby at_134) k') ?_
      show own_Go p.tables e below _ (T82.setTop (mkF m 135 #[.val (.long base), .second, .val (.long raw), .second, .val (.int delta), .val (.int count), .val (.int mode), .val (.long b), .second, .val (.int (1 : Int32)), .val (.long nn), .second, .val (.ref ms), .val (.ref b2), .val (.ref b9), .val (.ref b20), .val (.ref b35), .unset, .unset, .unset, .unset] [(.int (2 : Int32)), (.int (1 : Int32))]))
      refine own_st (fun _ k' => XS.icmpYes X82.here hx rfl (pc0 := 135) (pc' := 145) rfl (hb hby at_135) rfl (tlt (by decide : (1 : Int32) < (2 : Int32))).1 (by decide) (by decide) k') ?_
      show own_Go p.tables e below _ (T82.setTop (mkF m 145 #[.val (.long base), .second, .val (.long raw), .second, .val (.int delta), .val (.int count), .val (.int mode), .val (.long b), .second, .val (.int (1 : Int32)), .val (.long nn), .second, .val (.ref ms), .val (.ref b2), .val (.ref b9), .val (.ref b20), .val (.ref b35), .unset, .unset, .unset, .unset] []))
      refine own_st (fun _ k' => XS.iload X82.here hx rfl (hb hby at_145) rfl k') ?_
      show own_Go p.tables e below _ (T82.setTop (mkF m 147 #[.val (.long base), .second, .val (.long raw), .second, .val (.int delta), .val (.int count), .val (.int mode), .val (.long b), .second, .val (.int (1 : Int32)), .val (.long nn), .second, .val (.ref ms), .val (.ref b2), .val (.ref b9), .val (.ref b20), .val (.ref b35), .unset, .unset, .unset, .unset] [(.int (1 : Int32))]))
      refine own_st (fun _ k' => XS.iconst X82.here hx rfl (hb hby at_147) k') ?_
      show own_Go p.tables e below _ (T82.setTop (mkF m 148 #[.val (.long base), .second, .val (.long raw), .second, .val (.int delta), .val (.int count), .val (.int mode), .val (.long b), .second, .val (.int (1 : Int32)), .val (.long nn), .second, .val (.ref ms), .val (.ref b2), .val (.ref b9), .val (.ref b20), .val (.ref b35), .unset, .unset, .unset, .unset] [(.int (3 : Int32)), (.int (1 : Int32))]))
      refine own_st (fun _ k' => XS.icmpYes X82.here hx rfl (pc0 := 148) (pc' := 158) rfl (hb hby at_148) rfl (tlt (by decide : (1 : Int32) < (3 : Int32))).1 (by decide) (by decide) k') ?_
      show own_Go p.tables e below _ (T82.setTop (mkF m 158 #[.val (.long base), .second, .val (.long raw), .second, .val (.int delta), .val (.int count), .val (.int mode), .val (.long b), .second, .val (.int (1 : Int32)), .val (.long nn), .second, .val (.ref ms), .val (.ref b2), .val (.ref b9), .val (.ref b20), .val (.ref b35), .unset, .unset, .unset, .unset] []))
      refine own_st (fun _ k' => XS.aload X82.here hx rfl (hb hby at_158) rfl rfl k') ?_
      show own_Go p.tables e below _ (T82.setTop (mkF m 160 #[.val (.long base), .second, .val (.long raw), .second, .val (.int delta), .val (.int count), .val (.int mode), .val (.long b), .second, .val (.int (1 : Int32)), .val (.long nn), .second, .val (.ref ms), .val (.ref b2), .val (.ref b9), .val (.ref b20), .val (.ref b35), .unset, .unset, .unset, .unset] [(.ref b35)]))
      refine own_st (fun _ k' => XS.lload X82.here hx rfl (hb hby at_160) rfl k') ?_
      show own_Go p.tables e below _ (T82.setTop (mkF m 162 #[.val (.long base), .second, .val (.long raw), .second, .val (.int delta), .val (.int count), .val (.int mode), .val (.long b), .second, .val (.int (1 : Int32)), .val (.long nn), .second, .val (.ref ms), .val (.ref b2), .val (.ref b9), .val (.ref b20), .val (.ref b35), .unset, .unset, .unset, .unset] [(.long nn), (.ref b35)]))
      obtain ⟨cq95, kq95, q95a, q95b, q95c⟩ := isOf hZ rfl Ea82
      obtain ⟨_, _, ⟨T95, L95, k95, n95⟩, -, X95, ⟨Lc95, hQ95, l95, y95, z95⟩, st95⟩ := X82.virtualBack hx (y := (⟨"com/example/penumbra/penumbra/order/SequenceLog", "dropUpTo", "(J)V"⟩ : MethodName)) (z := (⟨"com/example/penumbra/penumbra/order/SequenceLog", "dropUpTo", "(J)V"⟩ : MethodName)) hown (mvT hZ (hw _ (List.mem_of_getElem? (i := 68) rfl))) (mvT hZ (hw _ (List.mem_of_getElem? (i := 69) rfl))) (notFace_of_selects (args := #[]) (mvT hZ (hw _ (List.mem_of_getElem? (i := 71) rfl)))) (mvT hZ (hw _ (List.mem_of_getElem? (i := 71) rfl))) (mvT hZ (hw _ (List.mem_of_getElem? (i := 70) rfl))) (by decide) (backOf (W := 0) (rmD1 l Z a0 hw [] b35 nn (b + (1 : Int64)) rg kk (.ref b2) .null .null T82.heap n0 Zc82 Ea82 Fa_ring82 Fa_first82 Fa_head82 Fa_size82 Va82 OV ne_b35_rg g_b35 g_rg) hZ (hw _ (List.mem_of_getElem? (i := 72) rfl)) (hw _ (List.mem_of_getElem? (i := 28) rfl)) (by decide) (by decide)) q95a q95c (g := (mkF m 162 #[.val (.long base), .second, .val (.long raw), .second, .val (.int delta), .val (.int count), .val (.int mode), .val (.long b), .second, .val (.int (1 : Int32)), .val (.long nn), .second, .val (.ref ms), .val (.ref b2), .val (.ref b9), .val (.ref b20), .val (.ref b35), .unset, .unset, .unset, .unset] [(.long nn), (.ref b35)])) rfl (by rw [hml]; rfl) (Steps.refl _) (argsL := [(.long nn)]) (rest := []) (lenOf pd__J_V rfl) rfl (by show 2 * 0 + _ ≤ _; exact Nat.le_of_eq rfl) (hb hby at_162) (fun _ _ => ⟨rfl, rfl, (by decide : 6 + 0 ≤ _), (by decide : 1040 + 0 ≤ _)⟩)
      dsimp only [Pt.U, Pt.locs, Pt.cells, Pt.slots] at X95 l95 y95 z95 st95 hQ95
      subst l95 y95 z95
      obtain ⟨rfl, Nq95, Kc95, hD95⟩ := hQ95
      have N95 := Fr.app N82 Nq95
      have Ec3_x96 := Ec3_x83.keep Kc95
      have Fc3_x97 := Fc3_x84.keep Kc95 (ninS ne_b2_b35 (ninS ne_b2_rg nin0))
      have Ec12_x98 := Ec12_x85.keep Kc95
      have Fc12_x99 := Fc12_x86.keep Kc95 (ninS ne_b9_b35 (ninS ne_b9_rg nin0))
      have Ec25_x100 := Ec25_x87.keep Kc95
      have Fc25_x101 := Fc25_x88.keep Kc95 (ninS ne_b20_b35 (ninS ne_b20_rg nin0))
      have Ea82_x102 := Ea82.keep Kc95
      have Zc95 : n0 ≤ T95.heap.size := Nat.le_trans Zc82 Kc95.1
      rcases hD95 with ⟨hd0_0, Ea95, Fa_ring95, Fa_first95, Fa_head95, Fa_size95, Va95⟩ | ⟨hd1_0, Ea95, Fa_ring95, Fa_first95, Fa_head95, Fa_size95, Va95⟩
      ·  -- 0 dropped of 1
        refine own_tr st95 ?_
        show own_Go p.tables e below _ (T95.setTop (mkF m 165 #[.val (.long base), .second, .val (.long raw), .second, .val (.int delta), .val (.int count), .val (.int mode), .val (.long b), .second, .val (.int (1 : Int32)), .val (.long nn), .second, .val (.ref ms), .val (.ref b2), .val (.ref b9), .val (.ref b20), .val (.ref b35), .unset, .unset, .unset, .unset] []))
        refine own_st (fun _ k' => XS.lload X95.here hx rfl (hb hby at_165) rfl k') ?_
        show own_Go p.tables e below _ (T95.setTop (mkF m 167 #[.val (.long base), .second, .val (.long raw), .second, .val (.int delta), .val (.int count), .val (.int mode), .val (.long b), .second, .val (.int (1 : Int32)), .val (.long nn), .second, .val (.ref ms), .val (.ref b2), .val (.ref b9), .val (.ref b20), .val (.ref b35), .unset, .unset, .unset, .unset] [(.long b)]))
        refine own_st (fun _ k' => XS.iload X95.here hx rfl (hb hby at_167) rfl k') ?_
        show own_Go p.tables e below _ (T95.setTop (mkF m 169 #[.val (.long base), .second, .val (.long raw), .second, .val (.int delta), .val (.int count), .val (.int mode), .val (.long b), .second, .val (.int (1 : Int32)), .val (.long nn), .second, .val (.ref ms), .val (.ref b2), .val (.ref b9), .val (.ref b20), .val (.ref b35), .unset, .unset, .unset, .unset] [(.int (1 : Int32)), (.long b)]))
        refine own_st (fun _ k' => XS.i2l X95.here hx rfl (hb hby at_169) rfl k') ?_
        show own_Go p.tables e below _ (T95.setTop (mkF m 170 #[.val (.long base), .second, .val (.long raw), .second, .val (.int delta), .val (.int count), .val (.int mode), .val (.long b), .second, .val (.int (1 : Int32)), .val (.long nn), .second, .val (.ref ms), .val (.ref b2), .val (.ref b9), .val (.ref b20), .val (.ref b35), .unset, .unset, .unset, .unset] [(.long ((1 : Int32).toInt64)), (.long b)]))
        refine own_st (fun _ k' => XS.ladd X95.here hx rfl (hb hby at_170) rfl k') ?_
        show own_Go p.tables e below _ (T95.setTop (mkF m 171 #[.val (.long base), .second, .val (.long raw), .second, .val (.int delta), .val (.int count), .val (.int mode), .val (.long b), .second, .val (.int (1 : Int32)), .val (.long nn), .second, .val (.ref ms), .val (.ref b2), .val (.ref b9), .val (.ref b20), .val (.ref b35), .unset, .unset, .unset, .unset] [(.long (b + ((1 : Int32).toInt64)))]))
        refine own_st (fun _ k' => XS.lstore X95.here hx rfl (hb hby at_171) rfl (l' := #[.val (.long base), .second, .val (.long raw), .second, .val (.int delta), .val (.int count), .val (.int mode), .val (.long b), .second, .val (.int (1 : Int32)), .val (.long nn), .second, .val (.ref ms), .val (.ref b2), .val (.ref b9), .val (.ref b20), .val (.ref b35), .val (.long (b + ((1 : Int32).toInt64))), .second, .unset, .unset]) rfl k') ?_
        show own_Go p.tables e below _ (T95.setTop (mkF m 173 #[.val (.long base), .second, .val (.long raw), .second, .val (.int delta), .val (.int count), .val (.int mode), .val (.long b), .second, .val (.int (1 : Int32)), .val (.long nn), .second, .val (.ref ms), .val (.ref b2), .val (.ref b9), .val (.ref b20), .val (.ref b35), .val (.long (b + ((1 : Int32).toInt64))), .second, .unset, .unset] []))
        refine own_st (fun _ k' => XS.iload X95.here hx rfl (hb hby at_173) rfl k') ?_
        show own_Go p.tables e below _ (T95.setTop (mkF m 175 #[.val (.long base), .second, .val (.long raw), .second, .val (.int delta), .val (.int count), .val (.int mode), .val (.long b), .second, .val (.int (1 : Int32)), .val (.long nn), .second, .val (.ref ms), .val (.ref b2), .val (.ref b9), .val (.ref b20), .val (.ref b35), .val (.long (b + ((1 : Int32).toInt64))), .second, .unset, .unset] [(.int (1 : Int32))]))
        refine own_st (fun _ k' => XS.ifYes X95.here hx rfl (pc0 := 175) (pc' := 187) rfl (hb hby at_175) rfl ((if0 _ _).trans (feq (by decide : ¬ (1 : Int32) = (0 : Int32))).2) (by decide) (by decide) k') ?_
        show own_Go p.tables e below _ (T95.setTop (mkF m 187 #[.val (.long base), .second, .val (.long raw), .second, .val (.int delta), .val (.int count), .val (.int mode), .val (.long b), .second, .val (.int (1 : Int32)), .val (.long nn), .second, .val (.ref ms), .val (.ref b2), .val (.ref b9), .val (.ref b20), .val (.ref b35), .val (.long (b + ((1 : Int32).toInt64))), .second, .unset, .unset] []))
        refine own_st (fun _ k' => XS.lload X95.here hx rfl (hb hby at_187) rfl k') ?_
        show own_Go p.tables e below _ (T95.setTop (mkF m 189 #[.val (.long base), .second, .val (.long raw), .second, .val (.int delta), .val (.int count), .val (.int mode), .val (.long b), .second, .val (.int (1 : Int32)), .val (.long nn), .second, .val (.ref ms), .val (.ref b2), .val (.ref b9), .val (.ref b20), .val (.ref b35), .val (.long (b + ((1 : Int32).toInt64))), .second, .unset, .unset] [(.long nn)]))
        refine own_st (fun _ k' => XS.lload X95.here hx rfl (hb hby at_189) rfl k') ?_
        show own_Go p.tables e below _ (T95.setTop (mkF m 191 #[.val (.long base), .second, .val (.long raw), .second, .val (.int delta), .val (.int count), .val (.int mode), .val (.long b), .second, .val (.int (1 : Int32)), .val (.long nn), .second, .val (.ref ms), .val (.ref b2), .val (.ref b9), .val (.ref b20), .val (.ref b35), .val (.long (b + ((1 : Int32).toInt64))), .second, .unset, .unset] [(.long b), (.long nn)]))
        refine own_st (fun _ k' => XS.lcmp X95.here hx rfl (hb hby at_191) rfl k') ?_
        show own_Go p.tables e below _ (T95.setTop (mkF m 192 #[.val (.long base), .second, .val (.long raw), .second, .val (.int delta), .val (.int count), .val (.int mode), .val (.long b), .second, .val (.int (1 : Int32)), .val (.long nn), .second, .val (.ref ms), .val (.ref b2), .val (.ref b9), .val (.ref b20), .val (.ref b35), .val (.long (b + ((1 : Int32).toInt64))), .second, .unset, .unset] [(.int (lcmpW nn b))]))
        refine own_st (fun _ k' => XS.ifNo X95.here hx rfl (hb hby at_192) rfl ((if0 _ _).trans (flt (mt (lw_gt nn b).mp (by have := hbb; have := rng64 nn; have := rng64 b; have := (by decide : (1 : Int64).toInt = 1); have := c_ladd b (1 : Int64); have := rng64 (b + (1 : Int64)); have := (Int64.lt_iff_toInt_lt).mp hd0_0; refine mt (Int64.lt_iff_toInt_lt).mp ?_; omega : ¬ b < nn))).2.2.1) k') ?_
        show own_Go p.tables e below _ (T95.setTop (mkF m 195 #[.val (.long base), .second, .val (.long raw), .second, .val (.int delta), .val (.int count), .val (.int mode), .val (.long b), .second, .val (.int (1 : Int32)), .val (.long nn), .second, .val (.ref ms), .val (.ref b2), .val (.ref b9), .val (.ref b20), .val (.ref b35), .val (.long (b + ((1 : Int32).toInt64))), .second, .unset, .unset] []))
        refine own_st (fun _ k' => XS.lload X95.here hx rfl (hb hby at_195) rfl k') ?_
        show own_Go p.tables e below _ (T95.setTop (mkF m 197 #[.val (.long base), .second, .val (.long raw), .second, .val (.int delta), .val (.int count), .val (.int mode), .val (.long b), .second, .val (.int (1 : Int32)), .val (.long nn), .second, .val (.ref ms), .val (.ref b2), .val (.ref b9), .val (.ref b20), .val (.ref b35), .val (.long (b + ((1 : Int32).toInt64))), .second, .unset, .unset] [(.long b)]))
        refine own_st (fun _ k' => XS.lconst X95.here hx rfl (hb hby at_197) k') ?_
        show own_Go p.tables e below _ (T95.setTop (mkF m 198 #[.val (.long base), .second, .val (.long raw), .second, .val (.int delta), .val (.int count), .val (.int mode), .val (.long b), .second, .val (.int (1 : Int32)), .val (.long nn), .second, .val (.ref ms), .val (.ref b2), .val (.ref b9), .val (.ref b20), .val (.ref b35), .val (.long (b + ((1 : Int32).toInt64))), .second, .unset, .unset] [(.long (1 : Int64)), (.long b)]))
        refine own_st (fun _ k' => XS.ladd X95.here hx rfl (hb hby at_198) rfl k') ?_
        show own_Go p.tables e below _ (T95.setTop (mkF m 199 #[.val (.long base), .second, .val (.long raw), .second, .val (.int delta), .val (.int count), .val (.int mode), .val (.long b), .second, .val (.int (1 : Int32)), .val (.long nn), .second, .val (.ref ms), .val (.ref b2), .val (.ref b9), .val (.ref b20), .val (.ref b35), .val (.long (b + ((1 : Int32).toInt64))), .second, .unset, .unset] [(.long (b + (1 : Int64)))]))
        refine own_st (fun _ k' => XS.lstore X95.here hx rfl (hb hby at_199) rfl (l' := #[.val (.long base), .second, .val (.long raw), .second, .val (.int delta), .val (.int count), .val (.int mode), .val (.long b), .second, .val (.int (1 : Int32)), .val (.long nn), .second, .val (.ref ms), .val (.ref b2), .val (.ref b9), .val (.ref b20), .val (.ref b35), .val (.long (b + ((1 : Int32).toInt64))), .second, .val (.long (b + (1 : Int64))), .second]) rfl k') ?_
        show own_Go p.tables e below _ (T95.setTop (mkF m 201 #[.val (.long base), .second, .val (.long raw), .second, .val (.int delta), .val (.int count), .val (.int mode), .val (.long b), .second, .val (.int (1 : Int32)), .val (.long nn), .second, .val (.ref ms), .val (.ref b2), .val (.ref b9), .val (.ref b20), .val (.ref b35), .val (.long (b + ((1 : Int32).toInt64))), .second, .val (.long (b + (1 : Int64))), .second] []))
        refine own_st (fun _ k' => XS.goto X95.here hx rfl (pc0 := 201) (pc' := 227) rfl (hb hby at_201) (by decide) (by decide) k') ?_
        show own_Go p.tables e below _ (T95.setTop (mkF m 227 #[.val (.long base), .second, .val (.long raw), .second, .val (.int delta), .val (.int count), .val (.int mode), .val (.long b), .second, .val (.int (1 : Int32)), .val (.long nn), .second, .val (.ref ms), .val (.ref b2), .val (.ref b9), .val (.ref b20), .val (.ref b35), .val (.long (b + ((1 : Int32).toInt64))), .second, .val (.long (b + (1 : Int64))), .second] []))
        refine own_st (fun _ k' => XS.aload X95.here hx rfl (hb hby at_227) rfl rfl k') ?_
        show own_Go p.tables e below _ (T95.setTop (mkF m 229 #[.val (.long base), .second, .val (.long raw), .second, .val (.int delta), .val (.int count), .val (.int mode), .val (.long b), .second, .val (.int (1 : Int32)), .val (.long nn), .second, .val (.ref ms), .val (.ref b2), .val (.ref b9), .val (.ref b20), .val (.ref b35), .val (.long (b + ((1 : Int32).toInt64))), .second, .val (.long (b + (1 : Int64))), .second] [(.ref b35)]))
        obtain ⟨cq108, kq108, q108a, q108b, q108c⟩ := isOf hZ rfl Ea95
        obtain ⟨_, _, ⟨T108, L108, k108, n108⟩, -, X108, ⟨Lc108, hQ108, l108, y108, z108⟩, st108⟩ := X95.virtualBack hx (y := (⟨"com/example/penumbra/penumbra/order/SequenceLog", "first", "()J"⟩ : MethodName)) (z := (⟨"com/example/penumbra/penumbra/order/SequenceLog", "first", "()J"⟩ : MethodName)) hown (mvT hZ (hw _ (List.mem_of_getElem? (i := 73) rfl))) (mvT hZ (hw _ (List.mem_of_getElem? (i := 74) rfl))) (notFace_of_selects (args := #[]) (mvT hZ (hw _ (List.mem_of_getElem? (i := 76) rfl)))) (mvT hZ (hw _ (List.mem_of_getElem? (i := 76) rfl))) (mvT hZ (hw _ (List.mem_of_getElem? (i := 75) rfl))) (by decide) (backOf (W := 0) (rmFi l Z a0 hw [] b35 (b + (1 : Int64)) T95.heap n0 Zc95 Fa_first95) hZ (hw _ (List.mem_of_getElem? (i := 77) rfl)) (hw _ (List.mem_of_getElem? (i := 28) rfl)) (by decide) (by decide)) q108a q108c (g := (mkF m 229 #[.val (.long base), .second, .val (.long raw), .second, .val (.int delta), .val (.int count), .val (.int mode), .val (.long b), .second, .val (.int (1 : Int32)), .val (.long nn), .second, .val (.ref ms), .val (.ref b2), .val (.ref b9), .val (.ref b20), .val (.ref b35), .val (.long (b + ((1 : Int32).toInt64))), .second, .val (.long (b + (1 : Int64))), .second] [(.ref b35)])) rfl (by rw [hml]; rfl) (Steps.refl _) (argsL := []) (rest := []) (lenOf pd___J rfl) rfl (by show 2 * 0 + _ ≤ _; exact Nat.le_of_eq rfl) (hb hby at_229) (fun _ _ => ⟨rfl, rfl, (by decide : 6 + 0 ≤ _), (by decide : 1040 + 0 ≤ _)⟩)
        dsimp only [Pt.U, Pt.locs, Pt.cells, Pt.slots] at X108 l108 y108 z108 st108 hQ108
        subst l108 y108 z108
        obtain ⟨rfl, Nq108, e108⟩ := hQ108
        have N108 := Fr.app N95 Nq108
        refine own_tr st108 ?_
        show own_Go p.tables e below _ (T108.setTop (mkF m 232 #[.val (.long base), .second, .val (.long raw), .second, .val (.int delta), .val (.int count), .val (.int mode), .val (.long b), .second, .val (.int (1 : Int32)), .val (.long nn), .second, .val (.ref ms), .val (.ref b2), .val (.ref b9), .val (.ref b20), .val (.ref b35), .val (.long (b + ((1 : Int32).toInt64))), .second, .val (.long (b + (1 : Int64))), .second] [(.long (b + (1 : Int64)))]))
        refine own_st (fun _ k' => XS.lload X108.here hx rfl (hb hby at_232) rfl k') ?_
        show own_Go p.tables e below _ (T108.setTop (mkF m 234 #[.val (.long base), .second, .val (.long raw), .second, .val (.int delta), .val (.int count), .val (.int mode), .val (.long b), .second, .val (.int (1 : Int32)), .val (.long nn), .second, .val (.ref ms), .val (.ref b2), .val (.ref b9), .val (.ref b20), .val (.ref b35), .val (.long (b + ((1 : Int32).toInt64))), .second, .val (.long (b + (1 : Int64))), .second] [(.long (b + (1 : Int64))), (.long (b + (1 : Int64)))]))
        refine own_st (fun _ k' => XS.lcmp X108.here hx rfl (hb hby at_234) rfl k') ?_
        show own_Go p.tables e below _ (T108.setTop (mkF m 235 #[.val (.long base), .second, .val (.long raw), .second, .val (.int delta), .val (.int count), .val (.int mode), .val (.long b), .second, .val (.int (1 : Int32)), .val (.long nn), .second, .val (.ref ms), .val (.ref b2), .val (.ref b9), .val (.ref b20), .val (.ref b35), .val (.long (b + ((1 : Int32).toInt64))), .second, .val (.long (b + (1 : Int64))), .second] [(.int (lcmpW (b + (1 : Int64)) (b + (1 : Int64))))]))
        refine own_st (fun _ k' => XS.ifYes X108.here hx rfl (pc0 := 235) (pc' := 240) rfl (hb hby at_235) rfl ((if0 _ _).trans (teq ((lw_eq (b + (1 : Int64)) (b + (1 : Int64))).mpr (by have := hbb; have := rng64 nn; have := rng64 b; have := (by decide : (1 : Int64).toInt = 1); have := c_ladd b (1 : Int64); have := rng64 (b + (1 : Int64)); have := (Int64.lt_iff_toInt_lt).mp hd0_0; refine (Int64.toInt_inj.symm).mpr ?_; omega : (b + (1 : Int64)) = (b + (1 : Int64))))).1) (by decide) (by decide) k') ?_
        show own_Go p.tables e below _ (T108.setTop (mkF m 240 #[.val (.long base), .second, .val (.long raw), .second, .val (.int delta), .val (.int count), .val (.int mode), .val (.long b), .second, .val (.int (1 : Int32)), .val (.long nn), .second, .val (.ref ms), .val (.ref b2), .val (.ref b9), .val (.ref b20), .val (.ref b35), .val (.long (b + ((1 : Int32).toInt64))), .second, .val (.long (b + (1 : Int64))), .second] []))
        refine own_st (fun _ k' => XS.aload X108.here hx rfl (hb hby at_240) rfl rfl k') ?_
        show own_Go p.tables e below _ (T108.setTop (mkF m 242 #[.val (.long base), .second, .val (.long raw), .second, .val (.int delta), .val (.int count), .val (.int mode), .val (.long b), .second, .val (.int (1 : Int32)), .val (.long nn), .second, .val (.ref ms), .val (.ref b2), .val (.ref b9), .val (.ref b20), .val (.ref b35), .val (.long (b + ((1 : Int32).toInt64))), .second, .val (.long (b + (1 : Int64))), .second] [(.ref b35)]))
        obtain ⟨cq109, kq109, q109a, q109b, q109c⟩ := isOf hZ e108 Ea95
        obtain ⟨_, _, ⟨T109, L109, k109, n109⟩, -, X109, ⟨Lc109, hQ109, l109, y109, z109⟩, st109⟩ := X108.virtualBack hx (y := (⟨"com/example/penumbra/penumbra/order/SequenceLog", "last", "()J"⟩ : MethodName)) (z := (⟨"com/example/penumbra/penumbra/order/SequenceLog", "last", "()J"⟩ : MethodName)) hown (mvT hZ (hw _ (List.mem_of_getElem? (i := 78) rfl))) (mvT hZ (hw _ (List.mem_of_getElem? (i := 63) rfl))) (notFace_of_selects (args := #[]) (mvT hZ (hw _ (List.mem_of_getElem? (i := 65) rfl)))) (mvT hZ (hw _ (List.mem_of_getElem? (i := 65) rfl))) (mvT hZ (hw _ (List.mem_of_getElem? (i := 64) rfl))) (by decide) (backOf (W := 0) (rmLa l Z a0 hw [] b35 (b + (1 : Int64)) (1 : Int32) T95.heap n0 Zc95 Fa_first95 Fa_size95) hZ (hw _ (List.mem_of_getElem? (i := 66) rfl)) (hw _ (List.mem_of_getElem? (i := 28) rfl)) (by decide) (by decide)) q109a q109c (g := (mkF m 242 #[.val (.long base), .second, .val (.long raw), .second, .val (.int delta), .val (.int count), .val (.int mode), .val (.long b), .second, .val (.int (1 : Int32)), .val (.long nn), .second, .val (.ref ms), .val (.ref b2), .val (.ref b9), .val (.ref b20), .val (.ref b35), .val (.long (b + ((1 : Int32).toInt64))), .second, .val (.long (b + (1 : Int64))), .second] [(.ref b35)])) rfl (by rw [hml]; rfl) (Steps.refl _) (argsL := []) (rest := []) (lenOf pd___J rfl) rfl (by show 2 * 0 + _ ≤ _; exact Nat.le_of_eq rfl) (hb hby at_242) (fun _ _ => ⟨rfl, e108, (by decide : 6 + 0 ≤ _), (by decide : 1040 + 0 ≤ _)⟩)
        dsimp only [Pt.U, Pt.locs, Pt.cells, Pt.slots] at X109 l109 y109 z109 st109 hQ109
        subst l109 y109 z109
        obtain ⟨rfl, Nq109, e109⟩ := hQ109
        have N109 := Fr.app N108 Nq109
        refine own_tr st109 ?_
        show own_Go p.tables e below _ (T109.setTop (mkF m 245 #[.val (.long base), .second, .val (.long raw), .second, .val (.int delta), .val (.int count), .val (.int mode), .val (.long b), .second, .val (.int (1 : Int32)), .val (.long nn), .second, .val (.ref ms), .val (.ref b2), .val (.ref b9), .val (.ref b20), .val (.ref b35), .val (.long (b + ((1 : Int32).toInt64))), .second, .val (.long (b + (1 : Int64))), .second] [(.long (((b + (1 : Int64)) + ((1 : Int32).toInt64)) - (1 : Int64)))]))
        refine own_st (fun _ k' => XS.lload X109.here hx rfl (hb hby at_245) rfl k') ?_
        show own_Go p.tables e below _ (T109.setTop (mkF m 247 #[.val (.long base), .second, .val (.long raw), .second, .val (.int delta), .val (.int count), .val (.int mode), .val (.long b), .second, .val (.int (1 : Int32)), .val (.long nn), .second, .val (.ref ms), .val (.ref b2), .val (.ref b9), .val (.ref b20), .val (.ref b35), .val (.long (b + ((1 : Int32).toInt64))), .second, .val (.long (b + (1 : Int64))), .second] [(.long (b + ((1 : Int32).toInt64))), (.long (((b + (1 : Int64)) + ((1 : Int32).toInt64)) - (1 : Int64)))]))
        refine own_st (fun _ k' => XS.lcmp X109.here hx rfl (hb hby at_247) rfl k') ?_
        show own_Go p.tables e below _ (T109.setTop (mkF m 248 #[.val (.long base), .second, .val (.long raw), .second, .val (.int delta), .val (.int count), .val (.int mode), .val (.long b), .second, .val (.int (1 : Int32)), .val (.long nn), .second, .val (.ref ms), .val (.ref b2), .val (.ref b9), .val (.ref b20), .val (.ref b35), .val (.long (b + ((1 : Int32).toInt64))), .second, .val (.long (b + (1 : Int64))), .second] [(.int (lcmpW (((b + (1 : Int64)) + ((1 : Int32).toInt64)) - (1 : Int64)) (b + ((1 : Int32).toInt64))))]))
        refine own_st (fun _ k' => XS.ifYes X109.here hx rfl (pc0 := 248) (pc' := 253) rfl (hb hby at_248) rfl ((if0 _ _).trans (teq ((lw_eq (((b + (1 : Int64)) + ((1 : Int32).toInt64)) - (1 : Int64)) (b + ((1 : Int32).toInt64))).mpr (by have := hbb; have := rng64 nn; have := rng64 b; have := (by decide : (1 : Int64).toInt = 1); have := c_ladd b (1 : Int64); have := rng64 (b + (1 : Int64)); have := (by decide : ((1 : Int32).toInt64).toInt = 1); have := c_ladd (b + (1 : Int64)) (1 : Int32).toInt64; have := rng64 ((b + (1 : Int64)) + (1 : Int32).toInt64); have := c_lsub ((b + (1 : Int64)) + (1 : Int32).toInt64) (1 : Int64); have := rng64 (((b + (1 : Int64)) + (1 : Int32).toInt64) - (1 : Int64)); have := c_ladd b (1 : Int32).toInt64; have := rng64 (b + (1 : Int32).toInt64); have := (Int64.lt_iff_toInt_lt).mp hd0_0; refine (Int64.toInt_inj.symm).mpr ?_; omega : (((b + (1 : Int64)) + ((1 : Int32).toInt64)) - (1 : Int64)) = (b + ((1 : Int32).toInt64))))).1) (by decide) (by decide) k') ?_
        show own_Go p.tables e below _ (T109.setTop (mkF m 253 #[.val (.long base), .second, .val (.long raw), .second, .val (.int delta), .val (.int count), .val (.int mode), .val (.long b), .second, .val (.int (1 : Int32)), .val (.long nn), .second, .val (.ref ms), .val (.ref b2), .val (.ref b9), .val (.ref b20), .val (.ref b35), .val (.long (b + ((1 : Int32).toInt64))), .second, .val (.long (b + (1 : Int64))), .second] []))
        refine own_st (fun _ k' => XS.lload X109.here hx rfl (hb hby at_253) rfl k') ?_
        show own_Go p.tables e below _ (T109.setTop (mkF m 255 #[.val (.long base), .second, .val (.long raw), .second, .val (.int delta), .val (.int count), .val (.int mode), .val (.long b), .second, .val (.int (1 : Int32)), .val (.long nn), .second, .val (.ref ms), .val (.ref b2), .val (.ref b9), .val (.ref b20), .val (.ref b35), .val (.long (b + ((1 : Int32).toInt64))), .second, .val (.long (b + (1 : Int64))), .second] [(.long (b + (1 : Int64)))]))
        refine own_st (fun _ k' => XS.lload X109.here hx rfl (hb hby at_255) rfl k') ?_
        show own_Go p.tables e below _ (T109.setTop (mkF m 257 #[.val (.long base), .second, .val (.long raw), .second, .val (.int delta), .val (.int count), .val (.int mode), .val (.long b), .second, .val (.int (1 : Int32)), .val (.long nn), .second, .val (.ref ms), .val (.ref b2), .val (.ref b9), .val (.ref b20), .val (.ref b35), .val (.long (b + ((1 : Int32).toInt64))), .second, .val (.long (b + (1 : Int64))), .second] [(.long (b + ((1 : Int32).toInt64))), (.long (b + (1 : Int64)))]))
        refine own_st (fun _ k' => XS.lcmp X109.here hx rfl (hb hby at_257) rfl k') ?_
        show own_Go p.tables e below _ (T109.setTop (mkF m 258 #[.val (.long base), .second, .val (.long raw), .second, .val (.int delta), .val (.int count), .val (.int mode), .val (.long b), .second, .val (.int (1 : Int32)), .val (.long nn), .second, .val (.ref ms), .val (.ref b2), .val (.ref b9), .val (.ref b20), .val (.ref b35), .val (.long (b + ((1 : Int32).toInt64))), .second, .val (.long (b + (1 : Int64))), .second] [(.int (lcmpW (b + (1 : Int64)) (b + ((1 : Int32).toInt64))))]))
        refine own_st (fun _ k' => XS.ifNo X109.here hx rfl (hb hby at_258) rfl ((if0 _ _).trans (flt (mt (lw_gt (b + (1 : Int64)) (b + ((1 : Int32).toInt64))).mp (by have := hbb; have := rng64 nn; have := rng64 b; have := (by decide : (1 : Int64).toInt = 1); have := c_ladd b (1 : Int64); have := rng64 (b + (1 : Int64)); have := (by decide : ((1 : Int32).toInt64).toInt = 1); have := c_ladd b (1 : Int32).toInt64; have := rng64 (b + (1 : Int32).toInt64); have := (Int64.lt_iff_toInt_lt).mp hd0_0; refine mt (Int64.lt_iff_toInt_lt).mp ?_; omega : ¬ (b + ((1 : Int32).toInt64)) < (b + (1 : Int64))))).2.2.1) k') ?_
        show own_Go p.tables e below _ (T109.setTop (mkF m 261 #[.val (.long base), .second, .val (.long raw), .second, .val (.int delta), .val (.int count), .val (.int mode), .val (.long b), .second, .val (.int (1 : Int32)), .val (.long nn), .second, .val (.ref ms), .val (.ref b2), .val (.ref b9), .val (.ref b20), .val (.ref b35), .val (.long (b + ((1 : Int32).toInt64))), .second, .val (.long (b + (1 : Int64))), .second] []))
        refine own_st (fun _ k' => XS.aload X109.here hx rfl (hb hby at_261) rfl rfl k') ?_
        show own_Go p.tables e below _ (T109.setTop (mkF m 263 #[.val (.long base), .second, .val (.long raw), .second, .val (.int delta), .val (.int count), .val (.int mode), .val (.long b), .second, .val (.int (1 : Int32)), .val (.long nn), .second, .val (.ref ms), .val (.ref b2), .val (.ref b9), .val (.ref b20), .val (.ref b35), .val (.long (b + ((1 : Int32).toInt64))), .second, .val (.long (b + (1 : Int64))), .second] [(.ref b35)]))
        refine own_st (fun _ k' => XS.lload X109.here hx rfl (hb hby at_263) rfl k') ?_
        show own_Go p.tables e below _ (T109.setTop (mkF m 265 #[.val (.long base), .second, .val (.long raw), .second, .val (.int delta), .val (.int count), .val (.int mode), .val (.long b), .second, .val (.int (1 : Int32)), .val (.long nn), .second, .val (.ref ms), .val (.ref b2), .val (.ref b9), .val (.ref b20), .val (.ref b35), .val (.long (b + ((1 : Int32).toInt64))), .second, .val (.long (b + (1 : Int64))), .second] [(.long (b + (1 : Int64))), (.ref b35)]))
        have hdx110 : (((0 : Int32).toInt64 + (b + (1 : Int64))) - (b + (1 : Int64))) = (0 : Int64) := (by have := hbb; have := rng64 nn; have := rng64 b; have := (by decide : (1 : Int64).toInt = 1); have := c_ladd b (1 : Int64); have := rng64 (b + (1 : Int64)); have := (by decide : ((0 : Int32).toInt64).toInt = 0); have := c_ladd (0 : Int32).toInt64 (b + (1 : Int64)); have := rng64 ((0 : Int32).toInt64 + (b + (1 : Int64))); have := c_lsub ((0 : Int32).toInt64 + (b + (1 : Int64))) (b + (1 : Int64)); have := rng64 (((0 : Int32).toInt64 + (b + (1 : Int64))) - (b + (1 : Int64))); have := (by decide : (0 : Int64).toInt = 0); have := (Int64.lt_iff_toInt_lt).mp hd0_0; refine (Int64.toInt_inj.symm).mpr ?_; omega : (((0 : Int32).toInt64 + (b + (1 : Int64))) - (b + (1 : Int64))) = (0 : Int64))
        obtain ⟨cq111, kq111, q111a, q111b, q111c⟩ := isOf hZ e109 Ea95
        obtain ⟨_, _, ⟨T111, L111, k111, n111⟩, -, X111, ⟨Lc111, hQ111, l111, y111, z111⟩, st111⟩ := X109.virtualBack hx (y := (⟨"com/example/penumbra/penumbra/order/SequenceLog", "get", "(J)Lcom/example/penumbra/penumbra/order/SequenceLog$Entry;"⟩ : MethodName)) (z := (⟨"com/example/penumbra/penumbra/order/SequenceLog", "get", "(J)Lcom/example/penumbra/penumbra/order/SequenceLog$Entry;"⟩ : MethodName)) hown (mvT hZ (hw _ (List.mem_of_getElem? (i := 79) rfl))) (mvT hZ (hw _ (List.mem_of_getElem? (i := 80) rfl))) (notFace_of_selects (args := #[]) (mvT hZ (hw _ (List.mem_of_getElem? (i := 82) rfl)))) (mvT hZ (hw _ (List.mem_of_getElem? (i := 82) rfl))) (mvT hZ (hw _ (List.mem_of_getElem? (i := 81) rfl))) (by decide) (backOf (W := 0) (rmG l Z a0 hw [] b35 (b + (1 : Int64)) (b + (1 : Int64)) (0 : Int32) (1 : Int32) rg kk (.ref b2) .null .null (0 : Int32) b2 T95.heap n0 Zc95 Ea95 Fa_ring95 Fa_first95 Fa_head95 Fa_size95 Va95 OV (by have := hbb; have := rng64 nn; have := rng64 b; have := (by decide : (1 : Int64).toInt = 1); have := c_ladd b (1 : Int64); have := rng64 (b + (1 : Int64)); have := (Int64.lt_iff_toInt_lt).mp hd0_0; refine mt (Int64.lt_iff_toInt_lt).mp ?_; omega : ¬ (b + (1 : Int64)) < (b + (1 : Int64))) (by have := hbb; have := rng64 nn; have := rng64 b; have := (by decide : (1 : Int64).toInt = 1); have := c_ladd b (1 : Int64); have := rng64 (b + (1 : Int64)); have := (by decide : ((1 : Int32).toInt64).toInt = 1); have := c_ladd (b + (1 : Int64)) (1 : Int32).toInt64; have := rng64 ((b + (1 : Int64)) + (1 : Int32).toInt64); have := c_lsub ((b + (1 : Int64)) + (1 : Int32).toInt64) (1 : Int64); have := rng64 (((b + (1 : Int64)) + (1 : Int32).toInt64) - (1 : Int64)); have := (Int64.lt_iff_toInt_lt).mp hd0_0; refine mt (Int64.lt_iff_toInt_lt).mp ?_; omega : ¬ (((b + (1 : Int64)) + ((1 : Int32).toInt64)) - (1 : Int64)) < (b + (1 : Int64))) (by rw [hdx110]; decide) (by decide) (by decide) rfl) hZ (hw _ (List.mem_of_getElem? (i := 83) rfl)) (hw _ (List.mem_of_getElem? (i := 28) rfl)) (by decide) (by decide)) q111a q111c (g := (mkF m 265 #[.val (.long base), .second, .val (.long raw), .second, .val (.int delta), .val (.int count), .val (.int mode), .val (.long b), .second, .val (.int (1 : Int32)), .val (.long nn), .second, .val (.ref ms), .val (.ref b2), .val (.ref b9), .val (.ref b20), .val (.ref b35), .val (.long (b + ((1 : Int32).toInt64))), .second, .val (.long (b + (1 : Int64))), .second] [(.long (b + (1 : Int64))), (.ref b35)])) rfl (by rw [hml]; rfl) (Steps.refl _) (argsL := [(.long (b + (1 : Int64)))]) (rest := []) (lenOf pd__J_Lcom_example_penumbra_penumbra_order_SequenceLog_Entry_ rfl) rfl (by show 2 * 0 + _ ≤ _; exact Nat.le_of_eq rfl) (hb hby at_265) (fun _ _ => ⟨rfl, e109, (by decide : 6 + 0 ≤ _), (by decide : 1040 + 0 ≤ _)⟩)
        dsimp only [Pt.U, Pt.locs, Pt.cells, Pt.slots] at X111 l111 y111 z111 st111 hQ111
        subst l111 y111 z111
        obtain ⟨rfl, Nq111, e111⟩ := hQ111
        have N111 := Fr.app N109 Nq111
        refine own_tr st111 ?_
        show own_Go p.tables e below _ (T111.setTop (mkF m 268 #[.val (.long base), .second, .val (.long raw), .second, .val (.int delta), .val (.int count), .val (.int mode), .val (.long b), .second, .val (.int (1 : Int32)), .val (.long nn), .second, .val (.ref ms), .val (.ref b2), .val (.ref b9), .val (.ref b20), .val (.ref b35), .val (.long (b + ((1 : Int32).toInt64))), .second, .val (.long (b + (1 : Int64))), .second] [(.ref b2)]))
        refine own_st (fun _ k' => XS.lload X111.here hx rfl (hb hby at_268) rfl k') ?_
        show own_Go p.tables e below _ (T111.setTop (mkF m 270 #[.val (.long base), .second, .val (.long raw), .second, .val (.int delta), .val (.int count), .val (.int mode), .val (.long b), .second, .val (.int (1 : Int32)), .val (.long nn), .second, .val (.ref ms), .val (.ref b2), .val (.ref b9), .val (.ref b20), .val (.ref b35), .val (.long (b + ((1 : Int32).toInt64))), .second, .val (.long (b + (1 : Int64))), .second] [(.long (b + (1 : Int64))), (.ref b2)]))
        refine own_st (fun _ k' => XS.lload X111.here hx rfl (hb hby at_270) rfl k') ?_
        show own_Go p.tables e below _ (T111.setTop (mkF m 272 #[.val (.long base), .second, .val (.long raw), .second, .val (.int delta), .val (.int count), .val (.int mode), .val (.long b), .second, .val (.int (1 : Int32)), .val (.long nn), .second, .val (.ref ms), .val (.ref b2), .val (.ref b9), .val (.ref b20), .val (.ref b35), .val (.long (b + ((1 : Int32).toInt64))), .second, .val (.long (b + (1 : Int64))), .second] [(.long b), (.long (b + (1 : Int64))), (.ref b2)]))
        refine own_st (fun _ k' => XS.lsub X111.here hx rfl (hb hby at_272) rfl k') ?_
        show own_Go p.tables e below _ (T111.setTop (mkF m 273 #[.val (.long base), .second, .val (.long raw), .second, .val (.int delta), .val (.int count), .val (.int mode), .val (.long b), .second, .val (.int (1 : Int32)), .val (.long nn), .second, .val (.ref ms), .val (.ref b2), .val (.ref b9), .val (.ref b20), .val (.ref b35), .val (.long (b + ((1 : Int32).toInt64))), .second, .val (.long (b + (1 : Int64))), .second] [(.long ((b + (1 : Int64)) - b)), (.ref b2)]))
        refine own_st (fun _ k' => XS.aload X111.here hx rfl (hb hby at_273) rfl rfl k') ?_
        show own_Go p.tables e below _ (T111.setTop (mkF m 275 #[.val (.long base), .second, .val (.long raw), .second, .val (.int delta), .val (.int count), .val (.int mode), .val (.long b), .second, .val (.int (1 : Int32)), .val (.long nn), .second, .val (.ref ms), .val (.ref b2), .val (.ref b9), .val (.ref b20), .val (.ref b35), .val (.long (b + ((1 : Int32).toInt64))), .second, .val (.long (b + (1 : Int64))), .second] [(.ref b2), (.long ((b + (1 : Int64)) - b)), (.ref b2)]))
        refine own_st (fun _ k' => XS.aload X111.here hx rfl (hb hby at_275) rfl rfl k') ?_
        show own_Go p.tables e below _ (T111.setTop (mkF m 277 #[.val (.long base), .second, .val (.long raw), .second, .val (.int delta), .val (.int count), .val (.int mode), .val (.long b), .second, .val (.int (1 : Int32)), .val (.long nn), .second, .val (.ref ms), .val (.ref b2), .val (.ref b9), .val (.ref b20), .val (.ref b35), .val (.long (b + ((1 : Int32).toInt64))), .second, .val (.long (b + (1 : Int64))), .second] [(.ref b9), (.ref b2), (.long ((b + (1 : Int64)) - b)), (.ref b2)]))
        refine own_st (fun _ k' => XS.aload X111.here hx rfl (hb hby at_277) rfl rfl k') ?_
        show own_Go p.tables e below _ (T111.setTop (mkF m 279 #[.val (.long base), .second, .val (.long raw), .second, .val (.int delta), .val (.int count), .val (.int mode), .val (.long b), .second, .val (.int (1 : Int32)), .val (.long nn), .second, .val (.ref ms), .val (.ref b2), .val (.ref b9), .val (.ref b20), .val (.ref b35), .val (.long (b + ((1 : Int32).toInt64))), .second, .val (.long (b + (1 : Int64))), .second] [(.ref b20), (.ref b9), (.ref b2), (.long ((b + (1 : Int64)) - b)), (.ref b2)]))
        have hpk112 : own_pk ((b + (1 : Int64)) - b) b2 b9 b20 = b2 := by
          have e : ((b + (1 : Int64)) - b) = (1 : Int64) := (by have := hbb; have := rng64 nn; have := rng64 b; have := (by decide : (1 : Int64).toInt = 1); have := c_ladd b (1 : Int64); have := rng64 (b + (1 : Int64)); have := c_lsub (b + (1 : Int64)) b; have := rng64 ((b + (1 : Int64)) - b); have := (Int64.lt_iff_toInt_lt).mp hd0_0; refine (Int64.toInt_inj.symm).mpr ?_; omega : ((b + (1 : Int64)) - b) = (1 : Int64))
          rw [e]; rfl
        obtain ⟨_, _, ⟨T113, L113, k113, n113⟩, -, X113, ⟨Lc113, hQ113, l113, y113, z113⟩, st113⟩ := Jvm.LawKit.callS X111 hx (y := (⟨"com/example/penumbra/penumbra/order/SequenceLogDropUpToPinLaw", "pick", "(JLcom/example/penumbra/penumbra/order/SequenceLog$Entry;Lcom/example/penumbra/penumbra/order/SequenceLog$Entry;Lcom/example/penumbra/penumbra/order/SequenceLog$Entry;)Lcom/example/penumbra/penumbra/order/SequenceLog$Entry;"⟩ : MethodName)) hown (mvT hZ (hw _ (List.mem_of_getElem? (i := 84) rfl))) (mvT hZ (hw _ (List.mem_of_getElem? (i := 85) rfl))) (mvT hZ (hw _ (List.mem_of_getElem? (i := 86) rfl))) (mvT hZ (hw _ (List.mem_of_getElem? (i := 87) rfl))) (by decide) (backOf (W := 1) (rmK l Z a0 hw [] ((b + (1 : Int64)) - b) b2 b9 b20 T95.heap n0 Zc95 ) hZ (hw _ (List.mem_of_getElem? (i := 87) rfl)) (hw _ (List.mem_of_getElem? (i := 86) rfl)) (by decide) (by decide)) (g := (mkF m 279 #[.val (.long base), .second, .val (.long raw), .second, .val (.int delta), .val (.int count), .val (.int mode), .val (.long b), .second, .val (.int (1 : Int32)), .val (.long nn), .second, .val (.ref ms), .val (.ref b2), .val (.ref b9), .val (.ref b20), .val (.ref b35), .val (.long (b + ((1 : Int32).toInt64))), .second, .val (.long (b + (1 : Int64))), .second] [(.ref b20), (.ref b9), (.ref b2), (.long ((b + (1 : Int64)) - b)), (.ref b2)])) rfl (by rw [hml]; rfl) (argsL := [(.long ((b + (1 : Int64)) - b)), (.ref b2), (.ref b9), (.ref b20)]) (rest := [(.ref b2)]) (lenOf pd__JLcom_example_penumbra_penumbra_order_SequenceLog_Entry_Lcom_example_penumbra_penumbra_order_SequenceLog_Entry_Lcom_example_penumbra_penumbra_order_SequenceLog_Entry__Lcom_example_penumbra_penumbra_order_SequenceLog_Entry_ rfl) rfl (by show 2 * 0 + _ ≤ _; exact Nat.le_of_eq rfl) (hb hby at_279) (fun _ _ => ⟨rfl, e111, (by decide : 6 + 0 ≤ _), (by decide : 1040 + 0 ≤ _)⟩)
        dsimp only [Pt.U, Pt.locs, Pt.cells, Pt.slots] at X113 l113 y113 z113 st113 hQ113
        subst l113 y113 z113
        rw [Q_rmK, hpk112] at hQ113
        obtain ⟨rfl, Nq113, e113⟩ := hQ113
        have N113 := Fr.app N111 Nq113
        refine own_st st113 ?_
        show own_Go p.tables e below _ (T113.setTop (mkF m 282 #[.val (.long base), .second, .val (.long raw), .second, .val (.int delta), .val (.int count), .val (.int mode), .val (.long b), .second, .val (.int (1 : Int32)), .val (.long nn), .second, .val (.ref ms), .val (.ref b2), .val (.ref b9), .val (.ref b20), .val (.ref b35), .val (.long (b + ((1 : Int32).toInt64))), .second, .val (.long (b + (1 : Int64))), .second] [(.ref b2), (.ref b2)]))
        refine own_st (fun _ k' => Jvm.RoadKit.acmp (g := (mkF m 282 #[.val (.long base), .second, .val (.long raw), .second, .val (.int delta), .val (.int count), .val (.int mode), .val (.long b), .second, .val (.int (1 : Int32)), .val (.long nn), .second, .val (.ref ms), .val (.ref b2), .val (.ref b9), .val (.ref b20), .val (.ref b35), .val (.long (b + ((1 : Int32).toInt64))), .second, .val (.long (b + (1 : Int64))), .second] [(.ref b2), (.ref b2)])) X113 hx rfl rfl rfl (pc0 := 282) (pc' := 287) (same := true) rfl (hb hby at_282) rfl (decide_eq_true rfl) (by decide) (by decide) k') ?_
        show own_Go p.tables e below _ (T113.setTop (mkF m 287 #[.val (.long base), .second, .val (.long raw), .second, .val (.int delta), .val (.int count), .val (.int mode), .val (.long b), .second, .val (.int (1 : Int32)), .val (.long nn), .second, .val (.ref ms), .val (.ref b2), .val (.ref b9), .val (.ref b20), .val (.ref b35), .val (.long (b + ((1 : Int32).toInt64))), .second, .val (.long (b + (1 : Int64))), .second] []))
        refine own_st (fun _ k' => XS.aload X113.here hx rfl (hb hby at_287) rfl rfl k') ?_
        show own_Go p.tables e below _ (T113.setTop (mkF m 289 #[.val (.long base), .second, .val (.long raw), .second, .val (.int delta), .val (.int count), .val (.int mode), .val (.long b), .second, .val (.int (1 : Int32)), .val (.long nn), .second, .val (.ref ms), .val (.ref b2), .val (.ref b9), .val (.ref b20), .val (.ref b35), .val (.long (b + ((1 : Int32).toInt64))), .second, .val (.long (b + (1 : Int64))), .second] [(.ref b35)]))
        refine own_st (fun _ k' => XS.lload X113.here hx rfl (hb hby at_289) rfl k') ?_
        show own_Go p.tables e below _ (T113.setTop (mkF m 291 #[.val (.long base), .second, .val (.long raw), .second, .val (.int delta), .val (.int count), .val (.int mode), .val (.long b), .second, .val (.int (1 : Int32)), .val (.long nn), .second, .val (.ref ms), .val (.ref b2), .val (.ref b9), .val (.ref b20), .val (.ref b35), .val (.long (b + ((1 : Int32).toInt64))), .second, .val (.long (b + (1 : Int64))), .second] [(.long (b + ((1 : Int32).toInt64))), (.ref b35)]))
        have hdx114 : (((0 : Int32).toInt64 + (b + ((1 : Int32).toInt64))) - (b + (1 : Int64))) = (0 : Int64) := (by have := hbb; have := rng64 nn; have := rng64 b; have := (by decide : (1 : Int64).toInt = 1); have := c_ladd b (1 : Int64); have := rng64 (b + (1 : Int64)); have := (by decide : ((0 : Int32).toInt64).toInt = 0); have := (by decide : ((1 : Int32).toInt64).toInt = 1); have := c_ladd b (1 : Int32).toInt64; have := rng64 (b + (1 : Int32).toInt64); have := c_ladd (0 : Int32).toInt64 (b + (1 : Int32).toInt64); have := rng64 ((0 : Int32).toInt64 + (b + (1 : Int32).toInt64)); have := c_lsub ((0 : Int32).toInt64 + (b + (1 : Int32).toInt64)) (b + (1 : Int64)); have := rng64 (((0 : Int32).toInt64 + (b + (1 : Int32).toInt64)) - (b + (1 : Int64))); have := (by decide : (0 : Int64).toInt = 0); have := (Int64.lt_iff_toInt_lt).mp hd0_0; refine (Int64.toInt_inj.symm).mpr ?_; omega : (((0 : Int32).toInt64 + (b + ((1 : Int32).toInt64))) - (b + (1 : Int64))) = (0 : Int64))
        obtain ⟨cq115, kq115, q115a, q115b, q115c⟩ := isOf hZ e113 Ea95
        obtain ⟨_, _, ⟨T115, L115, k115, n115⟩, -, X115, ⟨Lc115, hQ115, l115, y115, z115⟩, st115⟩ := X113.virtualBack hx (y := (⟨"com/example/penumbra/penumbra/order/SequenceLog", "get", "(J)Lcom/example/penumbra/penumbra/order/SequenceLog$Entry;"⟩ : MethodName)) (z := (⟨"com/example/penumbra/penumbra/order/SequenceLog", "get", "(J)Lcom/example/penumbra/penumbra/order/SequenceLog$Entry;"⟩ : MethodName)) hown (mvT hZ (hw _ (List.mem_of_getElem? (i := 79) rfl))) (mvT hZ (hw _ (List.mem_of_getElem? (i := 80) rfl))) (notFace_of_selects (args := #[]) (mvT hZ (hw _ (List.mem_of_getElem? (i := 82) rfl)))) (mvT hZ (hw _ (List.mem_of_getElem? (i := 82) rfl))) (mvT hZ (hw _ (List.mem_of_getElem? (i := 81) rfl))) (by decide) (backOf (W := 0) (rmG l Z a0 hw [] b35 (b + ((1 : Int32).toInt64)) (b + (1 : Int64)) (0 : Int32) (1 : Int32) rg kk (.ref b2) .null .null (0 : Int32) b2 T95.heap n0 Zc95 Ea95 Fa_ring95 Fa_first95 Fa_head95 Fa_size95 Va95 OV (by have := hbb; have := rng64 nn; have := rng64 b; have := (by decide : (1 : Int64).toInt = 1); have := c_ladd b (1 : Int64); have := rng64 (b + (1 : Int64)); have := (by decide : ((1 : Int32).toInt64).toInt = 1); have := c_ladd b (1 : Int32).toInt64; have := rng64 (b + (1 : Int32).toInt64); have := (Int64.lt_iff_toInt_lt).mp hd0_0; refine mt (Int64.lt_iff_toInt_lt).mp ?_; omega : ¬ (b + ((1 : Int32).toInt64)) < (b + (1 : Int64))) (by have := hbb; have := rng64 nn; have := rng64 b; have := (by decide : (1 : Int64).toInt = 1); have := c_ladd b (1 : Int64); have := rng64 (b + (1 : Int64)); have := (by decide : ((1 : Int32).toInt64).toInt = 1); have := c_ladd (b + (1 : Int64)) (1 : Int32).toInt64; have := rng64 ((b + (1 : Int64)) + (1 : Int32).toInt64); have := c_lsub ((b + (1 : Int64)) + (1 : Int32).toInt64) (1 : Int64); have := rng64 (((b + (1 : Int64)) + (1 : Int32).toInt64) - (1 : Int64)); have := c_ladd b (1 : Int32).toInt64; have := rng64 (b + (1 : Int32).toInt64); have := (Int64.lt_iff_toInt_lt).mp hd0_0; refine mt (Int64.lt_iff_toInt_lt).mp ?_; omega : ¬ (((b + (1 : Int64)) + ((1 : Int32).toInt64)) - (1 : Int64)) < (b + ((1 : Int32).toInt64))) (by rw [hdx114]; decide) (by decide) (by decide) rfl) hZ (hw _ (List.mem_of_getElem? (i := 83) rfl)) (hw _ (List.mem_of_getElem? (i := 28) rfl)) (by decide) (by decide)) q115a q115c (g := (mkF m 291 #[.val (.long base), .second, .val (.long raw), .second, .val (.int delta), .val (.int count), .val (.int mode), .val (.long b), .second, .val (.int (1 : Int32)), .val (.long nn), .second, .val (.ref ms), .val (.ref b2), .val (.ref b9), .val (.ref b20), .val (.ref b35), .val (.long (b + ((1 : Int32).toInt64))), .second, .val (.long (b + (1 : Int64))), .second] [(.long (b + ((1 : Int32).toInt64))), (.ref b35)])) rfl (by rw [hml]; rfl) (Steps.refl _) (argsL := [(.long (b + ((1 : Int32).toInt64)))]) (rest := []) (lenOf pd__J_Lcom_example_penumbra_penumbra_order_SequenceLog_Entry_ rfl) rfl (by show 2 * 0 + _ ≤ _; exact Nat.le_of_eq rfl) (hb hby at_291) (fun _ _ => ⟨rfl, e113, (by decide : 6 + 0 ≤ _), (by decide : 1040 + 0 ≤ _)⟩)
        dsimp only [Pt.U, Pt.locs, Pt.cells, Pt.slots] at X115 l115 y115 z115 st115 hQ115
        subst l115 y115 z115
        obtain ⟨rfl, Nq115, e115⟩ := hQ115
        have N115 := Fr.app N113 Nq115
        refine own_tr st115 ?_
        show own_Go p.tables e below _ (T115.setTop (mkF m 294 #[.val (.long base), .second, .val (.long raw), .second, .val (.int delta), .val (.int count), .val (.int mode), .val (.long b), .second, .val (.int (1 : Int32)), .val (.long nn), .second, .val (.ref ms), .val (.ref b2), .val (.ref b9), .val (.ref b20), .val (.ref b35), .val (.long (b + ((1 : Int32).toInt64))), .second, .val (.long (b + (1 : Int64))), .second] [(.ref b2)]))
        refine own_st (fun _ k' => XS.iload X115.here hx rfl (hb hby at_294) rfl k') ?_
        show own_Go p.tables e below _ (T115.setTop (mkF m 296 #[.val (.long base), .second, .val (.long raw), .second, .val (.int delta), .val (.int count), .val (.int mode), .val (.long b), .second, .val (.int (1 : Int32)), .val (.long nn), .second, .val (.ref ms), .val (.ref b2), .val (.ref b9), .val (.ref b20), .val (.ref b35), .val (.long (b + ((1 : Int32).toInt64))), .second, .val (.long (b + (1 : Int64))), .second] [(.int (1 : Int32)), (.ref b2)]))
        refine own_st (fun _ k' => XS.i2l X115.here hx rfl (hb hby at_296) rfl k') ?_
        show own_Go p.tables e below _ (T115.setTop (mkF m 297 #[.val (.long base), .second, .val (.long raw), .second, .val (.int delta), .val (.int count), .val (.int mode), .val (.long b), .second, .val (.int (1 : Int32)), .val (.long nn), .second, .val (.ref ms), .val (.ref b2), .val (.ref b9), .val (.ref b20), .val (.ref b35), .val (.long (b + ((1 : Int32).toInt64))), .second, .val (.long (b + (1 : Int64))), .second] [(.long ((1 : Int32).toInt64)), (.ref b2)]))
        refine own_st (fun _ k' => XS.aload X115.here hx rfl (hb hby at_297) rfl rfl k') ?_
        show own_Go p.tables e below _ (T115.setTop (mkF m 299 #[.val (.long base), .second, .val (.long raw), .second, .val (.int delta), .val (.int count), .val (.int mode), .val (.long b), .second, .val (.int (1 : Int32)), .val (.long nn), .second, .val (.ref ms), .val (.ref b2), .val (.ref b9), .val (.ref b20), .val (.ref b35), .val (.long (b + ((1 : Int32).toInt64))), .second, .val (.long (b + (1 : Int64))), .second] [(.ref b2), (.long ((1 : Int32).toInt64)), (.ref b2)]))
        refine own_st (fun _ k' => XS.aload X115.here hx rfl (hb hby at_299) rfl rfl k') ?_
        show own_Go p.tables e below _ (T115.setTop (mkF m 301 #[.val (.long base), .second, .val (.long raw), .second, .val (.int delta), .val (.int count), .val (.int mode), .val (.long b), .second, .val (.int (1 : Int32)), .val (.long nn), .second, .val (.ref ms), .val (.ref b2), .val (.ref b9), .val (.ref b20), .val (.ref b35), .val (.long (b + ((1 : Int32).toInt64))), .second, .val (.long (b + (1 : Int64))), .second] [(.ref b9), (.ref b2), (.long ((1 : Int32).toInt64)), (.ref b2)]))
        refine own_st (fun _ k' => XS.aload X115.here hx rfl (hb hby at_301) rfl rfl k') ?_
        show own_Go p.tables e below _ (T115.setTop (mkF m 303 #[.val (.long base), .second, .val (.long raw), .second, .val (.int delta), .val (.int count), .val (.int mode), .val (.long b), .second, .val (.int (1 : Int32)), .val (.long nn), .second, .val (.ref ms), .val (.ref b2), .val (.ref b9), .val (.ref b20), .val (.ref b35), .val (.long (b + ((1 : Int32).toInt64))), .second, .val (.long (b + (1 : Int64))), .second] [(.ref b20), (.ref b9), (.ref b2), (.long ((1 : Int32).toInt64)), (.ref b2)]))
        have hpk116 : own_pk ((1 : Int32).toInt64) b2 b9 b20 = b2 := by
          have e : ((1 : Int32).toInt64) = (1 : Int64) := (by have := hbb; have := rng64 nn; have := rng64 b; have := (by decide : (1 : Int64).toInt = 1); have := c_ladd b (1 : Int64); have := rng64 (b + (1 : Int64)); have := (by decide : ((1 : Int32).toInt64).toInt = 1); have := (Int64.lt_iff_toInt_lt).mp hd0_0; refine (Int64.toInt_inj.symm).mpr ?_; omega : ((1 : Int32).toInt64) = (1 : Int64))
          rw [e]; rfl
        obtain ⟨_, _, ⟨T117, L117, k117, n117⟩, -, X117, ⟨Lc117, hQ117, l117, y117, z117⟩, st117⟩ := Jvm.LawKit.callS X115 hx (y := (⟨"com/example/penumbra/penumbra/order/SequenceLogDropUpToPinLaw", "pick", "(JLcom/example/penumbra/penumbra/order/SequenceLog$Entry;Lcom/example/penumbra/penumbra/order/SequenceLog$Entry;Lcom/example/penumbra/penumbra/order/SequenceLog$Entry;)Lcom/example/penumbra/penumbra/order/SequenceLog$Entry;"⟩ : MethodName)) hown (mvT hZ (hw _ (List.mem_of_getElem? (i := 84) rfl))) (mvT hZ (hw _ (List.mem_of_getElem? (i := 85) rfl))) (mvT hZ (hw _ (List.mem_of_getElem? (i := 86) rfl))) (mvT hZ (hw _ (List.mem_of_getElem? (i := 87) rfl))) (by decide) (backOf (W := 1) (rmK l Z a0 hw [] ((1 : Int32).toInt64) b2 b9 b20 T95.heap n0 Zc95 ) hZ (hw _ (List.mem_of_getElem? (i := 87) rfl)) (hw _ (List.mem_of_getElem? (i := 86) rfl)) (by decide) (by decide)) (g := (mkF m 303 #[.val (.long base), .second, .val (.long raw), .second, .val (.int delta), .val (.int count), .val (.int mode), .val (.long b), .second, .val (.int (1 : Int32)), .val (.long nn), .second, .val (.ref ms), .val (.ref b2), .val (.ref b9), .val (.ref b20), .val (.ref b35), .val (.long (b + ((1 : Int32).toInt64))), .second, .val (.long (b + (1 : Int64))), .second] [(.ref b20), (.ref b9), (.ref b2), (.long ((1 : Int32).toInt64)), (.ref b2)])) rfl (by rw [hml]; rfl) (argsL := [(.long ((1 : Int32).toInt64)), (.ref b2), (.ref b9), (.ref b20)]) (rest := [(.ref b2)]) (lenOf pd__JLcom_example_penumbra_penumbra_order_SequenceLog_Entry_Lcom_example_penumbra_penumbra_order_SequenceLog_Entry_Lcom_example_penumbra_penumbra_order_SequenceLog_Entry__Lcom_example_penumbra_penumbra_order_SequenceLog_Entry_ rfl) rfl (by show 2 * 0 + _ ≤ _; exact Nat.le_of_eq rfl) (hb hby at_303) (fun _ _ => ⟨rfl, e115, (by decide : 6 + 0 ≤ _), (by decide : 1040 + 0 ≤ _)⟩)
        dsimp only [Pt.U, Pt.locs, Pt.cells, Pt.slots] at X117 l117 y117 z117 st117 hQ117
        subst l117 y117 z117
        rw [Q_rmK, hpk116] at hQ117
        obtain ⟨rfl, Nq117, e117⟩ := hQ117
        have N117 := Fr.app N115 Nq117
        refine own_st st117 ?_
        show own_Go p.tables e below _ (T117.setTop (mkF m 306 #[.val (.long base), .second, .val (.long raw), .second, .val (.int delta), .val (.int count), .val (.int mode), .val (.long b), .second, .val (.int (1 : Int32)), .val (.long nn), .second, .val (.ref ms), .val (.ref b2), .val (.ref b9), .val (.ref b20), .val (.ref b35), .val (.long (b + ((1 : Int32).toInt64))), .second, .val (.long (b + (1 : Int64))), .second] [(.ref b2), (.ref b2)]))
        refine own_st (fun _ k' => Jvm.RoadKit.acmp (g := (mkF m 306 #[.val (.long base), .second, .val (.long raw), .second, .val (.int delta), .val (.int count), .val (.int mode), .val (.long b), .second, .val (.int (1 : Int32)), .val (.long nn), .second, .val (.ref ms), .val (.ref b2), .val (.ref b9), .val (.ref b20), .val (.ref b35), .val (.long (b + ((1 : Int32).toInt64))), .second, .val (.long (b + (1 : Int64))), .second] [(.ref b2), (.ref b2)])) X117 hx rfl rfl rfl (pc0 := 306) (pc' := 311) (same := true) rfl (hb hby at_306) rfl (decide_eq_true rfl) (by decide) (by decide) k') ?_
        show own_Go p.tables e below _ (T117.setTop (mkF m 311 #[.val (.long base), .second, .val (.long raw), .second, .val (.int delta), .val (.int count), .val (.int mode), .val (.long b), .second, .val (.int (1 : Int32)), .val (.long nn), .second, .val (.ref ms), .val (.ref b2), .val (.ref b9), .val (.ref b20), .val (.ref b35), .val (.long (b + ((1 : Int32).toInt64))), .second, .val (.long (b + (1 : Int64))), .second] []))
        refine own_st (fun _ k' => XS.iconst X117.here hx rfl (hb hby at_311) k') ?_
        show own_Go p.tables e below _ (T117.setTop (mkF m 312 #[.val (.long base), .second, .val (.long raw), .second, .val (.int delta), .val (.int count), .val (.int mode), .val (.long b), .second, .val (.int (1 : Int32)), .val (.long nn), .second, .val (.ref ms), .val (.ref b2), .val (.ref b9), .val (.ref b20), .val (.ref b35), .val (.long (b + ((1 : Int32).toInt64))), .second, .val (.long (b + (1 : Int64))), .second] [(.int (1 : Int32))]))
        exact own_retN X117 hx (t := .boolean) Bd.returns (by simp) (hb hby at_312) Bd.notSynchronized ⟨rfl, N117⟩ (by decide) (by decide)
      ·  -- 1 dropped of 1
        refine own_tr st95 ?_
        show own_Go p.tables e below _ (T95.setTop (mkF m 165 #[.val (.long base), .second, .val (.long raw), .second, .val (.int delta), .val (.int count), .val (.int mode), .val (.long b), .second, .val (.int (1 : Int32)), .val (.long nn), .second, .val (.ref ms), .val (.ref b2), .val (.ref b9), .val (.ref b20), .val (.ref b35), .unset, .unset, .unset, .unset] []))
        refine own_st (fun _ k' => XS.lload X95.here hx rfl (hb hby at_165) rfl k') ?_
        show own_Go p.tables e below _ (T95.setTop (mkF m 167 #[.val (.long base), .second, .val (.long raw), .second, .val (.int delta), .val (.int count), .val (.int mode), .val (.long b), .second, .val (.int (1 : Int32)), .val (.long nn), .second, .val (.ref ms), .val (.ref b2), .val (.ref b9), .val (.ref b20), .val (.ref b35), .unset, .unset, .unset, .unset] [(.long b)]))
        refine own_st (fun _ k' => XS.iload X95.here hx rfl (hb hby at_167) rfl k') ?_
        show own_Go p.tables e below _ (T95.setTop (mkF m 169 #[.val (.long base), .second, .val (.long raw), .second, .val (.int delta), .val (.int count), .val (.int mode), .val (.long b), .second, .val (.int (1 : Int32)), .val (.long nn), .second, .val (.ref ms), .val (.ref b2), .val (.ref b9), .val (.ref b20), .val (.ref b35), .unset, .unset, .unset, .unset] [(.int (1 : Int32)), (.long b)]))
        refine own_st (fun _ k' => XS.i2l X95.here hx rfl (hb hby at_169) rfl k') ?_
        show own_Go p.tables e below _ (T95.setTop (mkF m 170 #[.val (.long base), .second, .val (.long raw), .second, .val (.int delta), .val (.int count), .val (.int mode), .val (.long b), .second, .val (.int (1 : Int32)), .val (.long nn), .second, .val (.ref ms), .val (.ref b2), .val (.ref b9), .val (.ref b20), .val (.ref b35), .unset, .unset, .unset, .unset] [(.long ((1 : Int32).toInt64)), (.long b)]))
        refine own_st (fun _ k' => XS.ladd X95.here hx rfl (hb hby at_170) rfl k') ?_
        show own_Go p.tables e below _ (T95.setTop (mkF m 171 #[.val (.long base), .second, .val (.long raw), .second, .val (.int delta), .val (.int count), .val (.int mode), .val (.long b), .second, .val (.int (1 : Int32)), .val (.long nn), .second, .val (.ref ms), .val (.ref b2), .val (.ref b9), .val (.ref b20), .val (.ref b35), .unset, .unset, .unset, .unset] [(.long (b + ((1 : Int32).toInt64)))]))
        refine own_st (fun _ k' => XS.lstore X95.here hx rfl (hb hby at_171) rfl (l' := #[.val (.long base), .second, .val (.long raw), .second, .val (.int delta), .val (.int count), .val (.int mode), .val (.long b), .second, .val (.int (1 : Int32)), .val (.long nn), .second, .val (.ref ms), .val (.ref b2), .val (.ref b9), .val (.ref b20), .val (.ref b35), .val (.long (b + ((1 : Int32).toInt64))), .second, .unset, .unset]) rfl k') ?_
        show own_Go p.tables e below _ (T95.setTop (mkF m 173 #[.val (.long base), .second, .val (.long raw), .second, .val (.int delta), .val (.int count), .val (.int mode), .val (.long b), .second, .val (.int (1 : Int32)), .val (.long nn), .second, .val (.ref ms), .val (.ref b2), .val (.ref b9), .val (.ref b20), .val (.ref b35), .val (.long (b + ((1 : Int32).toInt64))), .second, .unset, .unset] []))
        refine own_st (fun _ k' => XS.iload X95.here hx rfl (hb hby at_173) rfl k') ?_
        show own_Go p.tables e below _ (T95.setTop (mkF m 175 #[.val (.long base), .second, .val (.long raw), .second, .val (.int delta), .val (.int count), .val (.int mode), .val (.long b), .second, .val (.int (1 : Int32)), .val (.long nn), .second, .val (.ref ms), .val (.ref b2), .val (.ref b9), .val (.ref b20), .val (.ref b35), .val (.long (b + ((1 : Int32).toInt64))), .second, .unset, .unset] [(.int (1 : Int32))]))
        refine own_st (fun _ k' => XS.ifYes X95.here hx rfl (pc0 := 175) (pc' := 187) rfl (hb hby at_175) rfl ((if0 _ _).trans (feq (by decide : ¬ (1 : Int32) = (0 : Int32))).2) (by decide) (by decide) k') ?_
        show own_Go p.tables e below _ (T95.setTop (mkF m 187 #[.val (.long base), .second, .val (.long raw), .second, .val (.int delta), .val (.int count), .val (.int mode), .val (.long b), .second, .val (.int (1 : Int32)), .val (.long nn), .second, .val (.ref ms), .val (.ref b2), .val (.ref b9), .val (.ref b20), .val (.ref b35), .val (.long (b + ((1 : Int32).toInt64))), .second, .unset, .unset] []))
        refine own_st (fun _ k' => XS.lload X95.here hx rfl (hb hby at_187) rfl k') ?_
        show own_Go p.tables e below _ (T95.setTop (mkF m 189 #[.val (.long base), .second, .val (.long raw), .second, .val (.int delta), .val (.int count), .val (.int mode), .val (.long b), .second, .val (.int (1 : Int32)), .val (.long nn), .second, .val (.ref ms), .val (.ref b2), .val (.ref b9), .val (.ref b20), .val (.ref b35), .val (.long (b + ((1 : Int32).toInt64))), .second, .unset, .unset] [(.long nn)]))
        refine own_st (fun _ k' => XS.lload X95.here hx rfl (hb hby at_189) rfl k') ?_
        show own_Go p.tables e below _ (T95.setTop (mkF m 191 #[.val (.long base), .second, .val (.long raw), .second, .val (.int delta), .val (.int count), .val (.int mode), .val (.long b), .second, .val (.int (1 : Int32)), .val (.long nn), .second, .val (.ref ms), .val (.ref b2), .val (.ref b9), .val (.ref b20), .val (.ref b35), .val (.long (b + ((1 : Int32).toInt64))), .second, .unset, .unset] [(.long b), (.long nn)]))
        refine own_st (fun _ k' => XS.lcmp X95.here hx rfl (hb hby at_191) rfl k') ?_
        show own_Go p.tables e below _ (T95.setTop (mkF m 192 #[.val (.long base), .second, .val (.long raw), .second, .val (.int delta), .val (.int count), .val (.int mode), .val (.long b), .second, .val (.int (1 : Int32)), .val (.long nn), .second, .val (.ref ms), .val (.ref b2), .val (.ref b9), .val (.ref b20), .val (.ref b35), .val (.long (b + ((1 : Int32).toInt64))), .second, .unset, .unset] [(.int (lcmpW nn b))]))
        refine own_st (fun _ k' => XS.ifYes X95.here hx rfl (pc0 := 192) (pc' := 204) rfl (hb hby at_192) rfl ((if0 _ _).trans (tlt ((lw_gt nn b).mpr (by have := hbb; have := rng64 nn; have := rng64 b; have := (by decide : (1 : Int64).toInt = 1); have := c_ladd b (1 : Int64); have := rng64 (b + (1 : Int64)); have := mt (Int64.lt_iff_toInt_lt).mpr hd1_0; refine (Int64.lt_iff_toInt_lt).mpr ?_; omega : b < nn))).2.2.1) (by decide) (by decide) k') ?_
        show own_Go p.tables e below _ (T95.setTop (mkF m 204 #[.val (.long base), .second, .val (.long raw), .second, .val (.int delta), .val (.int count), .val (.int mode), .val (.long b), .second, .val (.int (1 : Int32)), .val (.long nn), .second, .val (.ref ms), .val (.ref b2), .val (.ref b9), .val (.ref b20), .val (.ref b35), .val (.long (b + ((1 : Int32).toInt64))), .second, .unset, .unset] []))
        refine own_st (fun _ k' => XS.lload X95.here hx rfl (hb hby at_204) rfl k') ?_
        show own_Go p.tables e below _ (T95.setTop (mkF m 206 #[.val (.long base), .second, .val (.long raw), .second, .val (.int delta), .val (.int count), .val (.int mode), .val (.long b), .second, .val (.int (1 : Int32)), .val (.long nn), .second, .val (.ref ms), .val (.ref b2), .val (.ref b9), .val (.ref b20), .val (.ref b35), .val (.long (b + ((1 : Int32).toInt64))), .second, .unset, .unset] [(.long nn)]))
        refine own_st (fun _ k' => XS.lload X95.here hx rfl (hb hby at_206) rfl k') ?_
        show own_Go p.tables e below _ (T95.setTop (mkF m 208 #[.val (.long base), .second, .val (.long raw), .second, .val (.int delta), .val (.int count), .val (.int mode), .val (.long b), .second, .val (.int (1 : Int32)), .val (.long nn), .second, .val (.ref ms), .val (.ref b2), .val (.ref b9), .val (.ref b20), .val (.ref b35), .val (.long (b + ((1 : Int32).toInt64))), .second, .unset, .unset] [(.long (b + ((1 : Int32).toInt64))), (.long nn)]))
        refine own_st (fun _ k' => XS.lcmp X95.here hx rfl (hb hby at_208) rfl k') ?_
        show own_Go p.tables e below _ (T95.setTop (mkF m 209 #[.val (.long base), .second, .val (.long raw), .second, .val (.int delta), .val (.int count), .val (.int mode), .val (.long b), .second, .val (.int (1 : Int32)), .val (.long nn), .second, .val (.ref ms), .val (.ref b2), .val (.ref b9), .val (.ref b20), .val (.ref b35), .val (.long (b + ((1 : Int32).toInt64))), .second, .unset, .unset] [(.int (lcmpW nn (b + ((1 : Int32).toInt64))))]))
        refine own_st (fun _ k' => XS.ifNo X95.here hx rfl (hb hby at_209) rfl ((if0 _ _).trans (flt (mt (lw_lt nn (b + ((1 : Int32).toInt64))).mp (by have := hbb; have := rng64 nn; have := rng64 b; have := (by decide : (1 : Int64).toInt = 1); have := c_ladd b (1 : Int64); have := rng64 (b + (1 : Int64)); have := (by decide : ((1 : Int32).toInt64).toInt = 1); have := c_ladd b (1 : Int32).toInt64; have := rng64 (b + (1 : Int32).toInt64); have := mt (Int64.lt_iff_toInt_lt).mpr hd1_0; refine mt (Int64.lt_iff_toInt_lt).mp ?_; omega : ¬ nn < (b + ((1 : Int32).toInt64))))).1) k') ?_
        show own_Go p.tables e below _ (T95.setTop (mkF m 212 #[.val (.long base), .second, .val (.long raw), .second, .val (.int delta), .val (.int count), .val (.int mode), .val (.long b), .second, .val (.int (1 : Int32)), .val (.long nn), .second, .val (.ref ms), .val (.ref b2), .val (.ref b9), .val (.ref b20), .val (.ref b35), .val (.long (b + ((1 : Int32).toInt64))), .second, .unset, .unset] []))
        refine own_st (fun _ k' => XS.lload X95.here hx rfl (hb hby at_212) rfl k') ?_
        show own_Go p.tables e below _ (T95.setTop (mkF m 214 #[.val (.long base), .second, .val (.long raw), .second, .val (.int delta), .val (.int count), .val (.int mode), .val (.long b), .second, .val (.int (1 : Int32)), .val (.long nn), .second, .val (.ref ms), .val (.ref b2), .val (.ref b9), .val (.ref b20), .val (.ref b35), .val (.long (b + ((1 : Int32).toInt64))), .second, .unset, .unset] [(.long (b + ((1 : Int32).toInt64)))]))
        refine own_st (fun _ k' => XS.lconst X95.here hx rfl (hb hby at_214) k') ?_
        show own_Go p.tables e below _ (T95.setTop (mkF m 215 #[.val (.long base), .second, .val (.long raw), .second, .val (.int delta), .val (.int count), .val (.int mode), .val (.long b), .second, .val (.int (1 : Int32)), .val (.long nn), .second, .val (.ref ms), .val (.ref b2), .val (.ref b9), .val (.ref b20), .val (.ref b35), .val (.long (b + ((1 : Int32).toInt64))), .second, .unset, .unset] [(.long (1 : Int64)), (.long (b + ((1 : Int32).toInt64)))]))
        refine own_st (fun _ k' => XS.ladd X95.here hx rfl (hb hby at_215) rfl k') ?_
        show own_Go p.tables e below _ (T95.setTop (mkF m 216 #[.val (.long base), .second, .val (.long raw), .second, .val (.int delta), .val (.int count), .val (.int mode), .val (.long b), .second, .val (.int (1 : Int32)), .val (.long nn), .second, .val (.ref ms), .val (.ref b2), .val (.ref b9), .val (.ref b20), .val (.ref b35), .val (.long (b + ((1 : Int32).toInt64))), .second, .unset, .unset] [(.long ((b + ((1 : Int32).toInt64)) + (1 : Int64)))]))
        refine own_st (fun _ k' => XS.lstore X95.here hx rfl (hb hby at_216) rfl (l' := #[.val (.long base), .second, .val (.long raw), .second, .val (.int delta), .val (.int count), .val (.int mode), .val (.long b), .second, .val (.int (1 : Int32)), .val (.long nn), .second, .val (.ref ms), .val (.ref b2), .val (.ref b9), .val (.ref b20), .val (.ref b35), .val (.long (b + ((1 : Int32).toInt64))), .second, .val (.long ((b + ((1 : Int32).toInt64)) + (1 : Int64))), .second]) rfl k') ?_
        show own_Go p.tables e below _ (T95.setTop (mkF m 218 #[.val (.long base), .second, .val (.long raw), .second, .val (.int delta), .val (.int count), .val (.int mode), .val (.long b), .second, .val (.int (1 : Int32)), .val (.long nn), .second, .val (.ref ms), .val (.ref b2), .val (.ref b9), .val (.ref b20), .val (.ref b35), .val (.long (b + ((1 : Int32).toInt64))), .second, .val (.long ((b + ((1 : Int32).toInt64)) + (1 : Int64))), .second] []))
        refine own_st (fun _ k' => XS.goto X95.here hx rfl (pc0 := 218) (pc' := 227) rfl (hb hby at_218) (by decide) (by decide) k') ?_
        show own_Go p.tables e below _ (T95.setTop (mkF m 227 #[.val (.long base), .second, .val (.long raw), .second, .val (.int delta), .val (.int count), .val (.int mode), .val (.long b), .second, .val (.int (1 : Int32)), .val (.long nn), .second, .val (.ref ms), .val (.ref b2), .val (.ref b9), .val (.ref b20), .val (.ref b35), .val (.long (b + ((1 : Int32).toInt64))), .second, .val (.long ((b + ((1 : Int32).toInt64)) + (1 : Int64))), .second] []))
        refine own_st (fun _ k' => XS.aload X95.here hx rfl (hb hby at_227) rfl rfl k') ?_
        show own_Go p.tables e below _ (T95.setTop (mkF m 229 #[.val (.long base), .second, .val (.long raw), .second, .val (.int delta), .val (.int count), .val (.int mode), .val (.long b), .second, .val (.int (1 : Int32)), .val (.long nn), .second, .val (.ref ms), .val (.ref b2), .val (.ref b9), .val (.ref b20), .val (.ref b35), .val (.long (b + ((1 : Int32).toInt64))), .second, .val (.long ((b + ((1 : Int32).toInt64)) + (1 : Int64))), .second] [(.ref b35)]))
        obtain ⟨cq118, kq118, q118a, q118b, q118c⟩ := isOf hZ rfl Ea95
        obtain ⟨_, _, ⟨T118, L118, k118, n118⟩, -, X118, ⟨Lc118, hQ118, l118, y118, z118⟩, st118⟩ := X95.virtualBack hx (y := (⟨"com/example/penumbra/penumbra/order/SequenceLog", "first", "()J"⟩ : MethodName)) (z := (⟨"com/example/penumbra/penumbra/order/SequenceLog", "first", "()J"⟩ : MethodName)) hown (mvT hZ (hw _ (List.mem_of_getElem? (i := 73) rfl))) (mvT hZ (hw _ (List.mem_of_getElem? (i := 74) rfl))) (notFace_of_selects (args := #[]) (mvT hZ (hw _ (List.mem_of_getElem? (i := 76) rfl)))) (mvT hZ (hw _ (List.mem_of_getElem? (i := 76) rfl))) (mvT hZ (hw _ (List.mem_of_getElem? (i := 75) rfl))) (by decide) (backOf (W := 0) (rmFi l Z a0 hw [] b35 ((b + (1 : Int64)) + (1 : Int64)) T95.heap n0 Zc95 Fa_first95) hZ (hw _ (List.mem_of_getElem? (i := 77) rfl)) (hw _ (List.mem_of_getElem? (i := 28) rfl)) (by decide) (by decide)) q118a q118c (g := (mkF m 229 #[.val (.long base), .second, .val (.long raw), .second, .val (.int delta), .val (.int count), .val (.int mode), .val (.long b), .second, .val (.int (1 : Int32)), .val (.long nn), .second, .val (.ref ms), .val (.ref b2), .val (.ref b9), .val (.ref b20), .val (.ref b35), .val (.long (b + ((1 : Int32).toInt64))), .second, .val (.long ((b + ((1 : Int32).toInt64)) + (1 : Int64))), .second] [(.ref b35)])) rfl (by rw [hml]; rfl) (Steps.refl _) (argsL := []) (rest := []) (lenOf pd___J rfl) rfl (by show 2 * 0 + _ ≤ _; exact Nat.le_of_eq rfl) (hb hby at_229) (fun _ _ => ⟨rfl, rfl, (by decide : 6 + 0 ≤ _), (by decide : 1040 + 0 ≤ _)⟩)
        dsimp only [Pt.U, Pt.locs, Pt.cells, Pt.slots] at X118 l118 y118 z118 st118 hQ118
        subst l118 y118 z118
        obtain ⟨rfl, Nq118, e118⟩ := hQ118
        have N118 := Fr.app N95 Nq118
        refine own_tr st118 ?_
        show own_Go p.tables e below _ (T118.setTop (mkF m 232 #[.val (.long base), .second, .val (.long raw), .second, .val (.int delta), .val (.int count), .val (.int mode), .val (.long b), .second, .val (.int (1 : Int32)), .val (.long nn), .second, .val (.ref ms), .val (.ref b2), .val (.ref b9), .val (.ref b20), .val (.ref b35), .val (.long (b + ((1 : Int32).toInt64))), .second, .val (.long ((b + ((1 : Int32).toInt64)) + (1 : Int64))), .second] [(.long ((b + (1 : Int64)) + (1 : Int64)))]))
        refine own_st (fun _ k' => XS.lload X118.here hx rfl (hb hby at_232) rfl k') ?_
        show own_Go p.tables e below _ (T118.setTop (mkF m 234 #[.val (.long base), .second, .val (.long raw), .second, .val (.int delta), .val (.int count), .val (.int mode), .val (.long b), .second, .val (.int (1 : Int32)), .val (.long nn), .second, .val (.ref ms), .val (.ref b2), .val (.ref b9), .val (.ref b20), .val (.ref b35), .val (.long (b + ((1 : Int32).toInt64))), .second, .val (.long ((b + ((1 : Int32).toInt64)) + (1 : Int64))), .second] [(.long ((b + ((1 : Int32).toInt64)) + (1 : Int64))), (.long ((b + (1 : Int64)) + (1 : Int64)))]))
        refine own_st (fun _ k' => XS.lcmp X118.here hx rfl (hb hby at_234) rfl k') ?_
        show own_Go p.tables e below _ (T118.setTop (mkF m 235 #[.val (.long base), .second, .val (.long raw), .second, .val (.int delta), .val (.int count), .val (.int mode), .val (.long b), .second, .val (.int (1 : Int32)), .val (.long nn), .second, .val (.ref ms), .val (.ref b2), .val (.ref b9), .val (.ref b20), .val (.ref b35), .val (.long (b + ((1 : Int32).toInt64))), .second, .val (.long ((b + ((1 : Int32).toInt64)) + (1 : Int64))), .second] [(.int (lcmpW ((b + (1 : Int64)) + (1 : Int64)) ((b + ((1 : Int32).toInt64)) + (1 : Int64))))]))
        refine own_st (fun _ k' => XS.ifYes X118.here hx rfl (pc0 := 235) (pc' := 240) rfl (hb hby at_235) rfl ((if0 _ _).trans (teq ((lw_eq ((b + (1 : Int64)) + (1 : Int64)) ((b + ((1 : Int32).toInt64)) + (1 : Int64))).mpr (by have := hbb; have := rng64 nn; have := rng64 b; have := (by decide : (1 : Int64).toInt = 1); have := c_ladd b (1 : Int64); have := rng64 (b + (1 : Int64)); have := c_ladd (b + (1 : Int64)) (1 : Int64); have := rng64 ((b + (1 : Int64)) + (1 : Int64)); have := (by decide : ((1 : Int32).toInt64).toInt = 1); have := c_ladd b (1 : Int32).toInt64; have := rng64 (b + (1 : Int32).toInt64); have := c_ladd (b + (1 : Int32).toInt64) (1 : Int64); have := rng64 ((b + (1 : Int32).toInt64) + (1 : Int64)); have := mt (Int64.lt_iff_toInt_lt).mpr hd1_0; refine (Int64.toInt_inj.symm).mpr ?_; omega : ((b + (1 : Int64)) + (1 : Int64)) = ((b + ((1 : Int32).toInt64)) + (1 : Int64))))).1) (by decide) (by decide) k') ?_
        show own_Go p.tables e below _ (T118.setTop (mkF m 240 #[.val (.long base), .second, .val (.long raw), .second, .val (.int delta), .val (.int count), .val (.int mode), .val (.long b), .second, .val (.int (1 : Int32)), .val (.long nn), .second, .val (.ref ms), .val (.ref b2), .val (.ref b9), .val (.ref b20), .val (.ref b35), .val (.long (b + ((1 : Int32).toInt64))), .second, .val (.long ((b + ((1 : Int32).toInt64)) + (1 : Int64))), .second] []))
        refine own_st (fun _ k' => XS.aload X118.here hx rfl (hb hby at_240) rfl rfl k') ?_
        show own_Go p.tables e below _ (T118.setTop (mkF m 242 #[.val (.long base), .second, .val (.long raw), .second, .val (.int delta), .val (.int count), .val (.int mode), .val (.long b), .second, .val (.int (1 : Int32)), .val (.long nn), .second, .val (.ref ms), .val (.ref b2), .val (.ref b9), .val (.ref b20), .val (.ref b35), .val (.long (b + ((1 : Int32).toInt64))), .second, .val (.long ((b + ((1 : Int32).toInt64)) + (1 : Int64))), .second] [(.ref b35)]))
        obtain ⟨cq119, kq119, q119a, q119b, q119c⟩ := isOf hZ e118 Ea95
        obtain ⟨_, _, ⟨T119, L119, k119, n119⟩, -, X119, ⟨Lc119, hQ119, l119, y119, z119⟩, st119⟩ := X118.virtualBack hx (y := (⟨"com/example/penumbra/penumbra/order/SequenceLog", "last", "()J"⟩ : MethodName)) (z := (⟨"com/example/penumbra/penumbra/order/SequenceLog", "last", "()J"⟩ : MethodName)) hown (mvT hZ (hw _ (List.mem_of_getElem? (i := 78) rfl))) (mvT hZ (hw _ (List.mem_of_getElem? (i := 63) rfl))) (notFace_of_selects (args := #[]) (mvT hZ (hw _ (List.mem_of_getElem? (i := 65) rfl)))) (mvT hZ (hw _ (List.mem_of_getElem? (i := 65) rfl))) (mvT hZ (hw _ (List.mem_of_getElem? (i := 64) rfl))) (by decide) (backOf (W := 0) (rmLa l Z a0 hw [] b35 ((b + (1 : Int64)) + (1 : Int64)) (0 : Int32) T95.heap n0 Zc95 Fa_first95 Fa_size95) hZ (hw _ (List.mem_of_getElem? (i := 66) rfl)) (hw _ (List.mem_of_getElem? (i := 28) rfl)) (by decide) (by decide)) q119a q119c (g := (mkF m 242 #[.val (.long base), .second, .val (.long raw), .second, .val (.int delta), .val (.int count), .val (.int mode), .val (.long b), .second, .val (.int (1 : Int32)), .val (.long nn), .second, .val (.ref ms), .val (.ref b2), .val (.ref b9), .val (.ref b20), .val (.ref b35), .val (.long (b + ((1 : Int32).toInt64))), .second, .val (.long ((b + ((1 : Int32).toInt64)) + (1 : Int64))), .second] [(.ref b35)])) rfl (by rw [hml]; rfl) (Steps.refl _) (argsL := []) (rest := []) (lenOf pd___J rfl) rfl (by show 2 * 0 + _ ≤ _; exact Nat.le_of_eq rfl) (hb hby at_242) (fun _ _ => ⟨rfl, e118, (by decide : 6 + 0 ≤ _), (by decide : 1040 + 0 ≤ _)⟩)
        dsimp only [Pt.U, Pt.locs, Pt.cells, Pt.slots] at X119 l119 y119 z119 st119 hQ119
        subst l119 y119 z119
        obtain ⟨rfl, Nq119, e119⟩ := hQ119
        have N119 := Fr.app N118 Nq119
        refine own_tr st119 ?_
        show own_Go p.tables e below _ (T119.setTop (mkF m 245 #[.val (.long base), .second, .val (.long raw), .second, .val (.int delta), .val (.int count), .val (.int mode), .val (.long b), .second, .val (.int (1 : Int32)), .val (.long nn), .second, .val (.ref ms), .val (.ref b2), .val (.ref b9), .val (.ref b20), .val (.ref b35), .val (.long (b + ((1 : Int32).toInt64))), .second, .val (.long ((b + ((1 : Int32).toInt64)) + (1 : Int64))), .second] [(.long ((((b + (1 : Int64)) + (1 : Int64)) + ((0 : Int32).toInt64)) - (1 : Int64)))]))
        refine own_st (fun _ k' => XS.lload X119.here hx rfl (hb hby at_245) rfl k') ?_
        show own_Go p.tables e below _ (T119.setTop (mkF m 247 #[.val (.long base), .second, .val (.long raw), .second, .val (.int delta), .val (.int count), .val (.int mode), .val (.long b), .second, .val (.int (1 : Int32)), .val (.long nn), .second, .val (.ref ms), .val (.ref b2), .val (.ref b9), .val (.ref b20), .val (.ref b35), .val (.long (b + ((1 : Int32).toInt64))), .second, .val (.long ((b + ((1 : Int32).toInt64)) + (1 : Int64))), .second] [(.long (b + ((1 : Int32).toInt64))), (.long ((((b + (1 : Int64)) + (1 : Int64)) + ((0 : Int32).toInt64)) - (1 : Int64)))]))
        refine own_st (fun _ k' => XS.lcmp X119.here hx rfl (hb hby at_247) rfl k') ?_
        show own_Go p.tables e below _ (T119.setTop (mkF m 248 #[.val (.long base), .second, .val (.long raw), .second, .val (.int delta), .val (.int count), .val (.int mode), .val (.long b), .second, .val (.int (1 : Int32)), .val (.long nn), .second, .val (.ref ms), .val (.ref b2), .val (.ref b9), .val (.ref b20), .val (.ref b35), .val (.long (b + ((1 : Int32).toInt64))), .second, .val (.long ((b + ((1 : Int32).toInt64)) + (1 : Int64))), .second] [(.int (lcmpW ((((b + (1 : Int64)) + (1 : Int64)) + ((0 : Int32).toInt64)) - (1 : Int64)) (b + ((1 : Int32).toInt64))))]))
        refine own_st (fun _ k' => XS.ifYes X119.here hx rfl (pc0 := 248) (pc' := 253) rfl (hb hby at_248) rfl ((if0 _ _).trans (teq ((lw_eq ((((b + (1 : Int64)) + (1 : Int64)) + ((0 : Int32).toInt64)) - (1 : Int64)) (b + ((1 : Int32).toInt64))).mpr (by have := hbb; have := rng64 nn; have := rng64 b; have := (by decide : (1 : Int64).toInt = 1); have := c_ladd b (1 : Int64); have := rng64 (b + (1 : Int64)); have := c_ladd (b + (1 : Int64)) (1 : Int64); have := rng64 ((b + (1 : Int64)) + (1 : Int64)); have := (by decide : ((0 : Int32).toInt64).toInt = 0); have := c_ladd ((b + (1 : Int64)) + (1 : Int64)) (0 : Int32).toInt64; have := rng64 (((b + (1 : Int64)) + (1 : Int64)) + (0 : Int32).toInt64); have := c_lsub (((b + (1 : Int64)) + (1 : Int64)) + (0 : Int32).toInt64) (1 : Int64); have := rng64 ((((b + (1 : Int64)) + (1 : Int64)) + (0 : Int32).toInt64) - (1 : Int64)); have := (by decide : ((1 : Int32).toInt64).toInt = 1); have := c_ladd b (1 : Int32).toInt64; have := rng64 (b + (1 : Int32).toInt64); have := mt (Int64.lt_iff_toInt_lt).mpr hd1_0; refine (Int64.toInt_inj.symm).mpr ?_; omega : ((((b + (1 : Int64)) + (1 : Int64)) + ((0 : Int32).toInt64)) - (1 : Int64)) = (b + ((1 : Int32).toInt64))))).1) (by decide) (by decide) k') ?_
        show own_Go p.tables e below _ (T119.setTop (mkF m 253 #[.val (.long base), .second, .val (.long raw), .second, .val (.int delta), .val (.int count), .val (.int mode), .val (.long b), .second, .val (.int (1 : Int32)), .val (.long nn), .second, .val (.ref ms), .val (.ref b2), .val (.ref b9), .val (.ref b20), .val (.ref b35), .val (.long (b + ((1 : Int32).toInt64))), .second, .val (.long ((b + ((1 : Int32).toInt64)) + (1 : Int64))), .second] []))
        refine own_st (fun _ k' => XS.lload X119.here hx rfl (hb hby at_253) rfl k') ?_
        show own_Go p.tables e below _ (T119.setTop (mkF m 255 #[.val (.long base), .second, .val (.long raw), .second, .val (.int delta), .val (.int count), .val (.int mode), .val (.long b), .second, .val (.int (1 : Int32)), .val (.long nn), .second, .val (.ref ms), .val (.ref b2), .val (.ref b9), .val (.ref b20), .val (.ref b35), .val (.long (b + ((1 : Int32).toInt64))), .second, .val (.long ((b + ((1 : Int32).toInt64)) + (1 : Int64))), .second] [(.long ((b + ((1 : Int32).toInt64)) + (1 : Int64)))]))
        refine own_st (fun _ k' => XS.lload X119.here hx rfl (hb hby at_255) rfl k') ?_
        show own_Go p.tables e below _ (T119.setTop (mkF m 257 #[.val (.long base), .second, .val (.long raw), .second, .val (.int delta), .val (.int count), .val (.int mode), .val (.long b), .second, .val (.int (1 : Int32)), .val (.long nn), .second, .val (.ref ms), .val (.ref b2), .val (.ref b9), .val (.ref b20), .val (.ref b35), .val (.long (b + ((1 : Int32).toInt64))), .second, .val (.long ((b + ((1 : Int32).toInt64)) + (1 : Int64))), .second] [(.long (b + ((1 : Int32).toInt64))), (.long ((b + ((1 : Int32).toInt64)) + (1 : Int64)))]))
        refine own_st (fun _ k' => XS.lcmp X119.here hx rfl (hb hby at_257) rfl k') ?_
        show own_Go p.tables e below _ (T119.setTop (mkF m 258 #[.val (.long base), .second, .val (.long raw), .second, .val (.int delta), .val (.int count), .val (.int mode), .val (.long b), .second, .val (.int (1 : Int32)), .val (.long nn), .second, .val (.ref ms), .val (.ref b2), .val (.ref b9), .val (.ref b20), .val (.ref b35), .val (.long (b + ((1 : Int32).toInt64))), .second, .val (.long ((b + ((1 : Int32).toInt64)) + (1 : Int64))), .second] [(.int (lcmpW ((b + ((1 : Int32).toInt64)) + (1 : Int64)) (b + ((1 : Int32).toInt64))))]))
        refine own_st (fun _ k' => XS.ifYes X119.here hx rfl (pc0 := 258) (pc' := 311) rfl (hb hby at_258) rfl ((if0 _ _).trans (tlt ((lw_gt ((b + ((1 : Int32).toInt64)) + (1 : Int64)) (b + ((1 : Int32).toInt64))).mpr (by have := hbb; have := rng64 nn; have := rng64 b; have := (by decide : (1 : Int64).toInt = 1); have := c_ladd b (1 : Int64); have := rng64 (b + (1 : Int64)); have := (by decide : ((1 : Int32).toInt64).toInt = 1); have := c_ladd b (1 : Int32).toInt64; have := rng64 (b + (1 : Int32).toInt64); have := c_ladd (b + (1 : Int32).toInt64) (1 : Int64); have := rng64 ((b + (1 : Int32).toInt64) + (1 : Int64)); have := mt (Int64.lt_iff_toInt_lt).mpr hd1_0; refine (Int64.lt_iff_toInt_lt).mpr ?_; omega : (b + ((1 : Int32).toInt64)) < ((b + ((1 : Int32).toInt64)) + (1 : Int64))))).2.2.1) (by decide) (by decide) k') ?_
        show own_Go p.tables e below _ (T119.setTop (mkF m 311 #[.val (.long base), .second, .val (.long raw), .second, .val (.int delta), .val (.int count), .val (.int mode), .val (.long b), .second, .val (.int (1 : Int32)), .val (.long nn), .second, .val (.ref ms), .val (.ref b2), .val (.ref b9), .val (.ref b20), .val (.ref b35), .val (.long (b + ((1 : Int32).toInt64))), .second, .val (.long ((b + ((1 : Int32).toInt64)) + (1 : Int64))), .second] []))
        refine own_st (fun _ k' => XS.iconst X119.here hx rfl (hb hby at_311) k') ?_
        show own_Go p.tables e below _ (T119.setTop (mkF m 312 #[.val (.long base), .second, .val (.long raw), .second, .val (.int delta), .val (.int count), .val (.int mode), .val (.long b), .second, .val (.int (1 : Int32)), .val (.long nn), .second, .val (.ref ms), .val (.ref b2), .val (.ref b9), .val (.ref b20), .val (.ref b35), .val (.long (b + ((1 : Int32).toInt64))), .second, .val (.long ((b + ((1 : Int32).toInt64)) + (1 : Int64))), .second] [(.int (1 : Int32))]))
        exact own_retN X119 hx (t := .boolean) Bd.returns (by simp) (hb hby at_312) Bd.notSynchronized ⟨rfl, N119⟩ (by decide) (by decide)
    ·  -- k = 2
      rw [hk]
      show own_Go p.tables e below _ (T54.setTop (mkF m 119 #[.val (.long base), .second, .val (.long raw), .second, .val (.int delta), .val (.int count), .val (.int mode), .val (.long b), .second, .val (.int (2 : Int32)), .val (.long nn), .second, .val (.ref ms), .val (.ref b2), .val (.ref b9), .val (.ref b20), .val (.ref b35), .unset, .unset, .unset, .unset] []))
      refine own_st (fun _ k' => XS.iload X54.here hx rfl (hb hby at_119) rfl k') ?_
      show own_Go p.tables e below _ (T54.setTop (mkF m 121 #[.val (.long base), .second, .val (.long raw), .second, .val (.int delta), .val (.int count), .val (.int mode), .val (.long b), .second, .val (.int (2 : Int32)), .val (.long nn), .second, .val (.ref ms), .val (.ref b2), .val (.ref b9), .val (.ref b20), .val (.ref b35), .unset, .unset, .unset, .unset] [(.int (2 : Int32))]))
      refine own_st (fun _ k' => XS.iconst X54.here hx rfl (hb hby at_121) k') ?_
      show own_Go p.tables e below _ (T54.setTop (mkF m 122 #[.val (.long base), .second, .val (.long raw), .second, .val (.int delta), .val (.int count), .val (.int mode), .val (.long b), .second, .val (.int (2 : Int32)), .val (.long nn), .second, .val (.ref ms), .val (.ref b2), .val (.ref b9), .val (.ref b20), .val (.ref b35), .unset, .unset, .unset, .unset] [(.int (1 : Int32)), (.int (2 : Int32))]))
      refine own_st (fun _ k' => XS.icmpNo X54.here hx rfl (hb hby at_122) rfl (flt (by decide : ¬ (2 : Int32) < (1 : Int32))).1 k') ?_
      show own_Go p.tables e below _ (T54.setTop (mkF m 125 #[.val (.long base), .second, .val (.long raw), .second, .val (.int delta), .val (.int count), .val (.int mode), .val (.long b), .second, .val (.int (2 : Int32)), .val (.long nn), .second, .val (.ref ms), .val (.ref b2), .val (.ref b9), .val (.ref b20), .val (.ref b35), .unset, .unset, .unset, .unset] []))
      refine own_st (fun _ k' => XS.aload X54.here hx rfl (hb hby at_125) rfl rfl k') ?_
      show own_Go p.tables e below _ (T54.setTop (mkF m 127 #[.val (.long base), .second, .val (.long raw), .second, .val (.int delta), .val (.int count), .val (.int mode), .val (.long b), .second, .val (.int (2 : Int32)), .val (.long nn), .second, .val (.ref ms), .val (.ref b2), .val (.ref b9), .val (.ref b20), .val (.ref b35), .unset, .unset, .unset, .unset] [(.ref b35)]))
      refine own_st (fun _ k' => XS.aload X54.here hx rfl (hb hby at_127) rfl rfl k') ?_
      show own_Go p.tables e below _ (T54.setTop (mkF m 129 #[.val (.long base), .second, .val (.long raw), .second, .val (.int delta), .val (.int count), .val (.int mode), .val (.long b), .second, .val (.int (2 : Int32)), .val (.long nn), .second, .val (.ref ms), .val (.ref b2), .val (.ref b9), .val (.ref b20), .val (.ref b35), .unset, .unset, .unset, .unset] [(.ref b2), (.ref b35)]))
      obtain ⟨cq120, kq120, q120a, q120b, q120c⟩ := isOf hZ rfl Ea54
      obtain ⟨_, _, ⟨T120, L120, k120, n120⟩, -, X120, ⟨Lc120, hQ120, l120, y120, z120⟩, st120⟩ := X54.virtualBack hx (y := (⟨"com/example/penumbra/penumbra/order/SequenceLog", "append", "(Lcom/example/penumbra/penumbra/order/SequenceLog$Entry;)V"⟩ : MethodName)) (z := (⟨"com/example/penumbra/penumbra/order/SequenceLog", "append", "(Lcom/example/penumbra/penumbra/order/SequenceLog$Entry;)V"⟩ : MethodName)) hown (mvT hZ (hw _ (List.mem_of_getElem? (i := 52) rfl))) (mvT hZ (hw _ (List.mem_of_getElem? (i := 53) rfl))) (notFace_of_selects (args := #[]) (mvT hZ (hw _ (List.mem_of_getElem? (i := 55) rfl)))) (mvT hZ (hw _ (List.mem_of_getElem? (i := 55) rfl))) (mvT hZ (hw _ (List.mem_of_getElem? (i := 54) rfl))) (by decide) (backOf (W := 0) (rmP0 l Z a0 hw [] b35 b2 (b + (1 : Int64)) (b + (1 : Int64)) rg kk .null .null .null T54.heap n0 Zc54 Ea54 Fa_ring54 Fa_first54 Fa_head54 Fa_size54 Va54 OV ne_b35_rg g_b35 g_rg Ec3_x55 Fc3_x56 ne_b2_b35 ne_b2_rg (by have := hbb; have := rng64 b; have := (by decide : (1 : Int64).toInt = 1); have := c_ladd b (1 : Int64); have := rng64 (b + (1 : Int64)); have := (by decide : ((0 : Int32).toInt64).toInt = 0); have := c_ladd (b + (1 : Int64)) (0 : Int32).toInt64; have := rng64 ((b + (1 : Int64)) + (0 : Int32).toInt64); have := c_lsub ((b + (1 : Int64)) + (0 : Int32).toInt64) (1 : Int64); have := rng64 (((b + (1 : Int64)) + (0 : Int32).toInt64) - (1 : Int64)); have := c_ladd (((b + (1 : Int64)) + (0 : Int32).toInt64) - (1 : Int64)) (1 : Int64); have := rng64 ((((b + (1 : Int64)) + (0 : Int32).toInt64) - (1 : Int64)) + (1 : Int64)); refine (Int64.toInt_inj.symm).mpr ?_; omega : (b + (1 : Int64)) = ((((b + (1 : Int64)) + ((0 : Int32).toInt64)) - (1 : Int64)) + (1 : Int64)))) hZ (hw _ (List.mem_of_getElem? (i := 56) rfl)) (hw _ (List.mem_of_getElem? (i := 28) rfl)) (by decide) (by decide)) q120a q120c (g := (mkF m 129 #[.val (.long base), .second, .val (.long raw), .second, .val (.int delta), .val (.int count), .val (.int mode), .val (.long b), .second, .val (.int (2 : Int32)), .val (.long nn), .second, .val (.ref ms), .val (.ref b2), .val (.ref b9), .val (.ref b20), .val (.ref b35), .unset, .unset, .unset, .unset] [(.ref b2), (.ref b35)])) rfl (by rw [hml]; rfl) (Steps.refl _) (argsL := [(.ref b2)]) (rest := []) (lenOf pd__Lcom_example_penumbra_penumbra_order_SequenceLog_Entry__V rfl) rfl (by show 2 * 0 + _ ≤ _; exact Nat.le_of_eq rfl) (hb hby at_129) (fun _ _ => ⟨rfl, rfl, (by decide : 6 + 0 ≤ _), (by decide : 1040 + 0 ≤ _)⟩)
      dsimp only [Pt.U, Pt.locs, Pt.cells, Pt.slots] at X120 l120 y120 z120 st120 hQ120
      subst l120 y120 z120
      obtain ⟨rfl, Nq120, Kc120, Ea120, Fa_ring120, Fa_first120, Fa_head120, Fa_size120, Va120⟩ := hQ120
      have N120 := Fr.app N54 Nq120
      have Ec3_x121 := Ec3_x55.keep Kc120
      have Fc3_x122 := Fc3_x56.keep Kc120 (ninS ne_b2_b35 (ninS ne_b2_rg nin0))
      have Ec12_x123 := Ec12_x57.keep Kc120
      have Fc12_x124 := Fc12_x58.keep Kc120 (ninS ne_b9_b35 (ninS ne_b9_rg nin0))
      have Ec25_x125 := Ec25_x59.keep Kc120
      have Fc25_x126 := Fc25_x60.keep Kc120 (ninS ne_b20_b35 (ninS ne_b20_rg nin0))
      have Ea54_x127 := Ea54.keep Kc120
      have Zc120 : n0 ≤ T120.heap.size := Nat.le_trans Zc54 Kc120.1
      refine own_tr st120 ?_
      show own_Go p.tables e below _ (T120.setTop (mkF m 132 #[.val (.long base), .second, .val (.long raw), .second, .val (.int delta), .val (.int count), .val (.int mode), .val (.long b), .second, .val (.int (2 : Int32)), .val (.long nn), .second, .val (.ref ms), .val (.ref b2), .val (.ref b9), .val (.ref b20), .val (.ref b35), .unset, .unset, .unset, .unset] []))
      refine own_st (fun _ k' => XS.iload X120.here hx rfl (hb hby at_132) rfl k') ?_
      show own_Go p.tables e below _ (T120.setTop (mkF m 134 #[.val (.long base), .second, .val (.long raw), .second, .val (.int delta), .val (.int count), .val (.int mode), .val (.long b), .second, .val (.int (2 : Int32)), .val (.long nn), .second, .val (.ref ms), .val (.ref b2), .val (.ref b9), .val (.ref b20), .val (.ref b35), .unset, .unset, .unset, .unset] [(.int (2 : Int32))]))
      refine own_st (fun _ k' => XS.iconst X120.here hx rfl (hb hby at_134) k') ?_
      show own_Go p.tables e below _ (T120.setTop (mkF m 135 #[.val (.long base), .second, .val (.long raw), .second, .val (.int delta), .val (.int count), .val (.int mode), .val (.long b), .second, .val (.int (2 : Int32)), .val (.long nn), .second, .val (.ref ms), .val (.ref b2), .val (.ref b9), .val (.ref b20), .val (.ref b35), .unset, .unset, .unset, .unset] [(.int (2 : Int32)), (.int (2 : Int32))]))
      refine own_st (fun _ k' => XS.icmpNo X120.here hx rfl (hb hby at_135) rfl (flt (by decide : ¬ (2 : Int32) < (2 : Int32))).1 k') ?_
      show own_Go p.tables e below _ (T120.setTop (mkF m 138 #[.val (.long base), .second, .val (.long raw), .second, .val (.int delta), .val (.int count), .val (.int mode), .val (.long b), .second, .val (.int (2 : Int32)), .val (.long nn), .second, .val (.ref ms), .val (.ref b2), .val (.ref b9), .val (.ref b20), .val (.ref b35), .unset, .unset, .unset, .unset] []))
      refine own_st (fun _ k' => XS.aload X120.here hx rfl (hb hby at_138) rfl rfl k') ?_
      show own_Go p.tables e below _ (T120.setTop (mkF m 140 #[.val (.long base), .second, .val (.long raw), .second, .val (.int delta), .val (.int count), .val (.int mode), .val (.long b), .second, .val (.int (2 : Int32)), .val (.long nn), .second, .val (.ref ms), .val (.ref b2), .val (.ref b9), .val (.ref b20), .val (.ref b35), .unset, .unset, .unset, .unset] [(.ref b35)]))
      refine own_st (fun _ k' => XS.aload X120.here hx rfl (hb hby at_140) rfl rfl k') ?_
      show own_Go p.tables e below _ (T120.setTop (mkF m 142 #[.val (.long base), .second, .val (.long raw), .second, .val (.int delta), .val (.int count), .val (.int mode), .val (.long b), .second, .val (.int (2 : Int32)), .val (.long nn), .second, .val (.ref ms), .val (.ref b2), .val (.ref b9), .val (.ref b20), .val (.ref b35), .unset, .unset, .unset, .unset] [(.ref b9), (.ref b35)]))
      obtain ⟨cq133, kq133, q133a, q133b, q133c⟩ := isOf hZ rfl Ea120
      obtain ⟨_, _, ⟨T133, L133, k133, n133⟩, -, X133, ⟨Lc133, hQ133, l133, y133, z133⟩, st133⟩ := X120.virtualBack hx (y := (⟨"com/example/penumbra/penumbra/order/SequenceLog", "append", "(Lcom/example/penumbra/penumbra/order/SequenceLog$Entry;)V"⟩ : MethodName)) (z := (⟨"com/example/penumbra/penumbra/order/SequenceLog", "append", "(Lcom/example/penumbra/penumbra/order/SequenceLog$Entry;)V"⟩ : MethodName)) hown (mvT hZ (hw _ (List.mem_of_getElem? (i := 52) rfl))) (mvT hZ (hw _ (List.mem_of_getElem? (i := 53) rfl))) (notFace_of_selects (args := #[]) (mvT hZ (hw _ (List.mem_of_getElem? (i := 55) rfl)))) (mvT hZ (hw _ (List.mem_of_getElem? (i := 55) rfl))) (mvT hZ (hw _ (List.mem_of_getElem? (i := 54) rfl))) (by decide) (backOf (W := 0) (rmP1 l Z a0 hw [] b35 b9 (b + (1 : Int64)) (b + (2 : Int64)) rg kk (.ref b2) .null .null T120.heap n0 Zc120 Ea120 Fa_ring120 Fa_first120 Fa_head120 Fa_size120 Va120 OV ne_b35_rg g_b35 g_rg Ec12_x123 Fc12_x124 ne_b9_b35 ne_b9_rg (by have := hbb; have := rng64 b; have := (by decide : (2 : Int64).toInt = 2); have := c_ladd b (2 : Int64); have := rng64 (b + (2 : Int64)); have := (by decide : (1 : Int64).toInt = 1); have := c_ladd b (1 : Int64); have := rng64 (b + (1 : Int64)); have := (by decide : ((1 : Int32).toInt64).toInt = 1); have := c_ladd (b + (1 : Int64)) (1 : Int32).toInt64; have := rng64 ((b + (1 : Int64)) + (1 : Int32).toInt64); have := c_lsub ((b + (1 : Int64)) + (1 : Int32).toInt64) (1 : Int64); have := rng64 (((b + (1 : Int64)) + (1 : Int32).toInt64) - (1 : Int64)); have := c_ladd (((b + (1 : Int64)) + (1 : Int32).toInt64) - (1 : Int64)) (1 : Int64); have := rng64 ((((b + (1 : Int64)) + (1 : Int32).toInt64) - (1 : Int64)) + (1 : Int64)); refine (Int64.toInt_inj.symm).mpr ?_; omega : (b + (2 : Int64)) = ((((b + (1 : Int64)) + ((1 : Int32).toInt64)) - (1 : Int64)) + (1 : Int64)))) hZ (hw _ (List.mem_of_getElem? (i := 56) rfl)) (hw _ (List.mem_of_getElem? (i := 28) rfl)) (by decide) (by decide)) q133a q133c (g := (mkF m 142 #[.val (.long base), .second, .val (.long raw), .second, .val (.int delta), .val (.int count), .val (.int mode), .val (.long b), .second, .val (.int (2 : Int32)), .val (.long nn), .second, .val (.ref ms), .val (.ref b2), .val (.ref b9), .val (.ref b20), .val (.ref b35), .unset, .unset, .unset, .unset] [(.ref b9), (.ref b35)])) rfl (by rw [hml]; rfl) (Steps.refl _) (argsL := [(.ref b9)]) (rest := []) (lenOf pd__Lcom_example_penumbra_penumbra_order_SequenceLog_Entry__V rfl) rfl (by show 2 * 0 + _ ≤ _; exact Nat.le_of_eq rfl) (hb hby at_142) (fun _ _ => ⟨rfl, rfl, (by decide : 6 + 0 ≤ _), (by decide : 1040 + 0 ≤ _)⟩)
      dsimp only [Pt.U, Pt.locs, Pt.cells, Pt.slots] at X133 l133 y133 z133 st133 hQ133
      subst l133 y133 z133
      obtain ⟨rfl, Nq133, Kc133, Ea133, Fa_ring133, Fa_first133, Fa_head133, Fa_size133, Va133⟩ := hQ133
      have N133 := Fr.app N120 Nq133
      have Ec3_x134 := Ec3_x121.keep Kc133
      have Fc3_x135 := Fc3_x122.keep Kc133 (ninS ne_b2_b35 (ninS ne_b2_rg nin0))
      have Ec12_x136 := Ec12_x123.keep Kc133
      have Fc12_x137 := Fc12_x124.keep Kc133 (ninS ne_b9_b35 (ninS ne_b9_rg nin0))
      have Ec25_x138 := Ec25_x125.keep Kc133
      have Fc25_x139 := Fc25_x126.keep Kc133 (ninS ne_b20_b35 (ninS ne_b20_rg nin0))
      have Ea120_x140 := Ea120.keep Kc133
      have Zc133 : n0 ≤ T133.heap.size := Nat.le_trans Zc120 Kc133.1
      refine own_tr st133 ?_
      show own_Go p.tables e below _ (T133.setTop (mkF m 145 #[.val (.long base), .second, .val (.long raw), .second, .val (.int delta), .val (.int count), .val (.int mode), .val (.long b), .second, .val (.int (2 : Int32)), .val (.long nn), .second, .val (.ref ms), .val (.ref b2), .val (.ref b9), .val (.ref b20), .val (.ref b35), .unset, .unset, .unset, .unset] []))
      refine own_st (fun _ k' => XS.iload X133.here hx rfl (hb hby at_145) rfl k') ?_
      show own_Go p.tables e below _ (T133.setTop (mkF m 147 #[.val (.long base), .second, .val (.long raw), .second, .val (.int delta), .val (.int count), .val (.int mode), .val (.long b), .second, .val (.int (2 : Int32)), .val (.long nn), .second, .val (.ref ms), .val (.ref b2), .val (.ref b9), .val (.ref b20), .val (.ref b35), .unset, .unset, .unset, .unset] [(.int (2 : Int32))]))
      refine own_st (fun _ k' => XS.iconst X133.here hx rfl (hb hby at_147) k') ?_
      show own_Go p.tables e below _ (T133.setTop (mkF m 148 #[.val (.long base), .second, .val (.long raw), .second, .val (.int delta), .val (.int count), .val (.int mode), .val (.long b), .second, .val (.int (2 : Int32)), .val (.long nn), .second, .val (.ref ms), .val (.ref b2), .val (.ref b9), .val (.ref b20), .val (.ref b35), .unset, .unset, .unset, .unset] [(.int (3 : Int32)), (.int (2 : Int32))]))
      refine own_st (fun _ k' => XS.icmpYes X133.here hx rfl (pc0 := 148) (pc' := 158) rfl (hb hby at_148) rfl (tlt (by decide : (2 : Int32) < (3 : Int32))).1 (by decide) (by decide) k') ?_
      show own_Go p.tables e below _ (T133.setTop (mkF m 158 #[.val (.long base), .second, .val (.long raw), .second, .val (.int delta), .val (.int count), .val (.int mode), .val (.long b), .second, .val (.int (2 : Int32)), .val (.long nn), .second, .val (.ref ms), .val (.ref b2), .val (.ref b9), .val (.ref b20), .val (.ref b35), .unset, .unset, .unset, .unset] []))
      refine own_st (fun _ k' => XS.aload X133.here hx rfl (hb hby at_158) rfl rfl k') ?_
      show own_Go p.tables e below _ (T133.setTop (mkF m 160 #[.val (.long base), .second, .val (.long raw), .second, .val (.int delta), .val (.int count), .val (.int mode), .val (.long b), .second, .val (.int (2 : Int32)), .val (.long nn), .second, .val (.ref ms), .val (.ref b2), .val (.ref b9), .val (.ref b20), .val (.ref b35), .unset, .unset, .unset, .unset] [(.ref b35)]))
      refine own_st (fun _ k' => XS.lload X133.here hx rfl (hb hby at_160) rfl k') ?_
      show own_Go p.tables e below _ (T133.setTop (mkF m 162 #[.val (.long base), .second, .val (.long raw), .second, .val (.int delta), .val (.int count), .val (.int mode), .val (.long b), .second, .val (.int (2 : Int32)), .val (.long nn), .second, .val (.ref ms), .val (.ref b2), .val (.ref b9), .val (.ref b20), .val (.ref b35), .unset, .unset, .unset, .unset] [(.long nn), (.ref b35)]))
      obtain ⟨cq146, kq146, q146a, q146b, q146c⟩ := isOf hZ rfl Ea133
      obtain ⟨_, _, ⟨T146, L146, k146, n146⟩, -, X146, ⟨Lc146, hQ146, l146, y146, z146⟩, st146⟩ := X133.virtualBack hx (y := (⟨"com/example/penumbra/penumbra/order/SequenceLog", "dropUpTo", "(J)V"⟩ : MethodName)) (z := (⟨"com/example/penumbra/penumbra/order/SequenceLog", "dropUpTo", "(J)V"⟩ : MethodName)) hown (mvT hZ (hw _ (List.mem_of_getElem? (i := 68) rfl))) (mvT hZ (hw _ (List.mem_of_getElem? (i := 69) rfl))) (notFace_of_selects (args := #[]) (mvT hZ (hw _ (List.mem_of_getElem? (i := 71) rfl)))) (mvT hZ (hw _ (List.mem_of_getElem? (i := 71) rfl))) (mvT hZ (hw _ (List.mem_of_getElem? (i := 70) rfl))) (by decide) (backOf (W := 0) (rmD2 l Z a0 hw [] b35 nn (b + (1 : Int64)) rg kk (.ref b2) (.ref b9) .null T133.heap n0 Zc133 Ea133 Fa_ring133 Fa_first133 Fa_head133 Fa_size133 Va133 OV ne_b35_rg g_b35 g_rg) hZ (hw _ (List.mem_of_getElem? (i := 72) rfl)) (hw _ (List.mem_of_getElem? (i := 28) rfl)) (by decide) (by decide)) q146a q146c (g := (mkF m 162 #[.val (.long base), .second, .val (.long raw), .second, .val (.int delta), .val (.int count), .val (.int mode), .val (.long b), .second, .val (.int (2 : Int32)), .val (.long nn), .second, .val (.ref ms), .val (.ref b2), .val (.ref b9), .val (.ref b20), .val (.ref b35), .unset, .unset, .unset, .unset] [(.long nn), (.ref b35)])) rfl (by rw [hml]; rfl) (Steps.refl _) (argsL := [(.long nn)]) (rest := []) (lenOf pd__J_V rfl) rfl (by show 2 * 0 + _ ≤ _; exact Nat.le_of_eq rfl) (hb hby at_162) (fun _ _ => ⟨rfl, rfl, (by decide : 6 + 0 ≤ _), (by decide : 1040 + 0 ≤ _)⟩)
      dsimp only [Pt.U, Pt.locs, Pt.cells, Pt.slots] at X146 l146 y146 z146 st146 hQ146
      subst l146 y146 z146
      obtain ⟨rfl, Nq146, Kc146, hD146⟩ := hQ146
      have N146 := Fr.app N133 Nq146
      have Ec3_x147 := Ec3_x134.keep Kc146
      have Fc3_x148 := Fc3_x135.keep Kc146 (ninS ne_b2_b35 (ninS ne_b2_rg nin0))
      have Ec12_x149 := Ec12_x136.keep Kc146
      have Fc12_x150 := Fc12_x137.keep Kc146 (ninS ne_b9_b35 (ninS ne_b9_rg nin0))
      have Ec25_x151 := Ec25_x138.keep Kc146
      have Fc25_x152 := Fc25_x139.keep Kc146 (ninS ne_b20_b35 (ninS ne_b20_rg nin0))
      have Ea133_x153 := Ea133.keep Kc146
      have Zc146 : n0 ≤ T146.heap.size := Nat.le_trans Zc133 Kc146.1
      rcases hD146 with ⟨hd0_0, Ea146, Fa_ring146, Fa_first146, Fa_head146, Fa_size146, Va146⟩ | ⟨hd1_0, hd1_1, Ea146, Fa_ring146, Fa_first146, Fa_head146, Fa_size146, Va146⟩ | ⟨hd2_0, Ea146, Fa_ring146, Fa_first146, Fa_head146, Fa_size146, Va146⟩
      ·  -- 0 dropped of 2
        refine own_tr st146 ?_
        show own_Go p.tables e below _ (T146.setTop (mkF m 165 #[.val (.long base), .second, .val (.long raw), .second, .val (.int delta), .val (.int count), .val (.int mode), .val (.long b), .second, .val (.int (2 : Int32)), .val (.long nn), .second, .val (.ref ms), .val (.ref b2), .val (.ref b9), .val (.ref b20), .val (.ref b35), .unset, .unset, .unset, .unset] []))
        refine own_st (fun _ k' => XS.lload X146.here hx rfl (hb hby at_165) rfl k') ?_
        show own_Go p.tables e below _ (T146.setTop (mkF m 167 #[.val (.long base), .second, .val (.long raw), .second, .val (.int delta), .val (.int count), .val (.int mode), .val (.long b), .second, .val (.int (2 : Int32)), .val (.long nn), .second, .val (.ref ms), .val (.ref b2), .val (.ref b9), .val (.ref b20), .val (.ref b35), .unset, .unset, .unset, .unset] [(.long b)]))
        refine own_st (fun _ k' => XS.iload X146.here hx rfl (hb hby at_167) rfl k') ?_
        show own_Go p.tables e below _ (T146.setTop (mkF m 169 #[.val (.long base), .second, .val (.long raw), .second, .val (.int delta), .val (.int count), .val (.int mode), .val (.long b), .second, .val (.int (2 : Int32)), .val (.long nn), .second, .val (.ref ms), .val (.ref b2), .val (.ref b9), .val (.ref b20), .val (.ref b35), .unset, .unset, .unset, .unset] [(.int (2 : Int32)), (.long b)]))
        refine own_st (fun _ k' => XS.i2l X146.here hx rfl (hb hby at_169) rfl k') ?_
        show own_Go p.tables e below _ (T146.setTop (mkF m 170 #[.val (.long base), .second, .val (.long raw), .second, .val (.int delta), .val (.int count), .val (.int mode), .val (.long b), .second, .val (.int (2 : Int32)), .val (.long nn), .second, .val (.ref ms), .val (.ref b2), .val (.ref b9), .val (.ref b20), .val (.ref b35), .unset, .unset, .unset, .unset] [(.long ((2 : Int32).toInt64)), (.long b)]))
        refine own_st (fun _ k' => XS.ladd X146.here hx rfl (hb hby at_170) rfl k') ?_
        show own_Go p.tables e below _ (T146.setTop (mkF m 171 #[.val (.long base), .second, .val (.long raw), .second, .val (.int delta), .val (.int count), .val (.int mode), .val (.long b), .second, .val (.int (2 : Int32)), .val (.long nn), .second, .val (.ref ms), .val (.ref b2), .val (.ref b9), .val (.ref b20), .val (.ref b35), .unset, .unset, .unset, .unset] [(.long (b + ((2 : Int32).toInt64)))]))
        refine own_st (fun _ k' => XS.lstore X146.here hx rfl (hb hby at_171) rfl (l' := #[.val (.long base), .second, .val (.long raw), .second, .val (.int delta), .val (.int count), .val (.int mode), .val (.long b), .second, .val (.int (2 : Int32)), .val (.long nn), .second, .val (.ref ms), .val (.ref b2), .val (.ref b9), .val (.ref b20), .val (.ref b35), .val (.long (b + ((2 : Int32).toInt64))), .second, .unset, .unset]) rfl k') ?_
        show own_Go p.tables e below _ (T146.setTop (mkF m 173 #[.val (.long base), .second, .val (.long raw), .second, .val (.int delta), .val (.int count), .val (.int mode), .val (.long b), .second, .val (.int (2 : Int32)), .val (.long nn), .second, .val (.ref ms), .val (.ref b2), .val (.ref b9), .val (.ref b20), .val (.ref b35), .val (.long (b + ((2 : Int32).toInt64))), .second, .unset, .unset] []))
        refine own_st (fun _ k' => XS.iload X146.here hx rfl (hb hby at_173) rfl k') ?_
        show own_Go p.tables e below _ (T146.setTop (mkF m 175 #[.val (.long base), .second, .val (.long raw), .second, .val (.int delta), .val (.int count), .val (.int mode), .val (.long b), .second, .val (.int (2 : Int32)), .val (.long nn), .second, .val (.ref ms), .val (.ref b2), .val (.ref b9), .val (.ref b20), .val (.ref b35), .val (.long (b + ((2 : Int32).toInt64))), .second, .unset, .unset] [(.int (2 : Int32))]))
        refine own_st (fun _ k' => XS.ifYes X146.here hx rfl (pc0 := 175) (pc' := 187) rfl (hb hby at_175) rfl ((if0 _ _).trans (feq (by decide : ¬ (2 : Int32) = (0 : Int32))).2) (by decide) (by decide) k') ?_
        show own_Go p.tables e below _ (T146.setTop (mkF m 187 #[.val (.long base), .second, .val (.long raw), .second, .val (.int delta), .val (.int count), .val (.int mode), .val (.long b), .second, .val (.int (2 : Int32)), .val (.long nn), .second, .val (.ref ms), .val (.ref b2), .val (.ref b9), .val (.ref b20), .val (.ref b35), .val (.long (b + ((2 : Int32).toInt64))), .second, .unset, .unset] []))
        refine own_st (fun _ k' => XS.lload X146.here hx rfl (hb hby at_187) rfl k') ?_
        show own_Go p.tables e below _ (T146.setTop (mkF m 189 #[.val (.long base), .second, .val (.long raw), .second, .val (.int delta), .val (.int count), .val (.int mode), .val (.long b), .second, .val (.int (2 : Int32)), .val (.long nn), .second, .val (.ref ms), .val (.ref b2), .val (.ref b9), .val (.ref b20), .val (.ref b35), .val (.long (b + ((2 : Int32).toInt64))), .second, .unset, .unset] [(.long nn)]))
        refine own_st (fun _ k' => XS.lload X146.here hx rfl (hb hby at_189) rfl k') ?_
        show own_Go p.tables e below _ (T146.setTop (mkF m 191 #[.val (.long base), .second, .val (.long raw), .second, .val (.int delta), .val (.int count), .val (.int mode), .val (.long b), .second, .val (.int (2 : Int32)), .val (.long nn), .second, .val (.ref ms), .val (.ref b2), .val (.ref b9), .val (.ref b20), .val (.ref b35), .val (.long (b + ((2 : Int32).toInt64))), .second, .unset, .unset] [(.long b), (.long nn)]))
        refine own_st (fun _ k' => XS.lcmp X146.here hx rfl (hb hby at_191) rfl k') ?_
        show own_Go p.tables e below _ (T146.setTop (mkF m 192 #[.val (.long base), .second, .val (.long raw), .second, .val (.int delta), .val (.int count), .val (.int mode), .val (.long b), .second, .val (.int (2 : Int32)), .val (.long nn), .second, .val (.ref ms), .val (.ref b2), .val (.ref b9), .val (.ref b20), .val (.ref b35), .val (.long (b + ((2 : Int32).toInt64))), .second, .unset, .unset] [(.int (lcmpW nn b))]))
        refine own_st (fun _ k' => XS.ifNo X146.here hx rfl (hb hby at_192) rfl ((if0 _ _).trans (flt (mt (lw_gt nn b).mp (by have := hbb; have := rng64 nn; have := rng64 b; have := (by decide : (1 : Int64).toInt = 1); have := c_ladd b (1 : Int64); have := rng64 (b + (1 : Int64)); have := (Int64.lt_iff_toInt_lt).mp hd0_0; refine mt (Int64.lt_iff_toInt_lt).mp ?_; omega : ¬ b < nn))).2.2.1) k') ?_
        show own_Go p.tables e below _ (T146.setTop (mkF m 195 #[.val (.long base), .second, .val (.long raw), .second, .val (.int delta), .val (.int count), .val (.int mode), .val (.long b), .second, .val (.int (2 : Int32)), .val (.long nn), .second, .val (.ref ms), .val (.ref b2), .val (.ref b9), .val (.ref b20), .val (.ref b35), .val (.long (b + ((2 : Int32).toInt64))), .second, .unset, .unset] []))
        refine own_st (fun _ k' => XS.lload X146.here hx rfl (hb hby at_195) rfl k') ?_
        show own_Go p.tables e below _ (T146.setTop (mkF m 197 #[.val (.long base), .second, .val (.long raw), .second, .val (.int delta), .val (.int count), .val (.int mode), .val (.long b), .second, .val (.int (2 : Int32)), .val (.long nn), .second, .val (.ref ms), .val (.ref b2), .val (.ref b9), .val (.ref b20), .val (.ref b35), .val (.long (b + ((2 : Int32).toInt64))), .second, .unset, .unset] [(.long b)]))
        refine own_st (fun _ k' => XS.lconst X146.here hx rfl (hb hby at_197) k') ?_
        show own_Go p.tables e below _ (T146.setTop (mkF m 198 #[.val (.long base), .second, .val (.long raw), .second, .val (.int delta), .val (.int count), .val (.int mode), .val (.long b), .second, .val (.int (2 : Int32)), .val (.long nn), .second, .val (.ref ms), .val (.ref b2), .val (.ref b9), .val (.ref b20), .val (.ref b35), .val (.long (b + ((2 : Int32).toInt64))), .second, .unset, .unset] [(.long (1 : Int64)), (.long b)]))
        refine own_st (fun _ k' => XS.ladd X146.here hx rfl (hb hby at_198) rfl k') ?_
        show own_Go p.tables e below _ (T146.setTop (mkF m 199 #[.val (.long base), .second, .val (.long raw), .second, .val (.int delta), .val (.int count), .val (.int mode), .val (.long b), .second, .val (.int (2 : Int32)), .val (.long nn), .second, .val (.ref ms), .val (.ref b2), .val (.ref b9), .val (.ref b20), .val (.ref b35), .val (.long (b + ((2 : Int32).toInt64))), .second, .unset, .unset] [(.long (b + (1 : Int64)))]))
        refine own_st (fun _ k' => XS.lstore X146.here hx rfl (hb hby at_199) rfl (l' := #[.val (.long base), .second, .val (.long raw), .second, .val (.int delta), .val (.int count), .val (.int mode), .val (.long b), .second, .val (.int (2 : Int32)), .val (.long nn), .second, .val (.ref ms), .val (.ref b2), .val (.ref b9), .val (.ref b20), .val (.ref b35), .val (.long (b + ((2 : Int32).toInt64))), .second, .val (.long (b + (1 : Int64))), .second]) rfl k') ?_
        show own_Go p.tables e below _ (T146.setTop (mkF m 201 #[.val (.long base), .second, .val (.long raw), .second, .val (.int delta), .val (.int count), .val (.int mode), .val (.long b), .second, .val (.int (2 : Int32)), .val (.long nn), .second, .val (.ref ms), .val (.ref b2), .val (.ref b9), .val (.ref b20), .val (.ref b35), .val (.long (b + ((2 : Int32).toInt64))), .second, .val (.long (b + (1 : Int64))), .second] []))
        refine own_st (fun _ k' => XS.goto X146.here hx rfl (pc0 := 201) (pc' := 227) rfl (hb hby at_201) (by decide) (by decide) k') ?_
        show own_Go p.tables e below _ (T146.setTop (mkF m 227 #[.val (.long base), .second, .val (.long raw), .second, .val (.int delta), .val (.int count), .val (.int mode), .val (.long b), .second, .val (.int (2 : Int32)), .val (.long nn), .second, .val (.ref ms), .val (.ref b2), .val (.ref b9), .val (.ref b20), .val (.ref b35), .val (.long (b + ((2 : Int32).toInt64))), .second, .val (.long (b + (1 : Int64))), .second] []))
        refine own_st (fun _ k' => XS.aload X146.here hx rfl (hb hby at_227) rfl rfl k') ?_
        show own_Go p.tables e below _ (T146.setTop (mkF m 229 #[.val (.long base), .second, .val (.long raw), .second, .val (.int delta), .val (.int count), .val (.int mode), .val (.long b), .second, .val (.int (2 : Int32)), .val (.long nn), .second, .val (.ref ms), .val (.ref b2), .val (.ref b9), .val (.ref b20), .val (.ref b35), .val (.long (b + ((2 : Int32).toInt64))), .second, .val (.long (b + (1 : Int64))), .second] [(.ref b35)]))
        obtain ⟨cq159, kq159, q159a, q159b, q159c⟩ := isOf hZ rfl Ea146
        obtain ⟨_, _, ⟨T159, L159, k159, n159⟩, -, X159, ⟨Lc159, hQ159, l159, y159, z159⟩, st159⟩ := X146.virtualBack hx (y := (⟨"com/example/penumbra/penumbra/order/SequenceLog", "first", "()J"⟩ : MethodName)) (z := (⟨"com/example/penumbra/penumbra/order/SequenceLog", "first", "()J"⟩ : MethodName)) hown (mvT hZ (hw _ (List.mem_of_getElem? (i := 73) rfl))) (mvT hZ (hw _ (List.mem_of_getElem? (i := 74) rfl))) (notFace_of_selects (args := #[]) (mvT hZ (hw _ (List.mem_of_getElem? (i := 76) rfl)))) (mvT hZ (hw _ (List.mem_of_getElem? (i := 76) rfl))) (mvT hZ (hw _ (List.mem_of_getElem? (i := 75) rfl))) (by decide) (backOf (W := 0) (rmFi l Z a0 hw [] b35 (b + (1 : Int64)) T146.heap n0 Zc146 Fa_first146) hZ (hw _ (List.mem_of_getElem? (i := 77) rfl)) (hw _ (List.mem_of_getElem? (i := 28) rfl)) (by decide) (by decide)) q159a q159c (g := (mkF m 229 #[.val (.long base), .second, .val (.long raw), .second, .val (.int delta), .val (.int count), .val (.int mode), .val (.long b), .second, .val (.int (2 : Int32)), .val (.long nn), .second, .val (.ref ms), .val (.ref b2), .val (.ref b9), .val (.ref b20), .val (.ref b35), .val (.long (b + ((2 : Int32).toInt64))), .second, .val (.long (b + (1 : Int64))), .second] [(.ref b35)])) rfl (by rw [hml]; rfl) (Steps.refl _) (argsL := []) (rest := []) (lenOf pd___J rfl) rfl (by show 2 * 0 + _ ≤ _; exact Nat.le_of_eq rfl) (hb hby at_229) (fun _ _ => ⟨rfl, rfl, (by decide : 6 + 0 ≤ _), (by decide : 1040 + 0 ≤ _)⟩)
        dsimp only [Pt.U, Pt.locs, Pt.cells, Pt.slots] at X159 l159 y159 z159 st159 hQ159
        subst l159 y159 z159
        obtain ⟨rfl, Nq159, e159⟩ := hQ159
        have N159 := Fr.app N146 Nq159
        refine own_tr st159 ?_
        show own_Go p.tables e below _ (T159.setTop (mkF m 232 #[.val (.long base), .second, .val (.long raw), .second, .val (.int delta), .val (.int count), .val (.int mode), .val (.long b), .second, .val (.int (2 : Int32)), .val (.long nn), .second, .val (.ref ms), .val (.ref b2), .val (.ref b9), .val (.ref b20), .val (.ref b35), .val (.long (b + ((2 : Int32).toInt64))), .second, .val (.long (b + (1 : Int64))), .second] [(.long (b + (1 : Int64)))]))
        refine own_st (fun _ k' => XS.lload X159.here hx rfl (hb hby at_232) rfl k') ?_
        show own_Go p.tables e below _ (T159.setTop (mkF m 234 #[.val (.long base), .second, .val (.long raw), .second, .val (.int delta), .val (.int count), .val (.int mode), .val (.long b), .second, .val (.int (2 : Int32)), .val (.long nn), .second, .val (.ref ms), .val (.ref b2), .val (.ref b9), .val (.ref b20), .val (.ref b35), .val (.long (b + ((2 : Int32).toInt64))), .second, .val (.long (b + (1 : Int64))), .second] [(.long (b + (1 : Int64))), (.long (b + (1 : Int64)))]))
        refine own_st (fun _ k' => XS.lcmp X159.here hx rfl (hb hby at_234) rfl k') ?_
        show own_Go p.tables e below _ (T159.setTop (mkF m 235 #[.val (.long base), .second, .val (.long raw), .second, .val (.int delta), .val (.int count), .val (.int mode), .val (.long b), .second, .val (.int (2 : Int32)), .val (.long nn), .second, .val (.ref ms), .val (.ref b2), .val (.ref b9), .val (.ref b20), .val (.ref b35), .val (.long (b + ((2 : Int32).toInt64))), .second, .val (.long (b + (1 : Int64))), .second] [(.int (lcmpW (b + (1 : Int64)) (b + (1 : Int64))))]))
        refine own_st (fun _ k' => XS.ifYes X159.here hx rfl (pc0 := 235) (pc' := 240) rfl (hb hby at_235) rfl ((if0 _ _).trans (teq ((lw_eq (b + (1 : Int64)) (b + (1 : Int64))).mpr (by have := hbb; have := rng64 nn; have := rng64 b; have := (by decide : (1 : Int64).toInt = 1); have := c_ladd b (1 : Int64); have := rng64 (b + (1 : Int64)); have := (Int64.lt_iff_toInt_lt).mp hd0_0; refine (Int64.toInt_inj.symm).mpr ?_; omega : (b + (1 : Int64)) = (b + (1 : Int64))))).1) (by decide) (by decide) k') ?_
        show own_Go p.tables e below _ (T159.setTop (mkF m 240 #[.val (.long base), .second, .val (.long raw), .second, .val (.int delta), .val (.int count), .val (.int mode), .val (.long b), .second, .val (.int (2 : Int32)), .val (.long nn), .second, .val (.ref ms), .val (.ref b2), .val (.ref b9), .val (.ref b20), .val (.ref b35), .val (.long (b + ((2 : Int32).toInt64))), .second, .val (.long (b + (1 : Int64))), .second] []))
        refine own_st (fun _ k' => XS.aload X159.here hx rfl (hb hby at_240) rfl rfl k') ?_
        show own_Go p.tables e below _ (T159.setTop (mkF m 242 #[.val (.long base), .second, .val (.long raw), .second, .val (.int delta), .val (.int count), .val (.int mode), .val (.long b), .second, .val (.int (2 : Int32)), .val (.long nn), .second, .val (.ref ms), .val (.ref b2), .val (.ref b9), .val (.ref b20), .val (.ref b35), .val (.long (b + ((2 : Int32).toInt64))), .second, .val (.long (b + (1 : Int64))), .second] [(.ref b35)]))
        obtain ⟨cq160, kq160, q160a, q160b, q160c⟩ := isOf hZ e159 Ea146
        obtain ⟨_, _, ⟨T160, L160, k160, n160⟩, -, X160, ⟨Lc160, hQ160, l160, y160, z160⟩, st160⟩ := X159.virtualBack hx (y := (⟨"com/example/penumbra/penumbra/order/SequenceLog", "last", "()J"⟩ : MethodName)) (z := (⟨"com/example/penumbra/penumbra/order/SequenceLog", "last", "()J"⟩ : MethodName)) hown (mvT hZ (hw _ (List.mem_of_getElem? (i := 78) rfl))) (mvT hZ (hw _ (List.mem_of_getElem? (i := 63) rfl))) (notFace_of_selects (args := #[]) (mvT hZ (hw _ (List.mem_of_getElem? (i := 65) rfl)))) (mvT hZ (hw _ (List.mem_of_getElem? (i := 65) rfl))) (mvT hZ (hw _ (List.mem_of_getElem? (i := 64) rfl))) (by decide) (backOf (W := 0) (rmLa l Z a0 hw [] b35 (b + (1 : Int64)) (2 : Int32) T146.heap n0 Zc146 Fa_first146 Fa_size146) hZ (hw _ (List.mem_of_getElem? (i := 66) rfl)) (hw _ (List.mem_of_getElem? (i := 28) rfl)) (by decide) (by decide)) q160a q160c (g := (mkF m 242 #[.val (.long base), .second, .val (.long raw), .second, .val (.int delta), .val (.int count), .val (.int mode), .val (.long b), .second, .val (.int (2 : Int32)), .val (.long nn), .second, .val (.ref ms), .val (.ref b2), .val (.ref b9), .val (.ref b20), .val (.ref b35), .val (.long (b + ((2 : Int32).toInt64))), .second, .val (.long (b + (1 : Int64))), .second] [(.ref b35)])) rfl (by rw [hml]; rfl) (Steps.refl _) (argsL := []) (rest := []) (lenOf pd___J rfl) rfl (by show 2 * 0 + _ ≤ _; exact Nat.le_of_eq rfl) (hb hby at_242) (fun _ _ => ⟨rfl, e159, (by decide : 6 + 0 ≤ _), (by decide : 1040 + 0 ≤ _)⟩)
        dsimp only [Pt.U, Pt.locs, Pt.cells, Pt.slots] at X160 l160 y160 z160 st160 hQ160
        subst l160 y160 z160
        obtain ⟨rfl, Nq160, e160⟩ := hQ160
        have N160 := Fr.app N159 Nq160
        refine own_tr st160 ?_
        show own_Go p.tables e below _ (T160.setTop (mkF m 245 #[.val (.long base), .second, .val (.long raw), .second, .val (.int delta), .val (.int count), .val (.int mode), .val (.long b), .second, .val (.int (2 : Int32)), .val (.long nn), .second, .val (.ref ms), .val (.ref b2), .val (.ref b9), .val (.ref b20), .val (.ref b35), .val (.long (b + ((2 : Int32).toInt64))), .second, .val (.long (b + (1 : Int64))), .second] [(.long (((b + (1 : Int64)) + ((2 : Int32).toInt64)) - (1 : Int64)))]))
        refine own_st (fun _ k' => XS.lload X160.here hx rfl (hb hby at_245) rfl k') ?_
        show own_Go p.tables e below _ (T160.setTop (mkF m 247 #[.val (.long base), .second, .val (.long raw), .second, .val (.int delta), .val (.int count), .val (.int mode), .val (.long b), .second, .val (.int (2 : Int32)), .val (.long nn), .second, .val (.ref ms), .val (.ref b2), .val (.ref b9), .val (.ref b20), .val (.ref b35), .val (.long (b + ((2 : Int32).toInt64))), .second, .val (.long (b + (1 : Int64))), .second] [(.long (b + ((2 : Int32).toInt64))), (.long (((b + (1 : Int64)) + ((2 : Int32).toInt64)) - (1 : Int64)))]))
        refine own_st (fun _ k' => XS.lcmp X160.here hx rfl (hb hby at_247) rfl k') ?_
        show own_Go p.tables e below _ (T160.setTop (mkF m 248 #[.val (.long base), .second, .val (.long raw), .second, .val (.int delta), .val (.int count), .val (.int mode), .val (.long b), .second, .val (.int (2 : Int32)), .val (.long nn), .second, .val (.ref ms), .val (.ref b2), .val (.ref b9), .val (.ref b20), .val (.ref b35), .val (.long (b + ((2 : Int32).toInt64))), .second, .val (.long (b + (1 : Int64))), .second] [(.int (lcmpW (((b + (1 : Int64)) + ((2 : Int32).toInt64)) - (1 : Int64)) (b + ((2 : Int32).toInt64))))]))
        refine own_st (fun _ k' => XS.ifYes X160.here hx rfl (pc0 := 248) (pc' := 253) rfl (hb hby at_248) rfl ((if0 _ _).trans (teq ((lw_eq (((b + (1 : Int64)) + ((2 : Int32).toInt64)) - (1 : Int64)) (b + ((2 : Int32).toInt64))).mpr (by have := hbb; have := rng64 nn; have := rng64 b; have := (by decide : (1 : Int64).toInt = 1); have := c_ladd b (1 : Int64); have := rng64 (b + (1 : Int64)); have := (by decide : ((2 : Int32).toInt64).toInt = 2); have := c_ladd (b + (1 : Int64)) (2 : Int32).toInt64; have := rng64 ((b + (1 : Int64)) + (2 : Int32).toInt64); have := c_lsub ((b + (1 : Int64)) + (2 : Int32).toInt64) (1 : Int64); have := rng64 (((b + (1 : Int64)) + (2 : Int32).toInt64) - (1 : Int64)); have := c_ladd b (2 : Int32).toInt64; have := rng64 (b + (2 : Int32).toInt64); have := (Int64.lt_iff_toInt_lt).mp hd0_0; refine (Int64.toInt_inj.symm).mpr ?_; omega : (((b + (1 : Int64)) + ((2 : Int32).toInt64)) - (1 : Int64)) = (b + ((2 : Int32).toInt64))))).1) (by decide) (by decide) k') ?_
        show own_Go p.tables e below _ (T160.setTop (mkF m 253 #[.val (.long base), .second, .val (.long raw), .second, .val (.int delta), .val (.int count), .val (.int mode), .val (.long b), .second, .val (.int (2 : Int32)), .val (.long nn), .second, .val (.ref ms), .val (.ref b2), .val (.ref b9), .val (.ref b20), .val (.ref b35), .val (.long (b + ((2 : Int32).toInt64))), .second, .val (.long (b + (1 : Int64))), .second] []))
        refine own_st (fun _ k' => XS.lload X160.here hx rfl (hb hby at_253) rfl k') ?_
        show own_Go p.tables e below _ (T160.setTop (mkF m 255 #[.val (.long base), .second, .val (.long raw), .second, .val (.int delta), .val (.int count), .val (.int mode), .val (.long b), .second, .val (.int (2 : Int32)), .val (.long nn), .second, .val (.ref ms), .val (.ref b2), .val (.ref b9), .val (.ref b20), .val (.ref b35), .val (.long (b + ((2 : Int32).toInt64))), .second, .val (.long (b + (1 : Int64))), .second] [(.long (b + (1 : Int64)))]))
        refine own_st (fun _ k' => XS.lload X160.here hx rfl (hb hby at_255) rfl k') ?_
        show own_Go p.tables e below _ (T160.setTop (mkF m 257 #[.val (.long base), .second, .val (.long raw), .second, .val (.int delta), .val (.int count), .val (.int mode), .val (.long b), .second, .val (.int (2 : Int32)), .val (.long nn), .second, .val (.ref ms), .val (.ref b2), .val (.ref b9), .val (.ref b20), .val (.ref b35), .val (.long (b + ((2 : Int32).toInt64))), .second, .val (.long (b + (1 : Int64))), .second] [(.long (b + ((2 : Int32).toInt64))), (.long (b + (1 : Int64)))]))
        refine own_st (fun _ k' => XS.lcmp X160.here hx rfl (hb hby at_257) rfl k') ?_
        show own_Go p.tables e below _ (T160.setTop (mkF m 258 #[.val (.long base), .second, .val (.long raw), .second, .val (.int delta), .val (.int count), .val (.int mode), .val (.long b), .second, .val (.int (2 : Int32)), .val (.long nn), .second, .val (.ref ms), .val (.ref b2), .val (.ref b9), .val (.ref b20), .val (.ref b35), .val (.long (b + ((2 : Int32).toInt64))), .second, .val (.long (b + (1 : Int64))), .second] [(.int (lcmpW (b + (1 : Int64)) (b + ((2 : Int32).toInt64))))]))
        refine own_st (fun _ k' => XS.ifNo X160.here hx rfl (hb hby at_258) rfl ((if0 _ _).trans (flt (mt (lw_gt (b + (1 : Int64)) (b + ((2 : Int32).toInt64))).mp (by have := hbb; have := rng64 nn; have := rng64 b; have := (by decide : (1 : Int64).toInt = 1); have := c_ladd b (1 : Int64); have := rng64 (b + (1 : Int64)); have := (by decide : ((2 : Int32).toInt64).toInt = 2); have := c_ladd b (2 : Int32).toInt64; have := rng64 (b + (2 : Int32).toInt64); have := (Int64.lt_iff_toInt_lt).mp hd0_0; refine mt (Int64.lt_iff_toInt_lt).mp ?_; omega : ¬ (b + ((2 : Int32).toInt64)) < (b + (1 : Int64))))).2.2.1) k') ?_
        show own_Go p.tables e below _ (T160.setTop (mkF m 261 #[.val (.long base), .second, .val (.long raw), .second, .val (.int delta), .val (.int count), .val (.int mode), .val (.long b), .second, .val (.int (2 : Int32)), .val (.long nn), .second, .val (.ref ms), .val (.ref b2), .val (.ref b9), .val (.ref b20), .val (.ref b35), .val (.long (b + ((2 : Int32).toInt64))), .second, .val (.long (b + (1 : Int64))), .second] []))
        refine own_st (fun _ k' => XS.aload X160.here hx rfl (hb hby at_261) rfl rfl k') ?_
        show own_Go p.tables e below _ (T160.setTop (mkF m 263 #[.val (.long base), .second, .val (.long raw), .second, .val (.int delta), .val (.int count), .val (.int mode), .val (.long b), .second, .val (.int (2 : Int32)), .val (.long nn), .second, .val (.ref ms), .val (.ref b2), .val (.ref b9), .val (.ref b20), .val (.ref b35), .val (.long (b + ((2 : Int32).toInt64))), .second, .val (.long (b + (1 : Int64))), .second] [(.ref b35)]))
        refine own_st (fun _ k' => XS.lload X160.here hx rfl (hb hby at_263) rfl k') ?_
        show own_Go p.tables e below _ (T160.setTop (mkF m 265 #[.val (.long base), .second, .val (.long raw), .second, .val (.int delta), .val (.int count), .val (.int mode), .val (.long b), .second, .val (.int (2 : Int32)), .val (.long nn), .second, .val (.ref ms), .val (.ref b2), .val (.ref b9), .val (.ref b20), .val (.ref b35), .val (.long (b + ((2 : Int32).toInt64))), .second, .val (.long (b + (1 : Int64))), .second] [(.long (b + (1 : Int64))), (.ref b35)]))
        have hdx161 : (((0 : Int32).toInt64 + (b + (1 : Int64))) - (b + (1 : Int64))) = (0 : Int64) := (by have := hbb; have := rng64 nn; have := rng64 b; have := (by decide : (1 : Int64).toInt = 1); have := c_ladd b (1 : Int64); have := rng64 (b + (1 : Int64)); have := (by decide : ((0 : Int32).toInt64).toInt = 0); have := c_ladd (0 : Int32).toInt64 (b + (1 : Int64)); have := rng64 ((0 : Int32).toInt64 + (b + (1 : Int64))); have := c_lsub ((0 : Int32).toInt64 + (b + (1 : Int64))) (b + (1 : Int64)); have := rng64 (((0 : Int32).toInt64 + (b + (1 : Int64))) - (b + (1 : Int64))); have := (by decide : (0 : Int64).toInt = 0); have := (Int64.lt_iff_toInt_lt).mp hd0_0; refine (Int64.toInt_inj.symm).mpr ?_; omega : (((0 : Int32).toInt64 + (b + (1 : Int64))) - (b + (1 : Int64))) = (0 : Int64))
        obtain ⟨cq162, kq162, q162a, q162b, q162c⟩ := isOf hZ e160 Ea146
        obtain ⟨_, _, ⟨T162, L162, k162, n162⟩, -, X162, ⟨Lc162, hQ162, l162, y162, z162⟩, st162⟩ := X160.virtualBack hx (y := (⟨"com/example/penumbra/penumbra/order/SequenceLog", "get", "(J)Lcom/example/penumbra/penumbra/order/SequenceLog$Entry;"⟩ : MethodName)) (z := (⟨"com/example/penumbra/penumbra/order/SequenceLog", "get", "(J)Lcom/example/penumbra/penumbra/order/SequenceLog$Entry;"⟩ : MethodName)) hown (mvT hZ (hw _ (List.mem_of_getElem? (i := 79) rfl))) (mvT hZ (hw _ (List.mem_of_getElem? (i := 80) rfl))) (notFace_of_selects (args := #[]) (mvT hZ (hw _ (List.mem_of_getElem? (i := 82) rfl)))) (mvT hZ (hw _ (List.mem_of_getElem? (i := 82) rfl))) (mvT hZ (hw _ (List.mem_of_getElem? (i := 81) rfl))) (by decide) (backOf (W := 0) (rmG l Z a0 hw [] b35 (b + (1 : Int64)) (b + (1 : Int64)) (0 : Int32) (2 : Int32) rg kk (.ref b2) (.ref b9) .null (0 : Int32) b2 T146.heap n0 Zc146 Ea146 Fa_ring146 Fa_first146 Fa_head146 Fa_size146 Va146 OV (by have := hbb; have := rng64 nn; have := rng64 b; have := (by decide : (1 : Int64).toInt = 1); have := c_ladd b (1 : Int64); have := rng64 (b + (1 : Int64)); have := (Int64.lt_iff_toInt_lt).mp hd0_0; refine mt (Int64.lt_iff_toInt_lt).mp ?_; omega : ¬ (b + (1 : Int64)) < (b + (1 : Int64))) (by have := hbb; have := rng64 nn; have := rng64 b; have := (by decide : (1 : Int64).toInt = 1); have := c_ladd b (1 : Int64); have := rng64 (b + (1 : Int64)); have := (by decide : ((2 : Int32).toInt64).toInt = 2); have := c_ladd (b + (1 : Int64)) (2 : Int32).toInt64; have := rng64 ((b + (1 : Int64)) + (2 : Int32).toInt64); have := c_lsub ((b + (1 : Int64)) + (2 : Int32).toInt64) (1 : Int64); have := rng64 (((b + (1 : Int64)) + (2 : Int32).toInt64) - (1 : Int64)); have := (Int64.lt_iff_toInt_lt).mp hd0_0; refine mt (Int64.lt_iff_toInt_lt).mp ?_; omega : ¬ (((b + (1 : Int64)) + ((2 : Int32).toInt64)) - (1 : Int64)) < (b + (1 : Int64))) (by rw [hdx161]; decide) (by decide) (by decide) rfl) hZ (hw _ (List.mem_of_getElem? (i := 83) rfl)) (hw _ (List.mem_of_getElem? (i := 28) rfl)) (by decide) (by decide)) q162a q162c (g := (mkF m 265 #[.val (.long base), .second, .val (.long raw), .second, .val (.int delta), .val (.int count), .val (.int mode), .val (.long b), .second, .val (.int (2 : Int32)), .val (.long nn), .second, .val (.ref ms), .val (.ref b2), .val (.ref b9), .val (.ref b20), .val (.ref b35), .val (.long (b + ((2 : Int32).toInt64))), .second, .val (.long (b + (1 : Int64))), .second] [(.long (b + (1 : Int64))), (.ref b35)])) rfl (by rw [hml]; rfl) (Steps.refl _) (argsL := [(.long (b + (1 : Int64)))]) (rest := []) (lenOf pd__J_Lcom_example_penumbra_penumbra_order_SequenceLog_Entry_ rfl) rfl (by show 2 * 0 + _ ≤ _; exact Nat.le_of_eq rfl) (hb hby at_265) (fun _ _ => ⟨rfl, e160, (by decide : 6 + 0 ≤ _), (by decide : 1040 + 0 ≤ _)⟩)
        dsimp only [Pt.U, Pt.locs, Pt.cells, Pt.slots] at X162 l162 y162 z162 st162 hQ162
        subst l162 y162 z162
        obtain ⟨rfl, Nq162, e162⟩ := hQ162
        have N162 := Fr.app N160 Nq162
        refine own_tr st162 ?_
        show own_Go p.tables e below _ (T162.setTop (mkF m 268 #[.val (.long base), .second, .val (.long raw), .second, .val (.int delta), .val (.int count), .val (.int mode), .val (.long b), .second, .val (.int (2 : Int32)), .val (.long nn), .second, .val (.ref ms), .val (.ref b2), .val (.ref b9), .val (.ref b20), .val (.ref b35), .val (.long (b + ((2 : Int32).toInt64))), .second, .val (.long (b + (1 : Int64))), .second] [(.ref b2)]))
        refine own_st (fun _ k' => XS.lload X162.here hx rfl (hb hby at_268) rfl k') ?_
        show own_Go p.tables e below _ (T162.setTop (mkF m 270 #[.val (.long base), .second, .val (.long raw), .second, .val (.int delta), .val (.int count), .val (.int mode), .val (.long b), .second, .val (.int (2 : Int32)), .val (.long nn), .second, .val (.ref ms), .val (.ref b2), .val (.ref b9), .val (.ref b20), .val (.ref b35), .val (.long (b + ((2 : Int32).toInt64))), .second, .val (.long (b + (1 : Int64))), .second] [(.long (b + (1 : Int64))), (.ref b2)]))
        refine own_st (fun _ k' => XS.lload X162.here hx rfl (hb hby at_270) rfl k') ?_
        show own_Go p.tables e below _ (T162.setTop (mkF m 272 #[.val (.long base), .second, .val (.long raw), .second, .val (.int delta), .val (.int count), .val (.int mode), .val (.long b), .second, .val (.int (2 : Int32)), .val (.long nn), .second, .val (.ref ms), .val (.ref b2), .val (.ref b9), .val (.ref b20), .val (.ref b35), .val (.long (b + ((2 : Int32).toInt64))), .second, .val (.long (b + (1 : Int64))), .second] [(.long b), (.long (b + (1 : Int64))), (.ref b2)]))
        refine own_st (fun _ k' => XS.lsub X162.here hx rfl (hb hby at_272) rfl k') ?_
        show own_Go p.tables e below _ (T162.setTop (mkF m 273 #[.val (.long base), .second, .val (.long raw), .second, .val (.int delta), .val (.int count), .val (.int mode), .val (.long b), .second, .val (.int (2 : Int32)), .val (.long nn), .second, .val (.ref ms), .val (.ref b2), .val (.ref b9), .val (.ref b20), .val (.ref b35), .val (.long (b + ((2 : Int32).toInt64))), .second, .val (.long (b + (1 : Int64))), .second] [(.long ((b + (1 : Int64)) - b)), (.ref b2)]))
        refine own_st (fun _ k' => XS.aload X162.here hx rfl (hb hby at_273) rfl rfl k') ?_
        show own_Go p.tables e below _ (T162.setTop (mkF m 275 #[.val (.long base), .second, .val (.long raw), .second, .val (.int delta), .val (.int count), .val (.int mode), .val (.long b), .second, .val (.int (2 : Int32)), .val (.long nn), .second, .val (.ref ms), .val (.ref b2), .val (.ref b9), .val (.ref b20), .val (.ref b35), .val (.long (b + ((2 : Int32).toInt64))), .second, .val (.long (b + (1 : Int64))), .second] [(.ref b2), (.long ((b + (1 : Int64)) - b)), (.ref b2)]))
        refine own_st (fun _ k' => XS.aload X162.here hx rfl (hb hby at_275) rfl rfl k') ?_
        show own_Go p.tables e below _ (T162.setTop (mkF m 277 #[.val (.long base), .second, .val (.long raw), .second, .val (.int delta), .val (.int count), .val (.int mode), .val (.long b), .second, .val (.int (2 : Int32)), .val (.long nn), .second, .val (.ref ms), .val (.ref b2), .val (.ref b9), .val (.ref b20), .val (.ref b35), .val (.long (b + ((2 : Int32).toInt64))), .second, .val (.long (b + (1 : Int64))), .second] [(.ref b9), (.ref b2), (.long ((b + (1 : Int64)) - b)), (.ref b2)]))
        refine own_st (fun _ k' => XS.aload X162.here hx rfl (hb hby at_277) rfl rfl k') ?_
        show own_Go p.tables e below _ (T162.setTop (mkF m 279 #[.val (.long base), .second, .val (.long raw), .second, .val (.int delta), .val (.int count), .val (.int mode), .val (.long b), .second, .val (.int (2 : Int32)), .val (.long nn), .second, .val (.ref ms), .val (.ref b2), .val (.ref b9), .val (.ref b20), .val (.ref b35), .val (.long (b + ((2 : Int32).toInt64))), .second, .val (.long (b + (1 : Int64))), .second] [(.ref b20), (.ref b9), (.ref b2), (.long ((b + (1 : Int64)) - b)), (.ref b2)]))
        have hpk163 : own_pk ((b + (1 : Int64)) - b) b2 b9 b20 = b2 := by
          have e : ((b + (1 : Int64)) - b) = (1 : Int64) := (by have := hbb; have := rng64 nn; have := rng64 b; have := (by decide : (1 : Int64).toInt = 1); have := c_ladd b (1 : Int64); have := rng64 (b + (1 : Int64)); have := c_lsub (b + (1 : Int64)) b; have := rng64 ((b + (1 : Int64)) - b); have := (Int64.lt_iff_toInt_lt).mp hd0_0; refine (Int64.toInt_inj.symm).mpr ?_; omega : ((b + (1 : Int64)) - b) = (1 : Int64))
          rw [e]; rfl
        obtain ⟨_, _, ⟨T164, L164, k164, n164⟩, -, X164, ⟨Lc164, hQ164, l164, y164, z164⟩, st164⟩ := Jvm.LawKit.callS X162 hx (y := (⟨"com/example/penumbra/penumbra/order/SequenceLogDropUpToPinLaw", "pick", "(JLcom/example/penumbra/penumbra/order/SequenceLog$Entry;Lcom/example/penumbra/penumbra/order/SequenceLog$Entry;Lcom/example/penumbra/penumbra/order/SequenceLog$Entry;)Lcom/example/penumbra/penumbra/order/SequenceLog$Entry;"⟩ : MethodName)) hown (mvT hZ (hw _ (List.mem_of_getElem? (i := 84) rfl))) (mvT hZ (hw _ (List.mem_of_getElem? (i := 85) rfl))) (mvT hZ (hw _ (List.mem_of_getElem? (i := 86) rfl))) (mvT hZ (hw _ (List.mem_of_getElem? (i := 87) rfl))) (by decide) (backOf (W := 1) (rmK l Z a0 hw [] ((b + (1 : Int64)) - b) b2 b9 b20 T146.heap n0 Zc146 ) hZ (hw _ (List.mem_of_getElem? (i := 87) rfl)) (hw _ (List.mem_of_getElem? (i := 86) rfl)) (by decide) (by decide)) (g := (mkF m 279 #[.val (.long base), .second, .val (.long raw), .second, .val (.int delta), .val (.int count), .val (.int mode), .val (.long b), .second, .val (.int (2 : Int32)), .val (.long nn), .second, .val (.ref ms), .val (.ref b2), .val (.ref b9), .val (.ref b20), .val (.ref b35), .val (.long (b + ((2 : Int32).toInt64))), .second, .val (.long (b + (1 : Int64))), .second] [(.ref b20), (.ref b9), (.ref b2), (.long ((b + (1 : Int64)) - b)), (.ref b2)])) rfl (by rw [hml]; rfl) (argsL := [(.long ((b + (1 : Int64)) - b)), (.ref b2), (.ref b9), (.ref b20)]) (rest := [(.ref b2)]) (lenOf pd__JLcom_example_penumbra_penumbra_order_SequenceLog_Entry_Lcom_example_penumbra_penumbra_order_SequenceLog_Entry_Lcom_example_penumbra_penumbra_order_SequenceLog_Entry__Lcom_example_penumbra_penumbra_order_SequenceLog_Entry_ rfl) rfl (by show 2 * 0 + _ ≤ _; exact Nat.le_of_eq rfl) (hb hby at_279) (fun _ _ => ⟨rfl, e162, (by decide : 6 + 0 ≤ _), (by decide : 1040 + 0 ≤ _)⟩)
        dsimp only [Pt.U, Pt.locs, Pt.cells, Pt.slots] at X164 l164 y164 z164 st164 hQ164
        subst l164 y164 z164
        rw [Q_rmK, hpk163] at hQ164
        obtain ⟨rfl, Nq164, e164⟩ := hQ164
        have N164 := Fr.app N162 Nq164
        refine own_st st164 ?_
        show own_Go p.tables e below _ (T164.setTop (mkF m 282 #[.val (.long base), .second, .val (.long raw), .second, .val (.int delta), .val (.int count), .val (.int mode), .val (.long b), .second, .val (.int (2 : Int32)), .val (.long nn), .second, .val (.ref ms), .val (.ref b2), .val (.ref b9), .val (.ref b20), .val (.ref b35), .val (.long (b + ((2 : Int32).toInt64))), .second, .val (.long (b + (1 : Int64))), .second] [(.ref b2), (.ref b2)]))
        refine own_st (fun _ k' => Jvm.RoadKit.acmp (g := (mkF m 282 #[.val (.long base), .second, .val (.long raw), .second, .val (.int delta), .val (.int count), .val (.int mode), .val (.long b), .second, .val (.int (2 : Int32)), .val (.long nn), .second, .val (.ref ms), .val (.ref b2), .val (.ref b9), .val (.ref b20), .val (.ref b35), .val (.long (b + ((2 : Int32).toInt64))), .second, .val (.long (b + (1 : Int64))), .second] [(.ref b2), (.ref b2)])) X164 hx rfl rfl rfl (pc0 := 282) (pc' := 287) (same := true) rfl (hb hby at_282) rfl (decide_eq_true rfl) (by decide) (by decide) k') ?_
        show own_Go p.tables e below _ (T164.setTop (mkF m 287 #[.val (.long base), .second, .val (.long raw), .second, .val (.int delta), .val (.int count), .val (.int mode), .val (.long b), .second, .val (.int (2 : Int32)), .val (.long nn), .second, .val (.ref ms), .val (.ref b2), .val (.ref b9), .val (.ref b20), .val (.ref b35), .val (.long (b + ((2 : Int32).toInt64))), .second, .val (.long (b + (1 : Int64))), .second] []))
        refine own_st (fun _ k' => XS.aload X164.here hx rfl (hb hby at_287) rfl rfl k') ?_
        show own_Go p.tables e below _ (T164.setTop (mkF m 289 #[.val (.long base), .second, .val (.long raw), .second, .val (.int delta), .val (.int count), .val (.int mode), .val (.long b), .second, .val (.int (2 : Int32)), .val (.long nn), .second, .val (.ref ms), .val (.ref b2), .val (.ref b9), .val (.ref b20), .val (.ref b35), .val (.long (b + ((2 : Int32).toInt64))), .second, .val (.long (b + (1 : Int64))), .second] [(.ref b35)]))
        refine own_st (fun _ k' => XS.lload X164.here hx rfl (hb hby at_289) rfl k') ?_
        show own_Go p.tables e below _ (T164.setTop (mkF m 291 #[.val (.long base), .second, .val (.long raw), .second, .val (.int delta), .val (.int count), .val (.int mode), .val (.long b), .second, .val (.int (2 : Int32)), .val (.long nn), .second, .val (.ref ms), .val (.ref b2), .val (.ref b9), .val (.ref b20), .val (.ref b35), .val (.long (b + ((2 : Int32).toInt64))), .second, .val (.long (b + (1 : Int64))), .second] [(.long (b + ((2 : Int32).toInt64))), (.ref b35)]))
        have hdx165 : (((0 : Int32).toInt64 + (b + ((2 : Int32).toInt64))) - (b + (1 : Int64))) = (1 : Int64) := (by have := hbb; have := rng64 nn; have := rng64 b; have := (by decide : (1 : Int64).toInt = 1); have := c_ladd b (1 : Int64); have := rng64 (b + (1 : Int64)); have := (by decide : ((0 : Int32).toInt64).toInt = 0); have := (by decide : ((2 : Int32).toInt64).toInt = 2); have := c_ladd b (2 : Int32).toInt64; have := rng64 (b + (2 : Int32).toInt64); have := c_ladd (0 : Int32).toInt64 (b + (2 : Int32).toInt64); have := rng64 ((0 : Int32).toInt64 + (b + (2 : Int32).toInt64)); have := c_lsub ((0 : Int32).toInt64 + (b + (2 : Int32).toInt64)) (b + (1 : Int64)); have := rng64 (((0 : Int32).toInt64 + (b + (2 : Int32).toInt64)) - (b + (1 : Int64))); have := (Int64.lt_iff_toInt_lt).mp hd0_0; refine (Int64.toInt_inj.symm).mpr ?_; omega : (((0 : Int32).toInt64 + (b + ((2 : Int32).toInt64))) - (b + (1 : Int64))) = (1 : Int64))
        obtain ⟨cq166, kq166, q166a, q166b, q166c⟩ := isOf hZ e164 Ea146
        obtain ⟨_, _, ⟨T166, L166, k166, n166⟩, -, X166, ⟨Lc166, hQ166, l166, y166, z166⟩, st166⟩ := X164.virtualBack hx (y := (⟨"com/example/penumbra/penumbra/order/SequenceLog", "get", "(J)Lcom/example/penumbra/penumbra/order/SequenceLog$Entry;"⟩ : MethodName)) (z := (⟨"com/example/penumbra/penumbra/order/SequenceLog", "get", "(J)Lcom/example/penumbra/penumbra/order/SequenceLog$Entry;"⟩ : MethodName)) hown (mvT hZ (hw _ (List.mem_of_getElem? (i := 79) rfl))) (mvT hZ (hw _ (List.mem_of_getElem? (i := 80) rfl))) (notFace_of_selects (args := #[]) (mvT hZ (hw _ (List.mem_of_getElem? (i := 82) rfl)))) (mvT hZ (hw _ (List.mem_of_getElem? (i := 82) rfl))) (mvT hZ (hw _ (List.mem_of_getElem? (i := 81) rfl))) (by decide) (backOf (W := 0) (rmG l Z a0 hw [] b35 (b + ((2 : Int32).toInt64)) (b + (1 : Int64)) (0 : Int32) (2 : Int32) rg kk (.ref b2) (.ref b9) .null (1 : Int32) b9 T146.heap n0 Zc146 Ea146 Fa_ring146 Fa_first146 Fa_head146 Fa_size146 Va146 OV (by have := hbb; have := rng64 nn; have := rng64 b; have := (by decide : (1 : Int64).toInt = 1); have := c_ladd b (1 : Int64); have := rng64 (b + (1 : Int64)); have := (by decide : ((2 : Int32).toInt64).toInt = 2); have := c_ladd b (2 : Int32).toInt64; have := rng64 (b + (2 : Int32).toInt64); have := (Int64.lt_iff_toInt_lt).mp hd0_0; refine mt (Int64.lt_iff_toInt_lt).mp ?_; omega : ¬ (b + ((2 : Int32).toInt64)) < (b + (1 : Int64))) (by have := hbb; have := rng64 nn; have := rng64 b; have := (by decide : (1 : Int64).toInt = 1); have := c_ladd b (1 : Int64); have := rng64 (b + (1 : Int64)); have := (by decide : ((2 : Int32).toInt64).toInt = 2); have := c_ladd (b + (1 : Int64)) (2 : Int32).toInt64; have := rng64 ((b + (1 : Int64)) + (2 : Int32).toInt64); have := c_lsub ((b + (1 : Int64)) + (2 : Int32).toInt64) (1 : Int64); have := rng64 (((b + (1 : Int64)) + (2 : Int32).toInt64) - (1 : Int64)); have := c_ladd b (2 : Int32).toInt64; have := rng64 (b + (2 : Int32).toInt64); have := (Int64.lt_iff_toInt_lt).mp hd0_0; refine mt (Int64.lt_iff_toInt_lt).mp ?_; omega : ¬ (((b + (1 : Int64)) + ((2 : Int32).toInt64)) - (1 : Int64)) < (b + ((2 : Int32).toInt64))) (by rw [hdx165]; decide) (by decide) (by decide) rfl) hZ (hw _ (List.mem_of_getElem? (i := 83) rfl)) (hw _ (List.mem_of_getElem? (i := 28) rfl)) (by decide) (by decide)) q166a q166c (g := (mkF m 291 #[.val (.long base), .second, .val (.long raw), .second, .val (.int delta), .val (.int count), .val (.int mode), .val (.long b), .second, .val (.int (2 : Int32)), .val (.long nn), .second, .val (.ref ms), .val (.ref b2), .val (.ref b9), .val (.ref b20), .val (.ref b35), .val (.long (b + ((2 : Int32).toInt64))), .second, .val (.long (b + (1 : Int64))), .second] [(.long (b + ((2 : Int32).toInt64))), (.ref b35)])) rfl (by rw [hml]; rfl) (Steps.refl _) (argsL := [(.long (b + ((2 : Int32).toInt64)))]) (rest := []) (lenOf pd__J_Lcom_example_penumbra_penumbra_order_SequenceLog_Entry_ rfl) rfl (by show 2 * 0 + _ ≤ _; exact Nat.le_of_eq rfl) (hb hby at_291) (fun _ _ => ⟨rfl, e164, (by decide : 6 + 0 ≤ _), (by decide : 1040 + 0 ≤ _)⟩)
        dsimp only [Pt.U, Pt.locs, Pt.cells, Pt.slots] at X166 l166 y166 z166 st166 hQ166
        subst l166 y166 z166
        obtain ⟨rfl, Nq166, e166⟩ := hQ166
        have N166 := Fr.app N164 Nq166
        refine own_tr st166 ?_
        show own_Go p.tables e below _ (T166.setTop (mkF m 294 #[.val (.long base), .second, .val (.long raw), .second, .val (.int delta), .val (.int count), .val (.int mode), .val (.long b), .second, .val (.int (2 : Int32)), .val (.long nn), .second, .val (.ref ms), .val (.ref b2), .val (.ref b9), .val (.ref b20), .val (.ref b35), .val (.long (b + ((2 : Int32).toInt64))), .second, .val (.long (b + (1 : Int64))), .second] [(.ref b9)]))
        refine own_st (fun _ k' => XS.iload X166.here hx rfl (hb hby at_294) rfl k') ?_
        show own_Go p.tables e below _ (T166.setTop (mkF m 296 #[.val (.long base), .second, .val (.long raw), .second, .val (.int delta), .val (.int count), .val (.int mode), .val (.long b), .second, .val (.int (2 : Int32)), .val (.long nn), .second, .val (.ref ms), .val (.ref b2), .val (.ref b9), .val (.ref b20), .val (.ref b35), .val (.long (b + ((2 : Int32).toInt64))), .second, .val (.long (b + (1 : Int64))), .second] [(.int (2 : Int32)), (.ref b9)]))
        refine own_st (fun _ k' => XS.i2l X166.here hx rfl (hb hby at_296) rfl k') ?_
        show own_Go p.tables e below _ (T166.setTop (mkF m 297 #[.val (.long base), .second, .val (.long raw), .second, .val (.int delta), .val (.int count), .val (.int mode), .val (.long b), .second, .val (.int (2 : Int32)), .val (.long nn), .second, .val (.ref ms), .val (.ref b2), .val (.ref b9), .val (.ref b20), .val (.ref b35), .val (.long (b + ((2 : Int32).toInt64))), .second, .val (.long (b + (1 : Int64))), .second] [(.long ((2 : Int32).toInt64)), (.ref b9)]))
        refine own_st (fun _ k' => XS.aload X166.here hx rfl (hb hby at_297) rfl rfl k') ?_
        show own_Go p.tables e below _ (T166.setTop (mkF m 299 #[.val (.long base), .second, .val (.long raw), .second, .val (.int delta), .val (.int count), .val (.int mode), .val (.long b), .second, .val (.int (2 : Int32)), .val (.long nn), .second, .val (.ref ms), .val (.ref b2), .val (.ref b9), .val (.ref b20), .val (.ref b35), .val (.long (b + ((2 : Int32).toInt64))), .second, .val (.long (b + (1 : Int64))), .second] [(.ref b2), (.long ((2 : Int32).toInt64)), (.ref b9)]))
        refine own_st (fun _ k' => XS.aload X166.here hx rfl (hb hby at_299) rfl rfl k') ?_
        show own_Go p.tables e below _ (T166.setTop (mkF m 301 #[.val (.long base), .second, .val (.long raw), .second, .val (.int delta), .val (.int count), .val (.int mode), .val (.long b), .second, .val (.int (2 : Int32)), .val (.long nn), .second, .val (.ref ms), .val (.ref b2), .val (.ref b9), .val (.ref b20), .val (.ref b35), .val (.long (b + ((2 : Int32).toInt64))), .second, .val (.long (b + (1 : Int64))), .second] [(.ref b9), (.ref b2), (.long ((2 : Int32).toInt64)), (.ref b9)]))
        refine own_st (fun _ k' => XS.aload X166.here hx rfl (hb hby at_301) rfl rfl k') ?_
        show own_Go p.tables e below _ (T166.setTop (mkF m 303 #[.val (.long base), .second, .val (.long raw), .second, .val (.int delta), .val (.int count), .val (.int mode), .val (.long b), .second, .val (.int (2 : Int32)), .val (.long nn), .second, .val (.ref ms), .val (.ref b2), .val (.ref b9), .val (.ref b20), .val (.ref b35), .val (.long (b + ((2 : Int32).toInt64))), .second, .val (.long (b + (1 : Int64))), .second] [(.ref b20), (.ref b9), (.ref b2), (.long ((2 : Int32).toInt64)), (.ref b9)]))
        have hpk167 : own_pk ((2 : Int32).toInt64) b2 b9 b20 = b9 := by
          have e : ((2 : Int32).toInt64) = (2 : Int64) := (by have := hbb; have := rng64 nn; have := rng64 b; have := (by decide : (1 : Int64).toInt = 1); have := c_ladd b (1 : Int64); have := rng64 (b + (1 : Int64)); have := (by decide : ((2 : Int32).toInt64).toInt = 2); have := (by decide : (2 : Int64).toInt = 2); have := (Int64.lt_iff_toInt_lt).mp hd0_0; refine (Int64.toInt_inj.symm).mpr ?_; omega : ((2 : Int32).toInt64) = (2 : Int64))
          rw [e]; rfl
        obtain ⟨_, _, ⟨T168, L168, k168, n168⟩, -, X168, ⟨Lc168, hQ168, l168, y168, z168⟩, st168⟩ := Jvm.LawKit.callS X166 hx (y := (⟨"com/example/penumbra/penumbra/order/SequenceLogDropUpToPinLaw", "pick", "(JLcom/example/penumbra/penumbra/order/SequenceLog$Entry;Lcom/example/penumbra/penumbra/order/SequenceLog$Entry;Lcom/example/penumbra/penumbra/order/SequenceLog$Entry;)Lcom/example/penumbra/penumbra/order/SequenceLog$Entry;"⟩ : MethodName)) hown (mvT hZ (hw _ (List.mem_of_getElem? (i := 84) rfl))) (mvT hZ (hw _ (List.mem_of_getElem? (i := 85) rfl))) (mvT hZ (hw _ (List.mem_of_getElem? (i := 86) rfl))) (mvT hZ (hw _ (List.mem_of_getElem? (i := 87) rfl))) (by decide) (backOf (W := 1) (rmK l Z a0 hw [] ((2 : Int32).toInt64) b2 b9 b20 T146.heap n0 Zc146 ) hZ (hw _ (List.mem_of_getElem? (i := 87) rfl)) (hw _ (List.mem_of_getElem? (i := 86) rfl)) (by decide) (by decide)) (g := (mkF m 303 #[.val (.long base), .second, .val (.long raw), .second, .val (.int delta), .val (.int count), .val (.int mode), .val (.long b), .second, .val (.int (2 : Int32)), .val (.long nn), .second, .val (.ref ms), .val (.ref b2), .val (.ref b9), .val (.ref b20), .val (.ref b35), .val (.long (b + ((2 : Int32).toInt64))), .second, .val (.long (b + (1 : Int64))), .second] [(.ref b20), (.ref b9), (.ref b2), (.long ((2 : Int32).toInt64)), (.ref b9)])) rfl (by rw [hml]; rfl) (argsL := [(.long ((2 : Int32).toInt64)), (.ref b2), (.ref b9), (.ref b20)]) (rest := [(.ref b9)]) (lenOf pd__JLcom_example_penumbra_penumbra_order_SequenceLog_Entry_Lcom_example_penumbra_penumbra_order_SequenceLog_Entry_Lcom_example_penumbra_penumbra_order_SequenceLog_Entry__Lcom_example_penumbra_penumbra_order_SequenceLog_Entry_ rfl) rfl (by show 2 * 0 + _ ≤ _; exact Nat.le_of_eq rfl) (hb hby at_303) (fun _ _ => ⟨rfl, e166, (by decide : 6 + 0 ≤ _), (by decide : 1040 + 0 ≤ _)⟩)
        dsimp only [Pt.U, Pt.locs, Pt.cells, Pt.slots] at X168 l168 y168 z168 st168 hQ168
        subst l168 y168 z168
        rw [Q_rmK, hpk167] at hQ168
        obtain ⟨rfl, Nq168, e168⟩ := hQ168
        have N168 := Fr.app N166 Nq168
        refine own_st st168 ?_
        show own_Go p.tables e below _ (T168.setTop (mkF m 306 #[.val (.long base), .second, .val (.long raw), .second, .val (.int delta), .val (.int count), .val (.int mode), .val (.long b), .second, .val (.int (2 : Int32)), .val (.long nn), .second, .val (.ref ms), .val (.ref b2), .val (.ref b9), .val (.ref b20), .val (.ref b35), .val (.long (b + ((2 : Int32).toInt64))), .second, .val (.long (b + (1 : Int64))), .second] [(.ref b9), (.ref b9)]))
        refine own_st (fun _ k' => Jvm.RoadKit.acmp (g := (mkF m 306 #[.val (.long base), .second, .val (.long raw), .second, .val (.int delta), .val (.int count), .val (.int mode), .val (.long b), .second, .val (.int (2 : Int32)), .val (.long nn), .second, .val (.ref ms), .val (.ref b2), .val (.ref b9), .val (.ref b20), .val (.ref b35), .val (.long (b + ((2 : Int32).toInt64))), .second, .val (.long (b + (1 : Int64))), .second] [(.ref b9), (.ref b9)])) X168 hx rfl rfl rfl (pc0 := 306) (pc' := 311) (same := true) rfl (hb hby at_306) rfl (decide_eq_true rfl) (by decide) (by decide) k') ?_
        show own_Go p.tables e below _ (T168.setTop (mkF m 311 #[.val (.long base), .second, .val (.long raw), .second, .val (.int delta), .val (.int count), .val (.int mode), .val (.long b), .second, .val (.int (2 : Int32)), .val (.long nn), .second, .val (.ref ms), .val (.ref b2), .val (.ref b9), .val (.ref b20), .val (.ref b35), .val (.long (b + ((2 : Int32).toInt64))), .second, .val (.long (b + (1 : Int64))), .second] []))
        refine own_st (fun _ k' => XS.iconst X168.here hx rfl (hb hby at_311) k') ?_
        show own_Go p.tables e below _ (T168.setTop (mkF m 312 #[.val (.long base), .second, .val (.long raw), .second, .val (.int delta), .val (.int count), .val (.int mode), .val (.long b), .second, .val (.int (2 : Int32)), .val (.long nn), .second, .val (.ref ms), .val (.ref b2), .val (.ref b9), .val (.ref b20), .val (.ref b35), .val (.long (b + ((2 : Int32).toInt64))), .second, .val (.long (b + (1 : Int64))), .second] [(.int (1 : Int32))]))
        exact own_retN X168 hx (t := .boolean) Bd.returns (by simp) (hb hby at_312) Bd.notSynchronized ⟨rfl, N168⟩ (by decide) (by decide)
      ·  -- 1 dropped of 2
        refine own_tr st146 ?_
        show own_Go p.tables e below _ (T146.setTop (mkF m 165 #[.val (.long base), .second, .val (.long raw), .second, .val (.int delta), .val (.int count), .val (.int mode), .val (.long b), .second, .val (.int (2 : Int32)), .val (.long nn), .second, .val (.ref ms), .val (.ref b2), .val (.ref b9), .val (.ref b20), .val (.ref b35), .unset, .unset, .unset, .unset] []))
        refine own_st (fun _ k' => XS.lload X146.here hx rfl (hb hby at_165) rfl k') ?_
        show own_Go p.tables e below _ (T146.setTop (mkF m 167 #[.val (.long base), .second, .val (.long raw), .second, .val (.int delta), .val (.int count), .val (.int mode), .val (.long b), .second, .val (.int (2 : Int32)), .val (.long nn), .second, .val (.ref ms), .val (.ref b2), .val (.ref b9), .val (.ref b20), .val (.ref b35), .unset, .unset, .unset, .unset] [(.long b)]))
        refine own_st (fun _ k' => XS.iload X146.here hx rfl (hb hby at_167) rfl k') ?_
        show own_Go p.tables e below _ (T146.setTop (mkF m 169 #[.val (.long base), .second, .val (.long raw), .second, .val (.int delta), .val (.int count), .val (.int mode), .val (.long b), .second, .val (.int (2 : Int32)), .val (.long nn), .second, .val (.ref ms), .val (.ref b2), .val (.ref b9), .val (.ref b20), .val (.ref b35), .unset, .unset, .unset, .unset] [(.int (2 : Int32)), (.long b)]))
        refine own_st (fun _ k' => XS.i2l X146.here hx rfl (hb hby at_169) rfl k') ?_
        show own_Go p.tables e below _ (T146.setTop (mkF m 170 #[.val (.long base), .second, .val (.long raw), .second, .val (.int delta), .val (.int count), .val (.int mode), .val (.long b), .second, .val (.int (2 : Int32)), .val (.long nn), .second, .val (.ref ms), .val (.ref b2), .val (.ref b9), .val (.ref b20), .val (.ref b35), .unset, .unset, .unset, .unset] [(.long ((2 : Int32).toInt64)), (.long b)]))
        refine own_st (fun _ k' => XS.ladd X146.here hx rfl (hb hby at_170) rfl k') ?_
        show own_Go p.tables e below _ (T146.setTop (mkF m 171 #[.val (.long base), .second, .val (.long raw), .second, .val (.int delta), .val (.int count), .val (.int mode), .val (.long b), .second, .val (.int (2 : Int32)), .val (.long nn), .second, .val (.ref ms), .val (.ref b2), .val (.ref b9), .val (.ref b20), .val (.ref b35), .unset, .unset, .unset, .unset] [(.long (b + ((2 : Int32).toInt64)))]))
        refine own_st (fun _ k' => XS.lstore X146.here hx rfl (hb hby at_171) rfl (l' := #[.val (.long base), .second, .val (.long raw), .second, .val (.int delta), .val (.int count), .val (.int mode), .val (.long b), .second, .val (.int (2 : Int32)), .val (.long nn), .second, .val (.ref ms), .val (.ref b2), .val (.ref b9), .val (.ref b20), .val (.ref b35), .val (.long (b + ((2 : Int32).toInt64))), .second, .unset, .unset]) rfl k') ?_
        show own_Go p.tables e below _ (T146.setTop (mkF m 173 #[.val (.long base), .second, .val (.long raw), .second, .val (.int delta), .val (.int count), .val (.int mode), .val (.long b), .second, .val (.int (2 : Int32)), .val (.long nn), .second, .val (.ref ms), .val (.ref b2), .val (.ref b9), .val (.ref b20), .val (.ref b35), .val (.long (b + ((2 : Int32).toInt64))), .second, .unset, .unset] []))
        refine own_st (fun _ k' => XS.iload X146.here hx rfl (hb hby at_173) rfl k') ?_
        show own_Go p.tables e below _ (T146.setTop (mkF m 175 #[.val (.long base), .second, .val (.long raw), .second, .val (.int delta), .val (.int count), .val (.int mode), .val (.long b), .second, .val (.int (2 : Int32)), .val (.long nn), .second, .val (.ref ms), .val (.ref b2), .val (.ref b9), .val (.ref b20), .val (.ref b35), .val (.long (b + ((2 : Int32).toInt64))), .second, .unset, .unset] [(.int (2 : Int32))]))
        refine own_st (fun _ k' => XS.ifYes X146.here hx rfl (pc0 := 175) (pc' := 187) rfl (hb hby at_175) rfl ((if0 _ _).trans (feq (by decide : ¬ (2 : Int32) = (0 : Int32))).2) (by decide) (by decide) k') ?_
        show own_Go p.tables e below _ (T146.setTop (mkF m 187 #[.val (.long base), .second, .val (.long raw), .second, .val (.int delta), .val (.int count), .val (.int mode), .val (.long b), .second, .val (.int (2 : Int32)), .val (.long nn), .second, .val (.ref ms), .val (.ref b2), .val (.ref b9), .val (.ref b20), .val (.ref b35), .val (.long (b + ((2 : Int32).toInt64))), .second, .unset, .unset] []))
        refine own_st (fun _ k' => XS.lload X146.here hx rfl (hb hby at_187) rfl k') ?_
        show own_Go p.tables e below _ (T146.setTop (mkF m 189 #[.val (.long base), .second, .val (.long raw), .second, .val (.int delta), .val (.int count), .val (.int mode), .val (.long b), .second, .val (.int (2 : Int32)), .val (.long nn), .second, .val (.ref ms), .val (.ref b2), .val (.ref b9), .val (.ref b20), .val (.ref b35), .val (.long (b + ((2 : Int32).toInt64))), .second, .unset, .unset] [(.long nn)]))
        refine own_st (fun _ k' => XS.lload X146.here hx rfl (hb hby at_189) rfl k') ?_
        show own_Go p.tables e below _ (T146.setTop (mkF m 191 #[.val (.long base), .second, .val (.long raw), .second, .val (.int delta), .val (.int count), .val (.int mode), .val (.long b), .second, .val (.int (2 : Int32)), .val (.long nn), .second, .val (.ref ms), .val (.ref b2), .val (.ref b9), .val (.ref b20), .val (.ref b35), .val (.long (b + ((2 : Int32).toInt64))), .second, .unset, .unset] [(.long b), (.long nn)]))
        refine own_st (fun _ k' => XS.lcmp X146.here hx rfl (hb hby at_191) rfl k') ?_
        show own_Go p.tables e below _ (T146.setTop (mkF m 192 #[.val (.long base), .second, .val (.long raw), .second, .val (.int delta), .val (.int count), .val (.int mode), .val (.long b), .second, .val (.int (2 : Int32)), .val (.long nn), .second, .val (.ref ms), .val (.ref b2), .val (.ref b9), .val (.ref b20), .val (.ref b35), .val (.long (b + ((2 : Int32).toInt64))), .second, .unset, .unset] [(.int (lcmpW nn b))]))
        refine own_st (fun _ k' => XS.ifYes X146.here hx rfl (pc0 := 192) (pc' := 204) rfl (hb hby at_192) rfl ((if0 _ _).trans (tlt ((lw_gt nn b).mpr (by have := hbb; have := rng64 nn; have := rng64 b; have := (by decide : (1 : Int64).toInt = 1); have := c_ladd b (1 : Int64); have := rng64 (b + (1 : Int64)); have := c_ladd (b + (1 : Int64)) (1 : Int64); have := rng64 ((b + (1 : Int64)) + (1 : Int64)); have := (Int64.lt_iff_toInt_lt).mp hd1_0; have := mt (Int64.lt_iff_toInt_lt).mpr hd1_1; refine (Int64.lt_iff_toInt_lt).mpr ?_; omega : b < nn))).2.2.1) (by decide) (by decide) k') ?_
        show own_Go p.tables e below _ (T146.setTop (mkF m 204 #[.val (.long base), .second, .val (.long raw), .second, .val (.int delta), .val (.int count), .val (.int mode), .val (.long b), .second, .val (.int (2 : Int32)), .val (.long nn), .second, .val (.ref ms), .val (.ref b2), .val (.ref b9), .val (.ref b20), .val (.ref b35), .val (.long (b + ((2 : Int32).toInt64))), .second, .unset, .unset] []))
        refine own_st (fun _ k' => XS.lload X146.here hx rfl (hb hby at_204) rfl k') ?_
        show own_Go p.tables e below _ (T146.setTop (mkF m 206 #[.val (.long base), .second, .val (.long raw), .second, .val (.int delta), .val (.int count), .val (.int mode), .val (.long b), .second, .val (.int (2 : Int32)), .val (.long nn), .second, .val (.ref ms), .val (.ref b2), .val (.ref b9), .val (.ref b20), .val (.ref b35), .val (.long (b + ((2 : Int32).toInt64))), .second, .unset, .unset] [(.long nn)]))
        refine own_st (fun _ k' => XS.lload X146.here hx rfl (hb hby at_206) rfl k') ?_
        show own_Go p.tables e below _ (T146.setTop (mkF m 208 #[.val (.long base), .second, .val (.long raw), .second, .val (.int delta), .val (.int count), .val (.int mode), .val (.long b), .second, .val (.int (2 : Int32)), .val (.long nn), .second, .val (.ref ms), .val (.ref b2), .val (.ref b9), .val (.ref b20), .val (.ref b35), .val (.long (b + ((2 : Int32).toInt64))), .second, .unset, .unset] [(.long (b + ((2 : Int32).toInt64))), (.long nn)]))
        refine own_st (fun _ k' => XS.lcmp X146.here hx rfl (hb hby at_208) rfl k') ?_
        show own_Go p.tables e below _ (T146.setTop (mkF m 209 #[.val (.long base), .second, .val (.long raw), .second, .val (.int delta), .val (.int count), .val (.int mode), .val (.long b), .second, .val (.int (2 : Int32)), .val (.long nn), .second, .val (.ref ms), .val (.ref b2), .val (.ref b9), .val (.ref b20), .val (.ref b35), .val (.long (b + ((2 : Int32).toInt64))), .second, .unset, .unset] [(.int (lcmpW nn (b + ((2 : Int32).toInt64))))]))
        refine own_st (fun _ k' => XS.ifYes X146.here hx rfl (pc0 := 209) (pc' := 221) rfl (hb hby at_209) rfl ((if0 _ _).trans (tlt ((lw_lt nn (b + ((2 : Int32).toInt64))).mpr (by have := hbb; have := rng64 nn; have := rng64 b; have := (by decide : (1 : Int64).toInt = 1); have := c_ladd b (1 : Int64); have := rng64 (b + (1 : Int64)); have := c_ladd (b + (1 : Int64)) (1 : Int64); have := rng64 ((b + (1 : Int64)) + (1 : Int64)); have := (by decide : ((2 : Int32).toInt64).toInt = 2); have := c_ladd b (2 : Int32).toInt64; have := rng64 (b + (2 : Int32).toInt64); have := (Int64.lt_iff_toInt_lt).mp hd1_0; have := mt (Int64.lt_iff_toInt_lt).mpr hd1_1; refine (Int64.lt_iff_toInt_lt).mpr ?_; omega : nn < (b + ((2 : Int32).toInt64))))).1) (by decide) (by decide) k') ?_
        show own_Go p.tables e below _ (T146.setTop (mkF m 221 #[.val (.long base), .second, .val (.long raw), .second, .val (.int delta), .val (.int count), .val (.int mode), .val (.long b), .second, .val (.int (2 : Int32)), .val (.long nn), .second, .val (.ref ms), .val (.ref b2), .val (.ref b9), .val (.ref b20), .val (.ref b35), .val (.long (b + ((2 : Int32).toInt64))), .second, .unset, .unset] []))
        refine own_st (fun _ k' => XS.lload X146.here hx rfl (hb hby at_221) rfl k') ?_
        show own_Go p.tables e below _ (T146.setTop (mkF m 223 #[.val (.long base), .second, .val (.long raw), .second, .val (.int delta), .val (.int count), .val (.int mode), .val (.long b), .second, .val (.int (2 : Int32)), .val (.long nn), .second, .val (.ref ms), .val (.ref b2), .val (.ref b9), .val (.ref b20), .val (.ref b35), .val (.long (b + ((2 : Int32).toInt64))), .second, .unset, .unset] [(.long nn)]))
        refine own_st (fun _ k' => XS.lconst X146.here hx rfl (hb hby at_223) k') ?_
        show own_Go p.tables e below _ (T146.setTop (mkF m 224 #[.val (.long base), .second, .val (.long raw), .second, .val (.int delta), .val (.int count), .val (.int mode), .val (.long b), .second, .val (.int (2 : Int32)), .val (.long nn), .second, .val (.ref ms), .val (.ref b2), .val (.ref b9), .val (.ref b20), .val (.ref b35), .val (.long (b + ((2 : Int32).toInt64))), .second, .unset, .unset] [(.long (1 : Int64)), (.long nn)]))
        refine own_st (fun _ k' => XS.ladd X146.here hx rfl (hb hby at_224) rfl k') ?_
        show own_Go p.tables e below _ (T146.setTop (mkF m 225 #[.val (.long base), .second, .val (.long raw), .second, .val (.int delta), .val (.int count), .val (.int mode), .val (.long b), .second, .val (.int (2 : Int32)), .val (.long nn), .second, .val (.ref ms), .val (.ref b2), .val (.ref b9), .val (.ref b20), .val (.ref b35), .val (.long (b + ((2 : Int32).toInt64))), .second, .unset, .unset] [(.long (nn + (1 : Int64)))]))
        refine own_st (fun _ k' => XS.lstore X146.here hx rfl (hb hby at_225) rfl (l' := #[.val (.long base), .second, .val (.long raw), .second, .val (.int delta), .val (.int count), .val (.int mode), .val (.long b), .second, .val (.int (2 : Int32)), .val (.long nn), .second, .val (.ref ms), .val (.ref b2), .val (.ref b9), .val (.ref b20), .val (.ref b35), .val (.long (b + ((2 : Int32).toInt64))), .second, .val (.long (nn + (1 : Int64))), .second]) rfl k') ?_
        show own_Go p.tables e below _ (T146.setTop (mkF m 227 #[.val (.long base), .second, .val (.long raw), .second, .val (.int delta), .val (.int count), .val (.int mode), .val (.long b), .second, .val (.int (2 : Int32)), .val (.long nn), .second, .val (.ref ms), .val (.ref b2), .val (.ref b9), .val (.ref b20), .val (.ref b35), .val (.long (b + ((2 : Int32).toInt64))), .second, .val (.long (nn + (1 : Int64))), .second] []))
        refine own_st (fun _ k' => XS.aload X146.here hx rfl (hb hby at_227) rfl rfl k') ?_
        show own_Go p.tables e below _ (T146.setTop (mkF m 229 #[.val (.long base), .second, .val (.long raw), .second, .val (.int delta), .val (.int count), .val (.int mode), .val (.long b), .second, .val (.int (2 : Int32)), .val (.long nn), .second, .val (.ref ms), .val (.ref b2), .val (.ref b9), .val (.ref b20), .val (.ref b35), .val (.long (b + ((2 : Int32).toInt64))), .second, .val (.long (nn + (1 : Int64))), .second] [(.ref b35)]))
        obtain ⟨cq169, kq169, q169a, q169b, q169c⟩ := isOf hZ rfl Ea146
        obtain ⟨_, _, ⟨T169, L169, k169, n169⟩, -, X169, ⟨Lc169, hQ169, l169, y169, z169⟩, st169⟩ := X146.virtualBack hx (y := (⟨"com/example/penumbra/penumbra/order/SequenceLog", "first", "()J"⟩ : MethodName)) (z := (⟨"com/example/penumbra/penumbra/order/SequenceLog", "first", "()J"⟩ : MethodName)) hown (mvT hZ (hw _ (List.mem_of_getElem? (i := 73) rfl))) (mvT hZ (hw _ (List.mem_of_getElem? (i := 74) rfl))) (notFace_of_selects (args := #[]) (mvT hZ (hw _ (List.mem_of_getElem? (i := 76) rfl)))) (mvT hZ (hw _ (List.mem_of_getElem? (i := 76) rfl))) (mvT hZ (hw _ (List.mem_of_getElem? (i := 75) rfl))) (by decide) (backOf (W := 0) (rmFi l Z a0 hw [] b35 ((b + (1 : Int64)) + (1 : Int64)) T146.heap n0 Zc146 Fa_first146) hZ (hw _ (List.mem_of_getElem? (i := 77) rfl)) (hw _ (List.mem_of_getElem? (i := 28) rfl)) (by decide) (by decide)) q169a q169c (g := (mkF m 229 #[.val (.long base), .second, .val (.long raw), .second, .val (.int delta), .val (.int count), .val (.int mode), .val (.long b), .second, .val (.int (2 : Int32)), .val (.long nn), .second, .val (.ref ms), .val (.ref b2), .val (.ref b9), .val (.ref b20), .val (.ref b35), .val (.long (b + ((2 : Int32).toInt64))), .second, .val (.long (nn + (1 : Int64))), .second] [(.ref b35)])) rfl (by rw [hml]; rfl) (Steps.refl _) (argsL := []) (rest := []) (lenOf pd___J rfl) rfl (by show 2 * 0 + _ ≤ _; exact Nat.le_of_eq rfl) (hb hby at_229) (fun _ _ => ⟨rfl, rfl, (by decide : 6 + 0 ≤ _), (by decide : 1040 + 0 ≤ _)⟩)
        dsimp only [Pt.U, Pt.locs, Pt.cells, Pt.slots] at X169 l169 y169 z169 st169 hQ169
        subst l169 y169 z169
        obtain ⟨rfl, Nq169, e169⟩ := hQ169
        have N169 := Fr.app N146 Nq169
        refine own_tr st169 ?_
        show own_Go p.tables e below _ (T169.setTop (mkF m 232 #[.val (.long base), .second, .val (.long raw), .second, .val (.int delta), .val (.int count), .val (.int mode), .val (.long b), .second, .val (.int (2 : Int32)), .val (.long nn), .second, .val (.ref ms), .val (.ref b2), .val (.ref b9), .val (.ref b20), .val (.ref b35), .val (.long (b + ((2 : Int32).toInt64))), .second, .val (.long (nn + (1 : Int64))), .second] [(.long ((b + (1 : Int64)) + (1 : Int64)))]))
        refine own_st (fun _ k' => XS.lload X169.here hx rfl (hb hby at_232) rfl k') ?_
        show own_Go p.tables e below _ (T169.setTop (mkF m 234 #[.val (.long base), .second, .val (.long raw), .second, .val (.int delta), .val (.int count), .val (.int mode), .val (.long b), .second, .val (.int (2 : Int32)), .val (.long nn), .second, .val (.ref ms), .val (.ref b2), .val (.ref b9), .val (.ref b20), .val (.ref b35), .val (.long (b + ((2 : Int32).toInt64))), .second, .val (.long (nn + (1 : Int64))), .second] [(.long (nn + (1 : Int64))), (.long ((b + (1 : Int64)) + (1 : Int64)))]))
        refine own_st (fun _ k' => XS.lcmp X169.here hx rfl (hb hby at_234) rfl k') ?_
        show own_Go p.tables e below _ (T169.setTop (mkF m 235 #[.val (.long base), .second, .val (.long raw), .second, .val (.int delta), .val (.int count), .val (.int mode), .val (.long b), .second, .val (.int (2 : Int32)), .val (.long nn), .second, .val (.ref ms), .val (.ref b2), .val (.ref b9), .val (.ref b20), .val (.ref b35), .val (.long (b + ((2 : Int32).toInt64))), .second, .val (.long (nn + (1 : Int64))), .second] [(.int (lcmpW ((b + (1 : Int64)) + (1 : Int64)) (nn + (1 : Int64))))]))
        refine own_st (fun _ k' => XS.ifYes X169.here hx rfl (pc0 := 235) (pc' := 240) rfl (hb hby at_235) rfl ((if0 _ _).trans (teq ((lw_eq ((b + (1 : Int64)) + (1 : Int64)) (nn + (1 : Int64))).mpr (by have := hbb; have := rng64 nn; have := rng64 b; have := (by decide : (1 : Int64).toInt = 1); have := c_ladd b (1 : Int64); have := rng64 (b + (1 : Int64)); have := c_ladd (b + (1 : Int64)) (1 : Int64); have := rng64 ((b + (1 : Int64)) + (1 : Int64)); have := c_ladd nn (1 : Int64); have := rng64 (nn + (1 : Int64)); have := (Int64.lt_iff_toInt_lt).mp hd1_0; have := mt (Int64.lt_iff_toInt_lt).mpr hd1_1; refine (Int64.toInt_inj.symm).mpr ?_; omega : ((b + (1 : Int64)) + (1 : Int64)) = (nn + (1 : Int64))))).1) (by decide) (by decide) k') ?_
        show own_Go p.tables e below _ (T169.setTop (mkF m 240 #[.val (.long base), .second, .val (.long raw), .second, .val (.int delta), .val (.int count), .val (.int mode), .val (.long b), .second, .val (.int (2 : Int32)), .val (.long nn), .second, .val (.ref ms), .val (.ref b2), .val (.ref b9), .val (.ref b20), .val (.ref b35), .val (.long (b + ((2 : Int32).toInt64))), .second, .val (.long (nn + (1 : Int64))), .second] []))
        refine own_st (fun _ k' => XS.aload X169.here hx rfl (hb hby at_240) rfl rfl k') ?_
        show own_Go p.tables e below _ (T169.setTop (mkF m 242 #[.val (.long base), .second, .val (.long raw), .second, .val (.int delta), .val (.int count), .val (.int mode), .val (.long b), .second, .val (.int (2 : Int32)), .val (.long nn), .second, .val (.ref ms), .val (.ref b2), .val (.ref b9), .val (.ref b20), .val (.ref b35), .val (.long (b + ((2 : Int32).toInt64))), .second, .val (.long (nn + (1 : Int64))), .second] [(.ref b35)]))
        obtain ⟨cq170, kq170, q170a, q170b, q170c⟩ := isOf hZ e169 Ea146
        obtain ⟨_, _, ⟨T170, L170, k170, n170⟩, -, X170, ⟨Lc170, hQ170, l170, y170, z170⟩, st170⟩ := X169.virtualBack hx (y := (⟨"com/example/penumbra/penumbra/order/SequenceLog", "last", "()J"⟩ : MethodName)) (z := (⟨"com/example/penumbra/penumbra/order/SequenceLog", "last", "()J"⟩ : MethodName)) hown (mvT hZ (hw _ (List.mem_of_getElem? (i := 78) rfl))) (mvT hZ (hw _ (List.mem_of_getElem? (i := 63) rfl))) (notFace_of_selects (args := #[]) (mvT hZ (hw _ (List.mem_of_getElem? (i := 65) rfl)))) (mvT hZ (hw _ (List.mem_of_getElem? (i := 65) rfl))) (mvT hZ (hw _ (List.mem_of_getElem? (i := 64) rfl))) (by decide) (backOf (W := 0) (rmLa l Z a0 hw [] b35 ((b + (1 : Int64)) + (1 : Int64)) (1 : Int32) T146.heap n0 Zc146 Fa_first146 Fa_size146) hZ (hw _ (List.mem_of_getElem? (i := 66) rfl)) (hw _ (List.mem_of_getElem? (i := 28) rfl)) (by decide) (by decide)) q170a q170c (g := (mkF m 242 #[.val (.long base), .second, .val (.long raw), .second, .val (.int delta), .val (.int count), .val (.int mode), .val (.long b), .second, .val (.int (2 : Int32)), .val (.long nn), .second, .val (.ref ms), .val (.ref b2), .val (.ref b9), .val (.ref b20), .val (.ref b35), .val (.long (b + ((2 : Int32).toInt64))), .second, .val (.long (nn + (1 : Int64))), .second] [(.ref b35)])) rfl (by rw [hml]; rfl) (Steps.refl _) (argsL := []) (rest := []) (lenOf pd___J rfl) rfl (by show 2 * 0 + _ ≤ _; exact Nat.le_of_eq rfl) (hb hby at_242) (fun _ _ => ⟨rfl, e169, (by decide : 6 + 0 ≤ _), (by decide : 1040 + 0 ≤ _)⟩)
        dsimp only [Pt.U, Pt.locs, Pt.cells, Pt.slots] at X170 l170 y170 z170 st170 hQ170
        subst l170 y170 z170
        obtain ⟨rfl, Nq170, e170⟩ := hQ170
        have N170 := Fr.app N169 Nq170
        refine own_tr st170 ?_
        show own_Go p.tables e below _ (T170.setTop (mkF m 245 #[.val (.long base), .second, .val (.long raw), .second, .val (.int delta), .val (.int count), .val (.int mode), .val (.long b), .second, .val (.int (2 : Int32)), .val (.long nn), .second, .val (.ref ms), .val (.ref b2), .val (.ref b9), .val (.ref b20), .val (.ref b35), .val (.long (b + ((2 : Int32).toInt64))), .second, .val (.long (nn + (1 : Int64))), .second] [(.long ((((b + (1 : Int64)) + (1 : Int64)) + ((1 : Int32).toInt64)) - (1 : Int64)))]))
        refine own_st (fun _ k' => XS.lload X170.here hx rfl (hb hby at_245) rfl k') ?_
        show own_Go p.tables e below _ (T170.setTop (mkF m 247 #[.val (.long base), .second, .val (.long raw), .second, .val (.int delta), .val (.int count), .val (.int mode), .val (.long b), .second, .val (.int (2 : Int32)), .val (.long nn), .second, .val (.ref ms), .val (.ref b2), .val (.ref b9), .val (.ref b20), .val (.ref b35), .val (.long (b + ((2 : Int32).toInt64))), .second, .val (.long (nn + (1 : Int64))), .second] [(.long (b + ((2 : Int32).toInt64))), (.long ((((b + (1 : Int64)) + (1 : Int64)) + ((1 : Int32).toInt64)) - (1 : Int64)))]))
        refine own_st (fun _ k' => XS.lcmp X170.here hx rfl (hb hby at_247) rfl k') ?_
        show own_Go p.tables e below _ (T170.setTop (mkF m 248 #[.val (.long base), .second, .val (.long raw), .second, .val (.int delta), .val (.int count), .val (.int mode), .val (.long b), .second, .val (.int (2 : Int32)), .val (.long nn), .second, .val (.ref ms), .val (.ref b2), .val (.ref b9), .val (.ref b20), .val (.ref b35), .val (.long (b + ((2 : Int32).toInt64))), .second, .val (.long (nn + (1 : Int64))), .second] [(.int (lcmpW ((((b + (1 : Int64)) + (1 : Int64)) + ((1 : Int32).toInt64)) - (1 : Int64)) (b + ((2 : Int32).toInt64))))]))
        refine own_st (fun _ k' => XS.ifYes X170.here hx rfl (pc0 := 248) (pc' := 253) rfl (hb hby at_248) rfl ((if0 _ _).trans (teq ((lw_eq ((((b + (1 : Int64)) + (1 : Int64)) + ((1 : Int32).toInt64)) - (1 : Int64)) (b + ((2 : Int32).toInt64))).mpr (by have := hbb; have := rng64 nn; have := rng64 b; have := (by decide : (1 : Int64).toInt = 1); have := c_ladd b (1 : Int64); have := rng64 (b + (1 : Int64)); have := c_ladd (b + (1 : Int64)) (1 : Int64); have := rng64 ((b + (1 : Int64)) + (1 : Int64)); have := (by decide : ((1 : Int32).toInt64).toInt = 1); have := c_ladd ((b + (1 : Int64)) + (1 : Int64)) (1 : Int32).toInt64; have := rng64 (((b + (1 : Int64)) + (1 : Int64)) + (1 : Int32).toInt64); have := c_lsub (((b + (1 : Int64)) + (1 : Int64)) + (1 : Int32).toInt64) (1 : Int64); have := rng64 ((((b + (1 : Int64)) + (1 : Int64)) + (1 : Int32).toInt64) - (1 : Int64)); have := (by decide : ((2 : Int32).toInt64).toInt = 2); have := c_ladd b (2 : Int32).toInt64; have := rng64 (b + (2 : Int32).toInt64); have := (Int64.lt_iff_toInt_lt).mp hd1_0; have := mt (Int64.lt_iff_toInt_lt).mpr hd1_1; refine (Int64.toInt_inj.symm).mpr ?_; omega : ((((b + (1 : Int64)) + (1 : Int64)) + ((1 : Int32).toInt64)) - (1 : Int64)) = (b + ((2 : Int32).toInt64))))).1) (by decide) (by decide) k') ?_
        show own_Go p.tables e below _ (T170.setTop (mkF m 253 #[.val (.long base), .second, .val (.long raw), .second, .val (.int delta), .val (.int count), .val (.int mode), .val (.long b), .second, .val (.int (2 : Int32)), .val (.long nn), .second, .val (.ref ms), .val (.ref b2), .val (.ref b9), .val (.ref b20), .val (.ref b35), .val (.long (b + ((2 : Int32).toInt64))), .second, .val (.long (nn + (1 : Int64))), .second] []))
        refine own_st (fun _ k' => XS.lload X170.here hx rfl (hb hby at_253) rfl k') ?_
        show own_Go p.tables e below _ (T170.setTop (mkF m 255 #[.val (.long base), .second, .val (.long raw), .second, .val (.int delta), .val (.int count), .val (.int mode), .val (.long b), .second, .val (.int (2 : Int32)), .val (.long nn), .second, .val (.ref ms), .val (.ref b2), .val (.ref b9), .val (.ref b20), .val (.ref b35), .val (.long (b + ((2 : Int32).toInt64))), .second, .val (.long (nn + (1 : Int64))), .second] [(.long (nn + (1 : Int64)))]))
        refine own_st (fun _ k' => XS.lload X170.here hx rfl (hb hby at_255) rfl k') ?_
        show own_Go p.tables e below _ (T170.setTop (mkF m 257 #[.val (.long base), .second, .val (.long raw), .second, .val (.int delta), .val (.int count), .val (.int mode), .val (.long b), .second, .val (.int (2 : Int32)), .val (.long nn), .second, .val (.ref ms), .val (.ref b2), .val (.ref b9), .val (.ref b20), .val (.ref b35), .val (.long (b + ((2 : Int32).toInt64))), .second, .val (.long (nn + (1 : Int64))), .second] [(.long (b + ((2 : Int32).toInt64))), (.long (nn + (1 : Int64)))]))
        refine own_st (fun _ k' => XS.lcmp X170.here hx rfl (hb hby at_257) rfl k') ?_
        show own_Go p.tables e below _ (T170.setTop (mkF m 258 #[.val (.long base), .second, .val (.long raw), .second, .val (.int delta), .val (.int count), .val (.int mode), .val (.long b), .second, .val (.int (2 : Int32)), .val (.long nn), .second, .val (.ref ms), .val (.ref b2), .val (.ref b9), .val (.ref b20), .val (.ref b35), .val (.long (b + ((2 : Int32).toInt64))), .second, .val (.long (nn + (1 : Int64))), .second] [(.int (lcmpW (nn + (1 : Int64)) (b + ((2 : Int32).toInt64))))]))
        refine own_st (fun _ k' => XS.ifNo X170.here hx rfl (hb hby at_258) rfl ((if0 _ _).trans (flt (mt (lw_gt (nn + (1 : Int64)) (b + ((2 : Int32).toInt64))).mp (by have := hbb; have := rng64 nn; have := rng64 b; have := (by decide : (1 : Int64).toInt = 1); have := c_ladd b (1 : Int64); have := rng64 (b + (1 : Int64)); have := c_ladd (b + (1 : Int64)) (1 : Int64); have := rng64 ((b + (1 : Int64)) + (1 : Int64)); have := (by decide : ((2 : Int32).toInt64).toInt = 2); have := c_ladd b (2 : Int32).toInt64; have := rng64 (b + (2 : Int32).toInt64); have := c_ladd nn (1 : Int64); have := rng64 (nn + (1 : Int64)); have := (Int64.lt_iff_toInt_lt).mp hd1_0; have := mt (Int64.lt_iff_toInt_lt).mpr hd1_1; refine mt (Int64.lt_iff_toInt_lt).mp ?_; omega : ¬ (b + ((2 : Int32).toInt64)) < (nn + (1 : Int64))))).2.2.1) k') ?_
        show own_Go p.tables e below _ (T170.setTop (mkF m 261 #[.val (.long base), .second, .val (.long raw), .second, .val (.int delta), .val (.int count), .val (.int mode), .val (.long b), .second, .val (.int (2 : Int32)), .val (.long nn), .second, .val (.ref ms), .val (.ref b2), .val (.ref b9), .val (.ref b20), .val (.ref b35), .val (.long (b + ((2 : Int32).toInt64))), .second, .val (.long (nn + (1 : Int64))), .second] []))
        refine own_st (fun _ k' => XS.aload X170.here hx rfl (hb hby at_261) rfl rfl k') ?_
        show own_Go p.tables e below _ (T170.setTop (mkF m 263 #[.val (.long base), .second, .val (.long raw), .second, .val (.int delta), .val (.int count), .val (.int mode), .val (.long b), .second, .val (.int (2 : Int32)), .val (.long nn), .second, .val (.ref ms), .val (.ref b2), .val (.ref b9), .val (.ref b20), .val (.ref b35), .val (.long (b + ((2 : Int32).toInt64))), .second, .val (.long (nn + (1 : Int64))), .second] [(.ref b35)]))
        refine own_st (fun _ k' => XS.lload X170.here hx rfl (hb hby at_263) rfl k') ?_
        show own_Go p.tables e below _ (T170.setTop (mkF m 265 #[.val (.long base), .second, .val (.long raw), .second, .val (.int delta), .val (.int count), .val (.int mode), .val (.long b), .second, .val (.int (2 : Int32)), .val (.long nn), .second, .val (.ref ms), .val (.ref b2), .val (.ref b9), .val (.ref b20), .val (.ref b35), .val (.long (b + ((2 : Int32).toInt64))), .second, .val (.long (nn + (1 : Int64))), .second] [(.long (nn + (1 : Int64))), (.ref b35)]))
        have hdx171 : (((1 : Int32).toInt64 + (nn + (1 : Int64))) - ((b + (1 : Int64)) + (1 : Int64))) = (1 : Int64) := (by have := hbb; have := rng64 nn; have := rng64 b; have := (by decide : (1 : Int64).toInt = 1); have := c_ladd b (1 : Int64); have := rng64 (b + (1 : Int64)); have := c_ladd (b + (1 : Int64)) (1 : Int64); have := rng64 ((b + (1 : Int64)) + (1 : Int64)); have := (by decide : ((1 : Int32).toInt64).toInt = 1); have := c_ladd nn (1 : Int64); have := rng64 (nn + (1 : Int64)); have := c_ladd (1 : Int32).toInt64 (nn + (1 : Int64)); have := rng64 ((1 : Int32).toInt64 + (nn + (1 : Int64))); have := c_lsub ((1 : Int32).toInt64 + (nn + (1 : Int64))) ((b + (1 : Int64)) + (1 : Int64)); have := rng64 (((1 : Int32).toInt64 + (nn + (1 : Int64))) - ((b + (1 : Int64)) + (1 : Int64))); have := (Int64.lt_iff_toInt_lt).mp hd1_0; have := mt (Int64.lt_iff_toInt_lt).mpr hd1_1; refine (Int64.toInt_inj.symm).mpr ?_; omega : (((1 : Int32).toInt64 + (nn + (1 : Int64))) - ((b + (1 : Int64)) + (1 : Int64))) = (1 : Int64))
        obtain ⟨cq172, kq172, q172a, q172b, q172c⟩ := isOf hZ e170 Ea146
        obtain ⟨_, _, ⟨T172, L172, k172, n172⟩, -, X172, ⟨Lc172, hQ172, l172, y172, z172⟩, st172⟩ := X170.virtualBack hx (y := (⟨"com/example/penumbra/penumbra/order/SequenceLog", "get", "(J)Lcom/example/penumbra/penumbra/order/SequenceLog$Entry;"⟩ : MethodName)) (z := (⟨"com/example/penumbra/penumbra/order/SequenceLog", "get", "(J)Lcom/example/penumbra/penumbra/order/SequenceLog$Entry;"⟩ : MethodName)) hown (mvT hZ (hw _ (List.mem_of_getElem? (i := 79) rfl))) (mvT hZ (hw _ (List.mem_of_getElem? (i := 80) rfl))) (notFace_of_selects (args := #[]) (mvT hZ (hw _ (List.mem_of_getElem? (i := 82) rfl)))) (mvT hZ (hw _ (List.mem_of_getElem? (i := 82) rfl))) (mvT hZ (hw _ (List.mem_of_getElem? (i := 81) rfl))) (by decide) (backOf (W := 0) (rmG l Z a0 hw [] b35 (nn + (1 : Int64)) ((b + (1 : Int64)) + (1 : Int64)) (1 : Int32) (1 : Int32) rg kk .null (.ref b9) .null (1 : Int32) b9 T146.heap n0 Zc146 Ea146 Fa_ring146 Fa_first146 Fa_head146 Fa_size146 Va146 OV (by have := hbb; have := rng64 nn; have := rng64 b; have := (by decide : (1 : Int64).toInt = 1); have := c_ladd b (1 : Int64); have := rng64 (b + (1 : Int64)); have := c_ladd (b + (1 : Int64)) (1 : Int64); have := rng64 ((b + (1 : Int64)) + (1 : Int64)); have := c_ladd nn (1 : Int64); have := rng64 (nn + (1 : Int64)); have := (Int64.lt_iff_toInt_lt).mp hd1_0; have := mt (Int64.lt_iff_toInt_lt).mpr hd1_1; refine mt (Int64.lt_iff_toInt_lt).mp ?_; omega : ¬ (nn + (1 : Int64)) < ((b + (1 : Int64)) + (1 : Int64))) (by have := hbb; have := rng64 nn; have := rng64 b; have := (by decide : (1 : Int64).toInt = 1); have := c_ladd b (1 : Int64); have := rng64 (b + (1 : Int64)); have := c_ladd (b + (1 : Int64)) (1 : Int64); have := rng64 ((b + (1 : Int64)) + (1 : Int64)); have := (by decide : ((1 : Int32).toInt64).toInt = 1); have := c_ladd ((b + (1 : Int64)) + (1 : Int64)) (1 : Int32).toInt64; have := rng64 (((b + (1 : Int64)) + (1 : Int64)) + (1 : Int32).toInt64); have := c_lsub (((b + (1 : Int64)) + (1 : Int64)) + (1 : Int32).toInt64) (1 : Int64); have := rng64 ((((b + (1 : Int64)) + (1 : Int64)) + (1 : Int32).toInt64) - (1 : Int64)); have := c_ladd nn (1 : Int64); have := rng64 (nn + (1 : Int64)); have := (Int64.lt_iff_toInt_lt).mp hd1_0; have := mt (Int64.lt_iff_toInt_lt).mpr hd1_1; refine mt (Int64.lt_iff_toInt_lt).mp ?_; omega : ¬ ((((b + (1 : Int64)) + (1 : Int64)) + ((1 : Int32).toInt64)) - (1 : Int64)) < (nn + (1 : Int64))) (by rw [hdx171]; decide) (by decide) (by decide) rfl) hZ (hw _ (List.mem_of_getElem? (i := 83) rfl)) (hw _ (List.mem_of_getElem? (i := 28) rfl)) (by decide) (by decide)) q172a q172c (g := (mkF m 265 #[.val (.long base), .second, .val (.long raw), .second, .val (.int delta), .val (.int count), .val (.int mode), .val (.long b), .second, .val (.int (2 : Int32)), .val (.long nn), .second, .val (.ref ms), .val (.ref b2), .val (.ref b9), .val (.ref b20), .val (.ref b35), .val (.long (b + ((2 : Int32).toInt64))), .second, .val (.long (nn + (1 : Int64))), .second] [(.long (nn + (1 : Int64))), (.ref b35)])) rfl (by rw [hml]; rfl) (Steps.refl _) (argsL := [(.long (nn + (1 : Int64)))]) (rest := []) (lenOf pd__J_Lcom_example_penumbra_penumbra_order_SequenceLog_Entry_ rfl) rfl (by show 2 * 0 + _ ≤ _; exact Nat.le_of_eq rfl) (hb hby at_265) (fun _ _ => ⟨rfl, e170, (by decide : 6 + 0 ≤ _), (by decide : 1040 + 0 ≤ _)⟩)
        dsimp only [Pt.U, Pt.locs, Pt.cells, Pt.slots] at X172 l172 y172 z172 st172 hQ172
        subst l172 y172 z172
        obtain ⟨rfl, Nq172, e172⟩ := hQ172
        have N172 := Fr.app N170 Nq172
        refine own_tr st172 ?_
        show own_Go p.tables e below _ (T172.setTop (mkF m 268 #[.val (.long base), .second, .val (.long raw), .second, .val (.int delta), .val (.int count), .val (.int mode), .val (.long b), .second, .val (.int (2 : Int32)), .val (.long nn), .second, .val (.ref ms), .val (.ref b2), .val (.ref b9), .val (.ref b20), .val (.ref b35), .val (.long (b + ((2 : Int32).toInt64))), .second, .val (.long (nn + (1 : Int64))), .second] [(.ref b9)]))
        refine own_st (fun _ k' => XS.lload X172.here hx rfl (hb hby at_268) rfl k') ?_
        show own_Go p.tables e below _ (T172.setTop (mkF m 270 #[.val (.long base), .second, .val (.long raw), .second, .val (.int delta), .val (.int count), .val (.int mode), .val (.long b), .second, .val (.int (2 : Int32)), .val (.long nn), .second, .val (.ref ms), .val (.ref b2), .val (.ref b9), .val (.ref b20), .val (.ref b35), .val (.long (b + ((2 : Int32).toInt64))), .second, .val (.long (nn + (1 : Int64))), .second] [(.long (nn + (1 : Int64))), (.ref b9)]))
        refine own_st (fun _ k' => XS.lload X172.here hx rfl (hb hby at_270) rfl k') ?_
        show own_Go p.tables e below _ (T172.setTop (mkF m 272 #[.val (.long base), .second, .val (.long raw), .second, .val (.int delta), .val (.int count), .val (.int mode), .val (.long b), .second, .val (.int (2 : Int32)), .val (.long nn), .second, .val (.ref ms), .val (.ref b2), .val (.ref b9), .val (.ref b20), .val (.ref b35), .val (.long (b + ((2 : Int32).toInt64))), .second, .val (.long (nn + (1 : Int64))), .second] [(.long b), (.long (nn + (1 : Int64))), (.ref b9)]))
        refine own_st (fun _ k' => XS.lsub X172.here hx rfl (hb hby at_272) rfl k') ?_
        show own_Go p.tables e below _ (T172.setTop (mkF m 273 #[.val (.long base), .second, .val (.long raw), .second, .val (.int delta), .val (.int count), .val (.int mode), .val (.long b), .second, .val (.int (2 : Int32)), .val (.long nn), .second, .val (.ref ms), .val (.ref b2), .val (.ref b9), .val (.ref b20), .val (.ref b35), .val (.long (b + ((2 : Int32).toInt64))), .second, .val (.long (nn + (1 : Int64))), .second] [(.long ((nn + (1 : Int64)) - b)), (.ref b9)]))
        refine own_st (fun _ k' => XS.aload X172.here hx rfl (hb hby at_273) rfl rfl k') ?_
        show own_Go p.tables e below _ (T172.setTop (mkF m 275 #[.val (.long base), .second, .val (.long raw), .second, .val (.int delta), .val (.int count), .val (.int mode), .val (.long b), .second, .val (.int (2 : Int32)), .val (.long nn), .second, .val (.ref ms), .val (.ref b2), .val (.ref b9), .val (.ref b20), .val (.ref b35), .val (.long (b + ((2 : Int32).toInt64))), .second, .val (.long (nn + (1 : Int64))), .second] [(.ref b2), (.long ((nn + (1 : Int64)) - b)), (.ref b9)]))
        refine own_st (fun _ k' => XS.aload X172.here hx rfl (hb hby at_275) rfl rfl k') ?_
        show own_Go p.tables e below _ (T172.setTop (mkF m 277 #[.val (.long base), .second, .val (.long raw), .second, .val (.int delta), .val (.int count), .val (.int mode), .val (.long b), .second, .val (.int (2 : Int32)), .val (.long nn), .second, .val (.ref ms), .val (.ref b2), .val (.ref b9), .val (.ref b20), .val (.ref b35), .val (.long (b + ((2 : Int32).toInt64))), .second, .val (.long (nn + (1 : Int64))), .second] [(.ref b9), (.ref b2), (.long ((nn + (1 : Int64)) - b)), (.ref b9)]))
        refine own_st (fun _ k' => XS.aload X172.here hx rfl (hb hby at_277) rfl rfl k') ?_
        show own_Go p.tables e below _ (T172.setTop (mkF m 279 #[.val (.long base), .second, .val (.long raw), .second, .val (.int delta), .val (.int count), .val (.int mode), .val (.long b), .second, .val (.int (2 : Int32)), .val (.long nn), .second, .val (.ref ms), .val (.ref b2), .val (.ref b9), .val (.ref b20), .val (.ref b35), .val (.long (b + ((2 : Int32).toInt64))), .second, .val (.long (nn + (1 : Int64))), .second] [(.ref b20), (.ref b9), (.ref b2), (.long ((nn + (1 : Int64)) - b)), (.ref b9)]))
        have hpk173 : own_pk ((nn + (1 : Int64)) - b) b2 b9 b20 = b9 := by
          have e : ((nn + (1 : Int64)) - b) = (2 : Int64) := (by have := hbb; have := rng64 nn; have := rng64 b; have := (by decide : (1 : Int64).toInt = 1); have := c_ladd b (1 : Int64); have := rng64 (b + (1 : Int64)); have := c_ladd (b + (1 : Int64)) (1 : Int64); have := rng64 ((b + (1 : Int64)) + (1 : Int64)); have := c_ladd nn (1 : Int64); have := rng64 (nn + (1 : Int64)); have := c_lsub (nn + (1 : Int64)) b; have := rng64 ((nn + (1 : Int64)) - b); have := (by decide : (2 : Int64).toInt = 2); have := (Int64.lt_iff_toInt_lt).mp hd1_0; have := mt (Int64.lt_iff_toInt_lt).mpr hd1_1; refine (Int64.toInt_inj.symm).mpr ?_; omega : ((nn + (1 : Int64)) - b) = (2 : Int64))
          rw [e]; rfl
        obtain ⟨_, _, ⟨T174, L174, k174, n174⟩, -, X174, ⟨Lc174, hQ174, l174, y174, z174⟩, st174⟩ := Jvm.LawKit.callS X172 hx (y := (⟨"com/example/penumbra/penumbra/order/SequenceLogDropUpToPinLaw", "pick", "(JLcom/example/penumbra/penumbra/order/SequenceLog$Entry;Lcom/example/penumbra/penumbra/order/SequenceLog$Entry;Lcom/example/penumbra/penumbra/order/SequenceLog$Entry;)Lcom/example/penumbra/penumbra/order/SequenceLog$Entry;"⟩ : MethodName)) hown (mvT hZ (hw _ (List.mem_of_getElem? (i := 84) rfl))) (mvT hZ (hw _ (List.mem_of_getElem? (i := 85) rfl))) (mvT hZ (hw _ (List.mem_of_getElem? (i := 86) rfl))) (mvT hZ (hw _ (List.mem_of_getElem? (i := 87) rfl))) (by decide) (backOf (W := 1) (rmK l Z a0 hw [] ((nn + (1 : Int64)) - b) b2 b9 b20 T146.heap n0 Zc146 ) hZ (hw _ (List.mem_of_getElem? (i := 87) rfl)) (hw _ (List.mem_of_getElem? (i := 86) rfl)) (by decide) (by decide)) (g := (mkF m 279 #[.val (.long base), .second, .val (.long raw), .second, .val (.int delta), .val (.int count), .val (.int mode), .val (.long b), .second, .val (.int (2 : Int32)), .val (.long nn), .second, .val (.ref ms), .val (.ref b2), .val (.ref b9), .val (.ref b20), .val (.ref b35), .val (.long (b + ((2 : Int32).toInt64))), .second, .val (.long (nn + (1 : Int64))), .second] [(.ref b20), (.ref b9), (.ref b2), (.long ((nn + (1 : Int64)) - b)), (.ref b9)])) rfl (by rw [hml]; rfl) (argsL := [(.long ((nn + (1 : Int64)) - b)), (.ref b2), (.ref b9), (.ref b20)]) (rest := [(.ref b9)]) (lenOf pd__JLcom_example_penumbra_penumbra_order_SequenceLog_Entry_Lcom_example_penumbra_penumbra_order_SequenceLog_Entry_Lcom_example_penumbra_penumbra_order_SequenceLog_Entry__Lcom_example_penumbra_penumbra_order_SequenceLog_Entry_ rfl) rfl (by show 2 * 0 + _ ≤ _; exact Nat.le_of_eq rfl) (hb hby at_279) (fun _ _ => ⟨rfl, e172, (by decide : 6 + 0 ≤ _), (by decide : 1040 + 0 ≤ _)⟩)
        dsimp only [Pt.U, Pt.locs, Pt.cells, Pt.slots] at X174 l174 y174 z174 st174 hQ174
        subst l174 y174 z174
        rw [Q_rmK, hpk173] at hQ174
        obtain ⟨rfl, Nq174, e174⟩ := hQ174
        have N174 := Fr.app N172 Nq174
        refine own_st st174 ?_
        show own_Go p.tables e below _ (T174.setTop (mkF m 282 #[.val (.long base), .second, .val (.long raw), .second, .val (.int delta), .val (.int count), .val (.int mode), .val (.long b), .second, .val (.int (2 : Int32)), .val (.long nn), .second, .val (.ref ms), .val (.ref b2), .val (.ref b9), .val (.ref b20), .val (.ref b35), .val (.long (b + ((2 : Int32).toInt64))), .second, .val (.long (nn + (1 : Int64))), .second] [(.ref b9), (.ref b9)]))
        refine own_st (fun _ k' => Jvm.RoadKit.acmp (g := (mkF m 282 #[.val (.long base), .second, .val (.long raw), .second, .val (.int delta), .val (.int count), .val (.int mode), .val (.long b), .second, .val (.int (2 : Int32)), .val (.long nn), .second, .val (.ref ms), .val (.ref b2), .val (.ref b9), .val (.ref b20), .val (.ref b35), .val (.long (b + ((2 : Int32).toInt64))), .second, .val (.long (nn + (1 : Int64))), .second] [(.ref b9), (.ref b9)])) X174 hx rfl rfl rfl (pc0 := 282) (pc' := 287) (same := true) rfl (hb hby at_282) rfl (decide_eq_true rfl) (by decide) (by decide) k') ?_
        show own_Go p.tables e below _ (T174.setTop (mkF m 287 #[.val (.long base), .second, .val (.long raw), .second, .val (.int delta), .val (.int count), .val (.int mode), .val (.long b), .second, .val (.int (2 : Int32)), .val (.long nn), .second, .val (.ref ms), .val (.ref b2), .val (.ref b9), .val (.ref b20), .val (.ref b35), .val (.long (b + ((2 : Int32).toInt64))), .second, .val (.long (nn + (1 : Int64))), .second] []))
        refine own_st (fun _ k' => XS.aload X174.here hx rfl (hb hby at_287) rfl rfl k') ?_
        show own_Go p.tables e below _ (T174.setTop (mkF m 289 #[.val (.long base), .second, .val (.long raw), .second, .val (.int delta), .val (.int count), .val (.int mode), .val (.long b), .second, .val (.int (2 : Int32)), .val (.long nn), .second, .val (.ref ms), .val (.ref b2), .val (.ref b9), .val (.ref b20), .val (.ref b35), .val (.long (b + ((2 : Int32).toInt64))), .second, .val (.long (nn + (1 : Int64))), .second] [(.ref b35)]))
        refine own_st (fun _ k' => XS.lload X174.here hx rfl (hb hby at_289) rfl k') ?_
        show own_Go p.tables e below _ (T174.setTop (mkF m 291 #[.val (.long base), .second, .val (.long raw), .second, .val (.int delta), .val (.int count), .val (.int mode), .val (.long b), .second, .val (.int (2 : Int32)), .val (.long nn), .second, .val (.ref ms), .val (.ref b2), .val (.ref b9), .val (.ref b20), .val (.ref b35), .val (.long (b + ((2 : Int32).toInt64))), .second, .val (.long (nn + (1 : Int64))), .second] [(.long (b + ((2 : Int32).toInt64))), (.ref b35)]))
        have hdx175 : (((1 : Int32).toInt64 + (b + ((2 : Int32).toInt64))) - ((b + (1 : Int64)) + (1 : Int64))) = (1 : Int64) := (by have := hbb; have := rng64 nn; have := rng64 b; have := (by decide : (1 : Int64).toInt = 1); have := c_ladd b (1 : Int64); have := rng64 (b + (1 : Int64)); have := c_ladd (b + (1 : Int64)) (1 : Int64); have := rng64 ((b + (1 : Int64)) + (1 : Int64)); have := (by decide : ((1 : Int32).toInt64).toInt = 1); have := (by decide : ((2 : Int32).toInt64).toInt = 2); have := c_ladd b (2 : Int32).toInt64; have := rng64 (b + (2 : Int32).toInt64); have := c_ladd (1 : Int32).toInt64 (b + (2 : Int32).toInt64); have := rng64 ((1 : Int32).toInt64 + (b + (2 : Int32).toInt64)); have := c_lsub ((1 : Int32).toInt64 + (b + (2 : Int32).toInt64)) ((b + (1 : Int64)) + (1 : Int64)); have := rng64 (((1 : Int32).toInt64 + (b + (2 : Int32).toInt64)) - ((b + (1 : Int64)) + (1 : Int64))); have := (Int64.lt_iff_toInt_lt).mp hd1_0; have := mt (Int64.lt_iff_toInt_lt).mpr hd1_1; refine (Int64.toInt_inj.symm).mpr ?_; omega : (((1 : Int32).toInt64 + (b + ((2 : Int32).toInt64))) - ((b + (1 : Int64)) + (1 : Int64))) = (1 : Int64))
        obtain ⟨cq176, kq176, q176a, q176b, q176c⟩ := isOf hZ e174 Ea146
        obtain ⟨_, _, ⟨T176, L176, k176, n176⟩, -, X176, ⟨Lc176, hQ176, l176, y176, z176⟩, st176⟩ := X174.virtualBack hx (y := (⟨"com/example/penumbra/penumbra/order/SequenceLog", "get", "(J)Lcom/example/penumbra/penumbra/order/SequenceLog$Entry;"⟩ : MethodName)) (z := (⟨"com/example/penumbra/penumbra/order/SequenceLog", "get", "(J)Lcom/example/penumbra/penumbra/order/SequenceLog$Entry;"⟩ : MethodName)) hown (mvT hZ (hw _ (List.mem_of_getElem? (i := 79) rfl))) (mvT hZ (hw _ (List.mem_of_getElem? (i := 80) rfl))) (notFace_of_selects (args := #[]) (mvT hZ (hw _ (List.mem_of_getElem? (i := 82) rfl)))) (mvT hZ (hw _ (List.mem_of_getElem? (i := 82) rfl))) (mvT hZ (hw _ (List.mem_of_getElem? (i := 81) rfl))) (by decide) (backOf (W := 0) (rmG l Z a0 hw [] b35 (b + ((2 : Int32).toInt64)) ((b + (1 : Int64)) + (1 : Int64)) (1 : Int32) (1 : Int32) rg kk .null (.ref b9) .null (1 : Int32) b9 T146.heap n0 Zc146 Ea146 Fa_ring146 Fa_first146 Fa_head146 Fa_size146 Va146 OV (by have := hbb; have := rng64 nn; have := rng64 b; have := (by decide : (1 : Int64).toInt = 1); have := c_ladd b (1 : Int64); have := rng64 (b + (1 : Int64)); have := c_ladd (b + (1 : Int64)) (1 : Int64); have := rng64 ((b + (1 : Int64)) + (1 : Int64)); have := (by decide : ((2 : Int32).toInt64).toInt = 2); have := c_ladd b (2 : Int32).toInt64; have := rng64 (b + (2 : Int32).toInt64); have := (Int64.lt_iff_toInt_lt).mp hd1_0; have := mt (Int64.lt_iff_toInt_lt).mpr hd1_1; refine mt (Int64.lt_iff_toInt_lt).mp ?_; omega : ¬ (b + ((2 : Int32).toInt64)) < ((b + (1 : Int64)) + (1 : Int64))) (by have := hbb; have := rng64 nn; have := rng64 b; have := (by decide : (1 : Int64).toInt = 1); have := c_ladd b (1 : Int64); have := rng64 (b + (1 : Int64)); have := c_ladd (b + (1 : Int64)) (1 : Int64); have := rng64 ((b + (1 : Int64)) + (1 : Int64)); have := (by decide : ((1 : Int32).toInt64).toInt = 1); have := c_ladd ((b + (1 : Int64)) + (1 : Int64)) (1 : Int32).toInt64; have := rng64 (((b + (1 : Int64)) + (1 : Int64)) + (1 : Int32).toInt64); have := c_lsub (((b + (1 : Int64)) + (1 : Int64)) + (1 : Int32).toInt64) (1 : Int64); have := rng64 ((((b + (1 : Int64)) + (1 : Int64)) + (1 : Int32).toInt64) - (1 : Int64)); have := (by decide : ((2 : Int32).toInt64).toInt = 2); have := c_ladd b (2 : Int32).toInt64; have := rng64 (b + (2 : Int32).toInt64); have := (Int64.lt_iff_toInt_lt).mp hd1_0; have := mt (Int64.lt_iff_toInt_lt).mpr hd1_1; refine mt (Int64.lt_iff_toInt_lt).mp ?_; omega : ¬ ((((b + (1 : Int64)) + (1 : Int64)) + ((1 : Int32).toInt64)) - (1 : Int64)) < (b + ((2 : Int32).toInt64))) (by rw [hdx175]; decide) (by decide) (by decide) rfl) hZ (hw _ (List.mem_of_getElem? (i := 83) rfl)) (hw _ (List.mem_of_getElem? (i := 28) rfl)) (by decide) (by decide)) q176a q176c (g := (mkF m 291 #[.val (.long base), .second, .val (.long raw), .second, .val (.int delta), .val (.int count), .val (.int mode), .val (.long b), .second, .val (.int (2 : Int32)), .val (.long nn), .second, .val (.ref ms), .val (.ref b2), .val (.ref b9), .val (.ref b20), .val (.ref b35), .val (.long (b + ((2 : Int32).toInt64))), .second, .val (.long (nn + (1 : Int64))), .second] [(.long (b + ((2 : Int32).toInt64))), (.ref b35)])) rfl (by rw [hml]; rfl) (Steps.refl _) (argsL := [(.long (b + ((2 : Int32).toInt64)))]) (rest := []) (lenOf pd__J_Lcom_example_penumbra_penumbra_order_SequenceLog_Entry_ rfl) rfl (by show 2 * 0 + _ ≤ _; exact Nat.le_of_eq rfl) (hb hby at_291) (fun _ _ => ⟨rfl, e174, (by decide : 6 + 0 ≤ _), (by decide : 1040 + 0 ≤ _)⟩)
        dsimp only [Pt.U, Pt.locs, Pt.cells, Pt.slots] at X176 l176 y176 z176 st176 hQ176
        subst l176 y176 z176
        obtain ⟨rfl, Nq176, e176⟩ := hQ176
        have N176 := Fr.app N174 Nq176
        refine own_tr st176 ?_
        show own_Go p.tables e below _ (T176.setTop (mkF m 294 #[.val (.long base), .second, .val (.long raw), .second, .val (.int delta), .val (.int count), .val (.int mode), .val (.long b), .second, .val (.int (2 : Int32)), .val (.long nn), .second, .val (.ref ms), .val (.ref b2), .val (.ref b9), .val (.ref b20), .val (.ref b35), .val (.long (b + ((2 : Int32).toInt64))), .second, .val (.long (nn + (1 : Int64))), .second] [(.ref b9)]))
        refine own_st (fun _ k' => XS.iload X176.here hx rfl (hb hby at_294) rfl k') ?_
        show own_Go p.tables e below _ (T176.setTop (mkF m 296 #[.val (.long base), .second, .val (.long raw), .second, .val (.int delta), .val (.int count), .val (.int mode), .val (.long b), .second, .val (.int (2 : Int32)), .val (.long nn), .second, .val (.ref ms), .val (.ref b2), .val (.ref b9), .val (.ref b20), .val (.ref b35), .val (.long (b + ((2 : Int32).toInt64))), .second, .val (.long (nn + (1 : Int64))), .second] [(.int (2 : Int32)), (.ref b9)]))
        refine own_st (fun _ k' => XS.i2l X176.here hx rfl (hb hby at_296) rfl k') ?_
        show own_Go p.tables e below _ (T176.setTop (mkF m 297 #[.val (.long base), .second, .val (.long raw), .second, .val (.int delta), .val (.int count), .val (.int mode), .val (.long b), .second, .val (.int (2 : Int32)), .val (.long nn), .second, .val (.ref ms), .val (.ref b2), .val (.ref b9), .val (.ref b20), .val (.ref b35), .val (.long (b + ((2 : Int32).toInt64))), .second, .val (.long (nn + (1 : Int64))), .second] [(.long ((2 : Int32).toInt64)), (.ref b9)]))
        refine own_st (fun _ k' => XS.aload X176.here hx rfl (hb hby at_297) rfl rfl k') ?_
        show own_Go p.tables e below _ (T176.setTop (mkF m 299 #[.val (.long base), .second, .val (.long raw), .second, .val (.int delta), .val (.int count), .val (.int mode), .val (.long b), .second, .val (.int (2 : Int32)), .val (.long nn), .second, .val (.ref ms), .val (.ref b2), .val (.ref b9), .val (.ref b20), .val (.ref b35), .val (.long (b + ((2 : Int32).toInt64))), .second, .val (.long (nn + (1 : Int64))), .second] [(.ref b2), (.long ((2 : Int32).toInt64)), (.ref b9)]))
        refine own_st (fun _ k' => XS.aload X176.here hx rfl (hb hby at_299) rfl rfl k') ?_
        show own_Go p.tables e below _ (T176.setTop (mkF m 301 #[.val (.long base), .second, .val (.long raw), .second, .val (.int delta), .val (.int count), .val (.int mode), .val (.long b), .second, .val (.int (2 : Int32)), .val (.long nn), .second, .val (.ref ms), .val (.ref b2), .val (.ref b9), .val (.ref b20), .val (.ref b35), .val (.long (b + ((2 : Int32).toInt64))), .second, .val (.long (nn + (1 : Int64))), .second] [(.ref b9), (.ref b2), (.long ((2 : Int32).toInt64)), (.ref b9)]))
        refine own_st (fun _ k' => XS.aload X176.here hx rfl (hb hby at_301) rfl rfl k') ?_
        show own_Go p.tables e below _ (T176.setTop (mkF m 303 #[.val (.long base), .second, .val (.long raw), .second, .val (.int delta), .val (.int count), .val (.int mode), .val (.long b), .second, .val (.int (2 : Int32)), .val (.long nn), .second, .val (.ref ms), .val (.ref b2), .val (.ref b9), .val (.ref b20), .val (.ref b35), .val (.long (b + ((2 : Int32).toInt64))), .second, .val (.long (nn + (1 : Int64))), .second] [(.ref b20), (.ref b9), (.ref b2), (.long ((2 : Int32).toInt64)), (.ref b9)]))
        have hpk177 : own_pk ((2 : Int32).toInt64) b2 b9 b20 = b9 := by
          have e : ((2 : Int32).toInt64) = (2 : Int64) := (by have := hbb; have := rng64 nn; have := rng64 b; have := (by decide : (1 : Int64).toInt = 1); have := c_ladd b (1 : Int64); have := rng64 (b + (1 : Int64)); have := c_ladd (b + (1 : Int64)) (1 : Int64); have := rng64 ((b + (1 : Int64)) + (1 : Int64)); have := (by decide : ((2 : Int32).toInt64).toInt = 2); have := (by decide : (2 : Int64).toInt = 2); have := (Int64.lt_iff_toInt_lt).mp hd1_0; have := mt (Int64.lt_iff_toInt_lt).mpr hd1_1; refine (Int64.toInt_inj.symm).mpr ?_; omega : ((2 : Int32).toInt64) = (2 : Int64))
          rw [e]; rfl
        obtain ⟨_, _, ⟨T178, L178, k178, n178⟩, -, X178, ⟨Lc178, hQ178, l178, y178, z178⟩, st178⟩ := Jvm.LawKit.callS X176 hx (y := (⟨"com/example/penumbra/penumbra/order/SequenceLogDropUpToPinLaw", "pick", "(JLcom/example/penumbra/penumbra/order/SequenceLog$Entry;Lcom/example/penumbra/penumbra/order/SequenceLog$Entry;Lcom/example/penumbra/penumbra/order/SequenceLog$Entry;)Lcom/example/penumbra/penumbra/order/SequenceLog$Entry;"⟩ : MethodName)) hown (mvT hZ (hw _ (List.mem_of_getElem? (i := 84) rfl))) (mvT hZ (hw _ (List.mem_of_getElem? (i := 85) rfl))) (mvT hZ (hw _ (List.mem_of_getElem? (i := 86) rfl))) (mvT hZ (hw _ (List.mem_of_getElem? (i := 87) rfl))) (by decide) (backOf (W := 1) (rmK l Z a0 hw [] ((2 : Int32).toInt64) b2 b9 b20 T146.heap n0 Zc146 ) hZ (hw _ (List.mem_of_getElem? (i := 87) rfl)) (hw _ (List.mem_of_getElem? (i := 86) rfl)) (by decide) (by decide)) (g := (mkF m 303 #[.val (.long base), .second, .val (.long raw), .second, .val (.int delta), .val (.int count), .val (.int mode), .val (.long b), .second, .val (.int (2 : Int32)), .val (.long nn), .second, .val (.ref ms), .val (.ref b2), .val (.ref b9), .val (.ref b20), .val (.ref b35), .val (.long (b + ((2 : Int32).toInt64))), .second, .val (.long (nn + (1 : Int64))), .second] [(.ref b20), (.ref b9), (.ref b2), (.long ((2 : Int32).toInt64)), (.ref b9)])) rfl (by rw [hml]; rfl) (argsL := [(.long ((2 : Int32).toInt64)), (.ref b2), (.ref b9), (.ref b20)]) (rest := [(.ref b9)]) (lenOf pd__JLcom_example_penumbra_penumbra_order_SequenceLog_Entry_Lcom_example_penumbra_penumbra_order_SequenceLog_Entry_Lcom_example_penumbra_penumbra_order_SequenceLog_Entry__Lcom_example_penumbra_penumbra_order_SequenceLog_Entry_ rfl) rfl (by show 2 * 0 + _ ≤ _; exact Nat.le_of_eq rfl) (hb hby at_303) (fun _ _ => ⟨rfl, e176, (by decide : 6 + 0 ≤ _), (by decide : 1040 + 0 ≤ _)⟩)
        dsimp only [Pt.U, Pt.locs, Pt.cells, Pt.slots] at X178 l178 y178 z178 st178 hQ178
        subst l178 y178 z178
        rw [Q_rmK, hpk177] at hQ178
        obtain ⟨rfl, Nq178, e178⟩ := hQ178
        have N178 := Fr.app N176 Nq178
        refine own_st st178 ?_
        show own_Go p.tables e below _ (T178.setTop (mkF m 306 #[.val (.long base), .second, .val (.long raw), .second, .val (.int delta), .val (.int count), .val (.int mode), .val (.long b), .second, .val (.int (2 : Int32)), .val (.long nn), .second, .val (.ref ms), .val (.ref b2), .val (.ref b9), .val (.ref b20), .val (.ref b35), .val (.long (b + ((2 : Int32).toInt64))), .second, .val (.long (nn + (1 : Int64))), .second] [(.ref b9), (.ref b9)]))
        refine own_st (fun _ k' => Jvm.RoadKit.acmp (g := (mkF m 306 #[.val (.long base), .second, .val (.long raw), .second, .val (.int delta), .val (.int count), .val (.int mode), .val (.long b), .second, .val (.int (2 : Int32)), .val (.long nn), .second, .val (.ref ms), .val (.ref b2), .val (.ref b9), .val (.ref b20), .val (.ref b35), .val (.long (b + ((2 : Int32).toInt64))), .second, .val (.long (nn + (1 : Int64))), .second] [(.ref b9), (.ref b9)])) X178 hx rfl rfl rfl (pc0 := 306) (pc' := 311) (same := true) rfl (hb hby at_306) rfl (decide_eq_true rfl) (by decide) (by decide) k') ?_
        show own_Go p.tables e below _ (T178.setTop (mkF m 311 #[.val (.long base), .second, .val (.long raw), .second, .val (.int delta), .val (.int count), .val (.int mode), .val (.long b), .second, .val (.int (2 : Int32)), .val (.long nn), .second, .val (.ref ms), .val (.ref b2), .val (.ref b9), .val (.ref b20), .val (.ref b35), .val (.long (b + ((2 : Int32).toInt64))), .second, .val (.long (nn + (1 : Int64))), .second] []))
        refine own_st (fun _ k' => XS.iconst X178.here hx rfl (hb hby at_311) k') ?_
        show own_Go p.tables e below _ (T178.setTop (mkF m 312 #[.val (.long base), .second, .val (.long raw), .second, .val (.int delta), .val (.int count), .val (.int mode), .val (.long b), .second, .val (.int (2 : Int32)), .val (.long nn), .second, .val (.ref ms), .val (.ref b2), .val (.ref b9), .val (.ref b20), .val (.ref b35), .val (.long (b + ((2 : Int32).toInt64))), .second, .val (.long (nn + (1 : Int64))), .second] [(.int (1 : Int32))]))
        exact own_retN X178 hx (t := .boolean) Bd.returns (by simp) (hb hby at_312) Bd.notSynchronized ⟨rfl, N178⟩ (by decide) (by decide)
      ·  -- 2 dropped of 2
        refine own_tr st146 ?_
        show own_Go p.tables e below _ (T146.setTop (mkF m 165 #[.val (.long base), .second, .val (.long raw), .second, .val (.int delta), .val (.int count), .val (.int mode), .val (.long b), .second, .val (.int (2 : Int32)), .val (.long nn), .second, .val (.ref ms), .val (.ref b2), .val (.ref b9), .val (.ref b20), .val (.ref b35), .unset, .unset, .unset, .unset] []))
        refine own_st (fun _ k' => XS.lload X146.here hx rfl (hb hby at_165) rfl k') ?_
        show own_Go p.tables e below _ (T146.setTop (mkF m 167 #[.val (.long base), .second, .val (.long raw), .second, .val (.int delta), .val (.int count), .val (.int mode), .val (.long b), .second, .val (.int (2 : Int32)), .val (.long nn), .second, .val (.ref ms), .val (.ref b2), .val (.ref b9), .val (.ref b20), .val (.ref b35), .unset, .unset, .unset, .unset] [(.long b)]))
        refine own_st (fun _ k' => XS.iload X146.here hx rfl (hb hby at_167) rfl k') ?_
        show own_Go p.tables e below _ (T146.setTop (mkF m 169 #[.val (.long base), .second, .val (.long raw), .second, .val (.int delta), .val (.int count), .val (.int mode), .val (.long b), .second, .val (.int (2 : Int32)), .val (.long nn), .second, .val (.ref ms), .val (.ref b2), .val (.ref b9), .val (.ref b20), .val (.ref b35), .unset, .unset, .unset, .unset] [(.int (2 : Int32)), (.long b)]))
        refine own_st (fun _ k' => XS.i2l X146.here hx rfl (hb hby at_169) rfl k') ?_
        show own_Go p.tables e below _ (T146.setTop (mkF m 170 #[.val (.long base), .second, .val (.long raw), .second, .val (.int delta), .val (.int count), .val (.int mode), .val (.long b), .second, .val (.int (2 : Int32)), .val (.long nn), .second, .val (.ref ms), .val (.ref b2), .val (.ref b9), .val (.ref b20), .val (.ref b35), .unset, .unset, .unset, .unset] [(.long ((2 : Int32).toInt64)), (.long b)]))
        refine own_st (fun _ k' => XS.ladd X146.here hx rfl (hb hby at_170) rfl k') ?_
        show own_Go p.tables e below _ (T146.setTop (mkF m 171 #[.val (.long base), .second, .val (.long raw), .second, .val (.int delta), .val (.int count), .val (.int mode), .val (.long b), .second, .val (.int (2 : Int32)), .val (.long nn), .second, .val (.ref ms), .val (.ref b2), .val (.ref b9), .val (.ref b20), .val (.ref b35), .unset, .unset, .unset, .unset] [(.long (b + ((2 : Int32).toInt64)))]))
        refine own_st (fun _ k' => XS.lstore X146.here hx rfl (hb hby at_171) rfl (l' := #[.val (.long base), .second, .val (.long raw), .second, .val (.int delta), .val (.int count), .val (.int mode), .val (.long b), .second, .val (.int (2 : Int32)), .val (.long nn), .second, .val (.ref ms), .val (.ref b2), .val (.ref b9), .val (.ref b20), .val (.ref b35), .val (.long (b + ((2 : Int32).toInt64))), .second, .unset, .unset]) rfl k') ?_
        show own_Go p.tables e below _ (T146.setTop (mkF m 173 #[.val (.long base), .second, .val (.long raw), .second, .val (.int delta), .val (.int count), .val (.int mode), .val (.long b), .second, .val (.int (2 : Int32)), .val (.long nn), .second, .val (.ref ms), .val (.ref b2), .val (.ref b9), .val (.ref b20), .val (.ref b35), .val (.long (b + ((2 : Int32).toInt64))), .second, .unset, .unset] []))
        refine own_st (fun _ k' => XS.iload X146.here hx rfl (hb hby at_173) rfl k') ?_
        show own_Go p.tables e below _ (T146.setTop (mkF m 175 #[.val (.long base), .second, .val (.long raw), .second, .val (.int delta), .val (.int count), .val (.int mode), .val (.long b), .second, .val (.int (2 : Int32)), .val (.long nn), .second, .val (.ref ms), .val (.ref b2), .val (.ref b9), .val (.ref b20), .val (.ref b35), .val (.long (b + ((2 : Int32).toInt64))), .second, .unset, .unset] [(.int (2 : Int32))]))
        refine own_st (fun _ k' => XS.ifYes X146.here hx rfl (pc0 := 175) (pc' := 187) rfl (hb hby at_175) rfl ((if0 _ _).trans (feq (by decide : ¬ (2 : Int32) = (0 : Int32))).2) (by decide) (by decide) k') ?_
        show own_Go p.tables e below _ (T146.setTop (mkF m 187 #[.val (.long base), .second, .val (.long raw), .second, .val (.int delta), .val (.int count), .val (.int mode), .val (.long b), .second, .val (.int (2 : Int32)), .val (.long nn), .second, .val (.ref ms), .val (.ref b2), .val (.ref b9), .val (.ref b20), .val (.ref b35), .val (.long (b + ((2 : Int32).toInt64))), .second, .unset, .unset] []))
        refine own_st (fun _ k' => XS.lload X146.here hx rfl (hb hby at_187) rfl k') ?_
        show own_Go p.tables e below _ (T146.setTop (mkF m 189 #[.val (.long base), .second, .val (.long raw), .second, .val (.int delta), .val (.int count), .val (.int mode), .val (.long b), .second, .val (.int (2 : Int32)), .val (.long nn), .second, .val (.ref ms), .val (.ref b2), .val (.ref b9), .val (.ref b20), .val (.ref b35), .val (.long (b + ((2 : Int32).toInt64))), .second, .unset, .unset] [(.long nn)]))
        refine own_st (fun _ k' => XS.lload X146.here hx rfl (hb hby at_189) rfl k') ?_
        show own_Go p.tables e below _ (T146.setTop (mkF m 191 #[.val (.long base), .second, .val (.long raw), .second, .val (.int delta), .val (.int count), .val (.int mode), .val (.long b), .second, .val (.int (2 : Int32)), .val (.long nn), .second, .val (.ref ms), .val (.ref b2), .val (.ref b9), .val (.ref b20), .val (.ref b35), .val (.long (b + ((2 : Int32).toInt64))), .second, .unset, .unset] [(.long b), (.long nn)]))
        refine own_st (fun _ k' => XS.lcmp X146.here hx rfl (hb hby at_191) rfl k') ?_
        show own_Go p.tables e below _ (T146.setTop (mkF m 192 #[.val (.long base), .second, .val (.long raw), .second, .val (.int delta), .val (.int count), .val (.int mode), .val (.long b), .second, .val (.int (2 : Int32)), .val (.long nn), .second, .val (.ref ms), .val (.ref b2), .val (.ref b9), .val (.ref b20), .val (.ref b35), .val (.long (b + ((2 : Int32).toInt64))), .second, .unset, .unset] [(.int (lcmpW nn b))]))
        refine own_st (fun _ k' => XS.ifYes X146.here hx rfl (pc0 := 192) (pc' := 204) rfl (hb hby at_192) rfl ((if0 _ _).trans (tlt ((lw_gt nn b).mpr (by have := hbb; have := rng64 nn; have := rng64 b; have := (by decide : (1 : Int64).toInt = 1); have := c_ladd b (1 : Int64); have := rng64 (b + (1 : Int64)); have := c_ladd (b + (1 : Int64)) (1 : Int64); have := rng64 ((b + (1 : Int64)) + (1 : Int64)); have := mt (Int64.lt_iff_toInt_lt).mpr hd2_0; refine (Int64.lt_iff_toInt_lt).mpr ?_; omega : b < nn))).2.2.1) (by decide) (by decide) k') ?_
        show own_Go p.tables e below _ (T146.setTop (mkF m 204 #[.val (.long base), .second, .val (.long raw), .second, .val (.int delta), .val (.int count), .val (.int mode), .val (.long b), .second, .val (.int (2 : Int32)), .val (.long nn), .second, .val (.ref ms), .val (.ref b2), .val (.ref b9), .val (.ref b20), .val (.ref b35), .val (.long (b + ((2 : Int32).toInt64))), .second, .unset, .unset] []))
        refine own_st (fun _ k' => XS.lload X146.here hx rfl (hb hby at_204) rfl k') ?_
        show own_Go p.tables e below _ (T146.setTop (mkF m 206 #[.val (.long base), .second, .val (.long raw), .second, .val (.int delta), .val (.int count), .val (.int mode), .val (.long b), .second, .val (.int (2 : Int32)), .val (.long nn), .second, .val (.ref ms), .val (.ref b2), .val (.ref b9), .val (.ref b20), .val (.ref b35), .val (.long (b + ((2 : Int32).toInt64))), .second, .unset, .unset] [(.long nn)]))
        refine own_st (fun _ k' => XS.lload X146.here hx rfl (hb hby at_206) rfl k') ?_
        show own_Go p.tables e below _ (T146.setTop (mkF m 208 #[.val (.long base), .second, .val (.long raw), .second, .val (.int delta), .val (.int count), .val (.int mode), .val (.long b), .second, .val (.int (2 : Int32)), .val (.long nn), .second, .val (.ref ms), .val (.ref b2), .val (.ref b9), .val (.ref b20), .val (.ref b35), .val (.long (b + ((2 : Int32).toInt64))), .second, .unset, .unset] [(.long (b + ((2 : Int32).toInt64))), (.long nn)]))
        refine own_st (fun _ k' => XS.lcmp X146.here hx rfl (hb hby at_208) rfl k') ?_
        show own_Go p.tables e below _ (T146.setTop (mkF m 209 #[.val (.long base), .second, .val (.long raw), .second, .val (.int delta), .val (.int count), .val (.int mode), .val (.long b), .second, .val (.int (2 : Int32)), .val (.long nn), .second, .val (.ref ms), .val (.ref b2), .val (.ref b9), .val (.ref b20), .val (.ref b35), .val (.long (b + ((2 : Int32).toInt64))), .second, .unset, .unset] [(.int (lcmpW nn (b + ((2 : Int32).toInt64))))]))
        refine own_st (fun _ k' => XS.ifNo X146.here hx rfl (hb hby at_209) rfl ((if0 _ _).trans (flt (mt (lw_lt nn (b + ((2 : Int32).toInt64))).mp (by have := hbb; have := rng64 nn; have := rng64 b; have := (by decide : (1 : Int64).toInt = 1); have := c_ladd b (1 : Int64); have := rng64 (b + (1 : Int64)); have := c_ladd (b + (1 : Int64)) (1 : Int64); have := rng64 ((b + (1 : Int64)) + (1 : Int64)); have := (by decide : ((2 : Int32).toInt64).toInt = 2); have := c_ladd b (2 : Int32).toInt64; have := rng64 (b + (2 : Int32).toInt64); have := mt (Int64.lt_iff_toInt_lt).mpr hd2_0; refine mt (Int64.lt_iff_toInt_lt).mp ?_; omega : ¬ nn < (b + ((2 : Int32).toInt64))))).1) k') ?_
        show own_Go p.tables e below _ (T146.setTop (mkF m 212 #[.val (.long base), .second, .val (.long raw), .second, .val (.int delta), .val (.int count), .val (.int mode), .val (.long b), .second, .val (.int (2 : Int32)), .val (.long nn), .second, .val (.ref ms), .val (.ref b2), .val (.ref b9), .val (.ref b20), .val (.ref b35), .val (.long (b + ((2 : Int32).toInt64))), .second, .unset, .unset] []))
        refine own_st (fun _ k' => XS.lload X146.here hx rfl (hb hby at_212) rfl k') ?_
        show own_Go p.tables e below _ (T146.setTop (mkF m 214 #[.val (.long base), .second, .val (.long raw), .second, .val (.int delta), .val (.int count), .val (.int mode), .val (.long b), .second, .val (.int (2 : Int32)), .val (.long nn), .second, .val (.ref ms), .val (.ref b2), .val (.ref b9), .val (.ref b20), .val (.ref b35), .val (.long (b + ((2 : Int32).toInt64))), .second, .unset, .unset] [(.long (b + ((2 : Int32).toInt64)))]))
        refine own_st (fun _ k' => XS.lconst X146.here hx rfl (hb hby at_214) k') ?_
        show own_Go p.tables e below _ (T146.setTop (mkF m 215 #[.val (.long base), .second, .val (.long raw), .second, .val (.int delta), .val (.int count), .val (.int mode), .val (.long b), .second, .val (.int (2 : Int32)), .val (.long nn), .second, .val (.ref ms), .val (.ref b2), .val (.ref b9), .val (.ref b20), .val (.ref b35), .val (.long (b + ((2 : Int32).toInt64))), .second, .unset, .unset] [(.long (1 : Int64)), (.long (b + ((2 : Int32).toInt64)))]))
        refine own_st (fun _ k' => XS.ladd X146.here hx rfl (hb hby at_215) rfl k') ?_
        show own_Go p.tables e below _ (T146.setTop (mkF m 216 #[.val (.long base), .second, .val (.long raw), .second, .val (.int delta), .val (.int count), .val (.int mode), .val (.long b), .second, .val (.int (2 : Int32)), .val (.long nn), .second, .val (.ref ms), .val (.ref b2), .val (.ref b9), .val (.ref b20), .val (.ref b35), .val (.long (b + ((2 : Int32).toInt64))), .second, .unset, .unset] [(.long ((b + ((2 : Int32).toInt64)) + (1 : Int64)))]))
        refine own_st (fun _ k' => XS.lstore X146.here hx rfl (hb hby at_216) rfl (l' := #[.val (.long base), .second, .val (.long raw), .second, .val (.int delta), .val (.int count), .val (.int mode), .val (.long b), .second, .val (.int (2 : Int32)), .val (.long nn), .second, .val (.ref ms), .val (.ref b2), .val (.ref b9), .val (.ref b20), .val (.ref b35), .val (.long (b + ((2 : Int32).toInt64))), .second, .val (.long ((b + ((2 : Int32).toInt64)) + (1 : Int64))), .second]) rfl k') ?_
        show own_Go p.tables e below _ (T146.setTop (mkF m 218 #[.val (.long base), .second, .val (.long raw), .second, .val (.int delta), .val (.int count), .val (.int mode), .val (.long b), .second, .val (.int (2 : Int32)), .val (.long nn), .second, .val (.ref ms), .val (.ref b2), .val (.ref b9), .val (.ref b20), .val (.ref b35), .val (.long (b + ((2 : Int32).toInt64))), .second, .val (.long ((b + ((2 : Int32).toInt64)) + (1 : Int64))), .second] []))
        refine own_st (fun _ k' => XS.goto X146.here hx rfl (pc0 := 218) (pc' := 227) rfl (hb hby at_218) (by decide) (by decide) k') ?_
        show own_Go p.tables e below _ (T146.setTop (mkF m 227 #[.val (.long base), .second, .val (.long raw), .second, .val (.int delta), .val (.int count), .val (.int mode), .val (.long b), .second, .val (.int (2 : Int32)), .val (.long nn), .second, .val (.ref ms), .val (.ref b2), .val (.ref b9), .val (.ref b20), .val (.ref b35), .val (.long (b + ((2 : Int32).toInt64))), .second, .val (.long ((b + ((2 : Int32).toInt64)) + (1 : Int64))), .second] []))
        refine own_st (fun _ k' => XS.aload X146.here hx rfl (hb hby at_227) rfl rfl k') ?_
        show own_Go p.tables e below _ (T146.setTop (mkF m 229 #[.val (.long base), .second, .val (.long raw), .second, .val (.int delta), .val (.int count), .val (.int mode), .val (.long b), .second, .val (.int (2 : Int32)), .val (.long nn), .second, .val (.ref ms), .val (.ref b2), .val (.ref b9), .val (.ref b20), .val (.ref b35), .val (.long (b + ((2 : Int32).toInt64))), .second, .val (.long ((b + ((2 : Int32).toInt64)) + (1 : Int64))), .second] [(.ref b35)]))
        obtain ⟨cq179, kq179, q179a, q179b, q179c⟩ := isOf hZ rfl Ea146
        obtain ⟨_, _, ⟨T179, L179, k179, n179⟩, -, X179, ⟨Lc179, hQ179, l179, y179, z179⟩, st179⟩ := X146.virtualBack hx (y := (⟨"com/example/penumbra/penumbra/order/SequenceLog", "first", "()J"⟩ : MethodName)) (z := (⟨"com/example/penumbra/penumbra/order/SequenceLog", "first", "()J"⟩ : MethodName)) hown (mvT hZ (hw _ (List.mem_of_getElem? (i := 73) rfl))) (mvT hZ (hw _ (List.mem_of_getElem? (i := 74) rfl))) (notFace_of_selects (args := #[]) (mvT hZ (hw _ (List.mem_of_getElem? (i := 76) rfl)))) (mvT hZ (hw _ (List.mem_of_getElem? (i := 76) rfl))) (mvT hZ (hw _ (List.mem_of_getElem? (i := 75) rfl))) (by decide) (backOf (W := 0) (rmFi l Z a0 hw [] b35 (((b + (1 : Int64)) + (1 : Int64)) + (1 : Int64)) T146.heap n0 Zc146 Fa_first146) hZ (hw _ (List.mem_of_getElem? (i := 77) rfl)) (hw _ (List.mem_of_getElem? (i := 28) rfl)) (by decide) (by decide)) q179a q179c (g := (mkF m 229 #[.val (.long base), .second, .val (.long raw), .second, .val (.int delta), .val (.int count), .val (.int mode), .val (.long b), .second, .val (.int (2 : Int32)), .val (.long nn), .second, .val (.ref ms), .val (.ref b2), .val (.ref b9), .val (.ref b20), .val (.ref b35), .val (.long (b + ((2 : Int32).toInt64))), .second, .val (.long ((b + ((2 : Int32).toInt64)) + (1 : Int64))), .second] [(.ref b35)])) rfl (by rw [hml]; rfl) (Steps.refl _) (argsL := []) (rest := []) (lenOf pd___J rfl) rfl (by show 2 * 0 + _ ≤ _; exact Nat.le_of_eq rfl) (hb hby at_229) (fun _ _ => ⟨rfl, rfl, (by decide : 6 + 0 ≤ _), (by decide : 1040 + 0 ≤ _)⟩)
        dsimp only [Pt.U, Pt.locs, Pt.cells, Pt.slots] at X179 l179 y179 z179 st179 hQ179
        subst l179 y179 z179
        obtain ⟨rfl, Nq179, e179⟩ := hQ179
        have N179 := Fr.app N146 Nq179
        refine own_tr st179 ?_
        show own_Go p.tables e below _ (T179.setTop (mkF m 232 #[.val (.long base), .second, .val (.long raw), .second, .val (.int delta), .val (.int count), .val (.int mode), .val (.long b), .second, .val (.int (2 : Int32)), .val (.long nn), .second, .val (.ref ms), .val (.ref b2), .val (.ref b9), .val (.ref b20), .val (.ref b35), .val (.long (b + ((2 : Int32).toInt64))), .second, .val (.long ((b + ((2 : Int32).toInt64)) + (1 : Int64))), .second] [(.long (((b + (1 : Int64)) + (1 : Int64)) + (1 : Int64)))]))
        refine own_st (fun _ k' => XS.lload X179.here hx rfl (hb hby at_232) rfl k') ?_
        show own_Go p.tables e below _ (T179.setTop (mkF m 234 #[.val (.long base), .second, .val (.long raw), .second, .val (.int delta), .val (.int count), .val (.int mode), .val (.long b), .second, .val (.int (2 : Int32)), .val (.long nn), .second, .val (.ref ms), .val (.ref b2), .val (.ref b9), .val (.ref b20), .val (.ref b35), .val (.long (b + ((2 : Int32).toInt64))), .second, .val (.long ((b + ((2 : Int32).toInt64)) + (1 : Int64))), .second] [(.long ((b + ((2 : Int32).toInt64)) + (1 : Int64))), (.long (((b + (1 : Int64)) + (1 : Int64)) + (1 : Int64)))]))
        refine own_st (fun _ k' => XS.lcmp X179.here hx rfl (hb hby at_234) rfl k') ?_
        show own_Go p.tables e below _ (T179.setTop (mkF m 235 #[.val (.long base), .second, .val (.long raw), .second, .val (.int delta), .val (.int count), .val (.int mode), .val (.long b), .second, .val (.int (2 : Int32)), .val (.long nn), .second, .val (.ref ms), .val (.ref b2), .val (.ref b9), .val (.ref b20), .val (.ref b35), .val (.long (b + ((2 : Int32).toInt64))), .second, .val (.long ((b + ((2 : Int32).toInt64)) + (1 : Int64))), .second] [(.int (lcmpW (((b + (1 : Int64)) + (1 : Int64)) + (1 : Int64)) ((b + ((2 : Int32).toInt64)) + (1 : Int64))))]))
        refine own_st (fun _ k' => XS.ifYes X179.here hx rfl (pc0 := 235) (pc' := 240) rfl (hb hby at_235) rfl ((if0 _ _).trans (teq ((lw_eq (((b + (1 : Int64)) + (1 : Int64)) + (1 : Int64)) ((b + ((2 : Int32).toInt64)) + (1 : Int64))).mpr (by have := hbb; have := rng64 nn; have := rng64 b; have := (by decide : (1 : Int64).toInt = 1); have := c_ladd b (1 : Int64); have := rng64 (b + (1 : Int64)); have := c_ladd (b + (1 : Int64)) (1 : Int64); have := rng64 ((b + (1 : Int64)) + (1 : Int64)); have := c_ladd ((b + (1 : Int64)) + (1 : Int64)) (1 : Int64); have := rng64 (((b + (1 : Int64)) + (1 : Int64)) + (1 : Int64)); have := (by decide : ((2 : Int32).toInt64).toInt = 2); have := c_ladd b (2 : Int32).toInt64; have := rng64 (b + (2 : Int32).toInt64); have := c_ladd (b + (2 : Int32).toInt64) (1 : Int64); have := rng64 ((b + (2 : Int32).toInt64) + (1 : Int64)); have := mt (Int64.lt_iff_toInt_lt).mpr hd2_0; refine (Int64.toInt_inj.symm).mpr ?_; omega : (((b + (1 : Int64)) + (1 : Int64)) + (1 : Int64)) = ((b + ((2 : Int32).toInt64)) + (1 : Int64))))).1) (by decide) (by decide) k') ?_
        show own_Go p.tables e below _ (T179.setTop (mkF m 240 #[.val (.long base), .second, .val (.long raw), .second, .val (.int delta), .val (.int count), .val (.int mode), .val (.long b), .second, .val (.int (2 : Int32)), .val (.long nn), .second, .val (.ref ms), .val (.ref b2), .val (.ref b9), .val (.ref b20), .val (.ref b35), .val (.long (b + ((2 : Int32).toInt64))), .second, .val (.long ((b + ((2 : Int32).toInt64)) + (1 : Int64))), .second] []))
        refine own_st (fun _ k' => XS.aload X179.here hx rfl (hb hby at_240) rfl rfl k') ?_
        show own_Go p.tables e below _ (T179.setTop (mkF m 242 #[.val (.long base), .second, .val (.long raw), .second, .val (.int delta), .val (.int count), .val (.int mode), .val (.long b), .second, .val (.int (2 : Int32)), .val (.long nn), .second, .val (.ref ms), .val (.ref b2), .val (.ref b9), .val (.ref b20), .val (.ref b35), .val (.long (b + ((2 : Int32).toInt64))), .second, .val (.long ((b + ((2 : Int32).toInt64)) + (1 : Int64))), .second] [(.ref b35)]))
        obtain ⟨cq180, kq180, q180a, q180b, q180c⟩ := isOf hZ e179 Ea146
        obtain ⟨_, _, ⟨T180, L180, k180, n180⟩, -, X180, ⟨Lc180, hQ180, l180, y180, z180⟩, st180⟩ := X179.virtualBack hx (y := (⟨"com/example/penumbra/penumbra/order/SequenceLog", "last", "()J"⟩ : MethodName)) (z := (⟨"com/example/penumbra/penumbra/order/SequenceLog", "last", "()J"⟩ : MethodName)) hown (mvT hZ (hw _ (List.mem_of_getElem? (i := 78) rfl))) (mvT hZ (hw _ (List.mem_of_getElem? (i := 63) rfl))) (notFace_of_selects (args := #[]) (mvT hZ (hw _ (List.mem_of_getElem? (i := 65) rfl)))) (mvT hZ (hw _ (List.mem_of_getElem? (i := 65) rfl))) (mvT hZ (hw _ (List.mem_of_getElem? (i := 64) rfl))) (by decide) (backOf (W := 0) (rmLa l Z a0 hw [] b35 (((b + (1 : Int64)) + (1 : Int64)) + (1 : Int64)) (0 : Int32) T146.heap n0 Zc146 Fa_first146 Fa_size146) hZ (hw _ (List.mem_of_getElem? (i := 66) rfl)) (hw _ (List.mem_of_getElem? (i := 28) rfl)) (by decide) (by decide)) q180a q180c (g := (mkF m 242 #[.val (.long base), .second, .val (.long raw), .second, .val (.int delta), .val (.int count), .val (.int mode), .val (.long b), .second, .val (.int (2 : Int32)), .val (.long nn), .second, .val (.ref ms), .val (.ref b2), .val (.ref b9), .val (.ref b20), .val (.ref b35), .val (.long (b + ((2 : Int32).toInt64))), .second, .val (.long ((b + ((2 : Int32).toInt64)) + (1 : Int64))), .second] [(.ref b35)])) rfl (by rw [hml]; rfl) (Steps.refl _) (argsL := []) (rest := []) (lenOf pd___J rfl) rfl (by show 2 * 0 + _ ≤ _; exact Nat.le_of_eq rfl) (hb hby at_242) (fun _ _ => ⟨rfl, e179, (by decide : 6 + 0 ≤ _), (by decide : 1040 + 0 ≤ _)⟩)
        dsimp only [Pt.U, Pt.locs, Pt.cells, Pt.slots] at X180 l180 y180 z180 st180 hQ180
        subst l180 y180 z180
        obtain ⟨rfl, Nq180, e180⟩ := hQ180
        have N180 := Fr.app N179 Nq180
        refine own_tr st180 ?_
        show own_Go p.tables e below _ (T180.setTop (mkF m 245 #[.val (.long base), .second, .val (.long raw), .second, .val (.int delta), .val (.int count), .val (.int mode), .val (.long b), .second, .val (.int (2 : Int32)), .val (.long nn), .second, .val (.ref ms), .val (.ref b2), .val (.ref b9), .val (.ref b20), .val (.ref b35), .val (.long (b + ((2 : Int32).toInt64))), .second, .val (.long ((b + ((2 : Int32).toInt64)) + (1 : Int64))), .second] [(.long (((((b + (1 : Int64)) + (1 : Int64)) + (1 : Int64)) + ((0 : Int32).toInt64)) - (1 : Int64)))]))
        refine own_st (fun _ k' => XS.lload X180.here hx rfl (hb hby at_245) rfl k') ?_
        show own_Go p.tables e below _ (T180.setTop (mkF m 247 #[.val (.long base), .second, .val (.long raw), .second, .val (.int delta), .val (.int count), .val (.int mode), .val (.long b), .second, .val (.int (2 : Int32)), .val (.long nn), .second, .val (.ref ms), .val (.ref b2), .val (.ref b9), .val (.ref b20), .val (.ref b35), .val (.long (b + ((2 : Int32).toInt64))), .second, .val (.long ((b + ((2 : Int32).toInt64)) + (1 : Int64))), .second] [(.long (b + ((2 : Int32).toInt64))), (.long (((((b + (1 : Int64)) + (1 : Int64)) + (1 : Int64)) + ((0 : Int32).toInt64)) - (1 : Int64)))]))
        refine own_st (fun _ k' => XS.lcmp X180.here hx rfl (hb hby at_247) rfl k') ?_
        show own_Go p.tables e below _ (T180.setTop (mkF m 248 #[.val (.long base), .second, .val (.long raw), .second, .val (.int delta), .val (.int count), .val (.int mode), .val (.long b), .second, .val (.int (2 : Int32)), .val (.long nn), .second, .val (.ref ms), .val (.ref b2), .val (.ref b9), .val (.ref b20), .val (.ref b35), .val (.long (b + ((2 : Int32).toInt64))), .second, .val (.long ((b + ((2 : Int32).toInt64)) + (1 : Int64))), .second] [(.int (lcmpW (((((b + (1 : Int64)) + (1 : Int64)) + (1 : Int64)) + ((0 : Int32).toInt64)) - (1 : Int64)) (b + ((2 : Int32).toInt64))))]))
        refine own_st (fun _ k' => XS.ifYes X180.here hx rfl (pc0 := 248) (pc' := 253) rfl (hb hby at_248) rfl ((if0 _ _).trans (teq ((lw_eq (((((b + (1 : Int64)) + (1 : Int64)) + (1 : Int64)) + ((0 : Int32).toInt64)) - (1 : Int64)) (b + ((2 : Int32).toInt64))).mpr (by have := hbb; have := rng64 nn; have := rng64 b; have := (by decide : (1 : Int64).toInt = 1); have := c_ladd b (1 : Int64); have := rng64 (b + (1 : Int64)); have := c_ladd (b + (1 : Int64)) (1 : Int64); have := rng64 ((b + (1 : Int64)) + (1 : Int64)); have := c_ladd ((b + (1 : Int64)) + (1 : Int64)) (1 : Int64); have := rng64 (((b + (1 : Int64)) + (1 : Int64)) + (1 : Int64)); have := (by decide : ((0 : Int32).toInt64).toInt = 0); have := c_ladd (((b + (1 : Int64)) + (1 : Int64)) + (1 : Int64)) (0 : Int32).toInt64; have := rng64 ((((b + (1 : Int64)) + (1 : Int64)) + (1 : Int64)) + (0 : Int32).toInt64); have := c_lsub ((((b + (1 : Int64)) + (1 : Int64)) + (1 : Int64)) + (0 : Int32).toInt64) (1 : Int64); have := rng64 (((((b + (1 : Int64)) + (1 : Int64)) + (1 : Int64)) + (0 : Int32).toInt64) - (1 : Int64)); have := (by decide : ((2 : Int32).toInt64).toInt = 2); have := c_ladd b (2 : Int32).toInt64; have := rng64 (b + (2 : Int32).toInt64); have := mt (Int64.lt_iff_toInt_lt).mpr hd2_0; refine (Int64.toInt_inj.symm).mpr ?_; omega : (((((b + (1 : Int64)) + (1 : Int64)) + (1 : Int64)) + ((0 : Int32).toInt64)) - (1 : Int64)) = (b + ((2 : Int32).toInt64))))).1) (by decide) (by decide) k') ?_
        show own_Go p.tables e below _ (T180.setTop (mkF m 253 #[.val (.long base), .second, .val (.long raw), .second, .val (.int delta), .val (.int count), .val (.int mode), .val (.long b), .second, .val (.int (2 : Int32)), .val (.long nn), .second, .val (.ref ms), .val (.ref b2), .val (.ref b9), .val (.ref b20), .val (.ref b35), .val (.long (b + ((2 : Int32).toInt64))), .second, .val (.long ((b + ((2 : Int32).toInt64)) + (1 : Int64))), .second] []))
        refine own_st (fun _ k' => XS.lload X180.here hx rfl (hb hby at_253) rfl k') ?_
        show own_Go p.tables e below _ (T180.setTop (mkF m 255 #[.val (.long base), .second, .val (.long raw), .second, .val (.int delta), .val (.int count), .val (.int mode), .val (.long b), .second, .val (.int (2 : Int32)), .val (.long nn), .second, .val (.ref ms), .val (.ref b2), .val (.ref b9), .val (.ref b20), .val (.ref b35), .val (.long (b + ((2 : Int32).toInt64))), .second, .val (.long ((b + ((2 : Int32).toInt64)) + (1 : Int64))), .second] [(.long ((b + ((2 : Int32).toInt64)) + (1 : Int64)))]))
        refine own_st (fun _ k' => XS.lload X180.here hx rfl (hb hby at_255) rfl k') ?_
        show own_Go p.tables e below _ (T180.setTop (mkF m 257 #[.val (.long base), .second, .val (.long raw), .second, .val (.int delta), .val (.int count), .val (.int mode), .val (.long b), .second, .val (.int (2 : Int32)), .val (.long nn), .second, .val (.ref ms), .val (.ref b2), .val (.ref b9), .val (.ref b20), .val (.ref b35), .val (.long (b + ((2 : Int32).toInt64))), .second, .val (.long ((b + ((2 : Int32).toInt64)) + (1 : Int64))), .second] [(.long (b + ((2 : Int32).toInt64))), (.long ((b + ((2 : Int32).toInt64)) + (1 : Int64)))]))
        refine own_st (fun _ k' => XS.lcmp X180.here hx rfl (hb hby at_257) rfl k') ?_
        show own_Go p.tables e below _ (T180.setTop (mkF m 258 #[.val (.long base), .second, .val (.long raw), .second, .val (.int delta), .val (.int count), .val (.int mode), .val (.long b), .second, .val (.int (2 : Int32)), .val (.long nn), .second, .val (.ref ms), .val (.ref b2), .val (.ref b9), .val (.ref b20), .val (.ref b35), .val (.long (b + ((2 : Int32).toInt64))), .second, .val (.long ((b + ((2 : Int32).toInt64)) + (1 : Int64))), .second] [(.int (lcmpW ((b + ((2 : Int32).toInt64)) + (1 : Int64)) (b + ((2 : Int32).toInt64))))]))
        refine own_st (fun _ k' => XS.ifYes X180.here hx rfl (pc0 := 258) (pc' := 311) rfl (hb hby at_258) rfl ((if0 _ _).trans (tlt ((lw_gt ((b + ((2 : Int32).toInt64)) + (1 : Int64)) (b + ((2 : Int32).toInt64))).mpr (by have := hbb; have := rng64 nn; have := rng64 b; have := (by decide : (1 : Int64).toInt = 1); have := c_ladd b (1 : Int64); have := rng64 (b + (1 : Int64)); have := c_ladd (b + (1 : Int64)) (1 : Int64); have := rng64 ((b + (1 : Int64)) + (1 : Int64)); have := (by decide : ((2 : Int32).toInt64).toInt = 2); have := c_ladd b (2 : Int32).toInt64; have := rng64 (b + (2 : Int32).toInt64); have := c_ladd (b + (2 : Int32).toInt64) (1 : Int64); have := rng64 ((b + (2 : Int32).toInt64) + (1 : Int64)); have := mt (Int64.lt_iff_toInt_lt).mpr hd2_0; refine (Int64.lt_iff_toInt_lt).mpr ?_; omega : (b + ((2 : Int32).toInt64)) < ((b + ((2 : Int32).toInt64)) + (1 : Int64))))).2.2.1) (by decide) (by decide) k') ?_
        show own_Go p.tables e below _ (T180.setTop (mkF m 311 #[.val (.long base), .second, .val (.long raw), .second, .val (.int delta), .val (.int count), .val (.int mode), .val (.long b), .second, .val (.int (2 : Int32)), .val (.long nn), .second, .val (.ref ms), .val (.ref b2), .val (.ref b9), .val (.ref b20), .val (.ref b35), .val (.long (b + ((2 : Int32).toInt64))), .second, .val (.long ((b + ((2 : Int32).toInt64)) + (1 : Int64))), .second] []))
        refine own_st (fun _ k' => XS.iconst X180.here hx rfl (hb hby at_311) k') ?_
        show own_Go p.tables e below _ (T180.setTop (mkF m 312 #[.val (.long base), .second, .val (.long raw), .second, .val (.int delta), .val (.int count), .val (.int mode), .val (.long b), .second, .val (.int (2 : Int32)), .val (.long nn), .second, .val (.ref ms), .val (.ref b2), .val (.ref b9), .val (.ref b20), .val (.ref b35), .val (.long (b + ((2 : Int32).toInt64))), .second, .val (.long ((b + ((2 : Int32).toInt64)) + (1 : Int64))), .second] [(.int (1 : Int32))]))
        exact own_retN X180 hx (t := .boolean) Bd.returns (by simp) (hb hby at_312) Bd.notSynchronized ⟨rfl, N180⟩ (by decide) (by decide)
    ·  -- k = 3
      rw [hk]
      show own_Go p.tables e below _ (T54.setTop (mkF m 119 #[.val (.long base), .second, .val (.long raw), .second, .val (.int delta), .val (.int count), .val (.int mode), .val (.long b), .second, .val (.int (3 : Int32)), .val (.long nn), .second, .val (.ref ms), .val (.ref b2), .val (.ref b9), .val (.ref b20), .val (.ref b35), .unset, .unset, .unset, .unset] []))
      refine own_st (fun _ k' => XS.iload X54.here hx rfl (hb hby at_119) rfl k') ?_
      show own_Go p.tables e below _ (T54.setTop (mkF m 121 #[.val (.long base), .second, .val (.long raw), .second, .val (.int delta), .val (.int count), .val (.int mode), .val (.long b), .second, .val (.int (3 : Int32)), .val (.long nn), .second, .val (.ref ms), .val (.ref b2), .val (.ref b9), .val (.ref b20), .val (.ref b35), .unset, .unset, .unset, .unset] [(.int (3 : Int32))]))
      refine own_st (fun _ k' => XS.iconst X54.here hx rfl (hb hby at_121) k') ?_
      show own_Go p.tables e below _ (T54.setTop (mkF m 122 #[.val (.long base), .second, .val (.long raw), .second, .val (.int delta), .val (.int count), .val (.int mode), .val (.long b), .second, .val (.int (3 : Int32)), .val (.long nn), .second, .val (.ref ms), .val (.ref b2), .val (.ref b9), .val (.ref b20), .val (.ref b35), .unset, .unset, .unset, .unset] [(.int (1 : Int32)), (.int (3 : Int32))]))
      refine own_st (fun _ k' => XS.icmpNo X54.here hx rfl (hb hby at_122) rfl (flt (by decide : ¬ (3 : Int32) < (1 : Int32))).1 k') ?_
      show own_Go p.tables e below _ (T54.setTop (mkF m 125 #[.val (.long base), .second, .val (.long raw), .second, .val (.int delta), .val (.int count), .val (.int mode), .val (.long b), .second, .val (.int (3 : Int32)), .val (.long nn), .second, .val (.ref ms), .val (.ref b2), .val (.ref b9), .val (.ref b20), .val (.ref b35), .unset, .unset, .unset, .unset] []))
      refine own_st (fun _ k' => XS.aload X54.here hx rfl (hb hby at_125) rfl rfl k') ?_
      show own_Go p.tables e below _ (T54.setTop (mkF m 127 #[.val (.long base), .second, .val (.long raw), .second, .val (.int delta), .val (.int count), .val (.int mode), .val (.long b), .second, .val (.int (3 : Int32)), .val (.long nn), .second, .val (.ref ms), .val (.ref b2), .val (.ref b9), .val (.ref b20), .val (.ref b35), .unset, .unset, .unset, .unset] [(.ref b35)]))
      refine own_st (fun _ k' => XS.aload X54.here hx rfl (hb hby at_127) rfl rfl k') ?_
      show own_Go p.tables e below _ (T54.setTop (mkF m 129 #[.val (.long base), .second, .val (.long raw), .second, .val (.int delta), .val (.int count), .val (.int mode), .val (.long b), .second, .val (.int (3 : Int32)), .val (.long nn), .second, .val (.ref ms), .val (.ref b2), .val (.ref b9), .val (.ref b20), .val (.ref b35), .unset, .unset, .unset, .unset] [(.ref b2), (.ref b35)]))
      obtain ⟨cq181, kq181, q181a, q181b, q181c⟩ := isOf hZ rfl Ea54
      obtain ⟨_, _, ⟨T181, L181, k181, n181⟩, -, X181, ⟨Lc181, hQ181, l181, y181, z181⟩, st181⟩ := X54.virtualBack hx (y := (⟨"com/example/penumbra/penumbra/order/SequenceLog", "append", "(Lcom/example/penumbra/penumbra/order/SequenceLog$Entry;)V"⟩ : MethodName)) (z := (⟨"com/example/penumbra/penumbra/order/SequenceLog", "append", "(Lcom/example/penumbra/penumbra/order/SequenceLog$Entry;)V"⟩ : MethodName)) hown (mvT hZ (hw _ (List.mem_of_getElem? (i := 52) rfl))) (mvT hZ (hw _ (List.mem_of_getElem? (i := 53) rfl))) (notFace_of_selects (args := #[]) (mvT hZ (hw _ (List.mem_of_getElem? (i := 55) rfl)))) (mvT hZ (hw _ (List.mem_of_getElem? (i := 55) rfl))) (mvT hZ (hw _ (List.mem_of_getElem? (i := 54) rfl))) (by decide) (backOf (W := 0) (rmP0 l Z a0 hw [] b35 b2 (b + (1 : Int64)) (b + (1 : Int64)) rg kk .null .null .null T54.heap n0 Zc54 Ea54 Fa_ring54 Fa_first54 Fa_head54 Fa_size54 Va54 OV ne_b35_rg g_b35 g_rg Ec3_x55 Fc3_x56 ne_b2_b35 ne_b2_rg (by have := hbb; have := rng64 b; have := (by decide : (1 : Int64).toInt = 1); have := c_ladd b (1 : Int64); have := rng64 (b + (1 : Int64)); have := (by decide : ((0 : Int32).toInt64).toInt = 0); have := c_ladd (b + (1 : Int64)) (0 : Int32).toInt64; have := rng64 ((b + (1 : Int64)) + (0 : Int32).toInt64); have := c_lsub ((b + (1 : Int64)) + (0 : Int32).toInt64) (1 : Int64); have := rng64 (((b + (1 : Int64)) + (0 : Int32).toInt64) - (1 : Int64)); have := c_ladd (((b + (1 : Int64)) + (0 : Int32).toInt64) - (1 : Int64)) (1 : Int64); have := rng64 ((((b + (1 : Int64)) + (0 : Int32).toInt64) - (1 : Int64)) + (1 : Int64)); refine (Int64.toInt_inj.symm).mpr ?_; omega : (b + (1 : Int64)) = ((((b + (1 : Int64)) + ((0 : Int32).toInt64)) - (1 : Int64)) + (1 : Int64)))) hZ (hw _ (List.mem_of_getElem? (i := 56) rfl)) (hw _ (List.mem_of_getElem? (i := 28) rfl)) (by decide) (by decide)) q181a q181c (g := (mkF m 129 #[.val (.long base), .second, .val (.long raw), .second, .val (.int delta), .val (.int count), .val (.int mode), .val (.long b), .second, .val (.int (3 : Int32)), .val (.long nn), .second, .val (.ref ms), .val (.ref b2), .val (.ref b9), .val (.ref b20), .val (.ref b35), .unset, .unset, .unset, .unset] [(.ref b2), (.ref b35)])) rfl (by rw [hml]; rfl) (Steps.refl _) (argsL := [(.ref b2)]) (rest := []) (lenOf pd__Lcom_example_penumbra_penumbra_order_SequenceLog_Entry__V rfl) rfl (by show 2 * 0 + _ ≤ _; exact Nat.le_of_eq rfl) (hb hby at_129) (fun _ _ => ⟨rfl, rfl, (by decide : 6 + 0 ≤ _), (by decide : 1040 + 0 ≤ _)⟩)
      dsimp only [Pt.U, Pt.locs, Pt.cells, Pt.slots] at X181 l181 y181 z181 st181 hQ181
      subst l181 y181 z181
      obtain ⟨rfl, Nq181, Kc181, Ea181, Fa_ring181, Fa_first181, Fa_head181, Fa_size181, Va181⟩ := hQ181
      have N181 := Fr.app N54 Nq181
      have Ec3_x182 := Ec3_x55.keep Kc181
      have Fc3_x183 := Fc3_x56.keep Kc181 (ninS ne_b2_b35 (ninS ne_b2_rg nin0))
      have Ec12_x184 := Ec12_x57.keep Kc181
      have Fc12_x185 := Fc12_x58.keep Kc181 (ninS ne_b9_b35 (ninS ne_b9_rg nin0))
      have Ec25_x186 := Ec25_x59.keep Kc181
      have Fc25_x187 := Fc25_x60.keep Kc181 (ninS ne_b20_b35 (ninS ne_b20_rg nin0))
      have Ea54_x188 := Ea54.keep Kc181
      have Zc181 : n0 ≤ T181.heap.size := Nat.le_trans Zc54 Kc181.1
      refine own_tr st181 ?_
      show own_Go p.tables e below _ (T181.setTop (mkF m 132 #[.val (.long base), .second, .val (.long raw), .second, .val (.int delta), .val (.int count), .val (.int mode), .val (.long b), .second, .val (.int (3 : Int32)), .val (.long nn), .second, .val (.ref ms), .val (.ref b2), .val (.ref b9), .val (.ref b20), .val (.ref b35), .unset, .unset, .unset, .unset] []))
      refine own_st (fun _ k' => XS.iload X181.here hx rfl (hb hby at_132) rfl k') ?_
      show own_Go p.tables e below _ (T181.setTop (mkF m 134 #[.val (.long base), .second, .val (.long raw), .second, .val (.int delta), .val (.int count), .val (.int mode), .val (.long b), .second, .val (.int (3 : Int32)), .val (.long nn), .second, .val (.ref ms), .val (.ref b2), .val (.ref b9), .val (.ref b20), .val (.ref b35), .unset, .unset, .unset, .unset] [(.int (3 : Int32))]))
      refine own_st (fun _ k' => XS.iconst X181.here hx rfl (hb hby at_134) k') ?_
      show own_Go p.tables e below _ (T181.setTop (mkF m 135 #[.val (.long base), .second, .val (.long raw), .second, .val (.int delta), .val (.int count), .val (.int mode), .val (.long b), .second, .val (.int (3 : Int32)), .val (.long nn), .second, .val (.ref ms), .val (.ref b2), .val (.ref b9), .val (.ref b20), .val (.ref b35), .unset, .unset, .unset, .unset] [(.int (2 : Int32)), (.int (3 : Int32))]))
      refine own_st (fun _ k' => XS.icmpNo X181.here hx rfl (hb hby at_135) rfl (flt (by decide : ¬ (3 : Int32) < (2 : Int32))).1 k') ?_
      show own_Go p.tables e below _ (T181.setTop (mkF m 138 #[.val (.long base), .second, .val (.long raw), .second, .val (.int delta), .val (.int count), .val (.int mode), .val (.long b), .second, .val (.int (3 : Int32)), .val (.long nn), .second, .val (.ref ms), .val (.ref b2), .val (.ref b9), .val (.ref b20), .val (.ref b35), .unset, .unset, .unset, .unset] []))
      refine own_st (fun _ k' => XS.aload X181.here hx rfl (hb hby at_138) rfl rfl k') ?_
      show own_Go p.tables e below _ (T181.setTop (mkF m 140 #[.val (.long base), .second, .val (.long raw), .second, .val (.int delta), .val (.int count), .val (.int mode), .val (.long b), .second, .val (.int (3 : Int32)), .val (.long nn), .second, .val (.ref ms), .val (.ref b2), .val (.ref b9), .val (.ref b20), .val (.ref b35), .unset, .unset, .unset, .unset] [(.ref b35)]))
      refine own_st (fun _ k' => XS.aload X181.here hx rfl (hb hby at_140) rfl rfl k') ?_
      show own_Go p.tables e below _ (T181.setTop (mkF m 142 #[.val (.long base), .second, .val (.long raw), .second, .val (.int delta), .val (.int count), .val (.int mode), .val (.long b), .second, .val (.int (3 : Int32)), .val (.long nn), .second, .val (.ref ms), .val (.ref b2), .val (.ref b9), .val (.ref b20), .val (.ref b35), .unset, .unset, .unset, .unset] [(.ref b9), (.ref b35)]))
      obtain ⟨cq194, kq194, q194a, q194b, q194c⟩ := isOf hZ rfl Ea181
      obtain ⟨_, _, ⟨T194, L194, k194, n194⟩, -, X194, ⟨Lc194, hQ194, l194, y194, z194⟩, st194⟩ := X181.virtualBack hx (y := (⟨"com/example/penumbra/penumbra/order/SequenceLog", "append", "(Lcom/example/penumbra/penumbra/order/SequenceLog$Entry;)V"⟩ : MethodName)) (z := (⟨"com/example/penumbra/penumbra/order/SequenceLog", "append", "(Lcom/example/penumbra/penumbra/order/SequenceLog$Entry;)V"⟩ : MethodName)) hown (mvT hZ (hw _ (List.mem_of_getElem? (i := 52) rfl))) (mvT hZ (hw _ (List.mem_of_getElem? (i := 53) rfl))) (notFace_of_selects (args := #[]) (mvT hZ (hw _ (List.mem_of_getElem? (i := 55) rfl)))) (mvT hZ (hw _ (List.mem_of_getElem? (i := 55) rfl))) (mvT hZ (hw _ (List.mem_of_getElem? (i := 54) rfl))) (by decide) (backOf (W := 0) (rmP1 l Z a0 hw [] b35 b9 (b + (1 : Int64)) (b + (2 : Int64)) rg kk (.ref b2) .null .null T181.heap n0 Zc181 Ea181 Fa_ring181 Fa_first181 Fa_head181 Fa_size181 Va181 OV ne_b35_rg g_b35 g_rg Ec12_x184 Fc12_x185 ne_b9_b35 ne_b9_rg (by have := hbb; have := rng64 b; have := (by decide : (2 : Int64).toInt = 2); have := c_ladd b (2 : Int64); have := rng64 (b + (2 : Int64)); have := (by decide : (1 : Int64).toInt = 1); have := c_ladd b (1 : Int64); have := rng64 (b + (1 : Int64)); have := (by decide : ((1 : Int32).toInt64).toInt = 1); have := c_ladd (b + (1 : Int64)) (1 : Int32).toInt64; have := rng64 ((b + (1 : Int64)) + (1 : Int32).toInt64); have := c_lsub ((b + (1 : Int64)) + (1 : Int32).toInt64) (1 : Int64); have := rng64 (((b + (1 : Int64)) + (1 : Int32).toInt64) - (1 : Int64)); have := c_ladd (((b + (1 : Int64)) + (1 : Int32).toInt64) - (1 : Int64)) (1 : Int64); have := rng64 ((((b + (1 : Int64)) + (1 : Int32).toInt64) - (1 : Int64)) + (1 : Int64)); refine (Int64.toInt_inj.symm).mpr ?_; omega : (b + (2 : Int64)) = ((((b + (1 : Int64)) + ((1 : Int32).toInt64)) - (1 : Int64)) + (1 : Int64)))) hZ (hw _ (List.mem_of_getElem? (i := 56) rfl)) (hw _ (List.mem_of_getElem? (i := 28) rfl)) (by decide) (by decide)) q194a q194c (g := (mkF m 142 #[.val (.long base), .second, .val (.long raw), .second, .val (.int delta), .val (.int count), .val (.int mode), .val (.long b), .second, .val (.int (3 : Int32)), .val (.long nn), .second, .val (.ref ms), .val (.ref b2), .val (.ref b9), .val (.ref b20), .val (.ref b35), .unset, .unset, .unset, .unset] [(.ref b9), (.ref b35)])) rfl (by rw [hml]; rfl) (Steps.refl _) (argsL := [(.ref b9)]) (rest := []) (lenOf pd__Lcom_example_penumbra_penumbra_order_SequenceLog_Entry__V rfl) rfl (by show 2 * 0 + _ ≤ _; exact Nat.le_of_eq rfl) (hb hby at_142) (fun _ _ => ⟨rfl, rfl, (by decide : 6 + 0 ≤ _), (by decide : 1040 + 0 ≤ _)⟩)
      dsimp only [Pt.U, Pt.locs, Pt.cells, Pt.slots] at X194 l194 y194 z194 st194 hQ194
      subst l194 y194 z194
      obtain ⟨rfl, Nq194, Kc194, Ea194, Fa_ring194, Fa_first194, Fa_head194, Fa_size194, Va194⟩ := hQ194
      have N194 := Fr.app N181 Nq194
      have Ec3_x195 := Ec3_x182.keep Kc194
      have Fc3_x196 := Fc3_x183.keep Kc194 (ninS ne_b2_b35 (ninS ne_b2_rg nin0))
      have Ec12_x197 := Ec12_x184.keep Kc194
      have Fc12_x198 := Fc12_x185.keep Kc194 (ninS ne_b9_b35 (ninS ne_b9_rg nin0))
      have Ec25_x199 := Ec25_x186.keep Kc194
      have Fc25_x200 := Fc25_x187.keep Kc194 (ninS ne_b20_b35 (ninS ne_b20_rg nin0))
      have Ea181_x201 := Ea181.keep Kc194
      have Zc194 : n0 ≤ T194.heap.size := Nat.le_trans Zc181 Kc194.1
      refine own_tr st194 ?_
      show own_Go p.tables e below _ (T194.setTop (mkF m 145 #[.val (.long base), .second, .val (.long raw), .second, .val (.int delta), .val (.int count), .val (.int mode), .val (.long b), .second, .val (.int (3 : Int32)), .val (.long nn), .second, .val (.ref ms), .val (.ref b2), .val (.ref b9), .val (.ref b20), .val (.ref b35), .unset, .unset, .unset, .unset] []))
      refine own_st (fun _ k' => XS.iload X194.here hx rfl (hb hby at_145) rfl k') ?_
      show own_Go p.tables e below _ (T194.setTop (mkF m 147 #[.val (.long base), .second, .val (.long raw), .second, .val (.int delta), .val (.int count), .val (.int mode), .val (.long b), .second, .val (.int (3 : Int32)), .val (.long nn), .second, .val (.ref ms), .val (.ref b2), .val (.ref b9), .val (.ref b20), .val (.ref b35), .unset, .unset, .unset, .unset] [(.int (3 : Int32))]))
      refine own_st (fun _ k' => XS.iconst X194.here hx rfl (hb hby at_147) k') ?_
      show own_Go p.tables e below _ (T194.setTop (mkF m 148 #[.val (.long base), .second, .val (.long raw), .second, .val (.int delta), .val (.int count), .val (.int mode), .val (.long b), .second, .val (.int (3 : Int32)), .val (.long nn), .second, .val (.ref ms), .val (.ref b2), .val (.ref b9), .val (.ref b20), .val (.ref b35), .unset, .unset, .unset, .unset] [(.int (3 : Int32)), (.int (3 : Int32))]))
      refine own_st (fun _ k' => XS.icmpNo X194.here hx rfl (hb hby at_148) rfl (flt (by decide : ¬ (3 : Int32) < (3 : Int32))).1 k') ?_
      show own_Go p.tables e below _ (T194.setTop (mkF m 151 #[.val (.long base), .second, .val (.long raw), .second, .val (.int delta), .val (.int count), .val (.int mode), .val (.long b), .second, .val (.int (3 : Int32)), .val (.long nn), .second, .val (.ref ms), .val (.ref b2), .val (.ref b9), .val (.ref b20), .val (.ref b35), .unset, .unset, .unset, .unset] []))
      refine own_st (fun _ k' => XS.aload X194.here hx rfl (hb hby at_151) rfl rfl k') ?_
      show own_Go p.tables e below _ (T194.setTop (mkF m 153 #[.val (.long base), .second, .val (.long raw), .second, .val (.int delta), .val (.int count), .val (.int mode), .val (.long b), .second, .val (.int (3 : Int32)), .val (.long nn), .second, .val (.ref ms), .val (.ref b2), .val (.ref b9), .val (.ref b20), .val (.ref b35), .unset, .unset, .unset, .unset] [(.ref b35)]))
      refine own_st (fun _ k' => XS.aload X194.here hx rfl (hb hby at_153) rfl rfl k') ?_
      show own_Go p.tables e below _ (T194.setTop (mkF m 155 #[.val (.long base), .second, .val (.long raw), .second, .val (.int delta), .val (.int count), .val (.int mode), .val (.long b), .second, .val (.int (3 : Int32)), .val (.long nn), .second, .val (.ref ms), .val (.ref b2), .val (.ref b9), .val (.ref b20), .val (.ref b35), .unset, .unset, .unset, .unset] [(.ref b20), (.ref b35)]))
      obtain ⟨cq207, kq207, q207a, q207b, q207c⟩ := isOf hZ rfl Ea194
      obtain ⟨_, _, ⟨T207, L207, k207, n207⟩, -, X207, ⟨Lc207, hQ207, l207, y207, z207⟩, st207⟩ := X194.virtualBack hx (y := (⟨"com/example/penumbra/penumbra/order/SequenceLog", "append", "(Lcom/example/penumbra/penumbra/order/SequenceLog$Entry;)V"⟩ : MethodName)) (z := (⟨"com/example/penumbra/penumbra/order/SequenceLog", "append", "(Lcom/example/penumbra/penumbra/order/SequenceLog$Entry;)V"⟩ : MethodName)) hown (mvT hZ (hw _ (List.mem_of_getElem? (i := 52) rfl))) (mvT hZ (hw _ (List.mem_of_getElem? (i := 53) rfl))) (notFace_of_selects (args := #[]) (mvT hZ (hw _ (List.mem_of_getElem? (i := 55) rfl)))) (mvT hZ (hw _ (List.mem_of_getElem? (i := 55) rfl))) (mvT hZ (hw _ (List.mem_of_getElem? (i := 54) rfl))) (by decide) (backOf (W := 0) (rmP2 l Z a0 hw [] b35 b20 (b + (1 : Int64)) (b + (3 : Int64)) rg kk (.ref b2) (.ref b9) .null T194.heap n0 Zc194 Ea194 Fa_ring194 Fa_first194 Fa_head194 Fa_size194 Va194 OV ne_b35_rg g_b35 g_rg Ec25_x199 Fc25_x200 ne_b20_b35 ne_b20_rg (by have := hbb; have := rng64 b; have := (by decide : (3 : Int64).toInt = 3); have := c_ladd b (3 : Int64); have := rng64 (b + (3 : Int64)); have := (by decide : (1 : Int64).toInt = 1); have := c_ladd b (1 : Int64); have := rng64 (b + (1 : Int64)); have := (by decide : ((2 : Int32).toInt64).toInt = 2); have := c_ladd (b + (1 : Int64)) (2 : Int32).toInt64; have := rng64 ((b + (1 : Int64)) + (2 : Int32).toInt64); have := c_lsub ((b + (1 : Int64)) + (2 : Int32).toInt64) (1 : Int64); have := rng64 (((b + (1 : Int64)) + (2 : Int32).toInt64) - (1 : Int64)); have := c_ladd (((b + (1 : Int64)) + (2 : Int32).toInt64) - (1 : Int64)) (1 : Int64); have := rng64 ((((b + (1 : Int64)) + (2 : Int32).toInt64) - (1 : Int64)) + (1 : Int64)); refine (Int64.toInt_inj.symm).mpr ?_; omega : (b + (3 : Int64)) = ((((b + (1 : Int64)) + ((2 : Int32).toInt64)) - (1 : Int64)) + (1 : Int64)))) hZ (hw _ (List.mem_of_getElem? (i := 56) rfl)) (hw _ (List.mem_of_getElem? (i := 28) rfl)) (by decide) (by decide)) q207a q207c (g := (mkF m 155 #[.val (.long base), .second, .val (.long raw), .second, .val (.int delta), .val (.int count), .val (.int mode), .val (.long b), .second, .val (.int (3 : Int32)), .val (.long nn), .second, .val (.ref ms), .val (.ref b2), .val (.ref b9), .val (.ref b20), .val (.ref b35), .unset, .unset, .unset, .unset] [(.ref b20), (.ref b35)])) rfl (by rw [hml]; rfl) (Steps.refl _) (argsL := [(.ref b20)]) (rest := []) (lenOf pd__Lcom_example_penumbra_penumbra_order_SequenceLog_Entry__V rfl) rfl (by show 2 * 0 + _ ≤ _; exact Nat.le_of_eq rfl) (hb hby at_155) (fun _ _ => ⟨rfl, rfl, (by decide : 6 + 0 ≤ _), (by decide : 1040 + 0 ≤ _)⟩)
      dsimp only [Pt.U, Pt.locs, Pt.cells, Pt.slots] at X207 l207 y207 z207 st207 hQ207
      subst l207 y207 z207
      obtain ⟨rfl, Nq207, Kc207, Ea207, Fa_ring207, Fa_first207, Fa_head207, Fa_size207, Va207⟩ := hQ207
      have N207 := Fr.app N194 Nq207
      have Ec3_x208 := Ec3_x195.keep Kc207
      have Fc3_x209 := Fc3_x196.keep Kc207 (ninS ne_b2_b35 (ninS ne_b2_rg nin0))
      have Ec12_x210 := Ec12_x197.keep Kc207
      have Fc12_x211 := Fc12_x198.keep Kc207 (ninS ne_b9_b35 (ninS ne_b9_rg nin0))
      have Ec25_x212 := Ec25_x199.keep Kc207
      have Fc25_x213 := Fc25_x200.keep Kc207 (ninS ne_b20_b35 (ninS ne_b20_rg nin0))
      have Ea194_x214 := Ea194.keep Kc207
      have Zc207 : n0 ≤ T207.heap.size := Nat.le_trans Zc194 Kc207.1
      refine own_tr st207 ?_
      show own_Go p.tables e below _ (T207.setTop (mkF m 158 #[.val (.long base), .second, .val (.long raw), .second, .val (.int delta), .val (.int count), .val (.int mode), .val (.long b), .second, .val (.int (3 : Int32)), .val (.long nn), .second, .val (.ref ms), .val (.ref b2), .val (.ref b9), .val (.ref b20), .val (.ref b35), .unset, .unset, .unset, .unset] []))
      refine own_st (fun _ k' => XS.aload X207.here hx rfl (hb hby at_158) rfl rfl k') ?_
      show own_Go p.tables e below _ (T207.setTop (mkF m 160 #[.val (.long base), .second, .val (.long raw), .second, .val (.int delta), .val (.int count), .val (.int mode), .val (.long b), .second, .val (.int (3 : Int32)), .val (.long nn), .second, .val (.ref ms), .val (.ref b2), .val (.ref b9), .val (.ref b20), .val (.ref b35), .unset, .unset, .unset, .unset] [(.ref b35)]))
      refine own_st (fun _ k' => XS.lload X207.here hx rfl (hb hby at_160) rfl k') ?_
      show own_Go p.tables e below _ (T207.setTop (mkF m 162 #[.val (.long base), .second, .val (.long raw), .second, .val (.int delta), .val (.int count), .val (.int mode), .val (.long b), .second, .val (.int (3 : Int32)), .val (.long nn), .second, .val (.ref ms), .val (.ref b2), .val (.ref b9), .val (.ref b20), .val (.ref b35), .unset, .unset, .unset, .unset] [(.long nn), (.ref b35)]))
      obtain ⟨cq220, kq220, q220a, q220b, q220c⟩ := isOf hZ rfl Ea207
      obtain ⟨_, _, ⟨T220, L220, k220, n220⟩, -, X220, ⟨Lc220, hQ220, l220, y220, z220⟩, st220⟩ := X207.virtualBack hx (y := (⟨"com/example/penumbra/penumbra/order/SequenceLog", "dropUpTo", "(J)V"⟩ : MethodName)) (z := (⟨"com/example/penumbra/penumbra/order/SequenceLog", "dropUpTo", "(J)V"⟩ : MethodName)) hown (mvT hZ (hw _ (List.mem_of_getElem? (i := 68) rfl))) (mvT hZ (hw _ (List.mem_of_getElem? (i := 69) rfl))) (notFace_of_selects (args := #[]) (mvT hZ (hw _ (List.mem_of_getElem? (i := 71) rfl)))) (mvT hZ (hw _ (List.mem_of_getElem? (i := 71) rfl))) (mvT hZ (hw _ (List.mem_of_getElem? (i := 70) rfl))) (by decide) (backOf (W := 0) (rmD3 l Z a0 hw [] b35 nn (b + (1 : Int64)) rg kk (.ref b2) (.ref b9) (.ref b20) T207.heap n0 Zc207 Ea207 Fa_ring207 Fa_first207 Fa_head207 Fa_size207 Va207 OV ne_b35_rg g_b35 g_rg) hZ (hw _ (List.mem_of_getElem? (i := 72) rfl)) (hw _ (List.mem_of_getElem? (i := 28) rfl)) (by decide) (by decide)) q220a q220c (g := (mkF m 162 #[.val (.long base), .second, .val (.long raw), .second, .val (.int delta), .val (.int count), .val (.int mode), .val (.long b), .second, .val (.int (3 : Int32)), .val (.long nn), .second, .val (.ref ms), .val (.ref b2), .val (.ref b9), .val (.ref b20), .val (.ref b35), .unset, .unset, .unset, .unset] [(.long nn), (.ref b35)])) rfl (by rw [hml]; rfl) (Steps.refl _) (argsL := [(.long nn)]) (rest := []) (lenOf pd__J_V rfl) rfl (by show 2 * 0 + _ ≤ _; exact Nat.le_of_eq rfl) (hb hby at_162) (fun _ _ => ⟨rfl, rfl, (by decide : 6 + 0 ≤ _), (by decide : 1040 + 0 ≤ _)⟩)
      dsimp only [Pt.U, Pt.locs, Pt.cells, Pt.slots] at X220 l220 y220 z220 st220 hQ220
      subst l220 y220 z220
      obtain ⟨rfl, Nq220, Kc220, hD220⟩ := hQ220
      have N220 := Fr.app N207 Nq220
      have Ec3_x221 := Ec3_x208.keep Kc220
      have Fc3_x222 := Fc3_x209.keep Kc220 (ninS ne_b2_b35 (ninS ne_b2_rg nin0))
      have Ec12_x223 := Ec12_x210.keep Kc220
      have Fc12_x224 := Fc12_x211.keep Kc220 (ninS ne_b9_b35 (ninS ne_b9_rg nin0))
      have Ec25_x225 := Ec25_x212.keep Kc220
      have Fc25_x226 := Fc25_x213.keep Kc220 (ninS ne_b20_b35 (ninS ne_b20_rg nin0))
      have Ea207_x227 := Ea207.keep Kc220
      have Zc220 : n0 ≤ T220.heap.size := Nat.le_trans Zc207 Kc220.1
      rcases hD220 with ⟨hd0_0, Ea220, Fa_ring220, Fa_first220, Fa_head220, Fa_size220, Va220⟩ | ⟨hd1_0, hd1_1, Ea220, Fa_ring220, Fa_first220, Fa_head220, Fa_size220, Va220⟩ | ⟨hd2_0, hd2_1, Ea220, Fa_ring220, Fa_first220, Fa_head220, Fa_size220, Va220⟩ | ⟨hd3_0, Ea220, Fa_ring220, Fa_first220, Fa_head220, Fa_size220, Va220⟩
      ·  -- 0 dropped of 3
        refine own_tr st220 ?_
        show own_Go p.tables e below _ (T220.setTop (mkF m 165 #[.val (.long base), .second, .val (.long raw), .second, .val (.int delta), .val (.int count), .val (.int mode), .val (.long b), .second, .val (.int (3 : Int32)), .val (.long nn), .second, .val (.ref ms), .val (.ref b2), .val (.ref b9), .val (.ref b20), .val (.ref b35), .unset, .unset, .unset, .unset] []))
        refine own_st (fun _ k' => XS.lload X220.here hx rfl (hb hby at_165) rfl k') ?_
        show own_Go p.tables e below _ (T220.setTop (mkF m 167 #[.val (.long base), .second, .val (.long raw), .second, .val (.int delta), .val (.int count), .val (.int mode), .val (.long b), .second, .val (.int (3 : Int32)), .val (.long nn), .second, .val (.ref ms), .val (.ref b2), .val (.ref b9), .val (.ref b20), .val (.ref b35), .unset, .unset, .unset, .unset] [(.long b)]))
        refine own_st (fun _ k' => XS.iload X220.here hx rfl (hb hby at_167) rfl k') ?_
        show own_Go p.tables e below _ (T220.setTop (mkF m 169 #[.val (.long base), .second, .val (.long raw), .second, .val (.int delta), .val (.int count), .val (.int mode), .val (.long b), .second, .val (.int (3 : Int32)), .val (.long nn), .second, .val (.ref ms), .val (.ref b2), .val (.ref b9), .val (.ref b20), .val (.ref b35), .unset, .unset, .unset, .unset] [(.int (3 : Int32)), (.long b)]))
        refine own_st (fun _ k' => XS.i2l X220.here hx rfl (hb hby at_169) rfl k') ?_
        show own_Go p.tables e below _ (T220.setTop (mkF m 170 #[.val (.long base), .second, .val (.long raw), .second, .val (.int delta), .val (.int count), .val (.int mode), .val (.long b), .second, .val (.int (3 : Int32)), .val (.long nn), .second, .val (.ref ms), .val (.ref b2), .val (.ref b9), .val (.ref b20), .val (.ref b35), .unset, .unset, .unset, .unset] [(.long ((3 : Int32).toInt64)), (.long b)]))
        refine own_st (fun _ k' => XS.ladd X220.here hx rfl (hb hby at_170) rfl k') ?_
        show own_Go p.tables e below _ (T220.setTop (mkF m 171 #[.val (.long base), .second, .val (.long raw), .second, .val (.int delta), .val (.int count), .val (.int mode), .val (.long b), .second, .val (.int (3 : Int32)), .val (.long nn), .second, .val (.ref ms), .val (.ref b2), .val (.ref b9), .val (.ref b20), .val (.ref b35), .unset, .unset, .unset, .unset] [(.long (b + ((3 : Int32).toInt64)))]))
        refine own_st (fun _ k' => XS.lstore X220.here hx rfl (hb hby at_171) rfl (l' := #[.val (.long base), .second, .val (.long raw), .second, .val (.int delta), .val (.int count), .val (.int mode), .val (.long b), .second, .val (.int (3 : Int32)), .val (.long nn), .second, .val (.ref ms), .val (.ref b2), .val (.ref b9), .val (.ref b20), .val (.ref b35), .val (.long (b + ((3 : Int32).toInt64))), .second, .unset, .unset]) rfl k') ?_
        show own_Go p.tables e below _ (T220.setTop (mkF m 173 #[.val (.long base), .second, .val (.long raw), .second, .val (.int delta), .val (.int count), .val (.int mode), .val (.long b), .second, .val (.int (3 : Int32)), .val (.long nn), .second, .val (.ref ms), .val (.ref b2), .val (.ref b9), .val (.ref b20), .val (.ref b35), .val (.long (b + ((3 : Int32).toInt64))), .second, .unset, .unset] []))
        refine own_st (fun _ k' => XS.iload X220.here hx rfl (hb hby at_173) rfl k') ?_
        show own_Go p.tables e below _ (T220.setTop (mkF m 175 #[.val (.long base), .second, .val (.long raw), .second, .val (.int delta), .val (.int count), .val (.int mode), .val (.long b), .second, .val (.int (3 : Int32)), .val (.long nn), .second, .val (.ref ms), .val (.ref b2), .val (.ref b9), .val (.ref b20), .val (.ref b35), .val (.long (b + ((3 : Int32).toInt64))), .second, .unset, .unset] [(.int (3 : Int32))]))
        refine own_st (fun _ k' => XS.ifYes X220.here hx rfl (pc0 := 175) (pc' := 187) rfl (hb hby at_175) rfl ((if0 _ _).trans (feq (by decide : ¬ (3 : Int32) = (0 : Int32))).2) (by decide) (by decide) k') ?_
        show own_Go p.tables e below _ (T220.setTop (mkF m 187 #[.val (.long base), .second, .val (.long raw), .second, .val (.int delta), .val (.int count), .val (.int mode), .val (.long b), .second, .val (.int (3 : Int32)), .val (.long nn), .second, .val (.ref ms), .val (.ref b2), .val (.ref b9), .val (.ref b20), .val (.ref b35), .val (.long (b + ((3 : Int32).toInt64))), .second, .unset, .unset] []))
        refine own_st (fun _ k' => XS.lload X220.here hx rfl (hb hby at_187) rfl k') ?_
        show own_Go p.tables e below _ (T220.setTop (mkF m 189 #[.val (.long base), .second, .val (.long raw), .second, .val (.int delta), .val (.int count), .val (.int mode), .val (.long b), .second, .val (.int (3 : Int32)), .val (.long nn), .second, .val (.ref ms), .val (.ref b2), .val (.ref b9), .val (.ref b20), .val (.ref b35), .val (.long (b + ((3 : Int32).toInt64))), .second, .unset, .unset] [(.long nn)]))
        refine own_st (fun _ k' => XS.lload X220.here hx rfl (hb hby at_189) rfl k') ?_
        show own_Go p.tables e below _ (T220.setTop (mkF m 191 #[.val (.long base), .second, .val (.long raw), .second, .val (.int delta), .val (.int count), .val (.int mode), .val (.long b), .second, .val (.int (3 : Int32)), .val (.long nn), .second, .val (.ref ms), .val (.ref b2), .val (.ref b9), .val (.ref b20), .val (.ref b35), .val (.long (b + ((3 : Int32).toInt64))), .second, .unset, .unset] [(.long b), (.long nn)]))
        refine own_st (fun _ k' => XS.lcmp X220.here hx rfl (hb hby at_191) rfl k') ?_
        show own_Go p.tables e below _ (T220.setTop (mkF m 192 #[.val (.long base), .second, .val (.long raw), .second, .val (.int delta), .val (.int count), .val (.int mode), .val (.long b), .second, .val (.int (3 : Int32)), .val (.long nn), .second, .val (.ref ms), .val (.ref b2), .val (.ref b9), .val (.ref b20), .val (.ref b35), .val (.long (b + ((3 : Int32).toInt64))), .second, .unset, .unset] [(.int (lcmpW nn b))]))
        refine own_st (fun _ k' => XS.ifNo X220.here hx rfl (hb hby at_192) rfl ((if0 _ _).trans (flt (mt (lw_gt nn b).mp (by have := hbb; have := rng64 nn; have := rng64 b; have := (by decide : (1 : Int64).toInt = 1); have := c_ladd b (1 : Int64); have := rng64 (b + (1 : Int64)); have := (Int64.lt_iff_toInt_lt).mp hd0_0; refine mt (Int64.lt_iff_toInt_lt).mp ?_; omega : ¬ b < nn))).2.2.1) k') ?_
        show own_Go p.tables e below _ (T220.setTop (mkF m 195 #[.val (.long base), .second, .val (.long raw), .second, .val (.int delta), .val (.int count), .val (.int mode), .val (.long b), .second, .val (.int (3 : Int32)), .val (.long nn), .second, .val (.ref ms), .val (.ref b2), .val (.ref b9), .val (.ref b20), .val (.ref b35), .val (.long (b + ((3 : Int32).toInt64))), .second, .unset, .unset] []))
        refine own_st (fun _ k' => XS.lload X220.here hx rfl (hb hby at_195) rfl k') ?_
        show own_Go p.tables e below _ (T220.setTop (mkF m 197 #[.val (.long base), .second, .val (.long raw), .second, .val (.int delta), .val (.int count), .val (.int mode), .val (.long b), .second, .val (.int (3 : Int32)), .val (.long nn), .second, .val (.ref ms), .val (.ref b2), .val (.ref b9), .val (.ref b20), .val (.ref b35), .val (.long (b + ((3 : Int32).toInt64))), .second, .unset, .unset] [(.long b)]))
        refine own_st (fun _ k' => XS.lconst X220.here hx rfl (hb hby at_197) k') ?_
        show own_Go p.tables e below _ (T220.setTop (mkF m 198 #[.val (.long base), .second, .val (.long raw), .second, .val (.int delta), .val (.int count), .val (.int mode), .val (.long b), .second, .val (.int (3 : Int32)), .val (.long nn), .second, .val (.ref ms), .val (.ref b2), .val (.ref b9), .val (.ref b20), .val (.ref b35), .val (.long (b + ((3 : Int32).toInt64))), .second, .unset, .unset] [(.long (1 : Int64)), (.long b)]))
        refine own_st (fun _ k' => XS.ladd X220.here hx rfl (hb hby at_198) rfl k') ?_
        show own_Go p.tables e below _ (T220.setTop (mkF m 199 #[.val (.long base), .second, .val (.long raw), .second, .val (.int delta), .val (.int count), .val (.int mode), .val (.long b), .second, .val (.int (3 : Int32)), .val (.long nn), .second, .val (.ref ms), .val (.ref b2), .val (.ref b9), .val (.ref b20), .val (.ref b35), .val (.long (b + ((3 : Int32).toInt64))), .second, .unset, .unset] [(.long (b + (1 : Int64)))]))
        refine own_st (fun _ k' => XS.lstore X220.here hx rfl (hb hby at_199) rfl (l' := #[.val (.long base), .second, .val (.long raw), .second, .val (.int delta), .val (.int count), .val (.int mode), .val (.long b), .second, .val (.int (3 : Int32)), .val (.long nn), .second, .val (.ref ms), .val (.ref b2), .val (.ref b9), .val (.ref b20), .val (.ref b35), .val (.long (b + ((3 : Int32).toInt64))), .second, .val (.long (b + (1 : Int64))), .second]) rfl k') ?_
        show own_Go p.tables e below _ (T220.setTop (mkF m 201 #[.val (.long base), .second, .val (.long raw), .second, .val (.int delta), .val (.int count), .val (.int mode), .val (.long b), .second, .val (.int (3 : Int32)), .val (.long nn), .second, .val (.ref ms), .val (.ref b2), .val (.ref b9), .val (.ref b20), .val (.ref b35), .val (.long (b + ((3 : Int32).toInt64))), .second, .val (.long (b + (1 : Int64))), .second] []))
        refine own_st (fun _ k' => XS.goto X220.here hx rfl (pc0 := 201) (pc' := 227) rfl (hb hby at_201) (by decide) (by decide) k') ?_
        show own_Go p.tables e below _ (T220.setTop (mkF m 227 #[.val (.long base), .second, .val (.long raw), .second, .val (.int delta), .val (.int count), .val (.int mode), .val (.long b), .second, .val (.int (3 : Int32)), .val (.long nn), .second, .val (.ref ms), .val (.ref b2), .val (.ref b9), .val (.ref b20), .val (.ref b35), .val (.long (b + ((3 : Int32).toInt64))), .second, .val (.long (b + (1 : Int64))), .second] []))
        refine own_st (fun _ k' => XS.aload X220.here hx rfl (hb hby at_227) rfl rfl k') ?_
        show own_Go p.tables e below _ (T220.setTop (mkF m 229 #[.val (.long base), .second, .val (.long raw), .second, .val (.int delta), .val (.int count), .val (.int mode), .val (.long b), .second, .val (.int (3 : Int32)), .val (.long nn), .second, .val (.ref ms), .val (.ref b2), .val (.ref b9), .val (.ref b20), .val (.ref b35), .val (.long (b + ((3 : Int32).toInt64))), .second, .val (.long (b + (1 : Int64))), .second] [(.ref b35)]))
        obtain ⟨cq233, kq233, q233a, q233b, q233c⟩ := isOf hZ rfl Ea220
        obtain ⟨_, _, ⟨T233, L233, k233, n233⟩, -, X233, ⟨Lc233, hQ233, l233, y233, z233⟩, st233⟩ := X220.virtualBack hx (y := (⟨"com/example/penumbra/penumbra/order/SequenceLog", "first", "()J"⟩ : MethodName)) (z := (⟨"com/example/penumbra/penumbra/order/SequenceLog", "first", "()J"⟩ : MethodName)) hown (mvT hZ (hw _ (List.mem_of_getElem? (i := 73) rfl))) (mvT hZ (hw _ (List.mem_of_getElem? (i := 74) rfl))) (notFace_of_selects (args := #[]) (mvT hZ (hw _ (List.mem_of_getElem? (i := 76) rfl)))) (mvT hZ (hw _ (List.mem_of_getElem? (i := 76) rfl))) (mvT hZ (hw _ (List.mem_of_getElem? (i := 75) rfl))) (by decide) (backOf (W := 0) (rmFi l Z a0 hw [] b35 (b + (1 : Int64)) T220.heap n0 Zc220 Fa_first220) hZ (hw _ (List.mem_of_getElem? (i := 77) rfl)) (hw _ (List.mem_of_getElem? (i := 28) rfl)) (by decide) (by decide)) q233a q233c (g := (mkF m 229 #[.val (.long base), .second, .val (.long raw), .second, .val (.int delta), .val (.int count), .val (.int mode), .val (.long b), .second, .val (.int (3 : Int32)), .val (.long nn), .second, .val (.ref ms), .val (.ref b2), .val (.ref b9), .val (.ref b20), .val (.ref b35), .val (.long (b + ((3 : Int32).toInt64))), .second, .val (.long (b + (1 : Int64))), .second] [(.ref b35)])) rfl (by rw [hml]; rfl) (Steps.refl _) (argsL := []) (rest := []) (lenOf pd___J rfl) rfl (by show 2 * 0 + _ ≤ _; exact Nat.le_of_eq rfl) (hb hby at_229) (fun _ _ => ⟨rfl, rfl, (by decide : 6 + 0 ≤ _), (by decide : 1040 + 0 ≤ _)⟩)
        dsimp only [Pt.U, Pt.locs, Pt.cells, Pt.slots] at X233 l233 y233 z233 st233 hQ233
        subst l233 y233 z233
        obtain ⟨rfl, Nq233, e233⟩ := hQ233
        have N233 := Fr.app N220 Nq233
        refine own_tr st233 ?_
        show own_Go p.tables e below _ (T233.setTop (mkF m 232 #[.val (.long base), .second, .val (.long raw), .second, .val (.int delta), .val (.int count), .val (.int mode), .val (.long b), .second, .val (.int (3 : Int32)), .val (.long nn), .second, .val (.ref ms), .val (.ref b2), .val (.ref b9), .val (.ref b20), .val (.ref b35), .val (.long (b + ((3 : Int32).toInt64))), .second, .val (.long (b + (1 : Int64))), .second] [(.long (b + (1 : Int64)))]))
        refine own_st (fun _ k' => XS.lload X233.here hx rfl (hb hby at_232) rfl k') ?_
        show own_Go p.tables e below _ (T233.setTop (mkF m 234 #[.val (.long base), .second, .val (.long raw), .second, .val (.int delta), .val (.int count), .val (.int mode), .val (.long b), .second, .val (.int (3 : Int32)), .val (.long nn), .second, .val (.ref ms), .val (.ref b2), .val (.ref b9), .val (.ref b20), .val (.ref b35), .val (.long (b + ((3 : Int32).toInt64))), .second, .val (.long (b + (1 : Int64))), .second] [(.long (b + (1 : Int64))), (.long (b + (1 : Int64)))]))
        refine own_st (fun _ k' => XS.lcmp X233.here hx rfl (hb hby at_234) rfl k') ?_
        show own_Go p.tables e below _ (T233.setTop (mkF m 235 #[.val (.long base), .second, .val (.long raw), .second, .val (.int delta), .val (.int count), .val (.int mode), .val (.long b), .second, .val (.int (3 : Int32)), .val (.long nn), .second, .val (.ref ms), .val (.ref b2), .val (.ref b9), .val (.ref b20), .val (.ref b35), .val (.long (b + ((3 : Int32).toInt64))), .second, .val (.long (b + (1 : Int64))), .second] [(.int (lcmpW (b + (1 : Int64)) (b + (1 : Int64))))]))
        refine own_st (fun _ k' => XS.ifYes X233.here hx rfl (pc0 := 235) (pc' := 240) rfl (hb hby at_235) rfl ((if0 _ _).trans (teq ((lw_eq (b + (1 : Int64)) (b + (1 : Int64))).mpr (by have := hbb; have := rng64 nn; have := rng64 b; have := (by decide : (1 : Int64).toInt = 1); have := c_ladd b (1 : Int64); have := rng64 (b + (1 : Int64)); have := (Int64.lt_iff_toInt_lt).mp hd0_0; refine (Int64.toInt_inj.symm).mpr ?_; omega : (b + (1 : Int64)) = (b + (1 : Int64))))).1) (by decide) (by decide) k') ?_
        show own_Go p.tables e below _ (T233.setTop (mkF m 240 #[.val (.long base), .second, .val (.long raw), .second, .val (.int delta), .val (.int count), .val (.int mode), .val (.long b), .second, .val (.int (3 : Int32)), .val (.long nn), .second, .val (.ref ms), .val (.ref b2), .val (.ref b9), .val (.ref b20), .val (.ref b35), .val (.long (b + ((3 : Int32).toInt64))), .second, .val (.long (b + (1 : Int64))), .second] []))
        refine own_st (fun _ k' => XS.aload X233.here hx rfl (hb hby at_240) rfl rfl k') ?_
        show own_Go p.tables e below _ (T233.setTop (mkF m 242 #[.val (.long base), .second, .val (.long raw), .second, .val (.int delta), .val (.int count), .val (.int mode), .val (.long b), .second, .val (.int (3 : Int32)), .val (.long nn), .second, .val (.ref ms), .val (.ref b2), .val (.ref b9), .val (.ref b20), .val (.ref b35), .val (.long (b + ((3 : Int32).toInt64))), .second, .val (.long (b + (1 : Int64))), .second] [(.ref b35)]))
        obtain ⟨cq234, kq234, q234a, q234b, q234c⟩ := isOf hZ e233 Ea220
        obtain ⟨_, _, ⟨T234, L234, k234, n234⟩, -, X234, ⟨Lc234, hQ234, l234, y234, z234⟩, st234⟩ := X233.virtualBack hx (y := (⟨"com/example/penumbra/penumbra/order/SequenceLog", "last", "()J"⟩ : MethodName)) (z := (⟨"com/example/penumbra/penumbra/order/SequenceLog", "last", "()J"⟩ : MethodName)) hown (mvT hZ (hw _ (List.mem_of_getElem? (i := 78) rfl))) (mvT hZ (hw _ (List.mem_of_getElem? (i := 63) rfl))) (notFace_of_selects (args := #[]) (mvT hZ (hw _ (List.mem_of_getElem? (i := 65) rfl)))) (mvT hZ (hw _ (List.mem_of_getElem? (i := 65) rfl))) (mvT hZ (hw _ (List.mem_of_getElem? (i := 64) rfl))) (by decide) (backOf (W := 0) (rmLa l Z a0 hw [] b35 (b + (1 : Int64)) (3 : Int32) T220.heap n0 Zc220 Fa_first220 Fa_size220) hZ (hw _ (List.mem_of_getElem? (i := 66) rfl)) (hw _ (List.mem_of_getElem? (i := 28) rfl)) (by decide) (by decide)) q234a q234c (g := (mkF m 242 #[.val (.long base), .second, .val (.long raw), .second, .val (.int delta), .val (.int count), .val (.int mode), .val (.long b), .second, .val (.int (3 : Int32)), .val (.long nn), .second, .val (.ref ms), .val (.ref b2), .val (.ref b9), .val (.ref b20), .val (.ref b35), .val (.long (b + ((3 : Int32).toInt64))), .second, .val (.long (b + (1 : Int64))), .second] [(.ref b35)])) rfl (by rw [hml]; rfl) (Steps.refl _) (argsL := []) (rest := []) (lenOf pd___J rfl) rfl (by show 2 * 0 + _ ≤ _; exact Nat.le_of_eq rfl) (hb hby at_242) (fun _ _ => ⟨rfl, e233, (by decide : 6 + 0 ≤ _), (by decide : 1040 + 0 ≤ _)⟩)
        dsimp only [Pt.U, Pt.locs, Pt.cells, Pt.slots] at X234 l234 y234 z234 st234 hQ234
        subst l234 y234 z234
        obtain ⟨rfl, Nq234, e234⟩ := hQ234
        have N234 := Fr.app N233 Nq234
        refine own_tr st234 ?_
        show own_Go p.tables e below _ (T234.setTop (mkF m 245 #[.val (.long base), .second, .val (.long raw), .second, .val (.int delta), .val (.int count), .val (.int mode), .val (.long b), .second, .val (.int (3 : Int32)), .val (.long nn), .second, .val (.ref ms), .val (.ref b2), .val (.ref b9), .val (.ref b20), .val (.ref b35), .val (.long (b + ((3 : Int32).toInt64))), .second, .val (.long (b + (1 : Int64))), .second] [(.long (((b + (1 : Int64)) + ((3 : Int32).toInt64)) - (1 : Int64)))]))
        refine own_st (fun _ k' => XS.lload X234.here hx rfl (hb hby at_245) rfl k') ?_
        show own_Go p.tables e below _ (T234.setTop (mkF m 247 #[.val (.long base), .second, .val (.long raw), .second, .val (.int delta), .val (.int count), .val (.int mode), .val (.long b), .second, .val (.int (3 : Int32)), .val (.long nn), .second, .val (.ref ms), .val (.ref b2), .val (.ref b9), .val (.ref b20), .val (.ref b35), .val (.long (b + ((3 : Int32).toInt64))), .second, .val (.long (b + (1 : Int64))), .second] [(.long (b + ((3 : Int32).toInt64))), (.long (((b + (1 : Int64)) + ((3 : Int32).toInt64)) - (1 : Int64)))]))
        refine own_st (fun _ k' => XS.lcmp X234.here hx rfl (hb hby at_247) rfl k') ?_
        show own_Go p.tables e below _ (T234.setTop (mkF m 248 #[.val (.long base), .second, .val (.long raw), .second, .val (.int delta), .val (.int count), .val (.int mode), .val (.long b), .second, .val (.int (3 : Int32)), .val (.long nn), .second, .val (.ref ms), .val (.ref b2), .val (.ref b9), .val (.ref b20), .val (.ref b35), .val (.long (b + ((3 : Int32).toInt64))), .second, .val (.long (b + (1 : Int64))), .second] [(.int (lcmpW (((b + (1 : Int64)) + ((3 : Int32).toInt64)) - (1 : Int64)) (b + ((3 : Int32).toInt64))))]))
        refine own_st (fun _ k' => XS.ifYes X234.here hx rfl (pc0 := 248) (pc' := 253) rfl (hb hby at_248) rfl ((if0 _ _).trans (teq ((lw_eq (((b + (1 : Int64)) + ((3 : Int32).toInt64)) - (1 : Int64)) (b + ((3 : Int32).toInt64))).mpr (by have := hbb; have := rng64 nn; have := rng64 b; have := (by decide : (1 : Int64).toInt = 1); have := c_ladd b (1 : Int64); have := rng64 (b + (1 : Int64)); have := (by decide : ((3 : Int32).toInt64).toInt = 3); have := c_ladd (b + (1 : Int64)) (3 : Int32).toInt64; have := rng64 ((b + (1 : Int64)) + (3 : Int32).toInt64); have := c_lsub ((b + (1 : Int64)) + (3 : Int32).toInt64) (1 : Int64); have := rng64 (((b + (1 : Int64)) + (3 : Int32).toInt64) - (1 : Int64)); have := c_ladd b (3 : Int32).toInt64; have := rng64 (b + (3 : Int32).toInt64); have := (Int64.lt_iff_toInt_lt).mp hd0_0; refine (Int64.toInt_inj.symm).mpr ?_; omega : (((b + (1 : Int64)) + ((3 : Int32).toInt64)) - (1 : Int64)) = (b + ((3 : Int32).toInt64))))).1) (by decide) (by decide) k') ?_
        show own_Go p.tables e below _ (T234.setTop (mkF m 253 #[.val (.long base), .second, .val (.long raw), .second, .val (.int delta), .val (.int count), .val (.int mode), .val (.long b), .second, .val (.int (3 : Int32)), .val (.long nn), .second, .val (.ref ms), .val (.ref b2), .val (.ref b9), .val (.ref b20), .val (.ref b35), .val (.long (b + ((3 : Int32).toInt64))), .second, .val (.long (b + (1 : Int64))), .second] []))
        refine own_st (fun _ k' => XS.lload X234.here hx rfl (hb hby at_253) rfl k') ?_
        show own_Go p.tables e below _ (T234.setTop (mkF m 255 #[.val (.long base), .second, .val (.long raw), .second, .val (.int delta), .val (.int count), .val (.int mode), .val (.long b), .second, .val (.int (3 : Int32)), .val (.long nn), .second, .val (.ref ms), .val (.ref b2), .val (.ref b9), .val (.ref b20), .val (.ref b35), .val (.long (b + ((3 : Int32).toInt64))), .second, .val (.long (b + (1 : Int64))), .second] [(.long (b + (1 : Int64)))]))
        refine own_st (fun _ k' => XS.lload X234.here hx rfl (hb hby at_255) rfl k') ?_
        show own_Go p.tables e below _ (T234.setTop (mkF m 257 #[.val (.long base), .second, .val (.long raw), .second, .val (.int delta), .val (.int count), .val (.int mode), .val (.long b), .second, .val (.int (3 : Int32)), .val (.long nn), .second, .val (.ref ms), .val (.ref b2), .val (.ref b9), .val (.ref b20), .val (.ref b35), .val (.long (b + ((3 : Int32).toInt64))), .second, .val (.long (b + (1 : Int64))), .second] [(.long (b + ((3 : Int32).toInt64))), (.long (b + (1 : Int64)))]))
        refine own_st (fun _ k' => XS.lcmp X234.here hx rfl (hb hby at_257) rfl k') ?_
        show own_Go p.tables e below _ (T234.setTop (mkF m 258 #[.val (.long base), .second, .val (.long raw), .second, .val (.int delta), .val (.int count), .val (.int mode), .val (.long b), .second, .val (.int (3 : Int32)), .val (.long nn), .second, .val (.ref ms), .val (.ref b2), .val (.ref b9), .val (.ref b20), .val (.ref b35), .val (.long (b + ((3 : Int32).toInt64))), .second, .val (.long (b + (1 : Int64))), .second] [(.int (lcmpW (b + (1 : Int64)) (b + ((3 : Int32).toInt64))))]))
        refine own_st (fun _ k' => XS.ifNo X234.here hx rfl (hb hby at_258) rfl ((if0 _ _).trans (flt (mt (lw_gt (b + (1 : Int64)) (b + ((3 : Int32).toInt64))).mp (by have := hbb; have := rng64 nn; have := rng64 b; have := (by decide : (1 : Int64).toInt = 1); have := c_ladd b (1 : Int64); have := rng64 (b + (1 : Int64)); have := (by decide : ((3 : Int32).toInt64).toInt = 3); have := c_ladd b (3 : Int32).toInt64; have := rng64 (b + (3 : Int32).toInt64); have := (Int64.lt_iff_toInt_lt).mp hd0_0; refine mt (Int64.lt_iff_toInt_lt).mp ?_; omega : ¬ (b + ((3 : Int32).toInt64)) < (b + (1 : Int64))))).2.2.1) k') ?_
        show own_Go p.tables e below _ (T234.setTop (mkF m 261 #[.val (.long base), .second, .val (.long raw), .second, .val (.int delta), .val (.int count), .val (.int mode), .val (.long b), .second, .val (.int (3 : Int32)), .val (.long nn), .second, .val (.ref ms), .val (.ref b2), .val (.ref b9), .val (.ref b20), .val (.ref b35), .val (.long (b + ((3 : Int32).toInt64))), .second, .val (.long (b + (1 : Int64))), .second] []))
        refine own_st (fun _ k' => XS.aload X234.here hx rfl (hb hby at_261) rfl rfl k') ?_
        show own_Go p.tables e below _ (T234.setTop (mkF m 263 #[.val (.long base), .second, .val (.long raw), .second, .val (.int delta), .val (.int count), .val (.int mode), .val (.long b), .second, .val (.int (3 : Int32)), .val (.long nn), .second, .val (.ref ms), .val (.ref b2), .val (.ref b9), .val (.ref b20), .val (.ref b35), .val (.long (b + ((3 : Int32).toInt64))), .second, .val (.long (b + (1 : Int64))), .second] [(.ref b35)]))
        refine own_st (fun _ k' => XS.lload X234.here hx rfl (hb hby at_263) rfl k') ?_
        show own_Go p.tables e below _ (T234.setTop (mkF m 265 #[.val (.long base), .second, .val (.long raw), .second, .val (.int delta), .val (.int count), .val (.int mode), .val (.long b), .second, .val (.int (3 : Int32)), .val (.long nn), .second, .val (.ref ms), .val (.ref b2), .val (.ref b9), .val (.ref b20), .val (.ref b35), .val (.long (b + ((3 : Int32).toInt64))), .second, .val (.long (b + (1 : Int64))), .second] [(.long (b + (1 : Int64))), (.ref b35)]))
        have hdx235 : (((0 : Int32).toInt64 + (b + (1 : Int64))) - (b + (1 : Int64))) = (0 : Int64) := (by have := hbb; have := rng64 nn; have := rng64 b; have := (by decide : (1 : Int64).toInt = 1); have := c_ladd b (1 : Int64); have := rng64 (b + (1 : Int64)); have := (by decide : ((0 : Int32).toInt64).toInt = 0); have := c_ladd (0 : Int32).toInt64 (b + (1 : Int64)); have := rng64 ((0 : Int32).toInt64 + (b + (1 : Int64))); have := c_lsub ((0 : Int32).toInt64 + (b + (1 : Int64))) (b + (1 : Int64)); have := rng64 (((0 : Int32).toInt64 + (b + (1 : Int64))) - (b + (1 : Int64))); have := (by decide : (0 : Int64).toInt = 0); have := (Int64.lt_iff_toInt_lt).mp hd0_0; refine (Int64.toInt_inj.symm).mpr ?_; omega : (((0 : Int32).toInt64 + (b + (1 : Int64))) - (b + (1 : Int64))) = (0 : Int64))
        obtain ⟨cq236, kq236, q236a, q236b, q236c⟩ := isOf hZ e234 Ea220
        obtain ⟨_, _, ⟨T236, L236, k236, n236⟩, -, X236, ⟨Lc236, hQ236, l236, y236, z236⟩, st236⟩ := X234.virtualBack hx (y := (⟨"com/example/penumbra/penumbra/order/SequenceLog", "get", "(J)Lcom/example/penumbra/penumbra/order/SequenceLog$Entry;"⟩ : MethodName)) (z := (⟨"com/example/penumbra/penumbra/order/SequenceLog", "get", "(J)Lcom/example/penumbra/penumbra/order/SequenceLog$Entry;"⟩ : MethodName)) hown (mvT hZ (hw _ (List.mem_of_getElem? (i := 79) rfl))) (mvT hZ (hw _ (List.mem_of_getElem? (i := 80) rfl))) (notFace_of_selects (args := #[]) (mvT hZ (hw _ (List.mem_of_getElem? (i := 82) rfl)))) (mvT hZ (hw _ (List.mem_of_getElem? (i := 82) rfl))) (mvT hZ (hw _ (List.mem_of_getElem? (i := 81) rfl))) (by decide) (backOf (W := 0) (rmG l Z a0 hw [] b35 (b + (1 : Int64)) (b + (1 : Int64)) (0 : Int32) (3 : Int32) rg kk (.ref b2) (.ref b9) (.ref b20) (0 : Int32) b2 T220.heap n0 Zc220 Ea220 Fa_ring220 Fa_first220 Fa_head220 Fa_size220 Va220 OV (by have := hbb; have := rng64 nn; have := rng64 b; have := (by decide : (1 : Int64).toInt = 1); have := c_ladd b (1 : Int64); have := rng64 (b + (1 : Int64)); have := (Int64.lt_iff_toInt_lt).mp hd0_0; refine mt (Int64.lt_iff_toInt_lt).mp ?_; omega : ¬ (b + (1 : Int64)) < (b + (1 : Int64))) (by have := hbb; have := rng64 nn; have := rng64 b; have := (by decide : (1 : Int64).toInt = 1); have := c_ladd b (1 : Int64); have := rng64 (b + (1 : Int64)); have := (by decide : ((3 : Int32).toInt64).toInt = 3); have := c_ladd (b + (1 : Int64)) (3 : Int32).toInt64; have := rng64 ((b + (1 : Int64)) + (3 : Int32).toInt64); have := c_lsub ((b + (1 : Int64)) + (3 : Int32).toInt64) (1 : Int64); have := rng64 (((b + (1 : Int64)) + (3 : Int32).toInt64) - (1 : Int64)); have := (Int64.lt_iff_toInt_lt).mp hd0_0; refine mt (Int64.lt_iff_toInt_lt).mp ?_; omega : ¬ (((b + (1 : Int64)) + ((3 : Int32).toInt64)) - (1 : Int64)) < (b + (1 : Int64))) (by rw [hdx235]; decide) (by decide) (by decide) rfl) hZ (hw _ (List.mem_of_getElem? (i := 83) rfl)) (hw _ (List.mem_of_getElem? (i := 28) rfl)) (by decide) (by decide)) q236a q236c (g := (mkF m 265 #[.val (.long base), .second, .val (.long raw), .second, .val (.int delta), .val (.int count), .val (.int mode), .val (.long b), .second, .val (.int (3 : Int32)), .val (.long nn), .second, .val (.ref ms), .val (.ref b2), .val (.ref b9), .val (.ref b20), .val (.ref b35), .val (.long (b + ((3 : Int32).toInt64))), .second, .val (.long (b + (1 : Int64))), .second] [(.long (b + (1 : Int64))), (.ref b35)])) rfl (by rw [hml]; rfl) (Steps.refl _) (argsL := [(.long (b + (1 : Int64)))]) (rest := []) (lenOf pd__J_Lcom_example_penumbra_penumbra_order_SequenceLog_Entry_ rfl) rfl (by show 2 * 0 + _ ≤ _; exact Nat.le_of_eq rfl) (hb hby at_265) (fun _ _ => ⟨rfl, e234, (by decide : 6 + 0 ≤ _), (by decide : 1040 + 0 ≤ _)⟩)
        dsimp only [Pt.U, Pt.locs, Pt.cells, Pt.slots] at X236 l236 y236 z236 st236 hQ236
        subst l236 y236 z236
        obtain ⟨rfl, Nq236, e236⟩ := hQ236
        have N236 := Fr.app N234 Nq236
        refine own_tr st236 ?_
        show own_Go p.tables e below _ (T236.setTop (mkF m 268 #[.val (.long base), .second, .val (.long raw), .second, .val (.int delta), .val (.int count), .val (.int mode), .val (.long b), .second, .val (.int (3 : Int32)), .val (.long nn), .second, .val (.ref ms), .val (.ref b2), .val (.ref b9), .val (.ref b20), .val (.ref b35), .val (.long (b + ((3 : Int32).toInt64))), .second, .val (.long (b + (1 : Int64))), .second] [(.ref b2)]))
        refine own_st (fun _ k' => XS.lload X236.here hx rfl (hb hby at_268) rfl k') ?_
        show own_Go p.tables e below _ (T236.setTop (mkF m 270 #[.val (.long base), .second, .val (.long raw), .second, .val (.int delta), .val (.int count), .val (.int mode), .val (.long b), .second, .val (.int (3 : Int32)), .val (.long nn), .second, .val (.ref ms), .val (.ref b2), .val (.ref b9), .val (.ref b20), .val (.ref b35), .val (.long (b + ((3 : Int32).toInt64))), .second, .val (.long (b + (1 : Int64))), .second] [(.long (b + (1 : Int64))), (.ref b2)]))
        refine own_st (fun _ k' => XS.lload X236.here hx rfl (hb hby at_270) rfl k') ?_
        show own_Go p.tables e below _ (T236.setTop (mkF m 272 #[.val (.long base), .second, .val (.long raw), .second, .val (.int delta), .val (.int count), .val (.int mode), .val (.long b), .second, .val (.int (3 : Int32)), .val (.long nn), .second, .val (.ref ms), .val (.ref b2), .val (.ref b9), .val (.ref b20), .val (.ref b35), .val (.long (b + ((3 : Int32).toInt64))), .second, .val (.long (b + (1 : Int64))), .second] [(.long b), (.long (b + (1 : Int64))), (.ref b2)]))
        refine own_st (fun _ k' => XS.lsub X236.here hx rfl (hb hby at_272) rfl k') ?_
        show own_Go p.tables e below _ (T236.setTop (mkF m 273 #[.val (.long base), .second, .val (.long raw), .second, .val (.int delta), .val (.int count), .val (.int mode), .val (.long b), .second, .val (.int (3 : Int32)), .val (.long nn), .second, .val (.ref ms), .val (.ref b2), .val (.ref b9), .val (.ref b20), .val (.ref b35), .val (.long (b + ((3 : Int32).toInt64))), .second, .val (.long (b + (1 : Int64))), .second] [(.long ((b + (1 : Int64)) - b)), (.ref b2)]))
        refine own_st (fun _ k' => XS.aload X236.here hx rfl (hb hby at_273) rfl rfl k') ?_
        show own_Go p.tables e below _ (T236.setTop (mkF m 275 #[.val (.long base), .second, .val (.long raw), .second, .val (.int delta), .val (.int count), .val (.int mode), .val (.long b), .second, .val (.int (3 : Int32)), .val (.long nn), .second, .val (.ref ms), .val (.ref b2), .val (.ref b9), .val (.ref b20), .val (.ref b35), .val (.long (b + ((3 : Int32).toInt64))), .second, .val (.long (b + (1 : Int64))), .second] [(.ref b2), (.long ((b + (1 : Int64)) - b)), (.ref b2)]))
        refine own_st (fun _ k' => XS.aload X236.here hx rfl (hb hby at_275) rfl rfl k') ?_
        show own_Go p.tables e below _ (T236.setTop (mkF m 277 #[.val (.long base), .second, .val (.long raw), .second, .val (.int delta), .val (.int count), .val (.int mode), .val (.long b), .second, .val (.int (3 : Int32)), .val (.long nn), .second, .val (.ref ms), .val (.ref b2), .val (.ref b9), .val (.ref b20), .val (.ref b35), .val (.long (b + ((3 : Int32).toInt64))), .second, .val (.long (b + (1 : Int64))), .second] [(.ref b9), (.ref b2), (.long ((b + (1 : Int64)) - b)), (.ref b2)]))
        refine own_st (fun _ k' => XS.aload X236.here hx rfl (hb hby at_277) rfl rfl k') ?_
        show own_Go p.tables e below _ (T236.setTop (mkF m 279 #[.val (.long base), .second, .val (.long raw), .second, .val (.int delta), .val (.int count), .val (.int mode), .val (.long b), .second, .val (.int (3 : Int32)), .val (.long nn), .second, .val (.ref ms), .val (.ref b2), .val (.ref b9), .val (.ref b20), .val (.ref b35), .val (.long (b + ((3 : Int32).toInt64))), .second, .val (.long (b + (1 : Int64))), .second] [(.ref b20), (.ref b9), (.ref b2), (.long ((b + (1 : Int64)) - b)), (.ref b2)]))
        have hpk237 : own_pk ((b + (1 : Int64)) - b) b2 b9 b20 = b2 := by
          have e : ((b + (1 : Int64)) - b) = (1 : Int64) := (by have := hbb; have := rng64 nn; have := rng64 b; have := (by decide : (1 : Int64).toInt = 1); have := c_ladd b (1 : Int64); have := rng64 (b + (1 : Int64)); have := c_lsub (b + (1 : Int64)) b; have := rng64 ((b + (1 : Int64)) - b); have := (Int64.lt_iff_toInt_lt).mp hd0_0; refine (Int64.toInt_inj.symm).mpr ?_; omega : ((b + (1 : Int64)) - b) = (1 : Int64))
          rw [e]; rfl
        obtain ⟨_, _, ⟨T238, L238, k238, n238⟩, -, X238, ⟨Lc238, hQ238, l238, y238, z238⟩, st238⟩ := Jvm.LawKit.callS X236 hx (y := (⟨"com/example/penumbra/penumbra/order/SequenceLogDropUpToPinLaw", "pick", "(JLcom/example/penumbra/penumbra/order/SequenceLog$Entry;Lcom/example/penumbra/penumbra/order/SequenceLog$Entry;Lcom/example/penumbra/penumbra/order/SequenceLog$Entry;)Lcom/example/penumbra/penumbra/order/SequenceLog$Entry;"⟩ : MethodName)) hown (mvT hZ (hw _ (List.mem_of_getElem? (i := 84) rfl))) (mvT hZ (hw _ (List.mem_of_getElem? (i := 85) rfl))) (mvT hZ (hw _ (List.mem_of_getElem? (i := 86) rfl))) (mvT hZ (hw _ (List.mem_of_getElem? (i := 87) rfl))) (by decide) (backOf (W := 1) (rmK l Z a0 hw [] ((b + (1 : Int64)) - b) b2 b9 b20 T220.heap n0 Zc220 ) hZ (hw _ (List.mem_of_getElem? (i := 87) rfl)) (hw _ (List.mem_of_getElem? (i := 86) rfl)) (by decide) (by decide)) (g := (mkF m 279 #[.val (.long base), .second, .val (.long raw), .second, .val (.int delta), .val (.int count), .val (.int mode), .val (.long b), .second, .val (.int (3 : Int32)), .val (.long nn), .second, .val (.ref ms), .val (.ref b2), .val (.ref b9), .val (.ref b20), .val (.ref b35), .val (.long (b + ((3 : Int32).toInt64))), .second, .val (.long (b + (1 : Int64))), .second] [(.ref b20), (.ref b9), (.ref b2), (.long ((b + (1 : Int64)) - b)), (.ref b2)])) rfl (by rw [hml]; rfl) (argsL := [(.long ((b + (1 : Int64)) - b)), (.ref b2), (.ref b9), (.ref b20)]) (rest := [(.ref b2)]) (lenOf pd__JLcom_example_penumbra_penumbra_order_SequenceLog_Entry_Lcom_example_penumbra_penumbra_order_SequenceLog_Entry_Lcom_example_penumbra_penumbra_order_SequenceLog_Entry__Lcom_example_penumbra_penumbra_order_SequenceLog_Entry_ rfl) rfl (by show 2 * 0 + _ ≤ _; exact Nat.le_of_eq rfl) (hb hby at_279) (fun _ _ => ⟨rfl, e236, (by decide : 6 + 0 ≤ _), (by decide : 1040 + 0 ≤ _)⟩)
        dsimp only [Pt.U, Pt.locs, Pt.cells, Pt.slots] at X238 l238 y238 z238 st238 hQ238
        subst l238 y238 z238
        rw [Q_rmK, hpk237] at hQ238
        obtain ⟨rfl, Nq238, e238⟩ := hQ238
        have N238 := Fr.app N236 Nq238
        refine own_st st238 ?_
        show own_Go p.tables e below _ (T238.setTop (mkF m 282 #[.val (.long base), .second, .val (.long raw), .second, .val (.int delta), .val (.int count), .val (.int mode), .val (.long b), .second, .val (.int (3 : Int32)), .val (.long nn), .second, .val (.ref ms), .val (.ref b2), .val (.ref b9), .val (.ref b20), .val (.ref b35), .val (.long (b + ((3 : Int32).toInt64))), .second, .val (.long (b + (1 : Int64))), .second] [(.ref b2), (.ref b2)]))
        refine own_st (fun _ k' => Jvm.RoadKit.acmp (g := (mkF m 282 #[.val (.long base), .second, .val (.long raw), .second, .val (.int delta), .val (.int count), .val (.int mode), .val (.long b), .second, .val (.int (3 : Int32)), .val (.long nn), .second, .val (.ref ms), .val (.ref b2), .val (.ref b9), .val (.ref b20), .val (.ref b35), .val (.long (b + ((3 : Int32).toInt64))), .second, .val (.long (b + (1 : Int64))), .second] [(.ref b2), (.ref b2)])) X238 hx rfl rfl rfl (pc0 := 282) (pc' := 287) (same := true) rfl (hb hby at_282) rfl (decide_eq_true rfl) (by decide) (by decide) k') ?_
        show own_Go p.tables e below _ (T238.setTop (mkF m 287 #[.val (.long base), .second, .val (.long raw), .second, .val (.int delta), .val (.int count), .val (.int mode), .val (.long b), .second, .val (.int (3 : Int32)), .val (.long nn), .second, .val (.ref ms), .val (.ref b2), .val (.ref b9), .val (.ref b20), .val (.ref b35), .val (.long (b + ((3 : Int32).toInt64))), .second, .val (.long (b + (1 : Int64))), .second] []))
        refine own_st (fun _ k' => XS.aload X238.here hx rfl (hb hby at_287) rfl rfl k') ?_
        show own_Go p.tables e below _ (T238.setTop (mkF m 289 #[.val (.long base), .second, .val (.long raw), .second, .val (.int delta), .val (.int count), .val (.int mode), .val (.long b), .second, .val (.int (3 : Int32)), .val (.long nn), .second, .val (.ref ms), .val (.ref b2), .val (.ref b9), .val (.ref b20), .val (.ref b35), .val (.long (b + ((3 : Int32).toInt64))), .second, .val (.long (b + (1 : Int64))), .second] [(.ref b35)]))
        refine own_st (fun _ k' => XS.lload X238.here hx rfl (hb hby at_289) rfl k') ?_
        show own_Go p.tables e below _ (T238.setTop (mkF m 291 #[.val (.long base), .second, .val (.long raw), .second, .val (.int delta), .val (.int count), .val (.int mode), .val (.long b), .second, .val (.int (3 : Int32)), .val (.long nn), .second, .val (.ref ms), .val (.ref b2), .val (.ref b9), .val (.ref b20), .val (.ref b35), .val (.long (b + ((3 : Int32).toInt64))), .second, .val (.long (b + (1 : Int64))), .second] [(.long (b + ((3 : Int32).toInt64))), (.ref b35)]))
        have hdx239 : (((0 : Int32).toInt64 + (b + ((3 : Int32).toInt64))) - (b + (1 : Int64))) = (2 : Int64) := (by have := hbb; have := rng64 nn; have := rng64 b; have := (by decide : (1 : Int64).toInt = 1); have := c_ladd b (1 : Int64); have := rng64 (b + (1 : Int64)); have := (by decide : ((0 : Int32).toInt64).toInt = 0); have := (by decide : ((3 : Int32).toInt64).toInt = 3); have := c_ladd b (3 : Int32).toInt64; have := rng64 (b + (3 : Int32).toInt64); have := c_ladd (0 : Int32).toInt64 (b + (3 : Int32).toInt64); have := rng64 ((0 : Int32).toInt64 + (b + (3 : Int32).toInt64)); have := c_lsub ((0 : Int32).toInt64 + (b + (3 : Int32).toInt64)) (b + (1 : Int64)); have := rng64 (((0 : Int32).toInt64 + (b + (3 : Int32).toInt64)) - (b + (1 : Int64))); have := (by decide : (2 : Int64).toInt = 2); have := (Int64.lt_iff_toInt_lt).mp hd0_0; refine (Int64.toInt_inj.symm).mpr ?_; omega : (((0 : Int32).toInt64 + (b + ((3 : Int32).toInt64))) - (b + (1 : Int64))) = (2 : Int64))
        obtain ⟨cq240, kq240, q240a, q240b, q240c⟩ := isOf hZ e238 Ea220
        obtain ⟨_, _, ⟨T240, L240, k240, n240⟩, -, X240, ⟨Lc240, hQ240, l240, y240, z240⟩, st240⟩ := X238.virtualBack hx (y := (⟨"com/example/penumbra/penumbra/order/SequenceLog", "get", "(J)Lcom/example/penumbra/penumbra/order/SequenceLog$Entry;"⟩ : MethodName)) (z := (⟨"com/example/penumbra/penumbra/order/SequenceLog", "get", "(J)Lcom/example/penumbra/penumbra/order/SequenceLog$Entry;"⟩ : MethodName)) hown (mvT hZ (hw _ (List.mem_of_getElem? (i := 79) rfl))) (mvT hZ (hw _ (List.mem_of_getElem? (i := 80) rfl))) (notFace_of_selects (args := #[]) (mvT hZ (hw _ (List.mem_of_getElem? (i := 82) rfl)))) (mvT hZ (hw _ (List.mem_of_getElem? (i := 82) rfl))) (mvT hZ (hw _ (List.mem_of_getElem? (i := 81) rfl))) (by decide) (backOf (W := 0) (rmG l Z a0 hw [] b35 (b + ((3 : Int32).toInt64)) (b + (1 : Int64)) (0 : Int32) (3 : Int32) rg kk (.ref b2) (.ref b9) (.ref b20) (2 : Int32) b20 T220.heap n0 Zc220 Ea220 Fa_ring220 Fa_first220 Fa_head220 Fa_size220 Va220 OV (by have := hbb; have := rng64 nn; have := rng64 b; have := (by decide : (1 : Int64).toInt = 1); have := c_ladd b (1 : Int64); have := rng64 (b + (1 : Int64)); have := (by decide : ((3 : Int32).toInt64).toInt = 3); have := c_ladd b (3 : Int32).toInt64; have := rng64 (b + (3 : Int32).toInt64); have := (Int64.lt_iff_toInt_lt).mp hd0_0; refine mt (Int64.lt_iff_toInt_lt).mp ?_; omega : ¬ (b + ((3 : Int32).toInt64)) < (b + (1 : Int64))) (by have := hbb; have := rng64 nn; have := rng64 b; have := (by decide : (1 : Int64).toInt = 1); have := c_ladd b (1 : Int64); have := rng64 (b + (1 : Int64)); have := (by decide : ((3 : Int32).toInt64).toInt = 3); have := c_ladd (b + (1 : Int64)) (3 : Int32).toInt64; have := rng64 ((b + (1 : Int64)) + (3 : Int32).toInt64); have := c_lsub ((b + (1 : Int64)) + (3 : Int32).toInt64) (1 : Int64); have := rng64 (((b + (1 : Int64)) + (3 : Int32).toInt64) - (1 : Int64)); have := c_ladd b (3 : Int32).toInt64; have := rng64 (b + (3 : Int32).toInt64); have := (Int64.lt_iff_toInt_lt).mp hd0_0; refine mt (Int64.lt_iff_toInt_lt).mp ?_; omega : ¬ (((b + (1 : Int64)) + ((3 : Int32).toInt64)) - (1 : Int64)) < (b + ((3 : Int32).toInt64))) (by rw [hdx239]; decide) (by decide) (by decide) rfl) hZ (hw _ (List.mem_of_getElem? (i := 83) rfl)) (hw _ (List.mem_of_getElem? (i := 28) rfl)) (by decide) (by decide)) q240a q240c (g := (mkF m 291 #[.val (.long base), .second, .val (.long raw), .second, .val (.int delta), .val (.int count), .val (.int mode), .val (.long b), .second, .val (.int (3 : Int32)), .val (.long nn), .second, .val (.ref ms), .val (.ref b2), .val (.ref b9), .val (.ref b20), .val (.ref b35), .val (.long (b + ((3 : Int32).toInt64))), .second, .val (.long (b + (1 : Int64))), .second] [(.long (b + ((3 : Int32).toInt64))), (.ref b35)])) rfl (by rw [hml]; rfl) (Steps.refl _) (argsL := [(.long (b + ((3 : Int32).toInt64)))]) (rest := []) (lenOf pd__J_Lcom_example_penumbra_penumbra_order_SequenceLog_Entry_ rfl) rfl (by show 2 * 0 + _ ≤ _; exact Nat.le_of_eq rfl) (hb hby at_291) (fun _ _ => ⟨rfl, e238, (by decide : 6 + 0 ≤ _), (by decide : 1040 + 0 ≤ _)⟩)
        dsimp only [Pt.U, Pt.locs, Pt.cells, Pt.slots] at X240 l240 y240 z240 st240 hQ240
        subst l240 y240 z240
        obtain ⟨rfl, Nq240, e240⟩ := hQ240
        have N240 := Fr.app N238 Nq240
        refine own_tr st240 ?_
        show own_Go p.tables e below _ (T240.setTop (mkF m 294 #[.val (.long base), .second, .val (.long raw), .second, .val (.int delta), .val (.int count), .val (.int mode), .val (.long b), .second, .val (.int (3 : Int32)), .val (.long nn), .second, .val (.ref ms), .val (.ref b2), .val (.ref b9), .val (.ref b20), .val (.ref b35), .val (.long (b + ((3 : Int32).toInt64))), .second, .val (.long (b + (1 : Int64))), .second] [(.ref b20)]))
        refine own_st (fun _ k' => XS.iload X240.here hx rfl (hb hby at_294) rfl k') ?_
        show own_Go p.tables e below _ (T240.setTop (mkF m 296 #[.val (.long base), .second, .val (.long raw), .second, .val (.int delta), .val (.int count), .val (.int mode), .val (.long b), .second, .val (.int (3 : Int32)), .val (.long nn), .second, .val (.ref ms), .val (.ref b2), .val (.ref b9), .val (.ref b20), .val (.ref b35), .val (.long (b + ((3 : Int32).toInt64))), .second, .val (.long (b + (1 : Int64))), .second] [(.int (3 : Int32)), (.ref b20)]))
        refine own_st (fun _ k' => XS.i2l X240.here hx rfl (hb hby at_296) rfl k') ?_
        show own_Go p.tables e below _ (T240.setTop (mkF m 297 #[.val (.long base), .second, .val (.long raw), .second, .val (.int delta), .val (.int count), .val (.int mode), .val (.long b), .second, .val (.int (3 : Int32)), .val (.long nn), .second, .val (.ref ms), .val (.ref b2), .val (.ref b9), .val (.ref b20), .val (.ref b35), .val (.long (b + ((3 : Int32).toInt64))), .second, .val (.long (b + (1 : Int64))), .second] [(.long ((3 : Int32).toInt64)), (.ref b20)]))
        refine own_st (fun _ k' => XS.aload X240.here hx rfl (hb hby at_297) rfl rfl k') ?_
        show own_Go p.tables e below _ (T240.setTop (mkF m 299 #[.val (.long base), .second, .val (.long raw), .second, .val (.int delta), .val (.int count), .val (.int mode), .val (.long b), .second, .val (.int (3 : Int32)), .val (.long nn), .second, .val (.ref ms), .val (.ref b2), .val (.ref b9), .val (.ref b20), .val (.ref b35), .val (.long (b + ((3 : Int32).toInt64))), .second, .val (.long (b + (1 : Int64))), .second] [(.ref b2), (.long ((3 : Int32).toInt64)), (.ref b20)]))
        refine own_st (fun _ k' => XS.aload X240.here hx rfl (hb hby at_299) rfl rfl k') ?_
        show own_Go p.tables e below _ (T240.setTop (mkF m 301 #[.val (.long base), .second, .val (.long raw), .second, .val (.int delta), .val (.int count), .val (.int mode), .val (.long b), .second, .val (.int (3 : Int32)), .val (.long nn), .second, .val (.ref ms), .val (.ref b2), .val (.ref b9), .val (.ref b20), .val (.ref b35), .val (.long (b + ((3 : Int32).toInt64))), .second, .val (.long (b + (1 : Int64))), .second] [(.ref b9), (.ref b2), (.long ((3 : Int32).toInt64)), (.ref b20)]))
        refine own_st (fun _ k' => XS.aload X240.here hx rfl (hb hby at_301) rfl rfl k') ?_
        show own_Go p.tables e below _ (T240.setTop (mkF m 303 #[.val (.long base), .second, .val (.long raw), .second, .val (.int delta), .val (.int count), .val (.int mode), .val (.long b), .second, .val (.int (3 : Int32)), .val (.long nn), .second, .val (.ref ms), .val (.ref b2), .val (.ref b9), .val (.ref b20), .val (.ref b35), .val (.long (b + ((3 : Int32).toInt64))), .second, .val (.long (b + (1 : Int64))), .second] [(.ref b20), (.ref b9), (.ref b2), (.long ((3 : Int32).toInt64)), (.ref b20)]))
        have hpk241 : own_pk ((3 : Int32).toInt64) b2 b9 b20 = b20 := by
          have e : ((3 : Int32).toInt64) = (3 : Int64) := (by have := hbb; have := rng64 nn; have := rng64 b; have := (by decide : (1 : Int64).toInt = 1); have := c_ladd b (1 : Int64); have := rng64 (b + (1 : Int64)); have := (by decide : ((3 : Int32).toInt64).toInt = 3); have := (by decide : (3 : Int64).toInt = 3); have := (Int64.lt_iff_toInt_lt).mp hd0_0; refine (Int64.toInt_inj.symm).mpr ?_; omega : ((3 : Int32).toInt64) = (3 : Int64))
          rw [e]; rfl
        obtain ⟨_, _, ⟨T242, L242, k242, n242⟩, -, X242, ⟨Lc242, hQ242, l242, y242, z242⟩, st242⟩ := Jvm.LawKit.callS X240 hx (y := (⟨"com/example/penumbra/penumbra/order/SequenceLogDropUpToPinLaw", "pick", "(JLcom/example/penumbra/penumbra/order/SequenceLog$Entry;Lcom/example/penumbra/penumbra/order/SequenceLog$Entry;Lcom/example/penumbra/penumbra/order/SequenceLog$Entry;)Lcom/example/penumbra/penumbra/order/SequenceLog$Entry;"⟩ : MethodName)) hown (mvT hZ (hw _ (List.mem_of_getElem? (i := 84) rfl))) (mvT hZ (hw _ (List.mem_of_getElem? (i := 85) rfl))) (mvT hZ (hw _ (List.mem_of_getElem? (i := 86) rfl))) (mvT hZ (hw _ (List.mem_of_getElem? (i := 87) rfl))) (by decide) (backOf (W := 1) (rmK l Z a0 hw [] ((3 : Int32).toInt64) b2 b9 b20 T220.heap n0 Zc220 ) hZ (hw _ (List.mem_of_getElem? (i := 87) rfl)) (hw _ (List.mem_of_getElem? (i := 86) rfl)) (by decide) (by decide)) (g := (mkF m 303 #[.val (.long base), .second, .val (.long raw), .second, .val (.int delta), .val (.int count), .val (.int mode), .val (.long b), .second, .val (.int (3 : Int32)), .val (.long nn), .second, .val (.ref ms), .val (.ref b2), .val (.ref b9), .val (.ref b20), .val (.ref b35), .val (.long (b + ((3 : Int32).toInt64))), .second, .val (.long (b + (1 : Int64))), .second] [(.ref b20), (.ref b9), (.ref b2), (.long ((3 : Int32).toInt64)), (.ref b20)])) rfl (by rw [hml]; rfl) (argsL := [(.long ((3 : Int32).toInt64)), (.ref b2), (.ref b9), (.ref b20)]) (rest := [(.ref b20)]) (lenOf pd__JLcom_example_penumbra_penumbra_order_SequenceLog_Entry_Lcom_example_penumbra_penumbra_order_SequenceLog_Entry_Lcom_example_penumbra_penumbra_order_SequenceLog_Entry__Lcom_example_penumbra_penumbra_order_SequenceLog_Entry_ rfl) rfl (by show 2 * 0 + _ ≤ _; exact Nat.le_of_eq rfl) (hb hby at_303) (fun _ _ => ⟨rfl, e240, (by decide : 6 + 0 ≤ _), (by decide : 1040 + 0 ≤ _)⟩)
        dsimp only [Pt.U, Pt.locs, Pt.cells, Pt.slots] at X242 l242 y242 z242 st242 hQ242
        subst l242 y242 z242
        rw [Q_rmK, hpk241] at hQ242
        obtain ⟨rfl, Nq242, e242⟩ := hQ242
        have N242 := Fr.app N240 Nq242
        refine own_st st242 ?_
        show own_Go p.tables e below _ (T242.setTop (mkF m 306 #[.val (.long base), .second, .val (.long raw), .second, .val (.int delta), .val (.int count), .val (.int mode), .val (.long b), .second, .val (.int (3 : Int32)), .val (.long nn), .second, .val (.ref ms), .val (.ref b2), .val (.ref b9), .val (.ref b20), .val (.ref b35), .val (.long (b + ((3 : Int32).toInt64))), .second, .val (.long (b + (1 : Int64))), .second] [(.ref b20), (.ref b20)]))
        refine own_st (fun _ k' => Jvm.RoadKit.acmp (g := (mkF m 306 #[.val (.long base), .second, .val (.long raw), .second, .val (.int delta), .val (.int count), .val (.int mode), .val (.long b), .second, .val (.int (3 : Int32)), .val (.long nn), .second, .val (.ref ms), .val (.ref b2), .val (.ref b9), .val (.ref b20), .val (.ref b35), .val (.long (b + ((3 : Int32).toInt64))), .second, .val (.long (b + (1 : Int64))), .second] [(.ref b20), (.ref b20)])) X242 hx rfl rfl rfl (pc0 := 306) (pc' := 311) (same := true) rfl (hb hby at_306) rfl (decide_eq_true rfl) (by decide) (by decide) k') ?_
        show own_Go p.tables e below _ (T242.setTop (mkF m 311 #[.val (.long base), .second, .val (.long raw), .second, .val (.int delta), .val (.int count), .val (.int mode), .val (.long b), .second, .val (.int (3 : Int32)), .val (.long nn), .second, .val (.ref ms), .val (.ref b2), .val (.ref b9), .val (.ref b20), .val (.ref b35), .val (.long (b + ((3 : Int32).toInt64))), .second, .val (.long (b + (1 : Int64))), .second] []))
        refine own_st (fun _ k' => XS.iconst X242.here hx rfl (hb hby at_311) k') ?_
        show own_Go p.tables e below _ (T242.setTop (mkF m 312 #[.val (.long base), .second, .val (.long raw), .second, .val (.int delta), .val (.int count), .val (.int mode), .val (.long b), .second, .val (.int (3 : Int32)), .val (.long nn), .second, .val (.ref ms), .val (.ref b2), .val (.ref b9), .val (.ref b20), .val (.ref b35), .val (.long (b + ((3 : Int32).toInt64))), .second, .val (.long (b + (1 : Int64))), .second] [(.int (1 : Int32))]))
        exact own_retN X242 hx (t := .boolean) Bd.returns (by simp) (hb hby at_312) Bd.notSynchronized ⟨rfl, N242⟩ (by decide) (by decide)
      ·  -- 1 dropped of 3
        refine own_tr st220 ?_
        show own_Go p.tables e below _ (T220.setTop (mkF m 165 #[.val (.long base), .second, .val (.long raw), .second, .val (.int delta), .val (.int count), .val (.int mode), .val (.long b), .second, .val (.int (3 : Int32)), .val (.long nn), .second, .val (.ref ms), .val (.ref b2), .val (.ref b9), .val (.ref b20), .val (.ref b35), .unset, .unset, .unset, .unset] []))
        refine own_st (fun _ k' => XS.lload X220.here hx rfl (hb hby at_165) rfl k') ?_
        show own_Go p.tables e below _ (T220.setTop (mkF m 167 #[.val (.long base), .second, .val (.long raw), .second, .val (.int delta), .val (.int count), .val (.int mode), .val (.long b), .second, .val (.int (3 : Int32)), .val (.long nn), .second, .val (.ref ms), .val (.ref b2), .val (.ref b9), .val (.ref b20), .val (.ref b35), .unset, .unset, .unset, .unset] [(.long b)]))
        refine own_st (fun _ k' => XS.iload X220.here hx rfl (hb hby at_167) rfl k') ?_
        show own_Go p.tables e below _ (T220.setTop (mkF m 169 #[.val (.long base), .second, .val (.long raw), .second, .val (.int delta), .val (.int count), .val (.int mode), .val (.long b), .second, .val (.int (3 : Int32)), .val (.long nn), .second, .val (.ref ms), .val (.ref b2), .val (.ref b9), .val (.ref b20), .val (.ref b35), .unset, .unset, .unset, .unset] [(.int (3 : Int32)), (.long b)]))
        refine own_st (fun _ k' => XS.i2l X220.here hx rfl (hb hby at_169) rfl k') ?_
        show own_Go p.tables e below _ (T220.setTop (mkF m 170 #[.val (.long base), .second, .val (.long raw), .second, .val (.int delta), .val (.int count), .val (.int mode), .val (.long b), .second, .val (.int (3 : Int32)), .val (.long nn), .second, .val (.ref ms), .val (.ref b2), .val (.ref b9), .val (.ref b20), .val (.ref b35), .unset, .unset, .unset, .unset] [(.long ((3 : Int32).toInt64)), (.long b)]))
        refine own_st (fun _ k' => XS.ladd X220.here hx rfl (hb hby at_170) rfl k') ?_
        show own_Go p.tables e below _ (T220.setTop (mkF m 171 #[.val (.long base), .second, .val (.long raw), .second, .val (.int delta), .val (.int count), .val (.int mode), .val (.long b), .second, .val (.int (3 : Int32)), .val (.long nn), .second, .val (.ref ms), .val (.ref b2), .val (.ref b9), .val (.ref b20), .val (.ref b35), .unset, .unset, .unset, .unset] [(.long (b + ((3 : Int32).toInt64)))]))
        refine own_st (fun _ k' => XS.lstore X220.here hx rfl (hb hby at_171) rfl (l' := #[.val (.long base), .second, .val (.long raw), .second, .val (.int delta), .val (.int count), .val (.int mode), .val (.long b), .second, .val (.int (3 : Int32)), .val (.long nn), .second, .val (.ref ms), .val (.ref b2), .val (.ref b9), .val (.ref b20), .val (.ref b35), .val (.long (b + ((3 : Int32).toInt64))), .second, .unset, .unset]) rfl k') ?_
        show own_Go p.tables e below _ (T220.setTop (mkF m 173 #[.val (.long base), .second, .val (.long raw), .second, .val (.int delta), .val (.int count), .val (.int mode), .val (.long b), .second, .val (.int (3 : Int32)), .val (.long nn), .second, .val (.ref ms), .val (.ref b2), .val (.ref b9), .val (.ref b20), .val (.ref b35), .val (.long (b + ((3 : Int32).toInt64))), .second, .unset, .unset] []))
        refine own_st (fun _ k' => XS.iload X220.here hx rfl (hb hby at_173) rfl k') ?_
        show own_Go p.tables e below _ (T220.setTop (mkF m 175 #[.val (.long base), .second, .val (.long raw), .second, .val (.int delta), .val (.int count), .val (.int mode), .val (.long b), .second, .val (.int (3 : Int32)), .val (.long nn), .second, .val (.ref ms), .val (.ref b2), .val (.ref b9), .val (.ref b20), .val (.ref b35), .val (.long (b + ((3 : Int32).toInt64))), .second, .unset, .unset] [(.int (3 : Int32))]))
        refine own_st (fun _ k' => XS.ifYes X220.here hx rfl (pc0 := 175) (pc' := 187) rfl (hb hby at_175) rfl ((if0 _ _).trans (feq (by decide : ¬ (3 : Int32) = (0 : Int32))).2) (by decide) (by decide) k') ?_
        show own_Go p.tables e below _ (T220.setTop (mkF m 187 #[.val (.long base), .second, .val (.long raw), .second, .val (.int delta), .val (.int count), .val (.int mode), .val (.long b), .second, .val (.int (3 : Int32)), .val (.long nn), .second, .val (.ref ms), .val (.ref b2), .val (.ref b9), .val (.ref b20), .val (.ref b35), .val (.long (b + ((3 : Int32).toInt64))), .second, .unset, .unset] []))
        refine own_st (fun _ k' => XS.lload X220.here hx rfl (hb hby at_187) rfl k') ?_
        show own_Go p.tables e below _ (T220.setTop (mkF m 189 #[.val (.long base), .second, .val (.long raw), .second, .val (.int delta), .val (.int count), .val (.int mode), .val (.long b), .second, .val (.int (3 : Int32)), .val (.long nn), .second, .val (.ref ms), .val (.ref b2), .val (.ref b9), .val (.ref b20), .val (.ref b35), .val (.long (b + ((3 : Int32).toInt64))), .second, .unset, .unset] [(.long nn)]))
        refine own_st (fun _ k' => XS.lload X220.here hx rfl (hb hby at_189) rfl k') ?_
        show own_Go p.tables e below _ (T220.setTop (mkF m 191 #[.val (.long base), .second, .val (.long raw), .second, .val (.int delta), .val (.int count), .val (.int mode), .val (.long b), .second, .val (.int (3 : Int32)), .val (.long nn), .second, .val (.ref ms), .val (.ref b2), .val (.ref b9), .val (.ref b20), .val (.ref b35), .val (.long (b + ((3 : Int32).toInt64))), .second, .unset, .unset] [(.long b), (.long nn)]))
        refine own_st (fun _ k' => XS.lcmp X220.here hx rfl (hb hby at_191) rfl k') ?_
        show own_Go p.tables e below _ (T220.setTop (mkF m 192 #[.val (.long base), .second, .val (.long raw), .second, .val (.int delta), .val (.int count), .val (.int mode), .val (.long b), .second, .val (.int (3 : Int32)), .val (.long nn), .second, .val (.ref ms), .val (.ref b2), .val (.ref b9), .val (.ref b20), .val (.ref b35), .val (.long (b + ((3 : Int32).toInt64))), .second, .unset, .unset] [(.int (lcmpW nn b))]))
        refine own_st (fun _ k' => XS.ifYes X220.here hx rfl (pc0 := 192) (pc' := 204) rfl (hb hby at_192) rfl ((if0 _ _).trans (tlt ((lw_gt nn b).mpr (by have := hbb; have := rng64 nn; have := rng64 b; have := (by decide : (1 : Int64).toInt = 1); have := c_ladd b (1 : Int64); have := rng64 (b + (1 : Int64)); have := c_ladd (b + (1 : Int64)) (1 : Int64); have := rng64 ((b + (1 : Int64)) + (1 : Int64)); have := (Int64.lt_iff_toInt_lt).mp hd1_0; have := mt (Int64.lt_iff_toInt_lt).mpr hd1_1; refine (Int64.lt_iff_toInt_lt).mpr ?_; omega : b < nn))).2.2.1) (by decide) (by decide) k') ?_
        show own_Go p.tables e below _ (T220.setTop (mkF m 204 #[.val (.long base), .second, .val (.long raw), .second, .val (.int delta), .val (.int count), .val (.int mode), .val (.long b), .second, .val (.int (3 : Int32)), .val (.long nn), .second, .val (.ref ms), .val (.ref b2), .val (.ref b9), .val (.ref b20), .val (.ref b35), .val (.long (b + ((3 : Int32).toInt64))), .second, .unset, .unset] []))
        refine own_st (fun _ k' => XS.lload X220.here hx rfl (hb hby at_204) rfl k') ?_
        show own_Go p.tables e below _ (T220.setTop (mkF m 206 #[.val (.long base), .second, .val (.long raw), .second, .val (.int delta), .val (.int count), .val (.int mode), .val (.long b), .second, .val (.int (3 : Int32)), .val (.long nn), .second, .val (.ref ms), .val (.ref b2), .val (.ref b9), .val (.ref b20), .val (.ref b35), .val (.long (b + ((3 : Int32).toInt64))), .second, .unset, .unset] [(.long nn)]))
        refine own_st (fun _ k' => XS.lload X220.here hx rfl (hb hby at_206) rfl k') ?_
        show own_Go p.tables e below _ (T220.setTop (mkF m 208 #[.val (.long base), .second, .val (.long raw), .second, .val (.int delta), .val (.int count), .val (.int mode), .val (.long b), .second, .val (.int (3 : Int32)), .val (.long nn), .second, .val (.ref ms), .val (.ref b2), .val (.ref b9), .val (.ref b20), .val (.ref b35), .val (.long (b + ((3 : Int32).toInt64))), .second, .unset, .unset] [(.long (b + ((3 : Int32).toInt64))), (.long nn)]))
        refine own_st (fun _ k' => XS.lcmp X220.here hx rfl (hb hby at_208) rfl k') ?_
        show own_Go p.tables e below _ (T220.setTop (mkF m 209 #[.val (.long base), .second, .val (.long raw), .second, .val (.int delta), .val (.int count), .val (.int mode), .val (.long b), .second, .val (.int (3 : Int32)), .val (.long nn), .second, .val (.ref ms), .val (.ref b2), .val (.ref b9), .val (.ref b20), .val (.ref b35), .val (.long (b + ((3 : Int32).toInt64))), .second, .unset, .unset] [(.int (lcmpW nn (b + ((3 : Int32).toInt64))))]))
        refine own_st (fun _ k' => XS.ifYes X220.here hx rfl (pc0 := 209) (pc' := 221) rfl (hb hby at_209) rfl ((if0 _ _).trans (tlt ((lw_lt nn (b + ((3 : Int32).toInt64))).mpr (by have := hbb; have := rng64 nn; have := rng64 b; have := (by decide : (1 : Int64).toInt = 1); have := c_ladd b (1 : Int64); have := rng64 (b + (1 : Int64)); have := c_ladd (b + (1 : Int64)) (1 : Int64); have := rng64 ((b + (1 : Int64)) + (1 : Int64)); have := (by decide : ((3 : Int32).toInt64).toInt = 3); have := c_ladd b (3 : Int32).toInt64; have := rng64 (b + (3 : Int32).toInt64); have := (Int64.lt_iff_toInt_lt).mp hd1_0; have := mt (Int64.lt_iff_toInt_lt).mpr hd1_1; refine (Int64.lt_iff_toInt_lt).mpr ?_; omega : nn < (b + ((3 : Int32).toInt64))))).1) (by decide) (by decide) k') ?_
        show own_Go p.tables e below _ (T220.setTop (mkF m 221 #[.val (.long base), .second, .val (.long raw), .second, .val (.int delta), .val (.int count), .val (.int mode), .val (.long b), .second, .val (.int (3 : Int32)), .val (.long nn), .second, .val (.ref ms), .val (.ref b2), .val (.ref b9), .val (.ref b20), .val (.ref b35), .val (.long (b + ((3 : Int32).toInt64))), .second, .unset, .unset] []))
        refine own_st (fun _ k' => XS.lload X220.here hx rfl (hb hby at_221) rfl k') ?_
        show own_Go p.tables e below _ (T220.setTop (mkF m 223 #[.val (.long base), .second, .val (.long raw), .second, .val (.int delta), .val (.int count), .val (.int mode), .val (.long b), .second, .val (.int (3 : Int32)), .val (.long nn), .second, .val (.ref ms), .val (.ref b2), .val (.ref b9), .val (.ref b20), .val (.ref b35), .val (.long (b + ((3 : Int32).toInt64))), .second, .unset, .unset] [(.long nn)]))
        refine own_st (fun _ k' => XS.lconst X220.here hx rfl (hb hby at_223) k') ?_
        show own_Go p.tables e below _ (T220.setTop (mkF m 224 #[.val (.long base), .second, .val (.long raw), .second, .val (.int delta), .val (.int count), .val (.int mode), .val (.long b), .second, .val (.int (3 : Int32)), .val (.long nn), .second, .val (.ref ms), .val (.ref b2), .val (.ref b9), .val (.ref b20), .val (.ref b35), .val (.long (b + ((3 : Int32).toInt64))), .second, .unset, .unset] [(.long (1 : Int64)), (.long nn)]))
        refine own_st (fun _ k' => XS.ladd X220.here hx rfl (hb hby at_224) rfl k') ?_
        show own_Go p.tables e below _ (T220.setTop (mkF m 225 #[.val (.long base), .second, .val (.long raw), .second, .val (.int delta), .val (.int count), .val (.int mode), .val (.long b), .second, .val (.int (3 : Int32)), .val (.long nn), .second, .val (.ref ms), .val (.ref b2), .val (.ref b9), .val (.ref b20), .val (.ref b35), .val (.long (b + ((3 : Int32).toInt64))), .second, .unset, .unset] [(.long (nn + (1 : Int64)))]))
        refine own_st (fun _ k' => XS.lstore X220.here hx rfl (hb hby at_225) rfl (l' := #[.val (.long base), .second, .val (.long raw), .second, .val (.int delta), .val (.int count), .val (.int mode), .val (.long b), .second, .val (.int (3 : Int32)), .val (.long nn), .second, .val (.ref ms), .val (.ref b2), .val (.ref b9), .val (.ref b20), .val (.ref b35), .val (.long (b + ((3 : Int32).toInt64))), .second, .val (.long (nn + (1 : Int64))), .second]) rfl k') ?_
        show own_Go p.tables e below _ (T220.setTop (mkF m 227 #[.val (.long base), .second, .val (.long raw), .second, .val (.int delta), .val (.int count), .val (.int mode), .val (.long b), .second, .val (.int (3 : Int32)), .val (.long nn), .second, .val (.ref ms), .val (.ref b2), .val (.ref b9), .val (.ref b20), .val (.ref b35), .val (.long (b + ((3 : Int32).toInt64))), .second, .val (.long (nn + (1 : Int64))), .second] []))
        refine own_st (fun _ k' => XS.aload X220.here hx rfl (hb hby at_227) rfl rfl k') ?_
        show own_Go p.tables e below _ (T220.setTop (mkF m 229 #[.val (.long base), .second, .val (.long raw), .second, .val (.int delta), .val (.int count), .val (.int mode), .val (.long b), .second, .val (.int (3 : Int32)), .val (.long nn), .second, .val (.ref ms), .val (.ref b2), .val (.ref b9), .val (.ref b20), .val (.ref b35), .val (.long (b + ((3 : Int32).toInt64))), .second, .val (.long (nn + (1 : Int64))), .second] [(.ref b35)]))
        obtain ⟨cq243, kq243, q243a, q243b, q243c⟩ := isOf hZ rfl Ea220
        obtain ⟨_, _, ⟨T243, L243, k243, n243⟩, -, X243, ⟨Lc243, hQ243, l243, y243, z243⟩, st243⟩ := X220.virtualBack hx (y := (⟨"com/example/penumbra/penumbra/order/SequenceLog", "first", "()J"⟩ : MethodName)) (z := (⟨"com/example/penumbra/penumbra/order/SequenceLog", "first", "()J"⟩ : MethodName)) hown (mvT hZ (hw _ (List.mem_of_getElem? (i := 73) rfl))) (mvT hZ (hw _ (List.mem_of_getElem? (i := 74) rfl))) (notFace_of_selects (args := #[]) (mvT hZ (hw _ (List.mem_of_getElem? (i := 76) rfl)))) (mvT hZ (hw _ (List.mem_of_getElem? (i := 76) rfl))) (mvT hZ (hw _ (List.mem_of_getElem? (i := 75) rfl))) (by decide) (backOf (W := 0) (rmFi l Z a0 hw [] b35 ((b + (1 : Int64)) + (1 : Int64)) T220.heap n0 Zc220 Fa_first220) hZ (hw _ (List.mem_of_getElem? (i := 77) rfl)) (hw _ (List.mem_of_getElem? (i := 28) rfl)) (by decide) (by decide)) q243a q243c (g := (mkF m 229 #[.val (.long base), .second, .val (.long raw), .second, .val (.int delta), .val (.int count), .val (.int mode), .val (.long b), .second, .val (.int (3 : Int32)), .val (.long nn), .second, .val (.ref ms), .val (.ref b2), .val (.ref b9), .val (.ref b20), .val (.ref b35), .val (.long (b + ((3 : Int32).toInt64))), .second, .val (.long (nn + (1 : Int64))), .second] [(.ref b35)])) rfl (by rw [hml]; rfl) (Steps.refl _) (argsL := []) (rest := []) (lenOf pd___J rfl) rfl (by show 2 * 0 + _ ≤ _; exact Nat.le_of_eq rfl) (hb hby at_229) (fun _ _ => ⟨rfl, rfl, (by decide : 6 + 0 ≤ _), (by decide : 1040 + 0 ≤ _)⟩)
        dsimp only [Pt.U, Pt.locs, Pt.cells, Pt.slots] at X243 l243 y243 z243 st243 hQ243
        subst l243 y243 z243
        obtain ⟨rfl, Nq243, e243⟩ := hQ243
        have N243 := Fr.app N220 Nq243
        refine own_tr st243 ?_
        show own_Go p.tables e below _ (T243.setTop (mkF m 232 #[.val (.long base), .second, .val (.long raw), .second, .val (.int delta), .val (.int count), .val (.int mode), .val (.long b), .second, .val (.int (3 : Int32)), .val (.long nn), .second, .val (.ref ms), .val (.ref b2), .val (.ref b9), .val (.ref b20), .val (.ref b35), .val (.long (b + ((3 : Int32).toInt64))), .second, .val (.long (nn + (1 : Int64))), .second] [(.long ((b + (1 : Int64)) + (1 : Int64)))]))
        refine own_st (fun _ k' => XS.lload X243.here hx rfl (hb hby at_232) rfl k') ?_
        show own_Go p.tables e below _ (T243.setTop (mkF m 234 #[.val (.long base), .second, .val (.long raw), .second, .val (.int delta), .val (.int count), .val (.int mode), .val (.long b), .second, .val (.int (3 : Int32)), .val (.long nn), .second, .val (.ref ms), .val (.ref b2), .val (.ref b9), .val (.ref b20), .val (.ref b35), .val (.long (b + ((3 : Int32).toInt64))), .second, .val (.long (nn + (1 : Int64))), .second] [(.long (nn + (1 : Int64))), (.long ((b + (1 : Int64)) + (1 : Int64)))]))
        refine own_st (fun _ k' => XS.lcmp X243.here hx rfl (hb hby at_234) rfl k') ?_
        show own_Go p.tables e below _ (T243.setTop (mkF m 235 #[.val (.long base), .second, .val (.long raw), .second, .val (.int delta), .val (.int count), .val (.int mode), .val (.long b), .second, .val (.int (3 : Int32)), .val (.long nn), .second, .val (.ref ms), .val (.ref b2), .val (.ref b9), .val (.ref b20), .val (.ref b35), .val (.long (b + ((3 : Int32).toInt64))), .second, .val (.long (nn + (1 : Int64))), .second] [(.int (lcmpW ((b + (1 : Int64)) + (1 : Int64)) (nn + (1 : Int64))))]))
        refine own_st (fun _ k' => XS.ifYes X243.here hx rfl (pc0 := 235) (pc' := 240) rfl (hb hby at_235) rfl ((if0 _ _).trans (teq ((lw_eq ((b + (1 : Int64)) + (1 : Int64)) (nn + (1 : Int64))).mpr (by have := hbb; have := rng64 nn; have := rng64 b; have := (by decide : (1 : Int64).toInt = 1); have := c_ladd b (1 : Int64); have := rng64 (b + (1 : Int64)); have := c_ladd (b + (1 : Int64)) (1 : Int64); have := rng64 ((b + (1 : Int64)) + (1 : Int64)); have := c_ladd nn (1 : Int64); have := rng64 (nn + (1 : Int64)); have := (Int64.lt_iff_toInt_lt).mp hd1_0; have := mt (Int64.lt_iff_toInt_lt).mpr hd1_1; refine (Int64.toInt_inj.symm).mpr ?_; omega : ((b + (1 : Int64)) + (1 : Int64)) = (nn + (1 : Int64))))).1) (by decide) (by decide) k') ?_
        show own_Go p.tables e below _ (T243.setTop (mkF m 240 #[.val (.long base), .second, .val (.long raw), .second, .val (.int delta), .val (.int count), .val (.int mode), .val (.long b), .second, .val (.int (3 : Int32)), .val (.long nn), .second, .val (.ref ms), .val (.ref b2), .val (.ref b9), .val (.ref b20), .val (.ref b35), .val (.long (b + ((3 : Int32).toInt64))), .second, .val (.long (nn + (1 : Int64))), .second] []))
        refine own_st (fun _ k' => XS.aload X243.here hx rfl (hb hby at_240) rfl rfl k') ?_
        show own_Go p.tables e below _ (T243.setTop (mkF m 242 #[.val (.long base), .second, .val (.long raw), .second, .val (.int delta), .val (.int count), .val (.int mode), .val (.long b), .second, .val (.int (3 : Int32)), .val (.long nn), .second, .val (.ref ms), .val (.ref b2), .val (.ref b9), .val (.ref b20), .val (.ref b35), .val (.long (b + ((3 : Int32).toInt64))), .second, .val (.long (nn + (1 : Int64))), .second] [(.ref b35)]))
        obtain ⟨cq244, kq244, q244a, q244b, q244c⟩ := isOf hZ e243 Ea220
        obtain ⟨_, _, ⟨T244, L244, k244, n244⟩, -, X244, ⟨Lc244, hQ244, l244, y244, z244⟩, st244⟩ := X243.virtualBack hx (y := (⟨"com/example/penumbra/penumbra/order/SequenceLog", "last", "()J"⟩ : MethodName)) (z := (⟨"com/example/penumbra/penumbra/order/SequenceLog", "last", "()J"⟩ : MethodName)) hown (mvT hZ (hw _ (List.mem_of_getElem? (i := 78) rfl))) (mvT hZ (hw _ (List.mem_of_getElem? (i := 63) rfl))) (notFace_of_selects (args := #[]) (mvT hZ (hw _ (List.mem_of_getElem? (i := 65) rfl)))) (mvT hZ (hw _ (List.mem_of_getElem? (i := 65) rfl))) (mvT hZ (hw _ (List.mem_of_getElem? (i := 64) rfl))) (by decide) (backOf (W := 0) (rmLa l Z a0 hw [] b35 ((b + (1 : Int64)) + (1 : Int64)) (2 : Int32) T220.heap n0 Zc220 Fa_first220 Fa_size220) hZ (hw _ (List.mem_of_getElem? (i := 66) rfl)) (hw _ (List.mem_of_getElem? (i := 28) rfl)) (by decide) (by decide)) q244a q244c (g := (mkF m 242 #[.val (.long base), .second, .val (.long raw), .second, .val (.int delta), .val (.int count), .val (.int mode), .val (.long b), .second, .val (.int (3 : Int32)), .val (.long nn), .second, .val (.ref ms), .val (.ref b2), .val (.ref b9), .val (.ref b20), .val (.ref b35), .val (.long (b + ((3 : Int32).toInt64))), .second, .val (.long (nn + (1 : Int64))), .second] [(.ref b35)])) rfl (by rw [hml]; rfl) (Steps.refl _) (argsL := []) (rest := []) (lenOf pd___J rfl) rfl (by show 2 * 0 + _ ≤ _; exact Nat.le_of_eq rfl) (hb hby at_242) (fun _ _ => ⟨rfl, e243, (by decide : 6 + 0 ≤ _), (by decide : 1040 + 0 ≤ _)⟩)
        dsimp only [Pt.U, Pt.locs, Pt.cells, Pt.slots] at X244 l244 y244 z244 st244 hQ244
        subst l244 y244 z244
        obtain ⟨rfl, Nq244, e244⟩ := hQ244
        have N244 := Fr.app N243 Nq244
        refine own_tr st244 ?_
        show own_Go p.tables e below _ (T244.setTop (mkF m 245 #[.val (.long base), .second, .val (.long raw), .second, .val (.int delta), .val (.int count), .val (.int mode), .val (.long b), .second, .val (.int (3 : Int32)), .val (.long nn), .second, .val (.ref ms), .val (.ref b2), .val (.ref b9), .val (.ref b20), .val (.ref b35), .val (.long (b + ((3 : Int32).toInt64))), .second, .val (.long (nn + (1 : Int64))), .second] [(.long ((((b + (1 : Int64)) + (1 : Int64)) + ((2 : Int32).toInt64)) - (1 : Int64)))]))
        refine own_st (fun _ k' => XS.lload X244.here hx rfl (hb hby at_245) rfl k') ?_
        show own_Go p.tables e below _ (T244.setTop (mkF m 247 #[.val (.long base), .second, .val (.long raw), .second, .val (.int delta), .val (.int count), .val (.int mode), .val (.long b), .second, .val (.int (3 : Int32)), .val (.long nn), .second, .val (.ref ms), .val (.ref b2), .val (.ref b9), .val (.ref b20), .val (.ref b35), .val (.long (b + ((3 : Int32).toInt64))), .second, .val (.long (nn + (1 : Int64))), .second] [(.long (b + ((3 : Int32).toInt64))), (.long ((((b + (1 : Int64)) + (1 : Int64)) + ((2 : Int32).toInt64)) - (1 : Int64)))]))
        refine own_st (fun _ k' => XS.lcmp X244.here hx rfl (hb hby at_247) rfl k') ?_
        show own_Go p.tables e below _ (T244.setTop (mkF m 248 #[.val (.long base), .second, .val (.long raw), .second, .val (.int delta), .val (.int count), .val (.int mode), .val (.long b), .second, .val (.int (3 : Int32)), .val (.long nn), .second, .val (.ref ms), .val (.ref b2), .val (.ref b9), .val (.ref b20), .val (.ref b35), .val (.long (b + ((3 : Int32).toInt64))), .second, .val (.long (nn + (1 : Int64))), .second] [(.int (lcmpW ((((b + (1 : Int64)) + (1 : Int64)) + ((2 : Int32).toInt64)) - (1 : Int64)) (b + ((3 : Int32).toInt64))))]))
        refine own_st (fun _ k' => XS.ifYes X244.here hx rfl (pc0 := 248) (pc' := 253) rfl (hb hby at_248) rfl ((if0 _ _).trans (teq ((lw_eq ((((b + (1 : Int64)) + (1 : Int64)) + ((2 : Int32).toInt64)) - (1 : Int64)) (b + ((3 : Int32).toInt64))).mpr (by have := hbb; have := rng64 nn; have := rng64 b; have := (by decide : (1 : Int64).toInt = 1); have := c_ladd b (1 : Int64); have := rng64 (b + (1 : Int64)); have := c_ladd (b + (1 : Int64)) (1 : Int64); have := rng64 ((b + (1 : Int64)) + (1 : Int64)); have := (by decide : ((2 : Int32).toInt64).toInt = 2); have := c_ladd ((b + (1 : Int64)) + (1 : Int64)) (2 : Int32).toInt64; have := rng64 (((b + (1 : Int64)) + (1 : Int64)) + (2 : Int32).toInt64); have := c_lsub (((b + (1 : Int64)) + (1 : Int64)) + (2 : Int32).toInt64) (1 : Int64); have := rng64 ((((b + (1 : Int64)) + (1 : Int64)) + (2 : Int32).toInt64) - (1 : Int64)); have := (by decide : ((3 : Int32).toInt64).toInt = 3); have := c_ladd b (3 : Int32).toInt64; have := rng64 (b + (3 : Int32).toInt64); have := (Int64.lt_iff_toInt_lt).mp hd1_0; have := mt (Int64.lt_iff_toInt_lt).mpr hd1_1; refine (Int64.toInt_inj.symm).mpr ?_; omega : ((((b + (1 : Int64)) + (1 : Int64)) + ((2 : Int32).toInt64)) - (1 : Int64)) = (b + ((3 : Int32).toInt64))))).1) (by decide) (by decide) k') ?_
        show own_Go p.tables e below _ (T244.setTop (mkF m 253 #[.val (.long base), .second, .val (.long raw), .second, .val (.int delta), .val (.int count), .val (.int mode), .val (.long b), .second, .val (.int (3 : Int32)), .val (.long nn), .second, .val (.ref ms), .val (.ref b2), .val (.ref b9), .val (.ref b20), .val (.ref b35), .val (.long (b + ((3 : Int32).toInt64))), .second, .val (.long (nn + (1 : Int64))), .second] []))
        refine own_st (fun _ k' => XS.lload X244.here hx rfl (hb hby at_253) rfl k') ?_
        show own_Go p.tables e below _ (T244.setTop (mkF m 255 #[.val (.long base), .second, .val (.long raw), .second, .val (.int delta), .val (.int count), .val (.int mode), .val (.long b), .second, .val (.int (3 : Int32)), .val (.long nn), .second, .val (.ref ms), .val (.ref b2), .val (.ref b9), .val (.ref b20), .val (.ref b35), .val (.long (b + ((3 : Int32).toInt64))), .second, .val (.long (nn + (1 : Int64))), .second] [(.long (nn + (1 : Int64)))]))
        refine own_st (fun _ k' => XS.lload X244.here hx rfl (hb hby at_255) rfl k') ?_
        show own_Go p.tables e below _ (T244.setTop (mkF m 257 #[.val (.long base), .second, .val (.long raw), .second, .val (.int delta), .val (.int count), .val (.int mode), .val (.long b), .second, .val (.int (3 : Int32)), .val (.long nn), .second, .val (.ref ms), .val (.ref b2), .val (.ref b9), .val (.ref b20), .val (.ref b35), .val (.long (b + ((3 : Int32).toInt64))), .second, .val (.long (nn + (1 : Int64))), .second] [(.long (b + ((3 : Int32).toInt64))), (.long (nn + (1 : Int64)))]))
        refine own_st (fun _ k' => XS.lcmp X244.here hx rfl (hb hby at_257) rfl k') ?_
        show own_Go p.tables e below _ (T244.setTop (mkF m 258 #[.val (.long base), .second, .val (.long raw), .second, .val (.int delta), .val (.int count), .val (.int mode), .val (.long b), .second, .val (.int (3 : Int32)), .val (.long nn), .second, .val (.ref ms), .val (.ref b2), .val (.ref b9), .val (.ref b20), .val (.ref b35), .val (.long (b + ((3 : Int32).toInt64))), .second, .val (.long (nn + (1 : Int64))), .second] [(.int (lcmpW (nn + (1 : Int64)) (b + ((3 : Int32).toInt64))))]))
        refine own_st (fun _ k' => XS.ifNo X244.here hx rfl (hb hby at_258) rfl ((if0 _ _).trans (flt (mt (lw_gt (nn + (1 : Int64)) (b + ((3 : Int32).toInt64))).mp (by have := hbb; have := rng64 nn; have := rng64 b; have := (by decide : (1 : Int64).toInt = 1); have := c_ladd b (1 : Int64); have := rng64 (b + (1 : Int64)); have := c_ladd (b + (1 : Int64)) (1 : Int64); have := rng64 ((b + (1 : Int64)) + (1 : Int64)); have := (by decide : ((3 : Int32).toInt64).toInt = 3); have := c_ladd b (3 : Int32).toInt64; have := rng64 (b + (3 : Int32).toInt64); have := c_ladd nn (1 : Int64); have := rng64 (nn + (1 : Int64)); have := (Int64.lt_iff_toInt_lt).mp hd1_0; have := mt (Int64.lt_iff_toInt_lt).mpr hd1_1; refine mt (Int64.lt_iff_toInt_lt).mp ?_; omega : ¬ (b + ((3 : Int32).toInt64)) < (nn + (1 : Int64))))).2.2.1) k') ?_
        show own_Go p.tables e below _ (T244.setTop (mkF m 261 #[.val (.long base), .second, .val (.long raw), .second, .val (.int delta), .val (.int count), .val (.int mode), .val (.long b), .second, .val (.int (3 : Int32)), .val (.long nn), .second, .val (.ref ms), .val (.ref b2), .val (.ref b9), .val (.ref b20), .val (.ref b35), .val (.long (b + ((3 : Int32).toInt64))), .second, .val (.long (nn + (1 : Int64))), .second] []))
        refine own_st (fun _ k' => XS.aload X244.here hx rfl (hb hby at_261) rfl rfl k') ?_
        show own_Go p.tables e below _ (T244.setTop (mkF m 263 #[.val (.long base), .second, .val (.long raw), .second, .val (.int delta), .val (.int count), .val (.int mode), .val (.long b), .second, .val (.int (3 : Int32)), .val (.long nn), .second, .val (.ref ms), .val (.ref b2), .val (.ref b9), .val (.ref b20), .val (.ref b35), .val (.long (b + ((3 : Int32).toInt64))), .second, .val (.long (nn + (1 : Int64))), .second] [(.ref b35)]))
        refine own_st (fun _ k' => XS.lload X244.here hx rfl (hb hby at_263) rfl k') ?_
        show own_Go p.tables e below _ (T244.setTop (mkF m 265 #[.val (.long base), .second, .val (.long raw), .second, .val (.int delta), .val (.int count), .val (.int mode), .val (.long b), .second, .val (.int (3 : Int32)), .val (.long nn), .second, .val (.ref ms), .val (.ref b2), .val (.ref b9), .val (.ref b20), .val (.ref b35), .val (.long (b + ((3 : Int32).toInt64))), .second, .val (.long (nn + (1 : Int64))), .second] [(.long (nn + (1 : Int64))), (.ref b35)]))
        have hdx245 : (((1 : Int32).toInt64 + (nn + (1 : Int64))) - ((b + (1 : Int64)) + (1 : Int64))) = (1 : Int64) := (by have := hbb; have := rng64 nn; have := rng64 b; have := (by decide : (1 : Int64).toInt = 1); have := c_ladd b (1 : Int64); have := rng64 (b + (1 : Int64)); have := c_ladd (b + (1 : Int64)) (1 : Int64); have := rng64 ((b + (1 : Int64)) + (1 : Int64)); have := (by decide : ((1 : Int32).toInt64).toInt = 1); have := c_ladd nn (1 : Int64); have := rng64 (nn + (1 : Int64)); have := c_ladd (1 : Int32).toInt64 (nn + (1 : Int64)); have := rng64 ((1 : Int32).toInt64 + (nn + (1 : Int64))); have := c_lsub ((1 : Int32).toInt64 + (nn + (1 : Int64))) ((b + (1 : Int64)) + (1 : Int64)); have := rng64 (((1 : Int32).toInt64 + (nn + (1 : Int64))) - ((b + (1 : Int64)) + (1 : Int64))); have := (Int64.lt_iff_toInt_lt).mp hd1_0; have := mt (Int64.lt_iff_toInt_lt).mpr hd1_1; refine (Int64.toInt_inj.symm).mpr ?_; omega : (((1 : Int32).toInt64 + (nn + (1 : Int64))) - ((b + (1 : Int64)) + (1 : Int64))) = (1 : Int64))
        obtain ⟨cq246, kq246, q246a, q246b, q246c⟩ := isOf hZ e244 Ea220
        obtain ⟨_, _, ⟨T246, L246, k246, n246⟩, -, X246, ⟨Lc246, hQ246, l246, y246, z246⟩, st246⟩ := X244.virtualBack hx (y := (⟨"com/example/penumbra/penumbra/order/SequenceLog", "get", "(J)Lcom/example/penumbra/penumbra/order/SequenceLog$Entry;"⟩ : MethodName)) (z := (⟨"com/example/penumbra/penumbra/order/SequenceLog", "get", "(J)Lcom/example/penumbra/penumbra/order/SequenceLog$Entry;"⟩ : MethodName)) hown (mvT hZ (hw _ (List.mem_of_getElem? (i := 79) rfl))) (mvT hZ (hw _ (List.mem_of_getElem? (i := 80) rfl))) (notFace_of_selects (args := #[]) (mvT hZ (hw _ (List.mem_of_getElem? (i := 82) rfl)))) (mvT hZ (hw _ (List.mem_of_getElem? (i := 82) rfl))) (mvT hZ (hw _ (List.mem_of_getElem? (i := 81) rfl))) (by decide) (backOf (W := 0) (rmG l Z a0 hw [] b35 (nn + (1 : Int64)) ((b + (1 : Int64)) + (1 : Int64)) (1 : Int32) (2 : Int32) rg kk .null (.ref b9) (.ref b20) (1 : Int32) b9 T220.heap n0 Zc220 Ea220 Fa_ring220 Fa_first220 Fa_head220 Fa_size220 Va220 OV (by have := hbb; have := rng64 nn; have := rng64 b; have := (by decide : (1 : Int64).toInt = 1); have := c_ladd b (1 : Int64); have := rng64 (b + (1 : Int64)); have := c_ladd (b + (1 : Int64)) (1 : Int64); have := rng64 ((b + (1 : Int64)) + (1 : Int64)); have := c_ladd nn (1 : Int64); have := rng64 (nn + (1 : Int64)); have := (Int64.lt_iff_toInt_lt).mp hd1_0; have := mt (Int64.lt_iff_toInt_lt).mpr hd1_1; refine mt (Int64.lt_iff_toInt_lt).mp ?_; omega : ¬ (nn + (1 : Int64)) < ((b + (1 : Int64)) + (1 : Int64))) (by have := hbb; have := rng64 nn; have := rng64 b; have := (by decide : (1 : Int64).toInt = 1); have := c_ladd b (1 : Int64); have := rng64 (b + (1 : Int64)); have := c_ladd (b + (1 : Int64)) (1 : Int64); have := rng64 ((b + (1 : Int64)) + (1 : Int64)); have := (by decide : ((2 : Int32).toInt64).toInt = 2); have := c_ladd ((b + (1 : Int64)) + (1 : Int64)) (2 : Int32).toInt64; have := rng64 (((b + (1 : Int64)) + (1 : Int64)) + (2 : Int32).toInt64); have := c_lsub (((b + (1 : Int64)) + (1 : Int64)) + (2 : Int32).toInt64) (1 : Int64); have := rng64 ((((b + (1 : Int64)) + (1 : Int64)) + (2 : Int32).toInt64) - (1 : Int64)); have := c_ladd nn (1 : Int64); have := rng64 (nn + (1 : Int64)); have := (Int64.lt_iff_toInt_lt).mp hd1_0; have := mt (Int64.lt_iff_toInt_lt).mpr hd1_1; refine mt (Int64.lt_iff_toInt_lt).mp ?_; omega : ¬ ((((b + (1 : Int64)) + (1 : Int64)) + ((2 : Int32).toInt64)) - (1 : Int64)) < (nn + (1 : Int64))) (by rw [hdx245]; decide) (by decide) (by decide) rfl) hZ (hw _ (List.mem_of_getElem? (i := 83) rfl)) (hw _ (List.mem_of_getElem? (i := 28) rfl)) (by decide) (by decide)) q246a q246c (g := (mkF m 265 #[.val (.long base), .second, .val (.long raw), .second, .val (.int delta), .val (.int count), .val (.int mode), .val (.long b), .second, .val (.int (3 : Int32)), .val (.long nn), .second, .val (.ref ms), .val (.ref b2), .val (.ref b9), .val (.ref b20), .val (.ref b35), .val (.long (b + ((3 : Int32).toInt64))), .second, .val (.long (nn + (1 : Int64))), .second] [(.long (nn + (1 : Int64))), (.ref b35)])) rfl (by rw [hml]; rfl) (Steps.refl _) (argsL := [(.long (nn + (1 : Int64)))]) (rest := []) (lenOf pd__J_Lcom_example_penumbra_penumbra_order_SequenceLog_Entry_ rfl) rfl (by show 2 * 0 + _ ≤ _; exact Nat.le_of_eq rfl) (hb hby at_265) (fun _ _ => ⟨rfl, e244, (by decide : 6 + 0 ≤ _), (by decide : 1040 + 0 ≤ _)⟩)
        dsimp only [Pt.U, Pt.locs, Pt.cells, Pt.slots] at X246 l246 y246 z246 st246 hQ246
        subst l246 y246 z246
        obtain ⟨rfl, Nq246, e246⟩ := hQ246
        have N246 := Fr.app N244 Nq246
        refine own_tr st246 ?_
        show own_Go p.tables e below _ (T246.setTop (mkF m 268 #[.val (.long base), .second, .val (.long raw), .second, .val (.int delta), .val (.int count), .val (.int mode), .val (.long b), .second, .val (.int (3 : Int32)), .val (.long nn), .second, .val (.ref ms), .val (.ref b2), .val (.ref b9), .val (.ref b20), .val (.ref b35), .val (.long (b + ((3 : Int32).toInt64))), .second, .val (.long (nn + (1 : Int64))), .second] [(.ref b9)]))
        refine own_st (fun _ k' => XS.lload X246.here hx rfl (hb hby at_268) rfl k') ?_
        show own_Go p.tables e below _ (T246.setTop (mkF m 270 #[.val (.long base), .second, .val (.long raw), .second, .val (.int delta), .val (.int count), .val (.int mode), .val (.long b), .second, .val (.int (3 : Int32)), .val (.long nn), .second, .val (.ref ms), .val (.ref b2), .val (.ref b9), .val (.ref b20), .val (.ref b35), .val (.long (b + ((3 : Int32).toInt64))), .second, .val (.long (nn + (1 : Int64))), .second] [(.long (nn + (1 : Int64))), (.ref b9)]))
        refine own_st (fun _ k' => XS.lload X246.here hx rfl (hb hby at_270) rfl k') ?_
        show own_Go p.tables e below _ (T246.setTop (mkF m 272 #[.val (.long base), .second, .val (.long raw), .second, .val (.int delta), .val (.int count), .val (.int mode), .val (.long b), .second, .val (.int (3 : Int32)), .val (.long nn), .second, .val (.ref ms), .val (.ref b2), .val (.ref b9), .val (.ref b20), .val (.ref b35), .val (.long (b + ((3 : Int32).toInt64))), .second, .val (.long (nn + (1 : Int64))), .second] [(.long b), (.long (nn + (1 : Int64))), (.ref b9)]))
        refine own_st (fun _ k' => XS.lsub X246.here hx rfl (hb hby at_272) rfl k') ?_
        show own_Go p.tables e below _ (T246.setTop (mkF m 273 #[.val (.long base), .second, .val (.long raw), .second, .val (.int delta), .val (.int count), .val (.int mode), .val (.long b), .second, .val (.int (3 : Int32)), .val (.long nn), .second, .val (.ref ms), .val (.ref b2), .val (.ref b9), .val (.ref b20), .val (.ref b35), .val (.long (b + ((3 : Int32).toInt64))), .second, .val (.long (nn + (1 : Int64))), .second] [(.long ((nn + (1 : Int64)) - b)), (.ref b9)]))
        refine own_st (fun _ k' => XS.aload X246.here hx rfl (hb hby at_273) rfl rfl k') ?_
        show own_Go p.tables e below _ (T246.setTop (mkF m 275 #[.val (.long base), .second, .val (.long raw), .second, .val (.int delta), .val (.int count), .val (.int mode), .val (.long b), .second, .val (.int (3 : Int32)), .val (.long nn), .second, .val (.ref ms), .val (.ref b2), .val (.ref b9), .val (.ref b20), .val (.ref b35), .val (.long (b + ((3 : Int32).toInt64))), .second, .val (.long (nn + (1 : Int64))), .second] [(.ref b2), (.long ((nn + (1 : Int64)) - b)), (.ref b9)]))
        refine own_st (fun _ k' => XS.aload X246.here hx rfl (hb hby at_275) rfl rfl k') ?_
        show own_Go p.tables e below _ (T246.setTop (mkF m 277 #[.val (.long base), .second, .val (.long raw), .second, .val (.int delta), .val (.int count), .val (.int mode), .val (.long b), .second, .val (.int (3 : Int32)), .val (.long nn), .second, .val (.ref ms), .val (.ref b2), .val (.ref b9), .val (.ref b20), .val (.ref b35), .val (.long (b + ((3 : Int32).toInt64))), .second, .val (.long (nn + (1 : Int64))), .second] [(.ref b9), (.ref b2), (.long ((nn + (1 : Int64)) - b)), (.ref b9)]))
        refine own_st (fun _ k' => XS.aload X246.here hx rfl (hb hby at_277) rfl rfl k') ?_
        show own_Go p.tables e below _ (T246.setTop (mkF m 279 #[.val (.long base), .second, .val (.long raw), .second, .val (.int delta), .val (.int count), .val (.int mode), .val (.long b), .second, .val (.int (3 : Int32)), .val (.long nn), .second, .val (.ref ms), .val (.ref b2), .val (.ref b9), .val (.ref b20), .val (.ref b35), .val (.long (b + ((3 : Int32).toInt64))), .second, .val (.long (nn + (1 : Int64))), .second] [(.ref b20), (.ref b9), (.ref b2), (.long ((nn + (1 : Int64)) - b)), (.ref b9)]))
        have hpk247 : own_pk ((nn + (1 : Int64)) - b) b2 b9 b20 = b9 := by
          have e : ((nn + (1 : Int64)) - b) = (2 : Int64) := (by have := hbb; have := rng64 nn; have := rng64 b; have := (by decide : (1 : Int64).toInt = 1); have := c_ladd b (1 : Int64); have := rng64 (b + (1 : Int64)); have := c_ladd (b + (1 : Int64)) (1 : Int64); have := rng64 ((b + (1 : Int64)) + (1 : Int64)); have := c_ladd nn (1 : Int64); have := rng64 (nn + (1 : Int64)); have := c_lsub (nn + (1 : Int64)) b; have := rng64 ((nn + (1 : Int64)) - b); have := (by decide : (2 : Int64).toInt = 2); have := (Int64.lt_iff_toInt_lt).mp hd1_0; have := mt (Int64.lt_iff_toInt_lt).mpr hd1_1; refine (Int64.toInt_inj.symm).mpr ?_; omega : ((nn + (1 : Int64)) - b) = (2 : Int64))
          rw [e]; rfl
        obtain ⟨_, _, ⟨T248, L248, k248, n248⟩, -, X248, ⟨Lc248, hQ248, l248, y248, z248⟩, st248⟩ := Jvm.LawKit.callS X246 hx (y := (⟨"com/example/penumbra/penumbra/order/SequenceLogDropUpToPinLaw", "pick", "(JLcom/example/penumbra/penumbra/order/SequenceLog$Entry;Lcom/example/penumbra/penumbra/order/SequenceLog$Entry;Lcom/example/penumbra/penumbra/order/SequenceLog$Entry;)Lcom/example/penumbra/penumbra/order/SequenceLog$Entry;"⟩ : MethodName)) hown (mvT hZ (hw _ (List.mem_of_getElem? (i := 84) rfl))) (mvT hZ (hw _ (List.mem_of_getElem? (i := 85) rfl))) (mvT hZ (hw _ (List.mem_of_getElem? (i := 86) rfl))) (mvT hZ (hw _ (List.mem_of_getElem? (i := 87) rfl))) (by decide) (backOf (W := 1) (rmK l Z a0 hw [] ((nn + (1 : Int64)) - b) b2 b9 b20 T220.heap n0 Zc220 ) hZ (hw _ (List.mem_of_getElem? (i := 87) rfl)) (hw _ (List.mem_of_getElem? (i := 86) rfl)) (by decide) (by decide)) (g := (mkF m 279 #[.val (.long base), .second, .val (.long raw), .second, .val (.int delta), .val (.int count), .val (.int mode), .val (.long b), .second, .val (.int (3 : Int32)), .val (.long nn), .second, .val (.ref ms), .val (.ref b2), .val (.ref b9), .val (.ref b20), .val (.ref b35), .val (.long (b + ((3 : Int32).toInt64))), .second, .val (.long (nn + (1 : Int64))), .second] [(.ref b20), (.ref b9), (.ref b2), (.long ((nn + (1 : Int64)) - b)), (.ref b9)])) rfl (by rw [hml]; rfl) (argsL := [(.long ((nn + (1 : Int64)) - b)), (.ref b2), (.ref b9), (.ref b20)]) (rest := [(.ref b9)]) (lenOf pd__JLcom_example_penumbra_penumbra_order_SequenceLog_Entry_Lcom_example_penumbra_penumbra_order_SequenceLog_Entry_Lcom_example_penumbra_penumbra_order_SequenceLog_Entry__Lcom_example_penumbra_penumbra_order_SequenceLog_Entry_ rfl) rfl (by show 2 * 0 + _ ≤ _; exact Nat.le_of_eq rfl) (hb hby at_279) (fun _ _ => ⟨rfl, e246, (by decide : 6 + 0 ≤ _), (by decide : 1040 + 0 ≤ _)⟩)
        dsimp only [Pt.U, Pt.locs, Pt.cells, Pt.slots] at X248 l248 y248 z248 st248 hQ248
        subst l248 y248 z248
        rw [Q_rmK, hpk247] at hQ248
        obtain ⟨rfl, Nq248, e248⟩ := hQ248
        have N248 := Fr.app N246 Nq248
        refine own_st st248 ?_
        show own_Go p.tables e below _ (T248.setTop (mkF m 282 #[.val (.long base), .second, .val (.long raw), .second, .val (.int delta), .val (.int count), .val (.int mode), .val (.long b), .second, .val (.int (3 : Int32)), .val (.long nn), .second, .val (.ref ms), .val (.ref b2), .val (.ref b9), .val (.ref b20), .val (.ref b35), .val (.long (b + ((3 : Int32).toInt64))), .second, .val (.long (nn + (1 : Int64))), .second] [(.ref b9), (.ref b9)]))
        refine own_st (fun _ k' => Jvm.RoadKit.acmp (g := (mkF m 282 #[.val (.long base), .second, .val (.long raw), .second, .val (.int delta), .val (.int count), .val (.int mode), .val (.long b), .second, .val (.int (3 : Int32)), .val (.long nn), .second, .val (.ref ms), .val (.ref b2), .val (.ref b9), .val (.ref b20), .val (.ref b35), .val (.long (b + ((3 : Int32).toInt64))), .second, .val (.long (nn + (1 : Int64))), .second] [(.ref b9), (.ref b9)])) X248 hx rfl rfl rfl (pc0 := 282) (pc' := 287) (same := true) rfl (hb hby at_282) rfl (decide_eq_true rfl) (by decide) (by decide) k') ?_
        show own_Go p.tables e below _ (T248.setTop (mkF m 287 #[.val (.long base), .second, .val (.long raw), .second, .val (.int delta), .val (.int count), .val (.int mode), .val (.long b), .second, .val (.int (3 : Int32)), .val (.long nn), .second, .val (.ref ms), .val (.ref b2), .val (.ref b9), .val (.ref b20), .val (.ref b35), .val (.long (b + ((3 : Int32).toInt64))), .second, .val (.long (nn + (1 : Int64))), .second] []))
        refine own_st (fun _ k' => XS.aload X248.here hx rfl (hb hby at_287) rfl rfl k') ?_
        show own_Go p.tables e below _ (T248.setTop (mkF m 289 #[.val (.long base), .second, .val (.long raw), .second, .val (.int delta), .val (.int count), .val (.int mode), .val (.long b), .second, .val (.int (3 : Int32)), .val (.long nn), .second, .val (.ref ms), .val (.ref b2), .val (.ref b9), .val (.ref b20), .val (.ref b35), .val (.long (b + ((3 : Int32).toInt64))), .second, .val (.long (nn + (1 : Int64))), .second] [(.ref b35)]))
        refine own_st (fun _ k' => XS.lload X248.here hx rfl (hb hby at_289) rfl k') ?_
        show own_Go p.tables e below _ (T248.setTop (mkF m 291 #[.val (.long base), .second, .val (.long raw), .second, .val (.int delta), .val (.int count), .val (.int mode), .val (.long b), .second, .val (.int (3 : Int32)), .val (.long nn), .second, .val (.ref ms), .val (.ref b2), .val (.ref b9), .val (.ref b20), .val (.ref b35), .val (.long (b + ((3 : Int32).toInt64))), .second, .val (.long (nn + (1 : Int64))), .second] [(.long (b + ((3 : Int32).toInt64))), (.ref b35)]))
        have hdx249 : (((1 : Int32).toInt64 + (b + ((3 : Int32).toInt64))) - ((b + (1 : Int64)) + (1 : Int64))) = (2 : Int64) := (by have := hbb; have := rng64 nn; have := rng64 b; have := (by decide : (1 : Int64).toInt = 1); have := c_ladd b (1 : Int64); have := rng64 (b + (1 : Int64)); have := c_ladd (b + (1 : Int64)) (1 : Int64); have := rng64 ((b + (1 : Int64)) + (1 : Int64)); have := (by decide : ((1 : Int32).toInt64).toInt = 1); have := (by decide : ((3 : Int32).toInt64).toInt = 3); have := c_ladd b (3 : Int32).toInt64; have := rng64 (b + (3 : Int32).toInt64); have := c_ladd (1 : Int32).toInt64 (b + (3 : Int32).toInt64); have := rng64 ((1 : Int32).toInt64 + (b + (3 : Int32).toInt64)); have := c_lsub ((1 : Int32).toInt64 + (b + (3 : Int32).toInt64)) ((b + (1 : Int64)) + (1 : Int64)); have := rng64 (((1 : Int32).toInt64 + (b + (3 : Int32).toInt64)) - ((b + (1 : Int64)) + (1 : Int64))); have := (by decide : (2 : Int64).toInt = 2); have := (Int64.lt_iff_toInt_lt).mp hd1_0; have := mt (Int64.lt_iff_toInt_lt).mpr hd1_1; refine (Int64.toInt_inj.symm).mpr ?_; omega : (((1 : Int32).toInt64 + (b + ((3 : Int32).toInt64))) - ((b + (1 : Int64)) + (1 : Int64))) = (2 : Int64))
        obtain ⟨cq250, kq250, q250a, q250b, q250c⟩ := isOf hZ e248 Ea220
        obtain ⟨_, _, ⟨T250, L250, k250, n250⟩, -, X250, ⟨Lc250, hQ250, l250, y250, z250⟩, st250⟩ := X248.virtualBack hx (y := (⟨"com/example/penumbra/penumbra/order/SequenceLog", "get", "(J)Lcom/example/penumbra/penumbra/order/SequenceLog$Entry;"⟩ : MethodName)) (z := (⟨"com/example/penumbra/penumbra/order/SequenceLog", "get", "(J)Lcom/example/penumbra/penumbra/order/SequenceLog$Entry;"⟩ : MethodName)) hown (mvT hZ (hw _ (List.mem_of_getElem? (i := 79) rfl))) (mvT hZ (hw _ (List.mem_of_getElem? (i := 80) rfl))) (notFace_of_selects (args := #[]) (mvT hZ (hw _ (List.mem_of_getElem? (i := 82) rfl)))) (mvT hZ (hw _ (List.mem_of_getElem? (i := 82) rfl))) (mvT hZ (hw _ (List.mem_of_getElem? (i := 81) rfl))) (by decide) (backOf (W := 0) (rmG l Z a0 hw [] b35 (b + ((3 : Int32).toInt64)) ((b + (1 : Int64)) + (1 : Int64)) (1 : Int32) (2 : Int32) rg kk .null (.ref b9) (.ref b20) (2 : Int32) b20 T220.heap n0 Zc220 Ea220 Fa_ring220 Fa_first220 Fa_head220 Fa_size220 Va220 OV (by have := hbb; have := rng64 nn; have := rng64 b; have := (by decide : (1 : Int64).toInt = 1); have := c_ladd b (1 : Int64); have := rng64 (b + (1 : Int64)); have := c_ladd (b + (1 : Int64)) (1 : Int64); have := rng64 ((b + (1 : Int64)) + (1 : Int64)); have := (by decide : ((3 : Int32).toInt64).toInt = 3); have := c_ladd b (3 : Int32).toInt64; have := rng64 (b + (3 : Int32).toInt64); have := (Int64.lt_iff_toInt_lt).mp hd1_0; have := mt (Int64.lt_iff_toInt_lt).mpr hd1_1; refine mt (Int64.lt_iff_toInt_lt).mp ?_; omega : ¬ (b + ((3 : Int32).toInt64)) < ((b + (1 : Int64)) + (1 : Int64))) (by have := hbb; have := rng64 nn; have := rng64 b; have := (by decide : (1 : Int64).toInt = 1); have := c_ladd b (1 : Int64); have := rng64 (b + (1 : Int64)); have := c_ladd (b + (1 : Int64)) (1 : Int64); have := rng64 ((b + (1 : Int64)) + (1 : Int64)); have := (by decide : ((2 : Int32).toInt64).toInt = 2); have := c_ladd ((b + (1 : Int64)) + (1 : Int64)) (2 : Int32).toInt64; have := rng64 (((b + (1 : Int64)) + (1 : Int64)) + (2 : Int32).toInt64); have := c_lsub (((b + (1 : Int64)) + (1 : Int64)) + (2 : Int32).toInt64) (1 : Int64); have := rng64 ((((b + (1 : Int64)) + (1 : Int64)) + (2 : Int32).toInt64) - (1 : Int64)); have := (by decide : ((3 : Int32).toInt64).toInt = 3); have := c_ladd b (3 : Int32).toInt64; have := rng64 (b + (3 : Int32).toInt64); have := (Int64.lt_iff_toInt_lt).mp hd1_0; have := mt (Int64.lt_iff_toInt_lt).mpr hd1_1; refine mt (Int64.lt_iff_toInt_lt).mp ?_; omega : ¬ ((((b + (1 : Int64)) + (1 : Int64)) + ((2 : Int32).toInt64)) - (1 : Int64)) < (b + ((3 : Int32).toInt64))) (by rw [hdx249]; decide) (by decide) (by decide) rfl) hZ (hw _ (List.mem_of_getElem? (i := 83) rfl)) (hw _ (List.mem_of_getElem? (i := 28) rfl)) (by decide) (by decide)) q250a q250c (g := (mkF m 291 #[.val (.long base), .second, .val (.long raw), .second, .val (.int delta), .val (.int count), .val (.int mode), .val (.long b), .second, .val (.int (3 : Int32)), .val (.long nn), .second, .val (.ref ms), .val (.ref b2), .val (.ref b9), .val (.ref b20), .val (.ref b35), .val (.long (b + ((3 : Int32).toInt64))), .second, .val (.long (nn + (1 : Int64))), .second] [(.long (b + ((3 : Int32).toInt64))), (.ref b35)])) rfl (by rw [hml]; rfl) (Steps.refl _) (argsL := [(.long (b + ((3 : Int32).toInt64)))]) (rest := []) (lenOf pd__J_Lcom_example_penumbra_penumbra_order_SequenceLog_Entry_ rfl) rfl (by show 2 * 0 + _ ≤ _; exact Nat.le_of_eq rfl) (hb hby at_291) (fun _ _ => ⟨rfl, e248, (by decide : 6 + 0 ≤ _), (by decide : 1040 + 0 ≤ _)⟩)
        dsimp only [Pt.U, Pt.locs, Pt.cells, Pt.slots] at X250 l250 y250 z250 st250 hQ250
        subst l250 y250 z250
        obtain ⟨rfl, Nq250, e250⟩ := hQ250
        have N250 := Fr.app N248 Nq250
        refine own_tr st250 ?_
        show own_Go p.tables e below _ (T250.setTop (mkF m 294 #[.val (.long base), .second, .val (.long raw), .second, .val (.int delta), .val (.int count), .val (.int mode), .val (.long b), .second, .val (.int (3 : Int32)), .val (.long nn), .second, .val (.ref ms), .val (.ref b2), .val (.ref b9), .val (.ref b20), .val (.ref b35), .val (.long (b + ((3 : Int32).toInt64))), .second, .val (.long (nn + (1 : Int64))), .second] [(.ref b20)]))
        refine own_st (fun _ k' => XS.iload X250.here hx rfl (hb hby at_294) rfl k') ?_
        show own_Go p.tables e below _ (T250.setTop (mkF m 296 #[.val (.long base), .second, .val (.long raw), .second, .val (.int delta), .val (.int count), .val (.int mode), .val (.long b), .second, .val (.int (3 : Int32)), .val (.long nn), .second, .val (.ref ms), .val (.ref b2), .val (.ref b9), .val (.ref b20), .val (.ref b35), .val (.long (b + ((3 : Int32).toInt64))), .second, .val (.long (nn + (1 : Int64))), .second] [(.int (3 : Int32)), (.ref b20)]))
        refine own_st (fun _ k' => XS.i2l X250.here hx rfl (hb hby at_296) rfl k') ?_
        show own_Go p.tables e below _ (T250.setTop (mkF m 297 #[.val (.long base), .second, .val (.long raw), .second, .val (.int delta), .val (.int count), .val (.int mode), .val (.long b), .second, .val (.int (3 : Int32)), .val (.long nn), .second, .val (.ref ms), .val (.ref b2), .val (.ref b9), .val (.ref b20), .val (.ref b35), .val (.long (b + ((3 : Int32).toInt64))), .second, .val (.long (nn + (1 : Int64))), .second] [(.long ((3 : Int32).toInt64)), (.ref b20)]))
        refine own_st (fun _ k' => XS.aload X250.here hx rfl (hb hby at_297) rfl rfl k') ?_
        show own_Go p.tables e below _ (T250.setTop (mkF m 299 #[.val (.long base), .second, .val (.long raw), .second, .val (.int delta), .val (.int count), .val (.int mode), .val (.long b), .second, .val (.int (3 : Int32)), .val (.long nn), .second, .val (.ref ms), .val (.ref b2), .val (.ref b9), .val (.ref b20), .val (.ref b35), .val (.long (b + ((3 : Int32).toInt64))), .second, .val (.long (nn + (1 : Int64))), .second] [(.ref b2), (.long ((3 : Int32).toInt64)), (.ref b20)]))
        refine own_st (fun _ k' => XS.aload X250.here hx rfl (hb hby at_299) rfl rfl k') ?_
        show own_Go p.tables e below _ (T250.setTop (mkF m 301 #[.val (.long base), .second, .val (.long raw), .second, .val (.int delta), .val (.int count), .val (.int mode), .val (.long b), .second, .val (.int (3 : Int32)), .val (.long nn), .second, .val (.ref ms), .val (.ref b2), .val (.ref b9), .val (.ref b20), .val (.ref b35), .val (.long (b + ((3 : Int32).toInt64))), .second, .val (.long (nn + (1 : Int64))), .second] [(.ref b9), (.ref b2), (.long ((3 : Int32).toInt64)), (.ref b20)]))
        refine own_st (fun _ k' => XS.aload X250.here hx rfl (hb hby at_301) rfl rfl k') ?_
        show own_Go p.tables e below _ (T250.setTop (mkF m 303 #[.val (.long base), .second, .val (.long raw), .second, .val (.int delta), .val (.int count), .val (.int mode), .val (.long b), .second, .val (.int (3 : Int32)), .val (.long nn), .second, .val (.ref ms), .val (.ref b2), .val (.ref b9), .val (.ref b20), .val (.ref b35), .val (.long (b + ((3 : Int32).toInt64))), .second, .val (.long (nn + (1 : Int64))), .second] [(.ref b20), (.ref b9), (.ref b2), (.long ((3 : Int32).toInt64)), (.ref b20)]))
        have hpk251 : own_pk ((3 : Int32).toInt64) b2 b9 b20 = b20 := by
          have e : ((3 : Int32).toInt64) = (3 : Int64) := (by have := hbb; have := rng64 nn; have := rng64 b; have := (by decide : (1 : Int64).toInt = 1); have := c_ladd b (1 : Int64); have := rng64 (b + (1 : Int64)); have := c_ladd (b + (1 : Int64)) (1 : Int64); have := rng64 ((b + (1 : Int64)) + (1 : Int64)); have := (by decide : ((3 : Int32).toInt64).toInt = 3); have := (by decide : (3 : Int64).toInt = 3); have := (Int64.lt_iff_toInt_lt).mp hd1_0; have := mt (Int64.lt_iff_toInt_lt).mpr hd1_1; refine (Int64.toInt_inj.symm).mpr ?_; omega : ((3 : Int32).toInt64) = (3 : Int64))
          rw [e]; rfl
        obtain ⟨_, _, ⟨T252, L252, k252, n252⟩, -, X252, ⟨Lc252, hQ252, l252, y252, z252⟩, st252⟩ := Jvm.LawKit.callS X250 hx (y := (⟨"com/example/penumbra/penumbra/order/SequenceLogDropUpToPinLaw", "pick", "(JLcom/example/penumbra/penumbra/order/SequenceLog$Entry;Lcom/example/penumbra/penumbra/order/SequenceLog$Entry;Lcom/example/penumbra/penumbra/order/SequenceLog$Entry;)Lcom/example/penumbra/penumbra/order/SequenceLog$Entry;"⟩ : MethodName)) hown (mvT hZ (hw _ (List.mem_of_getElem? (i := 84) rfl))) (mvT hZ (hw _ (List.mem_of_getElem? (i := 85) rfl))) (mvT hZ (hw _ (List.mem_of_getElem? (i := 86) rfl))) (mvT hZ (hw _ (List.mem_of_getElem? (i := 87) rfl))) (by decide) (backOf (W := 1) (rmK l Z a0 hw [] ((3 : Int32).toInt64) b2 b9 b20 T220.heap n0 Zc220 ) hZ (hw _ (List.mem_of_getElem? (i := 87) rfl)) (hw _ (List.mem_of_getElem? (i := 86) rfl)) (by decide) (by decide)) (g := (mkF m 303 #[.val (.long base), .second, .val (.long raw), .second, .val (.int delta), .val (.int count), .val (.int mode), .val (.long b), .second, .val (.int (3 : Int32)), .val (.long nn), .second, .val (.ref ms), .val (.ref b2), .val (.ref b9), .val (.ref b20), .val (.ref b35), .val (.long (b + ((3 : Int32).toInt64))), .second, .val (.long (nn + (1 : Int64))), .second] [(.ref b20), (.ref b9), (.ref b2), (.long ((3 : Int32).toInt64)), (.ref b20)])) rfl (by rw [hml]; rfl) (argsL := [(.long ((3 : Int32).toInt64)), (.ref b2), (.ref b9), (.ref b20)]) (rest := [(.ref b20)]) (lenOf pd__JLcom_example_penumbra_penumbra_order_SequenceLog_Entry_Lcom_example_penumbra_penumbra_order_SequenceLog_Entry_Lcom_example_penumbra_penumbra_order_SequenceLog_Entry__Lcom_example_penumbra_penumbra_order_SequenceLog_Entry_ rfl) rfl (by show 2 * 0 + _ ≤ _; exact Nat.le_of_eq rfl) (hb hby at_303) (fun _ _ => ⟨rfl, e250, (by decide : 6 + 0 ≤ _), (by decide : 1040 + 0 ≤ _)⟩)
        dsimp only [Pt.U, Pt.locs, Pt.cells, Pt.slots] at X252 l252 y252 z252 st252 hQ252
        subst l252 y252 z252
        rw [Q_rmK, hpk251] at hQ252
        obtain ⟨rfl, Nq252, e252⟩ := hQ252
        have N252 := Fr.app N250 Nq252
        refine own_st st252 ?_
        show own_Go p.tables e below _ (T252.setTop (mkF m 306 #[.val (.long base), .second, .val (.long raw), .second, .val (.int delta), .val (.int count), .val (.int mode), .val (.long b), .second, .val (.int (3 : Int32)), .val (.long nn), .second, .val (.ref ms), .val (.ref b2), .val (.ref b9), .val (.ref b20), .val (.ref b35), .val (.long (b + ((3 : Int32).toInt64))), .second, .val (.long (nn + (1 : Int64))), .second] [(.ref b20), (.ref b20)]))
        refine own_st (fun _ k' => Jvm.RoadKit.acmp (g := (mkF m 306 #[.val (.long base), .second, .val (.long raw), .second, .val (.int delta), .val (.int count), .val (.int mode), .val (.long b), .second, .val (.int (3 : Int32)), .val (.long nn), .second, .val (.ref ms), .val (.ref b2), .val (.ref b9), .val (.ref b20), .val (.ref b35), .val (.long (b + ((3 : Int32).toInt64))), .second, .val (.long (nn + (1 : Int64))), .second] [(.ref b20), (.ref b20)])) X252 hx rfl rfl rfl (pc0 := 306) (pc' := 311) (same := true) rfl (hb hby at_306) rfl (decide_eq_true rfl) (by decide) (by decide) k') ?_
        show own_Go p.tables e below _ (T252.setTop (mkF m 311 #[.val (.long base), .second, .val (.long raw), .second, .val (.int delta), .val (.int count), .val (.int mode), .val (.long b), .second, .val (.int (3 : Int32)), .val (.long nn), .second, .val (.ref ms), .val (.ref b2), .val (.ref b9), .val (.ref b20), .val (.ref b35), .val (.long (b + ((3 : Int32).toInt64))), .second, .val (.long (nn + (1 : Int64))), .second] []))
        refine own_st (fun _ k' => XS.iconst X252.here hx rfl (hb hby at_311) k') ?_
        show own_Go p.tables e below _ (T252.setTop (mkF m 312 #[.val (.long base), .second, .val (.long raw), .second, .val (.int delta), .val (.int count), .val (.int mode), .val (.long b), .second, .val (.int (3 : Int32)), .val (.long nn), .second, .val (.ref ms), .val (.ref b2), .val (.ref b9), .val (.ref b20), .val (.ref b35), .val (.long (b + ((3 : Int32).toInt64))), .second, .val (.long (nn + (1 : Int64))), .second] [(.int (1 : Int32))]))
        exact own_retN X252 hx (t := .boolean) Bd.returns (by simp) (hb hby at_312) Bd.notSynchronized ⟨rfl, N252⟩ (by decide) (by decide)
      ·  -- 2 dropped of 3
        refine own_tr st220 ?_
        show own_Go p.tables e below _ (T220.setTop (mkF m 165 #[.val (.long base), .second, .val (.long raw), .second, .val (.int delta), .val (.int count), .val (.int mode), .val (.long b), .second, .val (.int (3 : Int32)), .val (.long nn), .second, .val (.ref ms), .val (.ref b2), .val (.ref b9), .val (.ref b20), .val (.ref b35), .unset, .unset, .unset, .unset] []))
        refine own_st (fun _ k' => XS.lload X220.here hx rfl (hb hby at_165) rfl k') ?_
        show own_Go p.tables e below _ (T220.setTop (mkF m 167 #[.val (.long base), .second, .val (.long raw), .second, .val (.int delta), .val (.int count), .val (.int mode), .val (.long b), .second, .val (.int (3 : Int32)), .val (.long nn), .second, .val (.ref ms), .val (.ref b2), .val (.ref b9), .val (.ref b20), .val (.ref b35), .unset, .unset, .unset, .unset] [(.long b)]))
        refine own_st (fun _ k' => XS.iload X220.here hx rfl (hb hby at_167) rfl k') ?_
        show own_Go p.tables e below _ (T220.setTop (mkF m 169 #[.val (.long base), .second, .val (.long raw), .second, .val (.int delta), .val (.int count), .val (.int mode), .val (.long b), .second, .val (.int (3 : Int32)), .val (.long nn), .second, .val (.ref ms), .val (.ref b2), .val (.ref b9), .val (.ref b20), .val (.ref b35), .unset, .unset, .unset, .unset] [(.int (3 : Int32)), (.long b)]))
        refine own_st (fun _ k' => XS.i2l X220.here hx rfl (hb hby at_169) rfl k') ?_
        show own_Go p.tables e below _ (T220.setTop (mkF m 170 #[.val (.long base), .second, .val (.long raw), .second, .val (.int delta), .val (.int count), .val (.int mode), .val (.long b), .second, .val (.int (3 : Int32)), .val (.long nn), .second, .val (.ref ms), .val (.ref b2), .val (.ref b9), .val (.ref b20), .val (.ref b35), .unset, .unset, .unset, .unset] [(.long ((3 : Int32).toInt64)), (.long b)]))
        refine own_st (fun _ k' => XS.ladd X220.here hx rfl (hb hby at_170) rfl k') ?_
        show own_Go p.tables e below _ (T220.setTop (mkF m 171 #[.val (.long base), .second, .val (.long raw), .second, .val (.int delta), .val (.int count), .val (.int mode), .val (.long b), .second, .val (.int (3 : Int32)), .val (.long nn), .second, .val (.ref ms), .val (.ref b2), .val (.ref b9), .val (.ref b20), .val (.ref b35), .unset, .unset, .unset, .unset] [(.long (b + ((3 : Int32).toInt64)))]))
        refine own_st (fun _ k' => XS.lstore X220.here hx rfl (hb hby at_171) rfl (l' := #[.val (.long base), .second, .val (.long raw), .second, .val (.int delta), .val (.int count), .val (.int mode), .val (.long b), .second, .val (.int (3 : Int32)), .val (.long nn), .second, .val (.ref ms), .val (.ref b2), .val (.ref b9), .val (.ref b20), .val (.ref b35), .val (.long (b + ((3 : Int32).toInt64))), .second, .unset, .unset]) rfl k') ?_
        show own_Go p.tables e below _ (T220.setTop (mkF m 173 #[.val (.long base), .second, .val (.long raw), .second, .val (.int delta), .val (.int count), .val (.int mode), .val (.long b), .second, .val (.int (3 : Int32)), .val (.long nn), .second, .val (.ref ms), .val (.ref b2), .val (.ref b9), .val (.ref b20), .val (.ref b35), .val (.long (b + ((3 : Int32).toInt64))), .second, .unset, .unset] []))
        refine own_st (fun _ k' => XS.iload X220.here hx rfl (hb hby at_173) rfl k') ?_
        show own_Go p.tables e below _ (T220.setTop (mkF m 175 #[.val (.long base), .second, .val (.long raw), .second, .val (.int delta), .val (.int count), .val (.int mode), .val (.long b), .second, .val (.int (3 : Int32)), .val (.long nn), .second, .val (.ref ms), .val (.ref b2), .val (.ref b9), .val (.ref b20), .val (.ref b35), .val (.long (b + ((3 : Int32).toInt64))), .second, .unset, .unset] [(.int (3 : Int32))]))
        refine own_st (fun _ k' => XS.ifYes X220.here hx rfl (pc0 := 175) (pc' := 187) rfl (hb hby at_175) rfl ((if0 _ _).trans (feq (by decide : ¬ (3 : Int32) = (0 : Int32))).2) (by decide) (by decide) k') ?_
        show own_Go p.tables e below _ (T220.setTop (mkF m 187 #[.val (.long base), .second, .val (.long raw), .second, .val (.int delta), .val (.int count), .val (.int mode), .val (.long b), .second, .val (.int (3 : Int32)), .val (.long nn), .second, .val (.ref ms), .val (.ref b2), .val (.ref b9), .val (.ref b20), .val (.ref b35), .val (.long (b + ((3 : Int32).toInt64))), .second, .unset, .unset] []))
        refine own_st (fun _ k' => XS.lload X220.here hx rfl (hb hby at_187) rfl k') ?_
        show own_Go p.tables e below _ (T220.setTop (mkF m 189 #[.val (.long base), .second, .val (.long raw), .second, .val (.int delta), .val (.int count), .val (.int mode), .val (.long b), .second, .val (.int (3 : Int32)), .val (.long nn), .second, .val (.ref ms), .val (.ref b2), .val (.ref b9), .val (.ref b20), .val (.ref b35), .val (.long (b + ((3 : Int32).toInt64))), .second, .unset, .unset] [(.long nn)]))
        refine own_st (fun _ k' => XS.lload X220.here hx rfl (hb hby at_189) rfl k') ?_
        show own_Go p.tables e below _ (T220.setTop (mkF m 191 #[.val (.long base), .second, .val (.long raw), .second, .val (.int delta), .val (.int count), .val (.int mode), .val (.long b), .second, .val (.int (3 : Int32)), .val (.long nn), .second, .val (.ref ms), .val (.ref b2), .val (.ref b9), .val (.ref b20), .val (.ref b35), .val (.long (b + ((3 : Int32).toInt64))), .second, .unset, .unset] [(.long b), (.long nn)]))
        refine own_st (fun _ k' => XS.lcmp X220.here hx rfl (hb hby at_191) rfl k') ?_
        show own_Go p.tables e below _ (T220.setTop (mkF m 192 #[.val (.long base), .second, .val (.long raw), .second, .val (.int delta), .val (.int count), .val (.int mode), .val (.long b), .second, .val (.int (3 : Int32)), .val (.long nn), .second, .val (.ref ms), .val (.ref b2), .val (.ref b9), .val (.ref b20), .val (.ref b35), .val (.long (b + ((3 : Int32).toInt64))), .second, .unset, .unset] [(.int (lcmpW nn b))]))
        refine own_st (fun _ k' => XS.ifYes X220.here hx rfl (pc0 := 192) (pc' := 204) rfl (hb hby at_192) rfl ((if0 _ _).trans (tlt ((lw_gt nn b).mpr (by have := hbb; have := rng64 nn; have := rng64 b; have := (by decide : (1 : Int64).toInt = 1); have := c_ladd b (1 : Int64); have := rng64 (b + (1 : Int64)); have := c_ladd (b + (1 : Int64)) (1 : Int64); have := rng64 ((b + (1 : Int64)) + (1 : Int64)); have := c_ladd ((b + (1 : Int64)) + (1 : Int64)) (1 : Int64); have := rng64 (((b + (1 : Int64)) + (1 : Int64)) + (1 : Int64)); have := (Int64.lt_iff_toInt_lt).mp hd2_0; have := mt (Int64.lt_iff_toInt_lt).mpr hd2_1; refine (Int64.lt_iff_toInt_lt).mpr ?_; omega : b < nn))).2.2.1) (by decide) (by decide) k') ?_
        show own_Go p.tables e below _ (T220.setTop (mkF m 204 #[.val (.long base), .second, .val (.long raw), .second, .val (.int delta), .val (.int count), .val (.int mode), .val (.long b), .second, .val (.int (3 : Int32)), .val (.long nn), .second, .val (.ref ms), .val (.ref b2), .val (.ref b9), .val (.ref b20), .val (.ref b35), .val (.long (b + ((3 : Int32).toInt64))), .second, .unset, .unset] []))
        refine own_st (fun _ k' => XS.lload X220.here hx rfl (hb hby at_204) rfl k') ?_
        show own_Go p.tables e below _ (T220.setTop (mkF m 206 #[.val (.long base), .second, .val (.long raw), .second, .val (.int delta), .val (.int count), .val (.int mode), .val (.long b), .second, .val (.int (3 : Int32)), .val (.long nn), .second, .val (.ref ms), .val (.ref b2), .val (.ref b9), .val (.ref b20), .val (.ref b35), .val (.long (b + ((3 : Int32).toInt64))), .second, .unset, .unset] [(.long nn)]))
        refine own_st (fun _ k' => XS.lload X220.here hx rfl (hb hby at_206) rfl k') ?_
        show own_Go p.tables e below _ (T220.setTop (mkF m 208 #[.val (.long base), .second, .val (.long raw), .second, .val (.int delta), .val (.int count), .val (.int mode), .val (.long b), .second, .val (.int (3 : Int32)), .val (.long nn), .second, .val (.ref ms), .val (.ref b2), .val (.ref b9), .val (.ref b20), .val (.ref b35), .val (.long (b + ((3 : Int32).toInt64))), .second, .unset, .unset] [(.long (b + ((3 : Int32).toInt64))), (.long nn)]))
        refine own_st (fun _ k' => XS.lcmp X220.here hx rfl (hb hby at_208) rfl k') ?_
        show own_Go p.tables e below _ (T220.setTop (mkF m 209 #[.val (.long base), .second, .val (.long raw), .second, .val (.int delta), .val (.int count), .val (.int mode), .val (.long b), .second, .val (.int (3 : Int32)), .val (.long nn), .second, .val (.ref ms), .val (.ref b2), .val (.ref b9), .val (.ref b20), .val (.ref b35), .val (.long (b + ((3 : Int32).toInt64))), .second, .unset, .unset] [(.int (lcmpW nn (b + ((3 : Int32).toInt64))))]))
        refine own_st (fun _ k' => XS.ifYes X220.here hx rfl (pc0 := 209) (pc' := 221) rfl (hb hby at_209) rfl ((if0 _ _).trans (tlt ((lw_lt nn (b + ((3 : Int32).toInt64))).mpr (by have := hbb; have := rng64 nn; have := rng64 b; have := (by decide : (1 : Int64).toInt = 1); have := c_ladd b (1 : Int64); have := rng64 (b + (1 : Int64)); have := c_ladd (b + (1 : Int64)) (1 : Int64); have := rng64 ((b + (1 : Int64)) + (1 : Int64)); have := c_ladd ((b + (1 : Int64)) + (1 : Int64)) (1 : Int64); have := rng64 (((b + (1 : Int64)) + (1 : Int64)) + (1 : Int64)); have := (by decide : ((3 : Int32).toInt64).toInt = 3); have := c_ladd b (3 : Int32).toInt64; have := rng64 (b + (3 : Int32).toInt64); have := (Int64.lt_iff_toInt_lt).mp hd2_0; have := mt (Int64.lt_iff_toInt_lt).mpr hd2_1; refine (Int64.lt_iff_toInt_lt).mpr ?_; omega : nn < (b + ((3 : Int32).toInt64))))).1) (by decide) (by decide) k') ?_
        show own_Go p.tables e below _ (T220.setTop (mkF m 221 #[.val (.long base), .second, .val (.long raw), .second, .val (.int delta), .val (.int count), .val (.int mode), .val (.long b), .second, .val (.int (3 : Int32)), .val (.long nn), .second, .val (.ref ms), .val (.ref b2), .val (.ref b9), .val (.ref b20), .val (.ref b35), .val (.long (b + ((3 : Int32).toInt64))), .second, .unset, .unset] []))
        refine own_st (fun _ k' => XS.lload X220.here hx rfl (hb hby at_221) rfl k') ?_
        show own_Go p.tables e below _ (T220.setTop (mkF m 223 #[.val (.long base), .second, .val (.long raw), .second, .val (.int delta), .val (.int count), .val (.int mode), .val (.long b), .second, .val (.int (3 : Int32)), .val (.long nn), .second, .val (.ref ms), .val (.ref b2), .val (.ref b9), .val (.ref b20), .val (.ref b35), .val (.long (b + ((3 : Int32).toInt64))), .second, .unset, .unset] [(.long nn)]))
        refine own_st (fun _ k' => XS.lconst X220.here hx rfl (hb hby at_223) k') ?_
        show own_Go p.tables e below _ (T220.setTop (mkF m 224 #[.val (.long base), .second, .val (.long raw), .second, .val (.int delta), .val (.int count), .val (.int mode), .val (.long b), .second, .val (.int (3 : Int32)), .val (.long nn), .second, .val (.ref ms), .val (.ref b2), .val (.ref b9), .val (.ref b20), .val (.ref b35), .val (.long (b + ((3 : Int32).toInt64))), .second, .unset, .unset] [(.long (1 : Int64)), (.long nn)]))
        refine own_st (fun _ k' => XS.ladd X220.here hx rfl (hb hby at_224) rfl k') ?_
        show own_Go p.tables e below _ (T220.setTop (mkF m 225 #[.val (.long base), .second, .val (.long raw), .second, .val (.int delta), .val (.int count), .val (.int mode), .val (.long b), .second, .val (.int (3 : Int32)), .val (.long nn), .second, .val (.ref ms), .val (.ref b2), .val (.ref b9), .val (.ref b20), .val (.ref b35), .val (.long (b + ((3 : Int32).toInt64))), .second, .unset, .unset] [(.long (nn + (1 : Int64)))]))
        refine own_st (fun _ k' => XS.lstore X220.here hx rfl (hb hby at_225) rfl (l' := #[.val (.long base), .second, .val (.long raw), .second, .val (.int delta), .val (.int count), .val (.int mode), .val (.long b), .second, .val (.int (3 : Int32)), .val (.long nn), .second, .val (.ref ms), .val (.ref b2), .val (.ref b9), .val (.ref b20), .val (.ref b35), .val (.long (b + ((3 : Int32).toInt64))), .second, .val (.long (nn + (1 : Int64))), .second]) rfl k') ?_
        show own_Go p.tables e below _ (T220.setTop (mkF m 227 #[.val (.long base), .second, .val (.long raw), .second, .val (.int delta), .val (.int count), .val (.int mode), .val (.long b), .second, .val (.int (3 : Int32)), .val (.long nn), .second, .val (.ref ms), .val (.ref b2), .val (.ref b9), .val (.ref b20), .val (.ref b35), .val (.long (b + ((3 : Int32).toInt64))), .second, .val (.long (nn + (1 : Int64))), .second] []))
        refine own_st (fun _ k' => XS.aload X220.here hx rfl (hb hby at_227) rfl rfl k') ?_
        show own_Go p.tables e below _ (T220.setTop (mkF m 229 #[.val (.long base), .second, .val (.long raw), .second, .val (.int delta), .val (.int count), .val (.int mode), .val (.long b), .second, .val (.int (3 : Int32)), .val (.long nn), .second, .val (.ref ms), .val (.ref b2), .val (.ref b9), .val (.ref b20), .val (.ref b35), .val (.long (b + ((3 : Int32).toInt64))), .second, .val (.long (nn + (1 : Int64))), .second] [(.ref b35)]))
        obtain ⟨cq253, kq253, q253a, q253b, q253c⟩ := isOf hZ rfl Ea220
        obtain ⟨_, _, ⟨T253, L253, k253, n253⟩, -, X253, ⟨Lc253, hQ253, l253, y253, z253⟩, st253⟩ := X220.virtualBack hx (y := (⟨"com/example/penumbra/penumbra/order/SequenceLog", "first", "()J"⟩ : MethodName)) (z := (⟨"com/example/penumbra/penumbra/order/SequenceLog", "first", "()J"⟩ : MethodName)) hown (mvT hZ (hw _ (List.mem_of_getElem? (i := 73) rfl))) (mvT hZ (hw _ (List.mem_of_getElem? (i := 74) rfl))) (notFace_of_selects (args := #[]) (mvT hZ (hw _ (List.mem_of_getElem? (i := 76) rfl)))) (mvT hZ (hw _ (List.mem_of_getElem? (i := 76) rfl))) (mvT hZ (hw _ (List.mem_of_getElem? (i := 75) rfl))) (by decide) (backOf (W := 0) (rmFi l Z a0 hw [] b35 (((b + (1 : Int64)) + (1 : Int64)) + (1 : Int64)) T220.heap n0 Zc220 Fa_first220) hZ (hw _ (List.mem_of_getElem? (i := 77) rfl)) (hw _ (List.mem_of_getElem? (i := 28) rfl)) (by decide) (by decide)) q253a q253c (g := (mkF m 229 #[.val (.long base), .second, .val (.long raw), .second, .val (.int delta), .val (.int count), .val (.int mode), .val (.long b), .second, .val (.int (3 : Int32)), .val (.long nn), .second, .val (.ref ms), .val (.ref b2), .val (.ref b9), .val (.ref b20), .val (.ref b35), .val (.long (b + ((3 : Int32).toInt64))), .second, .val (.long (nn + (1 : Int64))), .second] [(.ref b35)])) rfl (by rw [hml]; rfl) (Steps.refl _) (argsL := []) (rest := []) (lenOf pd___J rfl) rfl (by show 2 * 0 + _ ≤ _; exact Nat.le_of_eq rfl) (hb hby at_229) (fun _ _ => ⟨rfl, rfl, (by decide : 6 + 0 ≤ _), (by decide : 1040 + 0 ≤ _)⟩)
        dsimp only [Pt.U, Pt.locs, Pt.cells, Pt.slots] at X253 l253 y253 z253 st253 hQ253
        subst l253 y253 z253
        obtain ⟨rfl, Nq253, e253⟩ := hQ253
        have N253 := Fr.app N220 Nq253
        refine own_tr st253 ?_
        show own_Go p.tables e below _ (T253.setTop (mkF m 232 #[.val (.long base), .second, .val (.long raw), .second, .val (.int delta), .val (.int count), .val (.int mode), .val (.long b), .second, .val (.int (3 : Int32)), .val (.long nn), .second, .val (.ref ms), .val (.ref b2), .val (.ref b9), .val (.ref b20), .val (.ref b35), .val (.long (b + ((3 : Int32).toInt64))), .second, .val (.long (nn + (1 : Int64))), .second] [(.long (((b + (1 : Int64)) + (1 : Int64)) + (1 : Int64)))]))
        refine own_st (fun _ k' => XS.lload X253.here hx rfl (hb hby at_232) rfl k') ?_
        show own_Go p.tables e below _ (T253.setTop (mkF m 234 #[.val (.long base), .second, .val (.long raw), .second, .val (.int delta), .val (.int count), .val (.int mode), .val (.long b), .second, .val (.int (3 : Int32)), .val (.long nn), .second, .val (.ref ms), .val (.ref b2), .val (.ref b9), .val (.ref b20), .val (.ref b35), .val (.long (b + ((3 : Int32).toInt64))), .second, .val (.long (nn + (1 : Int64))), .second] [(.long (nn + (1 : Int64))), (.long (((b + (1 : Int64)) + (1 : Int64)) + (1 : Int64)))]))
        refine own_st (fun _ k' => XS.lcmp X253.here hx rfl (hb hby at_234) rfl k') ?_
        show own_Go p.tables e below _ (T253.setTop (mkF m 235 #[.val (.long base), .second, .val (.long raw), .second, .val (.int delta), .val (.int count), .val (.int mode), .val (.long b), .second, .val (.int (3 : Int32)), .val (.long nn), .second, .val (.ref ms), .val (.ref b2), .val (.ref b9), .val (.ref b20), .val (.ref b35), .val (.long (b + ((3 : Int32).toInt64))), .second, .val (.long (nn + (1 : Int64))), .second] [(.int (lcmpW (((b + (1 : Int64)) + (1 : Int64)) + (1 : Int64)) (nn + (1 : Int64))))]))
        refine own_st (fun _ k' => XS.ifYes X253.here hx rfl (pc0 := 235) (pc' := 240) rfl (hb hby at_235) rfl ((if0 _ _).trans (teq ((lw_eq (((b + (1 : Int64)) + (1 : Int64)) + (1 : Int64)) (nn + (1 : Int64))).mpr (by have := hbb; have := rng64 nn; have := rng64 b; have := (by decide : (1 : Int64).toInt = 1); have := c_ladd b (1 : Int64); have := rng64 (b + (1 : Int64)); have := c_ladd (b + (1 : Int64)) (1 : Int64); have := rng64 ((b + (1 : Int64)) + (1 : Int64)); have := c_ladd ((b + (1 : Int64)) + (1 : Int64)) (1 : Int64); have := rng64 (((b + (1 : Int64)) + (1 : Int64)) + (1 : Int64)); have := c_ladd nn (1 : Int64); have := rng64 (nn + (1 : Int64)); have := (Int64.lt_iff_toInt_lt).mp hd2_0; have := mt (Int64.lt_iff_toInt_lt).mpr hd2_1; refine (Int64.toInt_inj.symm).mpr ?_; omega : (((b + (1 : Int64)) + (1 : Int64)) + (1 : Int64)) = (nn + (1 : Int64))))).1) (by decide) (by decide) k') ?_
        show own_Go p.tables e below _ (T253.setTop (mkF m 240 #[.val (.long base), .second, .val (.long raw), .second, .val (.int delta), .val (.int count), .val (.int mode), .val (.long b), .second, .val (.int (3 : Int32)), .val (.long nn), .second, .val (.ref ms), .val (.ref b2), .val (.ref b9), .val (.ref b20), .val (.ref b35), .val (.long (b + ((3 : Int32).toInt64))), .second, .val (.long (nn + (1 : Int64))), .second] []))
        refine own_st (fun _ k' => XS.aload X253.here hx rfl (hb hby at_240) rfl rfl k') ?_
        show own_Go p.tables e below _ (T253.setTop (mkF m 242 #[.val (.long base), .second, .val (.long raw), .second, .val (.int delta), .val (.int count), .val (.int mode), .val (.long b), .second, .val (.int (3 : Int32)), .val (.long nn), .second, .val (.ref ms), .val (.ref b2), .val (.ref b9), .val (.ref b20), .val (.ref b35), .val (.long (b + ((3 : Int32).toInt64))), .second, .val (.long (nn + (1 : Int64))), .second] [(.ref b35)]))
        obtain ⟨cq254, kq254, q254a, q254b, q254c⟩ := isOf hZ e253 Ea220
        obtain ⟨_, _, ⟨T254, L254, k254, n254⟩, -, X254, ⟨Lc254, hQ254, l254, y254, z254⟩, st254⟩ := X253.virtualBack hx (y := (⟨"com/example/penumbra/penumbra/order/SequenceLog", "last", "()J"⟩ : MethodName)) (z := (⟨"com/example/penumbra/penumbra/order/SequenceLog", "last", "()J"⟩ : MethodName)) hown (mvT hZ (hw _ (List.mem_of_getElem? (i := 78) rfl))) (mvT hZ (hw _ (List.mem_of_getElem? (i := 63) rfl))) (notFace_of_selects (args := #[]) (mvT hZ (hw _ (List.mem_of_getElem? (i := 65) rfl)))) (mvT hZ (hw _ (List.mem_of_getElem? (i := 65) rfl))) (mvT hZ (hw _ (List.mem_of_getElem? (i := 64) rfl))) (by decide) (backOf (W := 0) (rmLa l Z a0 hw [] b35 (((b + (1 : Int64)) + (1 : Int64)) + (1 : Int64)) (1 : Int32) T220.heap n0 Zc220 Fa_first220 Fa_size220) hZ (hw _ (List.mem_of_getElem? (i := 66) rfl)) (hw _ (List.mem_of_getElem? (i := 28) rfl)) (by decide) (by decide)) q254a q254c (g := (mkF m 242 #[.val (.long base), .second, .val (.long raw), .second, .val (.int delta), .val (.int count), .val (.int mode), .val (.long b), .second, .val (.int (3 : Int32)), .val (.long nn), .second, .val (.ref ms), .val (.ref b2), .val (.ref b9), .val (.ref b20), .val (.ref b35), .val (.long (b + ((3 : Int32).toInt64))), .second, .val (.long (nn + (1 : Int64))), .second] [(.ref b35)])) rfl (by rw [hml]; rfl) (Steps.refl _) (argsL := []) (rest := []) (lenOf pd___J rfl) rfl (by show 2 * 0 + _ ≤ _; exact Nat.le_of_eq rfl) (hb hby at_242) (fun _ _ => ⟨rfl, e253, (by decide : 6 + 0 ≤ _), (by decide : 1040 + 0 ≤ _)⟩)
        dsimp only [Pt.U, Pt.locs, Pt.cells, Pt.slots] at X254 l254 y254 z254 st254 hQ254
        subst l254 y254 z254
        obtain ⟨rfl, Nq254, e254⟩ := hQ254
        have N254 := Fr.app N253 Nq254
        refine own_tr st254 ?_
        show own_Go p.tables e below _ (T254.setTop (mkF m 245 #[.val (.long base), .second, .val (.long raw), .second, .val (.int delta), .val (.int count), .val (.int mode), .val (.long b), .second, .val (.int (3 : Int32)), .val (.long nn), .second, .val (.ref ms), .val (.ref b2), .val (.ref b9), .val (.ref b20), .val (.ref b35), .val (.long (b + ((3 : Int32).toInt64))), .second, .val (.long (nn + (1 : Int64))), .second] [(.long (((((b + (1 : Int64)) + (1 : Int64)) + (1 : Int64)) + ((1 : Int32).toInt64)) - (1 : Int64)))]))
        refine own_st (fun _ k' => XS.lload X254.here hx rfl (hb hby at_245) rfl k') ?_
        show own_Go p.tables e below _ (T254.setTop (mkF m 247 #[.val (.long base), .second, .val (.long raw), .second, .val (.int delta), .val (.int count), .val (.int mode), .val (.long b), .second, .val (.int (3 : Int32)), .val (.long nn), .second, .val (.ref ms), .val (.ref b2), .val (.ref b9), .val (.ref b20), .val (.ref b35), .val (.long (b + ((3 : Int32).toInt64))), .second, .val (.long (nn + (1 : Int64))), .second] [(.long (b + ((3 : Int32).toInt64))), (.long (((((b + (1 : Int64)) + (1 : Int64)) + (1 : Int64)) + ((1 : Int32).toInt64)) - (1 : Int64)))]))
        refine own_st (fun _ k' => XS.lcmp X254.here hx rfl (hb hby at_247) rfl k') ?_
        show own_Go p.tables e below _ (T254.setTop (mkF m 248 #[.val (.long base), .second, .val (.long raw), .second, .val (.int delta), .val (.int count), .val (.int mode), .val (.long b), .second, .val (.int (3 : Int32)), .val (.long nn), .second, .val (.ref ms), .val (.ref b2), .val (.ref b9), .val (.ref b20), .val (.ref b35), .val (.long (b + ((3 : Int32).toInt64))), .second, .val (.long (nn + (1 : Int64))), .second] [(.int (lcmpW (((((b + (1 : Int64)) + (1 : Int64)) + (1 : Int64)) + ((1 : Int32).toInt64)) - (1 : Int64)) (b + ((3 : Int32).toInt64))))]))
        refine own_st (fun _ k' => XS.ifYes X254.here hx rfl (pc0 := 248) (pc' := 253) rfl (hb hby at_248) rfl ((if0 _ _).trans (teq ((lw_eq (((((b + (1 : Int64)) + (1 : Int64)) + (1 : Int64)) + ((1 : Int32).toInt64)) - (1 : Int64)) (b + ((3 : Int32).toInt64))).mpr (by have := hbb; have := rng64 nn; have := rng64 b; have := (by decide : (1 : Int64).toInt = 1); have := c_ladd b (1 : Int64); have := rng64 (b + (1 : Int64)); have := c_ladd (b + (1 : Int64)) (1 : Int64); have := rng64 ((b + (1 : Int64)) + (1 : Int64)); have := c_ladd ((b + (1 : Int64)) + (1 : Int64)) (1 : Int64); have := rng64 (((b + (1 : Int64)) + (1 : Int64)) + (1 : Int64)); have := (by decide : ((1 : Int32).toInt64).toInt = 1); have := c_ladd (((b + (1 : Int64)) + (1 : Int64)) + (1 : Int64)) (1 : Int32).toInt64; have := rng64 ((((b + (1 : Int64)) + (1 : Int64)) + (1 : Int64)) + (1 : Int32).toInt64); have := c_lsub ((((b + (1 : Int64)) + (1 : Int64)) + (1 : Int64)) + (1 : Int32).toInt64) (1 : Int64); have := rng64 (((((b + (1 : Int64)) + (1 : Int64)) + (1 : Int64)) + (1 : Int32).toInt64) - (1 : Int64)); have := (by decide : ((3 : Int32).toInt64).toInt = 3); have := c_ladd b (3 : Int32).toInt64; have := rng64 (b + (3 : Int32).toInt64); have := (Int64.lt_iff_toInt_lt).mp hd2_0; have := mt (Int64.lt_iff_toInt_lt).mpr hd2_1; refine (Int64.toInt_inj.symm).mpr ?_; omega : (((((b + (1 : Int64)) + (1 : Int64)) + (1 : Int64)) + ((1 : Int32).toInt64)) - (1 : Int64)) = (b + ((3 : Int32).toInt64))))).1) (by decide) (by decide) k') ?_
        show own_Go p.tables e below _ (T254.setTop (mkF m 253 #[.val (.long base), .second, .val (.long raw), .second, .val (.int delta), .val (.int count), .val (.int mode), .val (.long b), .second, .val (.int (3 : Int32)), .val (.long nn), .second, .val (.ref ms), .val (.ref b2), .val (.ref b9), .val (.ref b20), .val (.ref b35), .val (.long (b + ((3 : Int32).toInt64))), .second, .val (.long (nn + (1 : Int64))), .second] []))
        refine own_st (fun _ k' => XS.lload X254.here hx rfl (hb hby at_253) rfl k') ?_
        show own_Go p.tables e below _ (T254.setTop (mkF m 255 #[.val (.long base), .second, .val (.long raw), .second, .val (.int delta), .val (.int count), .val (.int mode), .val (.long b), .second, .val (.int (3 : Int32)), .val (.long nn), .second, .val (.ref ms), .val (.ref b2), .val (.ref b9), .val (.ref b20), .val (.ref b35), .val (.long (b + ((3 : Int32).toInt64))), .second, .val (.long (nn + (1 : Int64))), .second] [(.long (nn + (1 : Int64)))]))
        refine own_st (fun _ k' => XS.lload X254.here hx rfl (hb hby at_255) rfl k') ?_
        show own_Go p.tables e below _ (T254.setTop (mkF m 257 #[.val (.long base), .second, .val (.long raw), .second, .val (.int delta), .val (.int count), .val (.int mode), .val (.long b), .second, .val (.int (3 : Int32)), .val (.long nn), .second, .val (.ref ms), .val (.ref b2), .val (.ref b9), .val (.ref b20), .val (.ref b35), .val (.long (b + ((3 : Int32).toInt64))), .second, .val (.long (nn + (1 : Int64))), .second] [(.long (b + ((3 : Int32).toInt64))), (.long (nn + (1 : Int64)))]))
        refine own_st (fun _ k' => XS.lcmp X254.here hx rfl (hb hby at_257) rfl k') ?_
        show own_Go p.tables e below _ (T254.setTop (mkF m 258 #[.val (.long base), .second, .val (.long raw), .second, .val (.int delta), .val (.int count), .val (.int mode), .val (.long b), .second, .val (.int (3 : Int32)), .val (.long nn), .second, .val (.ref ms), .val (.ref b2), .val (.ref b9), .val (.ref b20), .val (.ref b35), .val (.long (b + ((3 : Int32).toInt64))), .second, .val (.long (nn + (1 : Int64))), .second] [(.int (lcmpW (nn + (1 : Int64)) (b + ((3 : Int32).toInt64))))]))
        refine own_st (fun _ k' => XS.ifNo X254.here hx rfl (hb hby at_258) rfl ((if0 _ _).trans (flt (mt (lw_gt (nn + (1 : Int64)) (b + ((3 : Int32).toInt64))).mp (by have := hbb; have := rng64 nn; have := rng64 b; have := (by decide : (1 : Int64).toInt = 1); have := c_ladd b (1 : Int64); have := rng64 (b + (1 : Int64)); have := c_ladd (b + (1 : Int64)) (1 : Int64); have := rng64 ((b + (1 : Int64)) + (1 : Int64)); have := c_ladd ((b + (1 : Int64)) + (1 : Int64)) (1 : Int64); have := rng64 (((b + (1 : Int64)) + (1 : Int64)) + (1 : Int64)); have := (by decide : ((3 : Int32).toInt64).toInt = 3); have := c_ladd b (3 : Int32).toInt64; have := rng64 (b + (3 : Int32).toInt64); have := c_ladd nn (1 : Int64); have := rng64 (nn + (1 : Int64)); have := (Int64.lt_iff_toInt_lt).mp hd2_0; have := mt (Int64.lt_iff_toInt_lt).mpr hd2_1; refine mt (Int64.lt_iff_toInt_lt).mp ?_; omega : ¬ (b + ((3 : Int32).toInt64)) < (nn + (1 : Int64))))).2.2.1) k') ?_
        show own_Go p.tables e below _ (T254.setTop (mkF m 261 #[.val (.long base), .second, .val (.long raw), .second, .val (.int delta), .val (.int count), .val (.int mode), .val (.long b), .second, .val (.int (3 : Int32)), .val (.long nn), .second, .val (.ref ms), .val (.ref b2), .val (.ref b9), .val (.ref b20), .val (.ref b35), .val (.long (b + ((3 : Int32).toInt64))), .second, .val (.long (nn + (1 : Int64))), .second] []))
        refine own_st (fun _ k' => XS.aload X254.here hx rfl (hb hby at_261) rfl rfl k') ?_
        show own_Go p.tables e below _ (T254.setTop (mkF m 263 #[.val (.long base), .second, .val (.long raw), .second, .val (.int delta), .val (.int count), .val (.int mode), .val (.long b), .second, .val (.int (3 : Int32)), .val (.long nn), .second, .val (.ref ms), .val (.ref b2), .val (.ref b9), .val (.ref b20), .val (.ref b35), .val (.long (b + ((3 : Int32).toInt64))), .second, .val (.long (nn + (1 : Int64))), .second] [(.ref b35)]))
        refine own_st (fun _ k' => XS.lload X254.here hx rfl (hb hby at_263) rfl k') ?_
        show own_Go p.tables e below _ (T254.setTop (mkF m 265 #[.val (.long base), .second, .val (.long raw), .second, .val (.int delta), .val (.int count), .val (.int mode), .val (.long b), .second, .val (.int (3 : Int32)), .val (.long nn), .second, .val (.ref ms), .val (.ref b2), .val (.ref b9), .val (.ref b20), .val (.ref b35), .val (.long (b + ((3 : Int32).toInt64))), .second, .val (.long (nn + (1 : Int64))), .second] [(.long (nn + (1 : Int64))), (.ref b35)]))
        have hdx255 : (((2 : Int32).toInt64 + (nn + (1 : Int64))) - (((b + (1 : Int64)) + (1 : Int64)) + (1 : Int64))) = (2 : Int64) := (by have := hbb; have := rng64 nn; have := rng64 b; have := (by decide : (1 : Int64).toInt = 1); have := c_ladd b (1 : Int64); have := rng64 (b + (1 : Int64)); have := c_ladd (b + (1 : Int64)) (1 : Int64); have := rng64 ((b + (1 : Int64)) + (1 : Int64)); have := c_ladd ((b + (1 : Int64)) + (1 : Int64)) (1 : Int64); have := rng64 (((b + (1 : Int64)) + (1 : Int64)) + (1 : Int64)); have := (by decide : ((2 : Int32).toInt64).toInt = 2); have := c_ladd nn (1 : Int64); have := rng64 (nn + (1 : Int64)); have := c_ladd (2 : Int32).toInt64 (nn + (1 : Int64)); have := rng64 ((2 : Int32).toInt64 + (nn + (1 : Int64))); have := c_lsub ((2 : Int32).toInt64 + (nn + (1 : Int64))) (((b + (1 : Int64)) + (1 : Int64)) + (1 : Int64)); have := rng64 (((2 : Int32).toInt64 + (nn + (1 : Int64))) - (((b + (1 : Int64)) + (1 : Int64)) + (1 : Int64))); have := (by decide : (2 : Int64).toInt = 2); have := (Int64.lt_iff_toInt_lt).mp hd2_0; have := mt (Int64.lt_iff_toInt_lt).mpr hd2_1; refine (Int64.toInt_inj.symm).mpr ?_; omega : (((2 : Int32).toInt64 + (nn + (1 : Int64))) - (((b + (1 : Int64)) + (1 : Int64)) + (1 : Int64))) = (2 : Int64))
        obtain ⟨cq256, kq256, q256a, q256b, q256c⟩ := isOf hZ e254 Ea220
        obtain ⟨_, _, ⟨T256, L256, k256, n256⟩, -, X256, ⟨Lc256, hQ256, l256, y256, z256⟩, st256⟩ := X254.virtualBack hx (y := (⟨"com/example/penumbra/penumbra/order/SequenceLog", "get", "(J)Lcom/example/penumbra/penumbra/order/SequenceLog$Entry;"⟩ : MethodName)) (z := (⟨"com/example/penumbra/penumbra/order/SequenceLog", "get", "(J)Lcom/example/penumbra/penumbra/order/SequenceLog$Entry;"⟩ : MethodName)) hown (mvT hZ (hw _ (List.mem_of_getElem? (i := 79) rfl))) (mvT hZ (hw _ (List.mem_of_getElem? (i := 80) rfl))) (notFace_of_selects (args := #[]) (mvT hZ (hw _ (List.mem_of_getElem? (i := 82) rfl)))) (mvT hZ (hw _ (List.mem_of_getElem? (i := 82) rfl))) (mvT hZ (hw _ (List.mem_of_getElem? (i := 81) rfl))) (by decide) (backOf (W := 0) (rmG l Z a0 hw [] b35 (nn + (1 : Int64)) (((b + (1 : Int64)) + (1 : Int64)) + (1 : Int64)) (2 : Int32) (1 : Int32) rg kk .null .null (.ref b20) (2 : Int32) b20 T220.heap n0 Zc220 Ea220 Fa_ring220 Fa_first220 Fa_head220 Fa_size220 Va220 OV (by have := hbb; have := rng64 nn; have := rng64 b; have := (by decide : (1 : Int64).toInt = 1); have := c_ladd b (1 : Int64); have := rng64 (b + (1 : Int64)); have := c_ladd (b + (1 : Int64)) (1 : Int64); have := rng64 ((b + (1 : Int64)) + (1 : Int64)); have := c_ladd ((b + (1 : Int64)) + (1 : Int64)) (1 : Int64); have := rng64 (((b + (1 : Int64)) + (1 : Int64)) + (1 : Int64)); have := c_ladd nn (1 : Int64); have := rng64 (nn + (1 : Int64)); have := (Int64.lt_iff_toInt_lt).mp hd2_0; have := mt (Int64.lt_iff_toInt_lt).mpr hd2_1; refine mt (Int64.lt_iff_toInt_lt).mp ?_; omega : ¬ (nn + (1 : Int64)) < (((b + (1 : Int64)) + (1 : Int64)) + (1 : Int64))) (by have := hbb; have := rng64 nn; have := rng64 b; have := (by decide : (1 : Int64).toInt = 1); have := c_ladd b (1 : Int64); have := rng64 (b + (1 : Int64)); have := c_ladd (b + (1 : Int64)) (1 : Int64); have := rng64 ((b + (1 : Int64)) + (1 : Int64)); have := c_ladd ((b + (1 : Int64)) + (1 : Int64)) (1 : Int64); have := rng64 (((b + (1 : Int64)) + (1 : Int64)) + (1 : Int64)); have := (by decide : ((1 : Int32).toInt64).toInt = 1); have := c_ladd (((b + (1 : Int64)) + (1 : Int64)) + (1 : Int64)) (1 : Int32).toInt64; have := rng64 ((((b + (1 : Int64)) + (1 : Int64)) + (1 : Int64)) + (1 : Int32).toInt64); have := c_lsub ((((b + (1 : Int64)) + (1 : Int64)) + (1 : Int64)) + (1 : Int32).toInt64) (1 : Int64); have := rng64 (((((b + (1 : Int64)) + (1 : Int64)) + (1 : Int64)) + (1 : Int32).toInt64) - (1 : Int64)); have := c_ladd nn (1 : Int64); have := rng64 (nn + (1 : Int64)); have := (Int64.lt_iff_toInt_lt).mp hd2_0; have := mt (Int64.lt_iff_toInt_lt).mpr hd2_1; refine mt (Int64.lt_iff_toInt_lt).mp ?_; omega : ¬ (((((b + (1 : Int64)) + (1 : Int64)) + (1 : Int64)) + ((1 : Int32).toInt64)) - (1 : Int64)) < (nn + (1 : Int64))) (by rw [hdx255]; decide) (by decide) (by decide) rfl) hZ (hw _ (List.mem_of_getElem? (i := 83) rfl)) (hw _ (List.mem_of_getElem? (i := 28) rfl)) (by decide) (by decide)) q256a q256c (g := (mkF m 265 #[.val (.long base), .second, .val (.long raw), .second, .val (.int delta), .val (.int count), .val (.int mode), .val (.long b), .second, .val (.int (3 : Int32)), .val (.long nn), .second, .val (.ref ms), .val (.ref b2), .val (.ref b9), .val (.ref b20), .val (.ref b35), .val (.long (b + ((3 : Int32).toInt64))), .second, .val (.long (nn + (1 : Int64))), .second] [(.long (nn + (1 : Int64))), (.ref b35)])) rfl (by rw [hml]; rfl) (Steps.refl _) (argsL := [(.long (nn + (1 : Int64)))]) (rest := []) (lenOf pd__J_Lcom_example_penumbra_penumbra_order_SequenceLog_Entry_ rfl) rfl (by show 2 * 0 + _ ≤ _; exact Nat.le_of_eq rfl) (hb hby at_265) (fun _ _ => ⟨rfl, e254, (by decide : 6 + 0 ≤ _), (by decide : 1040 + 0 ≤ _)⟩)
        dsimp only [Pt.U, Pt.locs, Pt.cells, Pt.slots] at X256 l256 y256 z256 st256 hQ256
        subst l256 y256 z256
        obtain ⟨rfl, Nq256, e256⟩ := hQ256
        have N256 := Fr.app N254 Nq256
        refine own_tr st256 ?_
        show own_Go p.tables e below _ (T256.setTop (mkF m 268 #[.val (.long base), .second, .val (.long raw), .second, .val (.int delta), .val (.int count), .val (.int mode), .val (.long b), .second, .val (.int (3 : Int32)), .val (.long nn), .second, .val (.ref ms), .val (.ref b2), .val (.ref b9), .val (.ref b20), .val (.ref b35), .val (.long (b + ((3 : Int32).toInt64))), .second, .val (.long (nn + (1 : Int64))), .second] [(.ref b20)]))
        refine own_st (fun _ k' => XS.lload X256.here hx rfl (hb hby at_268) rfl k') ?_
        show own_Go p.tables e below _ (T256.setTop (mkF m 270 #[.val (.long base), .second, .val (.long raw), .second, .val (.int delta), .val (.int count), .val (.int mode), .val (.long b), .second, .val (.int (3 : Int32)), .val (.long nn), .second, .val (.ref ms), .val (.ref b2), .val (.ref b9), .val (.ref b20), .val (.ref b35), .val (.long (b + ((3 : Int32).toInt64))), .second, .val (.long (nn + (1 : Int64))), .second] [(.long (nn + (1 : Int64))), (.ref b20)]))
        refine own_st (fun _ k' => XS.lload X256.here hx rfl (hb hby at_270) rfl k') ?_
        show own_Go p.tables e below _ (T256.setTop (mkF m 272 #[.val (.long base), .second, .val (.long raw), .second, .val (.int delta), .val (.int count), .val (.int mode), .val (.long b), .second, .val (.int (3 : Int32)), .val (.long nn), .second, .val (.ref ms), .val (.ref b2), .val (.ref b9), .val (.ref b20), .val (.ref b35), .val (.long (b + ((3 : Int32).toInt64))), .second, .val (.long (nn + (1 : Int64))), .second] [(.long b), (.long (nn + (1 : Int64))), (.ref b20)]))
        refine own_st (fun _ k' => XS.lsub X256.here hx rfl (hb hby at_272) rfl k') ?_
        show own_Go p.tables e below _ (T256.setTop (mkF m 273 #[.val (.long base), .second, .val (.long raw), .second, .val (.int delta), .val (.int count), .val (.int mode), .val (.long b), .second, .val (.int (3 : Int32)), .val (.long nn), .second, .val (.ref ms), .val (.ref b2), .val (.ref b9), .val (.ref b20), .val (.ref b35), .val (.long (b + ((3 : Int32).toInt64))), .second, .val (.long (nn + (1 : Int64))), .second] [(.long ((nn + (1 : Int64)) - b)), (.ref b20)]))
        refine own_st (fun _ k' => XS.aload X256.here hx rfl (hb hby at_273) rfl rfl k') ?_
        show own_Go p.tables e below _ (T256.setTop (mkF m 275 #[.val (.long base), .second, .val (.long raw), .second, .val (.int delta), .val (.int count), .val (.int mode), .val (.long b), .second, .val (.int (3 : Int32)), .val (.long nn), .second, .val (.ref ms), .val (.ref b2), .val (.ref b9), .val (.ref b20), .val (.ref b35), .val (.long (b + ((3 : Int32).toInt64))), .second, .val (.long (nn + (1 : Int64))), .second] [(.ref b2), (.long ((nn + (1 : Int64)) - b)), (.ref b20)]))
        refine own_st (fun _ k' => XS.aload X256.here hx rfl (hb hby at_275) rfl rfl k') ?_
        show own_Go p.tables e below _ (T256.setTop (mkF m 277 #[.val (.long base), .second, .val (.long raw), .second, .val (.int delta), .val (.int count), .val (.int mode), .val (.long b), .second, .val (.int (3 : Int32)), .val (.long nn), .second, .val (.ref ms), .val (.ref b2), .val (.ref b9), .val (.ref b20), .val (.ref b35), .val (.long (b + ((3 : Int32).toInt64))), .second, .val (.long (nn + (1 : Int64))), .second] [(.ref b9), (.ref b2), (.long ((nn + (1 : Int64)) - b)), (.ref b20)]))
        refine own_st (fun _ k' => XS.aload X256.here hx rfl (hb hby at_277) rfl rfl k') ?_
        show own_Go p.tables e below _ (T256.setTop (mkF m 279 #[.val (.long base), .second, .val (.long raw), .second, .val (.int delta), .val (.int count), .val (.int mode), .val (.long b), .second, .val (.int (3 : Int32)), .val (.long nn), .second, .val (.ref ms), .val (.ref b2), .val (.ref b9), .val (.ref b20), .val (.ref b35), .val (.long (b + ((3 : Int32).toInt64))), .second, .val (.long (nn + (1 : Int64))), .second] [(.ref b20), (.ref b9), (.ref b2), (.long ((nn + (1 : Int64)) - b)), (.ref b20)]))
        have hpk257 : own_pk ((nn + (1 : Int64)) - b) b2 b9 b20 = b20 := by
          have e : ((nn + (1 : Int64)) - b) = (3 : Int64) := (by have := hbb; have := rng64 nn; have := rng64 b; have := (by decide : (1 : Int64).toInt = 1); have := c_ladd b (1 : Int64); have := rng64 (b + (1 : Int64)); have := c_ladd (b + (1 : Int64)) (1 : Int64); have := rng64 ((b + (1 : Int64)) + (1 : Int64)); have := c_ladd ((b + (1 : Int64)) + (1 : Int64)) (1 : Int64); have := rng64 (((b + (1 : Int64)) + (1 : Int64)) + (1 : Int64)); have := c_ladd nn (1 : Int64); have := rng64 (nn + (1 : Int64)); have := c_lsub (nn + (1 : Int64)) b; have := rng64 ((nn + (1 : Int64)) - b); have := (by decide : (3 : Int64).toInt = 3); have := (Int64.lt_iff_toInt_lt).mp hd2_0; have := mt (Int64.lt_iff_toInt_lt).mpr hd2_1; refine (Int64.toInt_inj.symm).mpr ?_; omega : ((nn + (1 : Int64)) - b) = (3 : Int64))
          rw [e]; rfl
        obtain ⟨_, _, ⟨T258, L258, k258, n258⟩, -, X258, ⟨Lc258, hQ258, l258, y258, z258⟩, st258⟩ := Jvm.LawKit.callS X256 hx (y := (⟨"com/example/penumbra/penumbra/order/SequenceLogDropUpToPinLaw", "pick", "(JLcom/example/penumbra/penumbra/order/SequenceLog$Entry;Lcom/example/penumbra/penumbra/order/SequenceLog$Entry;Lcom/example/penumbra/penumbra/order/SequenceLog$Entry;)Lcom/example/penumbra/penumbra/order/SequenceLog$Entry;"⟩ : MethodName)) hown (mvT hZ (hw _ (List.mem_of_getElem? (i := 84) rfl))) (mvT hZ (hw _ (List.mem_of_getElem? (i := 85) rfl))) (mvT hZ (hw _ (List.mem_of_getElem? (i := 86) rfl))) (mvT hZ (hw _ (List.mem_of_getElem? (i := 87) rfl))) (by decide) (backOf (W := 1) (rmK l Z a0 hw [] ((nn + (1 : Int64)) - b) b2 b9 b20 T220.heap n0 Zc220 ) hZ (hw _ (List.mem_of_getElem? (i := 87) rfl)) (hw _ (List.mem_of_getElem? (i := 86) rfl)) (by decide) (by decide)) (g := (mkF m 279 #[.val (.long base), .second, .val (.long raw), .second, .val (.int delta), .val (.int count), .val (.int mode), .val (.long b), .second, .val (.int (3 : Int32)), .val (.long nn), .second, .val (.ref ms), .val (.ref b2), .val (.ref b9), .val (.ref b20), .val (.ref b35), .val (.long (b + ((3 : Int32).toInt64))), .second, .val (.long (nn + (1 : Int64))), .second] [(.ref b20), (.ref b9), (.ref b2), (.long ((nn + (1 : Int64)) - b)), (.ref b20)])) rfl (by rw [hml]; rfl) (argsL := [(.long ((nn + (1 : Int64)) - b)), (.ref b2), (.ref b9), (.ref b20)]) (rest := [(.ref b20)]) (lenOf pd__JLcom_example_penumbra_penumbra_order_SequenceLog_Entry_Lcom_example_penumbra_penumbra_order_SequenceLog_Entry_Lcom_example_penumbra_penumbra_order_SequenceLog_Entry__Lcom_example_penumbra_penumbra_order_SequenceLog_Entry_ rfl) rfl (by show 2 * 0 + _ ≤ _; exact Nat.le_of_eq rfl) (hb hby at_279) (fun _ _ => ⟨rfl, e256, (by decide : 6 + 0 ≤ _), (by decide : 1040 + 0 ≤ _)⟩)
        dsimp only [Pt.U, Pt.locs, Pt.cells, Pt.slots] at X258 l258 y258 z258 st258 hQ258
        subst l258 y258 z258
        rw [Q_rmK, hpk257] at hQ258
        obtain ⟨rfl, Nq258, e258⟩ := hQ258
        have N258 := Fr.app N256 Nq258
        refine own_st st258 ?_
        show own_Go p.tables e below _ (T258.setTop (mkF m 282 #[.val (.long base), .second, .val (.long raw), .second, .val (.int delta), .val (.int count), .val (.int mode), .val (.long b), .second, .val (.int (3 : Int32)), .val (.long nn), .second, .val (.ref ms), .val (.ref b2), .val (.ref b9), .val (.ref b20), .val (.ref b35), .val (.long (b + ((3 : Int32).toInt64))), .second, .val (.long (nn + (1 : Int64))), .second] [(.ref b20), (.ref b20)]))
        refine own_st (fun _ k' => Jvm.RoadKit.acmp (g := (mkF m 282 #[.val (.long base), .second, .val (.long raw), .second, .val (.int delta), .val (.int count), .val (.int mode), .val (.long b), .second, .val (.int (3 : Int32)), .val (.long nn), .second, .val (.ref ms), .val (.ref b2), .val (.ref b9), .val (.ref b20), .val (.ref b35), .val (.long (b + ((3 : Int32).toInt64))), .second, .val (.long (nn + (1 : Int64))), .second] [(.ref b20), (.ref b20)])) X258 hx rfl rfl rfl (pc0 := 282) (pc' := 287) (same := true) rfl (hb hby at_282) rfl (decide_eq_true rfl) (by decide) (by decide) k') ?_
        show own_Go p.tables e below _ (T258.setTop (mkF m 287 #[.val (.long base), .second, .val (.long raw), .second, .val (.int delta), .val (.int count), .val (.int mode), .val (.long b), .second, .val (.int (3 : Int32)), .val (.long nn), .second, .val (.ref ms), .val (.ref b2), .val (.ref b9), .val (.ref b20), .val (.ref b35), .val (.long (b + ((3 : Int32).toInt64))), .second, .val (.long (nn + (1 : Int64))), .second] []))
        refine own_st (fun _ k' => XS.aload X258.here hx rfl (hb hby at_287) rfl rfl k') ?_
        show own_Go p.tables e below _ (T258.setTop (mkF m 289 #[.val (.long base), .second, .val (.long raw), .second, .val (.int delta), .val (.int count), .val (.int mode), .val (.long b), .second, .val (.int (3 : Int32)), .val (.long nn), .second, .val (.ref ms), .val (.ref b2), .val (.ref b9), .val (.ref b20), .val (.ref b35), .val (.long (b + ((3 : Int32).toInt64))), .second, .val (.long (nn + (1 : Int64))), .second] [(.ref b35)]))
        refine own_st (fun _ k' => XS.lload X258.here hx rfl (hb hby at_289) rfl k') ?_
        show own_Go p.tables e below _ (T258.setTop (mkF m 291 #[.val (.long base), .second, .val (.long raw), .second, .val (.int delta), .val (.int count), .val (.int mode), .val (.long b), .second, .val (.int (3 : Int32)), .val (.long nn), .second, .val (.ref ms), .val (.ref b2), .val (.ref b9), .val (.ref b20), .val (.ref b35), .val (.long (b + ((3 : Int32).toInt64))), .second, .val (.long (nn + (1 : Int64))), .second] [(.long (b + ((3 : Int32).toInt64))), (.ref b35)]))
        have hdx259 : (((2 : Int32).toInt64 + (b + ((3 : Int32).toInt64))) - (((b + (1 : Int64)) + (1 : Int64)) + (1 : Int64))) = (2 : Int64) := (by have := hbb; have := rng64 nn; have := rng64 b; have := (by decide : (1 : Int64).toInt = 1); have := c_ladd b (1 : Int64); have := rng64 (b + (1 : Int64)); have := c_ladd (b + (1 : Int64)) (1 : Int64); have := rng64 ((b + (1 : Int64)) + (1 : Int64)); have := c_ladd ((b + (1 : Int64)) + (1 : Int64)) (1 : Int64); have := rng64 (((b + (1 : Int64)) + (1 : Int64)) + (1 : Int64)); have := (by decide : ((2 : Int32).toInt64).toInt = 2); have := (by decide : ((3 : Int32).toInt64).toInt = 3); have := c_ladd b (3 : Int32).toInt64; have := rng64 (b + (3 : Int32).toInt64); have := c_ladd (2 : Int32).toInt64 (b + (3 : Int32).toInt64); have := rng64 ((2 : Int32).toInt64 + (b + (3 : Int32).toInt64)); have := c_lsub ((2 : Int32).toInt64 + (b + (3 : Int32).toInt64)) (((b + (1 : Int64)) + (1 : Int64)) + (1 : Int64)); have := rng64 (((2 : Int32).toInt64 + (b + (3 : Int32).toInt64)) - (((b + (1 : Int64)) + (1 : Int64)) + (1 : Int64))); have := (by decide : (2 : Int64).toInt = 2); have := (Int64.lt_iff_toInt_lt).mp hd2_0; have := mt (Int64.lt_iff_toInt_lt).mpr hd2_1; refine (Int64.toInt_inj.symm).mpr ?_; omega : (((2 : Int32).toInt64 + (b + ((3 : Int32).toInt64))) - (((b + (1 : Int64)) + (1 : Int64)) + (1 : Int64))) = (2 : Int64))
        obtain ⟨cq260, kq260, q260a, q260b, q260c⟩ := isOf hZ e258 Ea220
        obtain ⟨_, _, ⟨T260, L260, k260, n260⟩, -, X260, ⟨Lc260, hQ260, l260, y260, z260⟩, st260⟩ := X258.virtualBack hx (y := (⟨"com/example/penumbra/penumbra/order/SequenceLog", "get", "(J)Lcom/example/penumbra/penumbra/order/SequenceLog$Entry;"⟩ : MethodName)) (z := (⟨"com/example/penumbra/penumbra/order/SequenceLog", "get", "(J)Lcom/example/penumbra/penumbra/order/SequenceLog$Entry;"⟩ : MethodName)) hown (mvT hZ (hw _ (List.mem_of_getElem? (i := 79) rfl))) (mvT hZ (hw _ (List.mem_of_getElem? (i := 80) rfl))) (notFace_of_selects (args := #[]) (mvT hZ (hw _ (List.mem_of_getElem? (i := 82) rfl)))) (mvT hZ (hw _ (List.mem_of_getElem? (i := 82) rfl))) (mvT hZ (hw _ (List.mem_of_getElem? (i := 81) rfl))) (by decide) (backOf (W := 0) (rmG l Z a0 hw [] b35 (b + ((3 : Int32).toInt64)) (((b + (1 : Int64)) + (1 : Int64)) + (1 : Int64)) (2 : Int32) (1 : Int32) rg kk .null .null (.ref b20) (2 : Int32) b20 T220.heap n0 Zc220 Ea220 Fa_ring220 Fa_first220 Fa_head220 Fa_size220 Va220 OV (by have := hbb; have := rng64 nn; have := rng64 b; have := (by decide : (1 : Int64).toInt = 1); have := c_ladd b (1 : Int64); have := rng64 (b + (1 : Int64)); have := c_ladd (b + (1 : Int64)) (1 : Int64); have := rng64 ((b + (1 : Int64)) + (1 : Int64)); have := c_ladd ((b + (1 : Int64)) + (1 : Int64)) (1 : Int64); have := rng64 (((b + (1 : Int64)) + (1 : Int64)) + (1 : Int64)); have := (by decide : ((3 : Int32).toInt64).toInt = 3); have := c_ladd b (3 : Int32).toInt64; have := rng64 (b + (3 : Int32).toInt64); have := (Int64.lt_iff_toInt_lt).mp hd2_0; have := mt (Int64.lt_iff_toInt_lt).mpr hd2_1; refine mt (Int64.lt_iff_toInt_lt).mp ?_; omega : ¬ (b + ((3 : Int32).toInt64)) < (((b + (1 : Int64)) + (1 : Int64)) + (1 : Int64))) (by have := hbb; have := rng64 nn; have := rng64 b; have := (by decide : (1 : Int64).toInt = 1); have := c_ladd b (1 : Int64); have := rng64 (b + (1 : Int64)); have := c_ladd (b + (1 : Int64)) (1 : Int64); have := rng64 ((b + (1 : Int64)) + (1 : Int64)); have := c_ladd ((b + (1 : Int64)) + (1 : Int64)) (1 : Int64); have := rng64 (((b + (1 : Int64)) + (1 : Int64)) + (1 : Int64)); have := (by decide : ((1 : Int32).toInt64).toInt = 1); have := c_ladd (((b + (1 : Int64)) + (1 : Int64)) + (1 : Int64)) (1 : Int32).toInt64; have := rng64 ((((b + (1 : Int64)) + (1 : Int64)) + (1 : Int64)) + (1 : Int32).toInt64); have := c_lsub ((((b + (1 : Int64)) + (1 : Int64)) + (1 : Int64)) + (1 : Int32).toInt64) (1 : Int64); have := rng64 (((((b + (1 : Int64)) + (1 : Int64)) + (1 : Int64)) + (1 : Int32).toInt64) - (1 : Int64)); have := (by decide : ((3 : Int32).toInt64).toInt = 3); have := c_ladd b (3 : Int32).toInt64; have := rng64 (b + (3 : Int32).toInt64); have := (Int64.lt_iff_toInt_lt).mp hd2_0; have := mt (Int64.lt_iff_toInt_lt).mpr hd2_1; refine mt (Int64.lt_iff_toInt_lt).mp ?_; omega : ¬ (((((b + (1 : Int64)) + (1 : Int64)) + (1 : Int64)) + ((1 : Int32).toInt64)) - (1 : Int64)) < (b + ((3 : Int32).toInt64))) (by rw [hdx259]; decide) (by decide) (by decide) rfl) hZ (hw _ (List.mem_of_getElem? (i := 83) rfl)) (hw _ (List.mem_of_getElem? (i := 28) rfl)) (by decide) (by decide)) q260a q260c (g := (mkF m 291 #[.val (.long base), .second, .val (.long raw), .second, .val (.int delta), .val (.int count), .val (.int mode), .val (.long b), .second, .val (.int (3 : Int32)), .val (.long nn), .second, .val (.ref ms), .val (.ref b2), .val (.ref b9), .val (.ref b20), .val (.ref b35), .val (.long (b + ((3 : Int32).toInt64))), .second, .val (.long (nn + (1 : Int64))), .second] [(.long (b + ((3 : Int32).toInt64))), (.ref b35)])) rfl (by rw [hml]; rfl) (Steps.refl _) (argsL := [(.long (b + ((3 : Int32).toInt64)))]) (rest := []) (lenOf pd__J_Lcom_example_penumbra_penumbra_order_SequenceLog_Entry_ rfl) rfl (by show 2 * 0 + _ ≤ _; exact Nat.le_of_eq rfl) (hb hby at_291) (fun _ _ => ⟨rfl, e258, (by decide : 6 + 0 ≤ _), (by decide : 1040 + 0 ≤ _)⟩)
        dsimp only [Pt.U, Pt.locs, Pt.cells, Pt.slots] at X260 l260 y260 z260 st260 hQ260
        subst l260 y260 z260
        obtain ⟨rfl, Nq260, e260⟩ := hQ260
        have N260 := Fr.app N258 Nq260
        refine own_tr st260 ?_
        show own_Go p.tables e below _ (T260.setTop (mkF m 294 #[.val (.long base), .second, .val (.long raw), .second, .val (.int delta), .val (.int count), .val (.int mode), .val (.long b), .second, .val (.int (3 : Int32)), .val (.long nn), .second, .val (.ref ms), .val (.ref b2), .val (.ref b9), .val (.ref b20), .val (.ref b35), .val (.long (b + ((3 : Int32).toInt64))), .second, .val (.long (nn + (1 : Int64))), .second] [(.ref b20)]))
        refine own_st (fun _ k' => XS.iload X260.here hx rfl (hb hby at_294) rfl k') ?_
        show own_Go p.tables e below _ (T260.setTop (mkF m 296 #[.val (.long base), .second, .val (.long raw), .second, .val (.int delta), .val (.int count), .val (.int mode), .val (.long b), .second, .val (.int (3 : Int32)), .val (.long nn), .second, .val (.ref ms), .val (.ref b2), .val (.ref b9), .val (.ref b20), .val (.ref b35), .val (.long (b + ((3 : Int32).toInt64))), .second, .val (.long (nn + (1 : Int64))), .second] [(.int (3 : Int32)), (.ref b20)]))
        refine own_st (fun _ k' => XS.i2l X260.here hx rfl (hb hby at_296) rfl k') ?_
        show own_Go p.tables e below _ (T260.setTop (mkF m 297 #[.val (.long base), .second, .val (.long raw), .second, .val (.int delta), .val (.int count), .val (.int mode), .val (.long b), .second, .val (.int (3 : Int32)), .val (.long nn), .second, .val (.ref ms), .val (.ref b2), .val (.ref b9), .val (.ref b20), .val (.ref b35), .val (.long (b + ((3 : Int32).toInt64))), .second, .val (.long (nn + (1 : Int64))), .second] [(.long ((3 : Int32).toInt64)), (.ref b20)]))
        refine own_st (fun _ k' => XS.aload X260.here hx rfl (hb hby at_297) rfl rfl k') ?_
        show own_Go p.tables e below _ (T260.setTop (mkF m 299 #[.val (.long base), .second, .val (.long raw), .second, .val (.int delta), .val (.int count), .val (.int mode), .val (.long b), .second, .val (.int (3 : Int32)), .val (.long nn), .second, .val (.ref ms), .val (.ref b2), .val (.ref b9), .val (.ref b20), .val (.ref b35), .val (.long (b + ((3 : Int32).toInt64))), .second, .val (.long (nn + (1 : Int64))), .second] [(.ref b2), (.long ((3 : Int32).toInt64)), (.ref b20)]))
        refine own_st (fun _ k' => XS.aload X260.here hx rfl (hb hby at_299) rfl rfl k') ?_
        show own_Go p.tables e below _ (T260.setTop (mkF m 301 #[.val (.long base), .second, .val (.long raw), .second, .val (.int delta), .val (.int count), .val (.int mode), .val (.long b), .second, .val (.int (3 : Int32)), .val (.long nn), .second, .val (.ref ms), .val (.ref b2), .val (.ref b9), .val (.ref b20), .val (.ref b35), .val (.long (b + ((3 : Int32).toInt64))), .second, .val (.long (nn + (1 : Int64))), .second] [(.ref b9), (.ref b2), (.long ((3 : Int32).toInt64)), (.ref b20)]))
        refine own_st (fun _ k' => XS.aload X260.here hx rfl (hb hby at_301) rfl rfl k') ?_
        show own_Go p.tables e below _ (T260.setTop (mkF m 303 #[.val (.long base), .second, .val (.long raw), .second, .val (.int delta), .val (.int count), .val (.int mode), .val (.long b), .second, .val (.int (3 : Int32)), .val (.long nn), .second, .val (.ref ms), .val (.ref b2), .val (.ref b9), .val (.ref b20), .val (.ref b35), .val (.long (b + ((3 : Int32).toInt64))), .second, .val (.long (nn + (1 : Int64))), .second] [(.ref b20), (.ref b9), (.ref b2), (.long ((3 : Int32).toInt64)), (.ref b20)]))
        have hpk261 : own_pk ((3 : Int32).toInt64) b2 b9 b20 = b20 := by
          have e : ((3 : Int32).toInt64) = (3 : Int64) := (by have := hbb; have := rng64 nn; have := rng64 b; have := (by decide : (1 : Int64).toInt = 1); have := c_ladd b (1 : Int64); have := rng64 (b + (1 : Int64)); have := c_ladd (b + (1 : Int64)) (1 : Int64); have := rng64 ((b + (1 : Int64)) + (1 : Int64)); have := c_ladd ((b + (1 : Int64)) + (1 : Int64)) (1 : Int64); have := rng64 (((b + (1 : Int64)) + (1 : Int64)) + (1 : Int64)); have := (by decide : ((3 : Int32).toInt64).toInt = 3); have := (by decide : (3 : Int64).toInt = 3); have := (Int64.lt_iff_toInt_lt).mp hd2_0; have := mt (Int64.lt_iff_toInt_lt).mpr hd2_1; refine (Int64.toInt_inj.symm).mpr ?_; omega : ((3 : Int32).toInt64) = (3 : Int64))
          rw [e]; rfl
        obtain ⟨_, _, ⟨T262, L262, k262, n262⟩, -, X262, ⟨Lc262, hQ262, l262, y262, z262⟩, st262⟩ := Jvm.LawKit.callS X260 hx (y := (⟨"com/example/penumbra/penumbra/order/SequenceLogDropUpToPinLaw", "pick", "(JLcom/example/penumbra/penumbra/order/SequenceLog$Entry;Lcom/example/penumbra/penumbra/order/SequenceLog$Entry;Lcom/example/penumbra/penumbra/order/SequenceLog$Entry;)Lcom/example/penumbra/penumbra/order/SequenceLog$Entry;"⟩ : MethodName)) hown (mvT hZ (hw _ (List.mem_of_getElem? (i := 84) rfl))) (mvT hZ (hw _ (List.mem_of_getElem? (i := 85) rfl))) (mvT hZ (hw _ (List.mem_of_getElem? (i := 86) rfl))) (mvT hZ (hw _ (List.mem_of_getElem? (i := 87) rfl))) (by decide) (backOf (W := 1) (rmK l Z a0 hw [] ((3 : Int32).toInt64) b2 b9 b20 T220.heap n0 Zc220 ) hZ (hw _ (List.mem_of_getElem? (i := 87) rfl)) (hw _ (List.mem_of_getElem? (i := 86) rfl)) (by decide) (by decide)) (g := (mkF m 303 #[.val (.long base), .second, .val (.long raw), .second, .val (.int delta), .val (.int count), .val (.int mode), .val (.long b), .second, .val (.int (3 : Int32)), .val (.long nn), .second, .val (.ref ms), .val (.ref b2), .val (.ref b9), .val (.ref b20), .val (.ref b35), .val (.long (b + ((3 : Int32).toInt64))), .second, .val (.long (nn + (1 : Int64))), .second] [(.ref b20), (.ref b9), (.ref b2), (.long ((3 : Int32).toInt64)), (.ref b20)])) rfl (by rw [hml]; rfl) (argsL := [(.long ((3 : Int32).toInt64)), (.ref b2), (.ref b9), (.ref b20)]) (rest := [(.ref b20)]) (lenOf pd__JLcom_example_penumbra_penumbra_order_SequenceLog_Entry_Lcom_example_penumbra_penumbra_order_SequenceLog_Entry_Lcom_example_penumbra_penumbra_order_SequenceLog_Entry__Lcom_example_penumbra_penumbra_order_SequenceLog_Entry_ rfl) rfl (by show 2 * 0 + _ ≤ _; exact Nat.le_of_eq rfl) (hb hby at_303) (fun _ _ => ⟨rfl, e260, (by decide : 6 + 0 ≤ _), (by decide : 1040 + 0 ≤ _)⟩)
        dsimp only [Pt.U, Pt.locs, Pt.cells, Pt.slots] at X262 l262 y262 z262 st262 hQ262
        subst l262 y262 z262
        rw [Q_rmK, hpk261] at hQ262
        obtain ⟨rfl, Nq262, e262⟩ := hQ262
        have N262 := Fr.app N260 Nq262
        refine own_st st262 ?_
        show own_Go p.tables e below _ (T262.setTop (mkF m 306 #[.val (.long base), .second, .val (.long raw), .second, .val (.int delta), .val (.int count), .val (.int mode), .val (.long b), .second, .val (.int (3 : Int32)), .val (.long nn), .second, .val (.ref ms), .val (.ref b2), .val (.ref b9), .val (.ref b20), .val (.ref b35), .val (.long (b + ((3 : Int32).toInt64))), .second, .val (.long (nn + (1 : Int64))), .second] [(.ref b20), (.ref b20)]))
        refine own_st (fun _ k' => Jvm.RoadKit.acmp (g := (mkF m 306 #[.val (.long base), .second, .val (.long raw), .second, .val (.int delta), .val (.int count), .val (.int mode), .val (.long b), .second, .val (.int (3 : Int32)), .val (.long nn), .second, .val (.ref ms), .val (.ref b2), .val (.ref b9), .val (.ref b20), .val (.ref b35), .val (.long (b + ((3 : Int32).toInt64))), .second, .val (.long (nn + (1 : Int64))), .second] [(.ref b20), (.ref b20)])) X262 hx rfl rfl rfl (pc0 := 306) (pc' := 311) (same := true) rfl (hb hby at_306) rfl (decide_eq_true rfl) (by decide) (by decide) k') ?_
        show own_Go p.tables e below _ (T262.setTop (mkF m 311 #[.val (.long base), .second, .val (.long raw), .second, .val (.int delta), .val (.int count), .val (.int mode), .val (.long b), .second, .val (.int (3 : Int32)), .val (.long nn), .second, .val (.ref ms), .val (.ref b2), .val (.ref b9), .val (.ref b20), .val (.ref b35), .val (.long (b + ((3 : Int32).toInt64))), .second, .val (.long (nn + (1 : Int64))), .second] []))
        refine own_st (fun _ k' => XS.iconst X262.here hx rfl (hb hby at_311) k') ?_
        show own_Go p.tables e below _ (T262.setTop (mkF m 312 #[.val (.long base), .second, .val (.long raw), .second, .val (.int delta), .val (.int count), .val (.int mode), .val (.long b), .second, .val (.int (3 : Int32)), .val (.long nn), .second, .val (.ref ms), .val (.ref b2), .val (.ref b9), .val (.ref b20), .val (.ref b35), .val (.long (b + ((3 : Int32).toInt64))), .second, .val (.long (nn + (1 : Int64))), .second] [(.int (1 : Int32))]))
        exact own_retN X262 hx (t := .boolean) Bd.returns (by simp) (hb hby at_312) Bd.notSynchronized ⟨rfl, N262⟩ (by decide) (by decide)
      ·  -- 3 dropped of 3
        refine own_tr st220 ?_
        show own_Go p.tables e below _ (T220.setTop (mkF m 165 #[.val (.long base), .second, .val (.long raw), .second, .val (.int delta), .val (.int count), .val (.int mode), .val (.long b), .second, .val (.int (3 : Int32)), .val (.long nn), .second, .val (.ref ms), .val (.ref b2), .val (.ref b9), .val (.ref b20), .val (.ref b35), .unset, .unset, .unset, .unset] []))
        refine own_st (fun _ k' => XS.lload X220.here hx rfl (hb hby at_165) rfl k') ?_
        show own_Go p.tables e below _ (T220.setTop (mkF m 167 #[.val (.long base), .second, .val (.long raw), .second, .val (.int delta), .val (.int count), .val (.int mode), .val (.long b), .second, .val (.int (3 : Int32)), .val (.long nn), .second, .val (.ref ms), .val (.ref b2), .val (.ref b9), .val (.ref b20), .val (.ref b35), .unset, .unset, .unset, .unset] [(.long b)]))
        refine own_st (fun _ k' => XS.iload X220.here hx rfl (hb hby at_167) rfl k') ?_
        show own_Go p.tables e below _ (T220.setTop (mkF m 169 #[.val (.long base), .second, .val (.long raw), .second, .val (.int delta), .val (.int count), .val (.int mode), .val (.long b), .second, .val (.int (3 : Int32)), .val (.long nn), .second, .val (.ref ms), .val (.ref b2), .val (.ref b9), .val (.ref b20), .val (.ref b35), .unset, .unset, .unset, .unset] [(.int (3 : Int32)), (.long b)]))
        refine own_st (fun _ k' => XS.i2l X220.here hx rfl (hb hby at_169) rfl k') ?_
        show own_Go p.tables e below _ (T220.setTop (mkF m 170 #[.val (.long base), .second, .val (.long raw), .second, .val (.int delta), .val (.int count), .val (.int mode), .val (.long b), .second, .val (.int (3 : Int32)), .val (.long nn), .second, .val (.ref ms), .val (.ref b2), .val (.ref b9), .val (.ref b20), .val (.ref b35), .unset, .unset, .unset, .unset] [(.long ((3 : Int32).toInt64)), (.long b)]))
        refine own_st (fun _ k' => XS.ladd X220.here hx rfl (hb hby at_170) rfl k') ?_
        show own_Go p.tables e below _ (T220.setTop (mkF m 171 #[.val (.long base), .second, .val (.long raw), .second, .val (.int delta), .val (.int count), .val (.int mode), .val (.long b), .second, .val (.int (3 : Int32)), .val (.long nn), .second, .val (.ref ms), .val (.ref b2), .val (.ref b9), .val (.ref b20), .val (.ref b35), .unset, .unset, .unset, .unset] [(.long (b + ((3 : Int32).toInt64)))]))
        refine own_st (fun _ k' => XS.lstore X220.here hx rfl (hb hby at_171) rfl (l' := #[.val (.long base), .second, .val (.long raw), .second, .val (.int delta), .val (.int count), .val (.int mode), .val (.long b), .second, .val (.int (3 : Int32)), .val (.long nn), .second, .val (.ref ms), .val (.ref b2), .val (.ref b9), .val (.ref b20), .val (.ref b35), .val (.long (b + ((3 : Int32).toInt64))), .second, .unset, .unset]) rfl k') ?_
        show own_Go p.tables e below _ (T220.setTop (mkF m 173 #[.val (.long base), .second, .val (.long raw), .second, .val (.int delta), .val (.int count), .val (.int mode), .val (.long b), .second, .val (.int (3 : Int32)), .val (.long nn), .second, .val (.ref ms), .val (.ref b2), .val (.ref b9), .val (.ref b20), .val (.ref b35), .val (.long (b + ((3 : Int32).toInt64))), .second, .unset, .unset] []))
        refine own_st (fun _ k' => XS.iload X220.here hx rfl (hb hby at_173) rfl k') ?_
        show own_Go p.tables e below _ (T220.setTop (mkF m 175 #[.val (.long base), .second, .val (.long raw), .second, .val (.int delta), .val (.int count), .val (.int mode), .val (.long b), .second, .val (.int (3 : Int32)), .val (.long nn), .second, .val (.ref ms), .val (.ref b2), .val (.ref b9), .val (.ref b20), .val (.ref b35), .val (.long (b + ((3 : Int32).toInt64))), .second, .unset, .unset] [(.int (3 : Int32))]))
        refine own_st (fun _ k' => XS.ifYes X220.here hx rfl (pc0 := 175) (pc' := 187) rfl (hb hby at_175) rfl ((if0 _ _).trans (feq (by decide : ¬ (3 : Int32) = (0 : Int32))).2) (by decide) (by decide) k') ?_
        show own_Go p.tables e below _ (T220.setTop (mkF m 187 #[.val (.long base), .second, .val (.long raw), .second, .val (.int delta), .val (.int count), .val (.int mode), .val (.long b), .second, .val (.int (3 : Int32)), .val (.long nn), .second, .val (.ref ms), .val (.ref b2), .val (.ref b9), .val (.ref b20), .val (.ref b35), .val (.long (b + ((3 : Int32).toInt64))), .second, .unset, .unset] []))
        refine own_st (fun _ k' => XS.lload X220.here hx rfl (hb hby at_187) rfl k') ?_
        show own_Go p.tables e below _ (T220.setTop (mkF m 189 #[.val (.long base), .second, .val (.long raw), .second, .val (.int delta), .val (.int count), .val (.int mode), .val (.long b), .second, .val (.int (3 : Int32)), .val (.long nn), .second, .val (.ref ms), .val (.ref b2), .val (.ref b9), .val (.ref b20), .val (.ref b35), .val (.long (b + ((3 : Int32).toInt64))), .second, .unset, .unset] [(.long nn)]))
        refine own_st (fun _ k' => XS.lload X220.here hx rfl (hb hby at_189) rfl k') ?_
        show own_Go p.tables e below _ (T220.setTop (mkF m 191 #[.val (.long base), .second, .val (.long raw), .second, .val (.int delta), .val (.int count), .val (.int mode), .val (.long b), .second, .val (.int (3 : Int32)), .val (.long nn), .second, .val (.ref ms), .val (.ref b2), .val (.ref b9), .val (.ref b20), .val (.ref b35), .val (.long (b + ((3 : Int32).toInt64))), .second, .unset, .unset] [(.long b), (.long nn)]))
        refine own_st (fun _ k' => XS.lcmp X220.here hx rfl (hb hby at_191) rfl k') ?_
        show own_Go p.tables e below _ (T220.setTop (mkF m 192 #[.val (.long base), .second, .val (.long raw), .second, .val (.int delta), .val (.int count), .val (.int mode), .val (.long b), .second, .val (.int (3 : Int32)), .val (.long nn), .second, .val (.ref ms), .val (.ref b2), .val (.ref b9), .val (.ref b20), .val (.ref b35), .val (.long (b + ((3 : Int32).toInt64))), .second, .unset, .unset] [(.int (lcmpW nn b))]))
        refine own_st (fun _ k' => XS.ifYes X220.here hx rfl (pc0 := 192) (pc' := 204) rfl (hb hby at_192) rfl ((if0 _ _).trans (tlt ((lw_gt nn b).mpr (by have := hbb; have := rng64 nn; have := rng64 b; have := (by decide : (1 : Int64).toInt = 1); have := c_ladd b (1 : Int64); have := rng64 (b + (1 : Int64)); have := c_ladd (b + (1 : Int64)) (1 : Int64); have := rng64 ((b + (1 : Int64)) + (1 : Int64)); have := c_ladd ((b + (1 : Int64)) + (1 : Int64)) (1 : Int64); have := rng64 (((b + (1 : Int64)) + (1 : Int64)) + (1 : Int64)); have := mt (Int64.lt_iff_toInt_lt).mpr hd3_0; refine (Int64.lt_iff_toInt_lt).mpr ?_; omega : b < nn))).2.2.1) (by decide) (by decide) k') ?_
        show own_Go p.tables e below _ (T220.setTop (mkF m 204 #[.val (.long base), .second, .val (.long raw), .second, .val (.int delta), .val (.int count), .val (.int mode), .val (.long b), .second, .val (.int (3 : Int32)), .val (.long nn), .second, .val (.ref ms), .val (.ref b2), .val (.ref b9), .val (.ref b20), .val (.ref b35), .val (.long (b + ((3 : Int32).toInt64))), .second, .unset, .unset] []))
        refine own_st (fun _ k' => XS.lload X220.here hx rfl (hb hby at_204) rfl k') ?_
        show own_Go p.tables e below _ (T220.setTop (mkF m 206 #[.val (.long base), .second, .val (.long raw), .second, .val (.int delta), .val (.int count), .val (.int mode), .val (.long b), .second, .val (.int (3 : Int32)), .val (.long nn), .second, .val (.ref ms), .val (.ref b2), .val (.ref b9), .val (.ref b20), .val (.ref b35), .val (.long (b + ((3 : Int32).toInt64))), .second, .unset, .unset] [(.long nn)]))
        refine own_st (fun _ k' => XS.lload X220.here hx rfl (hb hby at_206) rfl k') ?_
        show own_Go p.tables e below _ (T220.setTop (mkF m 208 #[.val (.long base), .second, .val (.long raw), .second, .val (.int delta), .val (.int count), .val (.int mode), .val (.long b), .second, .val (.int (3 : Int32)), .val (.long nn), .second, .val (.ref ms), .val (.ref b2), .val (.ref b9), .val (.ref b20), .val (.ref b35), .val (.long (b + ((3 : Int32).toInt64))), .second, .unset, .unset] [(.long (b + ((3 : Int32).toInt64))), (.long nn)]))
        refine own_st (fun _ k' => XS.lcmp X220.here hx rfl (hb hby at_208) rfl k') ?_
        show own_Go p.tables e below _ (T220.setTop (mkF m 209 #[.val (.long base), .second, .val (.long raw), .second, .val (.int delta), .val (.int count), .val (.int mode), .val (.long b), .second, .val (.int (3 : Int32)), .val (.long nn), .second, .val (.ref ms), .val (.ref b2), .val (.ref b9), .val (.ref b20), .val (.ref b35), .val (.long (b + ((3 : Int32).toInt64))), .second, .unset, .unset] [(.int (lcmpW nn (b + ((3 : Int32).toInt64))))]))
        refine own_st (fun _ k' => XS.ifNo X220.here hx rfl (hb hby at_209) rfl ((if0 _ _).trans (flt (mt (lw_lt nn (b + ((3 : Int32).toInt64))).mp (by have := hbb; have := rng64 nn; have := rng64 b; have := (by decide : (1 : Int64).toInt = 1); have := c_ladd b (1 : Int64); have := rng64 (b + (1 : Int64)); have := c_ladd (b + (1 : Int64)) (1 : Int64); have := rng64 ((b + (1 : Int64)) + (1 : Int64)); have := c_ladd ((b + (1 : Int64)) + (1 : Int64)) (1 : Int64); have := rng64 (((b + (1 : Int64)) + (1 : Int64)) + (1 : Int64)); have := (by decide : ((3 : Int32).toInt64).toInt = 3); have := c_ladd b (3 : Int32).toInt64; have := rng64 (b + (3 : Int32).toInt64); have := mt (Int64.lt_iff_toInt_lt).mpr hd3_0; refine mt (Int64.lt_iff_toInt_lt).mp ?_; omega : ¬ nn < (b + ((3 : Int32).toInt64))))).1) k') ?_
        show own_Go p.tables e below _ (T220.setTop (mkF m 212 #[.val (.long base), .second, .val (.long raw), .second, .val (.int delta), .val (.int count), .val (.int mode), .val (.long b), .second, .val (.int (3 : Int32)), .val (.long nn), .second, .val (.ref ms), .val (.ref b2), .val (.ref b9), .val (.ref b20), .val (.ref b35), .val (.long (b + ((3 : Int32).toInt64))), .second, .unset, .unset] []))
        refine own_st (fun _ k' => XS.lload X220.here hx rfl (hb hby at_212) rfl k') ?_
        show own_Go p.tables e below _ (T220.setTop (mkF m 214 #[.val (.long base), .second, .val (.long raw), .second, .val (.int delta), .val (.int count), .val (.int mode), .val (.long b), .second, .val (.int (3 : Int32)), .val (.long nn), .second, .val (.ref ms), .val (.ref b2), .val (.ref b9), .val (.ref b20), .val (.ref b35), .val (.long (b + ((3 : Int32).toInt64))), .second, .unset, .unset] [(.long (b + ((3 : Int32).toInt64)))]))
        refine own_st (fun _ k' => XS.lconst X220.here hx rfl (hb hby at_214) k') ?_
        show own_Go p.tables e below _ (T220.setTop (mkF m 215 #[.val (.long base), .second, .val (.long raw), .second, .val (.int delta), .val (.int count), .val (.int mode), .val (.long b), .second, .val (.int (3 : Int32)), .val (.long nn), .second, .val (.ref ms), .val (.ref b2), .val (.ref b9), .val (.ref b20), .val (.ref b35), .val (.long (b + ((3 : Int32).toInt64))), .second, .unset, .unset] [(.long (1 : Int64)), (.long (b + ((3 : Int32).toInt64)))]))
        refine own_st (fun _ k' => XS.ladd X220.here hx rfl (hb hby at_215) rfl k') ?_
        show own_Go p.tables e below _ (T220.setTop (mkF m 216 #[.val (.long base), .second, .val (.long raw), .second, .val (.int delta), .val (.int count), .val (.int mode), .val (.long b), .second, .val (.int (3 : Int32)), .val (.long nn), .second, .val (.ref ms), .val (.ref b2), .val (.ref b9), .val (.ref b20), .val (.ref b35), .val (.long (b + ((3 : Int32).toInt64))), .second, .unset, .unset] [(.long ((b + ((3 : Int32).toInt64)) + (1 : Int64)))]))
        refine own_st (fun _ k' => XS.lstore X220.here hx rfl (hb hby at_216) rfl (l' := #[.val (.long base), .second, .val (.long raw), .second, .val (.int delta), .val (.int count), .val (.int mode), .val (.long b), .second, .val (.int (3 : Int32)), .val (.long nn), .second, .val (.ref ms), .val (.ref b2), .val (.ref b9), .val (.ref b20), .val (.ref b35), .val (.long (b + ((3 : Int32).toInt64))), .second, .val (.long ((b + ((3 : Int32).toInt64)) + (1 : Int64))), .second]) rfl k') ?_
        show own_Go p.tables e below _ (T220.setTop (mkF m 218 #[.val (.long base), .second, .val (.long raw), .second, .val (.int delta), .val (.int count), .val (.int mode), .val (.long b), .second, .val (.int (3 : Int32)), .val (.long nn), .second, .val (.ref ms), .val (.ref b2), .val (.ref b9), .val (.ref b20), .val (.ref b35), .val (.long (b + ((3 : Int32).toInt64))), .second, .val (.long ((b + ((3 : Int32).toInt64)) + (1 : Int64))), .second] []))
        refine own_st (fun _ k' => XS.goto X220.here hx rfl (pc0 := 218) (pc' := 227) rfl (hb hby at_218) (by decide) (by decide) k') ?_
        show own_Go p.tables e below _ (T220.setTop (mkF m 227 #[.val (.long base), .second, .val (.long raw), .second, .val (.int delta), .val (.int count), .val (.int mode), .val (.long b), .second, .val (.int (3 : Int32)), .val (.long nn), .second, .val (.ref ms), .val (.ref b2), .val (.ref b9), .val (.ref b20), .val (.ref b35), .val (.long (b + ((3 : Int32).toInt64))), .second, .val (.long ((b + ((3 : Int32).toInt64)) + (1 : Int64))), .second] []))
        refine own_st (fun _ k' => XS.aload X220.here hx rfl (hb hby at_227) rfl rfl k') ?_
        show own_Go p.tables e below _ (T220.setTop (mkF m 229 #[.val (.long base), .second, .val (.long raw), .second, .val (.int delta), .val (.int count), .val (.int mode), .val (.long b), .second, .val (.int (3 : Int32)), .val (.long nn), .second, .val (.ref ms), .val (.ref b2), .val (.ref b9), .val (.ref b20), .val (.ref b35), .val (.long (b + ((3 : Int32).toInt64))), .second, .val (.long ((b + ((3 : Int32).toInt64)) + (1 : Int64))), .second] [(.ref b35)]))
        obtain ⟨cq263, kq263, q263a, q263b, q263c⟩ := isOf hZ rfl Ea220
        obtain ⟨_, _, ⟨T263, L263, k263, n263⟩, -, X263, ⟨Lc263, hQ263, l263, y263, z263⟩, st263⟩ := X220.virtualBack hx (y := (⟨"com/example/penumbra/penumbra/order/SequenceLog", "first", "()J"⟩ : MethodName)) (z := (⟨"com/example/penumbra/penumbra/order/SequenceLog", "first", "()J"⟩ : MethodName)) hown (mvT hZ (hw _ (List.mem_of_getElem? (i := 73) rfl))) (mvT hZ (hw _ (List.mem_of_getElem? (i := 74) rfl))) (notFace_of_selects (args := #[]) (mvT hZ (hw _ (List.mem_of_getElem? (i := 76) rfl)))) (mvT hZ (hw _ (List.mem_of_getElem? (i := 76) rfl))) (mvT hZ (hw _ (List.mem_of_getElem? (i := 75) rfl))) (by decide) (backOf (W := 0) (rmFi l Z a0 hw [] b35 ((((b + (1 : Int64)) + (1 : Int64)) + (1 : Int64)) + (1 : Int64)) T220.heap n0 Zc220 Fa_first220) hZ (hw _ (List.mem_of_getElem? (i := 77) rfl)) (hw _ (List.mem_of_getElem? (i := 28) rfl)) (by decide) (by decide)) q263a q263c (g := (mkF m 229 #[.val (.long base), .second, .val (.long raw), .second, .val (.int delta), .val (.int count), .val (.int mode), .val (.long b), .second, .val (.int (3 : Int32)), .val (.long nn), .second, .val (.ref ms), .val (.ref b2), .val (.ref b9), .val (.ref b20), .val (.ref b35), .val (.long (b + ((3 : Int32).toInt64))), .second, .val (.long ((b + ((3 : Int32).toInt64)) + (1 : Int64))), .second] [(.ref b35)])) rfl (by rw [hml]; rfl) (Steps.refl _) (argsL := []) (rest := []) (lenOf pd___J rfl) rfl (by show 2 * 0 + _ ≤ _; exact Nat.le_of_eq rfl) (hb hby at_229) (fun _ _ => ⟨rfl, rfl, (by decide : 6 + 0 ≤ _), (by decide : 1040 + 0 ≤ _)⟩)
        dsimp only [Pt.U, Pt.locs, Pt.cells, Pt.slots] at X263 l263 y263 z263 st263 hQ263
        subst l263 y263 z263
        obtain ⟨rfl, Nq263, e263⟩ := hQ263
        have N263 := Fr.app N220 Nq263
        refine own_tr st263 ?_
        show own_Go p.tables e below _ (T263.setTop (mkF m 232 #[.val (.long base), .second, .val (.long raw), .second, .val (.int delta), .val (.int count), .val (.int mode), .val (.long b), .second, .val (.int (3 : Int32)), .val (.long nn), .second, .val (.ref ms), .val (.ref b2), .val (.ref b9), .val (.ref b20), .val (.ref b35), .val (.long (b + ((3 : Int32).toInt64))), .second, .val (.long ((b + ((3 : Int32).toInt64)) + (1 : Int64))), .second] [(.long ((((b + (1 : Int64)) + (1 : Int64)) + (1 : Int64)) + (1 : Int64)))]))
        refine own_st (fun _ k' => XS.lload X263.here hx rfl (hb hby at_232) rfl k') ?_
        show own_Go p.tables e below _ (T263.setTop (mkF m 234 #[.val (.long base), .second, .val (.long raw), .second, .val (.int delta), .val (.int count), .val (.int mode), .val (.long b), .second, .val (.int (3 : Int32)), .val (.long nn), .second, .val (.ref ms), .val (.ref b2), .val (.ref b9), .val (.ref b20), .val (.ref b35), .val (.long (b + ((3 : Int32).toInt64))), .second, .val (.long ((b + ((3 : Int32).toInt64)) + (1 : Int64))), .second] [(.long ((b + ((3 : Int32).toInt64)) + (1 : Int64))), (.long ((((b + (1 : Int64)) + (1 : Int64)) + (1 : Int64)) + (1 : Int64)))]))
        refine own_st (fun _ k' => XS.lcmp X263.here hx rfl (hb hby at_234) rfl k') ?_
        show own_Go p.tables e below _ (T263.setTop (mkF m 235 #[.val (.long base), .second, .val (.long raw), .second, .val (.int delta), .val (.int count), .val (.int mode), .val (.long b), .second, .val (.int (3 : Int32)), .val (.long nn), .second, .val (.ref ms), .val (.ref b2), .val (.ref b9), .val (.ref b20), .val (.ref b35), .val (.long (b + ((3 : Int32).toInt64))), .second, .val (.long ((b + ((3 : Int32).toInt64)) + (1 : Int64))), .second] [(.int (lcmpW ((((b + (1 : Int64)) + (1 : Int64)) + (1 : Int64)) + (1 : Int64)) ((b + ((3 : Int32).toInt64)) + (1 : Int64))))]))
        refine own_st (fun _ k' => XS.ifYes X263.here hx rfl (pc0 := 235) (pc' := 240) rfl (hb hby at_235) rfl ((if0 _ _).trans (teq ((lw_eq ((((b + (1 : Int64)) + (1 : Int64)) + (1 : Int64)) + (1 : Int64)) ((b + ((3 : Int32).toInt64)) + (1 : Int64))).mpr (by have := hbb; have := rng64 nn; have := rng64 b; have := (by decide : (1 : Int64).toInt = 1); have := c_ladd b (1 : Int64); have := rng64 (b + (1 : Int64)); have := c_ladd (b + (1 : Int64)) (1 : Int64); have := rng64 ((b + (1 : Int64)) + (1 : Int64)); have := c_ladd ((b + (1 : Int64)) + (1 : Int64)) (1 : Int64); have := rng64 (((b + (1 : Int64)) + (1 : Int64)) + (1 : Int64)); have := c_ladd (((b + (1 : Int64)) + (1 : Int64)) + (1 : Int64)) (1 : Int64); have := rng64 ((((b + (1 : Int64)) + (1 : Int64)) + (1 : Int64)) + (1 : Int64)); have := (by decide : ((3 : Int32).toInt64).toInt = 3); have := c_ladd b (3 : Int32).toInt64; have := rng64 (b + (3 : Int32).toInt64); have := c_ladd (b + (3 : Int32).toInt64) (1 : Int64); have := rng64 ((b + (3 : Int32).toInt64) + (1 : Int64)); have := mt (Int64.lt_iff_toInt_lt).mpr hd3_0; refine (Int64.toInt_inj.symm).mpr ?_; omega : ((((b + (1 : Int64)) + (1 : Int64)) + (1 : Int64)) + (1 : Int64)) = ((b + ((3 : Int32).toInt64)) + (1 : Int64))))).1) (by decide) (by decide) k') ?_
        show own_Go p.tables e below _ (T263.setTop (mkF m 240 #[.val (.long base), .second, .val (.long raw), .second, .val (.int delta), .val (.int count), .val (.int mode), .val (.long b), .second, .val (.int (3 : Int32)), .val (.long nn), .second, .val (.ref ms), .val (.ref b2), .val (.ref b9), .val (.ref b20), .val (.ref b35), .val (.long (b + ((3 : Int32).toInt64))), .second, .val (.long ((b + ((3 : Int32).toInt64)) + (1 : Int64))), .second] []))
        refine own_st (fun _ k' => XS.aload X263.here hx rfl (hb hby at_240) rfl rfl k') ?_
        show own_Go p.tables e below _ (T263.setTop (mkF m 242 #[.val (.long base), .second, .val (.long raw), .second, .val (.int delta), .val (.int count), .val (.int mode), .val (.long b), .second, .val (.int (3 : Int32)), .val (.long nn), .second, .val (.ref ms), .val (.ref b2), .val (.ref b9), .val (.ref b20), .val (.ref b35), .val (.long (b + ((3 : Int32).toInt64))), .second, .val (.long ((b + ((3 : Int32).toInt64)) + (1 : Int64))), .second] [(.ref b35)]))
        obtain ⟨cq264, kq264, q264a, q264b, q264c⟩ := isOf hZ e263 Ea220
        obtain ⟨_, _, ⟨T264, L264, k264, n264⟩, -, X264, ⟨Lc264, hQ264, l264, y264, z264⟩, st264⟩ := X263.virtualBack hx (y := (⟨"com/example/penumbra/penumbra/order/SequenceLog", "last", "()J"⟩ : MethodName)) (z := (⟨"com/example/penumbra/penumbra/order/SequenceLog", "last", "()J"⟩ : MethodName)) hown (mvT hZ (hw _ (List.mem_of_getElem? (i := 78) rfl))) (mvT hZ (hw _ (List.mem_of_getElem? (i := 63) rfl))) (notFace_of_selects (args := #[]) (mvT hZ (hw _ (List.mem_of_getElem? (i := 65) rfl)))) (mvT hZ (hw _ (List.mem_of_getElem? (i := 65) rfl))) (mvT hZ (hw _ (List.mem_of_getElem? (i := 64) rfl))) (by decide) (backOf (W := 0) (rmLa l Z a0 hw [] b35 ((((b + (1 : Int64)) + (1 : Int64)) + (1 : Int64)) + (1 : Int64)) (0 : Int32) T220.heap n0 Zc220 Fa_first220 Fa_size220) hZ (hw _ (List.mem_of_getElem? (i := 66) rfl)) (hw _ (List.mem_of_getElem? (i := 28) rfl)) (by decide) (by decide)) q264a q264c (g := (mkF m 242 #[.val (.long base), .second, .val (.long raw), .second, .val (.int delta), .val (.int count), .val (.int mode), .val (.long b), .second, .val (.int (3 : Int32)), .val (.long nn), .second, .val (.ref ms), .val (.ref b2), .val (.ref b9), .val (.ref b20), .val (.ref b35), .val (.long (b + ((3 : Int32).toInt64))), .second, .val (.long ((b + ((3 : Int32).toInt64)) + (1 : Int64))), .second] [(.ref b35)])) rfl (by rw [hml]; rfl) (Steps.refl _) (argsL := []) (rest := []) (lenOf pd___J rfl) rfl (by show 2 * 0 + _ ≤ _; exact Nat.le_of_eq rfl) (hb hby at_242) (fun _ _ => ⟨rfl, e263, (by decide : 6 + 0 ≤ _), (by decide : 1040 + 0 ≤ _)⟩)
        dsimp only [Pt.U, Pt.locs, Pt.cells, Pt.slots] at X264 l264 y264 z264 st264 hQ264
        subst l264 y264 z264
        obtain ⟨rfl, Nq264, e264⟩ := hQ264
        have N264 := Fr.app N263 Nq264
        refine own_tr st264 ?_
        show own_Go p.tables e below _ (T264.setTop (mkF m 245 #[.val (.long base), .second, .val (.long raw), .second, .val (.int delta), .val (.int count), .val (.int mode), .val (.long b), .second, .val (.int (3 : Int32)), .val (.long nn), .second, .val (.ref ms), .val (.ref b2), .val (.ref b9), .val (.ref b20), .val (.ref b35), .val (.long (b + ((3 : Int32).toInt64))), .second, .val (.long ((b + ((3 : Int32).toInt64)) + (1 : Int64))), .second] [(.long ((((((b + (1 : Int64)) + (1 : Int64)) + (1 : Int64)) + (1 : Int64)) + ((0 : Int32).toInt64)) - (1 : Int64)))]))
        refine own_st (fun _ k' => XS.lload X264.here hx rfl (hb hby at_245) rfl k') ?_
        show own_Go p.tables e below _ (T264.setTop (mkF m 247 #[.val (.long base), .second, .val (.long raw), .second, .val (.int delta), .val (.int count), .val (.int mode), .val (.long b), .second, .val (.int (3 : Int32)), .val (.long nn), .second, .val (.ref ms), .val (.ref b2), .val (.ref b9), .val (.ref b20), .val (.ref b35), .val (.long (b + ((3 : Int32).toInt64))), .second, .val (.long ((b + ((3 : Int32).toInt64)) + (1 : Int64))), .second] [(.long (b + ((3 : Int32).toInt64))), (.long ((((((b + (1 : Int64)) + (1 : Int64)) + (1 : Int64)) + (1 : Int64)) + ((0 : Int32).toInt64)) - (1 : Int64)))]))
        refine own_st (fun _ k' => XS.lcmp X264.here hx rfl (hb hby at_247) rfl k') ?_
        show own_Go p.tables e below _ (T264.setTop (mkF m 248 #[.val (.long base), .second, .val (.long raw), .second, .val (.int delta), .val (.int count), .val (.int mode), .val (.long b), .second, .val (.int (3 : Int32)), .val (.long nn), .second, .val (.ref ms), .val (.ref b2), .val (.ref b9), .val (.ref b20), .val (.ref b35), .val (.long (b + ((3 : Int32).toInt64))), .second, .val (.long ((b + ((3 : Int32).toInt64)) + (1 : Int64))), .second] [(.int (lcmpW ((((((b + (1 : Int64)) + (1 : Int64)) + (1 : Int64)) + (1 : Int64)) + ((0 : Int32).toInt64)) - (1 : Int64)) (b + ((3 : Int32).toInt64))))]))
        refine own_st (fun _ k' => XS.ifYes X264.here hx rfl (pc0 := 248) (pc' := 253) rfl (hb hby at_248) rfl ((if0 _ _).trans (teq ((lw_eq ((((((b + (1 : Int64)) + (1 : Int64)) + (1 : Int64)) + (1 : Int64)) + ((0 : Int32).toInt64)) - (1 : Int64)) (b + ((3 : Int32).toInt64))).mpr (by have := hbb; have := rng64 nn; have := rng64 b; have := (by decide : (1 : Int64).toInt = 1); have := c_ladd b (1 : Int64); have := rng64 (b + (1 : Int64)); have := c_ladd (b + (1 : Int64)) (1 : Int64); have := rng64 ((b + (1 : Int64)) + (1 : Int64)); have := c_ladd ((b + (1 : Int64)) + (1 : Int64)) (1 : Int64); have := rng64 (((b + (1 : Int64)) + (1 : Int64)) + (1 : Int64)); have := c_ladd (((b + (1 : Int64)) + (1 : Int64)) + (1 : Int64)) (1 : Int64); have := rng64 ((((b + (1 : Int64)) + (1 : Int64)) + (1 : Int64)) + (1 : Int64)); have := (by decide : ((0 : Int32).toInt64).toInt = 0); have := c_ladd ((((b + (1 : Int64)) + (1 : Int64)) + (1 : Int64)) + (1 : Int64)) (0 : Int32).toInt64; have := rng64 (((((b + (1 : Int64)) + (1 : Int64)) + (1 : Int64)) + (1 : Int64)) + (0 : Int32).toInt64); have := c_lsub (((((b + (1 : Int64)) + (1 : Int64)) + (1 : Int64)) + (1 : Int64)) + (0 : Int32).toInt64) (1 : Int64); have := rng64 ((((((b + (1 : Int64)) + (1 : Int64)) + (1 : Int64)) + (1 : Int64)) + (0 : Int32).toInt64) - (1 : Int64)); have := (by decide : ((3 : Int32).toInt64).toInt = 3); have := c_ladd b (3 : Int32).toInt64; have := rng64 (b + (3 : Int32).toInt64); have := mt (Int64.lt_iff_toInt_lt).mpr hd3_0; refine (Int64.toInt_inj.symm).mpr ?_; omega : ((((((b + (1 : Int64)) + (1 : Int64)) + (1 : Int64)) + (1 : Int64)) + ((0 : Int32).toInt64)) - (1 : Int64)) = (b + ((3 : Int32).toInt64))))).1) (by decide) (by decide) k') ?_
        show own_Go p.tables e below _ (T264.setTop (mkF m 253 #[.val (.long base), .second, .val (.long raw), .second, .val (.int delta), .val (.int count), .val (.int mode), .val (.long b), .second, .val (.int (3 : Int32)), .val (.long nn), .second, .val (.ref ms), .val (.ref b2), .val (.ref b9), .val (.ref b20), .val (.ref b35), .val (.long (b + ((3 : Int32).toInt64))), .second, .val (.long ((b + ((3 : Int32).toInt64)) + (1 : Int64))), .second] []))
        refine own_st (fun _ k' => XS.lload X264.here hx rfl (hb hby at_253) rfl k') ?_
        show own_Go p.tables e below _ (T264.setTop (mkF m 255 #[.val (.long base), .second, .val (.long raw), .second, .val (.int delta), .val (.int count), .val (.int mode), .val (.long b), .second, .val (.int (3 : Int32)), .val (.long nn), .second, .val (.ref ms), .val (.ref b2), .val (.ref b9), .val (.ref b20), .val (.ref b35), .val (.long (b + ((3 : Int32).toInt64))), .second, .val (.long ((b + ((3 : Int32).toInt64)) + (1 : Int64))), .second] [(.long ((b + ((3 : Int32).toInt64)) + (1 : Int64)))]))
        refine own_st (fun _ k' => XS.lload X264.here hx rfl (hb hby at_255) rfl k') ?_
        show own_Go p.tables e below _ (T264.setTop (mkF m 257 #[.val (.long base), .second, .val (.long raw), .second, .val (.int delta), .val (.int count), .val (.int mode), .val (.long b), .second, .val (.int (3 : Int32)), .val (.long nn), .second, .val (.ref ms), .val (.ref b2), .val (.ref b9), .val (.ref b20), .val (.ref b35), .val (.long (b + ((3 : Int32).toInt64))), .second, .val (.long ((b + ((3 : Int32).toInt64)) + (1 : Int64))), .second] [(.long (b + ((3 : Int32).toInt64))), (.long ((b + ((3 : Int32).toInt64)) + (1 : Int64)))]))
        refine own_st (fun _ k' => XS.lcmp X264.here hx rfl (hb hby at_257) rfl k') ?_
        show own_Go p.tables e below _ (T264.setTop (mkF m 258 #[.val (.long base), .second, .val (.long raw), .second, .val (.int delta), .val (.int count), .val (.int mode), .val (.long b), .second, .val (.int (3 : Int32)), .val (.long nn), .second, .val (.ref ms), .val (.ref b2), .val (.ref b9), .val (.ref b20), .val (.ref b35), .val (.long (b + ((3 : Int32).toInt64))), .second, .val (.long ((b + ((3 : Int32).toInt64)) + (1 : Int64))), .second] [(.int (lcmpW ((b + ((3 : Int32).toInt64)) + (1 : Int64)) (b + ((3 : Int32).toInt64))))]))
        refine own_st (fun _ k' => XS.ifYes X264.here hx rfl (pc0 := 258) (pc' := 311) rfl (hb hby at_258) rfl ((if0 _ _).trans (tlt ((lw_gt ((b + ((3 : Int32).toInt64)) + (1 : Int64)) (b + ((3 : Int32).toInt64))).mpr (by have := hbb; have := rng64 nn; have := rng64 b; have := (by decide : (1 : Int64).toInt = 1); have := c_ladd b (1 : Int64); have := rng64 (b + (1 : Int64)); have := c_ladd (b + (1 : Int64)) (1 : Int64); have := rng64 ((b + (1 : Int64)) + (1 : Int64)); have := c_ladd ((b + (1 : Int64)) + (1 : Int64)) (1 : Int64); have := rng64 (((b + (1 : Int64)) + (1 : Int64)) + (1 : Int64)); have := (by decide : ((3 : Int32).toInt64).toInt = 3); have := c_ladd b (3 : Int32).toInt64; have := rng64 (b + (3 : Int32).toInt64); have := c_ladd (b + (3 : Int32).toInt64) (1 : Int64); have := rng64 ((b + (3 : Int32).toInt64) + (1 : Int64)); have := mt (Int64.lt_iff_toInt_lt).mpr hd3_0; refine (Int64.lt_iff_toInt_lt).mpr ?_; omega : (b + ((3 : Int32).toInt64)) < ((b + ((3 : Int32).toInt64)) + (1 : Int64))))).2.2.1) (by decide) (by decide) k') ?_
        show own_Go p.tables e below _ (T264.setTop (mkF m 311 #[.val (.long base), .second, .val (.long raw), .second, .val (.int delta), .val (.int count), .val (.int mode), .val (.long b), .second, .val (.int (3 : Int32)), .val (.long nn), .second, .val (.ref ms), .val (.ref b2), .val (.ref b9), .val (.ref b20), .val (.ref b35), .val (.long (b + ((3 : Int32).toInt64))), .second, .val (.long ((b + ((3 : Int32).toInt64)) + (1 : Int64))), .second] []))
        refine own_st (fun _ k' => XS.iconst X264.here hx rfl (hb hby at_311) k') ?_
        show own_Go p.tables e below _ (T264.setTop (mkF m 312 #[.val (.long base), .second, .val (.long raw), .second, .val (.int delta), .val (.int count), .val (.int mode), .val (.long b), .second, .val (.int (3 : Int32)), .val (.long nn), .second, .val (.ref ms), .val (.ref b2), .val (.ref b9), .val (.ref b20), .val (.ref b35), .val (.long (b + ((3 : Int32).toInt64))), .second, .val (.long ((b + ((3 : Int32).toInt64)) + (1 : Int64))), .second] [(.int (1 : Int32))]))
        exact own_retN X264 hx (t := .boolean) Bd.returns (by simp) (hb hby at_312) Bd.notSynchronized ⟨rfl, N264⟩ (by decide) (by decide)
  by_cases hc265 : (mode &&& (1 : Int32)) = (0 : Int32)
  ·  -- pc 17, (mode &&& (1 : Int32)) = (0 : Int32)
    refine own_st (fun _ k' => XS.ifYes X0.here hx rfl (pc0 := 17) (pc' := 24) rfl (hb hby at_17) rfl ((if0 _ _).trans (teq hc265).1) (by decide) (by decide) k') ?_
    show own_Go p.tables e below _ (s₁.setTop (mkF m 24 #[.val (.long base), .second, .val (.long raw), .second, .val (.int delta), .val (.int count), .val (.int mode), .val (.long b), .second, .val (.int (count &&& (3 : Int32))), .unset, .unset, .unset, .unset, .unset, .unset, .unset, .unset, .unset, .unset, .unset] []))
    refine own_st (fun _ k' => XS.lload X0.here hx rfl (hb hby at_24) rfl k') ?_
    show own_Go p.tables e below _ (s₁.setTop (mkF m 26 #[.val (.long base), .second, .val (.long raw), .second, .val (.int delta), .val (.int count), .val (.int mode), .val (.long b), .second, .val (.int (count &&& (3 : Int32))), .unset, .unset, .unset, .unset, .unset, .unset, .unset, .unset, .unset, .unset, .unset] [(.long b)]))
    refine own_st (fun _ k' => XS.iload X0.here hx rfl (hb hby at_26) rfl k') ?_
    show own_Go p.tables e below _ (s₁.setTop (mkF m 28 #[.val (.long base), .second, .val (.long raw), .second, .val (.int delta), .val (.int count), .val (.int mode), .val (.long b), .second, .val (.int (count &&& (3 : Int32))), .unset, .unset, .unset, .unset, .unset, .unset, .unset, .unset, .unset, .unset, .unset] [(.int delta), (.long b)]))
    refine own_st (fun _ k' => XS.bipush X0.here hx rfl (hb hby at_28) k') ?_
    show own_Go p.tables e below _ (s₁.setTop (mkF m 30 #[.val (.long base), .second, .val (.long raw), .second, .val (.int delta), .val (.int count), .val (.int mode), .val (.long b), .second, .val (.int (count &&& (3 : Int32))), .unset, .unset, .unset, .unset, .unset, .unset, .unset, .unset, .unset, .unset, .unset] [(.int (7 : Int32)), (.int delta), (.long b)]))
    refine own_st (fun _ k' => XS.iand X0.here hx rfl (hb hby at_30) rfl k') ?_
    show own_Go p.tables e below _ (s₁.setTop (mkF m 31 #[.val (.long base), .second, .val (.long raw), .second, .val (.int delta), .val (.int count), .val (.int mode), .val (.long b), .second, .val (.int (count &&& (3 : Int32))), .unset, .unset, .unset, .unset, .unset, .unset, .unset, .unset, .unset, .unset, .unset] [(.int (delta &&& (7 : Int32))), (.long b)]))
    refine own_st (fun _ k' => XS.i2l X0.here hx rfl (hb hby at_31) rfl k') ?_
    show own_Go p.tables e below _ (s₁.setTop (mkF m 32 #[.val (.long base), .second, .val (.long raw), .second, .val (.int delta), .val (.int count), .val (.int mode), .val (.long b), .second, .val (.int (count &&& (3 : Int32))), .unset, .unset, .unset, .unset, .unset, .unset, .unset, .unset, .unset, .unset, .unset] [(.long ((delta &&& (7 : Int32)).toInt64)), (.long b)]))
    refine own_st (fun _ k' => XS.ladd X0.here hx rfl (hb hby at_32) rfl k') ?_
    show own_Go p.tables e below _ (s₁.setTop (mkF m 33 #[.val (.long base), .second, .val (.long raw), .second, .val (.int delta), .val (.int count), .val (.int mode), .val (.long b), .second, .val (.int (count &&& (3 : Int32))), .unset, .unset, .unset, .unset, .unset, .unset, .unset, .unset, .unset, .unset, .unset] [(.long (b + ((delta &&& (7 : Int32)).toInt64)))]))
    refine own_st (fun t' k' => X0.ldc2Long hx hown (mvT hZ (hw _ (List.mem_of_getElem? (i := 1) rfl))) (g := (mkF m 33 #[.val (.long base), .second, .val (.long raw), .second, .val (.int delta), .val (.int count), .val (.int mode), .val (.long b), .second, .val (.int (count &&& (3 : Int32))), .unset, .unset, .unset, .unset, .unset, .unset, .unset, .unset, .unset, .unset, .unset] [(.long (b + ((delta &&& (7 : Int32)).toInt64)))])) rfl (hb hby at_33) t' k') ?_
    show own_Go p.tables e below _ (s₁.setTop (mkF m 36 #[.val (.long base), .second, .val (.long raw), .second, .val (.int delta), .val (.int count), .val (.int mode), .val (.long b), .second, .val (.int (count &&& (3 : Int32))), .unset, .unset, .unset, .unset, .unset, .unset, .unset, .unset, .unset, .unset, .unset] [(.long (2 : Int64)), (.long (b + ((delta &&& (7 : Int32)).toInt64)))]))
    refine own_st (fun _ k' => XS.lsub X0.here hx rfl (hb hby at_36) rfl k') ?_
    show own_Go p.tables e below _ (s₁.setTop (mkF m 37 #[.val (.long base), .second, .val (.long raw), .second, .val (.int delta), .val (.int count), .val (.int mode), .val (.long b), .second, .val (.int (count &&& (3 : Int32))), .unset, .unset, .unset, .unset, .unset, .unset, .unset, .unset, .unset, .unset, .unset] [(.long ((b + ((delta &&& (7 : Int32)).toInt64)) - (2 : Int64)))]))
    exact J37 _
  ·  -- pc 17, not (mode &&& (1 : Int32)) = (0 : Int32)
    refine own_st (fun _ k' => XS.ifNo X0.here hx rfl (hb hby at_17) rfl ((if0 _ _).trans (feq hc265).1) k') ?_
    show own_Go p.tables e below _ (s₁.setTop (mkF m 20 #[.val (.long base), .second, .val (.long raw), .second, .val (.int delta), .val (.int count), .val (.int mode), .val (.long b), .second, .val (.int (count &&& (3 : Int32))), .unset, .unset, .unset, .unset, .unset, .unset, .unset, .unset, .unset, .unset, .unset] []))
    refine own_st (fun _ k' => XS.lloadN X0.here hx rfl (hb hby at_20) rfl k') ?_
    show own_Go p.tables e below _ (s₁.setTop (mkF m 21 #[.val (.long base), .second, .val (.long raw), .second, .val (.int delta), .val (.int count), .val (.int mode), .val (.long b), .second, .val (.int (count &&& (3 : Int32))), .unset, .unset, .unset, .unset, .unset, .unset, .unset, .unset, .unset, .unset, .unset] [(.long raw)]))
    refine own_st (fun _ k' => XS.goto X0.here hx rfl (pc0 := 21) (pc' := 37) rfl (hb hby at_21) (by decide) (by decide) k') ?_
    show own_Go p.tables e below _ (s₁.setTop (mkF m 37 #[.val (.long base), .second, .val (.long raw), .second, .val (.int delta), .val (.int count), .val (.int mode), .val (.long b), .second, .val (.int (count &&& (3 : Int32))), .unset, .unset, .unset, .unset, .unset, .unset, .unset, .unset, .unset, .unset, .unset] [(.long raw)]))
    exact J37 _

set_option maxRecDepth 65536 in
set_option maxHeartbeats 40000000 in
theorem comes_1 {Post : Tables → Env → Array Value → State → Outcome → State → Prop} (hpost : ∀ tb e args s v u, (limb_1_1.after args s (.returned v) u = true ∧ limb_1_2.after args s (.returned v) u = true ∧ True) → FrameEnd s (.returned v) u (Jvm.fieldLocs frame_1_writes args s ++ Jvm.arrayLocs frame_1_arrays args s ++ Jvm.staticLocs frame_1_statics s) 24 2176 → Post tb e args s (.returned v) u) :
    ArmFor flags0 classFile x code maxLocals ret World_1 tables_1 room_1 Calls_1 rest_1 Pre_1 Post := by
  intro l hfl _ _ p e ha hc hk s m args below hf hA hF happ hP
  obtain ⟨hcalls, hrest, hpre⟩ := hP
  obtain ⟨-, -, -, hnamed, -, -, -, hat⟩ := (Spec.applies_iff hf).mp happ
  obtain ⟨hg, hn⟩ := and_e (Cond.before_iff.mp (show (Jvm.Cond.and given_1 narrow_1).before args s = true from hpre))
  obtain ⟨hcnt, hg⟩ := and_e hg
  obtain ⟨w0, w1, w2, w3, w4, rfl⟩ : ∃ w0 w1 w2 w3 w4 : Value, args = #[w0, w1, w2, w3, w4] := by
    have hs : args.size = 5 := by simpa [Cond.value, given_1] using hcnt
    obtain ⟨L⟩ := args
    match L, hs with
    | [w0, w1, w2, w3, w4], _ => exact ⟨w0, w1, w2, w3, w4, rfl⟩
  have hw := fun d (hd : d ∈ tables_1) => atoms_spec (ws := Jvm.Cond.code x code maxLocals ret :: tables_1) hat d (List.mem_cons_of_mem _ hd)
  have hfit : Fit s := fun {y c} hc i hi => by
    obtain ⟨ha, rfl⟩ := Array.getElem?_eq_some_iff.mp hc
    have q := List.all_eq_true.mp ((Array.all_eq_true_iff_forall_mem.mp hF) _ (Array.getElem_mem ha)) i (List.mem_range.mpr hi)
    simpa [Array.getElem?_eq_getElem hi] using q
  obtain ⟨hg0, hg⟩ := and_e hg
  obtain ⟨i0, ei0⟩ := isL_v hg0
  obtain rfl : w0 = (.long i0) := Option.some.inj ei0
  obtain ⟨hg1, hg⟩ := and_e hg
  obtain ⟨i1, ei1⟩ := isL_v hg1
  obtain rfl : w1 = (.long i1) := Option.some.inj ei1
  obtain ⟨hg2, hg⟩ := and_e hg
  obtain ⟨i2, ei2⟩ := is_v hg2
  obtain rfl : w2 = (.int i2) := Option.some.inj ei2
  obtain ⟨hg3, hg⟩ := and_e hg
  obtain ⟨i3, ei3⟩ := is_v hg3
  obtain rfl : w3 = (.int i3) := Option.some.inj ei3
  have hg4 := hg
  obtain ⟨i4, ei4⟩ := is_v hg4
  obtain rfl : w4 = (.int i4) := Option.some.inj ei4
  obtain ⟨n, o, h1, h2, h3, _, L, rfl, ⟨rfl, N⟩, hq⟩ := rm0 l s _ hw tables_1 i0 i1 i2 i3 i4 s.heap s.heap.size (Nat.le_refl _)  p e ha hc hk s m _ below hf ((Spec.applies_iff_loose hf).mp happ).1 ⟨rfl, State.Warmed39.refl s, rfl⟩ trivial
  refine ⟨n, _, h1, h2, h3, hpost _ _ _ _ _ _ ⟨Cond.after_iff.mpr rfl, Cond.after_iff.mpr (eq_i res_at (Term.int_eval (1)) rfl), trivial⟩ ⟨hq.1, hq.2.1, (hq.2.2.sift fun y hy => Or.inr (N y hy)).mono (by decide) (by decide)⟩⟩
theorem main_1_1 : Claimed_1_1 := comes_1 fun _ _ _ _ _ _ h hF => ⟨h.1, hF⟩
theorem main_1_2 : Claimed_1_2 := comes_1 fun _ _ _ _ _ _ h hF => ⟨h.2.1, hF⟩

end Jvm.Pilot.@@N@@
namespace Jvm.Pilot.@@N@@
open Jvm Jvm.ClassFile Sem Op Lib Jvm.Free Jvm.Stand Jvm.Pilot.@@N@@.Jvm.D
/-! MADE BY PROGRAM (witnessworld.py) out of the Statement's table words and the real class files: 13 classes; the members and pool entries that the words name. The judged class is class 1, her method 2. -/
namespace start1
open Jvm.ClassFile
def u (s : String) : CpInfo := .utf8 (stringToUtf16 s)
/-- a pool by its gaps: so many unusable entries, then the entry; so many at the end -/
def gap : Nat → List CpInfo → List CpInfo
  | 0, r => r
  | n + 1, r => .unusable :: gap n r
def poolList (es : List (Nat × CpInfo)) (last : Nat) : List CpInfo := es.foldr (fun e r => gap e.1 (e.2 :: r)) (gap last [])
def pool (es : List (Nat × CpInfo)) (last : Nat) : Array CpInfo := ⟨poolList es last⟩
def fileOf (pool : Array CpInfo) (this : Nat) (attrs : Array Attribute := #[]) (ms : Array MethodInfo := #[]) (fl : Nat := 33) (sup : Nat := 0) (ifs : Array Nat := #[]) (fds : Array FieldInfo := #[]) : ClassFile where
  minorVersion := 0
  majorVersion := 65
  constantPool := pool
  accessFlags := fl
  thisClass := this
  superClass := sup
  interfaces := ifs
  fields := fds
  methods := ms
  attributes := attrs
def plain (name : String) (sup : Option ClassId) : Class where
  name := name
  kind := .ordinary
  loader := none
  accessFlags := 33
  super := sup
  interfaces := #[]
  cf := none
  fields := #[]
  methods := #[]
  instanceTypes := #[]
  staticTypes := #[]
  resolved := #[]
  callSites := []
  init := .initialized
  statics := none
  mirror := none

def pool0 : Array CpInfo := pool [(5, u "<init>"), (0, u "()V"), (1, .class_ 10), (1, u "java/lang/Object")] 113

def k0c0 : Code := { maxStack := 0, maxLocals := 1, code := object_method_1_code, exceptionTable := #[], attributes := #[] }
def k0m0 : Method := { name := "<init>", desc := "()V", sig := { parameters := [], returnType := none }, accessFlags := 1, code := some k0c0 }
/-- java/lang/Object -/
def k0 : Class := { plain "java/lang/Object" none with
  accessFlags := 33
  interfaces := #[]
  cf := some (fileOf pool0 8 #[] #[{ accessFlags := 1, nameIndex := 5, descriptorIndex := 6, attributes := #[] }] 33 0 #[] #[])
  fields := #[]
  methods := #[k0m0]
  instanceTypes := #[]
  staticTypes := #[]
  resolved := Array.replicate 124 none
  statics := none }

def pool1 : Array CpInfo := pool [(2, .class_ 4), (0, .nameAndType 5 6), (0, u "java/lang/Object"), (0, u "<init>"), (0, u "()V"), (0, .long 2), (1, .long 4611686018427387903), (1, .class_ 12), (0, u "com/example/penumbra/penumbra/order/SequenceLog$Entry"), (0, .methodref 11 14), (0, .nameAndType 5 15), (0, u "(JIJ[B)V"), (0, .long 3), (1, .class_ 19), (0, u "com/example/penumbra/penumbra/order/SequenceLog"), (0, .methodref 18 3), (0, .methodref 18 22), (0, .nameAndType 23 24), (0, u "restartAfter"), (0, u "(J)V"), (0, .methodref 18 26), (0, .nameAndType 27 28), (0, u "append"), (0, u "(Lcom/example/penumbra/penumbra/order/SequenceLog$Entry;)V"), (0, .methodref 18 30), (0, .nameAndType 31 24), (0, u "dropUpTo"), (0, .methodref 18 33), (0, .nameAndType 34 35), (0, u "first"), (0, u "()J"), (0, .methodref 18 37), (0, .nameAndType 38 35), (0, u "last"), (0, .methodref 18 40), (0, .nameAndType 41 42), (0, u "get"), (0, u "(J)Lcom/example/penumbra/penumbra/order/SequenceLog$Entry;"), (0, .methodref 44 45), (0, .class_ 46), (0, .nameAndType 47 48), (0, u "com/example/penumbra/penumbra/order/SequenceLogDropUpToPinLaw"), (0, u "pick"), (0, u "(JLcom/example/penumbra/penumbra/order/SequenceLog$Entry;Lcom/example/penumbra/penumbra/order/SequenceLog$Entry;Lcom/example/penumbra/penumbra/order/SequenceLog$Entry;)Lcom/example/penumbra/penumbra/order/SequenceLog$Entry;"), (3, u "law"), (0, u "(JJIII)Z")] 6

def k1m0 : Method := { name := "<init>", desc := "()V", sig := { parameters := [], returnType := none }, accessFlags := 1, code := none }
def k1c1 : Code := { maxStack := 4, maxLocals := 5, code := method_2_code, exceptionTable := #[], attributes := #[] }
def k1m1 : Method := { name := "pick", desc := "(JLcom/example/penumbra/penumbra/order/SequenceLog$Entry;Lcom/example/penumbra/penumbra/order/SequenceLog$Entry;Lcom/example/penumbra/penumbra/order/SequenceLog$Entry;)Lcom/example/penumbra/penumbra/order/SequenceLog$Entry;", sig := { parameters := [.long, (.object "com/example/penumbra/penumbra/order/SequenceLog$Entry"), (.object "com/example/penumbra/penumbra/order/SequenceLog$Entry"), (.object "com/example/penumbra/penumbra/order/SequenceLog$Entry")], returnType := some (.object "com/example/penumbra/penumbra/order/SequenceLog$Entry") }, accessFlags := 10, code := some k1c1 }
def k1c2 : Code := { maxStack := 8, maxLocals := 21, code := code, exceptionTable := #[], attributes := #[] }
def k1m2 : Method := { name := "law", desc := "(JJIII)Z", sig := { parameters := [.long, .long, .int, .int, .int], returnType := some .boolean }, accessFlags := 9, code := some k1c2 }
/-- com/example/penumbra/penumbra/order/SequenceLogDropUpToPinLaw -/
def k1 : Class := { plain "com/example/penumbra/penumbra/order/SequenceLogDropUpToPinLaw" (some 0) with
  accessFlags := 49
  interfaces := #[]
  cf := some (fileOf pool1 44 #[] #[{ accessFlags := 1, nameIndex := 5, descriptorIndex := 6, attributes := #[] }, { accessFlags := 10, nameIndex := 47, descriptorIndex := 48, attributes := #[] }, { accessFlags := 9, nameIndex := 52, descriptorIndex := 53, attributes := #[] }] 49 2 #[] #[])
  fields := #[]
  methods := #[k1m0, k1m1, k1m2]
  instanceTypes := #[]
  staticTypes := #[]
  resolved := Array.replicate 60 none
  statics := none }

def pool2 : Array CpInfo := pool [(1, .methodref 2 3), (0, .class_ 4), (0, .nameAndType 5 6), (0, u "java/lang/Object"), (0, u "<init>"), (0, u "()V"), (0, .class_ 8), (0, u "java/lang/Record")] 13

def k2c0 : Code := { maxStack := 1, maxLocals := 1, code := jdk_30_method_1_code, exceptionTable := #[], attributes := #[] }
def k2m0 : Method := { name := "<init>", desc := "()V", sig := { parameters := [], returnType := none }, accessFlags := 4, code := some k2c0 }
/-- java/lang/Record -/
def k2 : Class := { plain "java/lang/Record" (some 0) with
  accessFlags := 1057
  interfaces := #[]
  cf := some (fileOf pool2 7 #[] #[{ accessFlags := 4, nameIndex := 5, descriptorIndex := 6, attributes := #[] }] 1057 2 #[] #[])
  fields := #[]
  methods := #[k2m0]
  instanceTypes := #[]
  staticTypes := #[]
  resolved := Array.replicate 22 none
  statics := none }

def pool3 : Array CpInfo := pool [(1, .methodref 2 3), (0, .class_ 4), (0, .nameAndType 5 6), (0, u "java/lang/Record"), (0, u "<init>"), (0, u "()V"), (0, .fieldref 8 9), (0, .class_ 10), (0, .nameAndType 11 12), (0, u "com/example/penumbra/penumbra/order/SequenceLog$Entry"), (0, u "number"), (0, u "J"), (0, .fieldref 8 14), (0, .nameAndType 15 16), (0, u "origin"), (0, u "I"), (0, .fieldref 8 18), (0, .nameAndType 19 12), (0, u "counter"), (0, .fieldref 8 21), (0, .nameAndType 22 23), (0, u "message"), (0, u "[B"), (12, u "(JIJ[B)V"), (6, u "()J"), (4, .class_ 49), (0, u "com/example/penumbra/penumbra/order/SequenceLog")] 22

def k3c0 : Code := { maxStack := 3, maxLocals := 7, code := prog_130_method_1_code, exceptionTable := #[], attributes := #[] }
def k3m0 : Method := { name := "<init>", desc := "(JIJ[B)V", sig := { parameters := [.long, .int, .long, (.array .byte)], returnType := none }, accessFlags := 0, code := some k3c0 }
def k3c1 : Code := { maxStack := 2, maxLocals := 1, code := prog_130_method_5_code, exceptionTable := #[], attributes := #[] }
def k3m1 : Method := { name := "number", desc := "()J", sig := { parameters := [], returnType := some .long }, accessFlags := 1, code := some k3c1 }
/-- com/example/penumbra/penumbra/order/SequenceLog$Entry -/
def k3 : Class := { plain "com/example/penumbra/penumbra/order/SequenceLog$Entry" (some 2) with
  accessFlags := 48
  interfaces := #[]
  cf := some (fileOf pool3 8 #[.nestHost 48] #[{ accessFlags := 0, nameIndex := 5, descriptorIndex := 36, attributes := #[] }, { accessFlags := 1, nameIndex := 11, descriptorIndex := 43, attributes := #[] }] 48 2 #[] #[{ accessFlags := 18, nameIndex := 11, descriptorIndex := 12, attributes := #[] }, { accessFlags := 18, nameIndex := 15, descriptorIndex := 16, attributes := #[] }, { accessFlags := 18, nameIndex := 19, descriptorIndex := 12, attributes := #[] }, { accessFlags := 18, nameIndex := 22, descriptorIndex := 23, attributes := #[] }])
  fields := #[{ name := "number", type := .long, accessFlags := 18, slot := 0, constantValue := 0 }, { name := "origin", type := .int, accessFlags := 18, slot := 1, constantValue := 0 }, { name := "counter", type := .long, accessFlags := 18, slot := 2, constantValue := 0 }, { name := "message", type := (.array .byte), accessFlags := 18, slot := 3, constantValue := 0 }]
  methods := #[k3m0, k3m1]
  instanceTypes := #[.long, .int, .long, (.array .byte)]
  staticTypes := #[]
  resolved := Array.replicate 72 none
  statics := none }

def pool4 : Array CpInfo := pool [(1, .methodref 2 3), (0, .class_ 4), (0, .nameAndType 5 6), (0, u "java/lang/Object"), (0, u "<init>"), (0, u "()V"), (0, .class_ 8), (0, u "com/example/penumbra/penumbra/order/SequenceLog$Entry"), (0, .fieldref 10 11), (0, .class_ 12), (0, .nameAndType 13 14), (0, u "com/example/penumbra/penumbra/order/SequenceLog"), (0, u "ring"), (0, u "[Lcom/example/penumbra/penumbra/order/SequenceLog$Entry;"), (0, .fieldref 10 16), (0, .nameAndType 17 18), (0, u "first"), (0, u "J"), (0, .fieldref 10 20), (0, .nameAndType 21 22), (0, u "size"), (0, u "I"), (0, .methodref 24 25), (0, .class_ 26), (0, .nameAndType 27 28), (0, u "java/util/Arrays"), (0, u "fill"), (0, u "([Ljava/lang/Object;Ljava/lang/Object;)V"), (0, .fieldref 10 30), (0, .nameAndType 31 22), (0, u "head"), (0, .methodref 7 33), (0, .nameAndType 34 35), (0, u "number"), (0, u "()J"), (0, .methodref 10 37), (0, .nameAndType 38 35), (0, u "last"), (14, u "restartAfter"), (0, u "(J)V"), (0, u "append"), (0, u "(Lcom/example/penumbra/penumbra/order/SequenceLog$Entry;)V"), (2, u "get"), (0, u "(J)Lcom/example/penumbra/penumbra/order/SequenceLog$Entry;"), (0, u "dropUpTo")] 21

def k4c0 : Code := { maxStack := 3, maxLocals := 1, code := prog_129_method_1_code, exceptionTable := #[], attributes := #[] }
def k4m0 : Method := { name := "<init>", desc := "()V", sig := { parameters := [], returnType := none }, accessFlags := 0, code := some k4c0 }
def k4c1 : Code := { maxStack := 4, maxLocals := 1, code := prog_129_method_2_code, exceptionTable := #[], attributes := #[] }
def k4m1 : Method := { name := "last", desc := "()J", sig := { parameters := [], returnType := some .long }, accessFlags := 0, code := some k4c1 }
def k4c2 : Code := { maxStack := 2, maxLocals := 1, code := prog_129_method_3_code, exceptionTable := #[], attributes := #[] }
def k4m2 : Method := { name := "first", desc := "()J", sig := { parameters := [], returnType := some .long }, accessFlags := 0, code := some k4c2 }
def k4c3 : Code := { maxStack := 5, maxLocals := 3, code := prog_129_method_4_code, exceptionTable := #[], attributes := #[] }
def k4m3 : Method := { name := "restartAfter", desc := "(J)V", sig := { parameters := [.long], returnType := none }, accessFlags := 0, code := some k4c3 }
def k4c4 : Code := { maxStack := 8, maxLocals := 4, code := prog_129_method_5_code, exceptionTable := #[], attributes := #[] }
def k4m4 : Method := { name := "append", desc := "(Lcom/example/penumbra/penumbra/order/SequenceLog$Entry;)V", sig := { parameters := [(.object "com/example/penumbra/penumbra/order/SequenceLog$Entry")], returnType := none }, accessFlags := 0, code := some k4c4 }
def k4c5 : Code := { maxStack := 8, maxLocals := 3, code := prog_129_method_6_code, exceptionTable := #[], attributes := #[] }
def k4m5 : Method := { name := "get", desc := "(J)Lcom/example/penumbra/penumbra/order/SequenceLog$Entry;", sig := { parameters := [.long], returnType := some (.object "com/example/penumbra/penumbra/order/SequenceLog$Entry") }, accessFlags := 0, code := some k4c5 }
def k4c6 : Code := { maxStack := 5, maxLocals := 3, code := prog_129_method_7_code, exceptionTable := #[], attributes := #[] }
def k4m6 : Method := { name := "dropUpTo", desc := "(J)V", sig := { parameters := [.long], returnType := none }, accessFlags := 0, code := some k4c6 }
/-- com/example/penumbra/penumbra/order/SequenceLog -/
def k4 : Class := { plain "com/example/penumbra/penumbra/order/SequenceLog" (some 0) with
  accessFlags := 48
  interfaces := #[]
  cf := some (fileOf pool4 10 #[.nestMembers #[7]] #[{ accessFlags := 0, nameIndex := 5, descriptorIndex := 6, attributes := #[] }, { accessFlags := 0, nameIndex := 38, descriptorIndex := 35, attributes := #[] }, { accessFlags := 0, nameIndex := 17, descriptorIndex := 35, attributes := #[] }, { accessFlags := 0, nameIndex := 53, descriptorIndex := 54, attributes := #[] }, { accessFlags := 0, nameIndex := 55, descriptorIndex := 56, attributes := #[] }, { accessFlags := 0, nameIndex := 59, descriptorIndex := 60, attributes := #[] }, { accessFlags := 0, nameIndex := 61, descriptorIndex := 54, attributes := #[] }] 48 2 #[] #[{ accessFlags := 2, nameIndex := 13, descriptorIndex := 14, attributes := #[] }, { accessFlags := 2, nameIndex := 31, descriptorIndex := 22, attributes := #[] }, { accessFlags := 2, nameIndex := 21, descriptorIndex := 22, attributes := #[] }, { accessFlags := 2, nameIndex := 17, descriptorIndex := 18, attributes := #[] }])
  fields := #[{ name := "ring", type := (.array (.object "com/example/penumbra/penumbra/order/SequenceLog$Entry")), accessFlags := 2, slot := 0, constantValue := 0 }, { name := "head", type := .int, accessFlags := 2, slot := 1, constantValue := 0 }, { name := "size", type := .int, accessFlags := 2, slot := 2, constantValue := 0 }, { name := "first", type := .long, accessFlags := 2, slot := 3, constantValue := 0 }]
  methods := #[k4m0, k4m1, k4m2, k4m3, k4m4, k4m5, k4m6]
  instanceTypes := #[(.array (.object "com/example/penumbra/penumbra/order/SequenceLog$Entry")), .int, .int, .long]
  staticTypes := #[]
  resolved := Array.replicate 83 none
  statics := none }

def pool5 : Array CpInfo := pool [(2, .class_ 4), (1, u "java/lang/Object"), (0, u "<init>"), (0, u "()V"), (7, .class_ 16), (1, u "java/util/Arrays"), (57, .class_ 76), (1, u "java/util/Arrays$NaturalOrder"), (36, .class_ 115), (1, u "java/util/Arrays$LegacyMergeSort"), (1, u "Z"), (257, .class_ 376), (0, u "java/util/Arrays$ArrayList"), (68, u "$assertionsDisabled"), (269, u "MIN_ARRAY_SORT_GRAN"), (0, u "I"), (2, u "INSERTIONSORT_THRESHOLD"), (120, u "fill"), (17, u "([Ljava/lang/Object;Ljava/lang/Object;)V"), (116, .class_ 976), (0, u "java/util/Arrays$ArrayItr")] 52

def k5m0 : Method := { name := "<init>", desc := "()V", sig := { parameters := [], returnType := none }, accessFlags := 2, code := none }
def k5c1 : Code := { maxStack := 3, maxLocals := 4, code := jdk_65_method_117_code, exceptionTable := #[], attributes := #[] }
def k5m1 : Method := { name := "fill", desc := "([Ljava/lang/Object;Ljava/lang/Object;)V", sig := { parameters := [(.array (.object "java/lang/Object")), (.object "java/lang/Object")], returnType := none }, accessFlags := 9, code := some k5c1 }
/-- java/util/Arrays -/
def k5 : Class := { plain "java/util/Arrays" (some 0) with
  accessFlags := 49
  interfaces := #[]
  cf := some (fileOf pool5 14 #[.nestMembers #[975, 375, 113, 74]] #[{ accessFlags := 2, nameIndex := 5, descriptorIndex := 6, attributes := #[] }, { accessFlags := 9, nameIndex := 840, descriptorIndex := 858, attributes := #[] }] 49 2 #[] #[{ accessFlags := 26, nameIndex := 715, descriptorIndex := 716, attributes := #[] }, { accessFlags := 26, nameIndex := 719, descriptorIndex := 716, attributes := #[] }, { accessFlags := 4120, nameIndex := 445, descriptorIndex := 117, attributes := #[] }])
  fields := #[{ name := "MIN_ARRAY_SORT_GRAN", type := .int, accessFlags := 26, slot := 0, constantValue := 0 }, { name := "INSERTIONSORT_THRESHOLD", type := .int, accessFlags := 26, slot := 1, constantValue := 0 }, { name := "$assertionsDisabled", type := .boolean, accessFlags := 4120, slot := 2, constantValue := 0 }]
  methods := #[k5m0, k5m1]
  instanceTypes := #[]
  staticTypes := #[.int, .int, .boolean]
  resolved := Array.replicate 1029 none
  statics := none }

def pool6 : Array CpInfo := pool [(1, u "java/lang/Cloneable"), (0, .class_ 1), (0, u "java/lang/Object"), (0, .class_ 3)] 3

/-- java/lang/Cloneable -/
def k6 : Class := { plain "java/lang/Cloneable" (some 0) with
  accessFlags := 1537
  interfaces := #[]
  cf := some (fileOf pool6 2 #[] #[] 1537 4 #[] #[])
  fields := #[]
  methods := #[]
  instanceTypes := #[]
  staticTypes := #[]
  resolved := Array.replicate 8 none
  statics := none }

def pool7 : Array CpInfo := pool [(1, u "java/io/Serializable"), (0, .class_ 1), (0, u "java/lang/Object"), (0, .class_ 3)] 3

/-- java/io/Serializable -/
def k7 : Class := { plain "java/io/Serializable" (some 0) with
  accessFlags := 1537
  interfaces := #[]
  cf := some (fileOf pool7 2 #[] #[] 1537 4 #[] #[])
  fields := #[]
  methods := #[]
  instanceTypes := #[]
  staticTypes := #[]
  resolved := Array.replicate 8 none
  statics := none }

/-- the primitive byte -/
def k8 : Class := { plain "byte" none with kind := .primitive 'B', accessFlags := 0x411 }
/-- [B -/
def k9 : Class := { plain "[B" (some 0) with kind := .array 8 .byte, interfaces := #[6, 7], accessFlags := 1041 }

/-- the primitive int -/
def k10 : Class := { plain "int" none with kind := .primitive 'I', accessFlags := 0x411 }
/-- [I -/
def k11 : Class := { plain "[I" (some 0) with kind := .array 10 .int, interfaces := #[6, 7], accessFlags := 1041 }

/-- [Lcom/example/penumbra/penumbra/order/SequenceLog$Entry; -/
def k12 : Class := { plain "[Lcom/example/penumbra/penumbra/order/SequenceLog$Entry;" (some 0) with kind := .array 3 (.object "com/example/penumbra/penumbra/order/SequenceLog$Entry"), interfaces := #[6, 7], accessFlags := 1041 }

def heap : Heap := #[]
def classes : Array Class := #[k0, k1, k2, k3, k4, k5, k6, k7, k8, k9, k10, k11, k12]
def interned : List (Array UInt16 × Addr) := []
def slotsUsed : Nat := 0
def theMethod : MethodId := ⟨1, 2⟩
def args0 : Array Value := #[.long 5, .long 7, .int 3, .int 2, .int 0]
def aboutOver (below : List Frame) : State where
  vm := { classes := classes, interned := interned.toArray }
  heap := heap
  slotsUsed := slotsUsed
  threads := #[{ frames := .invoking theMethod args0 :: below }]
def below0 : List Frame := [.native { method := ⟨0, 0⟩, args := #[] }]
def about1 : State := aboutOver below0
def p0 : Program := .bare "" "" ""
def e0 : Env := launch0.env 0 0 0
theorem w_frames : about1.frames = Frame.invoking theMethod args0 :: below0 := rfl
set_option maxRecDepth 65536 in
theorem w_args : argsFit about1.vm theMethod args0 = true := by decide +kernel
set_option maxRecDepth 65536 in
theorem w_heap : heapFits about1 = true := by decide +kernel
set_option maxRecDepth 65536 in
theorem w_runnable : about1.curStatus? = some .runnable := by decide +kernel
set_option maxRecDepth 65536 in
theorem w_alone : about1.alone = true := by decide +kernel
set_option maxRecDepth 65536 in
theorem w_named : about1.methodNamed? x = some theMethod := by decide +kernel
set_option maxRecDepth 65536 in
theorem w_hears : about1.hears theMethod below0 = true := by decide +kernel
set_option maxRecDepth 65536 in
theorem w_ripe : about1.ripe theMethod args0 below0 = true := by decide +kernel
theorem w_running : about1.status = .running := rfl
set_option maxRecDepth 65536 in
theorem w_room : about1.hasRoom e0.platform room_1 = true :=
  launch0.hasRoom_least _ room_1 (by decide +kernel) (by decide +kernel) (by decide +kernel) (by decide +kernel) (by decide +kernel) (by decide +kernel)
theorem allAtoms_all (ts : List Jvm.Cond) (a : Array Jvm.Value) (st : Jvm.State) : (allAtoms ts).before a st = ts.all (fun c => c.before a st) := by
  induction ts with
  | nil => rfl
  | cons c t ih =>
    show (Jvm.Cond.and c (allAtoms t)).before a st = _
    rw [Jvm.Cond.before_and, ih, List.all_cons]
def words1 : List Jvm.Cond := Jvm.Cond.code x code maxLocals ret :: tables_1
/-- a 'code' word, met by the world's own term for the bytes: nothing is compared byte by byte -/
theorem code_word {y : MethodName} {bytes : ByteArray} {mx : Nat} {rt : Option FieldType} {a : Array Value} {s : State} {m : MethodId} {meth : Method} {c : Code} (h1 : s.methodNamed? y = some m) (h2 : s.vm.method? m = some meth) (h3 : meth.code = some c) (h4 : c.code = bytes)
    (h5 : (c.maxLocals == mx && c.exceptionTable.isEmpty && decide (c.maxStack ≤ mostOperands) && decide (meth.sig.returnType = rt) && !meth.locks && decide (parseMethodDescriptor y.desc = some meth.sig)) = true) : (Jvm.Cond.code y bytes mx rt).before a s = true := by
  simp only [Bool.and_eq_true, beq_iff_eq, Bool.not_eq_true', decide_eq_true_eq] at h5
  obtain ⟨⟨⟨⟨⟨g1, g2⟩, g3⟩, g4⟩, g5⟩, g6⟩ := h5
  simp [Cond.before, Cond.holds, Cond.value, h1, h2, h3, h4, g1, g2, g3, g4, g5, g6]
def isCode : Jvm.Cond → Bool
  | .code _ _ _ _ => true
  | _ => false
theorem all_split {L : List Jvm.Cond} {P : Jvm.Cond → Bool} (h1 : L.all (fun c => isCode c || P c) = true) (h2 : ∀ c ∈ L.filter isCode, P c = true) : L.all P = true := by
  refine List.all_eq_true.mpr fun c hc => ?_
  have h := List.all_eq_true.mp h1 c hc
  rcases Bool.eq_false_or_eq_true (isCode c) with hi | hi
  · exact h2 c (List.mem_filter.mpr ⟨hc, hi⟩)
  · simpa [hi] using h
set_option maxRecDepth 65536 in
theorem w_c0 : (Jvm.Cond.code x code maxLocals ret).before args0 about1 = true := code_word (m := ⟨1, 2⟩) (meth := k1m2) (c := k1c2) (by decide +kernel) rfl rfl rfl (by decide +kernel)
set_option maxRecDepth 65536 in
theorem w_c1 : (Jvm.Cond.code ({ cls := "com/example/penumbra/penumbra/order/SequenceLog$Entry", name := "<init>", desc := "(JIJ[B)V" } : Jvm.MethodName) prog_130_method_1_code (7 : Nat) (Option.none : Option Jvm.ClassFile.FieldType)).before args0 about1 = true := code_word (m := ⟨3, 0⟩) (meth := k3m0) (c := k3c0) (by decide +kernel) rfl rfl rfl (by decide +kernel)
set_option maxRecDepth 65536 in
theorem w_c2 : (Jvm.Cond.code ({ cls := "java/lang/Record", name := "<init>", desc := "()V" } : Jvm.MethodName) jdk_30_method_1_code (1 : Nat) (Option.none : Option Jvm.ClassFile.FieldType)).before args0 about1 = true := code_word (m := ⟨2, 0⟩) (meth := k2m0) (c := k2c0) (by decide +kernel) rfl rfl rfl (by decide +kernel)
set_option maxRecDepth 65536 in
theorem w_c3 : (Jvm.Cond.code ({ cls := "java/lang/Object", name := "<init>", desc := "()V" } : Jvm.MethodName) object_method_1_code (1 : Nat) (Option.none : Option Jvm.ClassFile.FieldType)).before args0 about1 = true := code_word (m := ⟨0, 0⟩) (meth := k0m0) (c := k0c0) (by decide +kernel) rfl rfl rfl (by decide +kernel)
set_option maxRecDepth 65536 in
theorem w_c4 : (Jvm.Cond.code ({ cls := "com/example/penumbra/penumbra/order/SequenceLog", name := "<init>", desc := "()V" } : Jvm.MethodName) prog_129_method_1_code (1 : Nat) (Option.none : Option Jvm.ClassFile.FieldType)).before args0 about1 = true := code_word (m := ⟨4, 0⟩) (meth := k4m0) (c := k4c0) (by decide +kernel) rfl rfl rfl (by decide +kernel)
set_option maxRecDepth 65536 in
theorem w_c5 : (Jvm.Cond.code ({ cls := "com/example/penumbra/penumbra/order/SequenceLog", name := "restartAfter", desc := "(J)V" } : Jvm.MethodName) prog_129_method_4_code (3 : Nat) (Option.none : Option Jvm.ClassFile.FieldType)).before args0 about1 = true := code_word (m := ⟨4, 3⟩) (meth := k4m3) (c := k4c3) (by decide +kernel) rfl rfl rfl (by decide +kernel)
set_option maxRecDepth 65536 in
theorem w_c6 : (Jvm.Cond.code ({ cls := "java/util/Arrays", name := "fill", desc := "([Ljava/lang/Object;Ljava/lang/Object;)V" } : Jvm.MethodName) jdk_65_method_117_code (4 : Nat) (Option.none : Option Jvm.ClassFile.FieldType)).before args0 about1 = true := code_word (m := ⟨5, 1⟩) (meth := k5m1) (c := k5c1) (by decide +kernel) rfl rfl rfl (by decide +kernel)
set_option maxRecDepth 65536 in
theorem w_c7 : (Jvm.Cond.code ({ cls := "com/example/penumbra/penumbra/order/SequenceLog", name := "append", desc := "(Lcom/example/penumbra/penumbra/order/SequenceLog$Entry;)V" } : Jvm.MethodName) prog_129_method_5_code (4 : Nat) (Option.none : Option Jvm.ClassFile.FieldType)).before args0 about1 = true := code_word (m := ⟨4, 4⟩) (meth := k4m4) (c := k4c4) (by decide +kernel) rfl rfl rfl (by decide +kernel)
set_option maxRecDepth 65536 in
theorem w_c8 : (Jvm.Cond.code ({ cls := "com/example/penumbra/penumbra/order/SequenceLog$Entry", name := "number", desc := "()J" } : Jvm.MethodName) prog_130_method_5_code (1 : Nat) (Option.some Jvm.ClassFile.FieldType.long)).before args0 about1 = true := code_word (m := ⟨3, 1⟩) (meth := k3m1) (c := k3c1) (by decide +kernel) rfl rfl rfl (by decide +kernel)
set_option maxRecDepth 65536 in
theorem w_c9 : (Jvm.Cond.code ({ cls := "com/example/penumbra/penumbra/order/SequenceLog", name := "last", desc := "()J" } : Jvm.MethodName) prog_129_method_2_code (1 : Nat) (Option.some Jvm.ClassFile.FieldType.long)).before args0 about1 = true := code_word (m := ⟨4, 1⟩) (meth := k4m1) (c := k4c1) (by decide +kernel) rfl rfl rfl (by decide +kernel)
set_option maxRecDepth 65536 in
theorem w_c10 : (Jvm.Cond.code ({ cls := "com/example/penumbra/penumbra/order/SequenceLog", name := "dropUpTo", desc := "(J)V" } : Jvm.MethodName) prog_129_method_7_code (3 : Nat) (Option.none : Option Jvm.ClassFile.FieldType)).before args0 about1 = true := code_word (m := ⟨4, 6⟩) (meth := k4m6) (c := k4c6) (by decide +kernel) rfl rfl rfl (by decide +kernel)
set_option maxRecDepth 65536 in
theorem w_c11 : (Jvm.Cond.code ({ cls := "com/example/penumbra/penumbra/order/SequenceLog", name := "first", desc := "()J" } : Jvm.MethodName) prog_129_method_3_code (1 : Nat) (Option.some Jvm.ClassFile.FieldType.long)).before args0 about1 = true := code_word (m := ⟨4, 2⟩) (meth := k4m2) (c := k4c2) (by decide +kernel) rfl rfl rfl (by decide +kernel)
set_option maxRecDepth 65536 in
theorem w_c12 : (Jvm.Cond.code ({ cls := "com/example/penumbra/penumbra/order/SequenceLog", name := "get", desc := "(J)Lcom/example/penumbra/penumbra/order/SequenceLog$Entry;" } : Jvm.MethodName) prog_129_method_6_code (3 : Nat) (Option.some (Jvm.ClassFile.FieldType.object "com/example/penumbra/penumbra/order/SequenceLog$Entry"))).before args0 about1 = true := code_word (m := ⟨4, 5⟩) (meth := k4m5) (c := k4c5) (by decide +kernel) rfl rfl rfl (by decide +kernel)
set_option maxRecDepth 65536 in
theorem w_c13 : (Jvm.Cond.code ({ cls := "com/example/penumbra/penumbra/order/SequenceLogDropUpToPinLaw", name := "pick", desc := "(JLcom/example/penumbra/penumbra/order/SequenceLog$Entry;Lcom/example/penumbra/penumbra/order/SequenceLog$Entry;Lcom/example/penumbra/penumbra/order/SequenceLog$Entry;)Lcom/example/penumbra/penumbra/order/SequenceLog$Entry;" } : Jvm.MethodName) method_2_code (5 : Nat) (Option.some (Jvm.ClassFile.FieldType.object "com/example/penumbra/penumbra/order/SequenceLog$Entry"))).before args0 about1 = true := code_word (m := ⟨1, 1⟩) (meth := k1m1) (c := k1c1) (by decide +kernel) rfl rfl rfl (by decide +kernel)
def codes1 : List Jvm.Cond := [Jvm.Cond.code x code maxLocals ret, Jvm.Cond.code ({ cls := "com/example/penumbra/penumbra/order/SequenceLog$Entry", name := "<init>", desc := "(JIJ[B)V" } : Jvm.MethodName) prog_130_method_1_code (7 : Nat) (Option.none : Option Jvm.ClassFile.FieldType), Jvm.Cond.code ({ cls := "java/lang/Record", name := "<init>", desc := "()V" } : Jvm.MethodName) jdk_30_method_1_code (1 : Nat) (Option.none : Option Jvm.ClassFile.FieldType), Jvm.Cond.code ({ cls := "java/lang/Object", name := "<init>", desc := "()V" } : Jvm.MethodName) object_method_1_code (1 : Nat) (Option.none : Option Jvm.ClassFile.FieldType), Jvm.Cond.code ({ cls := "com/example/penumbra/penumbra/order/SequenceLog", name := "<init>", desc := "()V" } : Jvm.MethodName) prog_129_method_1_code (1 : Nat) (Option.none : Option Jvm.ClassFile.FieldType), Jvm.Cond.code ({ cls := "com/example/penumbra/penumbra/order/SequenceLog", name := "restartAfter", desc := "(J)V" } : Jvm.MethodName) prog_129_method_4_code (3 : Nat) (Option.none : Option Jvm.ClassFile.FieldType), Jvm.Cond.code ({ cls := "java/util/Arrays", name := "fill", desc := "([Ljava/lang/Object;Ljava/lang/Object;)V" } : Jvm.MethodName) jdk_65_method_117_code (4 : Nat) (Option.none : Option Jvm.ClassFile.FieldType), Jvm.Cond.code ({ cls := "com/example/penumbra/penumbra/order/SequenceLog", name := "append", desc := "(Lcom/example/penumbra/penumbra/order/SequenceLog$Entry;)V" } : Jvm.MethodName) prog_129_method_5_code (4 : Nat) (Option.none : Option Jvm.ClassFile.FieldType), Jvm.Cond.code ({ cls := "com/example/penumbra/penumbra/order/SequenceLog$Entry", name := "number", desc := "()J" } : Jvm.MethodName) prog_130_method_5_code (1 : Nat) (Option.some Jvm.ClassFile.FieldType.long), Jvm.Cond.code ({ cls := "com/example/penumbra/penumbra/order/SequenceLog", name := "last", desc := "()J" } : Jvm.MethodName) prog_129_method_2_code (1 : Nat) (Option.some Jvm.ClassFile.FieldType.long), Jvm.Cond.code ({ cls := "com/example/penumbra/penumbra/order/SequenceLog", name := "dropUpTo", desc := "(J)V" } : Jvm.MethodName) prog_129_method_7_code (3 : Nat) (Option.none : Option Jvm.ClassFile.FieldType), Jvm.Cond.code ({ cls := "com/example/penumbra/penumbra/order/SequenceLog", name := "first", desc := "()J" } : Jvm.MethodName) prog_129_method_3_code (1 : Nat) (Option.some Jvm.ClassFile.FieldType.long), Jvm.Cond.code ({ cls := "com/example/penumbra/penumbra/order/SequenceLog", name := "get", desc := "(J)Lcom/example/penumbra/penumbra/order/SequenceLog$Entry;" } : Jvm.MethodName) prog_129_method_6_code (3 : Nat) (Option.some (Jvm.ClassFile.FieldType.object "com/example/penumbra/penumbra/order/SequenceLog$Entry")), Jvm.Cond.code ({ cls := "com/example/penumbra/penumbra/order/SequenceLogDropUpToPinLaw", name := "pick", desc := "(JLcom/example/penumbra/penumbra/order/SequenceLog$Entry;Lcom/example/penumbra/penumbra/order/SequenceLog$Entry;Lcom/example/penumbra/penumbra/order/SequenceLog$Entry;)Lcom/example/penumbra/penumbra/order/SequenceLog$Entry;" } : Jvm.MethodName) method_2_code (5 : Nat) (Option.some (Jvm.ClassFile.FieldType.object "com/example/penumbra/penumbra/order/SequenceLog$Entry"))]
set_option maxRecDepth 65536 in
theorem codes_eq : words1.filter isCode = codes1 := rfl
theorem w_codes : ∀ c ∈ words1.filter isCode, c.before args0 about1 = true := by
  rw [codes_eq]
  intro c hc
  simp only [codes1, List.mem_cons, List.not_mem_nil, or_false] at hc
  rcases hc with rfl | rfl | rfl | rfl | rfl | rfl | rfl | rfl | rfl | rfl | rfl | rfl | rfl | rfl
  · exact w_c0
  · exact w_c1
  · exact w_c2
  · exact w_c3
  · exact w_c4
  · exact w_c5
  · exact w_c6
  · exact w_c7
  · exact w_c8
  · exact w_c9
  · exact w_c10
  · exact w_c11
  · exact w_c12
  · exact w_c13
set_option maxRecDepth 65536 in
theorem w_t1 : (words1.take 24).all (fun c => isCode c || c.before args0 about1) = true := by decide +kernel
set_option maxRecDepth 65536 in
theorem w_t2 : ((words1.drop 24).take 24).all (fun c => isCode c || c.before args0 about1) = true := by decide +kernel
set_option maxRecDepth 65536 in
theorem w_t3 : (((words1.drop 24).drop 24).take 24).all (fun c => isCode c || c.before args0 about1) = true := by decide +kernel
set_option maxRecDepth 65536 in
theorem w_t4 : (((words1.drop 24).drop 24).drop 24).all (fun c => isCode c || c.before args0 about1) = true := by decide +kernel
theorem w_tables : (allAtoms (Jvm.Cond.code x code maxLocals ret :: tables_1)).before args0 about1 = true := by
  rw [allAtoms_all]
  show words1.all (fun c => c.before args0 about1) = true
  refine all_split ?_ w_codes
  rw [← List.take_append_drop 24 words1, List.all_append, w_t1, ← List.take_append_drop 24 (words1.drop 24), List.all_append, w_t2, ← List.take_append_drop 24 ((words1.drop 24).drop 24), List.all_append, w_t3, w_t4]
  rfl
set_option maxRecDepth 65536 in
theorem w_case : (Jvm.Cond.and given_1 narrow_1).before args0 about1 = true := by decide +kernel
theorem w_applies : (headSpec (Jvm.Cond.code x code maxLocals ret :: tables_1) room_1).applies x e0.platform about1 = true :=
  (Spec.applies_iff w_frames).mpr ⟨w_running, w_runnable, w_alone, w_named, w_hears, w_ripe, w_room, w_tables⟩
theorem atStart : AtStart classFile x code maxLocals ret World_1 tables_1 room_1 Calls_1 rest_1 Pre_1 launch0 p0 e0 about1 theMethod args0 below0 :=
  ⟨lists_1, trivial, launch0.admits_env _ _ _, launch0.least_env, fairChoices_fair.cas, fairChoices_fair.clock, w_frames, w_args, w_heap, w_applies, trivial, trivial, w_case⟩
end start1
theorem witness_1 : WitnessClaimed_1 := ⟨start1.p0, start1.e0, start1.about1, start1.theMethod, start1.args0, start1.below0, start1.atStart⟩
end Jvm.Pilot.@@N@@
