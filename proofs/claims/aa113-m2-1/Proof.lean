import JvmDerived
import JvmDerived.Pilot.@@N@@Statement
import JvmDerived.Pilot.@@N@@Code
set_option linter.unusedVariables false
set_option linter.unusedSimpArgs false
namespace Jvm.Pilot.@@N@@
open Jvm Jvm.ClassFile Sem Op Lib Jvm.Free Jvm.Stand Jvm.LawKit Jvm.RoadKit Bundle Jvm.Pilot.@@N@@.Jvm.D
/-- the run from A ends, and its end is as K says -/
def own_Go (tb : Tables) (e : Env) (below : List Frame) (K : Outcome → State → Prop) (A : State) : Prop := ∃ s₂ o, Steps tb e below A s₂ ∧ s₂.status = .running ∧ Ended s₂ below o ∧ K o s₂
theorem own_st {tb : Tables} {e : Env} {below : List Frame} {K : Outcome → State → Prop} {A B : State} (h : ∀ t, Steps tb e below B t → Steps tb e below A t) (g : own_Go tb e below K B) : own_Go tb e below K A := by
  obtain ⟨s₂, o, h1, r⟩ := g
  exact ⟨s₂, o, h _ h1, r⟩
theorem own_tr {tb : Tables} {e : Env} {below : List Frame} {K : Outcome → State → Prop} {A B : State} (h : Steps tb e below A B) (g : own_Go tb e below K B) : own_Go tb e below K A := by
  obtain ⟨s₂, o, h1, r⟩ := g
  exact ⟨s₂, o, h.trans h1, r⟩
section Rets
variable {p : Program} {l : Launch} {e : Env} {R : Room} {s : State} {m : MethodId} {args : Array Value} {below : List Frame} {meth : Method} {c : Code} {T : State} {locs : List Loc} {cells slots : Nat} {Q : Option Value → Heap → List Loc → Prop} {C S : Nat}
theorem own_ret (X : Stand p l e R s m args below meth c T locs cells slots) {v : Option Value} {A : State} (hv : meth.sig.returnType = none → v = none) (hlocks : meth.locks = false)
    (st : ∀ fs, (∀ (f : JFrame) (acts : List Action), f.method = m → f.locked = none → f.entered = [] → (doReturn e (T.setTop f) acts v).1 = T.setFrames fs) → Steps p.tables e below A (T.setFrames fs)) (q : Q v T.heap locs) (hc : cells ≤ C) (hs : slots ≤ S) :
    own_Go p.tables e below (fun o U' => ∃ v L, o = .returned v ∧ Q v U'.heap L ∧ FrameEnd s o U' L C S) A := by
  obtain ⟨fs, hr, hrun, hended, hW, hsame⟩ := X.leave (v := v) hv hlocks
  exact ⟨_, _, st fs hr, hrun, hended, _, _, rfl, q, ⟨_, rfl⟩, hW, hsame.mono hc hs⟩
theorem own_retV (X : Stand p l e R s m args below meth c T locs cells slots) (hx : p.tables.exec = Jvm.exec) {pc : Nat} {Ls : Array Slot} (hret : meth.sig.returnType = none) (hd : decode c.code pc = .ok (.return_, 1)) (hlocks : meth.locks = false) (q : Q none T.heap locs) (hc : cells ≤ C) (hs : slots ≤ S) :
    own_Go p.tables e below (fun o U' => ∃ v L, o = .returned v ∧ Q v U'.heap L ∧ FrameEnd s o U' L C S) (T.setTop (mkF m pc Ls [])) :=
  own_ret X (fun _ => rfl) hlocks (fun _ hr => X.returnOut hx hret hd hr) q hc hs
theorem own_retN (X : Stand p l e R s m args below meth c T locs cells slots) (hx : p.tables.exec = Jvm.exec) {pc : Nat} {Ls : Array Slot} {z : Int32} {t : FieldType} {rest : List Value} (hret : meth.sig.returnType = some t) (ht : t = .boolean ∨ t = .byte ∨ t = .char ∨ t = .short) (hd : decode c.code pc = .ok (.ireturn, 1)) (hlocks : meth.locks = false) (q : Q (some (.int (nar t z))) T.heap locs) (hc : cells ≤ C) (hs : slots ≤ S) :
    own_Go p.tables e below (fun o U' => ∃ v L, o = .returned v ∧ Q v U'.heap L ∧ FrameEnd s o U' L C S) (T.setTop (mkF m pc Ls (.int z :: rest))) :=
  own_ret X (fun h => by rw [hret] at h; cases h) hlocks (fun _ hr => retN X hx hret ht hd hr) q hc hs
theorem own_retI (X : Stand p l e R s m args below meth c T locs cells slots) (hx : p.tables.exec = Jvm.exec) {pc : Nat} {Ls : Array Slot} {z : Int32} {rest : List Value} (hret : meth.sig.returnType = some .int) (hd : decode c.code pc = .ok (.ireturn, 1)) (hlocks : meth.locks = false) (q : Q (some (.int z)) T.heap locs) (hc : cells ≤ C) (hs : slots ≤ S) :
    own_Go p.tables e below (fun o U' => ∃ v L, o = .returned v ∧ Q v U'.heap L ∧ FrameEnd s o U' L C S) (T.setTop (mkF m pc Ls (.int z :: rest))) :=
  own_ret X (fun h => by rw [hret] at h; cases h) hlocks (fun _ hr => retOut X hx hret rfl (Or.inl ⟨rfl, Or.inl rfl, z, rfl⟩) hd hr) q hc hs
theorem own_retJ (X : Stand p l e R s m args below meth c T locs cells slots) (hx : p.tables.exec = Jvm.exec) {pc : Nat} {Ls : Array Slot} {z : Int64} {rest : List Value} (hret : meth.sig.returnType = some .long) (hd : decode c.code pc = .ok (.lreturn, 1)) (hlocks : meth.locks = false) (q : Q (some (.long z)) T.heap locs) (hc : cells ≤ C) (hs : slots ≤ S) :
    own_Go p.tables e below (fun o U' => ∃ v L, o = .returned v ∧ Q v U'.heap L ∧ FrameEnd s o U' L C S) (T.setTop (mkF m pc Ls (.long z :: rest))) :=
  own_ret X (fun h => by rw [hret] at h; cases h) hlocks (fun _ hr => retOut X hx hret rfl (Or.inr (Or.inl ⟨rfl, rfl, z, rfl⟩)) hd hr) q hc hs
theorem own_narrow_ref {t : FieldType} {w : Value} (ht : t.isReference = true) : narrow t w = w := by cases t <;> first | (cases ht; done) | rfl
theorem own_retA (X : Stand p l e R s m args below meth c T locs cells slots) (hx : p.tables.exec = Jvm.exec) {pc : Nat} {Ls : Array Slot} {w : Value} {t : FieldType} {rest : List Value} (hret : meth.sig.returnType = some t) (ht : t.isReference = true) (hw : w.isRef = true) (hd : decode c.code pc = .ok (.areturn, 1)) (hlocks : meth.locks = false) (q : Q (some w) T.heap locs) (hc : cells ≤ C) (hs : slots ≤ S) :
    own_Go p.tables e below (fun o U' => ∃ v L, o = .returned v ∧ Q v U'.heap L ∧ FrameEnd s o U' L C S) (T.setTop (mkF m pc Ls (w :: rest))) :=
  own_ret X (fun h => by rw [hret] at h; cases h) hlocks (fun _ hr => retOut X hx hret (own_narrow_ref ht) (Or.inr (Or.inr (Or.inr (Or.inr ⟨rfl, ht, hw⟩)))) hd hr) q hc hs
end Rets

def own_P (Z : State) (h : Heap) (aa ae ar ca ce cr : Addr) : Prop := Sta Z h "com/example/segmenta/segmenta/ack/AckCode" "AA" "Lcom/example/segmenta/segmenta/ack/AckCode;" (.ref aa) ∧ Sta Z h "com/example/segmenta/segmenta/ack/AckCode" "AE" "Lcom/example/segmenta/segmenta/ack/AckCode;" (.ref ae) ∧ Sta Z h "com/example/segmenta/segmenta/ack/AckCode" "AR" "Lcom/example/segmenta/segmenta/ack/AckCode;" (.ref ar) ∧ Sta Z h "com/example/segmenta/segmenta/ack/AckCode" "CA" "Lcom/example/segmenta/segmenta/ack/AckCode;" (.ref ca) ∧ Sta Z h "com/example/segmenta/segmenta/ack/AckCode" "CE" "Lcom/example/segmenta/segmenta/ack/AckCode;" (.ref ce) ∧ Sta Z h "com/example/segmenta/segmenta/ack/AckCode" "CR" "Lcom/example/segmenta/segmenta/ack/AckCode;" (.ref cr) ∧ Exa Z h aa "com/example/segmenta/segmenta/ack/AckCode" ∧ Exa Z h ae "com/example/segmenta/segmenta/ack/AckCode" ∧ Exa Z h ar "com/example/segmenta/segmenta/ack/AckCode" ∧ Exa Z h ca "com/example/segmenta/segmenta/ack/AckCode" ∧ Exa Z h ce "com/example/segmenta/segmenta/ack/AckCode" ∧ Exa Z h cr "com/example/segmenta/segmenta/ack/AckCode" ∧ aa ≠ ae ∧ aa ≠ ar ∧ aa ≠ ca ∧ aa ≠ ce ∧ aa ≠ cr ∧ ae ≠ ar ∧ ae ≠ ca ∧ ae ≠ ce ∧ ae ≠ cr ∧ ar ≠ ca ∧ ar ≠ ce ∧ ar ≠ cr ∧ ca ≠ ce ∧ ca ≠ cr ∧ ce ≠ cr
def own_acc (x ca ce cr : Addr) : Int32 := if x = ca then 1 else if x = ce then 1 else if x = cr then 1 else 0
theorem own_ord {args : Array Value} {s : State} {t : Term} {a : Addr} {k : Int32} (h : (Jvm.Cond.eq (Jvm.Term.field t "java/lang/Enum" "ordinal" "I") (Jvm.Term.int k)).value args s none s [] = some true) (ht : t.eval args s none [] s = some (.ref a)) : Fld s s.heap a "java/lang/Enum" "ordinal" "I" (.int k) := by
  exact Fld.start ((fld_at ht).symm.trans (eqv_i (Term.int_eval k) h))

def own_pick (k : Int32) (aa ae ar ca ce cr : Addr) : Addr := if k = 0 then aa else if k = 1 then ae else if k = 2 then ar else if k = 3 then ca else if k = 4 then ce else cr
theorem own_pick_exa {Z : State} {h : Heap} {k : Int32} {aa ae ar ca ce cr : Addr} (P : own_P Z h aa ae ar ca ce cr) : Exa Z h (own_pick k aa ae ar ca ce cr) "com/example/segmenta/segmenta/ack/AckCode" := by
  obtain ⟨S_AA, S_AE, S_AR, S_CA, S_CE, S_CR, E_aa, E_ae, E_ar, E_ca, E_ce, E_cr, ne_aa_ae, ne_aa_ar, ne_aa_ca, ne_aa_ce, ne_aa_cr, ne_ae_ar, ne_ae_ca, ne_ae_ce, ne_ae_cr, ne_ar_ca, ne_ar_ce, ne_ar_cr, ne_ca_ce, ne_ca_cr, ne_ce_cr⟩ := P
  unfold own_pick
  repeat' split
  all_goals assumption
theorem own_k (x : Int32) : 0 ≤ ((x &&& 2147483647) % 6).toInt ∧ ((x &&& 2147483647) % 6).toInt < 6 := by
  have h1 := c_mask x 2147483647 31 (by decide) (by decide)
  have h2 := (c_irem (x &&& 2147483647) 6 6 rfl).1 (by rw [h1]; omega)
  rw [h2]; omega
theorem own_lo {Z : State} {h : Heap} {x : Int32} {aa ae ar ca ce cr : Addr} (P : own_P Z h aa ae ar ca ce cr) (q : (x &&& 2147483647) % 6 < 3) : own_acc (own_pick ((x &&& 2147483647) % 6) aa ae ar ca ce cr) ca ce cr = 0 := by
  obtain ⟨S_AA, S_AE, S_AR, S_CA, S_CE, S_CR, E_aa, E_ae, E_ar, E_ca, E_ce, E_cr, ne_aa_ae, ne_aa_ar, ne_aa_ca, ne_aa_ce, ne_aa_cr, ne_ae_ar, ne_ae_ca, ne_ae_ce, ne_ae_cr, ne_ar_ca, ne_ar_ce, ne_ar_cr, ne_ca_ce, ne_ca_cr, ne_ce_cr⟩ := P
  have b := own_k x
  generalize (x &&& 2147483647) % 6 = k at *
  rw [Int32.lt_iff_toInt_lt] at q
  have e3 : (3 : Int32).toInt = 3 := rfl
  rw [e3] at q
  have : k = 0 ∨ k = 1 ∨ k = 2 := by
    rcases (by omega : k.toInt = 0 ∨ k.toInt = 1 ∨ k.toInt = 2) with h | h | h
    · exact Or.inl (Int32.toInt_inj.mp h)
    · exact Or.inr (Or.inl (Int32.toInt_inj.mp h))
    · exact Or.inr (Or.inr (Int32.toInt_inj.mp h))
  rcases this with rfl | rfl | rfl <;> simp [own_acc, own_pick, ne_aa_ca, ne_aa_ce, ne_aa_cr, ne_ae_ca, ne_ae_ce, ne_ae_cr, ne_ar_ca, ne_ar_ce, ne_ar_cr]
theorem own_hi {x : Int32} {aa ae ar ca ce cr : Addr} (q : ¬ (x &&& 2147483647) % 6 < 3) : own_acc (own_pick ((x &&& 2147483647) % 6) aa ae ar ca ce cr) ca ce cr = 1 := by
  generalize (x &&& 2147483647) % 6 = k at *
  have h0 : k ≠ 0 := fun e => q (by rw [e]; decide)
  have h1 : k ≠ 1 := fun e => q (by rw [e]; decide)
  have h2 : k ≠ 2 := fun e => q (by rw [e]; decide)
  unfold own_acc own_pick
  simp only [h0, h1, h2, if_false]
  by_cases h3 : k = 3
  · simp [h3]
  · by_cases h4 : k = 4
    · simp [h3, h4]
    · simp [h3, h4]

theorem d2_0 : decode prog_25_method_4_code 0 = .ok (.aload_n 0, 1) := by decide +kernel
theorem d2_1 : decode prog_25_method_4_code 1 = .ok (.getstatic 13, 3) := by decide +kernel
theorem d2_4 : decode prog_25_method_4_code 4 = .ok (.if_acmp .eq 17, 3) := by decide +kernel
theorem d2_7 : decode prog_25_method_4_code 7 = .ok (.aload_n 0, 1) := by decide +kernel
theorem d2_8 : decode prog_25_method_4_code 8 = .ok (.getstatic 16, 3) := by decide +kernel
theorem d2_11 : decode prog_25_method_4_code 11 = .ok (.if_acmp .eq 10, 3) := by decide +kernel
theorem d2_14 : decode prog_25_method_4_code 14 = .ok (.aload_n 0, 1) := by decide +kernel
theorem d2_15 : decode prog_25_method_4_code 15 = .ok (.getstatic 19, 3) := by decide +kernel
theorem d2_18 : decode prog_25_method_4_code 18 = .ok (.if_acmp .ne 7, 3) := by decide +kernel
theorem d2_21 : decode prog_25_method_4_code 21 = .ok (.iconst 1, 1) := by decide +kernel
theorem d2_22 : decode prog_25_method_4_code 22 = .ok (.goto 4, 3) := by decide +kernel
theorem d2_25 : decode prog_25_method_4_code 25 = .ok (.iconst 0, 1) := by decide +kernel
theorem d2_26 : decode prog_25_method_4_code 26 = .ok (.ireturn, 1) := by decide +kernel
theorem pn_com_example_segmenta_segmenta_ack_AckCode : plainName "com/example/segmenta/segmenta/ack/AckCode" = true := by first | (simp [plainName, overriddenIn]; done) | decide +kernel
theorem ef_rmA (m : MethodId) (x0 : Addr) : entryFrame m #[(.ref x0)] 1 = mkF m 0 #[.val (.ref x0)] [] := by first | (simp [entryFrame, mkF, argsToLocals, Value.category]; done) | rfl
def Q_rmA (Z : State) (o : Addr) (aa ae ar ca ce cr : Addr) (h0 : Heap) (n0 : Nat) (v : Option Value) (h : Heap) (L : List Loc) : Prop := v = some (.int (own_acc o ca ce cr)) ∧ Fr n0 L ∧ h = h0
def K_rmA (Z : State) (o : Addr) (aa ae ar ca ce cr : Addr) (h0 : Heap) (n0 : Nat) (s : State) : Outcome → State → Prop := fun oo U' => ∃ v L, oo = .returned v ∧ Q_rmA Z o aa ae ar ca ce cr h0 n0 v U'.heap L ∧ FrameEnd s oo U' L ({ frames := 0, cells := 0, slots := 0, locals := 0 } : Room).cells ({ frames := 0, cells := 0, slots := 0, locals := 0 } : Room).slots
set_option maxRecDepth 65536 in
set_option maxHeartbeats 40000000 in
theorem rmA (l : Launch) (Z : State) (a0 : Array Value) (hw : ∀ d ∈ tables_1, d.before a0 Z = true) (ws : List Jvm.Cond) (o : Addr) (aa ae ar ca ce cr : Addr) (h0 : Heap) (n0 : Nat) (Z0 : n0 ≤ h0.size) (P : own_P Z h0 aa ae ar ca ce cr) :
    MetFree l (⟨"com/example/segmenta/segmenta/ack/AckCode", "isAcceptLevel", "()Z"⟩ : MethodName) (head1 (Jvm.Cond.code (⟨"com/example/segmenta/segmenta/ack/AckCode", "isAcceptLevel", "()Z"⟩ : MethodName) prog_25_method_4_code 1 (some .boolean) :: ws) ({ frames := 0, cells := 0, slots := 0, locals := 0 } : Room)) (fun a U => a = #[(.ref o)] ∧ Z.Warmed39 U.vm ∧ U.heap = h0) (fun _ _ _ _ _ => True) (fun _ U oo U' => ∃ v L, oo = .returned v ∧ Q_rmA Z o aa ae ar ca ce cr h0 n0 v U'.heap L ∧ FrameEnd U oo U' L ({ frames := 0, cells := 0, slots := 0, locals := 0 } : Room).cells ({ frames := 0, cells := 0, slots := 0, locals := 0 } : Room).slots) := by
  refine MetFree.of_bodySF (plainFor_of_name pn_com_example_segmenta_segmenta_ack_AckCode) hisR ?_
  intro p e s m args below meth c s₁ Bd hml0 hP hK
  obtain ⟨rfl, hZ, hh⟩ := hP
  have hx := Bd.exec
  have hby := Bd.bytes
  have hml : c.maxLocals = 1 := hml0
  have hown : s.vm.findClass "com/example/segmenta/segmenta/ack/AckCode" = some m.cls := findClass_of_methodNamed Bd.named
  have hnm := (name_of_methodNamed Bd.named Bd.method).1
  have X0 : Stand p l e ({ frames := 0, cells := 0, slots := 0, locals := 0 } : Room) s m #[(.ref o)] below meth c s₁ [] 0 0 := Stand.of_body Bd
  have e0 : s₁.heap = h0 := by rw [← hh, Bd.state]; rfl
  have N0 := Fr.nil n0
  refine own_st (K := (K_rmA Z o aa ae ar ca ce cr h0 n0 s)) (fun t' k' => castTop (ef_rmA m o) k') ?_
  obtain ⟨S_AA, S_AE, S_AR, S_CA, S_CE, S_CR, E_aa, E_ae, E_ar, E_ca, E_ce, E_cr, ne_aa_ae, ne_aa_ar, ne_aa_ca, ne_aa_ce, ne_aa_cr, ne_ae_ar, ne_ae_ca, ne_ae_ce, ne_ae_cr, ne_ar_ca, ne_ar_ce, ne_ar_cr, ne_ca_ce, ne_ca_cr, ne_ce_cr⟩ := P
  show own_Go p.tables e below _ (s₁.setTop (mkF m 0 #[.val (.ref o)] []))
  refine own_st (fun _ k' => XS.aloadN X0.here hx rfl (hb hby d2_0) rfl rfl k') ?_
  show own_Go p.tables e below _ (s₁.setTop (mkF m 1 #[.val (.ref o)] [(.ref o)]))
  obtain ⟨T1, X1, e1, st1⟩ := getS2 X0 hx hZ hown (host := "") (Or.inl (hw _ (List.mem_of_getElem? (i := 13) rfl))) Via.refl e0 S_CA (g := (mkF m 1 #[.val (.ref o)] [(.ref o)])) rfl (hb hby d2_1)
  refine own_st st1 ?_
  show own_Go p.tables e below _ (T1.setTop (mkF m 4 #[.val (.ref o)] [(.ref ca), (.ref o)]))
  by_cases ha2 : o = ca
  ·  -- pc 4
    refine own_st (fun _ k' => Jvm.RoadKit.acmp (g := (mkF m 4 #[.val (.ref o)] [(.ref ca), (.ref o)])) X1 hx rfl rfl rfl (pc0 := 4) (pc' := 21) (same := true) rfl (hb hby d2_4) rfl (decide_eq_true (congrArg Value.ref ha2)) (by decide) (by decide) k') ?_
    show own_Go p.tables e below _ (T1.setTop (mkF m 21 #[.val (.ref o)] []))
    refine own_st (fun _ k' => XS.iconst X1.here hx rfl (hb hby d2_21) k') ?_
    show own_Go p.tables e below _ (T1.setTop (mkF m 22 #[.val (.ref o)] [(.int (1 : Int32))]))
    refine own_st (fun _ k' => XS.goto X1.here hx rfl (pc0 := 22) (pc' := 26) rfl (hb hby d2_22) (by decide) (by decide) k') ?_
    show own_Go p.tables e below _ (T1.setTop (mkF m 26 #[.val (.ref o)] [(.int (1 : Int32))]))
    exact own_retN X1 hx (t := .boolean) Bd.returns (by simp) (hb hby d2_26) Bd.notSynchronized ⟨by simp [own_acc, nar, ha2], N0, e1⟩ (by decide) (by decide)
  ·  -- pc 4
    refine own_st (fun _ k' => Jvm.RoadKit.acmp (g := (mkF m 4 #[.val (.ref o)] [(.ref ca), (.ref o)])) X1 hx rfl rfl rfl (pc0 := 4) (pc' := 7) (same := false) rfl (hb hby d2_4) rfl (decide_eq_false (fun q => ha2 (Value.ref.inj q))) (by decide) (by decide) k') ?_
    show own_Go p.tables e below _ (T1.setTop (mkF m 7 #[.val (.ref o)] []))
    refine own_st (fun _ k' => XS.aloadN X1.here hx rfl (hb hby d2_7) rfl rfl k') ?_
    show own_Go p.tables e below _ (T1.setTop (mkF m 8 #[.val (.ref o)] [(.ref o)]))
    obtain ⟨T3, X3, e3, st3⟩ := getS2 X1 hx hZ hown (host := "") (Or.inl (hw _ (List.mem_of_getElem? (i := 15) rfl))) Via.refl e1 S_CE (g := (mkF m 8 #[.val (.ref o)] [(.ref o)])) rfl (hb hby d2_8)
    refine own_st st3 ?_
    show own_Go p.tables e below _ (T3.setTop (mkF m 11 #[.val (.ref o)] [(.ref ce), (.ref o)]))
    by_cases ha4 : o = ce
    ·  -- pc 11
      refine own_st (fun _ k' => Jvm.RoadKit.acmp (g := (mkF m 11 #[.val (.ref o)] [(.ref ce), (.ref o)])) X3 hx rfl rfl rfl (pc0 := 11) (pc' := 21) (same := true) rfl (hb hby d2_11) rfl (decide_eq_true (congrArg Value.ref ha4)) (by decide) (by decide) k') ?_
      show own_Go p.tables e below _ (T3.setTop (mkF m 21 #[.val (.ref o)] []))
      refine own_st (fun _ k' => XS.iconst X3.here hx rfl (hb hby d2_21) k') ?_
      show own_Go p.tables e below _ (T3.setTop (mkF m 22 #[.val (.ref o)] [(.int (1 : Int32))]))
      refine own_st (fun _ k' => XS.goto X3.here hx rfl (pc0 := 22) (pc' := 26) rfl (hb hby d2_22) (by decide) (by decide) k') ?_
      show own_Go p.tables e below _ (T3.setTop (mkF m 26 #[.val (.ref o)] [(.int (1 : Int32))]))
      exact own_retN X3 hx (t := .boolean) Bd.returns (by simp) (hb hby d2_26) Bd.notSynchronized ⟨by simp [own_acc, nar, ha2, ha4], N0, e3⟩ (by decide) (by decide)
    ·  -- pc 11
      refine own_st (fun _ k' => Jvm.RoadKit.acmp (g := (mkF m 11 #[.val (.ref o)] [(.ref ce), (.ref o)])) X3 hx rfl rfl rfl (pc0 := 11) (pc' := 14) (same := false) rfl (hb hby d2_11) rfl (decide_eq_false (fun q => ha4 (Value.ref.inj q))) (by decide) (by decide) k') ?_
      show own_Go p.tables e below _ (T3.setTop (mkF m 14 #[.val (.ref o)] []))
      refine own_st (fun _ k' => XS.aloadN X3.here hx rfl (hb hby d2_14) rfl rfl k') ?_
      show own_Go p.tables e below _ (T3.setTop (mkF m 15 #[.val (.ref o)] [(.ref o)]))
      obtain ⟨T5, X5, e5, st5⟩ := getS2 X3 hx hZ hown (host := "") (Or.inl (hw _ (List.mem_of_getElem? (i := 17) rfl))) Via.refl e3 S_CR (g := (mkF m 15 #[.val (.ref o)] [(.ref o)])) rfl (hb hby d2_15)
      refine own_st st5 ?_
      show own_Go p.tables e below _ (T5.setTop (mkF m 18 #[.val (.ref o)] [(.ref cr), (.ref o)]))
      by_cases ha6 : o = cr
      ·  -- pc 18
        refine own_st (fun _ k' => Jvm.RoadKit.acmp (g := (mkF m 18 #[.val (.ref o)] [(.ref cr), (.ref o)])) X5 hx rfl rfl rfl (pc0 := 18) (pc' := 21) (same := true) rfl (hb hby d2_18) rfl (decide_eq_true (congrArg Value.ref ha6)) (by decide) (by decide) k') ?_
        show own_Go p.tables e below _ (T5.setTop (mkF m 21 #[.val (.ref o)] []))
        refine own_st (fun _ k' => XS.iconst X5.here hx rfl (hb hby d2_21) k') ?_
        show own_Go p.tables e below _ (T5.setTop (mkF m 22 #[.val (.ref o)] [(.int (1 : Int32))]))
        refine own_st (fun _ k' => XS.goto X5.here hx rfl (pc0 := 22) (pc' := 26) rfl (hb hby d2_22) (by decide) (by decide) k') ?_
        show own_Go p.tables e below _ (T5.setTop (mkF m 26 #[.val (.ref o)] [(.int (1 : Int32))]))
        exact own_retN X5 hx (t := .boolean) Bd.returns (by simp) (hb hby d2_26) Bd.notSynchronized ⟨by simp [own_acc, nar, ha2, ha4, ha6], N0, e5⟩ (by decide) (by decide)
      ·  -- pc 18
        refine own_st (fun _ k' => Jvm.RoadKit.acmp (g := (mkF m 18 #[.val (.ref o)] [(.ref cr), (.ref o)])) X5 hx rfl rfl rfl (pc0 := 18) (pc' := 25) (same := false) rfl (hb hby d2_18) rfl (decide_eq_false (fun q => ha6 (Value.ref.inj q))) (by decide) (by decide) k') ?_
        show own_Go p.tables e below _ (T5.setTop (mkF m 25 #[.val (.ref o)] []))
        refine own_st (fun _ k' => XS.iconst X5.here hx rfl (hb hby d2_25) k') ?_
        show own_Go p.tables e below _ (T5.setTop (mkF m 26 #[.val (.ref o)] [(.int (0 : Int32))]))
        exact own_retN X5 hx (t := .boolean) Bd.returns (by simp) (hb hby d2_26) Bd.notSynchronized ⟨by simp [own_acc, nar, ha2, ha4, ha6], N0, e5⟩ (by decide) (by decide)

theorem d1_0 : decode method_2_code 0 = .ok (.iload_n 0, 1) := by decide +kernel
theorem d1_1 : decode method_2_code 1 = .ok (.ifCond .ne 7, 3) := by decide +kernel
theorem d1_4 : decode method_2_code 4 = .ok (.getstatic 7, 3) := by decide +kernel
theorem d1_7 : decode method_2_code 7 = .ok (.areturn, 1) := by decide +kernel
theorem d1_8 : decode method_2_code 8 = .ok (.iload_n 0, 1) := by decide +kernel
theorem d1_9 : decode method_2_code 9 = .ok (.iconst 1, 1) := by decide +kernel
theorem d1_10 : decode method_2_code 10 = .ok (.if_icmp .ne 7, 3) := by decide +kernel
theorem d1_13 : decode method_2_code 13 = .ok (.getstatic 13, 3) := by decide +kernel
theorem d1_16 : decode method_2_code 16 = .ok (.areturn, 1) := by decide +kernel
theorem d1_17 : decode method_2_code 17 = .ok (.iload_n 0, 1) := by decide +kernel
theorem d1_18 : decode method_2_code 18 = .ok (.iconst 2, 1) := by decide +kernel
theorem d1_19 : decode method_2_code 19 = .ok (.if_icmp .ne 7, 3) := by decide +kernel
theorem d1_22 : decode method_2_code 22 = .ok (.getstatic 16, 3) := by decide +kernel
theorem d1_25 : decode method_2_code 25 = .ok (.areturn, 1) := by decide +kernel
theorem d1_26 : decode method_2_code 26 = .ok (.iload_n 0, 1) := by decide +kernel
theorem d1_27 : decode method_2_code 27 = .ok (.iconst 3, 1) := by decide +kernel
theorem d1_28 : decode method_2_code 28 = .ok (.if_icmp .ne 7, 3) := by decide +kernel
theorem d1_31 : decode method_2_code 31 = .ok (.getstatic 19, 3) := by decide +kernel
theorem d1_34 : decode method_2_code 34 = .ok (.areturn, 1) := by decide +kernel
theorem d1_35 : decode method_2_code 35 = .ok (.iload_n 0, 1) := by decide +kernel
theorem d1_36 : decode method_2_code 36 = .ok (.iconst 4, 1) := by decide +kernel
theorem d1_37 : decode method_2_code 37 = .ok (.if_icmp .ne 7, 3) := by decide +kernel
theorem d1_40 : decode method_2_code 40 = .ok (.getstatic 22, 3) := by decide +kernel
theorem d1_43 : decode method_2_code 43 = .ok (.areturn, 1) := by decide +kernel
theorem d1_44 : decode method_2_code 44 = .ok (.getstatic 25, 3) := by decide +kernel
theorem d1_47 : decode method_2_code 47 = .ok (.areturn, 1) := by decide +kernel
theorem pn_com_example_segmenta_segmenta_ack_AckCodeIsAcceptLevelPinLaw : plainName "com/example/segmenta/segmenta/ack/AckCodeIsAcceptLevelPinLaw" = true := by first | (simp [plainName, overriddenIn]; done) | decide +kernel
theorem ef_rmP (m : MethodId) (x0 : Int32) : entryFrame m #[(.int x0)] 1 = mkF m 0 #[.val (.int x0)] [] := by first | (simp [entryFrame, mkF, argsToLocals, Value.category]; done) | rfl
def Q_rmP (Z : State) (k : Int32) (aa ae ar ca ce cr : Addr) (h0 : Heap) (n0 : Nat) (v : Option Value) (h : Heap) (L : List Loc) : Prop := ∃ c, v = some (.ref c) ∧ c = own_pick k aa ae ar ca ce cr ∧ Fr n0 L ∧ h = h0
def K_rmP (Z : State) (k : Int32) (aa ae ar ca ce cr : Addr) (h0 : Heap) (n0 : Nat) (s : State) : Outcome → State → Prop := fun oo U' => ∃ v L, oo = .returned v ∧ Q_rmP Z k aa ae ar ca ce cr h0 n0 v U'.heap L ∧ FrameEnd s oo U' L ({ frames := 0, cells := 0, slots := 0, locals := 0 } : Room).cells ({ frames := 0, cells := 0, slots := 0, locals := 0 } : Room).slots
set_option maxRecDepth 65536 in
set_option maxHeartbeats 40000000 in
theorem rmP (l : Launch) (Z : State) (a0 : Array Value) (hw : ∀ d ∈ tables_1, d.before a0 Z = true) (ws : List Jvm.Cond) (k : Int32) (aa ae ar ca ce cr : Addr) (h0 : Heap) (n0 : Nat) (Z0 : n0 ≤ h0.size) (P : own_P Z h0 aa ae ar ca ce cr) :
    MetFree l (⟨"com/example/segmenta/segmenta/ack/AckCodeIsAcceptLevelPinLaw", "pick", "(I)Lcom/example/segmenta/segmenta/ack/AckCode;"⟩ : MethodName) (head1 (Jvm.Cond.code (⟨"com/example/segmenta/segmenta/ack/AckCodeIsAcceptLevelPinLaw", "pick", "(I)Lcom/example/segmenta/segmenta/ack/AckCode;"⟩ : MethodName) method_2_code 1 (some (.object "com/example/segmenta/segmenta/ack/AckCode")) :: ws) ({ frames := 0, cells := 0, slots := 0, locals := 0 } : Room)) (fun a U => a = #[(.int k)] ∧ Z.Warmed39 U.vm ∧ U.heap = h0) (fun _ _ _ _ _ => True) (fun _ U oo U' => ∃ v L, oo = .returned v ∧ Q_rmP Z k aa ae ar ca ce cr h0 n0 v U'.heap L ∧ FrameEnd U oo U' L ({ frames := 0, cells := 0, slots := 0, locals := 0 } : Room).cells ({ frames := 0, cells := 0, slots := 0, locals := 0 } : Room).slots) := by
  refine MetFree.of_bodySF (plainFor_of_name pn_com_example_segmenta_segmenta_ack_AckCodeIsAcceptLevelPinLaw) hisR ?_
  intro p e s m args below meth c s₁ Bd hml0 hP hK
  obtain ⟨rfl, hZ, hh⟩ := hP
  have hx := Bd.exec
  have hby := Bd.bytes
  have hml : c.maxLocals = 1 := hml0
  have hown : s.vm.findClass "com/example/segmenta/segmenta/ack/AckCodeIsAcceptLevelPinLaw" = some m.cls := findClass_of_methodNamed Bd.named
  have hnm := (name_of_methodNamed Bd.named Bd.method).1
  have X0 : Stand p l e ({ frames := 0, cells := 0, slots := 0, locals := 0 } : Room) s m #[(.int k)] below meth c s₁ [] 0 0 := Stand.of_body Bd
  have e0 : s₁.heap = h0 := by rw [← hh, Bd.state]; rfl
  have N0 := Fr.nil n0
  refine own_st (K := (K_rmP Z k aa ae ar ca ce cr h0 n0 s)) (fun t' k' => castTop (ef_rmP m k) k') ?_
  obtain ⟨S_AA, S_AE, S_AR, S_CA, S_CE, S_CR, E_aa, E_ae, E_ar, E_ca, E_ce, E_cr, ne_aa_ae, ne_aa_ar, ne_aa_ca, ne_aa_ce, ne_aa_cr, ne_ae_ar, ne_ae_ca, ne_ae_ce, ne_ae_cr, ne_ar_ca, ne_ar_ce, ne_ar_cr, ne_ca_ce, ne_ca_cr, ne_ce_cr⟩ := P
  show own_Go p.tables e below _ (s₁.setTop (mkF m 0 #[.val (.int k)] []))
  refine own_st (fun _ k' => XS.iloadN X0.here hx rfl (hb hby d1_0) rfl k') ?_
  show own_Go p.tables e below _ (s₁.setTop (mkF m 1 #[.val (.int k)] [(.int k)]))
  by_cases hc1 : k = (0 : Int32)
  ·  -- pc 1, k = (0 : Int32)
    refine own_st (fun _ k' => XS.ifNo X0.here hx rfl (hb hby d1_1) rfl ((if0 _ _).trans (teq hc1).2) k') ?_
    show own_Go p.tables e below _ (s₁.setTop (mkF m 4 #[.val (.int k)] []))
    obtain ⟨T2, X2, e2, st2⟩ := getS2 X0 hx hZ hown (host := "") (Or.inl (hw _ (List.mem_of_getElem? (i := 5) rfl))) Via.refl e0 S_AA (g := (mkF m 4 #[.val (.int k)] [])) rfl (hb hby d1_4)
    refine own_st st2 ?_
    show own_Go p.tables e below _ (T2.setTop (mkF m 7 #[.val (.int k)] [(.ref aa)]))
    exact own_retA X2 hx Bd.returns rfl rfl (hb hby d1_7) Bd.notSynchronized ⟨aa, rfl, by simp [own_pick, hc1], N0, e2⟩ (by decide) (by decide)
  ·  -- pc 1, not k = (0 : Int32)
    refine own_st (fun _ k' => XS.ifYes X0.here hx rfl (pc0 := 1) (pc' := 8) rfl (hb hby d1_1) rfl ((if0 _ _).trans (feq hc1).2) (by decide) (by decide) k') ?_
    show own_Go p.tables e below _ (s₁.setTop (mkF m 8 #[.val (.int k)] []))
    refine own_st (fun _ k' => XS.iloadN X0.here hx rfl (hb hby d1_8) rfl k') ?_
    show own_Go p.tables e below _ (s₁.setTop (mkF m 9 #[.val (.int k)] [(.int k)]))
    refine own_st (fun _ k' => XS.iconst X0.here hx rfl (hb hby d1_9) k') ?_
    show own_Go p.tables e below _ (s₁.setTop (mkF m 10 #[.val (.int k)] [(.int (1 : Int32)), (.int k)]))
    by_cases hc3 : k = (1 : Int32)
    ·  -- pc 10, k = (1 : Int32)
      refine own_st (fun _ k' => XS.icmpNo X0.here hx rfl (hb hby d1_10) rfl (teq hc3).2 k') ?_
      show own_Go p.tables e below _ (s₁.setTop (mkF m 13 #[.val (.int k)] []))
      obtain ⟨T4, X4, e4, st4⟩ := getS2 X0 hx hZ hown (host := "") (Or.inl (hw _ (List.mem_of_getElem? (i := 22) rfl))) Via.refl e0 S_AE (g := (mkF m 13 #[.val (.int k)] [])) rfl (hb hby d1_13)
      refine own_st st4 ?_
      show own_Go p.tables e below _ (T4.setTop (mkF m 16 #[.val (.int k)] [(.ref ae)]))
      exact own_retA X4 hx Bd.returns rfl rfl (hb hby d1_16) Bd.notSynchronized ⟨ae, rfl, by simp [own_pick, hc1, hc3], N0, e4⟩ (by decide) (by decide)
    ·  -- pc 10, not k = (1 : Int32)
      refine own_st (fun _ k' => XS.icmpYes X0.here hx rfl (pc0 := 10) (pc' := 17) rfl (hb hby d1_10) rfl (feq hc3).2 (by decide) (by decide) k') ?_
      show own_Go p.tables e below _ (s₁.setTop (mkF m 17 #[.val (.int k)] []))
      refine own_st (fun _ k' => XS.iloadN X0.here hx rfl (hb hby d1_17) rfl k') ?_
      show own_Go p.tables e below _ (s₁.setTop (mkF m 18 #[.val (.int k)] [(.int k)]))
      refine own_st (fun _ k' => XS.iconst X0.here hx rfl (hb hby d1_18) k') ?_
      show own_Go p.tables e below _ (s₁.setTop (mkF m 19 #[.val (.int k)] [(.int (2 : Int32)), (.int k)]))
      by_cases hc5 : k = (2 : Int32)
      ·  -- pc 19, k = (2 : Int32)
        refine own_st (fun _ k' => XS.icmpNo X0.here hx rfl (hb hby d1_19) rfl (teq hc5).2 k') ?_
        show own_Go p.tables e below _ (s₁.setTop (mkF m 22 #[.val (.int k)] []))
        obtain ⟨T6, X6, e6, st6⟩ := getS2 X0 hx hZ hown (host := "") (Or.inl (hw _ (List.mem_of_getElem? (i := 20) rfl))) Via.refl e0 S_AR (g := (mkF m 22 #[.val (.int k)] [])) rfl (hb hby d1_22)
        refine own_st st6 ?_
        show own_Go p.tables e below _ (T6.setTop (mkF m 25 #[.val (.int k)] [(.ref ar)]))
        exact own_retA X6 hx Bd.returns rfl rfl (hb hby d1_25) Bd.notSynchronized ⟨ar, rfl, by simp [own_pick, hc1, hc3, hc5], N0, e6⟩ (by decide) (by decide)
      ·  -- pc 19, not k = (2 : Int32)
        refine own_st (fun _ k' => XS.icmpYes X0.here hx rfl (pc0 := 19) (pc' := 26) rfl (hb hby d1_19) rfl (feq hc5).2 (by decide) (by decide) k') ?_
        show own_Go p.tables e below _ (s₁.setTop (mkF m 26 #[.val (.int k)] []))
        refine own_st (fun _ k' => XS.iloadN X0.here hx rfl (hb hby d1_26) rfl k') ?_
        show own_Go p.tables e below _ (s₁.setTop (mkF m 27 #[.val (.int k)] [(.int k)]))
        refine own_st (fun _ k' => XS.iconst X0.here hx rfl (hb hby d1_27) k') ?_
        show own_Go p.tables e below _ (s₁.setTop (mkF m 28 #[.val (.int k)] [(.int (3 : Int32)), (.int k)]))
        by_cases hc7 : k = (3 : Int32)
        ·  -- pc 28, k = (3 : Int32)
          refine own_st (fun _ k' => XS.icmpNo X0.here hx rfl (hb hby d1_28) rfl (teq hc7).2 k') ?_
          show own_Go p.tables e below _ (s₁.setTop (mkF m 31 #[.val (.int k)] []))
          obtain ⟨T8, X8, e8, st8⟩ := getS2 X0 hx hZ hown (host := "") (Or.inl (hw _ (List.mem_of_getElem? (i := 19) rfl))) Via.refl e0 S_CA (g := (mkF m 31 #[.val (.int k)] [])) rfl (hb hby d1_31)
          refine own_st st8 ?_
          show own_Go p.tables e below _ (T8.setTop (mkF m 34 #[.val (.int k)] [(.ref ca)]))
          exact own_retA X8 hx Bd.returns rfl rfl (hb hby d1_34) Bd.notSynchronized ⟨ca, rfl, by simp [own_pick, hc1, hc3, hc5, hc7], N0, e8⟩ (by decide) (by decide)
        ·  -- pc 28, not k = (3 : Int32)
          refine own_st (fun _ k' => XS.icmpYes X0.here hx rfl (pc0 := 28) (pc' := 35) rfl (hb hby d1_28) rfl (feq hc7).2 (by decide) (by decide) k') ?_
          show own_Go p.tables e below _ (s₁.setTop (mkF m 35 #[.val (.int k)] []))
          refine own_st (fun _ k' => XS.iloadN X0.here hx rfl (hb hby d1_35) rfl k') ?_
          show own_Go p.tables e below _ (s₁.setTop (mkF m 36 #[.val (.int k)] [(.int k)]))
          refine own_st (fun _ k' => XS.iconst X0.here hx rfl (hb hby d1_36) k') ?_
          show own_Go p.tables e below _ (s₁.setTop (mkF m 37 #[.val (.int k)] [(.int (4 : Int32)), (.int k)]))
          by_cases hc9 : k = (4 : Int32)
          ·  -- pc 37, k = (4 : Int32)
            refine own_st (fun _ k' => XS.icmpNo X0.here hx rfl (hb hby d1_37) rfl (teq hc9).2 k') ?_
            show own_Go p.tables e below _ (s₁.setTop (mkF m 40 #[.val (.int k)] []))
            obtain ⟨T10, X10, e10, st10⟩ := getS2 X0 hx hZ hown (host := "") (Or.inl (hw _ (List.mem_of_getElem? (i := 25) rfl))) Via.refl e0 S_CE (g := (mkF m 40 #[.val (.int k)] [])) rfl (hb hby d1_40)
            refine own_st st10 ?_
            show own_Go p.tables e below _ (T10.setTop (mkF m 43 #[.val (.int k)] [(.ref ce)]))
            exact own_retA X10 hx Bd.returns rfl rfl (hb hby d1_43) Bd.notSynchronized ⟨ce, rfl, by simp [own_pick, hc1, hc3, hc5, hc7, hc9], N0, e10⟩ (by decide) (by decide)
          ·  -- pc 37, not k = (4 : Int32)
            refine own_st (fun _ k' => XS.icmpYes X0.here hx rfl (pc0 := 37) (pc' := 44) rfl (hb hby d1_37) rfl (feq hc9).2 (by decide) (by decide) k') ?_
            show own_Go p.tables e below _ (s₁.setTop (mkF m 44 #[.val (.int k)] []))
            obtain ⟨T11, X11, e11, st11⟩ := getS2 X0 hx hZ hown (host := "") (Or.inl (hw _ (List.mem_of_getElem? (i := 24) rfl))) Via.refl e0 S_CR (g := (mkF m 44 #[.val (.int k)] [])) rfl (hb hby d1_44)
            refine own_st st11 ?_
            show own_Go p.tables e below _ (T11.setTop (mkF m 47 #[.val (.int k)] [(.ref cr)]))
            exact own_retA X11 hx Bd.returns rfl rfl (hb hby d1_47) Bd.notSynchronized ⟨cr, rfl, by simp [own_pick, hc1, hc3, hc5, hc7, hc9], N0, e11⟩ (by decide) (by decide)

theorem pd__I_Lcom_example_segmenta_segmenta_ack_AckCode_ : parseMethodDescriptor "(I)Lcom/example/segmenta/segmenta/ack/AckCode;" = some ⟨[.int], some (.object "com/example/segmenta/segmenta/ack/AckCode")⟩ := by decide +kernel
theorem pd___Z : parseMethodDescriptor "()Z" = some ⟨[], some .boolean⟩ := by decide +kernel
theorem ef_rm0 (m : MethodId) (x0 : Int32) : entryFrame m #[(.int x0)] maxLocals = mkF m 0 #[.val (.int x0), .unset, .unset, .unset] [] := by first | (simp [entryFrame, mkF, argsToLocals, Value.category, maxLocals]; done) | rfl
def Q_rm0 (Z : State) (p1 : Int32) (aa ae ar ca ce cr : Addr) (h0 : Heap) (n0 : Nat) (v : Option Value) (h : Heap) (L : List Loc) : Prop := v = some (.int 1) ∧ Fr n0 L
def K_rm0 (Z : State) (p1 : Int32) (aa ae ar ca ce cr : Addr) (h0 : Heap) (n0 : Nat) (s : State) : Outcome → State → Prop := fun oo U' => ∃ v L, oo = .returned v ∧ Q_rm0 Z p1 aa ae ar ca ce cr h0 n0 v U'.heap L ∧ FrameEnd s oo U' L 0 0
set_option maxRecDepth 65536 in
set_option maxHeartbeats 40000000 in
theorem rm0 (l : Launch) (Z : State) (a0 : Array Value) (hw : ∀ d ∈ tables_1, d.before a0 Z = true) (ws : List Jvm.Cond) (p1 : Int32) (aa ae ar ca ce cr : Addr) (h0 : Heap) (n0 : Nat) (Z0 : n0 ≤ h0.size) (P : own_P Z h0 aa ae ar ca ce cr) :
    MetFree l x (head1 (Jvm.Cond.code x code maxLocals ret :: ws) room_1) (fun a U => a = #[(.int p1)] ∧ Z.Warmed39 U.vm ∧ U.heap = h0) (fun _ _ _ _ _ => True) (fun _ U oo U' => ∃ v L, oo = .returned v ∧ Q_rm0 Z p1 aa ae ar ca ce cr h0 n0 v U'.heap L ∧ FrameEnd U oo U' L 0 0) := by
  refine MetFree.of_bodySF (plainFor_of_name pn_com_example_segmenta_segmenta_ack_AckCodeIsAcceptLevelPinLaw) hisR ?_
  intro p e s m args below meth c s₁ Bd hml0 hP hK
  obtain ⟨rfl, hZ, hh⟩ := hP
  have hx := Bd.exec
  have hby := Bd.bytes
  have hml : c.maxLocals = 4 := hml0
  have hown : s.vm.findClass "com/example/segmenta/segmenta/ack/AckCodeIsAcceptLevelPinLaw" = some m.cls := findClass_of_methodNamed Bd.named
  have hnm := (name_of_methodNamed Bd.named Bd.method).1
  have X0 : Stand p l e room_1 s m #[(.int p1)] below meth c s₁ [] 0 0 := Stand.of_body Bd
  have e0 : s₁.heap = h0 := by rw [← hh, Bd.state]; rfl
  have N0 := Fr.nil n0
  refine own_st (K := (K_rm0 Z p1 aa ae ar ca ce cr h0 n0 s)) (fun t' k' => castTop (ef_rm0 m p1) k') ?_
  show own_Go p.tables e below _ (s₁.setTop (mkF m 0 #[.val (.int p1), .unset, .unset, .unset] []))
  refine own_st (fun _ k' => XS.iloadN X0.here hx rfl (hb hby at_0) rfl k') ?_
  show own_Go p.tables e below _ (s₁.setTop (mkF m 1 #[.val (.int p1), .unset, .unset, .unset] [(.int p1)]))
  refine own_st (fun t' k' => X0.ldcInt hx hown (mvT hZ (hw _ (List.mem_of_getElem? (i := 0) rfl))) (g := (mkF m 1 #[.val (.int p1), .unset, .unset, .unset] [(.int p1)])) rfl (hb hby at_1) t' k') ?_
  show own_Go p.tables e below _ (s₁.setTop (mkF m 3 #[.val (.int p1), .unset, .unset, .unset] [(.int (2147483647 : Int32)), (.int p1)]))
  refine own_st (fun _ k' => XS.iand X0.here hx rfl (hb hby at_3) rfl k') ?_
  show own_Go p.tables e below _ (s₁.setTop (mkF m 4 #[.val (.int p1), .unset, .unset, .unset] [(.int (p1 &&& (2147483647 : Int32)))]))
  refine own_st (fun _ k' => XS.bipush X0.here hx rfl (hb hby at_4) k') ?_
  show own_Go p.tables e below _ (s₁.setTop (mkF m 6 #[.val (.int p1), .unset, .unset, .unset] [(.int (6 : Int32)), (.int (p1 &&& (2147483647 : Int32)))]))
  refine own_st (fun _ k' => iremM X0 hx rfl (hb hby at_6) rfl (by decide) k') ?_
  show own_Go p.tables e below _ (s₁.setTop (mkF m 7 #[.val (.int p1), .unset, .unset, .unset] [(.int ((p1 &&& (2147483647 : Int32)) % (6 : Int32)))]))
  refine own_st (fun _ k' => XS.istoreN X0.here hx rfl (hb hby at_7) rfl (l' := #[.val (.int p1), .val (.int ((p1 &&& (2147483647 : Int32)) % (6 : Int32))), .unset, .unset]) rfl k') ?_
  show own_Go p.tables e below _ (s₁.setTop (mkF m 8 #[.val (.int p1), .val (.int ((p1 &&& (2147483647 : Int32)) % (6 : Int32))), .unset, .unset] []))
  refine own_st (fun _ k' => XS.iloadN X0.here hx rfl (hb hby at_8) rfl k') ?_
  show own_Go p.tables e below _ (s₁.setTop (mkF m 9 #[.val (.int p1), .val (.int ((p1 &&& (2147483647 : Int32)) % (6 : Int32))), .unset, .unset] [(.int ((p1 &&& (2147483647 : Int32)) % (6 : Int32)))]))
  obtain ⟨_, _, ⟨T1, L1, k1, n1⟩, -, X1, ⟨Lc1, hQ1, l1, y1, z1⟩, st1⟩ := Jvm.LawKit.callS X0 hx (y := (⟨"com/example/segmenta/segmenta/ack/AckCodeIsAcceptLevelPinLaw", "pick", "(I)Lcom/example/segmenta/segmenta/ack/AckCode;"⟩ : MethodName)) hown (mvT hZ (hw _ (List.mem_of_getElem? (i := 1) rfl))) (mvT hZ (hw _ (List.mem_of_getElem? (i := 2) rfl))) (mvT hZ (hw _ (List.mem_of_getElem? (i := 3) rfl))) (mvT hZ (hw _ (List.mem_of_getElem? (i := 4) rfl))) (by decide) (backOf (W := 0) (rmP l Z a0 hw [] ((p1 &&& (2147483647 : Int32)) % (6 : Int32)) aa ae ar ca ce cr h0 n0 Z0 P) hZ (hw _ (List.mem_of_getElem? (i := 4) rfl)) (hw _ (List.mem_of_getElem? (i := 3) rfl)) (by decide) (by decide)) (g := (mkF m 9 #[.val (.int p1), .val (.int ((p1 &&& (2147483647 : Int32)) % (6 : Int32))), .unset, .unset] [(.int ((p1 &&& (2147483647 : Int32)) % (6 : Int32)))])) rfl (by rw [hml]; rfl) (argsL := [(.int ((p1 &&& (2147483647 : Int32)) % (6 : Int32)))]) (rest := []) (lenOf pd__I_Lcom_example_segmenta_segmenta_ack_AckCode_ rfl) rfl (by show 2 * 0 + _ ≤ _; exact Nat.le_of_eq rfl) (hb hby at_9) (fun _ _ => ⟨rfl, e0, (by decide : 0 + 0 ≤ _), (by decide : 0 + 0 ≤ _)⟩)
  dsimp only [Pt.U, Pt.locs, Pt.cells, Pt.slots] at X1 l1 y1 z1 st1 hQ1
  subst l1 y1 z1
  obtain ⟨c1, rfl, hcc, Nq1, e1⟩ := hQ1
  have N1 := Fr.app N0 Nq1
  have E_c : Exa Z h0 c1 "com/example/segmenta/segmenta/ack/AckCode" := by rw [hcc]; exact own_pick_exa P
  refine own_st st1 ?_
  show own_Go p.tables e below _ (T1.setTop (mkF m 12 #[.val (.int p1), .val (.int ((p1 &&& (2147483647 : Int32)) % (6 : Int32))), .unset, .unset] [(.ref c1)]))
  refine own_st (fun _ k' => XS.astoreN X1.here hx rfl (hb hby at_12) rfl rfl (l' := #[.val (.int p1), .val (.int ((p1 &&& (2147483647 : Int32)) % (6 : Int32))), .val (.ref c1), .unset]) rfl k') ?_
  show own_Go p.tables e below _ (T1.setTop (mkF m 13 #[.val (.int p1), .val (.int ((p1 &&& (2147483647 : Int32)) % (6 : Int32))), .val (.ref c1), .unset] []))
  refine own_st (fun _ k' => XS.iloadN X1.here hx rfl (hb hby at_13) rfl k') ?_
  show own_Go p.tables e below _ (T1.setTop (mkF m 14 #[.val (.int p1), .val (.int ((p1 &&& (2147483647 : Int32)) % (6 : Int32))), .val (.ref c1), .unset] [(.int ((p1 &&& (2147483647 : Int32)) % (6 : Int32)))]))
  refine own_st (fun _ k' => XS.iconst X1.here hx rfl (hb hby at_14) k') ?_
  show own_Go p.tables e below _ (T1.setTop (mkF m 15 #[.val (.int p1), .val (.int ((p1 &&& (2147483647 : Int32)) % (6 : Int32))), .val (.ref c1), .unset] [(.int (3 : Int32)), (.int ((p1 &&& (2147483647 : Int32)) % (6 : Int32)))]))
  by_cases hc2 : ((p1 &&& (2147483647 : Int32)) % (6 : Int32)) < (3 : Int32)
  ·  -- pc 15, ((p1 &&& (2147483647 : Int32)) % (6 : Int32)) < (3 : Int32)
    refine own_st (fun _ k' => XS.icmpYes X1.here hx rfl (pc0 := 15) (pc' := 22) rfl (hb hby at_15) rfl (tlt hc2).1 (by decide) (by decide) k') ?_
    show own_Go p.tables e below _ (T1.setTop (mkF m 22 #[.val (.int p1), .val (.int ((p1 &&& (2147483647 : Int32)) % (6 : Int32))), .val (.ref c1), .unset] []))
    refine own_st (fun _ k' => XS.iconst X1.here hx rfl (hb hby at_22) k') ?_
    show own_Go p.tables e below _ (T1.setTop (mkF m 23 #[.val (.int p1), .val (.int ((p1 &&& (2147483647 : Int32)) % (6 : Int32))), .val (.ref c1), .unset] [(.int (0 : Int32))]))
    refine own_st (fun _ k' => XS.istoreN X1.here hx rfl (hb hby at_23) rfl (l' := #[.val (.int p1), .val (.int ((p1 &&& (2147483647 : Int32)) % (6 : Int32))), .val (.ref c1), .val (.int (0 : Int32))]) rfl k') ?_
    show own_Go p.tables e below _ (T1.setTop (mkF m 24 #[.val (.int p1), .val (.int ((p1 &&& (2147483647 : Int32)) % (6 : Int32))), .val (.ref c1), .val (.int (0 : Int32))] []))
    refine own_st (fun _ k' => XS.aloadN X1.here hx rfl (hb hby at_24) rfl rfl k') ?_
    show own_Go p.tables e below _ (T1.setTop (mkF m 25 #[.val (.int p1), .val (.int ((p1 &&& (2147483647 : Int32)) % (6 : Int32))), .val (.ref c1), .val (.int (0 : Int32))] [(.ref c1)]))
    obtain ⟨cq3, kq3, q3a, q3b, q3c⟩ := isOf hZ e1 E_c
    obtain ⟨_, _, ⟨T3, L3, k3, n3⟩, -, X3, ⟨Lc3, hQ3, l3, y3, z3⟩, st3⟩ := X1.virtualBack hx (y := (⟨"com/example/segmenta/segmenta/ack/AckCode", "isAcceptLevel", "()Z"⟩ : MethodName)) (z := (⟨"com/example/segmenta/segmenta/ack/AckCode", "isAcceptLevel", "()Z"⟩ : MethodName)) hown (mvT hZ (hw _ (List.mem_of_getElem? (i := 8) rfl))) (mvT hZ (hw _ (List.mem_of_getElem? (i := 9) rfl))) (notFace_of_selects (args := #[]) (mvT hZ (hw _ (List.mem_of_getElem? (i := 11) rfl)))) (mvT hZ (hw _ (List.mem_of_getElem? (i := 11) rfl))) (mvT hZ (hw _ (List.mem_of_getElem? (i := 10) rfl))) (by decide) (backOf (W := 0) (rmA l Z a0 hw [] c1 aa ae ar ca ce cr h0 n0 Z0 P) hZ (hw _ (List.mem_of_getElem? (i := 12) rfl)) (hw _ (List.mem_of_getElem? (i := 6) rfl)) (by decide) (by decide)) q3a q3c (g := (mkF m 25 #[.val (.int p1), .val (.int ((p1 &&& (2147483647 : Int32)) % (6 : Int32))), .val (.ref c1), .val (.int (0 : Int32))] [(.ref c1)])) rfl (by rw [hml]; rfl) (Steps.refl _) (argsL := []) (rest := []) (lenOf pd___Z rfl) rfl (by show 2 * 0 + _ ≤ _; exact Nat.le_of_eq rfl) (hb hby at_25) (fun _ _ => ⟨rfl, e1, (by decide : 0 + 0 ≤ _), (by decide : 0 + 0 ≤ _)⟩)
    dsimp only [Pt.U, Pt.locs, Pt.cells, Pt.slots] at X3 l3 y3 z3 st3 hQ3
    subst l3 y3 z3
    obtain ⟨rfl, Nq3, e3⟩ := hQ3
    have N3 := Fr.app N1 Nq3
    refine own_tr st3 ?_
    show own_Go p.tables e below _ (T3.setTop (mkF m 28 #[.val (.int p1), .val (.int ((p1 &&& (2147483647 : Int32)) % (6 : Int32))), .val (.ref c1), .val (.int (0 : Int32))] [(.int (own_acc c1 ca ce cr))]))
    refine own_st (fun _ k' => XS.iloadN X3.here hx rfl (hb hby at_28) rfl k') ?_
    show own_Go p.tables e below _ (T3.setTop (mkF m 29 #[.val (.int p1), .val (.int ((p1 &&& (2147483647 : Int32)) % (6 : Int32))), .val (.ref c1), .val (.int (0 : Int32))] [(.int (0 : Int32)), (.int (own_acc c1 ca ce cr))]))
    refine own_st (fun _ k' => XS.icmpNo X3.here hx rfl (hb hby at_29) rfl (teq (by rw [hcc]; exact own_lo P hc2)).2 k') ?_
    show own_Go p.tables e below _ (T3.setTop (mkF m 32 #[.val (.int p1), .val (.int ((p1 &&& (2147483647 : Int32)) % (6 : Int32))), .val (.ref c1), .val (.int (0 : Int32))] []))
    refine own_st (fun _ k' => XS.iconst X3.here hx rfl (hb hby at_32) k') ?_
    show own_Go p.tables e below _ (T3.setTop (mkF m 33 #[.val (.int p1), .val (.int ((p1 &&& (2147483647 : Int32)) % (6 : Int32))), .val (.ref c1), .val (.int (0 : Int32))] [(.int (1 : Int32))]))
    refine own_st (fun _ k' => XS.goto X3.here hx rfl (pc0 := 33) (pc' := 37) rfl (hb hby at_33) (by decide) (by decide) k') ?_
    show own_Go p.tables e below _ (T3.setTop (mkF m 37 #[.val (.int p1), .val (.int ((p1 &&& (2147483647 : Int32)) % (6 : Int32))), .val (.ref c1), .val (.int (0 : Int32))] [(.int (1 : Int32))]))
    exact own_retN X3 hx (t := .boolean) Bd.returns (by simp) (hb hby at_37) Bd.notSynchronized ⟨rfl, N3⟩ (by decide) (by decide)
  ·  -- pc 15, not ((p1 &&& (2147483647 : Int32)) % (6 : Int32)) < (3 : Int32)
    refine own_st (fun _ k' => XS.icmpNo X1.here hx rfl (hb hby at_15) rfl (flt hc2).1 k') ?_
    show own_Go p.tables e below _ (T1.setTop (mkF m 18 #[.val (.int p1), .val (.int ((p1 &&& (2147483647 : Int32)) % (6 : Int32))), .val (.ref c1), .unset] []))
    refine own_st (fun _ k' => XS.iconst X1.here hx rfl (hb hby at_18) k') ?_
    show own_Go p.tables e below _ (T1.setTop (mkF m 19 #[.val (.int p1), .val (.int ((p1 &&& (2147483647 : Int32)) % (6 : Int32))), .val (.ref c1), .unset] [(.int (1 : Int32))]))
    refine own_st (fun _ k' => XS.goto X1.here hx rfl (pc0 := 19) (pc' := 23) rfl (hb hby at_19) (by decide) (by decide) k') ?_
    show own_Go p.tables e below _ (T1.setTop (mkF m 23 #[.val (.int p1), .val (.int ((p1 &&& (2147483647 : Int32)) % (6 : Int32))), .val (.ref c1), .unset] [(.int (1 : Int32))]))
    refine own_st (fun _ k' => XS.istoreN X1.here hx rfl (hb hby at_23) rfl (l' := #[.val (.int p1), .val (.int ((p1 &&& (2147483647 : Int32)) % (6 : Int32))), .val (.ref c1), .val (.int (1 : Int32))]) rfl k') ?_
    show own_Go p.tables e below _ (T1.setTop (mkF m 24 #[.val (.int p1), .val (.int ((p1 &&& (2147483647 : Int32)) % (6 : Int32))), .val (.ref c1), .val (.int (1 : Int32))] []))
    refine own_st (fun _ k' => XS.aloadN X1.here hx rfl (hb hby at_24) rfl rfl k') ?_
    show own_Go p.tables e below _ (T1.setTop (mkF m 25 #[.val (.int p1), .val (.int ((p1 &&& (2147483647 : Int32)) % (6 : Int32))), .val (.ref c1), .val (.int (1 : Int32))] [(.ref c1)]))
    obtain ⟨cq4, kq4, q4a, q4b, q4c⟩ := isOf hZ e1 E_c
    obtain ⟨_, _, ⟨T4, L4, k4, n4⟩, -, X4, ⟨Lc4, hQ4, l4, y4, z4⟩, st4⟩ := X1.virtualBack hx (y := (⟨"com/example/segmenta/segmenta/ack/AckCode", "isAcceptLevel", "()Z"⟩ : MethodName)) (z := (⟨"com/example/segmenta/segmenta/ack/AckCode", "isAcceptLevel", "()Z"⟩ : MethodName)) hown (mvT hZ (hw _ (List.mem_of_getElem? (i := 8) rfl))) (mvT hZ (hw _ (List.mem_of_getElem? (i := 9) rfl))) (notFace_of_selects (args := #[]) (mvT hZ (hw _ (List.mem_of_getElem? (i := 11) rfl)))) (mvT hZ (hw _ (List.mem_of_getElem? (i := 11) rfl))) (mvT hZ (hw _ (List.mem_of_getElem? (i := 10) rfl))) (by decide) (backOf (W := 0) (rmA l Z a0 hw [] c1 aa ae ar ca ce cr h0 n0 Z0 P) hZ (hw _ (List.mem_of_getElem? (i := 12) rfl)) (hw _ (List.mem_of_getElem? (i := 6) rfl)) (by decide) (by decide)) q4a q4c (g := (mkF m 25 #[.val (.int p1), .val (.int ((p1 &&& (2147483647 : Int32)) % (6 : Int32))), .val (.ref c1), .val (.int (1 : Int32))] [(.ref c1)])) rfl (by rw [hml]; rfl) (Steps.refl _) (argsL := []) (rest := []) (lenOf pd___Z rfl) rfl (by show 2 * 0 + _ ≤ _; exact Nat.le_of_eq rfl) (hb hby at_25) (fun _ _ => ⟨rfl, e1, (by decide : 0 + 0 ≤ _), (by decide : 0 + 0 ≤ _)⟩)
    dsimp only [Pt.U, Pt.locs, Pt.cells, Pt.slots] at X4 l4 y4 z4 st4 hQ4
    subst l4 y4 z4
    obtain ⟨rfl, Nq4, e4⟩ := hQ4
    have N4 := Fr.app N1 Nq4
    refine own_tr st4 ?_
    show own_Go p.tables e below _ (T4.setTop (mkF m 28 #[.val (.int p1), .val (.int ((p1 &&& (2147483647 : Int32)) % (6 : Int32))), .val (.ref c1), .val (.int (1 : Int32))] [(.int (own_acc c1 ca ce cr))]))
    refine own_st (fun _ k' => XS.iloadN X4.here hx rfl (hb hby at_28) rfl k') ?_
    show own_Go p.tables e below _ (T4.setTop (mkF m 29 #[.val (.int p1), .val (.int ((p1 &&& (2147483647 : Int32)) % (6 : Int32))), .val (.ref c1), .val (.int (1 : Int32))] [(.int (1 : Int32)), (.int (own_acc c1 ca ce cr))]))
    refine own_st (fun _ k' => XS.icmpNo X4.here hx rfl (hb hby at_29) rfl (teq (by rw [hcc]; exact own_hi hc2)).2 k') ?_
    show own_Go p.tables e below _ (T4.setTop (mkF m 32 #[.val (.int p1), .val (.int ((p1 &&& (2147483647 : Int32)) % (6 : Int32))), .val (.ref c1), .val (.int (1 : Int32))] []))
    refine own_st (fun _ k' => XS.iconst X4.here hx rfl (hb hby at_32) k') ?_
    show own_Go p.tables e below _ (T4.setTop (mkF m 33 #[.val (.int p1), .val (.int ((p1 &&& (2147483647 : Int32)) % (6 : Int32))), .val (.ref c1), .val (.int (1 : Int32))] [(.int (1 : Int32))]))
    refine own_st (fun _ k' => XS.goto X4.here hx rfl (pc0 := 33) (pc' := 37) rfl (hb hby at_33) (by decide) (by decide) k') ?_
    show own_Go p.tables e below _ (T4.setTop (mkF m 37 #[.val (.int p1), .val (.int ((p1 &&& (2147483647 : Int32)) % (6 : Int32))), .val (.ref c1), .val (.int (1 : Int32))] [(.int (1 : Int32))]))
    exact own_retN X4 hx (t := .boolean) Bd.returns (by simp) (hb hby at_37) Bd.notSynchronized ⟨rfl, N4⟩ (by decide) (by decide)

set_option maxRecDepth 65536 in
set_option maxHeartbeats 40000000 in
theorem comes_1 {Post : Tables → Env → Array Value → State → Outcome → State → Prop} (hpost : ∀ tb e args s v u, (limb_1_1.after args s (.returned v) u = true ∧ limb_1_2.after args s (.returned v) u = true ∧ True) → FrameEnd s (.returned v) u (Jvm.fieldLocs frame_1_writes args s ++ Jvm.arrayLocs frame_1_arrays args s ++ Jvm.staticLocs frame_1_statics s) 0 0 → Post tb e args s (.returned v) u) :
    ArmFor flags0 classFile x code maxLocals ret World_1 tables_1 room_1 Calls_1 rest_1 Pre_1 Post := by
  intro l hfl _ _ p e ha hc hk s m args below hf hA hF happ hP
  obtain ⟨hcalls, hrest, hpre⟩ := hP
  obtain ⟨-, -, -, hnamed, -, -, -, hat⟩ := (Spec.applies_iff hf).mp happ
  obtain ⟨hg, hn⟩ := and_e (Cond.before_iff.mp (show (Jvm.Cond.and given_1 narrow_1).before args s = true from hpre))
  obtain ⟨hcnt, hg⟩ := and_e hg
  obtain ⟨w0, rfl⟩ : ∃ w0 : Value, args = #[w0] := by
    have hs : args.size = 1 := by simpa [Cond.value, given_1] using hcnt
    obtain ⟨L⟩ := args
    match L, hs with
    | [w0], _ => exact ⟨w0, rfl⟩
  have hw := fun d (hd : d ∈ tables_1) => atoms_spec (ws := Jvm.Cond.code x code maxLocals ret :: tables_1) hat d (List.mem_cons_of_mem _ hd)
  have hfit : Fit s := fun {y c} hc i hi => by
    obtain ⟨ha, rfl⟩ := Array.getElem?_eq_some_iff.mp hc
    have q := List.all_eq_true.mp ((Array.all_eq_true_iff_forall_mem.mp hF) _ (Array.getElem_mem ha)) i (List.mem_range.mpr hi)
    simpa [Array.getElem?_eq_getElem hi] using q
  have hg0 := hg
  obtain ⟨i0, ei0⟩ := is_v hg0
  obtain rfl : w0 = (.int i0) := Option.some.inj ei0
  obtain ⟨qx_AA, hn⟩ := and_e hn
  obtain ⟨qx_CA, hn⟩ := and_e hn
  obtain ⟨qo_AA, hn⟩ := and_e hn
  obtain ⟨qo_CA, hn⟩ := and_e hn
  obtain ⟨qx_CE, hn⟩ := and_e hn
  obtain ⟨qo_CE, hn⟩ := and_e hn
  obtain ⟨qx_CR, hn⟩ := and_e hn
  obtain ⟨qo_CR, hn⟩ := and_e hn
  obtain ⟨qx_AR, hn⟩ := and_e hn
  obtain ⟨qo_AR, hn⟩ := and_e hn
  obtain ⟨qx_AE, hn⟩ := and_e hn
  have qo_AE := hn
  obtain ⟨aa, v_aa⟩ := exa_v qx_AA
  have E_aa := Exa.start v_aa qx_AA
  have O_aa := own_ord qo_AA v_aa
  have S_AA := Sta.start v_aa (Or.inr ⟨(hw _ (List.mem_of_getElem? (i := 6) rfl)), (hw _ (List.mem_of_getElem? (i := 7) rfl))⟩)
  obtain ⟨ae, v_ae⟩ := exa_v qx_AE
  have E_ae := Exa.start v_ae qx_AE
  have O_ae := own_ord qo_AE v_ae
  have S_AE := Sta.start v_ae (Or.inr ⟨(hw _ (List.mem_of_getElem? (i := 6) rfl)), (hw _ (List.mem_of_getElem? (i := 23) rfl))⟩)
  obtain ⟨ar, v_ar⟩ := exa_v qx_AR
  have E_ar := Exa.start v_ar qx_AR
  have O_ar := own_ord qo_AR v_ar
  have S_AR := Sta.start v_ar (Or.inr ⟨(hw _ (List.mem_of_getElem? (i := 6) rfl)), (hw _ (List.mem_of_getElem? (i := 21) rfl))⟩)
  obtain ⟨ca, v_ca⟩ := exa_v qx_CA
  have E_ca := Exa.start v_ca qx_CA
  have O_ca := own_ord qo_CA v_ca
  have S_CA := Sta.start v_ca (Or.inr ⟨(hw _ (List.mem_of_getElem? (i := 6) rfl)), (hw _ (List.mem_of_getElem? (i := 14) rfl))⟩)
  obtain ⟨ce, v_ce⟩ := exa_v qx_CE
  have E_ce := Exa.start v_ce qx_CE
  have O_ce := own_ord qo_CE v_ce
  have S_CE := Sta.start v_ce (Or.inr ⟨(hw _ (List.mem_of_getElem? (i := 6) rfl)), (hw _ (List.mem_of_getElem? (i := 16) rfl))⟩)
  obtain ⟨cr, v_cr⟩ := exa_v qx_CR
  have E_cr := Exa.start v_cr qx_CR
  have O_cr := own_ord qo_CR v_cr
  have S_CR := Sta.start v_cr (Or.inr ⟨(hw _ (List.mem_of_getElem? (i := 6) rfl)), (hw _ (List.mem_of_getElem? (i := 18) rfl))⟩)
  have ne_aa_ae : aa ≠ ae := Fld.ne O_aa O_ae (by decide)
  have ne_aa_ar : aa ≠ ar := Fld.ne O_aa O_ar (by decide)
  have ne_aa_ca : aa ≠ ca := Fld.ne O_aa O_ca (by decide)
  have ne_aa_ce : aa ≠ ce := Fld.ne O_aa O_ce (by decide)
  have ne_aa_cr : aa ≠ cr := Fld.ne O_aa O_cr (by decide)
  have ne_ae_ar : ae ≠ ar := Fld.ne O_ae O_ar (by decide)
  have ne_ae_ca : ae ≠ ca := Fld.ne O_ae O_ca (by decide)
  have ne_ae_ce : ae ≠ ce := Fld.ne O_ae O_ce (by decide)
  have ne_ae_cr : ae ≠ cr := Fld.ne O_ae O_cr (by decide)
  have ne_ar_ca : ar ≠ ca := Fld.ne O_ar O_ca (by decide)
  have ne_ar_ce : ar ≠ ce := Fld.ne O_ar O_ce (by decide)
  have ne_ar_cr : ar ≠ cr := Fld.ne O_ar O_cr (by decide)
  have ne_ca_ce : ca ≠ ce := Fld.ne O_ca O_ce (by decide)
  have ne_ca_cr : ca ≠ cr := Fld.ne O_ca O_cr (by decide)
  have ne_ce_cr : ce ≠ cr := Fld.ne O_ce O_cr (by decide)
  have P : own_P s s.heap aa ae ar ca ce cr := ⟨S_AA, S_AE, S_AR, S_CA, S_CE, S_CR, E_aa, E_ae, E_ar, E_ca, E_ce, E_cr, ne_aa_ae, ne_aa_ar, ne_aa_ca, ne_aa_ce, ne_aa_cr, ne_ae_ar, ne_ae_ca, ne_ae_ce, ne_ae_cr, ne_ar_ca, ne_ar_ce, ne_ar_cr, ne_ca_ce, ne_ca_cr, ne_ce_cr⟩
  obtain ⟨n, o, h1, h2, h3, _, L, rfl, ⟨rfl, N⟩, hq⟩ := rm0 l s _ hw tables_1 i0 aa ae ar ca ce cr s.heap s.heap.size (Nat.le_refl _) P p e ha hc hk s m _ below hf ((Spec.applies_iff_loose hf).mp happ).1 ⟨rfl, State.Warmed39.refl s, rfl⟩ trivial
  refine ⟨n, _, h1, h2, h3, hpost _ _ _ _ _ _ ⟨Cond.after_iff.mpr rfl, Cond.after_iff.mpr (eq_i res_at (Term.int_eval (1)) rfl), trivial⟩ ⟨hq.1, hq.2.1, (hq.2.2.sift fun y hy => Or.inr (N y hy)).mono (by decide) (by decide)⟩⟩
theorem main_1_1 : Claimed_1_1 := comes_1 fun _ _ _ _ _ _ h hF => ⟨h.1, hF⟩
theorem main_1_2 : Claimed_1_2 := comes_1 fun _ _ _ _ _ _ h hF => ⟨h.2.1, hF⟩

end Jvm.Pilot.@@N@@
namespace Jvm.Pilot.@@N@@
open Jvm Jvm.ClassFile Sem Op Lib Jvm.Free Jvm.Stand Jvm.Pilot.@@N@@.Jvm.D
/-! MADE BY PROGRAM (witnessworld.py) out of the Statement's table words and the real class files: 12 classes; the members and pool entries that the words name. The judged class is class 1, her method 2. -/
namespace start1
open Jvm.ClassFile
def u (s : String) : CpInfo := .utf8 (stringToUtf16 s)
/-- a pool by its gaps: so many unusable entries, then the entry; so many at the end -/
def gap : Nat → List CpInfo → List CpInfo
  | 0, r => r
  | n + 1, r => .unusable :: gap n r
def poolList (es : List (Nat × CpInfo)) (last : Nat) : List CpInfo := es.foldr (fun e r => gap e.1 (e.2 :: r)) (gap last [])
def pool (es : List (Nat × CpInfo)) (last : Nat) : Array CpInfo := ⟨poolList es last⟩
def fileOf (pool : Array CpInfo) (this : Nat) (attrs : Array Attribute := #[]) (ms : Array MethodInfo := #[]) (fl : Nat := 33) (sup : Nat := 0) (ifs : Array Nat := #[]) (fds : Array FieldInfo := #[]) : ClassFile where
  minorVersion := 0
  majorVersion := 65
  constantPool := pool
  accessFlags := fl
  thisClass := this
  superClass := sup
  interfaces := ifs
  fields := fds
  methods := ms
  attributes := attrs
def plain (name : String) (sup : Option ClassId) : Class where
  name := name
  kind := .ordinary
  loader := none
  accessFlags := 33
  super := sup
  interfaces := #[]
  cf := none
  fields := #[]
  methods := #[]
  instanceTypes := #[]
  staticTypes := #[]
  resolved := #[]
  callSites := []
  init := .initialized
  statics := none
  mirror := none

def pool0 : Array CpInfo := pool [(5, u "<init>"), (0, u "()V"), (1, .class_ 10), (1, u "java/lang/Object")] 113

def k0m0 : Method := { name := "<init>", desc := "()V", sig := { parameters := [], returnType := none }, accessFlags := 1, code := none }
/-- java/lang/Object -/
def k0 : Class := { plain "java/lang/Object" none with
  accessFlags := 33
  interfaces := #[]
  cf := some (fileOf pool0 8 #[] #[{ accessFlags := 1, nameIndex := 5, descriptorIndex := 6, attributes := #[] }] 33 0 #[] #[])
  fields := #[]
  methods := #[k0m0]
  instanceTypes := #[]
  staticTypes := #[]
  resolved := Array.replicate 124 none
  statics := none }

def pool1 : Array CpInfo := pool [(2, .class_ 4), (1, u "java/lang/Object"), (0, u "<init>"), (0, u "()V"), (0, .fieldref 8 9), (0, .class_ 10), (0, .nameAndType 11 12), (0, u "com/example/segmenta/segmenta/ack/AckCode"), (0, u "AA"), (0, u "Lcom/example/segmenta/segmenta/ack/AckCode;"), (0, .fieldref 8 14), (0, .nameAndType 15 12), (0, u "AE"), (0, .fieldref 8 17), (0, .nameAndType 18 12), (0, u "AR"), (0, .fieldref 8 20), (0, .nameAndType 21 12), (0, u "CA"), (0, .fieldref 8 23), (0, .nameAndType 24 12), (0, u "CE"), (0, .fieldref 8 26), (0, .nameAndType 27 12), (0, u "CR"), (0, .integer 2147483647), (0, .methodref 30 31), (0, .class_ 32), (0, .nameAndType 33 34), (0, u "com/example/segmenta/segmenta/ack/AckCodeIsAcceptLevelPinLaw"), (0, u "pick"), (0, u "(I)Lcom/example/segmenta/segmenta/ack/AckCode;"), (0, .methodref 8 36), (0, .nameAndType 37 38), (0, u "isAcceptLevel"), (0, u "()Z"), (3, u "law"), (0, u "(I)Z")] 2

def k1m0 : Method := { name := "<init>", desc := "()V", sig := { parameters := [], returnType := none }, accessFlags := 1, code := none }
def k1c1 : Code := { maxStack := 2, maxLocals := 1, code := method_2_code, exceptionTable := #[], attributes := #[] }
def k1m1 : Method := { name := "pick", desc := "(I)Lcom/example/segmenta/segmenta/ack/AckCode;", sig := { parameters := [.int], returnType := some (.object "com/example/segmenta/segmenta/ack/AckCode") }, accessFlags := 10, code := some k1c1 }
def k1c2 : Code := { maxStack := 2, maxLocals := 4, code := code, exceptionTable := #[], attributes := #[] }
def k1m2 : Method := { name := "law", desc := "(I)Z", sig := { parameters := [.int], returnType := some .boolean }, accessFlags := 9, code := some k1c2 }
/-- com/example/segmenta/segmenta/ack/AckCodeIsAcceptLevelPinLaw -/
def k1 : Class := { plain "com/example/segmenta/segmenta/ack/AckCodeIsAcceptLevelPinLaw" (some 0) with
  accessFlags := 49
  interfaces := #[]
  cf := some (fileOf pool1 30 #[] #[{ accessFlags := 1, nameIndex := 5, descriptorIndex := 6, attributes := #[] }, { accessFlags := 10, nameIndex := 33, descriptorIndex := 34, attributes := #[] }, { accessFlags := 9, nameIndex := 42, descriptorIndex := 43, attributes := #[] }] 49 2 #[] #[])
  fields := #[]
  methods := #[k1m0, k1m1, k1m2]
  instanceTypes := #[]
  staticTypes := #[]
  resolved := Array.replicate 46 none
  statics := none }

def pool2 : Array CpInfo := pool [(1, .class_ 2), (0, u "java/lang/constant/Constable"), (0, .class_ 4), (0, u "java/lang/Object")] 6

/-- java/lang/constant/Constable -/
def k2 : Class := { plain "java/lang/constant/Constable" (some 0) with
  accessFlags := 1537
  interfaces := #[]
  cf := some (fileOf pool2 1 #[] #[] 1537 3 #[] #[])
  fields := #[]
  methods := #[]
  instanceTypes := #[]
  staticTypes := #[]
  resolved := Array.replicate 11 none
  statics := none }

def pool3 : Array CpInfo := pool [(1, .class_ 2), (0, u "java/lang/Comparable"), (0, .class_ 4), (0, u "java/lang/Object")] 7

/-- java/lang/Comparable -/
def k3 : Class := { plain "java/lang/Comparable" (some 0) with
  accessFlags := 1537
  interfaces := #[]
  cf := some (fileOf pool3 1 #[] #[] 1537 3 #[] #[])
  fields := #[]
  methods := #[]
  instanceTypes := #[]
  staticTypes := #[]
  resolved := Array.replicate 12 none
  statics := none }

def pool4 : Array CpInfo := pool [(1, .class_ 2), (0, u "java/io/Serializable"), (0, .class_ 4), (0, u "java/lang/Object")] 2

/-- java/io/Serializable -/
def k4 : Class := { plain "java/io/Serializable" (some 0) with
  accessFlags := 1537
  interfaces := #[]
  cf := some (fileOf pool4 1 #[] #[] 1537 3 #[] #[])
  fields := #[]
  methods := #[]
  instanceTypes := #[]
  staticTypes := #[]
  resolved := Array.replicate 7 none
  statics := none }

def pool5 : Array CpInfo := pool [(2, .class_ 4), (1, u "java/lang/Enum"), (0, u "name"), (0, u "Ljava/lang/String;"), (2, u "ordinal"), (0, u "I"), (1, .class_ 14), (1, u "java/lang/Object"), (4, u "hash"), (86, .class_ 108), (1, u "java/lang/Enum$EnumDesc"), (2, .class_ 112), (0, u "java/lang/constant/Constable"), (0, .class_ 114), (0, u "java/lang/Comparable"), (0, .class_ 116), (0, u "java/io/Serializable")] 87

/-- java/lang/Enum -/
def k5 : Class := { plain "java/lang/Enum" (some 0) with
  accessFlags := 1057
  interfaces := #[2, 3, 4]
  cf := some (fileOf pool5 2 #[.nestMembers #[106]] #[] 1057 12 #[111, 113, 115] #[{ accessFlags := 18, nameIndex := 5, descriptorIndex := 6, attributes := #[] }, { accessFlags := 18, nameIndex := 9, descriptorIndex := 10, attributes := #[] }, { accessFlags := 2, nameIndex := 19, descriptorIndex := 10, attributes := #[] }])
  fields := #[{ name := "name", type := (.object "java/lang/String"), accessFlags := 18, slot := 0, constantValue := 0 }, { name := "ordinal", type := .int, accessFlags := 18, slot := 1, constantValue := 0 }, { name := "hash", type := .int, accessFlags := 2, slot := 2, constantValue := 0 }]
  methods := #[]
  instanceTypes := #[(.object "java/lang/String"), .int, .int]
  staticTypes := #[]
  resolved := Array.replicate 204 none
  statics := none }

def pool6 : Array CpInfo := pool [(1, .class_ 2), (0, u "com/example/segmenta/segmenta/ack/AckCode"), (2, u "AA"), (0, u "Lcom/example/segmenta/segmenta/ack/AckCode;"), (2, u "AE"), (2, u "AR"), (0, .fieldref 1 14), (0, .nameAndType 15 6), (0, u "CA"), (0, .fieldref 1 17), (0, .nameAndType 18 6), (0, u "CE"), (0, .fieldref 1 20), (0, .nameAndType 21 6), (0, u "CR"), (2, u "$VALUES"), (0, u "[Lcom/example/segmenta/segmenta/ack/AckCode;"), (6, .class_ 34), (1, u "java/lang/Enum"), (8, u "isAcceptLevel"), (0, u "()Z")] 26

def k6c0 : Code := { maxStack := 2, maxLocals := 1, code := prog_25_method_4_code, exceptionTable := #[], attributes := #[] }
def k6m0 : Method := { name := "isAcceptLevel", desc := "()Z", sig := { parameters := [], returnType := some .boolean }, accessFlags := 1, code := some k6c0 }
/-- com/example/segmenta/segmenta/ack/AckCode -/
def k6 : Class := { plain "com/example/segmenta/segmenta/ack/AckCode" (some 5) with
  accessFlags := 16433
  interfaces := #[]
  cf := some (fileOf pool6 1 #[] #[{ accessFlags := 1, nameIndex := 43, descriptorIndex := 44, attributes := #[] }] 16433 32 #[] #[{ accessFlags := 16409, nameIndex := 5, descriptorIndex := 6, attributes := #[] }, { accessFlags := 16409, nameIndex := 9, descriptorIndex := 6, attributes := #[] }, { accessFlags := 16409, nameIndex := 12, descriptorIndex := 6, attributes := #[] }, { accessFlags := 16409, nameIndex := 15, descriptorIndex := 6, attributes := #[] }, { accessFlags := 16409, nameIndex := 18, descriptorIndex := 6, attributes := #[] }, { accessFlags := 16409, nameIndex := 21, descriptorIndex := 6, attributes := #[] }, { accessFlags := 4122, nameIndex := 24, descriptorIndex := 25, attributes := #[] }])
  fields := #[{ name := "AA", type := (.object "com/example/segmenta/segmenta/ack/AckCode"), accessFlags := 16409, slot := 0, constantValue := 0 }, { name := "AE", type := (.object "com/example/segmenta/segmenta/ack/AckCode"), accessFlags := 16409, slot := 1, constantValue := 0 }, { name := "AR", type := (.object "com/example/segmenta/segmenta/ack/AckCode"), accessFlags := 16409, slot := 2, constantValue := 0 }, { name := "CA", type := (.object "com/example/segmenta/segmenta/ack/AckCode"), accessFlags := 16409, slot := 3, constantValue := 0 }, { name := "CE", type := (.object "com/example/segmenta/segmenta/ack/AckCode"), accessFlags := 16409, slot := 4, constantValue := 0 }, { name := "CR", type := (.object "com/example/segmenta/segmenta/ack/AckCode"), accessFlags := 16409, slot := 5, constantValue := 0 }, { name := "$VALUES", type := (.array (.object "com/example/segmenta/segmenta/ack/AckCode")), accessFlags := 4122, slot := 6, constantValue := 0 }]
  methods := #[k6m0]
  instanceTypes := #[(.object "java/lang/String"), .int, .int]
  staticTypes := #[(.object "com/example/segmenta/segmenta/ack/AckCode"), (.object "com/example/segmenta/segmenta/ack/AckCode"), (.object "com/example/segmenta/segmenta/ack/AckCode"), (.object "com/example/segmenta/segmenta/ack/AckCode"), (.object "com/example/segmenta/segmenta/ack/AckCode"), (.object "com/example/segmenta/segmenta/ack/AckCode"), (.array (.object "com/example/segmenta/segmenta/ack/AckCode"))]
  resolved := Array.replicate 71 none
  statics := some 0 }

def pool7 : Array CpInfo := pool [(1, u "java/lang/Cloneable"), (0, .class_ 1), (0, u "java/lang/Object"), (0, .class_ 3)] 3

/-- java/lang/Cloneable -/
def k7 : Class := { plain "java/lang/Cloneable" (some 0) with
  accessFlags := 1537
  interfaces := #[]
  cf := some (fileOf pool7 2 #[] #[] 1537 4 #[] #[])
  fields := #[]
  methods := #[]
  instanceTypes := #[]
  staticTypes := #[]
  resolved := Array.replicate 8 none
  statics := none }

/-- the primitive byte -/
def k8 : Class := { plain "byte" none with kind := .primitive 'B', accessFlags := 0x411 }
/-- [B -/
def k9 : Class := { plain "[B" (some 0) with kind := .array 8 .byte, interfaces := #[7, 4], accessFlags := 1041 }

/-- the primitive int -/
def k10 : Class := { plain "int" none with kind := .primitive 'I', accessFlags := 0x411 }
/-- [I -/
def k11 : Class := { plain "[I" (some 0) with kind := .array 10 .int, interfaces := #[7, 4], accessFlags := 1041 }

def heap : Heap := #[{ cls := 6, slots := #[.ref 1, .ref 2, .ref 3, .ref 4, .ref 5, .ref 6, .null], vm := .statics 6 },
  { cls := 6, slots := #[.null, .int 0, .int 0], vm := .none },
  { cls := 6, slots := #[.null, .int 1, .int 0], vm := .none },
  { cls := 6, slots := #[.null, .int 2, .int 0], vm := .none },
  { cls := 6, slots := #[.null, .int 3, .int 0], vm := .none },
  { cls := 6, slots := #[.null, .int 4, .int 0], vm := .none },
  { cls := 6, slots := #[.null, .int 5, .int 0], vm := .none }]
def classes : Array Class := #[k0, k1, k2, k3, k4, k5, k6, k7, k8, k9, k10, k11]
def interned : List (Array UInt16 × Addr) := []
def slotsUsed : Nat := 25
def theMethod : MethodId := ⟨1, 2⟩
def args0 : Array Value := #[.int 4]
def aboutOver (below : List Frame) : State where
  vm := { classes := classes, interned := interned.toArray }
  heap := heap
  slotsUsed := slotsUsed
  threads := #[{ frames := .invoking theMethod args0 :: below }]
def below0 : List Frame := [.native { method := ⟨0, 0⟩, args := #[] }]
def about1 : State := aboutOver below0
def p0 : Program := .bare "" "" ""
def e0 : Env := launch0.env 0 0 0
theorem w_frames : about1.frames = Frame.invoking theMethod args0 :: below0 := rfl
set_option maxRecDepth 65536 in
theorem w_args : argsFit about1.vm theMethod args0 = true := by decide +kernel
set_option maxRecDepth 65536 in
theorem w_heap : heapFits about1 = true := by decide +kernel
set_option maxRecDepth 65536 in
theorem w_runnable : about1.curStatus? = some .runnable := by decide +kernel
set_option maxRecDepth 65536 in
theorem w_alone : about1.alone = true := by decide +kernel
set_option maxRecDepth 65536 in
theorem w_named : about1.methodNamed? x = some theMethod := by decide +kernel
set_option maxRecDepth 65536 in
theorem w_hears : about1.hears theMethod below0 = true := by decide +kernel
set_option maxRecDepth 65536 in
theorem w_ripe : about1.ripe theMethod args0 below0 = true := by decide +kernel
theorem w_running : about1.status = .running := rfl
set_option maxRecDepth 65536 in
theorem w_room : about1.hasRoom e0.platform room_1 = true :=
  launch0.hasRoom_least _ room_1 (by decide +kernel) (by decide +kernel) (by decide +kernel) (by decide +kernel) (by decide +kernel) (by decide +kernel)
theorem allAtoms_all (ts : List Jvm.Cond) (a : Array Jvm.Value) (st : Jvm.State) : (allAtoms ts).before a st = ts.all (fun c => c.before a st) := by
  induction ts with
  | nil => rfl
  | cons c t ih =>
    show (Jvm.Cond.and c (allAtoms t)).before a st = _
    rw [Jvm.Cond.before_and, ih, List.all_cons]
def words1 : List Jvm.Cond := Jvm.Cond.code x code maxLocals ret :: tables_1
/-- a 'code' word, met by the world's own term for the bytes: nothing is compared byte by byte -/
theorem code_word {y : MethodName} {bytes : ByteArray} {mx : Nat} {rt : Option FieldType} {a : Array Value} {s : State} {m : MethodId} {meth : Method} {c : Code} (h1 : s.methodNamed? y = some m) (h2 : s.vm.method? m = some meth) (h3 : meth.code = some c) (h4 : c.code = bytes)
    (h5 : (c.maxLocals == mx && c.exceptionTable.isEmpty && decide (c.maxStack ≤ mostOperands) && decide (meth.sig.returnType = rt) && !meth.locks && decide (parseMethodDescriptor y.desc = some meth.sig)) = true) : (Jvm.Cond.code y bytes mx rt).before a s = true := by
  simp only [Bool.and_eq_true, beq_iff_eq, Bool.not_eq_true', decide_eq_true_eq] at h5
  obtain ⟨⟨⟨⟨⟨g1, g2⟩, g3⟩, g4⟩, g5⟩, g6⟩ := h5
  simp [Cond.before, Cond.holds, Cond.value, h1, h2, h3, h4, g1, g2, g3, g4, g5, g6]
def isCode : Jvm.Cond → Bool
  | .code _ _ _ _ => true
  | _ => false
theorem all_split {L : List Jvm.Cond} {P : Jvm.Cond → Bool} (h1 : L.all (fun c => isCode c || P c) = true) (h2 : ∀ c ∈ L.filter isCode, P c = true) : L.all P = true := by
  refine List.all_eq_true.mpr fun c hc => ?_
  have h := List.all_eq_true.mp h1 c hc
  rcases Bool.eq_false_or_eq_true (isCode c) with hi | hi
  · exact h2 c (List.mem_filter.mpr ⟨hc, hi⟩)
  · simpa [hi] using h
set_option maxRecDepth 65536 in
theorem w_c0 : (Jvm.Cond.code x code maxLocals ret).before args0 about1 = true := code_word (m := ⟨1, 2⟩) (meth := k1m2) (c := k1c2) (by decide +kernel) rfl rfl rfl (by decide +kernel)
set_option maxRecDepth 65536 in
theorem w_c1 : (Jvm.Cond.code ({ cls := "com/example/segmenta/segmenta/ack/AckCodeIsAcceptLevelPinLaw", name := "pick", desc := "(I)Lcom/example/segmenta/segmenta/ack/AckCode;" } : Jvm.MethodName) method_2_code (1 : Nat) (Option.some (Jvm.ClassFile.FieldType.object "com/example/segmenta/segmenta/ack/AckCode"))).before args0 about1 = true := code_word (m := ⟨1, 1⟩) (meth := k1m1) (c := k1c1) (by decide +kernel) rfl rfl rfl (by decide +kernel)
set_option maxRecDepth 65536 in
theorem w_c2 : (Jvm.Cond.code ({ cls := "com/example/segmenta/segmenta/ack/AckCode", name := "isAcceptLevel", desc := "()Z" } : Jvm.MethodName) prog_25_method_4_code (1 : Nat) (Option.some Jvm.ClassFile.FieldType.boolean)).before args0 about1 = true := code_word (m := ⟨6, 0⟩) (meth := k6m0) (c := k6c0) (by decide +kernel) rfl rfl rfl (by decide +kernel)
def codes1 : List Jvm.Cond := [Jvm.Cond.code x code maxLocals ret, Jvm.Cond.code ({ cls := "com/example/segmenta/segmenta/ack/AckCodeIsAcceptLevelPinLaw", name := "pick", desc := "(I)Lcom/example/segmenta/segmenta/ack/AckCode;" } : Jvm.MethodName) method_2_code (1 : Nat) (Option.some (Jvm.ClassFile.FieldType.object "com/example/segmenta/segmenta/ack/AckCode")), Jvm.Cond.code ({ cls := "com/example/segmenta/segmenta/ack/AckCode", name := "isAcceptLevel", desc := "()Z" } : Jvm.MethodName) prog_25_method_4_code (1 : Nat) (Option.some Jvm.ClassFile.FieldType.boolean)]
set_option maxRecDepth 65536 in
theorem codes_eq : words1.filter isCode = codes1 := rfl
theorem w_codes : ∀ c ∈ words1.filter isCode, c.before args0 about1 = true := by
  rw [codes_eq]
  intro c hc
  simp only [codes1, List.mem_cons, List.not_mem_nil, or_false] at hc
  rcases hc with rfl | rfl | rfl
  · exact w_c0
  · exact w_c1
  · exact w_c2
set_option maxRecDepth 65536 in
theorem w_t1 : (words1.take 24).all (fun c => isCode c || c.before args0 about1) = true := by decide +kernel
set_option maxRecDepth 65536 in
theorem w_t2 : (words1.drop 24).all (fun c => isCode c || c.before args0 about1) = true := by decide +kernel
theorem w_tables : (allAtoms (Jvm.Cond.code x code maxLocals ret :: tables_1)).before args0 about1 = true := by
  rw [allAtoms_all]
  show words1.all (fun c => c.before args0 about1) = true
  refine all_split ?_ w_codes
  rw [← List.take_append_drop 24 words1, List.all_append, w_t1, w_t2]
  rfl
set_option maxRecDepth 65536 in
theorem w_case : (Jvm.Cond.and given_1 narrow_1).before args0 about1 = true := by decide +kernel
theorem w_applies : (headSpec (Jvm.Cond.code x code maxLocals ret :: tables_1) room_1).applies x e0.platform about1 = true :=
  (Spec.applies_iff w_frames).mpr ⟨w_running, w_runnable, w_alone, w_named, w_hears, w_ripe, w_room, w_tables⟩
theorem atStart : AtStart classFile x code maxLocals ret World_1 tables_1 room_1 Calls_1 rest_1 Pre_1 launch0 p0 e0 about1 theMethod args0 below0 :=
  ⟨lists_1, trivial, launch0.admits_env _ _ _, launch0.least_env, fairChoices_fair.cas, fairChoices_fair.clock, w_frames, w_args, w_heap, w_applies, trivial, trivial, w_case⟩
end start1
theorem witness_1 : WitnessClaimed_1 := ⟨start1.p0, start1.e0, start1.about1, start1.theMethod, start1.args0, start1.below0, start1.atStart⟩
end Jvm.Pilot.@@N@@
