import JvmDerived
import JvmDerived.Pilot.@@N@@Statement
import JvmDerived.Pilot.@@N@@Code
set_option linter.unusedVariables false
set_option linter.unusedSimpArgs false
namespace Jvm.Pilot.@@N@@
open Jvm Jvm.ClassFile Sem Op Lib Jvm.Free Jvm.Stand Jvm.LawKit Jvm.RoadKit Bundle Jvm.Pilot.@@N@@.Jvm.D
/-- the run from A ends, and its end is as K says -/
def own_Go (tb : Tables) (e : Env) (below : List Frame) (K : Outcome → State → Prop) (A : State) : Prop := ∃ s₂ o, Steps tb e below A s₂ ∧ s₂.status = .running ∧ Ended s₂ below o ∧ K o s₂
theorem own_st {tb : Tables} {e : Env} {below : List Frame} {K : Outcome → State → Prop} {A B : State} (h : ∀ t, Steps tb e below B t → Steps tb e below A t) (g : own_Go tb e below K B) : own_Go tb e below K A := by
  obtain ⟨s₂, o, h1, r⟩ := g
  exact ⟨s₂, o, h _ h1, r⟩
theorem own_tr {tb : Tables} {e : Env} {below : List Frame} {K : Outcome → State → Prop} {A B : State} (h : Steps tb e below A B) (g : own_Go tb e below K B) : own_Go tb e below K A := by
  obtain ⟨s₂, o, h1, r⟩ := g
  exact ⟨s₂, o, h.trans h1, r⟩
section Rets
variable {p : Program} {l : Launch} {e : Env} {R : Room} {s : State} {m : MethodId} {args : Array Value} {below : List Frame} {meth : Method} {c : Code} {T : State} {locs : List Loc} {cells slots : Nat} {Q : Option Value → Heap → List Loc → Prop} {C S : Nat}
theorem own_ret (X : Stand p l e R s m args below meth c T locs cells slots) {v : Option Value} {A : State} (hv : meth.sig.returnType = none → v = none) (hlocks : meth.locks = false)
    (st : ∀ fs, (∀ (f : JFrame) (acts : List Action), f.method = m → f.locked = none → f.entered = [] → (doReturn e (T.setTop f) acts v).1 = T.setFrames fs) → Steps p.tables e below A (T.setFrames fs)) (q : Q v T.heap locs) (hc : cells ≤ C) (hs : slots ≤ S) :
    own_Go p.tables e below (fun o U' => ∃ v L, o = .returned v ∧ Q v U'.heap L ∧ FrameEnd s o U' L C S) A := by
  obtain ⟨fs, hr, hrun, hended, hW, hsame⟩ := X.leave (v := v) hv hlocks
  exact ⟨_, _, st fs hr, hrun, hended, _, _, rfl, q, ⟨_, rfl⟩, hW, hsame.mono hc hs⟩
theorem own_retV (X : Stand p l e R s m args below meth c T locs cells slots) (hx : p.tables.exec = Jvm.exec) {pc : Nat} {Ls : Array Slot} (hret : meth.sig.returnType = none) (hd : decode c.code pc = .ok (.return_, 1)) (hlocks : meth.locks = false) (q : Q none T.heap locs) (hc : cells ≤ C) (hs : slots ≤ S) :
    own_Go p.tables e below (fun o U' => ∃ v L, o = .returned v ∧ Q v U'.heap L ∧ FrameEnd s o U' L C S) (T.setTop (mkF m pc Ls [])) :=
  own_ret X (fun _ => rfl) hlocks (fun _ hr => X.returnOut hx hret hd hr) q hc hs
theorem own_retN (X : Stand p l e R s m args below meth c T locs cells slots) (hx : p.tables.exec = Jvm.exec) {pc : Nat} {Ls : Array Slot} {z : Int32} {t : FieldType} {rest : List Value} (hret : meth.sig.returnType = some t) (ht : t = .boolean ∨ t = .byte ∨ t = .char ∨ t = .short) (hd : decode c.code pc = .ok (.ireturn, 1)) (hlocks : meth.locks = false) (q : Q (some (.int (nar t z))) T.heap locs) (hc : cells ≤ C) (hs : slots ≤ S) :
    own_Go p.tables e below (fun o U' => ∃ v L, o = .returned v ∧ Q v U'.heap L ∧ FrameEnd s o U' L C S) (T.setTop (mkF m pc Ls (.int z :: rest))) :=
  own_ret X (fun h => by rw [hret] at h; cases h) hlocks (fun _ hr => retN X hx hret ht hd hr) q hc hs
theorem own_retI (X : Stand p l e R s m args below meth c T locs cells slots) (hx : p.tables.exec = Jvm.exec) {pc : Nat} {Ls : Array Slot} {z : Int32} {rest : List Value} (hret : meth.sig.returnType = some .int) (hd : decode c.code pc = .ok (.ireturn, 1)) (hlocks : meth.locks = false) (q : Q (some (.int z)) T.heap locs) (hc : cells ≤ C) (hs : slots ≤ S) :
    own_Go p.tables e below (fun o U' => ∃ v L, o = .returned v ∧ Q v U'.heap L ∧ FrameEnd s o U' L C S) (T.setTop (mkF m pc Ls (.int z :: rest))) :=
  own_ret X (fun h => by rw [hret] at h; cases h) hlocks (fun _ hr => retOut X hx hret rfl (Or.inl ⟨rfl, Or.inl rfl, z, rfl⟩) hd hr) q hc hs
theorem own_retJ (X : Stand p l e R s m args below meth c T locs cells slots) (hx : p.tables.exec = Jvm.exec) {pc : Nat} {Ls : Array Slot} {z : Int64} {rest : List Value} (hret : meth.sig.returnType = some .long) (hd : decode c.code pc = .ok (.lreturn, 1)) (hlocks : meth.locks = false) (q : Q (some (.long z)) T.heap locs) (hc : cells ≤ C) (hs : slots ≤ S) :
    own_Go p.tables e below (fun o U' => ∃ v L, o = .returned v ∧ Q v U'.heap L ∧ FrameEnd s o U' L C S) (T.setTop (mkF m pc Ls (.long z :: rest))) :=
  own_ret X (fun h => by rw [hret] at h; cases h) hlocks (fun _ hr => retOut X hx hret rfl (Or.inr (Or.inl ⟨rfl, rfl, z, rfl⟩)) hd hr) q hc hs
theorem own_narrow_ref {t : FieldType} {w : Value} (ht : t.isReference = true) : narrow t w = w := by cases t <;> first | (cases ht; done) | rfl
theorem own_retA (X : Stand p l e R s m args below meth c T locs cells slots) (hx : p.tables.exec = Jvm.exec) {pc : Nat} {Ls : Array Slot} {w : Value} {t : FieldType} {rest : List Value} (hret : meth.sig.returnType = some t) (ht : t.isReference = true) (hw : w.isRef = true) (hd : decode c.code pc = .ok (.areturn, 1)) (hlocks : meth.locks = false) (q : Q (some w) T.heap locs) (hc : cells ≤ C) (hs : slots ≤ S) :
    own_Go p.tables e below (fun o U' => ∃ v L, o = .returned v ∧ Q v U'.heap L ∧ FrameEnd s o U' L C S) (T.setTop (mkF m pc Ls (w :: rest))) :=
  own_ret X (fun h => by rw [hret] at h; cases h) hlocks (fun _ hr => retOut X hx hret (own_narrow_ref ht) (Or.inr (Or.inr (Or.inr (Or.inr ⟨rfl, ht, hw⟩)))) hd hr) q hc hs
end Rets

def own_P (Z : State) (h : Heap) (aa ae ar ca ce cr : Addr) : Prop := Sta Z h "com/example/segmenta/segmenta/ack/AckCode" "AA" "Lcom/example/segmenta/segmenta/ack/AckCode;" (.ref aa) ∧ Sta Z h "com/example/segmenta/segmenta/ack/AckCode" "AE" "Lcom/example/segmenta/segmenta/ack/AckCode;" (.ref ae) ∧ Sta Z h "com/example/segmenta/segmenta/ack/AckCode" "AR" "Lcom/example/segmenta/segmenta/ack/AckCode;" (.ref ar) ∧ Sta Z h "com/example/segmenta/segmenta/ack/AckCode" "CA" "Lcom/example/segmenta/segmenta/ack/AckCode;" (.ref ca) ∧ Sta Z h "com/example/segmenta/segmenta/ack/AckCode" "CE" "Lcom/example/segmenta/segmenta/ack/AckCode;" (.ref ce) ∧ Sta Z h "com/example/segmenta/segmenta/ack/AckCode" "CR" "Lcom/example/segmenta/segmenta/ack/AckCode;" (.ref cr) ∧ Exa Z h aa "com/example/segmenta/segmenta/ack/AckCode" ∧ Exa Z h ae "com/example/segmenta/segmenta/ack/AckCode" ∧ Exa Z h ar "com/example/segmenta/segmenta/ack/AckCode" ∧ Exa Z h ca "com/example/segmenta/segmenta/ack/AckCode" ∧ Exa Z h ce "com/example/segmenta/segmenta/ack/AckCode" ∧ Exa Z h cr "com/example/segmenta/segmenta/ack/AckCode" ∧ aa ≠ ae ∧ aa ≠ ar ∧ aa ≠ ca ∧ aa ≠ ce ∧ aa ≠ cr ∧ ae ≠ ar ∧ ae ≠ ca ∧ ae ≠ ce ∧ ae ≠ cr ∧ ar ≠ ca ∧ ar ≠ ce ∧ ar ≠ cr ∧ ca ≠ ce ∧ ca ≠ cr ∧ ce ≠ cr
def own_acc (x ca ce cr : Addr) : Int32 := if x = ca then 1 else if x = ce then 1 else if x = cr then 1 else 0
theorem own_ord {args : Array Value} {s : State} {t : Term} {a : Addr} {k : Int32} (h : (Jvm.Cond.eq (Jvm.Term.field t "java/lang/Enum" "ordinal" "I") (Jvm.Term.int k)).value args s none s [] = some true) (ht : t.eval args s none [] s = some (.ref a)) : Fld s s.heap a "java/lang/Enum" "ordinal" "I" (.int k) := by
  exact Fld.start ((fld_at ht).symm.trans (eqv_i (Term.int_eval k) h))

def own_rep (x aa ca : Addr) : Int32 := if x = aa then 0 else if x = ca then 0 else 1
def own_rej (x ar ca ce cr : Addr) : Addr := if own_acc x ca ce cr = 0 then ar else cr
theorem own_rej_exa {Z : State} {h : Heap} {x : Addr} {aa ae ar ca ce cr : Addr} (P : own_P Z h aa ae ar ca ce cr) : Exa Z h (own_rej x ar ca ce cr) "com/example/segmenta/segmenta/ack/AckCode" := by
  obtain ⟨S_AA, S_AE, S_AR, S_CA, S_CE, S_CR, E_aa, E_ae, E_ar, E_ca, E_ce, E_cr, ne_aa_ae, ne_aa_ar, ne_aa_ca, ne_aa_ce, ne_aa_cr, ne_ae_ar, ne_ae_ca, ne_ae_ce, ne_ae_cr, ne_ar_ca, ne_ar_ce, ne_ar_cr, ne_ca_ce, ne_ca_cr, ne_ce_cr⟩ := P
  unfold own_rej
  split
  all_goals assumption
theorem own_rej_rep {Z : State} {h : Heap} {x : Addr} {aa ae ar ca ce cr : Addr} (P : own_P Z h aa ae ar ca ce cr) : ¬ own_rep (own_rej x ar ca ce cr) aa ca = 0 := by
  obtain ⟨S_AA, S_AE, S_AR, S_CA, S_CE, S_CR, E_aa, E_ae, E_ar, E_ca, E_ce, E_cr, ne_aa_ae, ne_aa_ar, ne_aa_ca, ne_aa_ce, ne_aa_cr, ne_ae_ar, ne_ae_ca, ne_ae_ce, ne_ae_cr, ne_ar_ca, ne_ar_ce, ne_ar_cr, ne_ca_ce, ne_ca_cr, ne_ce_cr⟩ := P
  unfold own_rej
  split
  · simp [own_rep, Ne.symm ne_aa_ar, ne_ar_ca]
  · simp [own_rep, Ne.symm ne_aa_cr, Ne.symm ne_ca_cr]
theorem own_k (x : Int32) : 0 ≤ ((x &&& 2147483647) % 6).toInt ∧ ((x &&& 2147483647) % 6).toInt < 6 := by
  have h1 := c_mask x 2147483647 31 (by decide) (by decide)
  have h2 := (c_irem (x &&& 2147483647) 6 6 rfl).1 (by rw [h1]; omega)
  rw [h2]; omega

theorem d3_0 : decode prog_25_method_4_code 0 = .ok (.aload_n 0, 1) := by decide +kernel
theorem d3_1 : decode prog_25_method_4_code 1 = .ok (.getstatic 13, 3) := by decide +kernel
theorem d3_4 : decode prog_25_method_4_code 4 = .ok (.if_acmp .eq 17, 3) := by decide +kernel
theorem d3_7 : decode prog_25_method_4_code 7 = .ok (.aload_n 0, 1) := by decide +kernel
theorem d3_8 : decode prog_25_method_4_code 8 = .ok (.getstatic 16, 3) := by decide +kernel
theorem d3_11 : decode prog_25_method_4_code 11 = .ok (.if_acmp .eq 10, 3) := by decide +kernel
theorem d3_14 : decode prog_25_method_4_code 14 = .ok (.aload_n 0, 1) := by decide +kernel
theorem d3_15 : decode prog_25_method_4_code 15 = .ok (.getstatic 19, 3) := by decide +kernel
theorem d3_18 : decode prog_25_method_4_code 18 = .ok (.if_acmp .ne 7, 3) := by decide +kernel
theorem d3_21 : decode prog_25_method_4_code 21 = .ok (.iconst 1, 1) := by decide +kernel
theorem d3_22 : decode prog_25_method_4_code 22 = .ok (.goto 4, 3) := by decide +kernel
theorem d3_25 : decode prog_25_method_4_code 25 = .ok (.iconst 0, 1) := by decide +kernel
theorem d3_26 : decode prog_25_method_4_code 26 = .ok (.ireturn, 1) := by decide +kernel
theorem pn_com_example_segmenta_segmenta_ack_AckCode : plainName "com/example/segmenta/segmenta/ack/AckCode" = true := by first | (simp [plainName, overriddenIn]; done) | decide +kernel
theorem ef_rmA (m : MethodId) (x0 : Addr) : entryFrame m #[(.ref x0)] 1 = mkF m 0 #[.val (.ref x0)] [] := by first | (simp [entryFrame, mkF, argsToLocals, Value.category]; done) | rfl
def Q_rmA (Z : State) (o : Addr) (aa ae ar ca ce cr : Addr) (h0 : Heap) (n0 : Nat) (v : Option Value) (h : Heap) (L : List Loc) : Prop := v = some (.int (own_acc o ca ce cr)) ∧ Fr n0 L ∧ h = h0
def K_rmA (Z : State) (o : Addr) (aa ae ar ca ce cr : Addr) (h0 : Heap) (n0 : Nat) (s : State) : Outcome → State → Prop := fun oo U' => ∃ v L, oo = .returned v ∧ Q_rmA Z o aa ae ar ca ce cr h0 n0 v U'.heap L ∧ FrameEnd s oo U' L ({ frames := 0, cells := 0, slots := 0, locals := 0 } : Room).cells ({ frames := 0, cells := 0, slots := 0, locals := 0 } : Room).slots
set_option maxRecDepth 65536 in
set_option maxHeartbeats 40000000 in
theorem rmA (l : Launch) (Z : State) (a0 : Array Value) (hw : ∀ d ∈ tables_1, d.before a0 Z = true) (ws : List Jvm.Cond) (o : Addr) (aa ae ar ca ce cr : Addr) (h0 : Heap) (n0 : Nat) (Z0 : n0 ≤ h0.size) (P : own_P Z h0 aa ae ar ca ce cr) :
    MetFree l (⟨"com/example/segmenta/segmenta/ack/AckCode", "isAcceptLevel", "()Z"⟩ : MethodName) (head1 (Jvm.Cond.code (⟨"com/example/segmenta/segmenta/ack/AckCode", "isAcceptLevel", "()Z"⟩ : MethodName) prog_25_method_4_code 1 (some .boolean) :: ws) ({ frames := 0, cells := 0, slots := 0, locals := 0 } : Room)) (fun a U => a = #[(.ref o)] ∧ Z.Warmed39 U.vm ∧ U.heap = h0) (fun _ _ _ _ _ => True) (fun _ U oo U' => ∃ v L, oo = .returned v ∧ Q_rmA Z o aa ae ar ca ce cr h0 n0 v U'.heap L ∧ FrameEnd U oo U' L ({ frames := 0, cells := 0, slots := 0, locals := 0 } : Room).cells ({ frames := 0, cells := 0, slots := 0, locals := 0 } : Room).slots) := by
  refine MetFree.of_bodySF (plainFor_of_name pn_com_example_segmenta_segmenta_ack_AckCode) hisR ?_
  intro p e s m args below meth c s₁ Bd hml0 hP hK
  obtain ⟨rfl, hZ, hh⟩ := hP
  have hx := Bd.exec
  have hby := Bd.bytes
  have hml : c.maxLocals = 1 := hml0
  have hown : s.vm.findClass "com/example/segmenta/segmenta/ack/AckCode" = some m.cls := findClass_of_methodNamed Bd.named
  have hnm := (name_of_methodNamed Bd.named Bd.method).1
  have X0 : Stand p l e ({ frames := 0, cells := 0, slots := 0, locals := 0 } : Room) s m #[(.ref o)] below meth c s₁ [] 0 0 := Stand.of_body Bd
  have e0 : s₁.heap = h0 := by rw [← hh, Bd.state]; rfl
  have N0 := Fr.nil n0
  refine own_st (K := (K_rmA Z o aa ae ar ca ce cr h0 n0 s)) (fun t' k' => castTop (ef_rmA m o) k') ?_
  obtain ⟨S_AA, S_AE, S_AR, S_CA, S_CE, S_CR, E_aa, E_ae, E_ar, E_ca, E_ce, E_cr, ne_aa_ae, ne_aa_ar, ne_aa_ca, ne_aa_ce, ne_aa_cr, ne_ae_ar, ne_ae_ca, ne_ae_ce, ne_ae_cr, ne_ar_ca, ne_ar_ce, ne_ar_cr, ne_ca_ce, ne_ca_cr, ne_ce_cr⟩ := P
  show own_Go p.tables e below _ (s₁.setTop (mkF m 0 #[.val (.ref o)] []))
  refine own_st (fun _ k' => XS.aloadN X0.here hx rfl (hb hby d3_0) rfl rfl k') ?_
  show own_Go p.tables e below _ (s₁.setTop (mkF m 1 #[.val (.ref o)] [(.ref o)]))
  obtain ⟨T1, X1, e1, st1⟩ := getS2 X0 hx hZ hown (host := "") (Or.inl (hw _ (List.mem_of_getElem? (i := 20) rfl))) Via.refl e0 S_CA (g := (mkF m 1 #[.val (.ref o)] [(.ref o)])) rfl (hb hby d3_1)
  refine own_st st1 ?_
  show own_Go p.tables e below _ (T1.setTop (mkF m 4 #[.val (.ref o)] [(.ref ca), (.ref o)]))
  by_cases ha2 : o = ca
  ·  -- pc 4
    refine own_st (fun _ k' => Jvm.RoadKit.acmp (g := (mkF m 4 #[.val (.ref o)] [(.ref ca), (.ref o)])) X1 hx rfl rfl rfl (pc0 := 4) (pc' := 21) (same := true) rfl (hb hby d3_4) rfl (decide_eq_true (congrArg Value.ref ha2)) (by decide) (by decide) k') ?_
    show own_Go p.tables e below _ (T1.setTop (mkF m 21 #[.val (.ref o)] []))
    refine own_st (fun _ k' => XS.iconst X1.here hx rfl (hb hby d3_21) k') ?_
    show own_Go p.tables e below _ (T1.setTop (mkF m 22 #[.val (.ref o)] [(.int (1 : Int32))]))
    refine own_st (fun _ k' => XS.goto X1.here hx rfl (pc0 := 22) (pc' := 26) rfl (hb hby d3_22) (by decide) (by decide) k') ?_
    show own_Go p.tables e below _ (T1.setTop (mkF m 26 #[.val (.ref o)] [(.int (1 : Int32))]))
    exact own_retN X1 hx (t := .boolean) Bd.returns (by simp) (hb hby d3_26) Bd.notSynchronized ⟨by simp [own_acc, nar, ha2], N0, e1⟩ (by decide) (by decide)
  ·  -- pc 4
    refine own_st (fun _ k' => Jvm.RoadKit.acmp (g := (mkF m 4 #[.val (.ref o)] [(.ref ca), (.ref o)])) X1 hx rfl rfl rfl (pc0 := 4) (pc' := 7) (same := false) rfl (hb hby d3_4) rfl (decide_eq_false (fun q => ha2 (Value.ref.inj q))) (by decide) (by decide) k') ?_
    show own_Go p.tables e below _ (T1.setTop (mkF m 7 #[.val (.ref o)] []))
    refine own_st (fun _ k' => XS.aloadN X1.here hx rfl (hb hby d3_7) rfl rfl k') ?_
    show own_Go p.tables e below _ (T1.setTop (mkF m 8 #[.val (.ref o)] [(.ref o)]))
    obtain ⟨T3, X3, e3, st3⟩ := getS2 X1 hx hZ hown (host := "") (Or.inl (hw _ (List.mem_of_getElem? (i := 22) rfl))) Via.refl e1 S_CE (g := (mkF m 8 #[.val (.ref o)] [(.ref o)])) rfl (hb hby d3_8)
    refine own_st st3 ?_
    show own_Go p.tables e below _ (T3.setTop (mkF m 11 #[.val (.ref o)] [(.ref ce), (.ref o)]))
    by_cases ha4 : o = ce
    ·  -- pc 11
      refine own_st (fun _ k' => Jvm.RoadKit.acmp (g := (mkF m 11 #[.val (.ref o)] [(.ref ce), (.ref o)])) X3 hx rfl rfl rfl (pc0 := 11) (pc' := 21) (same := true) rfl (hb hby d3_11) rfl (decide_eq_true (congrArg Value.ref ha4)) (by decide) (by decide) k') ?_
      show own_Go p.tables e below _ (T3.setTop (mkF m 21 #[.val (.ref o)] []))
      refine own_st (fun _ k' => XS.iconst X3.here hx rfl (hb hby d3_21) k') ?_
      show own_Go p.tables e below _ (T3.setTop (mkF m 22 #[.val (.ref o)] [(.int (1 : Int32))]))
      refine own_st (fun _ k' => XS.goto X3.here hx rfl (pc0 := 22) (pc' := 26) rfl (hb hby d3_22) (by decide) (by decide) k') ?_
      show own_Go p.tables e below _ (T3.setTop (mkF m 26 #[.val (.ref o)] [(.int (1 : Int32))]))
      exact own_retN X3 hx (t := .boolean) Bd.returns (by simp) (hb hby d3_26) Bd.notSynchronized ⟨by simp [own_acc, nar, ha2, ha4], N0, e3⟩ (by decide) (by decide)
    ·  -- pc 11
      refine own_st (fun _ k' => Jvm.RoadKit.acmp (g := (mkF m 11 #[.val (.ref o)] [(.ref ce), (.ref o)])) X3 hx rfl rfl rfl (pc0 := 11) (pc' := 14) (same := false) rfl (hb hby d3_11) rfl (decide_eq_false (fun q => ha4 (Value.ref.inj q))) (by decide) (by decide) k') ?_
      show own_Go p.tables e below _ (T3.setTop (mkF m 14 #[.val (.ref o)] []))
      refine own_st (fun _ k' => XS.aloadN X3.here hx rfl (hb hby d3_14) rfl rfl k') ?_
      show own_Go p.tables e below _ (T3.setTop (mkF m 15 #[.val (.ref o)] [(.ref o)]))
      obtain ⟨T5, X5, e5, st5⟩ := getS2 X3 hx hZ hown (host := "") (Or.inl (hw _ (List.mem_of_getElem? (i := 24) rfl))) Via.refl e3 S_CR (g := (mkF m 15 #[.val (.ref o)] [(.ref o)])) rfl (hb hby d3_15)
      refine own_st st5 ?_
      show own_Go p.tables e below _ (T5.setTop (mkF m 18 #[.val (.ref o)] [(.ref cr), (.ref o)]))
      by_cases ha6 : o = cr
      ·  -- pc 18
        refine own_st (fun _ k' => Jvm.RoadKit.acmp (g := (mkF m 18 #[.val (.ref o)] [(.ref cr), (.ref o)])) X5 hx rfl rfl rfl (pc0 := 18) (pc' := 21) (same := true) rfl (hb hby d3_18) rfl (decide_eq_true (congrArg Value.ref ha6)) (by decide) (by decide) k') ?_
        show own_Go p.tables e below _ (T5.setTop (mkF m 21 #[.val (.ref o)] []))
        refine own_st (fun _ k' => XS.iconst X5.here hx rfl (hb hby d3_21) k') ?_
        show own_Go p.tables e below _ (T5.setTop (mkF m 22 #[.val (.ref o)] [(.int (1 : Int32))]))
        refine own_st (fun _ k' => XS.goto X5.here hx rfl (pc0 := 22) (pc' := 26) rfl (hb hby d3_22) (by decide) (by decide) k') ?_
        show own_Go p.tables e below _ (T5.setTop (mkF m 26 #[.val (.ref o)] [(.int (1 : Int32))]))
        exact own_retN X5 hx (t := .boolean) Bd.returns (by simp) (hb hby d3_26) Bd.notSynchronized ⟨by simp [own_acc, nar, ha2, ha4, ha6], N0, e5⟩ (by decide) (by decide)
      ·  -- pc 18
        refine own_st (fun _ k' => Jvm.RoadKit.acmp (g := (mkF m 18 #[.val (.ref o)] [(.ref cr), (.ref o)])) X5 hx rfl rfl rfl (pc0 := 18) (pc' := 25) (same := false) rfl (hb hby d3_18) rfl (decide_eq_false (fun q => ha6 (Value.ref.inj q))) (by decide) (by decide) k') ?_
        show own_Go p.tables e below _ (T5.setTop (mkF m 25 #[.val (.ref o)] []))
        refine own_st (fun _ k' => XS.iconst X5.here hx rfl (hb hby d3_25) k') ?_
        show own_Go p.tables e below _ (T5.setTop (mkF m 26 #[.val (.ref o)] [(.int (0 : Int32))]))
        exact own_retN X5 hx (t := .boolean) Bd.returns (by simp) (hb hby d3_26) Bd.notSynchronized ⟨by simp [own_acc, nar, ha2, ha4, ha6], N0, e5⟩ (by decide) (by decide)

theorem d1_0 : decode prog_25_method_5_code 0 = .ok (.aload_n 0, 1) := by decide +kernel
theorem d1_1 : decode prog_25_method_5_code 1 = .ok (.getstatic 3, 3) := by decide +kernel
theorem d1_4 : decode prog_25_method_5_code 4 = .ok (.if_acmp .eq 14, 3) := by decide +kernel
theorem d1_7 : decode prog_25_method_5_code 7 = .ok (.aload_n 0, 1) := by decide +kernel
theorem d1_8 : decode prog_25_method_5_code 8 = .ok (.getstatic 13, 3) := by decide +kernel
theorem d1_11 : decode prog_25_method_5_code 11 = .ok (.if_acmp .eq 7, 3) := by decide +kernel
theorem d1_14 : decode prog_25_method_5_code 14 = .ok (.iconst 1, 1) := by decide +kernel
theorem d1_15 : decode prog_25_method_5_code 15 = .ok (.goto 4, 3) := by decide +kernel
theorem d1_18 : decode prog_25_method_5_code 18 = .ok (.iconst 0, 1) := by decide +kernel
theorem d1_19 : decode prog_25_method_5_code 19 = .ok (.ireturn, 1) := by decide +kernel
theorem ef_rmR (m : MethodId) (x0 : Addr) : entryFrame m #[(.ref x0)] 1 = mkF m 0 #[.val (.ref x0)] [] := by first | (simp [entryFrame, mkF, argsToLocals, Value.category]; done) | rfl
def Q_rmR (Z : State) (o : Addr) (aa ae ar ca ce cr : Addr) (h0 : Heap) (n0 : Nat) (v : Option Value) (h : Heap) (L : List Loc) : Prop := v = some (.int (own_rep o aa ca)) ∧ Fr n0 L ∧ h = h0
def K_rmR (Z : State) (o : Addr) (aa ae ar ca ce cr : Addr) (h0 : Heap) (n0 : Nat) (s : State) : Outcome → State → Prop := fun oo U' => ∃ v L, oo = .returned v ∧ Q_rmR Z o aa ae ar ca ce cr h0 n0 v U'.heap L ∧ FrameEnd s oo U' L ({ frames := 0, cells := 0, slots := 0, locals := 0 } : Room).cells ({ frames := 0, cells := 0, slots := 0, locals := 0 } : Room).slots
set_option maxRecDepth 65536 in
set_option maxHeartbeats 40000000 in
theorem rmR (l : Launch) (Z : State) (a0 : Array Value) (hw : ∀ d ∈ tables_1, d.before a0 Z = true) (ws : List Jvm.Cond) (o : Addr) (aa ae ar ca ce cr : Addr) (h0 : Heap) (n0 : Nat) (Z0 : n0 ≤ h0.size) (P : own_P Z h0 aa ae ar ca ce cr) :
    MetFree l (⟨"com/example/segmenta/segmenta/ack/AckCode", "reportsError", "()Z"⟩ : MethodName) (head1 (Jvm.Cond.code (⟨"com/example/segmenta/segmenta/ack/AckCode", "reportsError", "()Z"⟩ : MethodName) prog_25_method_5_code 1 (some .boolean) :: ws) ({ frames := 0, cells := 0, slots := 0, locals := 0 } : Room)) (fun a U => a = #[(.ref o)] ∧ Z.Warmed39 U.vm ∧ U.heap = h0) (fun _ _ _ _ _ => True) (fun _ U oo U' => ∃ v L, oo = .returned v ∧ Q_rmR Z o aa ae ar ca ce cr h0 n0 v U'.heap L ∧ FrameEnd U oo U' L ({ frames := 0, cells := 0, slots := 0, locals := 0 } : Room).cells ({ frames := 0, cells := 0, slots := 0, locals := 0 } : Room).slots) := by
  refine MetFree.of_bodySF (plainFor_of_name pn_com_example_segmenta_segmenta_ack_AckCode) hisR ?_
  intro p e s m args below meth c s₁ Bd hml0 hP hK
  obtain ⟨rfl, hZ, hh⟩ := hP
  have hx := Bd.exec
  have hby := Bd.bytes
  have hml : c.maxLocals = 1 := hml0
  have hown : s.vm.findClass "com/example/segmenta/segmenta/ack/AckCode" = some m.cls := findClass_of_methodNamed Bd.named
  have hnm := (name_of_methodNamed Bd.named Bd.method).1
  have X0 : Stand p l e ({ frames := 0, cells := 0, slots := 0, locals := 0 } : Room) s m #[(.ref o)] below meth c s₁ [] 0 0 := Stand.of_body Bd
  have e0 : s₁.heap = h0 := by rw [← hh, Bd.state]; rfl
  have N0 := Fr.nil n0
  refine own_st (K := (K_rmR Z o aa ae ar ca ce cr h0 n0 s)) (fun t' k' => castTop (ef_rmR m o) k') ?_
  obtain ⟨S_AA, S_AE, S_AR, S_CA, S_CE, S_CR, E_aa, E_ae, E_ar, E_ca, E_ce, E_cr, ne_aa_ae, ne_aa_ar, ne_aa_ca, ne_aa_ce, ne_aa_cr, ne_ae_ar, ne_ae_ca, ne_ae_ce, ne_ae_cr, ne_ar_ca, ne_ar_ce, ne_ar_cr, ne_ca_ce, ne_ca_cr, ne_ce_cr⟩ := P
  show own_Go p.tables e below _ (s₁.setTop (mkF m 0 #[.val (.ref o)] []))
  refine own_st (fun _ k' => XS.aloadN X0.here hx rfl (hb hby d1_0) rfl rfl k') ?_
  show own_Go p.tables e below _ (s₁.setTop (mkF m 1 #[.val (.ref o)] [(.ref o)]))
  obtain ⟨T1, X1, e1, st1⟩ := getS2 X0 hx hZ hown (host := "") (Or.inl (hw _ (List.mem_of_getElem? (i := 9) rfl))) Via.refl e0 S_AA (g := (mkF m 1 #[.val (.ref o)] [(.ref o)])) rfl (hb hby d1_1)
  refine own_st st1 ?_
  show own_Go p.tables e below _ (T1.setTop (mkF m 4 #[.val (.ref o)] [(.ref aa), (.ref o)]))
  by_cases ha2 : o = aa
  ·  -- pc 4
    refine own_st (fun _ k' => Jvm.RoadKit.acmp (g := (mkF m 4 #[.val (.ref o)] [(.ref aa), (.ref o)])) X1 hx rfl rfl rfl (pc0 := 4) (pc' := 18) (same := true) rfl (hb hby d1_4) rfl (decide_eq_true (congrArg Value.ref ha2)) (by decide) (by decide) k') ?_
    show own_Go p.tables e below _ (T1.setTop (mkF m 18 #[.val (.ref o)] []))
    refine own_st (fun _ k' => XS.iconst X1.here hx rfl (hb hby d1_18) k') ?_
    show own_Go p.tables e below _ (T1.setTop (mkF m 19 #[.val (.ref o)] [(.int (0 : Int32))]))
    exact own_retN X1 hx (t := .boolean) Bd.returns (by simp) (hb hby d1_19) Bd.notSynchronized ⟨by simp [own_rep, nar, ha2], N0, e1⟩ (by decide) (by decide)
  ·  -- pc 4
    refine own_st (fun _ k' => Jvm.RoadKit.acmp (g := (mkF m 4 #[.val (.ref o)] [(.ref aa), (.ref o)])) X1 hx rfl rfl rfl (pc0 := 4) (pc' := 7) (same := false) rfl (hb hby d1_4) rfl (decide_eq_false (fun q => ha2 (Value.ref.inj q))) (by decide) (by decide) k') ?_
    show own_Go p.tables e below _ (T1.setTop (mkF m 7 #[.val (.ref o)] []))
    refine own_st (fun _ k' => XS.aloadN X1.here hx rfl (hb hby d1_7) rfl rfl k') ?_
    show own_Go p.tables e below _ (T1.setTop (mkF m 8 #[.val (.ref o)] [(.ref o)]))
    obtain ⟨T3, X3, e3, st3⟩ := getS2 X1 hx hZ hown (host := "") (Or.inl (hw _ (List.mem_of_getElem? (i := 20) rfl))) Via.refl e1 S_CA (g := (mkF m 8 #[.val (.ref o)] [(.ref o)])) rfl (hb hby d1_8)
    refine own_st st3 ?_
    show own_Go p.tables e below _ (T3.setTop (mkF m 11 #[.val (.ref o)] [(.ref ca), (.ref o)]))
    by_cases ha4 : o = ca
    ·  -- pc 11
      refine own_st (fun _ k' => Jvm.RoadKit.acmp (g := (mkF m 11 #[.val (.ref o)] [(.ref ca), (.ref o)])) X3 hx rfl rfl rfl (pc0 := 11) (pc' := 18) (same := true) rfl (hb hby d1_11) rfl (decide_eq_true (congrArg Value.ref ha4)) (by decide) (by decide) k') ?_
      show own_Go p.tables e below _ (T3.setTop (mkF m 18 #[.val (.ref o)] []))
      refine own_st (fun _ k' => XS.iconst X3.here hx rfl (hb hby d1_18) k') ?_
      show own_Go p.tables e below _ (T3.setTop (mkF m 19 #[.val (.ref o)] [(.int (0 : Int32))]))
      exact own_retN X3 hx (t := .boolean) Bd.returns (by simp) (hb hby d1_19) Bd.notSynchronized ⟨by simp [own_rep, nar, ha2, ha4], N0, e3⟩ (by decide) (by decide)
    ·  -- pc 11
      refine own_st (fun _ k' => Jvm.RoadKit.acmp (g := (mkF m 11 #[.val (.ref o)] [(.ref ca), (.ref o)])) X3 hx rfl rfl rfl (pc0 := 11) (pc' := 14) (same := false) rfl (hb hby d1_11) rfl (decide_eq_false (fun q => ha4 (Value.ref.inj q))) (by decide) (by decide) k') ?_
      show own_Go p.tables e below _ (T3.setTop (mkF m 14 #[.val (.ref o)] []))
      refine own_st (fun _ k' => XS.iconst X3.here hx rfl (hb hby d1_14) k') ?_
      show own_Go p.tables e below _ (T3.setTop (mkF m 15 #[.val (.ref o)] [(.int (1 : Int32))]))
      refine own_st (fun _ k' => XS.goto X3.here hx rfl (pc0 := 15) (pc' := 19) rfl (hb hby d1_15) (by decide) (by decide) k') ?_
      show own_Go p.tables e below _ (T3.setTop (mkF m 19 #[.val (.ref o)] [(.int (1 : Int32))]))
      exact own_retN X3 hx (t := .boolean) Bd.returns (by simp) (hb hby d1_19) Bd.notSynchronized ⟨by simp [own_rep, nar, ha2, ha4], N0, e3⟩ (by decide) (by decide)

theorem d2_0 : decode prog_25_method_6_code 0 = .ok (.aload_n 0, 1) := by decide +kernel
theorem d2_1 : decode prog_25_method_6_code 1 = .ok (.invokevirtual 41, 3) := by decide +kernel
theorem d2_4 : decode prog_25_method_6_code 4 = .ok (.ifCond .eq 9, 3) := by decide +kernel
theorem d2_7 : decode prog_25_method_6_code 7 = .ok (.getstatic 19, 3) := by decide +kernel
theorem d2_10 : decode prog_25_method_6_code 10 = .ok (.goto 6, 3) := by decide +kernel
theorem d2_13 : decode prog_25_method_6_code 13 = .ok (.getstatic 10, 3) := by decide +kernel
theorem d2_16 : decode prog_25_method_6_code 16 = .ok (.areturn, 1) := by decide +kernel
theorem pd___Z : parseMethodDescriptor "()Z" = some ⟨[], some .boolean⟩ := by decide +kernel
theorem ef_rmJ (m : MethodId) (x0 : Addr) : entryFrame m #[(.ref x0)] 1 = mkF m 0 #[.val (.ref x0)] [] := by first | (simp [entryFrame, mkF, argsToLocals, Value.category]; done) | rfl
def Q_rmJ (Z : State) (o : Addr) (aa ae ar ca ce cr : Addr) (h0 : Heap) (n0 : Nat) (v : Option Value) (h : Heap) (L : List Loc) : Prop := ∃ c, v = some (.ref c) ∧ c = own_rej o ar ca ce cr ∧ Fr n0 L ∧ h = h0
def K_rmJ (Z : State) (o : Addr) (aa ae ar ca ce cr : Addr) (h0 : Heap) (n0 : Nat) (s : State) : Outcome → State → Prop := fun oo U' => ∃ v L, oo = .returned v ∧ Q_rmJ Z o aa ae ar ca ce cr h0 n0 v U'.heap L ∧ FrameEnd s oo U' L ({ frames := 1, cells := 0, slots := 0, locals := 12 } : Room).cells ({ frames := 1, cells := 0, slots := 0, locals := 12 } : Room).slots
set_option maxRecDepth 65536 in
set_option maxHeartbeats 40000000 in
theorem rmJ (l : Launch) (Z : State) (a0 : Array Value) (hw : ∀ d ∈ tables_1, d.before a0 Z = true) (ws : List Jvm.Cond) (o : Addr) (aa ae ar ca ce cr : Addr) (h0 : Heap) (n0 : Nat) (Z0 : n0 ≤ h0.size) (P : own_P Z h0 aa ae ar ca ce cr) (E_o : Exa Z h0 o "com/example/segmenta/segmenta/ack/AckCode") :
    MetFree l (⟨"com/example/segmenta/segmenta/ack/AckCode", "reject", "()Lcom/example/segmenta/segmenta/ack/AckCode;"⟩ : MethodName) (head1 (Jvm.Cond.code (⟨"com/example/segmenta/segmenta/ack/AckCode", "reject", "()Lcom/example/segmenta/segmenta/ack/AckCode;"⟩ : MethodName) prog_25_method_6_code 1 (some (.object "com/example/segmenta/segmenta/ack/AckCode")) :: ws) ({ frames := 1, cells := 0, slots := 0, locals := 12 } : Room)) (fun a U => a = #[(.ref o)] ∧ Z.Warmed39 U.vm ∧ U.heap = h0) (fun _ _ _ _ _ => True) (fun _ U oo U' => ∃ v L, oo = .returned v ∧ Q_rmJ Z o aa ae ar ca ce cr h0 n0 v U'.heap L ∧ FrameEnd U oo U' L ({ frames := 1, cells := 0, slots := 0, locals := 12 } : Room).cells ({ frames := 1, cells := 0, slots := 0, locals := 12 } : Room).slots) := by
  refine MetFree.of_bodySF (plainFor_of_name pn_com_example_segmenta_segmenta_ack_AckCode) hisR ?_
  intro p e s m args below meth c s₁ Bd hml0 hP hK
  obtain ⟨rfl, hZ, hh⟩ := hP
  have hx := Bd.exec
  have hby := Bd.bytes
  have hml : c.maxLocals = 1 := hml0
  have hown : s.vm.findClass "com/example/segmenta/segmenta/ack/AckCode" = some m.cls := findClass_of_methodNamed Bd.named
  have hnm := (name_of_methodNamed Bd.named Bd.method).1
  have X0 : Stand p l e ({ frames := 1, cells := 0, slots := 0, locals := 12 } : Room) s m #[(.ref o)] below meth c s₁ [] 0 0 := Stand.of_body Bd
  have e0 : s₁.heap = h0 := by rw [← hh, Bd.state]; rfl
  have N0 := Fr.nil n0
  refine own_st (K := (K_rmJ Z o aa ae ar ca ce cr h0 n0 s)) (fun t' k' => castTop (ef_rmJ m o) k') ?_
  have P' := P
  obtain ⟨S_AA, S_AE, S_AR, S_CA, S_CE, S_CR, E_aa, E_ae, E_ar, E_ca, E_ce, E_cr, ne_aa_ae, ne_aa_ar, ne_aa_ca, ne_aa_ce, ne_aa_cr, ne_ae_ar, ne_ae_ca, ne_ae_ce, ne_ae_cr, ne_ar_ca, ne_ar_ce, ne_ar_cr, ne_ca_ce, ne_ca_cr, ne_ce_cr⟩ := P
  show own_Go p.tables e below _ (s₁.setTop (mkF m 0 #[.val (.ref o)] []))
  refine own_st (fun _ k' => XS.aloadN X0.here hx rfl (hb hby d2_0) rfl rfl k') ?_
  show own_Go p.tables e below _ (s₁.setTop (mkF m 1 #[.val (.ref o)] [(.ref o)]))
  obtain ⟨cq1, kq1, q1a, q1b, q1c⟩ := isOf hZ e0 E_o
  obtain ⟨_, _, ⟨T1, L1, k1, n1⟩, -, X1, ⟨Lc1, hQ1, l1, y1, z1⟩, st1⟩ := X0.virtualBack hx (y := (⟨"com/example/segmenta/segmenta/ack/AckCode", "isAcceptLevel", "()Z"⟩ : MethodName)) (z := (⟨"com/example/segmenta/segmenta/ack/AckCode", "isAcceptLevel", "()Z"⟩ : MethodName)) hown (mvT hZ (hw _ (List.mem_of_getElem? (i := 15) rfl))) (mvT hZ (hw _ (List.mem_of_getElem? (i := 16) rfl))) (notFace_of_selects (args := #[]) (mvT hZ (hw _ (List.mem_of_getElem? (i := 18) rfl)))) (mvT hZ (hw _ (List.mem_of_getElem? (i := 18) rfl))) (mvT hZ (hw _ (List.mem_of_getElem? (i := 17) rfl))) (by decide) (backOf (W := 0) (rmA l Z a0 hw [] o aa ae ar ca ce cr h0 n0 Z0 P') hZ (hw _ (List.mem_of_getElem? (i := 19) rfl)) (hw _ (List.mem_of_getElem? (i := 2) rfl)) (by decide) (by decide)) q1a q1c (g := (mkF m 1 #[.val (.ref o)] [(.ref o)])) rfl (by rw [hml]; rfl) (Steps.refl _) (argsL := []) (rest := []) (lenOf pd___Z rfl) rfl (by show 2 * 0 + _ ≤ _; exact Nat.le_of_eq rfl) (hb hby d2_1) (fun _ _ => ⟨rfl, e0, (by decide : 0 + 0 ≤ _), (by decide : 0 + 0 ≤ _)⟩)
  dsimp only [Pt.U, Pt.locs, Pt.cells, Pt.slots] at X1 l1 y1 z1 st1 hQ1
  subst l1 y1 z1
  obtain ⟨rfl, Nq1, e1⟩ := hQ1
  have N1 := Fr.app N0 Nq1
  refine own_tr st1 ?_
  show own_Go p.tables e below _ (T1.setTop (mkF m 4 #[.val (.ref o)] [(.int (own_acc o ca ce cr))]))
  by_cases hc2 : (own_acc o ca ce cr) = (0 : Int32)
  ·  -- pc 4, (own_acc o ca ce cr) = (0 : Int32)
    refine own_st (fun _ k' => XS.ifYes X1.here hx rfl (pc0 := 4) (pc' := 13) rfl (hb hby d2_4) rfl ((if0 _ _).trans (teq hc2).1) (by decide) (by decide) k') ?_
    show own_Go p.tables e below _ (T1.setTop (mkF m 13 #[.val (.ref o)] []))
    obtain ⟨T3, X3, e3, st3⟩ := getS2 X1 hx hZ hown (host := "") (Or.inl (hw _ (List.mem_of_getElem? (i := 26) rfl))) Via.refl e1 S_AR (g := (mkF m 13 #[.val (.ref o)] [])) rfl (hb hby d2_13)
    refine own_st st3 ?_
    show own_Go p.tables e below _ (T3.setTop (mkF m 16 #[.val (.ref o)] [(.ref ar)]))
    exact own_retA X3 hx Bd.returns rfl rfl (hb hby d2_16) Bd.notSynchronized ⟨ar, rfl, by simp [own_rej, hc2], N1, e3⟩ (by decide) (by decide)
  ·  -- pc 4, not (own_acc o ca ce cr) = (0 : Int32)
    refine own_st (fun _ k' => XS.ifNo X1.here hx rfl (hb hby d2_4) rfl ((if0 _ _).trans (feq hc2).1) k') ?_
    show own_Go p.tables e below _ (T1.setTop (mkF m 7 #[.val (.ref o)] []))
    obtain ⟨T4, X4, e4, st4⟩ := getS2 X1 hx hZ hown (host := "") (Or.inl (hw _ (List.mem_of_getElem? (i := 24) rfl))) Via.refl e1 S_CR (g := (mkF m 7 #[.val (.ref o)] [])) rfl (hb hby d2_7)
    refine own_st st4 ?_
    show own_Go p.tables e below _ (T4.setTop (mkF m 10 #[.val (.ref o)] [(.ref cr)]))
    refine own_st (fun _ k' => XS.goto X4.here hx rfl (pc0 := 10) (pc' := 16) rfl (hb hby d2_10) (by decide) (by decide) k') ?_
    show own_Go p.tables e below _ (T4.setTop (mkF m 16 #[.val (.ref o)] [(.ref cr)]))
    exact own_retA X4 hx Bd.returns rfl rfl (hb hby d2_16) Bd.notSynchronized ⟨cr, rfl, by simp [own_rej, hc2], N1, e4⟩ (by decide) (by decide)

theorem pd___Lcom_example_segmenta_segmenta_ack_AckCode_ : parseMethodDescriptor "()Lcom/example/segmenta/segmenta/ack/AckCode;" = some ⟨[], some (.object "com/example/segmenta/segmenta/ack/AckCode")⟩ := by decide +kernel
theorem pn_com_example_segmenta_segmenta_ack_AckCodeReportsErrorPinLaw : plainName "com/example/segmenta/segmenta/ack/AckCodeReportsErrorPinLaw" = true := by first | (simp [plainName, overriddenIn]; done) | decide +kernel
theorem ef_rm0 (m : MethodId) (x0 : Int32) : entryFrame m #[(.int x0)] maxLocals = mkF m 0 #[.val (.int x0), .unset, .unset, .unset, .unset, .unset] [] := by first | (simp [entryFrame, mkF, argsToLocals, Value.category, maxLocals]; done) | rfl
def Q_rm0 (Z : State) (p1 : Int32) (aa ae ar ca ce cr : Addr) (h0 : Heap) (n0 : Nat) (v : Option Value) (h : Heap) (L : List Loc) : Prop := v = some (.int 1) ∧ Fr n0 L
def K_rm0 (Z : State) (p1 : Int32) (aa ae ar ca ce cr : Addr) (h0 : Heap) (n0 : Nat) (s : State) : Outcome → State → Prop := fun oo U' => ∃ v L, oo = .returned v ∧ Q_rm0 Z p1 aa ae ar ca ce cr h0 n0 v U'.heap L ∧ FrameEnd s oo U' L 0 0
set_option maxRecDepth 65536 in
set_option maxHeartbeats 40000000 in
theorem rm0 (l : Launch) (Z : State) (a0 : Array Value) (hw : ∀ d ∈ tables_1, d.before a0 Z = true) (ws : List Jvm.Cond) (p1 : Int32) (aa ae ar ca ce cr : Addr) (h0 : Heap) (n0 : Nat) (Z0 : n0 ≤ h0.size) (P : own_P Z h0 aa ae ar ca ce cr) :
    MetFree l x (head1 (Jvm.Cond.code x code maxLocals ret :: ws) room_1) (fun a U => a = #[(.int p1)] ∧ Z.Warmed39 U.vm ∧ U.heap = h0) (fun _ _ _ _ _ => True) (fun _ U oo U' => ∃ v L, oo = .returned v ∧ Q_rm0 Z p1 aa ae ar ca ce cr h0 n0 v U'.heap L ∧ FrameEnd U oo U' L 0 0) := by
  refine MetFree.of_bodySF (plainFor_of_name pn_com_example_segmenta_segmenta_ack_AckCodeReportsErrorPinLaw) hisR ?_
  intro p e s m args below meth c s₁ Bd hml0 hP hK
  obtain ⟨rfl, hZ, hh⟩ := hP
  have hx := Bd.exec
  have hby := Bd.bytes
  have hml : c.maxLocals = 6 := hml0
  have hown : s.vm.findClass "com/example/segmenta/segmenta/ack/AckCodeReportsErrorPinLaw" = some m.cls := findClass_of_methodNamed Bd.named
  have hnm := (name_of_methodNamed Bd.named Bd.method).1
  have X0 : Stand p l e room_1 s m #[(.int p1)] below meth c s₁ [] 0 0 := Stand.of_body Bd
  have e0 : s₁.heap = h0 := by rw [← hh, Bd.state]; rfl
  have N0 := Fr.nil n0
  refine own_st (K := (K_rm0 Z p1 aa ae ar ca ce cr h0 n0 s)) (fun t' k' => castTop (ef_rm0 m p1) k') ?_
  have P' := P
  obtain ⟨S_AA, S_AE, S_AR, S_CA, S_CE, S_CR, E_aa, E_ae, E_ar, E_ca, E_ce, E_cr, ne_aa_ae, ne_aa_ar, ne_aa_ca, ne_aa_ce, ne_aa_cr, ne_ae_ar, ne_ae_ca, ne_ae_ce, ne_ae_cr, ne_ar_ca, ne_ar_ce, ne_ar_cr, ne_ca_ce, ne_ca_cr, ne_ce_cr⟩ := P
  show own_Go p.tables e below _ (s₁.setTop (mkF m 0 #[.val (.int p1), .unset, .unset, .unset, .unset, .unset] []))
  refine own_st (fun _ k' => XS.iloadN X0.here hx rfl (hb hby at_0) rfl k') ?_
  show own_Go p.tables e below _ (s₁.setTop (mkF m 1 #[.val (.int p1), .unset, .unset, .unset, .unset, .unset] [(.int p1)]))
  refine own_st (fun t' k' => X0.ldcInt hx hown (mvT hZ (hw _ (List.mem_of_getElem? (i := 0) rfl))) (g := (mkF m 1 #[.val (.int p1), .unset, .unset, .unset, .unset, .unset] [(.int p1)])) rfl (hb hby at_1) t' k') ?_
  show own_Go p.tables e below _ (s₁.setTop (mkF m 3 #[.val (.int p1), .unset, .unset, .unset, .unset, .unset] [(.int (2147483647 : Int32)), (.int p1)]))
  refine own_st (fun _ k' => XS.iand X0.here hx rfl (hb hby at_3) rfl k') ?_
  show own_Go p.tables e below _ (s₁.setTop (mkF m 4 #[.val (.int p1), .unset, .unset, .unset, .unset, .unset] [(.int (p1 &&& (2147483647 : Int32)))]))
  refine own_st (fun _ k' => XS.bipush X0.here hx rfl (hb hby at_4) k') ?_
  show own_Go p.tables e below _ (s₁.setTop (mkF m 6 #[.val (.int p1), .unset, .unset, .unset, .unset, .unset] [(.int (6 : Int32)), (.int (p1 &&& (2147483647 : Int32)))]))
  refine own_st (fun _ k' => iremM X0 hx rfl (hb hby at_6) rfl (by decide) k') ?_
  show own_Go p.tables e below _ (s₁.setTop (mkF m 7 #[.val (.int p1), .unset, .unset, .unset, .unset, .unset] [(.int ((p1 &&& (2147483647 : Int32)) % (6 : Int32)))]))
  refine own_st (fun _ k' => XS.istoreN X0.here hx rfl (hb hby at_7) rfl (l' := #[.val (.int p1), .val (.int ((p1 &&& (2147483647 : Int32)) % (6 : Int32))), .unset, .unset, .unset, .unset]) rfl k') ?_
  show own_Go p.tables e below _ (s₁.setTop (mkF m 8 #[.val (.int p1), .val (.int ((p1 &&& (2147483647 : Int32)) % (6 : Int32))), .unset, .unset, .unset, .unset] []))
  refine own_st (fun _ k' => XS.iloadN X0.here hx rfl (hb hby at_8) rfl k') ?_
  show own_Go p.tables e below _ (s₁.setTop (mkF m 9 #[.val (.int p1), .val (.int ((p1 &&& (2147483647 : Int32)) % (6 : Int32))), .unset, .unset, .unset, .unset] [(.int ((p1 &&& (2147483647 : Int32)) % (6 : Int32)))]))
  by_cases hc1 : ((p1 &&& (2147483647 : Int32)) % (6 : Int32)) = (0 : Int32)
  ·  -- pc 9, ((p1 &&& (2147483647 : Int32)) % (6 : Int32)) = (0 : Int32)
    refine own_st (fun _ k' => XS.ifNo X0.here hx rfl (hb hby at_9) rfl ((if0 _ _).trans (teq hc1).2) k') ?_
    show own_Go p.tables e below _ (s₁.setTop (mkF m 12 #[.val (.int p1), .val (.int ((p1 &&& (2147483647 : Int32)) % (6 : Int32))), .unset, .unset, .unset, .unset] []))
    obtain ⟨T2, X2, e2, st2⟩ := getS2 X0 hx hZ hown (host := "") (Or.inl (hw _ (List.mem_of_getElem? (i := 1) rfl))) Via.refl e0 S_AA (g := (mkF m 12 #[.val (.int p1), .val (.int ((p1 &&& (2147483647 : Int32)) % (6 : Int32))), .unset, .unset, .unset, .unset] [])) rfl (hb hby at_12)
    refine own_st st2 ?_
    show own_Go p.tables e below _ (T2.setTop (mkF m 15 #[.val (.int p1), .val (.int ((p1 &&& (2147483647 : Int32)) % (6 : Int32))), .unset, .unset, .unset, .unset] [(.ref aa)]))
    refine own_st (fun _ k' => XS.astoreN X2.here hx rfl (hb hby at_15) rfl rfl (l' := #[.val (.int p1), .val (.int ((p1 &&& (2147483647 : Int32)) % (6 : Int32))), .val (.ref aa), .unset, .unset, .unset]) rfl k') ?_
    show own_Go p.tables e below _ (T2.setTop (mkF m 16 #[.val (.int p1), .val (.int ((p1 &&& (2147483647 : Int32)) % (6 : Int32))), .val (.ref aa), .unset, .unset, .unset] []))
    refine own_st (fun _ k' => XS.iconst X2.here hx rfl (hb hby at_16) k') ?_
    show own_Go p.tables e below _ (T2.setTop (mkF m 17 #[.val (.int p1), .val (.int ((p1 &&& (2147483647 : Int32)) % (6 : Int32))), .val (.ref aa), .unset, .unset, .unset] [(.int (0 : Int32))]))
    refine own_st (fun _ k' => XS.istoreN X2.here hx rfl (hb hby at_17) rfl (l' := #[.val (.int p1), .val (.int ((p1 &&& (2147483647 : Int32)) % (6 : Int32))), .val (.ref aa), .val (.int (0 : Int32)), .unset, .unset]) rfl k') ?_
    show own_Go p.tables e below _ (T2.setTop (mkF m 18 #[.val (.int p1), .val (.int ((p1 &&& (2147483647 : Int32)) % (6 : Int32))), .val (.ref aa), .val (.int (0 : Int32)), .unset, .unset] []))
    refine own_st (fun _ k' => XS.goto X2.here hx rfl (pc0 := 18) (pc' := 83) rfl (hb hby at_18) (by decide) (by decide) k') ?_
    show own_Go p.tables e below _ (T2.setTop (mkF m 83 #[.val (.int p1), .val (.int ((p1 &&& (2147483647 : Int32)) % (6 : Int32))), .val (.ref aa), .val (.int (0 : Int32)), .unset, .unset] []))
    refine own_st (fun _ k' => XS.aloadN X2.here hx rfl (hb hby at_83) rfl rfl k') ?_
    show own_Go p.tables e below _ (T2.setTop (mkF m 84 #[.val (.int p1), .val (.int ((p1 &&& (2147483647 : Int32)) % (6 : Int32))), .val (.ref aa), .val (.int (0 : Int32)), .unset, .unset] [(.ref aa)]))
    obtain ⟨cq3, kq3, q3a, q3b, q3c⟩ := isOf hZ e2 E_aa
    obtain ⟨_, _, ⟨T3, L3, k3, n3⟩, -, X3, ⟨Lc3, hQ3, l3, y3, z3⟩, st3⟩ := X2.virtualBack hx (y := (⟨"com/example/segmenta/segmenta/ack/AckCode", "reportsError", "()Z"⟩ : MethodName)) (z := (⟨"com/example/segmenta/segmenta/ack/AckCode", "reportsError", "()Z"⟩ : MethodName)) hown (mvT hZ (hw _ (List.mem_of_getElem? (i := 4) rfl))) (mvT hZ (hw _ (List.mem_of_getElem? (i := 5) rfl))) (notFace_of_selects (args := #[]) (mvT hZ (hw _ (List.mem_of_getElem? (i := 7) rfl)))) (mvT hZ (hw _ (List.mem_of_getElem? (i := 7) rfl))) (mvT hZ (hw _ (List.mem_of_getElem? (i := 6) rfl))) (by decide) (backOf (W := 0) (rmR l Z a0 hw [] aa aa ae ar ca ce cr h0 n0 Z0 P') hZ (hw _ (List.mem_of_getElem? (i := 8) rfl)) (hw _ (List.mem_of_getElem? (i := 2) rfl)) (by decide) (by decide)) q3a q3c (g := (mkF m 84 #[.val (.int p1), .val (.int ((p1 &&& (2147483647 : Int32)) % (6 : Int32))), .val (.ref aa), .val (.int (0 : Int32)), .unset, .unset] [(.ref aa)])) rfl (by rw [hml]; rfl) (Steps.refl _) (argsL := []) (rest := []) (lenOf pd___Z rfl) rfl (by show 2 * 0 + _ ≤ _; exact Nat.le_of_eq rfl) (hb hby at_84) (fun _ _ => ⟨rfl, e2, (by decide : 0 + 0 ≤ _), (by decide : 0 + 0 ≤ _)⟩)
    dsimp only [Pt.U, Pt.locs, Pt.cells, Pt.slots] at X3 l3 y3 z3 st3 hQ3
    subst l3 y3 z3
    obtain ⟨rfl, Nq3, e3⟩ := hQ3
    have N3 := Fr.app N0 Nq3
    refine own_tr st3 ?_
    show own_Go p.tables e below _ (T3.setTop (mkF m 87 #[.val (.int p1), .val (.int ((p1 &&& (2147483647 : Int32)) % (6 : Int32))), .val (.ref aa), .val (.int (0 : Int32)), .unset, .unset] [(.int (own_rep aa aa ca))]))
    refine own_st (fun _ k' => XS.istore X3.here hx rfl (hb hby at_87) rfl (l' := #[.val (.int p1), .val (.int ((p1 &&& (2147483647 : Int32)) % (6 : Int32))), .val (.ref aa), .val (.int (0 : Int32)), .val (.int (own_rep aa aa ca)), .unset]) rfl k') ?_
    show own_Go p.tables e below _ (T3.setTop (mkF m 89 #[.val (.int p1), .val (.int ((p1 &&& (2147483647 : Int32)) % (6 : Int32))), .val (.ref aa), .val (.int (0 : Int32)), .val (.int (own_rep aa aa ca)), .unset] []))
    refine own_st (fun _ k' => XS.aloadN X3.here hx rfl (hb hby at_89) rfl rfl k') ?_
    show own_Go p.tables e below _ (T3.setTop (mkF m 90 #[.val (.int p1), .val (.int ((p1 &&& (2147483647 : Int32)) % (6 : Int32))), .val (.ref aa), .val (.int (0 : Int32)), .val (.int (own_rep aa aa ca)), .unset] [(.ref aa)]))
    obtain ⟨cq4, kq4, q4a, q4b, q4c⟩ := isOf hZ e3 E_aa
    obtain ⟨_, _, ⟨T4, L4, k4, n4⟩, -, X4, ⟨Lc4, hQ4, l4, y4, z4⟩, st4⟩ := X3.virtualBack hx (y := (⟨"com/example/segmenta/segmenta/ack/AckCode", "reject", "()Lcom/example/segmenta/segmenta/ack/AckCode;"⟩ : MethodName)) (z := (⟨"com/example/segmenta/segmenta/ack/AckCode", "reject", "()Lcom/example/segmenta/segmenta/ack/AckCode;"⟩ : MethodName)) hown (mvT hZ (hw _ (List.mem_of_getElem? (i := 10) rfl))) (mvT hZ (hw _ (List.mem_of_getElem? (i := 11) rfl))) (notFace_of_selects (args := #[]) (mvT hZ (hw _ (List.mem_of_getElem? (i := 13) rfl)))) (mvT hZ (hw _ (List.mem_of_getElem? (i := 13) rfl))) (mvT hZ (hw _ (List.mem_of_getElem? (i := 12) rfl))) (by decide) (backOf (W := 0) (rmJ l Z a0 hw [] aa aa ae ar ca ce cr h0 n0 Z0 P' E_aa) hZ (hw _ (List.mem_of_getElem? (i := 14) rfl)) (hw _ (List.mem_of_getElem? (i := 2) rfl)) (by decide) (by decide)) q4a q4c (g := (mkF m 90 #[.val (.int p1), .val (.int ((p1 &&& (2147483647 : Int32)) % (6 : Int32))), .val (.ref aa), .val (.int (0 : Int32)), .val (.int (own_rep aa aa ca)), .unset] [(.ref aa)])) rfl (by rw [hml]; rfl) (Steps.refl _) (argsL := []) (rest := []) (lenOf pd___Lcom_example_segmenta_segmenta_ack_AckCode_ rfl) rfl (by show 2 * 0 + _ ≤ _; exact Nat.le_of_eq rfl) (hb hby at_90) (fun _ _ => ⟨rfl, e3, (by decide : 0 + 0 ≤ _), (by decide : 0 + 0 ≤ _)⟩)
    dsimp only [Pt.U, Pt.locs, Pt.cells, Pt.slots] at X4 l4 y4 z4 st4 hQ4
    subst l4 y4 z4
    obtain ⟨c4, rfl, hcc, Nq4, e4⟩ := hQ4
    have N4 := Fr.app N3 Nq4
    have E_c : Exa Z h0 c4 "com/example/segmenta/segmenta/ack/AckCode" := by rw [hcc]; exact own_rej_exa P'
    refine own_tr st4 ?_
    show own_Go p.tables e below _ (T4.setTop (mkF m 93 #[.val (.int p1), .val (.int ((p1 &&& (2147483647 : Int32)) % (6 : Int32))), .val (.ref aa), .val (.int (0 : Int32)), .val (.int (own_rep aa aa ca)), .unset] [(.ref c4)]))
    obtain ⟨cq5, kq5, q5a, q5b, q5c⟩ := isOf hZ e4 E_c
    obtain ⟨_, _, ⟨T5, L5, k5, n5⟩, -, X5, ⟨Lc5, hQ5, l5, y5, z5⟩, st5⟩ := X4.virtualBack hx (y := (⟨"com/example/segmenta/segmenta/ack/AckCode", "reportsError", "()Z"⟩ : MethodName)) (z := (⟨"com/example/segmenta/segmenta/ack/AckCode", "reportsError", "()Z"⟩ : MethodName)) hown (mvT hZ (hw _ (List.mem_of_getElem? (i := 4) rfl))) (mvT hZ (hw _ (List.mem_of_getElem? (i := 5) rfl))) (notFace_of_selects (args := #[]) (mvT hZ (hw _ (List.mem_of_getElem? (i := 7) rfl)))) (mvT hZ (hw _ (List.mem_of_getElem? (i := 7) rfl))) (mvT hZ (hw _ (List.mem_of_getElem? (i := 6) rfl))) (by decide) (backOf (W := 0) (rmR l Z a0 hw [] c4 aa ae ar ca ce cr h0 n0 Z0 P') hZ (hw _ (List.mem_of_getElem? (i := 8) rfl)) (hw _ (List.mem_of_getElem? (i := 2) rfl)) (by decide) (by decide)) q5a q5c (g := (mkF m 93 #[.val (.int p1), .val (.int ((p1 &&& (2147483647 : Int32)) % (6 : Int32))), .val (.ref aa), .val (.int (0 : Int32)), .val (.int (own_rep aa aa ca)), .unset] [(.ref c4)])) rfl (by rw [hml]; rfl) (Steps.refl _) (argsL := []) (rest := []) (lenOf pd___Z rfl) rfl (by show 2 * 0 + _ ≤ _; exact Nat.le_of_eq rfl) (hb hby at_93) (fun _ _ => ⟨rfl, e4, (by decide : 0 + 0 ≤ _), (by decide : 0 + 0 ≤ _)⟩)
    dsimp only [Pt.U, Pt.locs, Pt.cells, Pt.slots] at X5 l5 y5 z5 st5 hQ5
    subst l5 y5 z5
    obtain ⟨rfl, Nq5, e5⟩ := hQ5
    have N5 := Fr.app N4 Nq5
    refine own_tr st5 ?_
    show own_Go p.tables e below _ (T5.setTop (mkF m 96 #[.val (.int p1), .val (.int ((p1 &&& (2147483647 : Int32)) % (6 : Int32))), .val (.ref aa), .val (.int (0 : Int32)), .val (.int (own_rep aa aa ca)), .unset] [(.int (own_rep c4 aa ca))]))
    refine own_st (fun _ k' => XS.istore X5.here hx rfl (hb hby at_96) rfl (l' := #[.val (.int p1), .val (.int ((p1 &&& (2147483647 : Int32)) % (6 : Int32))), .val (.ref aa), .val (.int (0 : Int32)), .val (.int (own_rep aa aa ca)), .val (.int (own_rep c4 aa ca))]) rfl k') ?_
    show own_Go p.tables e below _ (T5.setTop (mkF m 98 #[.val (.int p1), .val (.int ((p1 &&& (2147483647 : Int32)) % (6 : Int32))), .val (.ref aa), .val (.int (0 : Int32)), .val (.int (own_rep aa aa ca)), .val (.int (own_rep c4 aa ca))] []))
    refine own_st (fun _ k' => XS.iload X5.here hx rfl (hb hby at_98) rfl k') ?_
    show own_Go p.tables e below _ (T5.setTop (mkF m 100 #[.val (.int p1), .val (.int ((p1 &&& (2147483647 : Int32)) % (6 : Int32))), .val (.ref aa), .val (.int (0 : Int32)), .val (.int (own_rep aa aa ca)), .val (.int (own_rep c4 aa ca))] [(.int (own_rep aa aa ca))]))
    refine own_st (fun _ k' => XS.iloadN X5.here hx rfl (hb hby at_100) rfl k') ?_
    show own_Go p.tables e below _ (T5.setTop (mkF m 101 #[.val (.int p1), .val (.int ((p1 &&& (2147483647 : Int32)) % (6 : Int32))), .val (.ref aa), .val (.int (0 : Int32)), .val (.int (own_rep aa aa ca)), .val (.int (own_rep c4 aa ca))] [(.int (0 : Int32)), (.int (own_rep aa aa ca))]))
    refine own_st (fun _ k' => XS.icmpNo X5.here hx rfl (hb hby at_101) rfl (teq (by simp [own_rep, ne_aa_ca, Ne.symm ne_aa_ca, Ne.symm ne_aa_ae, ne_ae_ca, Ne.symm ne_aa_ar, ne_ar_ca, Ne.symm ne_aa_ce, Ne.symm ne_ca_ce, Ne.symm ne_aa_cr, Ne.symm ne_ca_cr])).2 k') ?_
    show own_Go p.tables e below _ (T5.setTop (mkF m 104 #[.val (.int p1), .val (.int ((p1 &&& (2147483647 : Int32)) % (6 : Int32))), .val (.ref aa), .val (.int (0 : Int32)), .val (.int (own_rep aa aa ca)), .val (.int (own_rep c4 aa ca))] []))
    refine own_st (fun _ k' => XS.iload X5.here hx rfl (hb hby at_104) rfl k') ?_
    show own_Go p.tables e below _ (T5.setTop (mkF m 106 #[.val (.int p1), .val (.int ((p1 &&& (2147483647 : Int32)) % (6 : Int32))), .val (.ref aa), .val (.int (0 : Int32)), .val (.int (own_rep aa aa ca)), .val (.int (own_rep c4 aa ca))] [(.int (own_rep c4 aa ca))]))
    refine own_st (fun _ k' => XS.ifNo X5.here hx rfl (hb hby at_106) rfl ((if0 _ _).trans (feq (by rw [hcc]; exact own_rej_rep P')).1) k') ?_
    show own_Go p.tables e below _ (T5.setTop (mkF m 109 #[.val (.int p1), .val (.int ((p1 &&& (2147483647 : Int32)) % (6 : Int32))), .val (.ref aa), .val (.int (0 : Int32)), .val (.int (own_rep aa aa ca)), .val (.int (own_rep c4 aa ca))] []))
    refine own_st (fun _ k' => XS.iconst X5.here hx rfl (hb hby at_109) k') ?_
    show own_Go p.tables e below _ (T5.setTop (mkF m 110 #[.val (.int p1), .val (.int ((p1 &&& (2147483647 : Int32)) % (6 : Int32))), .val (.ref aa), .val (.int (0 : Int32)), .val (.int (own_rep aa aa ca)), .val (.int (own_rep c4 aa ca))] [(.int (1 : Int32))]))
    refine own_st (fun _ k' => XS.goto X5.here hx rfl (pc0 := 110) (pc' := 114) rfl (hb hby at_110) (by decide) (by decide) k') ?_
    show own_Go p.tables e below _ (T5.setTop (mkF m 114 #[.val (.int p1), .val (.int ((p1 &&& (2147483647 : Int32)) % (6 : Int32))), .val (.ref aa), .val (.int (0 : Int32)), .val (.int (own_rep aa aa ca)), .val (.int (own_rep c4 aa ca))] [(.int (1 : Int32))]))
    exact own_retN X5 hx (t := .boolean) Bd.returns (by simp) (hb hby at_114) Bd.notSynchronized ⟨rfl, N5⟩ (by decide) (by decide)
  ·  -- pc 9, not ((p1 &&& (2147483647 : Int32)) % (6 : Int32)) = (0 : Int32)
    refine own_st (fun _ k' => XS.ifYes X0.here hx rfl (pc0 := 9) (pc' := 21) rfl (hb hby at_9) rfl ((if0 _ _).trans (feq hc1).2) (by decide) (by decide) k') ?_
    show own_Go p.tables e below _ (s₁.setTop (mkF m 21 #[.val (.int p1), .val (.int ((p1 &&& (2147483647 : Int32)) % (6 : Int32))), .unset, .unset, .unset, .unset] []))
    refine own_st (fun _ k' => XS.iloadN X0.here hx rfl (hb hby at_21) rfl k') ?_
    show own_Go p.tables e below _ (s₁.setTop (mkF m 22 #[.val (.int p1), .val (.int ((p1 &&& (2147483647 : Int32)) % (6 : Int32))), .unset, .unset, .unset, .unset] [(.int ((p1 &&& (2147483647 : Int32)) % (6 : Int32)))]))
    refine own_st (fun _ k' => XS.iconst X0.here hx rfl (hb hby at_22) k') ?_
    show own_Go p.tables e below _ (s₁.setTop (mkF m 23 #[.val (.int p1), .val (.int ((p1 &&& (2147483647 : Int32)) % (6 : Int32))), .unset, .unset, .unset, .unset] [(.int (1 : Int32)), (.int ((p1 &&& (2147483647 : Int32)) % (6 : Int32)))]))
    by_cases hc6 : ((p1 &&& (2147483647 : Int32)) % (6 : Int32)) = (1 : Int32)
    ·  -- pc 23, ((p1 &&& (2147483647 : Int32)) % (6 : Int32)) = (1 : Int32)
      refine own_st (fun _ k' => XS.icmpNo X0.here hx rfl (hb hby at_23) rfl (teq hc6).2 k') ?_
      show own_Go p.tables e below _ (s₁.setTop (mkF m 26 #[.val (.int p1), .val (.int ((p1 &&& (2147483647 : Int32)) % (6 : Int32))), .unset, .unset, .unset, .unset] []))
      obtain ⟨T7, X7, e7, st7⟩ := getS2 X0 hx hZ hown (host := "") (Or.inl (hw _ (List.mem_of_getElem? (i := 30) rfl))) Via.refl e0 S_AE (g := (mkF m 26 #[.val (.int p1), .val (.int ((p1 &&& (2147483647 : Int32)) % (6 : Int32))), .unset, .unset, .unset, .unset] [])) rfl (hb hby at_26)
      refine own_st st7 ?_
      show own_Go p.tables e below _ (T7.setTop (mkF m 29 #[.val (.int p1), .val (.int ((p1 &&& (2147483647 : Int32)) % (6 : Int32))), .unset, .unset, .unset, .unset] [(.ref ae)]))
      refine own_st (fun _ k' => XS.astoreN X7.here hx rfl (hb hby at_29) rfl rfl (l' := #[.val (.int p1), .val (.int ((p1 &&& (2147483647 : Int32)) % (6 : Int32))), .val (.ref ae), .unset, .unset, .unset]) rfl k') ?_
      show own_Go p.tables e below _ (T7.setTop (mkF m 30 #[.val (.int p1), .val (.int ((p1 &&& (2147483647 : Int32)) % (6 : Int32))), .val (.ref ae), .unset, .unset, .unset] []))
      refine own_st (fun _ k' => XS.iconst X7.here hx rfl (hb hby at_30) k') ?_
      show own_Go p.tables e below _ (T7.setTop (mkF m 31 #[.val (.int p1), .val (.int ((p1 &&& (2147483647 : Int32)) % (6 : Int32))), .val (.ref ae), .unset, .unset, .unset] [(.int (1 : Int32))]))
      refine own_st (fun _ k' => XS.istoreN X7.here hx rfl (hb hby at_31) rfl (l' := #[.val (.int p1), .val (.int ((p1 &&& (2147483647 : Int32)) % (6 : Int32))), .val (.ref ae), .val (.int (1 : Int32)), .unset, .unset]) rfl k') ?_
      show own_Go p.tables e below _ (T7.setTop (mkF m 32 #[.val (.int p1), .val (.int ((p1 &&& (2147483647 : Int32)) % (6 : Int32))), .val (.ref ae), .val (.int (1 : Int32)), .unset, .unset] []))
      refine own_st (fun _ k' => XS.goto X7.here hx rfl (pc0 := 32) (pc' := 83) rfl (hb hby at_32) (by decide) (by decide) k') ?_
      show own_Go p.tables e below _ (T7.setTop (mkF m 83 #[.val (.int p1), .val (.int ((p1 &&& (2147483647 : Int32)) % (6 : Int32))), .val (.ref ae), .val (.int (1 : Int32)), .unset, .unset] []))
      refine own_st (fun _ k' => XS.aloadN X7.here hx rfl (hb hby at_83) rfl rfl k') ?_
      show own_Go p.tables e below _ (T7.setTop (mkF m 84 #[.val (.int p1), .val (.int ((p1 &&& (2147483647 : Int32)) % (6 : Int32))), .val (.ref ae), .val (.int (1 : Int32)), .unset, .unset] [(.ref ae)]))
      obtain ⟨cq8, kq8, q8a, q8b, q8c⟩ := isOf hZ e7 E_ae
      obtain ⟨_, _, ⟨T8, L8, k8, n8⟩, -, X8, ⟨Lc8, hQ8, l8, y8, z8⟩, st8⟩ := X7.virtualBack hx (y := (⟨"com/example/segmenta/segmenta/ack/AckCode", "reportsError", "()Z"⟩ : MethodName)) (z := (⟨"com/example/segmenta/segmenta/ack/AckCode", "reportsError", "()Z"⟩ : MethodName)) hown (mvT hZ (hw _ (List.mem_of_getElem? (i := 4) rfl))) (mvT hZ (hw _ (List.mem_of_getElem? (i := 5) rfl))) (notFace_of_selects (args := #[]) (mvT hZ (hw _ (List.mem_of_getElem? (i := 7) rfl)))) (mvT hZ (hw _ (List.mem_of_getElem? (i := 7) rfl))) (mvT hZ (hw _ (List.mem_of_getElem? (i := 6) rfl))) (by decide) (backOf (W := 0) (rmR l Z a0 hw [] ae aa ae ar ca ce cr h0 n0 Z0 P') hZ (hw _ (List.mem_of_getElem? (i := 8) rfl)) (hw _ (List.mem_of_getElem? (i := 2) rfl)) (by decide) (by decide)) q8a q8c (g := (mkF m 84 #[.val (.int p1), .val (.int ((p1 &&& (2147483647 : Int32)) % (6 : Int32))), .val (.ref ae), .val (.int (1 : Int32)), .unset, .unset] [(.ref ae)])) rfl (by rw [hml]; rfl) (Steps.refl _) (argsL := []) (rest := []) (lenOf pd___Z rfl) rfl (by show 2 * 0 + _ ≤ _; exact Nat.le_of_eq rfl) (hb hby at_84) (fun _ _ => ⟨rfl, e7, (by decide : 0 + 0 ≤ _), (by decide : 0 + 0 ≤ _)⟩)
      dsimp only [Pt.U, Pt.locs, Pt.cells, Pt.slots] at X8 l8 y8 z8 st8 hQ8
      subst l8 y8 z8
      obtain ⟨rfl, Nq8, e8⟩ := hQ8
      have N8 := Fr.app N0 Nq8
      refine own_tr st8 ?_
      show own_Go p.tables e below _ (T8.setTop (mkF m 87 #[.val (.int p1), .val (.int ((p1 &&& (2147483647 : Int32)) % (6 : Int32))), .val (.ref ae), .val (.int (1 : Int32)), .unset, .unset] [(.int (own_rep ae aa ca))]))
      refine own_st (fun _ k' => XS.istore X8.here hx rfl (hb hby at_87) rfl (l' := #[.val (.int p1), .val (.int ((p1 &&& (2147483647 : Int32)) % (6 : Int32))), .val (.ref ae), .val (.int (1 : Int32)), .val (.int (own_rep ae aa ca)), .unset]) rfl k') ?_
      show own_Go p.tables e below _ (T8.setTop (mkF m 89 #[.val (.int p1), .val (.int ((p1 &&& (2147483647 : Int32)) % (6 : Int32))), .val (.ref ae), .val (.int (1 : Int32)), .val (.int (own_rep ae aa ca)), .unset] []))
      refine own_st (fun _ k' => XS.aloadN X8.here hx rfl (hb hby at_89) rfl rfl k') ?_
      show own_Go p.tables e below _ (T8.setTop (mkF m 90 #[.val (.int p1), .val (.int ((p1 &&& (2147483647 : Int32)) % (6 : Int32))), .val (.ref ae), .val (.int (1 : Int32)), .val (.int (own_rep ae aa ca)), .unset] [(.ref ae)]))
      obtain ⟨cq9, kq9, q9a, q9b, q9c⟩ := isOf hZ e8 E_ae
      obtain ⟨_, _, ⟨T9, L9, k9, n9⟩, -, X9, ⟨Lc9, hQ9, l9, y9, z9⟩, st9⟩ := X8.virtualBack hx (y := (⟨"com/example/segmenta/segmenta/ack/AckCode", "reject", "()Lcom/example/segmenta/segmenta/ack/AckCode;"⟩ : MethodName)) (z := (⟨"com/example/segmenta/segmenta/ack/AckCode", "reject", "()Lcom/example/segmenta/segmenta/ack/AckCode;"⟩ : MethodName)) hown (mvT hZ (hw _ (List.mem_of_getElem? (i := 10) rfl))) (mvT hZ (hw _ (List.mem_of_getElem? (i := 11) rfl))) (notFace_of_selects (args := #[]) (mvT hZ (hw _ (List.mem_of_getElem? (i := 13) rfl)))) (mvT hZ (hw _ (List.mem_of_getElem? (i := 13) rfl))) (mvT hZ (hw _ (List.mem_of_getElem? (i := 12) rfl))) (by decide) (backOf (W := 0) (rmJ l Z a0 hw [] ae aa ae ar ca ce cr h0 n0 Z0 P' E_ae) hZ (hw _ (List.mem_of_getElem? (i := 14) rfl)) (hw _ (List.mem_of_getElem? (i := 2) rfl)) (by decide) (by decide)) q9a q9c (g := (mkF m 90 #[.val (.int p1), .val (.int ((p1 &&& (2147483647 : Int32)) % (6 : Int32))), .val (.ref ae), .val (.int (1 : Int32)), .val (.int (own_rep ae aa ca)), .unset] [(.ref ae)])) rfl (by rw [hml]; rfl) (Steps.refl _) (argsL := []) (rest := []) (lenOf pd___Lcom_example_segmenta_segmenta_ack_AckCode_ rfl) rfl (by show 2 * 0 + _ ≤ _; exact Nat.le_of_eq rfl) (hb hby at_90) (fun _ _ => ⟨rfl, e8, (by decide : 0 + 0 ≤ _), (by decide : 0 + 0 ≤ _)⟩)
      dsimp only [Pt.U, Pt.locs, Pt.cells, Pt.slots] at X9 l9 y9 z9 st9 hQ9
      subst l9 y9 z9
      obtain ⟨c9, rfl, hcc, Nq9, e9⟩ := hQ9
      have N9 := Fr.app N8 Nq9
      have E_c : Exa Z h0 c9 "com/example/segmenta/segmenta/ack/AckCode" := by rw [hcc]; exact own_rej_exa P'
      refine own_tr st9 ?_
      show own_Go p.tables e below _ (T9.setTop (mkF m 93 #[.val (.int p1), .val (.int ((p1 &&& (2147483647 : Int32)) % (6 : Int32))), .val (.ref ae), .val (.int (1 : Int32)), .val (.int (own_rep ae aa ca)), .unset] [(.ref c9)]))
      obtain ⟨cq10, kq10, q10a, q10b, q10c⟩ := isOf hZ e9 E_c
      obtain ⟨_, _, ⟨T10, L10, k10, n10⟩, -, X10, ⟨Lc10, hQ10, l10, y10, z10⟩, st10⟩ := X9.virtualBack hx (y := (⟨"com/example/segmenta/segmenta/ack/AckCode", "reportsError", "()Z"⟩ : MethodName)) (z := (⟨"com/example/segmenta/segmenta/ack/AckCode", "reportsError", "()Z"⟩ : MethodName)) hown (mvT hZ (hw _ (List.mem_of_getElem? (i := 4) rfl))) (mvT hZ (hw _ (List.mem_of_getElem? (i := 5) rfl))) (notFace_of_selects (args := #[]) (mvT hZ (hw _ (List.mem_of_getElem? (i := 7) rfl)))) (mvT hZ (hw _ (List.mem_of_getElem? (i := 7) rfl))) (mvT hZ (hw _ (List.mem_of_getElem? (i := 6) rfl))) (by decide) (backOf (W := 0) (rmR l Z a0 hw [] c9 aa ae ar ca ce cr h0 n0 Z0 P') hZ (hw _ (List.mem_of_getElem? (i := 8) rfl)) (hw _ (List.mem_of_getElem? (i := 2) rfl)) (by decide) (by decide)) q10a q10c (g := (mkF m 93 #[.val (.int p1), .val (.int ((p1 &&& (2147483647 : Int32)) % (6 : Int32))), .val (.ref ae), .val (.int (1 : Int32)), .val (.int (own_rep ae aa ca)), .unset] [(.ref c9)])) rfl (by rw [hml]; rfl) (Steps.refl _) (argsL := []) (rest := []) (lenOf pd___Z rfl) rfl (by show 2 * 0 + _ ≤ _; exact Nat.le_of_eq rfl) (hb hby at_93) (fun _ _ => ⟨rfl, e9, (by decide : 0 + 0 ≤ _), (by decide : 0 + 0 ≤ _)⟩)
      dsimp only [Pt.U, Pt.locs, Pt.cells, Pt.slots] at X10 l10 y10 z10 st10 hQ10
      subst l10 y10 z10
      obtain ⟨rfl, Nq10, e10⟩ := hQ10
      have N10 := Fr.app N9 Nq10
      refine own_tr st10 ?_
      show own_Go p.tables e below _ (T10.setTop (mkF m 96 #[.val (.int p1), .val (.int ((p1 &&& (2147483647 : Int32)) % (6 : Int32))), .val (.ref ae), .val (.int (1 : Int32)), .val (.int (own_rep ae aa ca)), .unset] [(.int (own_rep c9 aa ca))]))
      refine own_st (fun _ k' => XS.istore X10.here hx rfl (hb hby at_96) rfl (l' := #[.val (.int p1), .val (.int ((p1 &&& (2147483647 : Int32)) % (6 : Int32))), .val (.ref ae), .val (.int (1 : Int32)), .val (.int (own_rep ae aa ca)), .val (.int (own_rep c9 aa ca))]) rfl k') ?_
      show own_Go p.tables e below _ (T10.setTop (mkF m 98 #[.val (.int p1), .val (.int ((p1 &&& (2147483647 : Int32)) % (6 : Int32))), .val (.ref ae), .val (.int (1 : Int32)), .val (.int (own_rep ae aa ca)), .val (.int (own_rep c9 aa ca))] []))
      refine own_st (fun _ k' => XS.iload X10.here hx rfl (hb hby at_98) rfl k') ?_
      show own_Go p.tables e below _ (T10.setTop (mkF m 100 #[.val (.int p1), .val (.int ((p1 &&& (2147483647 : Int32)) % (6 : Int32))), .val (.ref ae), .val (.int (1 : Int32)), .val (.int (own_rep ae aa ca)), .val (.int (own_rep c9 aa ca))] [(.int (own_rep ae aa ca))]))
      refine own_st (fun _ k' => XS.iloadN X10.here hx rfl (hb hby at_100) rfl k') ?_
      show own_Go p.tables e below _ (T10.setTop (mkF m 101 #[.val (.int p1), .val (.int ((p1 &&& (2147483647 : Int32)) % (6 : Int32))), .val (.ref ae), .val (.int (1 : Int32)), .val (.int (own_rep ae aa ca)), .val (.int (own_rep c9 aa ca))] [(.int (1 : Int32)), (.int (own_rep ae aa ca))]))
      refine own_st (fun _ k' => XS.icmpNo X10.here hx rfl (hb hby at_101) rfl (teq (by simp [own_rep, ne_aa_ca, Ne.symm ne_aa_ca, Ne.symm ne_aa_ae, ne_ae_ca, Ne.symm ne_aa_ar, ne_ar_ca, Ne.symm ne_aa_ce, Ne.symm ne_ca_ce, Ne.symm ne_aa_cr, Ne.symm ne_ca_cr])).2 k') ?_
      show own_Go p.tables e below _ (T10.setTop (mkF m 104 #[.val (.int p1), .val (.int ((p1 &&& (2147483647 : Int32)) % (6 : Int32))), .val (.ref ae), .val (.int (1 : Int32)), .val (.int (own_rep ae aa ca)), .val (.int (own_rep c9 aa ca))] []))
      refine own_st (fun _ k' => XS.iload X10.here hx rfl (hb hby at_104) rfl k') ?_
      show own_Go p.tables e below _ (T10.setTop (mkF m 106 #[.val (.int p1), .val (.int ((p1 &&& (2147483647 : Int32)) % (6 : Int32))), .val (.ref ae), .val (.int (1 : Int32)), .val (.int (own_rep ae aa ca)), .val (.int (own_rep c9 aa ca))] [(.int (own_rep c9 aa ca))]))
      refine own_st (fun _ k' => XS.ifNo X10.here hx rfl (hb hby at_106) rfl ((if0 _ _).trans (feq (by rw [hcc]; exact own_rej_rep P')).1) k') ?_
      show own_Go p.tables e below _ (T10.setTop (mkF m 109 #[.val (.int p1), .val (.int ((p1 &&& (2147483647 : Int32)) % (6 : Int32))), .val (.ref ae), .val (.int (1 : Int32)), .val (.int (own_rep ae aa ca)), .val (.int (own_rep c9 aa ca))] []))
      refine own_st (fun _ k' => XS.iconst X10.here hx rfl (hb hby at_109) k') ?_
      show own_Go p.tables e below _ (T10.setTop (mkF m 110 #[.val (.int p1), .val (.int ((p1 &&& (2147483647 : Int32)) % (6 : Int32))), .val (.ref ae), .val (.int (1 : Int32)), .val (.int (own_rep ae aa ca)), .val (.int (own_rep c9 aa ca))] [(.int (1 : Int32))]))
      refine own_st (fun _ k' => XS.goto X10.here hx rfl (pc0 := 110) (pc' := 114) rfl (hb hby at_110) (by decide) (by decide) k') ?_
      show own_Go p.tables e below _ (T10.setTop (mkF m 114 #[.val (.int p1), .val (.int ((p1 &&& (2147483647 : Int32)) % (6 : Int32))), .val (.ref ae), .val (.int (1 : Int32)), .val (.int (own_rep ae aa ca)), .val (.int (own_rep c9 aa ca))] [(.int (1 : Int32))]))
      exact own_retN X10 hx (t := .boolean) Bd.returns (by simp) (hb hby at_114) Bd.notSynchronized ⟨rfl, N10⟩ (by decide) (by decide)
    ·  -- pc 23, not ((p1 &&& (2147483647 : Int32)) % (6 : Int32)) = (1 : Int32)
      refine own_st (fun _ k' => XS.icmpYes X0.here hx rfl (pc0 := 23) (pc' := 35) rfl (hb hby at_23) rfl (feq hc6).2 (by decide) (by decide) k') ?_
      show own_Go p.tables e below _ (s₁.setTop (mkF m 35 #[.val (.int p1), .val (.int ((p1 &&& (2147483647 : Int32)) % (6 : Int32))), .unset, .unset, .unset, .unset] []))
      refine own_st (fun _ k' => XS.iloadN X0.here hx rfl (hb hby at_35) rfl k') ?_
      show own_Go p.tables e below _ (s₁.setTop (mkF m 36 #[.val (.int p1), .val (.int ((p1 &&& (2147483647 : Int32)) % (6 : Int32))), .unset, .unset, .unset, .unset] [(.int ((p1 &&& (2147483647 : Int32)) % (6 : Int32)))]))
      refine own_st (fun _ k' => XS.iconst X0.here hx rfl (hb hby at_36) k') ?_
      show own_Go p.tables e below _ (s₁.setTop (mkF m 37 #[.val (.int p1), .val (.int ((p1 &&& (2147483647 : Int32)) % (6 : Int32))), .unset, .unset, .unset, .unset] [(.int (2 : Int32)), (.int ((p1 &&& (2147483647 : Int32)) % (6 : Int32)))]))
      by_cases hc11 : ((p1 &&& (2147483647 : Int32)) % (6 : Int32)) = (2 : Int32)
      ·  -- pc 37, ((p1 &&& (2147483647 : Int32)) % (6 : Int32)) = (2 : Int32)
        refine own_st (fun _ k' => XS.icmpNo X0.here hx rfl (hb hby at_37) rfl (teq hc11).2 k') ?_
        show own_Go p.tables e below _ (s₁.setTop (mkF m 40 #[.val (.int p1), .val (.int ((p1 &&& (2147483647 : Int32)) % (6 : Int32))), .unset, .unset, .unset, .unset] []))
        obtain ⟨T12, X12, e12, st12⟩ := getS2 X0 hx hZ hown (host := "") (Or.inl (hw _ (List.mem_of_getElem? (i := 29) rfl))) Via.refl e0 S_AR (g := (mkF m 40 #[.val (.int p1), .val (.int ((p1 &&& (2147483647 : Int32)) % (6 : Int32))), .unset, .unset, .unset, .unset] [])) rfl (hb hby at_40)
        refine own_st st12 ?_
        show own_Go p.tables e below _ (T12.setTop (mkF m 43 #[.val (.int p1), .val (.int ((p1 &&& (2147483647 : Int32)) % (6 : Int32))), .unset, .unset, .unset, .unset] [(.ref ar)]))
        refine own_st (fun _ k' => XS.astoreN X12.here hx rfl (hb hby at_43) rfl rfl (l' := #[.val (.int p1), .val (.int ((p1 &&& (2147483647 : Int32)) % (6 : Int32))), .val (.ref ar), .unset, .unset, .unset]) rfl k') ?_
        show own_Go p.tables e below _ (T12.setTop (mkF m 44 #[.val (.int p1), .val (.int ((p1 &&& (2147483647 : Int32)) % (6 : Int32))), .val (.ref ar), .unset, .unset, .unset] []))
        refine own_st (fun _ k' => XS.iconst X12.here hx rfl (hb hby at_44) k') ?_
        show own_Go p.tables e below _ (T12.setTop (mkF m 45 #[.val (.int p1), .val (.int ((p1 &&& (2147483647 : Int32)) % (6 : Int32))), .val (.ref ar), .unset, .unset, .unset] [(.int (1 : Int32))]))
        refine own_st (fun _ k' => XS.istoreN X12.here hx rfl (hb hby at_45) rfl (l' := #[.val (.int p1), .val (.int ((p1 &&& (2147483647 : Int32)) % (6 : Int32))), .val (.ref ar), .val (.int (1 : Int32)), .unset, .unset]) rfl k') ?_
        show own_Go p.tables e below _ (T12.setTop (mkF m 46 #[.val (.int p1), .val (.int ((p1 &&& (2147483647 : Int32)) % (6 : Int32))), .val (.ref ar), .val (.int (1 : Int32)), .unset, .unset] []))
        refine own_st (fun _ k' => XS.goto X12.here hx rfl (pc0 := 46) (pc' := 83) rfl (hb hby at_46) (by decide) (by decide) k') ?_
        show own_Go p.tables e below _ (T12.setTop (mkF m 83 #[.val (.int p1), .val (.int ((p1 &&& (2147483647 : Int32)) % (6 : Int32))), .val (.ref ar), .val (.int (1 : Int32)), .unset, .unset] []))
        refine own_st (fun _ k' => XS.aloadN X12.here hx rfl (hb hby at_83) rfl rfl k') ?_
        show own_Go p.tables e below _ (T12.setTop (mkF m 84 #[.val (.int p1), .val (.int ((p1 &&& (2147483647 : Int32)) % (6 : Int32))), .val (.ref ar), .val (.int (1 : Int32)), .unset, .unset] [(.ref ar)]))
        obtain ⟨cq13, kq13, q13a, q13b, q13c⟩ := isOf hZ e12 E_ar
        obtain ⟨_, _, ⟨T13, L13, k13, n13⟩, -, X13, ⟨Lc13, hQ13, l13, y13, z13⟩, st13⟩ := X12.virtualBack hx (y := (⟨"com/example/segmenta/segmenta/ack/AckCode", "reportsError", "()Z"⟩ : MethodName)) (z := (⟨"com/example/segmenta/segmenta/ack/AckCode", "reportsError", "()Z"⟩ : MethodName)) hown (mvT hZ (hw _ (List.mem_of_getElem? (i := 4) rfl))) (mvT hZ (hw _ (List.mem_of_getElem? (i := 5) rfl))) (notFace_of_selects (args := #[]) (mvT hZ (hw _ (List.mem_of_getElem? (i := 7) rfl)))) (mvT hZ (hw _ (List.mem_of_getElem? (i := 7) rfl))) (mvT hZ (hw _ (List.mem_of_getElem? (i := 6) rfl))) (by decide) (backOf (W := 0) (rmR l Z a0 hw [] ar aa ae ar ca ce cr h0 n0 Z0 P') hZ (hw _ (List.mem_of_getElem? (i := 8) rfl)) (hw _ (List.mem_of_getElem? (i := 2) rfl)) (by decide) (by decide)) q13a q13c (g := (mkF m 84 #[.val (.int p1), .val (.int ((p1 &&& (2147483647 : Int32)) % (6 : Int32))), .val (.ref ar), .val (.int (1 : Int32)), .unset, .unset] [(.ref ar)])) rfl (by rw [hml]; rfl) (Steps.refl _) (argsL := []) (rest := []) (lenOf pd___Z rfl) rfl (by show 2 * 0 + _ ≤ _; exact Nat.le_of_eq rfl) (hb hby at_84) (fun _ _ => ⟨rfl, e12, (by decide : 0 + 0 ≤ _), (by decide : 0 + 0 ≤ _)⟩)
        dsimp only [Pt.U, Pt.locs, Pt.cells, Pt.slots] at X13 l13 y13 z13 st13 hQ13
        subst l13 y13 z13
        obtain ⟨rfl, Nq13, e13⟩ := hQ13
        have N13 := Fr.app N0 Nq13
        refine own_tr st13 ?_
        show own_Go p.tables e below _ (T13.setTop (mkF m 87 #[.val (.int p1), .val (.int ((p1 &&& (2147483647 : Int32)) % (6 : Int32))), .val (.ref ar), .val (.int (1 : Int32)), .unset, .unset] [(.int (own_rep ar aa ca))]))
        refine own_st (fun _ k' => XS.istore X13.here hx rfl (hb hby at_87) rfl (l' := #[.val (.int p1), .val (.int ((p1 &&& (2147483647 : Int32)) % (6 : Int32))), .val (.ref ar), .val (.int (1 : Int32)), .val (.int (own_rep ar aa ca)), .unset]) rfl k') ?_
        show own_Go p.tables e below _ (T13.setTop (mkF m 89 #[.val (.int p1), .val (.int ((p1 &&& (2147483647 : Int32)) % (6 : Int32))), .val (.ref ar), .val (.int (1 : Int32)), .val (.int (own_rep ar aa ca)), .unset] []))
        refine own_st (fun _ k' => XS.aloadN X13.here hx rfl (hb hby at_89) rfl rfl k') ?_
        show own_Go p.tables e below _ (T13.setTop (mkF m 90 #[.val (.int p1), .val (.int ((p1 &&& (2147483647 : Int32)) % (6 : Int32))), .val (.ref ar), .val (.int (1 : Int32)), .val (.int (own_rep ar aa ca)), .unset] [(.ref ar)]))
        obtain ⟨cq14, kq14, q14a, q14b, q14c⟩ := isOf hZ e13 E_ar
        obtain ⟨_, _, ⟨T14, L14, k14, n14⟩, -, X14, ⟨Lc14, hQ14, l14, y14, z14⟩, st14⟩ := X13.virtualBack hx (y := (⟨"com/example/segmenta/segmenta/ack/AckCode", "reject", "()Lcom/example/segmenta/segmenta/ack/AckCode;"⟩ : MethodName)) (z := (⟨"com/example/segmenta/segmenta/ack/AckCode", "reject", "()Lcom/example/segmenta/segmenta/ack/AckCode;"⟩ : MethodName)) hown (mvT hZ (hw _ (List.mem_of_getElem? (i := 10) rfl))) (mvT hZ (hw _ (List.mem_of_getElem? (i := 11) rfl))) (notFace_of_selects (args := #[]) (mvT hZ (hw _ (List.mem_of_getElem? (i := 13) rfl)))) (mvT hZ (hw _ (List.mem_of_getElem? (i := 13) rfl))) (mvT hZ (hw _ (List.mem_of_getElem? (i := 12) rfl))) (by decide) (backOf (W := 0) (rmJ l Z a0 hw [] ar aa ae ar ca ce cr h0 n0 Z0 P' E_ar) hZ (hw _ (List.mem_of_getElem? (i := 14) rfl)) (hw _ (List.mem_of_getElem? (i := 2) rfl)) (by decide) (by decide)) q14a q14c (g := (mkF m 90 #[.val (.int p1), .val (.int ((p1 &&& (2147483647 : Int32)) % (6 : Int32))), .val (.ref ar), .val (.int (1 : Int32)), .val (.int (own_rep ar aa ca)), .unset] [(.ref ar)])) rfl (by rw [hml]; rfl) (Steps.refl _) (argsL := []) (rest := []) (lenOf pd___Lcom_example_segmenta_segmenta_ack_AckCode_ rfl) rfl (by show 2 * 0 + _ ≤ _; exact Nat.le_of_eq rfl) (hb hby at_90) (fun _ _ => ⟨rfl, e13, (by decide : 0 + 0 ≤ _), (by decide : 0 + 0 ≤ _)⟩)
        dsimp only [Pt.U, Pt.locs, Pt.cells, Pt.slots] at X14 l14 y14 z14 st14 hQ14
        subst l14 y14 z14
        obtain ⟨c14, rfl, hcc, Nq14, e14⟩ := hQ14
        have N14 := Fr.app N13 Nq14
        have E_c : Exa Z h0 c14 "com/example/segmenta/segmenta/ack/AckCode" := by rw [hcc]; exact own_rej_exa P'
        refine own_tr st14 ?_
        show own_Go p.tables e below _ (T14.setTop (mkF m 93 #[.val (.int p1), .val (.int ((p1 &&& (2147483647 : Int32)) % (6 : Int32))), .val (.ref ar), .val (.int (1 : Int32)), .val (.int (own_rep ar aa ca)), .unset] [(.ref c14)]))
        obtain ⟨cq15, kq15, q15a, q15b, q15c⟩ := isOf hZ e14 E_c
        obtain ⟨_, _, ⟨T15, L15, k15, n15⟩, -, X15, ⟨Lc15, hQ15, l15, y15, z15⟩, st15⟩ := X14.virtualBack hx (y := (⟨"com/example/segmenta/segmenta/ack/AckCode", "reportsError", "()Z"⟩ : MethodName)) (z := (⟨"com/example/segmenta/segmenta/ack/AckCode", "reportsError", "()Z"⟩ : MethodName)) hown (mvT hZ (hw _ (List.mem_of_getElem? (i := 4) rfl))) (mvT hZ (hw _ (List.mem_of_getElem? (i := 5) rfl))) (notFace_of_selects (args := #[]) (mvT hZ (hw _ (List.mem_of_getElem? (i := 7) rfl)))) (mvT hZ (hw _ (List.mem_of_getElem? (i := 7) rfl))) (mvT hZ (hw _ (List.mem_of_getElem? (i := 6) rfl))) (by decide) (backOf (W := 0) (rmR l Z a0 hw [] c14 aa ae ar ca ce cr h0 n0 Z0 P') hZ (hw _ (List.mem_of_getElem? (i := 8) rfl)) (hw _ (List.mem_of_getElem? (i := 2) rfl)) (by decide) (by decide)) q15a q15c (g := (mkF m 93 #[.val (.int p1), .val (.int ((p1 &&& (2147483647 : Int32)) % (6 : Int32))), .val (.ref ar), .val (.int (1 : Int32)), .val (.int (own_rep ar aa ca)), .unset] [(.ref c14)])) rfl (by rw [hml]; rfl) (Steps.refl _) (argsL := []) (rest := []) (lenOf pd___Z rfl) rfl (by show 2 * 0 + _ ≤ _; exact Nat.le_of_eq rfl) (hb hby at_93) (fun _ _ => ⟨rfl, e14, (by decide : 0 + 0 ≤ _), (by decide : 0 + 0 ≤ _)⟩)
        dsimp only [Pt.U, Pt.locs, Pt.cells, Pt.slots] at X15 l15 y15 z15 st15 hQ15
        subst l15 y15 z15
        obtain ⟨rfl, Nq15, e15⟩ := hQ15
        have N15 := Fr.app N14 Nq15
        refine own_tr st15 ?_
        show own_Go p.tables e below _ (T15.setTop (mkF m 96 #[.val (.int p1), .val (.int ((p1 &&& (2147483647 : Int32)) % (6 : Int32))), .val (.ref ar), .val (.int (1 : Int32)), .val (.int (own_rep ar aa ca)), .unset] [(.int (own_rep c14 aa ca))]))
        refine own_st (fun _ k' => XS.istore X15.here hx rfl (hb hby at_96) rfl (l' := #[.val (.int p1), .val (.int ((p1 &&& (2147483647 : Int32)) % (6 : Int32))), .val (.ref ar), .val (.int (1 : Int32)), .val (.int (own_rep ar aa ca)), .val (.int (own_rep c14 aa ca))]) rfl k') ?_
        show own_Go p.tables e below _ (T15.setTop (mkF m 98 #[.val (.int p1), .val (.int ((p1 &&& (2147483647 : Int32)) % (6 : Int32))), .val (.ref ar), .val (.int (1 : Int32)), .val (.int (own_rep ar aa ca)), .val (.int (own_rep c14 aa ca))] []))
        refine own_st (fun _ k' => XS.iload X15.here hx rfl (hb hby at_98) rfl k') ?_
        show own_Go p.tables e below _ (T15.setTop (mkF m 100 #[.val (.int p1), .val (.int ((p1 &&& (2147483647 : Int32)) % (6 : Int32))), .val (.ref ar), .val (.int (1 : Int32)), .val (.int (own_rep ar aa ca)), .val (.int (own_rep c14 aa ca))] [(.int (own_rep ar aa ca))]))
        refine own_st (fun _ k' => XS.iloadN X15.here hx rfl (hb hby at_100) rfl k') ?_
        show own_Go p.tables e below _ (T15.setTop (mkF m 101 #[.val (.int p1), .val (.int ((p1 &&& (2147483647 : Int32)) % (6 : Int32))), .val (.ref ar), .val (.int (1 : Int32)), .val (.int (own_rep ar aa ca)), .val (.int (own_rep c14 aa ca))] [(.int (1 : Int32)), (.int (own_rep ar aa ca))]))
        refine own_st (fun _ k' => XS.icmpNo X15.here hx rfl (hb hby at_101) rfl (teq (by simp [own_rep, ne_aa_ca, Ne.symm ne_aa_ca, Ne.symm ne_aa_ae, ne_ae_ca, Ne.symm ne_aa_ar, ne_ar_ca, Ne.symm ne_aa_ce, Ne.symm ne_ca_ce, Ne.symm ne_aa_cr, Ne.symm ne_ca_cr])).2 k') ?_
        show own_Go p.tables e below _ (T15.setTop (mkF m 104 #[.val (.int p1), .val (.int ((p1 &&& (2147483647 : Int32)) % (6 : Int32))), .val (.ref ar), .val (.int (1 : Int32)), .val (.int (own_rep ar aa ca)), .val (.int (own_rep c14 aa ca))] []))
        refine own_st (fun _ k' => XS.iload X15.here hx rfl (hb hby at_104) rfl k') ?_
        show own_Go p.tables e below _ (T15.setTop (mkF m 106 #[.val (.int p1), .val (.int ((p1 &&& (2147483647 : Int32)) % (6 : Int32))), .val (.ref ar), .val (.int (1 : Int32)), .val (.int (own_rep ar aa ca)), .val (.int (own_rep c14 aa ca))] [(.int (own_rep c14 aa ca))]))
        refine own_st (fun _ k' => XS.ifNo X15.here hx rfl (hb hby at_106) rfl ((if0 _ _).trans (feq (by rw [hcc]; exact own_rej_rep P')).1) k') ?_
        show own_Go p.tables e below _ (T15.setTop (mkF m 109 #[.val (.int p1), .val (.int ((p1 &&& (2147483647 : Int32)) % (6 : Int32))), .val (.ref ar), .val (.int (1 : Int32)), .val (.int (own_rep ar aa ca)), .val (.int (own_rep c14 aa ca))] []))
        refine own_st (fun _ k' => XS.iconst X15.here hx rfl (hb hby at_109) k') ?_
        show own_Go p.tables e below _ (T15.setTop (mkF m 110 #[.val (.int p1), .val (.int ((p1 &&& (2147483647 : Int32)) % (6 : Int32))), .val (.ref ar), .val (.int (1 : Int32)), .val (.int (own_rep ar aa ca)), .val (.int (own_rep c14 aa ca))] [(.int (1 : Int32))]))
        refine own_st (fun _ k' => XS.goto X15.here hx rfl (pc0 := 110) (pc' := 114) rfl (hb hby at_110) (by decide) (by decide) k') ?_
        show own_Go p.tables e below _ (T15.setTop (mkF m 114 #[.val (.int p1), .val (.int ((p1 &&& (2147483647 : Int32)) % (6 : Int32))), .val (.ref ar), .val (.int (1 : Int32)), .val (.int (own_rep ar aa ca)), .val (.int (own_rep c14 aa ca))] [(.int (1 : Int32))]))
        exact own_retN X15 hx (t := .boolean) Bd.returns (by simp) (hb hby at_114) Bd.notSynchronized ⟨rfl, N15⟩ (by decide) (by decide)
      ·  -- pc 37, not ((p1 &&& (2147483647 : Int32)) % (6 : Int32)) = (2 : Int32)
        refine own_st (fun _ k' => XS.icmpYes X0.here hx rfl (pc0 := 37) (pc' := 49) rfl (hb hby at_37) rfl (feq hc11).2 (by decide) (by decide) k') ?_
        show own_Go p.tables e below _ (s₁.setTop (mkF m 49 #[.val (.int p1), .val (.int ((p1 &&& (2147483647 : Int32)) % (6 : Int32))), .unset, .unset, .unset, .unset] []))
        refine own_st (fun _ k' => XS.iloadN X0.here hx rfl (hb hby at_49) rfl k') ?_
        show own_Go p.tables e below _ (s₁.setTop (mkF m 50 #[.val (.int p1), .val (.int ((p1 &&& (2147483647 : Int32)) % (6 : Int32))), .unset, .unset, .unset, .unset] [(.int ((p1 &&& (2147483647 : Int32)) % (6 : Int32)))]))
        refine own_st (fun _ k' => XS.iconst X0.here hx rfl (hb hby at_50) k') ?_
        show own_Go p.tables e below _ (s₁.setTop (mkF m 51 #[.val (.int p1), .val (.int ((p1 &&& (2147483647 : Int32)) % (6 : Int32))), .unset, .unset, .unset, .unset] [(.int (3 : Int32)), (.int ((p1 &&& (2147483647 : Int32)) % (6 : Int32)))]))
        by_cases hc16 : ((p1 &&& (2147483647 : Int32)) % (6 : Int32)) = (3 : Int32)
        ·  -- pc 51, ((p1 &&& (2147483647 : Int32)) % (6 : Int32)) = (3 : Int32)
          refine own_st (fun _ k' => XS.icmpNo X0.here hx rfl (hb hby at_51) rfl (teq hc16).2 k') ?_
          show own_Go p.tables e below _ (s₁.setTop (mkF m 54 #[.val (.int p1), .val (.int ((p1 &&& (2147483647 : Int32)) % (6 : Int32))), .unset, .unset, .unset, .unset] []))
          obtain ⟨T17, X17, e17, st17⟩ := getS2 X0 hx hZ hown (host := "") (Or.inl (hw _ (List.mem_of_getElem? (i := 28) rfl))) Via.refl e0 S_CA (g := (mkF m 54 #[.val (.int p1), .val (.int ((p1 &&& (2147483647 : Int32)) % (6 : Int32))), .unset, .unset, .unset, .unset] [])) rfl (hb hby at_54)
          refine own_st st17 ?_
          show own_Go p.tables e below _ (T17.setTop (mkF m 57 #[.val (.int p1), .val (.int ((p1 &&& (2147483647 : Int32)) % (6 : Int32))), .unset, .unset, .unset, .unset] [(.ref ca)]))
          refine own_st (fun _ k' => XS.astoreN X17.here hx rfl (hb hby at_57) rfl rfl (l' := #[.val (.int p1), .val (.int ((p1 &&& (2147483647 : Int32)) % (6 : Int32))), .val (.ref ca), .unset, .unset, .unset]) rfl k') ?_
          show own_Go p.tables e below _ (T17.setTop (mkF m 58 #[.val (.int p1), .val (.int ((p1 &&& (2147483647 : Int32)) % (6 : Int32))), .val (.ref ca), .unset, .unset, .unset] []))
          refine own_st (fun _ k' => XS.iconst X17.here hx rfl (hb hby at_58) k') ?_
          show own_Go p.tables e below _ (T17.setTop (mkF m 59 #[.val (.int p1), .val (.int ((p1 &&& (2147483647 : Int32)) % (6 : Int32))), .val (.ref ca), .unset, .unset, .unset] [(.int (0 : Int32))]))
          refine own_st (fun _ k' => XS.istoreN X17.here hx rfl (hb hby at_59) rfl (l' := #[.val (.int p1), .val (.int ((p1 &&& (2147483647 : Int32)) % (6 : Int32))), .val (.ref ca), .val (.int (0 : Int32)), .unset, .unset]) rfl k') ?_
          show own_Go p.tables e below _ (T17.setTop (mkF m 60 #[.val (.int p1), .val (.int ((p1 &&& (2147483647 : Int32)) % (6 : Int32))), .val (.ref ca), .val (.int (0 : Int32)), .unset, .unset] []))
          refine own_st (fun _ k' => XS.goto X17.here hx rfl (pc0 := 60) (pc' := 83) rfl (hb hby at_60) (by decide) (by decide) k') ?_
          show own_Go p.tables e below _ (T17.setTop (mkF m 83 #[.val (.int p1), .val (.int ((p1 &&& (2147483647 : Int32)) % (6 : Int32))), .val (.ref ca), .val (.int (0 : Int32)), .unset, .unset] []))
          refine own_st (fun _ k' => XS.aloadN X17.here hx rfl (hb hby at_83) rfl rfl k') ?_
          show own_Go p.tables e below _ (T17.setTop (mkF m 84 #[.val (.int p1), .val (.int ((p1 &&& (2147483647 : Int32)) % (6 : Int32))), .val (.ref ca), .val (.int (0 : Int32)), .unset, .unset] [(.ref ca)]))
          obtain ⟨cq18, kq18, q18a, q18b, q18c⟩ := isOf hZ e17 E_ca
          obtain ⟨_, _, ⟨T18, L18, k18, n18⟩, -, X18, ⟨Lc18, hQ18, l18, y18, z18⟩, st18⟩ := X17.virtualBack hx (y := (⟨"com/example/segmenta/segmenta/ack/AckCode", "reportsError", "()Z"⟩ : MethodName)) (z := (⟨"com/example/segmenta/segmenta/ack/AckCode", "reportsError", "()Z"⟩ : MethodName)) hown (mvT hZ (hw _ (List.mem_of_getElem? (i := 4) rfl))) (mvT hZ (hw _ (List.mem_of_getElem? (i := 5) rfl))) (notFace_of_selects (args := #[]) (mvT hZ (hw _ (List.mem_of_getElem? (i := 7) rfl)))) (mvT hZ (hw _ (List.mem_of_getElem? (i := 7) rfl))) (mvT hZ (hw _ (List.mem_of_getElem? (i := 6) rfl))) (by decide) (backOf (W := 0) (rmR l Z a0 hw [] ca aa ae ar ca ce cr h0 n0 Z0 P') hZ (hw _ (List.mem_of_getElem? (i := 8) rfl)) (hw _ (List.mem_of_getElem? (i := 2) rfl)) (by decide) (by decide)) q18a q18c (g := (mkF m 84 #[.val (.int p1), .val (.int ((p1 &&& (2147483647 : Int32)) % (6 : Int32))), .val (.ref ca), .val (.int (0 : Int32)), .unset, .unset] [(.ref ca)])) rfl (by rw [hml]; rfl) (Steps.refl _) (argsL := []) (rest := []) (lenOf pd___Z rfl) rfl (by show 2 * 0 + _ ≤ _; exact Nat.le_of_eq rfl) (hb hby at_84) (fun _ _ => ⟨rfl, e17, (by decide : 0 + 0 ≤ _), (by decide : 0 + 0 ≤ _)⟩)
          dsimp only [Pt.U, Pt.locs, Pt.cells, Pt.slots] at X18 l18 y18 z18 st18 hQ18
          subst l18 y18 z18
          obtain ⟨rfl, Nq18, e18⟩ := hQ18
          have N18 := Fr.app N0 Nq18
          refine own_tr st18 ?_
          show own_Go p.tables e below _ (T18.setTop (mkF m 87 #[.val (.int p1), .val (.int ((p1 &&& (2147483647 : Int32)) % (6 : Int32))), .val (.ref ca), .val (.int (0 : Int32)), .unset, .unset] [(.int (own_rep ca aa ca))]))
          refine own_st (fun _ k' => XS.istore X18.here hx rfl (hb hby at_87) rfl (l' := #[.val (.int p1), .val (.int ((p1 &&& (2147483647 : Int32)) % (6 : Int32))), .val (.ref ca), .val (.int (0 : Int32)), .val (.int (own_rep ca aa ca)), .unset]) rfl k') ?_
          show own_Go p.tables e below _ (T18.setTop (mkF m 89 #[.val (.int p1), .val (.int ((p1 &&& (2147483647 : Int32)) % (6 : Int32))), .val (.ref ca), .val (.int (0 : Int32)), .val (.int (own_rep ca aa ca)), .unset] []))
          refine own_st (fun _ k' => XS.aloadN X18.here hx rfl (hb hby at_89) rfl rfl k') ?_
          show own_Go p.tables e below _ (T18.setTop (mkF m 90 #[.val (.int p1), .val (.int ((p1 &&& (2147483647 : Int32)) % (6 : Int32))), .val (.ref ca), .val (.int (0 : Int32)), .val (.int (own_rep ca aa ca)), .unset] [(.ref ca)]))
          obtain ⟨cq19, kq19, q19a, q19b, q19c⟩ := isOf hZ e18 E_ca
          obtain ⟨_, _, ⟨T19, L19, k19, n19⟩, -, X19, ⟨Lc19, hQ19, l19, y19, z19⟩, st19⟩ := X18.virtualBack hx (y := (⟨"com/example/segmenta/segmenta/ack/AckCode", "reject", "()Lcom/example/segmenta/segmenta/ack/AckCode;"⟩ : MethodName)) (z := (⟨"com/example/segmenta/segmenta/ack/AckCode", "reject", "()Lcom/example/segmenta/segmenta/ack/AckCode;"⟩ : MethodName)) hown (mvT hZ (hw _ (List.mem_of_getElem? (i := 10) rfl))) (mvT hZ (hw _ (List.mem_of_getElem? (i := 11) rfl))) (notFace_of_selects (args := #[]) (mvT hZ (hw _ (List.mem_of_getElem? (i := 13) rfl)))) (mvT hZ (hw _ (List.mem_of_getElem? (i := 13) rfl))) (mvT hZ (hw _ (List.mem_of_getElem? (i := 12) rfl))) (by decide) (backOf (W := 0) (rmJ l Z a0 hw [] ca aa ae ar ca ce cr h0 n0 Z0 P' E_ca) hZ (hw _ (List.mem_of_getElem? (i := 14) rfl)) (hw _ (List.mem_of_getElem? (i := 2) rfl)) (by decide) (by decide)) q19a q19c (g := (mkF m 90 #[.val (.int p1), .val (.int ((p1 &&& (2147483647 : Int32)) % (6 : Int32))), .val (.ref ca), .val (.int (0 : Int32)), .val (.int (own_rep ca aa ca)), .unset] [(.ref ca)])) rfl (by rw [hml]; rfl) (Steps.refl _) (argsL := []) (rest := []) (lenOf pd___Lcom_example_segmenta_segmenta_ack_AckCode_ rfl) rfl (by show 2 * 0 + _ ≤ _; exact Nat.le_of_eq rfl) (hb hby at_90) (fun _ _ => ⟨rfl, e18, (by decide : 0 + 0 ≤ _), (by decide : 0 + 0 ≤ _)⟩)
          dsimp only [Pt.U, Pt.locs, Pt.cells, Pt.slots] at X19 l19 y19 z19 st19 hQ19
          subst l19 y19 z19
          obtain ⟨c19, rfl, hcc, Nq19, e19⟩ := hQ19
          have N19 := Fr.app N18 Nq19
          have E_c : Exa Z h0 c19 "com/example/segmenta/segmenta/ack/AckCode" := by rw [hcc]; exact own_rej_exa P'
          refine own_tr st19 ?_
          show own_Go p.tables e below _ (T19.setTop (mkF m 93 #[.val (.int p1), .val (.int ((p1 &&& (2147483647 : Int32)) % (6 : Int32))), .val (.ref ca), .val (.int (0 : Int32)), .val (.int (own_rep ca aa ca)), .unset] [(.ref c19)]))
          obtain ⟨cq20, kq20, q20a, q20b, q20c⟩ := isOf hZ e19 E_c
          obtain ⟨_, _, ⟨T20, L20, k20, n20⟩, -, X20, ⟨Lc20, hQ20, l20, y20, z20⟩, st20⟩ := X19.virtualBack hx (y := (⟨"com/example/segmenta/segmenta/ack/AckCode", "reportsError", "()Z"⟩ : MethodName)) (z := (⟨"com/example/segmenta/segmenta/ack/AckCode", "reportsError", "()Z"⟩ : MethodName)) hown (mvT hZ (hw _ (List.mem_of_getElem? (i := 4) rfl))) (mvT hZ (hw _ (List.mem_of_getElem? (i := 5) rfl))) (notFace_of_selects (args := #[]) (mvT hZ (hw _ (List.mem_of_getElem? (i := 7) rfl)))) (mvT hZ (hw _ (List.mem_of_getElem? (i := 7) rfl))) (mvT hZ (hw _ (List.mem_of_getElem? (i := 6) rfl))) (by decide) (backOf (W := 0) (rmR l Z a0 hw [] c19 aa ae ar ca ce cr h0 n0 Z0 P') hZ (hw _ (List.mem_of_getElem? (i := 8) rfl)) (hw _ (List.mem_of_getElem? (i := 2) rfl)) (by decide) (by decide)) q20a q20c (g := (mkF m 93 #[.val (.int p1), .val (.int ((p1 &&& (2147483647 : Int32)) % (6 : Int32))), .val (.ref ca), .val (.int (0 : Int32)), .val (.int (own_rep ca aa ca)), .unset] [(.ref c19)])) rfl (by rw [hml]; rfl) (Steps.refl _) (argsL := []) (rest := []) (lenOf pd___Z rfl) rfl (by show 2 * 0 + _ ≤ _; exact Nat.le_of_eq rfl) (hb hby at_93) (fun _ _ => ⟨rfl, e19, (by decide : 0 + 0 ≤ _), (by decide : 0 + 0 ≤ _)⟩)
          dsimp only [Pt.U, Pt.locs, Pt.cells, Pt.slots] at X20 l20 y20 z20 st20 hQ20
          subst l20 y20 z20
          obtain ⟨rfl, Nq20, e20⟩ := hQ20
          have N20 := Fr.app N19 Nq20
          refine own_tr st20 ?_
          show own_Go p.tables e below _ (T20.setTop (mkF m 96 #[.val (.int p1), .val (.int ((p1 &&& (2147483647 : Int32)) % (6 : Int32))), .val (.ref ca), .val (.int (0 : Int32)), .val (.int (own_rep ca aa ca)), .unset] [(.int (own_rep c19 aa ca))]))
          refine own_st (fun _ k' => XS.istore X20.here hx rfl (hb hby at_96) rfl (l' := #[.val (.int p1), .val (.int ((p1 &&& (2147483647 : Int32)) % (6 : Int32))), .val (.ref ca), .val (.int (0 : Int32)), .val (.int (own_rep ca aa ca)), .val (.int (own_rep c19 aa ca))]) rfl k') ?_
          show own_Go p.tables e below _ (T20.setTop (mkF m 98 #[.val (.int p1), .val (.int ((p1 &&& (2147483647 : Int32)) % (6 : Int32))), .val (.ref ca), .val (.int (0 : Int32)), .val (.int (own_rep ca aa ca)), .val (.int (own_rep c19 aa ca))] []))
          refine own_st (fun _ k' => XS.iload X20.here hx rfl (hb hby at_98) rfl k') ?_
          show own_Go p.tables e below _ (T20.setTop (mkF m 100 #[.val (.int p1), .val (.int ((p1 &&& (2147483647 : Int32)) % (6 : Int32))), .val (.ref ca), .val (.int (0 : Int32)), .val (.int (own_rep ca aa ca)), .val (.int (own_rep c19 aa ca))] [(.int (own_rep ca aa ca))]))
          refine own_st (fun _ k' => XS.iloadN X20.here hx rfl (hb hby at_100) rfl k') ?_
          show own_Go p.tables e below _ (T20.setTop (mkF m 101 #[.val (.int p1), .val (.int ((p1 &&& (2147483647 : Int32)) % (6 : Int32))), .val (.ref ca), .val (.int (0 : Int32)), .val (.int (own_rep ca aa ca)), .val (.int (own_rep c19 aa ca))] [(.int (0 : Int32)), (.int (own_rep ca aa ca))]))
          refine own_st (fun _ k' => XS.icmpNo X20.here hx rfl (hb hby at_101) rfl (teq (by simp [own_rep, ne_aa_ca, Ne.symm ne_aa_ca, Ne.symm ne_aa_ae, ne_ae_ca, Ne.symm ne_aa_ar, ne_ar_ca, Ne.symm ne_aa_ce, Ne.symm ne_ca_ce, Ne.symm ne_aa_cr, Ne.symm ne_ca_cr])).2 k') ?_
          show own_Go p.tables e below _ (T20.setTop (mkF m 104 #[.val (.int p1), .val (.int ((p1 &&& (2147483647 : Int32)) % (6 : Int32))), .val (.ref ca), .val (.int (0 : Int32)), .val (.int (own_rep ca aa ca)), .val (.int (own_rep c19 aa ca))] []))
          refine own_st (fun _ k' => XS.iload X20.here hx rfl (hb hby at_104) rfl k') ?_
          show own_Go p.tables e below _ (T20.setTop (mkF m 106 #[.val (.int p1), .val (.int ((p1 &&& (2147483647 : Int32)) % (6 : Int32))), .val (.ref ca), .val (.int (0 : Int32)), .val (.int (own_rep ca aa ca)), .val (.int (own_rep c19 aa ca))] [(.int (own_rep c19 aa ca))]))
          refine own_st (fun _ k' => XS.ifNo X20.here hx rfl (hb hby at_106) rfl ((if0 _ _).trans (feq (by rw [hcc]; exact own_rej_rep P')).1) k') ?_
          show own_Go p.tables e below _ (T20.setTop (mkF m 109 #[.val (.int p1), .val (.int ((p1 &&& (2147483647 : Int32)) % (6 : Int32))), .val (.ref ca), .val (.int (0 : Int32)), .val (.int (own_rep ca aa ca)), .val (.int (own_rep c19 aa ca))] []))
          refine own_st (fun _ k' => XS.iconst X20.here hx rfl (hb hby at_109) k') ?_
          show own_Go p.tables e below _ (T20.setTop (mkF m 110 #[.val (.int p1), .val (.int ((p1 &&& (2147483647 : Int32)) % (6 : Int32))), .val (.ref ca), .val (.int (0 : Int32)), .val (.int (own_rep ca aa ca)), .val (.int (own_rep c19 aa ca))] [(.int (1 : Int32))]))
          refine own_st (fun _ k' => XS.goto X20.here hx rfl (pc0 := 110) (pc' := 114) rfl (hb hby at_110) (by decide) (by decide) k') ?_
          show own_Go p.tables e below _ (T20.setTop (mkF m 114 #[.val (.int p1), .val (.int ((p1 &&& (2147483647 : Int32)) % (6 : Int32))), .val (.ref ca), .val (.int (0 : Int32)), .val (.int (own_rep ca aa ca)), .val (.int (own_rep c19 aa ca))] [(.int (1 : Int32))]))
          exact own_retN X20 hx (t := .boolean) Bd.returns (by simp) (hb hby at_114) Bd.notSynchronized ⟨rfl, N20⟩ (by decide) (by decide)
        ·  -- pc 51, not ((p1 &&& (2147483647 : Int32)) % (6 : Int32)) = (3 : Int32)
          refine own_st (fun _ k' => XS.icmpYes X0.here hx rfl (pc0 := 51) (pc' := 63) rfl (hb hby at_51) rfl (feq hc16).2 (by decide) (by decide) k') ?_
          show own_Go p.tables e below _ (s₁.setTop (mkF m 63 #[.val (.int p1), .val (.int ((p1 &&& (2147483647 : Int32)) % (6 : Int32))), .unset, .unset, .unset, .unset] []))
          refine own_st (fun _ k' => XS.iloadN X0.here hx rfl (hb hby at_63) rfl k') ?_
          show own_Go p.tables e below _ (s₁.setTop (mkF m 64 #[.val (.int p1), .val (.int ((p1 &&& (2147483647 : Int32)) % (6 : Int32))), .unset, .unset, .unset, .unset] [(.int ((p1 &&& (2147483647 : Int32)) % (6 : Int32)))]))
          refine own_st (fun _ k' => XS.iconst X0.here hx rfl (hb hby at_64) k') ?_
          show own_Go p.tables e below _ (s₁.setTop (mkF m 65 #[.val (.int p1), .val (.int ((p1 &&& (2147483647 : Int32)) % (6 : Int32))), .unset, .unset, .unset, .unset] [(.int (4 : Int32)), (.int ((p1 &&& (2147483647 : Int32)) % (6 : Int32)))]))
          by_cases hc21 : ((p1 &&& (2147483647 : Int32)) % (6 : Int32)) = (4 : Int32)
          ·  -- pc 65, ((p1 &&& (2147483647 : Int32)) % (6 : Int32)) = (4 : Int32)
            refine own_st (fun _ k' => XS.icmpNo X0.here hx rfl (hb hby at_65) rfl (teq hc21).2 k') ?_
            show own_Go p.tables e below _ (s₁.setTop (mkF m 68 #[.val (.int p1), .val (.int ((p1 &&& (2147483647 : Int32)) % (6 : Int32))), .unset, .unset, .unset, .unset] []))
            obtain ⟨T22, X22, e22, st22⟩ := getS2 X0 hx hZ hown (host := "") (Or.inl (hw _ (List.mem_of_getElem? (i := 33) rfl))) Via.refl e0 S_CE (g := (mkF m 68 #[.val (.int p1), .val (.int ((p1 &&& (2147483647 : Int32)) % (6 : Int32))), .unset, .unset, .unset, .unset] [])) rfl (hb hby at_68)
            refine own_st st22 ?_
            show own_Go p.tables e below _ (T22.setTop (mkF m 71 #[.val (.int p1), .val (.int ((p1 &&& (2147483647 : Int32)) % (6 : Int32))), .unset, .unset, .unset, .unset] [(.ref ce)]))
            refine own_st (fun _ k' => XS.astoreN X22.here hx rfl (hb hby at_71) rfl rfl (l' := #[.val (.int p1), .val (.int ((p1 &&& (2147483647 : Int32)) % (6 : Int32))), .val (.ref ce), .unset, .unset, .unset]) rfl k') ?_
            show own_Go p.tables e below _ (T22.setTop (mkF m 72 #[.val (.int p1), .val (.int ((p1 &&& (2147483647 : Int32)) % (6 : Int32))), .val (.ref ce), .unset, .unset, .unset] []))
            refine own_st (fun _ k' => XS.iconst X22.here hx rfl (hb hby at_72) k') ?_
            show own_Go p.tables e below _ (T22.setTop (mkF m 73 #[.val (.int p1), .val (.int ((p1 &&& (2147483647 : Int32)) % (6 : Int32))), .val (.ref ce), .unset, .unset, .unset] [(.int (1 : Int32))]))
            refine own_st (fun _ k' => XS.istoreN X22.here hx rfl (hb hby at_73) rfl (l' := #[.val (.int p1), .val (.int ((p1 &&& (2147483647 : Int32)) % (6 : Int32))), .val (.ref ce), .val (.int (1 : Int32)), .unset, .unset]) rfl k') ?_
            show own_Go p.tables e below _ (T22.setTop (mkF m 74 #[.val (.int p1), .val (.int ((p1 &&& (2147483647 : Int32)) % (6 : Int32))), .val (.ref ce), .val (.int (1 : Int32)), .unset, .unset] []))
            refine own_st (fun _ k' => XS.goto X22.here hx rfl (pc0 := 74) (pc' := 83) rfl (hb hby at_74) (by decide) (by decide) k') ?_
            show own_Go p.tables e below _ (T22.setTop (mkF m 83 #[.val (.int p1), .val (.int ((p1 &&& (2147483647 : Int32)) % (6 : Int32))), .val (.ref ce), .val (.int (1 : Int32)), .unset, .unset] []))
            refine own_st (fun _ k' => XS.aloadN X22.here hx rfl (hb hby at_83) rfl rfl k') ?_
            show own_Go p.tables e below _ (T22.setTop (mkF m 84 #[.val (.int p1), .val (.int ((p1 &&& (2147483647 : Int32)) % (6 : Int32))), .val (.ref ce), .val (.int (1 : Int32)), .unset, .unset] [(.ref ce)]))
            obtain ⟨cq23, kq23, q23a, q23b, q23c⟩ := isOf hZ e22 E_ce
            obtain ⟨_, _, ⟨T23, L23, k23, n23⟩, -, X23, ⟨Lc23, hQ23, l23, y23, z23⟩, st23⟩ := X22.virtualBack hx (y := (⟨"com/example/segmenta/segmenta/ack/AckCode", "reportsError", "()Z"⟩ : MethodName)) (z := (⟨"com/example/segmenta/segmenta/ack/AckCode", "reportsError", "()Z"⟩ : MethodName)) hown (mvT hZ (hw _ (List.mem_of_getElem? (i := 4) rfl))) (mvT hZ (hw _ (List.mem_of_getElem? (i := 5) rfl))) (notFace_of_selects (args := #[]) (mvT hZ (hw _ (List.mem_of_getElem? (i := 7) rfl)))) (mvT hZ (hw _ (List.mem_of_getElem? (i := 7) rfl))) (mvT hZ (hw _ (List.mem_of_getElem? (i := 6) rfl))) (by decide) (backOf (W := 0) (rmR l Z a0 hw [] ce aa ae ar ca ce cr h0 n0 Z0 P') hZ (hw _ (List.mem_of_getElem? (i := 8) rfl)) (hw _ (List.mem_of_getElem? (i := 2) rfl)) (by decide) (by decide)) q23a q23c (g := (mkF m 84 #[.val (.int p1), .val (.int ((p1 &&& (2147483647 : Int32)) % (6 : Int32))), .val (.ref ce), .val (.int (1 : Int32)), .unset, .unset] [(.ref ce)])) rfl (by rw [hml]; rfl) (Steps.refl _) (argsL := []) (rest := []) (lenOf pd___Z rfl) rfl (by show 2 * 0 + _ ≤ _; exact Nat.le_of_eq rfl) (hb hby at_84) (fun _ _ => ⟨rfl, e22, (by decide : 0 + 0 ≤ _), (by decide : 0 + 0 ≤ _)⟩)
            dsimp only [Pt.U, Pt.locs, Pt.cells, Pt.slots] at X23 l23 y23 z23 st23 hQ23
            subst l23 y23 z23
            obtain ⟨rfl, Nq23, e23⟩ := hQ23
            have N23 := Fr.app N0 Nq23
            refine own_tr st23 ?_
            show own_Go p.tables e below _ (T23.setTop (mkF m 87 #[.val (.int p1), .val (.int ((p1 &&& (2147483647 : Int32)) % (6 : Int32))), .val (.ref ce), .val (.int (1 : Int32)), .unset, .unset] [(.int (own_rep ce aa ca))]))
            refine own_st (fun _ k' => XS.istore X23.here hx rfl (hb hby at_87) rfl (l' := #[.val (.int p1), .val (.int ((p1 &&& (2147483647 : Int32)) % (6 : Int32))), .val (.ref ce), .val (.int (1 : Int32)), .val (.int (own_rep ce aa ca)), .unset]) rfl k') ?_
            show own_Go p.tables e below _ (T23.setTop (mkF m 89 #[.val (.int p1), .val (.int ((p1 &&& (2147483647 : Int32)) % (6 : Int32))), .val (.ref ce), .val (.int (1 : Int32)), .val (.int (own_rep ce aa ca)), .unset] []))
            refine own_st (fun _ k' => XS.aloadN X23.here hx rfl (hb hby at_89) rfl rfl k') ?_
            show own_Go p.tables e below _ (T23.setTop (mkF m 90 #[.val (.int p1), .val (.int ((p1 &&& (2147483647 : Int32)) % (6 : Int32))), .val (.ref ce), .val (.int (1 : Int32)), .val (.int (own_rep ce aa ca)), .unset] [(.ref ce)]))
            obtain ⟨cq24, kq24, q24a, q24b, q24c⟩ := isOf hZ e23 E_ce
            obtain ⟨_, _, ⟨T24, L24, k24, n24⟩, -, X24, ⟨Lc24, hQ24, l24, y24, z24⟩, st24⟩ := X23.virtualBack hx (y := (⟨"com/example/segmenta/segmenta/ack/AckCode", "reject", "()Lcom/example/segmenta/segmenta/ack/AckCode;"⟩ : MethodName)) (z := (⟨"com/example/segmenta/segmenta/ack/AckCode", "reject", "()Lcom/example/segmenta/segmenta/ack/AckCode;"⟩ : MethodName)) hown (mvT hZ (hw _ (List.mem_of_getElem? (i := 10) rfl))) (mvT hZ (hw _ (List.mem_of_getElem? (i := 11) rfl))) (notFace_of_selects (args := #[]) (mvT hZ (hw _ (List.mem_of_getElem? (i := 13) rfl)))) (mvT hZ (hw _ (List.mem_of_getElem? (i := 13) rfl))) (mvT hZ (hw _ (List.mem_of_getElem? (i := 12) rfl))) (by decide) (backOf (W := 0) (rmJ l Z a0 hw [] ce aa ae ar ca ce cr h0 n0 Z0 P' E_ce) hZ (hw _ (List.mem_of_getElem? (i := 14) rfl)) (hw _ (List.mem_of_getElem? (i := 2) rfl)) (by decide) (by decide)) q24a q24c (g := (mkF m 90 #[.val (.int p1), .val (.int ((p1 &&& (2147483647 : Int32)) % (6 : Int32))), .val (.ref ce), .val (.int (1 : Int32)), .val (.int (own_rep ce aa ca)), .unset] [(.ref ce)])) rfl (by rw [hml]; rfl) (Steps.refl _) (argsL := []) (rest := []) (lenOf pd___Lcom_example_segmenta_segmenta_ack_AckCode_ rfl) rfl (by show 2 * 0 + _ ≤ _; exact Nat.le_of_eq rfl) (hb hby at_90) (fun _ _ => ⟨rfl, e23, (by decide : 0 + 0 ≤ _), (by decide : 0 + 0 ≤ _)⟩)
            dsimp only [Pt.U, Pt.locs, Pt.cells, Pt.slots] at X24 l24 y24 z24 st24 hQ24
            subst l24 y24 z24
            obtain ⟨c24, rfl, hcc, Nq24, e24⟩ := hQ24
            have N24 := Fr.app N23 Nq24
            have E_c : Exa Z h0 c24 "com/example/segmenta/segmenta/ack/AckCode" := by rw [hcc]; exact own_rej_exa P'
            refine own_tr st24 ?_
            show own_Go p.tables e below _ (T24.setTop (mkF m 93 #[.val (.int p1), .val (.int ((p1 &&& (2147483647 : Int32)) % (6 : Int32))), .val (.ref ce), .val (.int (1 : Int32)), .val (.int (own_rep ce aa ca)), .unset] [(.ref c24)]))
            obtain ⟨cq25, kq25, q25a, q25b, q25c⟩ := isOf hZ e24 E_c
            obtain ⟨_, _, ⟨T25, L25, k25, n25⟩, -, X25, ⟨Lc25, hQ25, l25, y25, z25⟩, st25⟩ := X24.virtualBack hx (y := (⟨"com/example/segmenta/segmenta/ack/AckCode", "reportsError", "()Z"⟩ : MethodName)) (z := (⟨"com/example/segmenta/segmenta/ack/AckCode", "reportsError", "()Z"⟩ : MethodName)) hown (mvT hZ (hw _ (List.mem_of_getElem? (i := 4) rfl))) (mvT hZ (hw _ (List.mem_of_getElem? (i := 5) rfl))) (notFace_of_selects (args := #[]) (mvT hZ (hw _ (List.mem_of_getElem? (i := 7) rfl)))) (mvT hZ (hw _ (List.mem_of_getElem? (i := 7) rfl))) (mvT hZ (hw _ (List.mem_of_getElem? (i := 6) rfl))) (by decide) (backOf (W := 0) (rmR l Z a0 hw [] c24 aa ae ar ca ce cr h0 n0 Z0 P') hZ (hw _ (List.mem_of_getElem? (i := 8) rfl)) (hw _ (List.mem_of_getElem? (i := 2) rfl)) (by decide) (by decide)) q25a q25c (g := (mkF m 93 #[.val (.int p1), .val (.int ((p1 &&& (2147483647 : Int32)) % (6 : Int32))), .val (.ref ce), .val (.int (1 : Int32)), .val (.int (own_rep ce aa ca)), .unset] [(.ref c24)])) rfl (by rw [hml]; rfl) (Steps.refl _) (argsL := []) (rest := []) (lenOf pd___Z rfl) rfl (by show 2 * 0 + _ ≤ _; exact Nat.le_of_eq rfl) (hb hby at_93) (fun _ _ => ⟨rfl, e24, (by decide : 0 + 0 ≤ _), (by decide : 0 + 0 ≤ _)⟩)
            dsimp only [Pt.U, Pt.locs, Pt.cells, Pt.slots] at X25 l25 y25 z25 st25 hQ25
            subst l25 y25 z25
            obtain ⟨rfl, Nq25, e25⟩ := hQ25
            have N25 := Fr.app N24 Nq25
            refine own_tr st25 ?_
            show own_Go p.tables e below _ (T25.setTop (mkF m 96 #[.val (.int p1), .val (.int ((p1 &&& (2147483647 : Int32)) % (6 : Int32))), .val (.ref ce), .val (.int (1 : Int32)), .val (.int (own_rep ce aa ca)), .unset] [(.int (own_rep c24 aa ca))]))
            refine own_st (fun _ k' => XS.istore X25.here hx rfl (hb hby at_96) rfl (l' := #[.val (.int p1), .val (.int ((p1 &&& (2147483647 : Int32)) % (6 : Int32))), .val (.ref ce), .val (.int (1 : Int32)), .val (.int (own_rep ce aa ca)), .val (.int (own_rep c24 aa ca))]) rfl k') ?_
            show own_Go p.tables e below _ (T25.setTop (mkF m 98 #[.val (.int p1), .val (.int ((p1 &&& (2147483647 : Int32)) % (6 : Int32))), .val (.ref ce), .val (.int (1 : Int32)), .val (.int (own_rep ce aa ca)), .val (.int (own_rep c24 aa ca))] []))
            refine own_st (fun _ k' => XS.iload X25.here hx rfl (hb hby at_98) rfl k') ?_
            show own_Go p.tables e below _ (T25.setTop (mkF m 100 #[.val (.int p1), .val (.int ((p1 &&& (2147483647 : Int32)) % (6 : Int32))), .val (.ref ce), .val (.int (1 : Int32)), .val (.int (own_rep ce aa ca)), .val (.int (own_rep c24 aa ca))] [(.int (own_rep ce aa ca))]))
            refine own_st (fun _ k' => XS.iloadN X25.here hx rfl (hb hby at_100) rfl k') ?_
            show own_Go p.tables e below _ (T25.setTop (mkF m 101 #[.val (.int p1), .val (.int ((p1 &&& (2147483647 : Int32)) % (6 : Int32))), .val (.ref ce), .val (.int (1 : Int32)), .val (.int (own_rep ce aa ca)), .val (.int (own_rep c24 aa ca))] [(.int (1 : Int32)), (.int (own_rep ce aa ca))]))
            refine own_st (fun _ k' => XS.icmpNo X25.here hx rfl (hb hby at_101) rfl (teq (by simp [own_rep, ne_aa_ca, Ne.symm ne_aa_ca, Ne.symm ne_aa_ae, ne_ae_ca, Ne.symm ne_aa_ar, ne_ar_ca, Ne.symm ne_aa_ce, Ne.symm ne_ca_ce, Ne.symm ne_aa_cr, Ne.symm ne_ca_cr])).2 k') ?_
            show own_Go p.tables e below _ (T25.setTop (mkF m 104 #[.val (.int p1), .val (.int ((p1 &&& (2147483647 : Int32)) % (6 : Int32))), .val (.ref ce), .val (.int (1 : Int32)), .val (.int (own_rep ce aa ca)), .val (.int (own_rep c24 aa ca))] []))
            refine own_st (fun _ k' => XS.iload X25.here hx rfl (hb hby at_104) rfl k') ?_
            show own_Go p.tables e below _ (T25.setTop (mkF m 106 #[.val (.int p1), .val (.int ((p1 &&& (2147483647 : Int32)) % (6 : Int32))), .val (.ref ce), .val (.int (1 : Int32)), .val (.int (own_rep ce aa ca)), .val (.int (own_rep c24 aa ca))] [(.int (own_rep c24 aa ca))]))
            refine own_st (fun _ k' => XS.ifNo X25.here hx rfl (hb hby at_106) rfl ((if0 _ _).trans (feq (by rw [hcc]; exact own_rej_rep P')).1) k') ?_
            show own_Go p.tables e below _ (T25.setTop (mkF m 109 #[.val (.int p1), .val (.int ((p1 &&& (2147483647 : Int32)) % (6 : Int32))), .val (.ref ce), .val (.int (1 : Int32)), .val (.int (own_rep ce aa ca)), .val (.int (own_rep c24 aa ca))] []))
            refine own_st (fun _ k' => XS.iconst X25.here hx rfl (hb hby at_109) k') ?_
            show own_Go p.tables e below _ (T25.setTop (mkF m 110 #[.val (.int p1), .val (.int ((p1 &&& (2147483647 : Int32)) % (6 : Int32))), .val (.ref ce), .val (.int (1 : Int32)), .val (.int (own_rep ce aa ca)), .val (.int (own_rep c24 aa ca))] [(.int (1 : Int32))]))
            refine own_st (fun _ k' => XS.goto X25.here hx rfl (pc0 := 110) (pc' := 114) rfl (hb hby at_110) (by decide) (by decide) k') ?_
            show own_Go p.tables e below _ (T25.setTop (mkF m 114 #[.val (.int p1), .val (.int ((p1 &&& (2147483647 : Int32)) % (6 : Int32))), .val (.ref ce), .val (.int (1 : Int32)), .val (.int (own_rep ce aa ca)), .val (.int (own_rep c24 aa ca))] [(.int (1 : Int32))]))
            exact own_retN X25 hx (t := .boolean) Bd.returns (by simp) (hb hby at_114) Bd.notSynchronized ⟨rfl, N25⟩ (by decide) (by decide)
          ·  -- pc 65, not ((p1 &&& (2147483647 : Int32)) % (6 : Int32)) = (4 : Int32)
            refine own_st (fun _ k' => XS.icmpYes X0.here hx rfl (pc0 := 65) (pc' := 77) rfl (hb hby at_65) rfl (feq hc21).2 (by decide) (by decide) k') ?_
            show own_Go p.tables e below _ (s₁.setTop (mkF m 77 #[.val (.int p1), .val (.int ((p1 &&& (2147483647 : Int32)) % (6 : Int32))), .unset, .unset, .unset, .unset] []))
            obtain ⟨T26, X26, e26, st26⟩ := getS2 X0 hx hZ hown (host := "") (Or.inl (hw _ (List.mem_of_getElem? (i := 32) rfl))) Via.refl e0 S_CR (g := (mkF m 77 #[.val (.int p1), .val (.int ((p1 &&& (2147483647 : Int32)) % (6 : Int32))), .unset, .unset, .unset, .unset] [])) rfl (hb hby at_77)
            refine own_st st26 ?_
            show own_Go p.tables e below _ (T26.setTop (mkF m 80 #[.val (.int p1), .val (.int ((p1 &&& (2147483647 : Int32)) % (6 : Int32))), .unset, .unset, .unset, .unset] [(.ref cr)]))
            refine own_st (fun _ k' => XS.astoreN X26.here hx rfl (hb hby at_80) rfl rfl (l' := #[.val (.int p1), .val (.int ((p1 &&& (2147483647 : Int32)) % (6 : Int32))), .val (.ref cr), .unset, .unset, .unset]) rfl k') ?_
            show own_Go p.tables e below _ (T26.setTop (mkF m 81 #[.val (.int p1), .val (.int ((p1 &&& (2147483647 : Int32)) % (6 : Int32))), .val (.ref cr), .unset, .unset, .unset] []))
            refine own_st (fun _ k' => XS.iconst X26.here hx rfl (hb hby at_81) k') ?_
            show own_Go p.tables e below _ (T26.setTop (mkF m 82 #[.val (.int p1), .val (.int ((p1 &&& (2147483647 : Int32)) % (6 : Int32))), .val (.ref cr), .unset, .unset, .unset] [(.int (1 : Int32))]))
            refine own_st (fun _ k' => XS.istoreN X26.here hx rfl (hb hby at_82) rfl (l' := #[.val (.int p1), .val (.int ((p1 &&& (2147483647 : Int32)) % (6 : Int32))), .val (.ref cr), .val (.int (1 : Int32)), .unset, .unset]) rfl k') ?_
            show own_Go p.tables e below _ (T26.setTop (mkF m 83 #[.val (.int p1), .val (.int ((p1 &&& (2147483647 : Int32)) % (6 : Int32))), .val (.ref cr), .val (.int (1 : Int32)), .unset, .unset] []))
            refine own_st (fun _ k' => XS.aloadN X26.here hx rfl (hb hby at_83) rfl rfl k') ?_
            show own_Go p.tables e below _ (T26.setTop (mkF m 84 #[.val (.int p1), .val (.int ((p1 &&& (2147483647 : Int32)) % (6 : Int32))), .val (.ref cr), .val (.int (1 : Int32)), .unset, .unset] [(.ref cr)]))
            obtain ⟨cq27, kq27, q27a, q27b, q27c⟩ := isOf hZ e26 E_cr
            obtain ⟨_, _, ⟨T27, L27, k27, n27⟩, -, X27, ⟨Lc27, hQ27, l27, y27, z27⟩, st27⟩ := X26.virtualBack hx (y := (⟨"com/example/segmenta/segmenta/ack/AckCode", "reportsError", "()Z"⟩ : MethodName)) (z := (⟨"com/example/segmenta/segmenta/ack/AckCode", "reportsError", "()Z"⟩ : MethodName)) hown (mvT hZ (hw _ (List.mem_of_getElem? (i := 4) rfl))) (mvT hZ (hw _ (List.mem_of_getElem? (i := 5) rfl))) (notFace_of_selects (args := #[]) (mvT hZ (hw _ (List.mem_of_getElem? (i := 7) rfl)))) (mvT hZ (hw _ (List.mem_of_getElem? (i := 7) rfl))) (mvT hZ (hw _ (List.mem_of_getElem? (i := 6) rfl))) (by decide) (backOf (W := 0) (rmR l Z a0 hw [] cr aa ae ar ca ce cr h0 n0 Z0 P') hZ (hw _ (List.mem_of_getElem? (i := 8) rfl)) (hw _ (List.mem_of_getElem? (i := 2) rfl)) (by decide) (by decide)) q27a q27c (g := (mkF m 84 #[.val (.int p1), .val (.int ((p1 &&& (2147483647 : Int32)) % (6 : Int32))), .val (.ref cr), .val (.int (1 : Int32)), .unset, .unset] [(.ref cr)])) rfl (by rw [hml]; rfl) (Steps.refl _) (argsL := []) (rest := []) (lenOf pd___Z rfl) rfl (by show 2 * 0 + _ ≤ _; exact Nat.le_of_eq rfl) (hb hby at_84) (fun _ _ => ⟨rfl, e26, (by decide : 0 + 0 ≤ _), (by decide : 0 + 0 ≤ _)⟩)
            dsimp only [Pt.U, Pt.locs, Pt.cells, Pt.slots] at X27 l27 y27 z27 st27 hQ27
            subst l27 y27 z27
            obtain ⟨rfl, Nq27, e27⟩ := hQ27
            have N27 := Fr.app N0 Nq27
            refine own_tr st27 ?_
            show own_Go p.tables e below _ (T27.setTop (mkF m 87 #[.val (.int p1), .val (.int ((p1 &&& (2147483647 : Int32)) % (6 : Int32))), .val (.ref cr), .val (.int (1 : Int32)), .unset, .unset] [(.int (own_rep cr aa ca))]))
            refine own_st (fun _ k' => XS.istore X27.here hx rfl (hb hby at_87) rfl (l' := #[.val (.int p1), .val (.int ((p1 &&& (2147483647 : Int32)) % (6 : Int32))), .val (.ref cr), .val (.int (1 : Int32)), .val (.int (own_rep cr aa ca)), .unset]) rfl k') ?_
            show own_Go p.tables e below _ (T27.setTop (mkF m 89 #[.val (.int p1), .val (.int ((p1 &&& (2147483647 : Int32)) % (6 : Int32))), .val (.ref cr), .val (.int (1 : Int32)), .val (.int (own_rep cr aa ca)), .unset] []))
            refine own_st (fun _ k' => XS.aloadN X27.here hx rfl (hb hby at_89) rfl rfl k') ?_
            show own_Go p.tables e below _ (T27.setTop (mkF m 90 #[.val (.int p1), .val (.int ((p1 &&& (2147483647 : Int32)) % (6 : Int32))), .val (.ref cr), .val (.int (1 : Int32)), .val (.int (own_rep cr aa ca)), .unset] [(.ref cr)]))
            obtain ⟨cq28, kq28, q28a, q28b, q28c⟩ := isOf hZ e27 E_cr
            obtain ⟨_, _, ⟨T28, L28, k28, n28⟩, -, X28, ⟨Lc28, hQ28, l28, y28, z28⟩, st28⟩ := X27.virtualBack hx (y := (⟨"com/example/segmenta/segmenta/ack/AckCode", "reject", "()Lcom/example/segmenta/segmenta/ack/AckCode;"⟩ : MethodName)) (z := (⟨"com/example/segmenta/segmenta/ack/AckCode", "reject", "()Lcom/example/segmenta/segmenta/ack/AckCode;"⟩ : MethodName)) hown (mvT hZ (hw _ (List.mem_of_getElem? (i := 10) rfl))) (mvT hZ (hw _ (List.mem_of_getElem? (i := 11) rfl))) (notFace_of_selects (args := #[]) (mvT hZ (hw _ (List.mem_of_getElem? (i := 13) rfl)))) (mvT hZ (hw _ (List.mem_of_getElem? (i := 13) rfl))) (mvT hZ (hw _ (List.mem_of_getElem? (i := 12) rfl))) (by decide) (backOf (W := 0) (rmJ l Z a0 hw [] cr aa ae ar ca ce cr h0 n0 Z0 P' E_cr) hZ (hw _ (List.mem_of_getElem? (i := 14) rfl)) (hw _ (List.mem_of_getElem? (i := 2) rfl)) (by decide) (by decide)) q28a q28c (g := (mkF m 90 #[.val (.int p1), .val (.int ((p1 &&& (2147483647 : Int32)) % (6 : Int32))), .val (.ref cr), .val (.int (1 : Int32)), .val (.int (own_rep cr aa ca)), .unset] [(.ref cr)])) rfl (by rw [hml]; rfl) (Steps.refl _) (argsL := []) (rest := []) (lenOf pd___Lcom_example_segmenta_segmenta_ack_AckCode_ rfl) rfl (by show 2 * 0 + _ ≤ _; exact Nat.le_of_eq rfl) (hb hby at_90) (fun _ _ => ⟨rfl, e27, (by decide : 0 + 0 ≤ _), (by decide : 0 + 0 ≤ _)⟩)
            dsimp only [Pt.U, Pt.locs, Pt.cells, Pt.slots] at X28 l28 y28 z28 st28 hQ28
            subst l28 y28 z28
            obtain ⟨c28, rfl, hcc, Nq28, e28⟩ := hQ28
            have N28 := Fr.app N27 Nq28
            have E_c : Exa Z h0 c28 "com/example/segmenta/segmenta/ack/AckCode" := by rw [hcc]; exact own_rej_exa P'
            refine own_tr st28 ?_
            show own_Go p.tables e below _ (T28.setTop (mkF m 93 #[.val (.int p1), .val (.int ((p1 &&& (2147483647 : Int32)) % (6 : Int32))), .val (.ref cr), .val (.int (1 : Int32)), .val (.int (own_rep cr aa ca)), .unset] [(.ref c28)]))
            obtain ⟨cq29, kq29, q29a, q29b, q29c⟩ := isOf hZ e28 E_c
            obtain ⟨_, _, ⟨T29, L29, k29, n29⟩, -, X29, ⟨Lc29, hQ29, l29, y29, z29⟩, st29⟩ := X28.virtualBack hx (y := (⟨"com/example/segmenta/segmenta/ack/AckCode", "reportsError", "()Z"⟩ : MethodName)) (z := (⟨"com/example/segmenta/segmenta/ack/AckCode", "reportsError", "()Z"⟩ : MethodName)) hown (mvT hZ (hw _ (List.mem_of_getElem? (i := 4) rfl))) (mvT hZ (hw _ (List.mem_of_getElem? (i := 5) rfl))) (notFace_of_selects (args := #[]) (mvT hZ (hw _ (List.mem_of_getElem? (i := 7) rfl)))) (mvT hZ (hw _ (List.mem_of_getElem? (i := 7) rfl))) (mvT hZ (hw _ (List.mem_of_getElem? (i := 6) rfl))) (by decide) (backOf (W := 0) (rmR l Z a0 hw [] c28 aa ae ar ca ce cr h0 n0 Z0 P') hZ (hw _ (List.mem_of_getElem? (i := 8) rfl)) (hw _ (List.mem_of_getElem? (i := 2) rfl)) (by decide) (by decide)) q29a q29c (g := (mkF m 93 #[.val (.int p1), .val (.int ((p1 &&& (2147483647 : Int32)) % (6 : Int32))), .val (.ref cr), .val (.int (1 : Int32)), .val (.int (own_rep cr aa ca)), .unset] [(.ref c28)])) rfl (by rw [hml]; rfl) (Steps.refl _) (argsL := []) (rest := []) (lenOf pd___Z rfl) rfl (by show 2 * 0 + _ ≤ _; exact Nat.le_of_eq rfl) (hb hby at_93) (fun _ _ => ⟨rfl, e28, (by decide : 0 + 0 ≤ _), (by decide : 0 + 0 ≤ _)⟩)
            dsimp only [Pt.U, Pt.locs, Pt.cells, Pt.slots] at X29 l29 y29 z29 st29 hQ29
            subst l29 y29 z29
            obtain ⟨rfl, Nq29, e29⟩ := hQ29
            have N29 := Fr.app N28 Nq29
            refine own_tr st29 ?_
            show own_Go p.tables e below _ (T29.setTop (mkF m 96 #[.val (.int p1), .val (.int ((p1 &&& (2147483647 : Int32)) % (6 : Int32))), .val (.ref cr), .val (.int (1 : Int32)), .val (.int (own_rep cr aa ca)), .unset] [(.int (own_rep c28 aa ca))]))
            refine own_st (fun _ k' => XS.istore X29.here hx rfl (hb hby at_96) rfl (l' := #[.val (.int p1), .val (.int ((p1 &&& (2147483647 : Int32)) % (6 : Int32))), .val (.ref cr), .val (.int (1 : Int32)), .val (.int (own_rep cr aa ca)), .val (.int (own_rep c28 aa ca))]) rfl k') ?_
            show own_Go p.tables e below _ (T29.setTop (mkF m 98 #[.val (.int p1), .val (.int ((p1 &&& (2147483647 : Int32)) % (6 : Int32))), .val (.ref cr), .val (.int (1 : Int32)), .val (.int (own_rep cr aa ca)), .val (.int (own_rep c28 aa ca))] []))
            refine own_st (fun _ k' => XS.iload X29.here hx rfl (hb hby at_98) rfl k') ?_
            show own_Go p.tables e below _ (T29.setTop (mkF m 100 #[.val (.int p1), .val (.int ((p1 &&& (2147483647 : Int32)) % (6 : Int32))), .val (.ref cr), .val (.int (1 : Int32)), .val (.int (own_rep cr aa ca)), .val (.int (own_rep c28 aa ca))] [(.int (own_rep cr aa ca))]))
            refine own_st (fun _ k' => XS.iloadN X29.here hx rfl (hb hby at_100) rfl k') ?_
            show own_Go p.tables e below _ (T29.setTop (mkF m 101 #[.val (.int p1), .val (.int ((p1 &&& (2147483647 : Int32)) % (6 : Int32))), .val (.ref cr), .val (.int (1 : Int32)), .val (.int (own_rep cr aa ca)), .val (.int (own_rep c28 aa ca))] [(.int (1 : Int32)), (.int (own_rep cr aa ca))]))
            refine own_st (fun _ k' => XS.icmpNo X29.here hx rfl (hb hby at_101) rfl (teq (by simp [own_rep, ne_aa_ca, Ne.symm ne_aa_ca, Ne.symm ne_aa_ae, ne_ae_ca, Ne.symm ne_aa_ar, ne_ar_ca, Ne.symm ne_aa_ce, Ne.symm ne_ca_ce, Ne.symm ne_aa_cr, Ne.symm ne_ca_cr])).2 k') ?_
            show own_Go p.tables e below _ (T29.setTop (mkF m 104 #[.val (.int p1), .val (.int ((p1 &&& (2147483647 : Int32)) % (6 : Int32))), .val (.ref cr), .val (.int (1 : Int32)), .val (.int (own_rep cr aa ca)), .val (.int (own_rep c28 aa ca))] []))
            refine own_st (fun _ k' => XS.iload X29.here hx rfl (hb hby at_104) rfl k') ?_
            show own_Go p.tables e below _ (T29.setTop (mkF m 106 #[.val (.int p1), .val (.int ((p1 &&& (2147483647 : Int32)) % (6 : Int32))), .val (.ref cr), .val (.int (1 : Int32)), .val (.int (own_rep cr aa ca)), .val (.int (own_rep c28 aa ca))] [(.int (own_rep c28 aa ca))]))
            refine own_st (fun _ k' => XS.ifNo X29.here hx rfl (hb hby at_106) rfl ((if0 _ _).trans (feq (by rw [hcc]; exact own_rej_rep P')).1) k') ?_
            show own_Go p.tables e below _ (T29.setTop (mkF m 109 #[.val (.int p1), .val (.int ((p1 &&& (2147483647 : Int32)) % (6 : Int32))), .val (.ref cr), .val (.int (1 : Int32)), .val (.int (own_rep cr aa ca)), .val (.int (own_rep c28 aa ca))] []))
            refine own_st (fun _ k' => XS.iconst X29.here hx rfl (hb hby at_109) k') ?_
            show own_Go p.tables e below _ (T29.setTop (mkF m 110 #[.val (.int p1), .val (.int ((p1 &&& (2147483647 : Int32)) % (6 : Int32))), .val (.ref cr), .val (.int (1 : Int32)), .val (.int (own_rep cr aa ca)), .val (.int (own_rep c28 aa ca))] [(.int (1 : Int32))]))
            refine own_st (fun _ k' => XS.goto X29.here hx rfl (pc0 := 110) (pc' := 114) rfl (hb hby at_110) (by decide) (by decide) k') ?_
            show own_Go p.tables e below _ (T29.setTop (mkF m 114 #[.val (.int p1), .val (.int ((p1 &&& (2147483647 : Int32)) % (6 : Int32))), .val (.ref cr), .val (.int (1 : Int32)), .val (.int (own_rep cr aa ca)), .val (.int (own_rep c28 aa ca))] [(.int (1 : Int32))]))
            exact own_retN X29 hx (t := .boolean) Bd.returns (by simp) (hb hby at_114) Bd.notSynchronized ⟨rfl, N29⟩ (by decide) (by decide)

set_option maxRecDepth 65536 in
set_option maxHeartbeats 40000000 in
theorem comes_1 {Post : Tables → Env → Array Value → State → Outcome → State → Prop} (hpost : ∀ tb e args s v u, (limb_1_1.after args s (.returned v) u = true ∧ limb_1_2.after args s (.returned v) u = true ∧ True) → FrameEnd s (.returned v) u (Jvm.fieldLocs frame_1_writes args s ++ Jvm.arrayLocs frame_1_arrays args s ++ Jvm.staticLocs frame_1_statics s) 0 0 → Post tb e args s (.returned v) u) :
    ArmFor flags0 classFile x code maxLocals ret World_1 tables_1 room_1 Calls_1 rest_1 Pre_1 Post := by
  intro l hfl _ _ p e ha hc hk s m args below hf hA hF happ hP
  obtain ⟨hcalls, hrest, hpre⟩ := hP
  obtain ⟨-, -, -, hnamed, -, -, -, hat⟩ := (Spec.applies_iff hf).mp happ
  obtain ⟨hg, hn⟩ := and_e (Cond.before_iff.mp (show (Jvm.Cond.and given_1 narrow_1).before args s = true from hpre))
  obtain ⟨hcnt, hg⟩ := and_e hg
  obtain ⟨w0, rfl⟩ : ∃ w0 : Value, args = #[w0] := by
    have hs : args.size = 1 := by simpa [Cond.value, given_1] using hcnt
    obtain ⟨L⟩ := args
    match L, hs with
    | [w0], _ => exact ⟨w0, rfl⟩
  have hw := fun d (hd : d ∈ tables_1) => atoms_spec (ws := Jvm.Cond.code x code maxLocals ret :: tables_1) hat d (List.mem_cons_of_mem _ hd)
  have hfit : Fit s := fun {y c} hc i hi => by
    obtain ⟨ha, rfl⟩ := Array.getElem?_eq_some_iff.mp hc
    have q := List.all_eq_true.mp ((Array.all_eq_true_iff_forall_mem.mp hF) _ (Array.getElem_mem ha)) i (List.mem_range.mpr hi)
    simpa [Array.getElem?_eq_getElem hi] using q
  have hg0 := hg
  obtain ⟨i0, ei0⟩ := is_v hg0
  obtain rfl : w0 = (.int i0) := Option.some.inj ei0
  obtain ⟨qx_AA, hn⟩ := and_e hn
  obtain ⟨qx_CA, hn⟩ := and_e hn
  obtain ⟨qo_AA, hn⟩ := and_e hn
  obtain ⟨qo_CA, hn⟩ := and_e hn
  obtain ⟨qx_CE, hn⟩ := and_e hn
  obtain ⟨qo_CE, hn⟩ := and_e hn
  obtain ⟨qx_CR, hn⟩ := and_e hn
  obtain ⟨qo_CR, hn⟩ := and_e hn
  obtain ⟨qx_AR, hn⟩ := and_e hn
  obtain ⟨qo_AR, hn⟩ := and_e hn
  obtain ⟨qx_AE, hn⟩ := and_e hn
  have qo_AE := hn
  obtain ⟨aa, v_aa⟩ := exa_v qx_AA
  have E_aa := Exa.start v_aa qx_AA
  have O_aa := own_ord qo_AA v_aa
  have S_AA := Sta.start v_aa (Or.inr ⟨(hw _ (List.mem_of_getElem? (i := 2) rfl)), (hw _ (List.mem_of_getElem? (i := 3) rfl))⟩)
  obtain ⟨ae, v_ae⟩ := exa_v qx_AE
  have E_ae := Exa.start v_ae qx_AE
  have O_ae := own_ord qo_AE v_ae
  have S_AE := Sta.start v_ae (Or.inr ⟨(hw _ (List.mem_of_getElem? (i := 2) rfl)), (hw _ (List.mem_of_getElem? (i := 31) rfl))⟩)
  obtain ⟨ar, v_ar⟩ := exa_v qx_AR
  have E_ar := Exa.start v_ar qx_AR
  have O_ar := own_ord qo_AR v_ar
  have S_AR := Sta.start v_ar (Or.inr ⟨(hw _ (List.mem_of_getElem? (i := 2) rfl)), (hw _ (List.mem_of_getElem? (i := 27) rfl))⟩)
  obtain ⟨ca, v_ca⟩ := exa_v qx_CA
  have E_ca := Exa.start v_ca qx_CA
  have O_ca := own_ord qo_CA v_ca
  have S_CA := Sta.start v_ca (Or.inr ⟨(hw _ (List.mem_of_getElem? (i := 2) rfl)), (hw _ (List.mem_of_getElem? (i := 21) rfl))⟩)
  obtain ⟨ce, v_ce⟩ := exa_v qx_CE
  have E_ce := Exa.start v_ce qx_CE
  have O_ce := own_ord qo_CE v_ce
  have S_CE := Sta.start v_ce (Or.inr ⟨(hw _ (List.mem_of_getElem? (i := 2) rfl)), (hw _ (List.mem_of_getElem? (i := 23) rfl))⟩)
  obtain ⟨cr, v_cr⟩ := exa_v qx_CR
  have E_cr := Exa.start v_cr qx_CR
  have O_cr := own_ord qo_CR v_cr
  have S_CR := Sta.start v_cr (Or.inr ⟨(hw _ (List.mem_of_getElem? (i := 2) rfl)), (hw _ (List.mem_of_getElem? (i := 25) rfl))⟩)
  have ne_aa_ae : aa ≠ ae := Fld.ne O_aa O_ae (by decide)
  have ne_aa_ar : aa ≠ ar := Fld.ne O_aa O_ar (by decide)
  have ne_aa_ca : aa ≠ ca := Fld.ne O_aa O_ca (by decide)
  have ne_aa_ce : aa ≠ ce := Fld.ne O_aa O_ce (by decide)
  have ne_aa_cr : aa ≠ cr := Fld.ne O_aa O_cr (by decide)
  have ne_ae_ar : ae ≠ ar := Fld.ne O_ae O_ar (by decide)
  have ne_ae_ca : ae ≠ ca := Fld.ne O_ae O_ca (by decide)
  have ne_ae_ce : ae ≠ ce := Fld.ne O_ae O_ce (by decide)
  have ne_ae_cr : ae ≠ cr := Fld.ne O_ae O_cr (by decide)
  have ne_ar_ca : ar ≠ ca := Fld.ne O_ar O_ca (by decide)
  have ne_ar_ce : ar ≠ ce := Fld.ne O_ar O_ce (by decide)
  have ne_ar_cr : ar ≠ cr := Fld.ne O_ar O_cr (by decide)
  have ne_ca_ce : ca ≠ ce := Fld.ne O_ca O_ce (by decide)
  have ne_ca_cr : ca ≠ cr := Fld.ne O_ca O_cr (by decide)
  have ne_ce_cr : ce ≠ cr := Fld.ne O_ce O_cr (by decide)
  have P : own_P s s.heap aa ae ar ca ce cr := ⟨S_AA, S_AE, S_AR, S_CA, S_CE, S_CR, E_aa, E_ae, E_ar, E_ca, E_ce, E_cr, ne_aa_ae, ne_aa_ar, ne_aa_ca, ne_aa_ce, ne_aa_cr, ne_ae_ar, ne_ae_ca, ne_ae_ce, ne_ae_cr, ne_ar_ca, ne_ar_ce, ne_ar_cr, ne_ca_ce, ne_ca_cr, ne_ce_cr⟩
  obtain ⟨n, o, h1, h2, h3, _, L, rfl, ⟨rfl, N⟩, hq⟩ := rm0 l s _ hw tables_1 i0 aa ae ar ca ce cr s.heap s.heap.size (Nat.le_refl _) P p e ha hc hk s m _ below hf ((Spec.applies_iff_loose hf).mp happ).1 ⟨rfl, State.Warmed39.refl s, rfl⟩ trivial
  refine ⟨n, _, h1, h2, h3, hpost _ _ _ _ _ _ ⟨Cond.after_iff.mpr rfl, Cond.after_iff.mpr (eq_i res_at (Term.int_eval (1)) rfl), trivial⟩ ⟨hq.1, hq.2.1, (hq.2.2.sift fun y hy => Or.inr (N y hy)).mono (by decide) (by decide)⟩⟩
theorem main_1_1 : Claimed_1_1 := comes_1 fun _ _ _ _ _ _ h hF => ⟨h.1, hF⟩
theorem main_1_2 : Claimed_1_2 := comes_1 fun _ _ _ _ _ _ h hF => ⟨h.2.1, hF⟩

end Jvm.Pilot.@@N@@
namespace Jvm.Pilot.@@N@@
open Jvm Jvm.ClassFile Sem Op Lib Jvm.Free Jvm.Stand Jvm.Pilot.@@N@@.Jvm.D
/-! MADE BY PROGRAM (witnessworld.py) out of the Statement's table words and the real class files: 12 classes; the members and pool entries that the words name. The judged class is class 1, her method 1. -/
namespace start1
open Jvm.ClassFile
def u (s : String) : CpInfo := .utf8 (stringToUtf16 s)
/-- a pool by its gaps: so many unusable entries, then the entry; so many at the end -/
def gap : Nat → List CpInfo → List CpInfo
  | 0, r => r
  | n + 1, r => .unusable :: gap n r
def poolList (es : List (Nat × CpInfo)) (last : Nat) : List CpInfo := es.foldr (fun e r => gap e.1 (e.2 :: r)) (gap last [])
def pool (es : List (Nat × CpInfo)) (last : Nat) : Array CpInfo := ⟨poolList es last⟩
def fileOf (pool : Array CpInfo) (this : Nat) (attrs : Array Attribute := #[]) (ms : Array MethodInfo := #[]) (fl : Nat := 33) (sup : Nat := 0) (ifs : Array Nat := #[]) (fds : Array FieldInfo := #[]) : ClassFile where
  minorVersion := 0
  majorVersion := 65
  constantPool := pool
  accessFlags := fl
  thisClass := this
  superClass := sup
  interfaces := ifs
  fields := fds
  methods := ms
  attributes := attrs
def plain (name : String) (sup : Option ClassId) : Class where
  name := name
  kind := .ordinary
  loader := none
  accessFlags := 33
  super := sup
  interfaces := #[]
  cf := none
  fields := #[]
  methods := #[]
  instanceTypes := #[]
  staticTypes := #[]
  resolved := #[]
  callSites := []
  init := .initialized
  statics := none
  mirror := none

def pool0 : Array CpInfo := pool [(5, u "<init>"), (0, u "()V"), (1, .class_ 10), (1, u "java/lang/Object")] 113

def k0m0 : Method := { name := "<init>", desc := "()V", sig := { parameters := [], returnType := none }, accessFlags := 1, code := none }
/-- java/lang/Object -/
def k0 : Class := { plain "java/lang/Object" none with
  accessFlags := 33
  interfaces := #[]
  cf := some (fileOf pool0 8 #[] #[{ accessFlags := 1, nameIndex := 5, descriptorIndex := 6, attributes := #[] }] 33 0 #[] #[])
  fields := #[]
  methods := #[k0m0]
  instanceTypes := #[]
  staticTypes := #[]
  resolved := Array.replicate 124 none
  statics := none }

def pool1 : Array CpInfo := pool [(2, .class_ 4), (1, u "java/lang/Object"), (0, u "<init>"), (0, u "()V"), (0, .integer 2147483647), (0, .fieldref 9 10), (0, .class_ 11), (0, .nameAndType 12 13), (0, u "com/example/segmenta/segmenta/ack/AckCode"), (0, u "AA"), (0, u "Lcom/example/segmenta/segmenta/ack/AckCode;"), (0, .fieldref 9 15), (0, .nameAndType 16 13), (0, u "AE"), (0, .fieldref 9 18), (0, .nameAndType 19 13), (0, u "AR"), (0, .fieldref 9 21), (0, .nameAndType 22 13), (0, u "CA"), (0, .fieldref 9 24), (0, .nameAndType 25 13), (0, u "CE"), (0, .fieldref 9 27), (0, .nameAndType 28 13), (0, u "CR"), (0, .methodref 9 30), (0, .nameAndType 31 32), (0, u "reportsError"), (0, u "()Z"), (0, .methodref 9 34), (0, .nameAndType 35 36), (0, u "reject"), (0, u "()Lcom/example/segmenta/segmenta/ack/AckCode;"), (0, .class_ 38), (0, u "com/example/segmenta/segmenta/ack/AckCodeReportsErrorPinLaw"), (2, u "law"), (0, u "(I)Z")] 3

def k1m0 : Method := { name := "<init>", desc := "()V", sig := { parameters := [], returnType := none }, accessFlags := 1, code := none }
def k1c1 : Code := { maxStack := 2, maxLocals := 6, code := code, exceptionTable := #[], attributes := #[] }
def k1m1 : Method := { name := "law", desc := "(I)Z", sig := { parameters := [.int], returnType := some .boolean }, accessFlags := 9, code := some k1c1 }
/-- com/example/segmenta/segmenta/ack/AckCodeReportsErrorPinLaw -/
def k1 : Class := { plain "com/example/segmenta/segmenta/ack/AckCodeReportsErrorPinLaw" (some 0) with
  accessFlags := 49
  interfaces := #[]
  cf := some (fileOf pool1 37 #[] #[{ accessFlags := 1, nameIndex := 5, descriptorIndex := 6, attributes := #[] }, { accessFlags := 9, nameIndex := 41, descriptorIndex := 42, attributes := #[] }] 49 2 #[] #[])
  fields := #[]
  methods := #[k1m0, k1m1]
  instanceTypes := #[]
  staticTypes := #[]
  resolved := Array.replicate 46 none
  statics := none }

def pool2 : Array CpInfo := pool [(1, .class_ 2), (0, u "java/lang/constant/Constable"), (0, .class_ 4), (0, u "java/lang/Object")] 6

/-- java/lang/constant/Constable -/
def k2 : Class := { plain "java/lang/constant/Constable" (some 0) with
  accessFlags := 1537
  interfaces := #[]
  cf := some (fileOf pool2 1 #[] #[] 1537 3 #[] #[])
  fields := #[]
  methods := #[]
  instanceTypes := #[]
  staticTypes := #[]
  resolved := Array.replicate 11 none
  statics := none }

def pool3 : Array CpInfo := pool [(1, .class_ 2), (0, u "java/lang/Comparable"), (0, .class_ 4), (0, u "java/lang/Object")] 7

/-- java/lang/Comparable -/
def k3 : Class := { plain "java/lang/Comparable" (some 0) with
  accessFlags := 1537
  interfaces := #[]
  cf := some (fileOf pool3 1 #[] #[] 1537 3 #[] #[])
  fields := #[]
  methods := #[]
  instanceTypes := #[]
  staticTypes := #[]
  resolved := Array.replicate 12 none
  statics := none }

def pool4 : Array CpInfo := pool [(1, .class_ 2), (0, u "java/io/Serializable"), (0, .class_ 4), (0, u "java/lang/Object")] 2

/-- java/io/Serializable -/
def k4 : Class := { plain "java/io/Serializable" (some 0) with
  accessFlags := 1537
  interfaces := #[]
  cf := some (fileOf pool4 1 #[] #[] 1537 3 #[] #[])
  fields := #[]
  methods := #[]
  instanceTypes := #[]
  staticTypes := #[]
  resolved := Array.replicate 7 none
  statics := none }

def pool5 : Array CpInfo := pool [(2, .class_ 4), (1, u "java/lang/Enum"), (0, u "name"), (0, u "Ljava/lang/String;"), (2, u "ordinal"), (0, u "I"), (1, .class_ 14), (1, u "java/lang/Object"), (4, u "hash"), (86, .class_ 108), (1, u "java/lang/Enum$EnumDesc"), (2, .class_ 112), (0, u "java/lang/constant/Constable"), (0, .class_ 114), (0, u "java/lang/Comparable"), (0, .class_ 116), (0, u "java/io/Serializable")] 87

/-- java/lang/Enum -/
def k5 : Class := { plain "java/lang/Enum" (some 0) with
  accessFlags := 1057
  interfaces := #[2, 3, 4]
  cf := some (fileOf pool5 2 #[.nestMembers #[106]] #[] 1057 12 #[111, 113, 115] #[{ accessFlags := 18, nameIndex := 5, descriptorIndex := 6, attributes := #[] }, { accessFlags := 18, nameIndex := 9, descriptorIndex := 10, attributes := #[] }, { accessFlags := 2, nameIndex := 19, descriptorIndex := 10, attributes := #[] }])
  fields := #[{ name := "name", type := (.object "java/lang/String"), accessFlags := 18, slot := 0, constantValue := 0 }, { name := "ordinal", type := .int, accessFlags := 18, slot := 1, constantValue := 0 }, { name := "hash", type := .int, accessFlags := 2, slot := 2, constantValue := 0 }]
  methods := #[]
  instanceTypes := #[(.object "java/lang/String"), .int, .int]
  staticTypes := #[]
  resolved := Array.replicate 204 none
  statics := none }

def pool6 : Array CpInfo := pool [(1, .class_ 2), (0, u "com/example/segmenta/segmenta/ack/AckCode"), (0, .fieldref 1 4), (0, .nameAndType 5 6), (0, u "AA"), (0, u "Lcom/example/segmenta/segmenta/ack/AckCode;"), (2, u "AE"), (0, .fieldref 1 11), (0, .nameAndType 12 6), (0, u "AR"), (0, .fieldref 1 14), (0, .nameAndType 15 6), (0, u "CA"), (0, .fieldref 1 17), (0, .nameAndType 18 6), (0, u "CE"), (0, .fieldref 1 20), (0, .nameAndType 21 6), (0, u "CR"), (2, u "$VALUES"), (0, u "[Lcom/example/segmenta/segmenta/ack/AckCode;"), (6, .class_ 34), (1, u "java/lang/Enum"), (6, .methodref 1 42), (0, .nameAndType 43 44), (0, u "isAcceptLevel"), (0, u "()Z"), (19, u "reportsError"), (0, u "reject"), (0, u "()Lcom/example/segmenta/segmenta/ack/AckCode;")] 4

def k6c0 : Code := { maxStack := 2, maxLocals := 1, code := prog_25_method_4_code, exceptionTable := #[], attributes := #[] }
def k6m0 : Method := { name := "isAcceptLevel", desc := "()Z", sig := { parameters := [], returnType := some .boolean }, accessFlags := 1, code := some k6c0 }
def k6c1 : Code := { maxStack := 2, maxLocals := 1, code := prog_25_method_5_code, exceptionTable := #[], attributes := #[] }
def k6m1 : Method := { name := "reportsError", desc := "()Z", sig := { parameters := [], returnType := some .boolean }, accessFlags := 0, code := some k6c1 }
def k6c2 : Code := { maxStack := 1, maxLocals := 1, code := prog_25_method_6_code, exceptionTable := #[], attributes := #[] }
def k6m2 : Method := { name := "reject", desc := "()Lcom/example/segmenta/segmenta/ack/AckCode;", sig := { parameters := [], returnType := some (.object "com/example/segmenta/segmenta/ack/AckCode") }, accessFlags := 0, code := some k6c2 }
/-- com/example/segmenta/segmenta/ack/AckCode -/
def k6 : Class := { plain "com/example/segmenta/segmenta/ack/AckCode" (some 5) with
  accessFlags := 16433
  interfaces := #[]
  cf := some (fileOf pool6 1 #[] #[{ accessFlags := 1, nameIndex := 43, descriptorIndex := 44, attributes := #[] }, { accessFlags := 0, nameIndex := 64, descriptorIndex := 44, attributes := #[] }, { accessFlags := 0, nameIndex := 65, descriptorIndex := 66, attributes := #[] }] 16433 32 #[] #[{ accessFlags := 16409, nameIndex := 5, descriptorIndex := 6, attributes := #[] }, { accessFlags := 16409, nameIndex := 9, descriptorIndex := 6, attributes := #[] }, { accessFlags := 16409, nameIndex := 12, descriptorIndex := 6, attributes := #[] }, { accessFlags := 16409, nameIndex := 15, descriptorIndex := 6, attributes := #[] }, { accessFlags := 16409, nameIndex := 18, descriptorIndex := 6, attributes := #[] }, { accessFlags := 16409, nameIndex := 21, descriptorIndex := 6, attributes := #[] }, { accessFlags := 4122, nameIndex := 24, descriptorIndex := 25, attributes := #[] }])
  fields := #[{ name := "AA", type := (.object "com/example/segmenta/segmenta/ack/AckCode"), accessFlags := 16409, slot := 0, constantValue := 0 }, { name := "AE", type := (.object "com/example/segmenta/segmenta/ack/AckCode"), accessFlags := 16409, slot := 1, constantValue := 0 }, { name := "AR", type := (.object "com/example/segmenta/segmenta/ack/AckCode"), accessFlags := 16409, slot := 2, constantValue := 0 }, { name := "CA", type := (.object "com/example/segmenta/segmenta/ack/AckCode"), accessFlags := 16409, slot := 3, constantValue := 0 }, { name := "CE", type := (.object "com/example/segmenta/segmenta/ack/AckCode"), accessFlags := 16409, slot := 4, constantValue := 0 }, { name := "CR", type := (.object "com/example/segmenta/segmenta/ack/AckCode"), accessFlags := 16409, slot := 5, constantValue := 0 }, { name := "$VALUES", type := (.array (.object "com/example/segmenta/segmenta/ack/AckCode")), accessFlags := 4122, slot := 6, constantValue := 0 }]
  methods := #[k6m0, k6m1, k6m2]
  instanceTypes := #[(.object "java/lang/String"), .int, .int]
  staticTypes := #[(.object "com/example/segmenta/segmenta/ack/AckCode"), (.object "com/example/segmenta/segmenta/ack/AckCode"), (.object "com/example/segmenta/segmenta/ack/AckCode"), (.object "com/example/segmenta/segmenta/ack/AckCode"), (.object "com/example/segmenta/segmenta/ack/AckCode"), (.object "com/example/segmenta/segmenta/ack/AckCode"), (.array (.object "com/example/segmenta/segmenta/ack/AckCode"))]
  resolved := Array.replicate 71 none
  statics := some 0 }

def pool7 : Array CpInfo := pool [(1, u "java/lang/Cloneable"), (0, .class_ 1), (0, u "java/lang/Object"), (0, .class_ 3)] 3

/-- java/lang/Cloneable -/
def k7 : Class := { plain "java/lang/Cloneable" (some 0) with
  accessFlags := 1537
  interfaces := #[]
  cf := some (fileOf pool7 2 #[] #[] 1537 4 #[] #[])
  fields := #[]
  methods := #[]
  instanceTypes := #[]
  staticTypes := #[]
  resolved := Array.replicate 8 none
  statics := none }

/-- the primitive byte -/
def k8 : Class := { plain "byte" none with kind := .primitive 'B', accessFlags := 0x411 }
/-- [B -/
def k9 : Class := { plain "[B" (some 0) with kind := .array 8 .byte, interfaces := #[7, 4], accessFlags := 1041 }

/-- the primitive int -/
def k10 : Class := { plain "int" none with kind := .primitive 'I', accessFlags := 0x411 }
/-- [I -/
def k11 : Class := { plain "[I" (some 0) with kind := .array 10 .int, interfaces := #[7, 4], accessFlags := 1041 }

def heap : Heap := #[{ cls := 6, slots := #[.ref 1, .ref 2, .ref 3, .ref 4, .ref 5, .ref 6, .null], vm := .statics 6 },
  { cls := 6, slots := #[.null, .int 0, .int 0], vm := .none },
  { cls := 6, slots := #[.null, .int 1, .int 0], vm := .none },
  { cls := 6, slots := #[.null, .int 2, .int 0], vm := .none },
  { cls := 6, slots := #[.null, .int 3, .int 0], vm := .none },
  { cls := 6, slots := #[.null, .int 4, .int 0], vm := .none },
  { cls := 6, slots := #[.null, .int 5, .int 0], vm := .none }]
def classes : Array Class := #[k0, k1, k2, k3, k4, k5, k6, k7, k8, k9, k10, k11]
def interned : List (Array UInt16 × Addr) := []
def slotsUsed : Nat := 25
def theMethod : MethodId := ⟨1, 1⟩
def args0 : Array Value := #[.int 4]
def aboutOver (below : List Frame) : State where
  vm := { classes := classes, interned := interned.toArray }
  heap := heap
  slotsUsed := slotsUsed
  threads := #[{ frames := .invoking theMethod args0 :: below }]
def below0 : List Frame := [.native { method := ⟨0, 0⟩, args := #[] }]
def about1 : State := aboutOver below0
def p0 : Program := .bare "" "" ""
def e0 : Env := launch0.env 0 0 0
theorem w_frames : about1.frames = Frame.invoking theMethod args0 :: below0 := rfl
set_option maxRecDepth 65536 in
theorem w_args : argsFit about1.vm theMethod args0 = true := by decide +kernel
set_option maxRecDepth 65536 in
theorem w_heap : heapFits about1 = true := by decide +kernel
set_option maxRecDepth 65536 in
theorem w_runnable : about1.curStatus? = some .runnable := by decide +kernel
set_option maxRecDepth 65536 in
theorem w_alone : about1.alone = true := by decide +kernel
set_option maxRecDepth 65536 in
theorem w_named : about1.methodNamed? x = some theMethod := by decide +kernel
set_option maxRecDepth 65536 in
theorem w_hears : about1.hears theMethod below0 = true := by decide +kernel
set_option maxRecDepth 65536 in
theorem w_ripe : about1.ripe theMethod args0 below0 = true := by decide +kernel
theorem w_running : about1.status = .running := rfl
set_option maxRecDepth 65536 in
theorem w_room : about1.hasRoom e0.platform room_1 = true :=
  launch0.hasRoom_least _ room_1 (by decide +kernel) (by decide +kernel) (by decide +kernel) (by decide +kernel) (by decide +kernel) (by decide +kernel)
theorem allAtoms_all (ts : List Jvm.Cond) (a : Array Jvm.Value) (st : Jvm.State) : (allAtoms ts).before a st = ts.all (fun c => c.before a st) := by
  induction ts with
  | nil => rfl
  | cons c t ih =>
    show (Jvm.Cond.and c (allAtoms t)).before a st = _
    rw [Jvm.Cond.before_and, ih, List.all_cons]
def words1 : List Jvm.Cond := Jvm.Cond.code x code maxLocals ret :: tables_1
/-- a 'code' word, met by the world's own term for the bytes: nothing is compared byte by byte -/
theorem code_word {y : MethodName} {bytes : ByteArray} {mx : Nat} {rt : Option FieldType} {a : Array Value} {s : State} {m : MethodId} {meth : Method} {c : Code} (h1 : s.methodNamed? y = some m) (h2 : s.vm.method? m = some meth) (h3 : meth.code = some c) (h4 : c.code = bytes)
    (h5 : (c.maxLocals == mx && c.exceptionTable.isEmpty && decide (c.maxStack ≤ mostOperands) && decide (meth.sig.returnType = rt) && !meth.locks && decide (parseMethodDescriptor y.desc = some meth.sig)) = true) : (Jvm.Cond.code y bytes mx rt).before a s = true := by
  simp only [Bool.and_eq_true, beq_iff_eq, Bool.not_eq_true', decide_eq_true_eq] at h5
  obtain ⟨⟨⟨⟨⟨g1, g2⟩, g3⟩, g4⟩, g5⟩, g6⟩ := h5
  simp [Cond.before, Cond.holds, Cond.value, h1, h2, h3, h4, g1, g2, g3, g4, g5, g6]
def isCode : Jvm.Cond → Bool
  | .code _ _ _ _ => true
  | _ => false
theorem all_split {L : List Jvm.Cond} {P : Jvm.Cond → Bool} (h1 : L.all (fun c => isCode c || P c) = true) (h2 : ∀ c ∈ L.filter isCode, P c = true) : L.all P = true := by
  refine List.all_eq_true.mpr fun c hc => ?_
  have h := List.all_eq_true.mp h1 c hc
  rcases Bool.eq_false_or_eq_true (isCode c) with hi | hi
  · exact h2 c (List.mem_filter.mpr ⟨hc, hi⟩)
  · simpa [hi] using h
set_option maxRecDepth 65536 in
theorem w_c0 : (Jvm.Cond.code x code maxLocals ret).before args0 about1 = true := code_word (m := ⟨1, 1⟩) (meth := k1m1) (c := k1c1) (by decide +kernel) rfl rfl rfl (by decide +kernel)
set_option maxRecDepth 65536 in
theorem w_c1 : (Jvm.Cond.code ({ cls := "com/example/segmenta/segmenta/ack/AckCode", name := "reportsError", desc := "()Z" } : Jvm.MethodName) prog_25_method_5_code (1 : Nat) (Option.some Jvm.ClassFile.FieldType.boolean)).before args0 about1 = true := code_word (m := ⟨6, 1⟩) (meth := k6m1) (c := k6c1) (by decide +kernel) rfl rfl rfl (by decide +kernel)
set_option maxRecDepth 65536 in
theorem w_c2 : (Jvm.Cond.code ({ cls := "com/example/segmenta/segmenta/ack/AckCode", name := "reject", desc := "()Lcom/example/segmenta/segmenta/ack/AckCode;" } : Jvm.MethodName) prog_25_method_6_code (1 : Nat) (Option.some (Jvm.ClassFile.FieldType.object "com/example/segmenta/segmenta/ack/AckCode"))).before args0 about1 = true := code_word (m := ⟨6, 2⟩) (meth := k6m2) (c := k6c2) (by decide +kernel) rfl rfl rfl (by decide +kernel)
set_option maxRecDepth 65536 in
theorem w_c3 : (Jvm.Cond.code ({ cls := "com/example/segmenta/segmenta/ack/AckCode", name := "isAcceptLevel", desc := "()Z" } : Jvm.MethodName) prog_25_method_4_code (1 : Nat) (Option.some Jvm.ClassFile.FieldType.boolean)).before args0 about1 = true := code_word (m := ⟨6, 0⟩) (meth := k6m0) (c := k6c0) (by decide +kernel) rfl rfl rfl (by decide +kernel)
def codes1 : List Jvm.Cond := [Jvm.Cond.code x code maxLocals ret, Jvm.Cond.code ({ cls := "com/example/segmenta/segmenta/ack/AckCode", name := "reportsError", desc := "()Z" } : Jvm.MethodName) prog_25_method_5_code (1 : Nat) (Option.some Jvm.ClassFile.FieldType.boolean), Jvm.Cond.code ({ cls := "com/example/segmenta/segmenta/ack/AckCode", name := "reject", desc := "()Lcom/example/segmenta/segmenta/ack/AckCode;" } : Jvm.MethodName) prog_25_method_6_code (1 : Nat) (Option.some (Jvm.ClassFile.FieldType.object "com/example/segmenta/segmenta/ack/AckCode")), Jvm.Cond.code ({ cls := "com/example/segmenta/segmenta/ack/AckCode", name := "isAcceptLevel", desc := "()Z" } : Jvm.MethodName) prog_25_method_4_code (1 : Nat) (Option.some Jvm.ClassFile.FieldType.boolean)]
set_option maxRecDepth 65536 in
theorem codes_eq : words1.filter isCode = codes1 := rfl
theorem w_codes : ∀ c ∈ words1.filter isCode, c.before args0 about1 = true := by
  rw [codes_eq]
  intro c hc
  simp only [codes1, List.mem_cons, List.not_mem_nil, or_false] at hc
  rcases hc with rfl | rfl | rfl | rfl
  · exact w_c0
  · exact w_c1
  · exact w_c2
  · exact w_c3
set_option maxRecDepth 65536 in
theorem w_t1 : (words1.take 24).all (fun c => isCode c || c.before args0 about1) = true := by decide +kernel
set_option maxRecDepth 65536 in
theorem w_t2 : (words1.drop 24).all (fun c => isCode c || c.before args0 about1) = true := by decide +kernel
theorem w_tables : (allAtoms (Jvm.Cond.code x code maxLocals ret :: tables_1)).before args0 about1 = true := by
  rw [allAtoms_all]
  show words1.all (fun c => c.before args0 about1) = true
  refine all_split ?_ w_codes
  rw [← List.take_append_drop 24 words1, List.all_append, w_t1, w_t2]
  rfl
set_option maxRecDepth 65536 in
theorem w_case : (Jvm.Cond.and given_1 narrow_1).before args0 about1 = true := by decide +kernel
theorem w_applies : (headSpec (Jvm.Cond.code x code maxLocals ret :: tables_1) room_1).applies x e0.platform about1 = true :=
  (Spec.applies_iff w_frames).mpr ⟨w_running, w_runnable, w_alone, w_named, w_hears, w_ripe, w_room, w_tables⟩
theorem atStart : AtStart classFile x code maxLocals ret World_1 tables_1 room_1 Calls_1 rest_1 Pre_1 launch0 p0 e0 about1 theMethod args0 below0 :=
  ⟨lists_1, trivial, launch0.admits_env _ _ _, launch0.least_env, fairChoices_fair.cas, fairChoices_fair.clock, w_frames, w_args, w_heap, w_applies, trivial, trivial, w_case⟩
end start1
theorem witness_1 : WitnessClaimed_1 := ⟨start1.p0, start1.e0, start1.about1, start1.theMethod, start1.args0, start1.below0, start1.atStart⟩
end Jvm.Pilot.@@N@@
