import JvmDerived
import JvmDerived.Pilot.@@N@@Statement
import JvmDerived.Pilot.@@N@@Code
set_option linter.unusedVariables false
set_option linter.unusedSimpArgs false
/- laws to paste: Road.backV, Road.chN, Road.eqW, Road.codOf (cut by pick.py; bodies as the Statement names them) -/
namespace Jvm.Pilot.@@N@@
namespace StrChars
open Jvm Sem ClassFile Op Lib Jvm.Stand Jvm.Free.XT Jvm.Free.ALB Jvm.Free.JM Jvm.Free
open Jvm.Lib.Cold (StaticIs)
/-- a char array whose places are chars -/
def Ch (a : Addr) (A : Cell) (U : State) : Prop := Arr .char a A U ∧ Typed .char A
theorem Ch.mv {a : Addr} {A : Cell} {U U' : State} (h : Ch a A U) (hal : U.vm.Alike U'.vm) (hh : U'.heap = U.heap) : Ch a A U' := ⟨h.1.mv hal hh, h.2⟩
theorem Ch.keep {a : Addr} {A : Cell} {U U' : State} (h : Ch a A U) (hal : U.vm.Alike U'.vm) (hk : U'.heap[a]? = some A) : Ch a A U' := ⟨h.1.keep hal hk, h.2⟩
/-- what place i of a char[]'s cell holds -/
def cv (A : Cell) (i : Nat) : Int32 := match A.slots[i]? with | some (.int x) => x | _ => 0
theorem Ch.get {a : Addr} {A : Cell} {U : State} (h : Ch a A U) {i : Nat} (hi : i < A.slots.size) : A.slots[i]? = some (.int (cv A i)) := by
  have e := Array.getElem?_eq_getElem hi
  have f := h.2 i _ e
  unfold cv; rw [e]
  generalize A.slots[i] = v at f
  cases v <;> simp [fits] at f ⊢
/-- the byte that i2b leaves of a char -/
def lo8 (x : Int32) : Int32 := x.toInt8.toInt32
theorem fits_lo8 (y : Int32) : fits .byte (.int (lo8 y)) = true := by
  have h1 := y.toInt8.le_toInt
  have h2 := y.toInt8.toInt_lt
  simp only [lo8, fits, Bool.and_eq_true, decide_eq_true_eq, Int32.le_iff_toInt_le, Int8.toInt_toInt32, show (-128 : Int32).toInt = -128 from by decide, show (127 : Int32).toInt = 127 from by decide]
  omega
/-- A' is A but that each place j of lo .. hi - 1 holds f j -/
def Laid (A A' : Cell) (lo hi : Nat) (f : Nat → Value) : Prop := A'.cls = A.cls ∧ A'.vm = A.vm ∧ A'.slots.size = A.slots.size ∧ ∀ i, A'.slots[i]? = if lo ≤ i ∧ i < hi then some (f i) else A.slots[i]?
theorem Laid.zero (A : Cell) (lo : Nat) (f : Nat → Value) : Laid A A lo (lo + 0) f := ⟨rfl, rfl, rfl, fun i => by rw [if_neg (by omega)]⟩
theorem Laid.step {A Ak : Cell} {lo k : Nat} {f : Nat → Value} {v : Value} (h : Laid A Ak lo k f) (hlo : lo ≤ k) (hk : k < Ak.slots.size) (hv : v = f k) : Laid A (Ak.setSlot k v) lo (k + 1) f := by
  refine ⟨h.1, h.2.1, by simpa [Cell.setSlot] using h.2.2.1, fun i => ?_⟩
  by_cases e : k = i
  · subst e; rw [Cell.slots_setSlot_self v hk, if_pos (by omega), hv]
  · rw [Cell.slots_setSlot_ne v e, h.2.2.2 i]
    by_cases q : lo ≤ i ∧ i < k
    · rw [if_pos q, if_pos (by omega)]
    · rw [if_neg q, if_neg (by omega)]
def U16 : String := "java/lang/StringUTF16"
namespace Cmp5
def yN : MethodName := ⟨"java/lang/StringUTF16", "compress", "([CI[BII)I"⟩
abbrev yB : ByteArray := jdk_52_method_21_code
theorem d0 : decode yB 0 = .ok (.iconst 0, 1) := by decide +kernel
theorem d1 : decode yB 1 = .ok (.istore 5, 2) := by decide +kernel
theorem d3 : decode yB 3 = .ok (.iload 5, 2) := by decide +kernel
theorem d5 : decode yB 5 = .ok (.iload 4, 2) := by decide +kernel
theorem d7 : decode yB 7 = .ok (.if_icmp (.ge) 37, 3) := by decide +kernel
theorem d10 : decode yB 10 = .ok (.aload_n 0, 1) := by decide +kernel
theorem d11 : decode yB 11 = .ok (.iload_n 1, 1) := by decide +kernel
theorem d12 : decode yB 12 = .ok (.caload, 1) := by decide +kernel
theorem d13 : decode yB 13 = .ok (.istore 6, 2) := by decide +kernel
theorem d15 : decode yB 15 = .ok (.iload 6, 2) := by decide +kernel
theorem d17 : decode yB 17 = .ok (.sipush 255, 3) := by decide +kernel
theorem d20 : decode yB 20 = .ok (.if_icmp (.le) 6, 3) := by decide +kernel
theorem d26 : decode yB 26 = .ok (.aload_n 2, 1) := by decide +kernel
theorem d27 : decode yB 27 = .ok (.iload_n 3, 1) := by decide +kernel
theorem d28 : decode yB 28 = .ok (.iload 6, 2) := by decide +kernel
theorem d30 : decode yB 30 = .ok (.i2b, 1) := by decide +kernel
theorem d31 : decode yB 31 = .ok (.bastore, 1) := by decide +kernel
theorem d32 : decode yB 32 = .ok (.iinc 1 1, 3) := by decide +kernel
theorem d35 : decode yB 35 = .ok (.iinc 3 1, 3) := by decide +kernel
theorem d38 : decode yB 38 = .ok (.iinc 5 1, 3) := by decide +kernel
theorem d41 : decode yB 41 = .ok (.goto (-38), 3) := by decide +kernel
theorem d44 : decode yB 44 = .ok (.iload 4, 2) := by decide +kernel
theorem d46 : decode yB 46 = .ok (.ireturn, 1) := by decide +kernel
def site : List Cond := []
def tab : Cond := tabOf yN yB 7 (some .int) site
def P (b : Addr) (A : Cell) (d : Addr) (B : Cell) (o q len : Nat) (args : Array Value) (s : State) : Prop := args = #[.ref b, .int (Int32.ofNat o), .ref d, .int (Int32.ofNat q), .int (Int32.ofNat len)] ∧ Ch b A s ∧ Arr .byte d B s ∧ b ≠ d ∧ o + len ≤ A.slots.size ∧ q + len ≤ B.slots.size ∧ ∀ i, i < len → ¬ 255 < cv A (o + i)
def E (b : Addr) (A : Cell) (d : Addr) (B : Cell) (o q len : Nat) (r : Option Value) (s u : State) : Prop := r = some (.int (Int32.ofNat len)) ∧ ∃ B', Put d B' s u ∧ Laid B B' q (q + len) (fun j => Value.int (lo8 (cv A (o + (j - q)))))
/-- no char of the range above 255: len; the places written hold each char's low byte -/
theorem law (l : Launch) (b : Addr) (A : Cell) (d : Addr) (B : Cell) (o q len : Nat) : Law l yN 5 5 0 0 yB 7 (some .int) site (P b A d B o q len) (E b A d B o q len) (copyLocs d q len) 0 0 := by
  refine Law.of_walk (plainFor_of_name (by decide +kernel)) (by decide +kernel) (by decide +kernel) (by decide) (fun _ _ h => by rw [h.1]; rfl) (fun _ U U' hal hh h => ⟨h.1, h.2.1.mv hal hh, h.2.2.1.mv hal hh, h.2.2.2⟩) (fun r U U' V V' h1 hal h2 h => ⟨h.1, h.2.elim fun B' q => ⟨B', q.1.mv h1 h2, q.2⟩⟩) ?_
  intro p e s m args below meth c s₁ X0 hexec hbytes hml hret hlk hnm hown hh0 W hP
  obtain ⟨rfl, hA, hB, hne, l1, l2, hp⟩ := hP
  have c1 : Steps p.tables e below (s₁.setTop (entryFrame m #[.ref b, .int (Int32.ofNat o), .ref d, .int (Int32.ofNat q), .int (Int32.ofNat len)] 7)) (s₁.setTop (mkF m 0 #[.val (.ref b), .val (.int (Int32.ofNat o)), .val (.ref d), .val (.int (Int32.ofNat q)), .val (.int (Int32.ofNat len)), .unset, .unset] [])) := entry rfl
  have hA0 := hA.1.mv X0.warmed.alike hh0
  have hB0 := hB.mv X0.warmed.alike hh0
  have a31 := hA.1.2.2.2
  have c2 : Steps p.tables e below (s₁.setTop (entryFrame m #[.ref b, .int (Int32.ofNat o), .ref d, .int (Int32.ofNat q), .int (Int32.ofNat len)] 7)) (s₁.setTop (mkF m 3 #[.val (.ref b), .val (.int (Int32.ofNat o)), .val (.ref d), .val (.int (Int32.ofNat q)), .val (.int (Int32.ofNat len)), .val (.int 0), .unset] [])) := c1.trans (by
    refine iconstV X0.here hexec rfl 0 (hb hbytes d0) (by decide) ?_
    refine XS.istore X0.here hexec rfl (hb hbytes d1) rfl rfl ?_
    exact Steps.refl _)
  have loop : ∀ (r i : Nat), i + r = len → ∀ (z : Slot), (z = .unset ∨ ∃ w, z = .val w ∧ w.category = 1) → ∀ (Tl : State) (Bk : Cell), Stand p l e { frames := 0, locals := 0, cells := 0, slots := 0 } s m #[.ref b, .int (Int32.ofNat o), .ref d, .int (Int32.ofNat q), .int (Int32.ofNat len)] below meth c Tl ([] ++ copyLocs d q i) 0 0 → Put d Bk s₁ Tl → Laid B Bk q (q + i) (fun j => Value.int (lo8 (cv A (o + (j - q))))) →
      Steps p.tables e below (s₁.setTop (entryFrame m #[.ref b, .int (Int32.ofNat o), .ref d, .int (Int32.ofNat q), .int (Int32.ofNat len)] 7)) (Tl.setTop (mkF m 3 #[.val (.ref b), .val (.int (Int32.ofNat (o + i))), .val (.ref d), .val (.int (Int32.ofNat (q + i))), .val (.int (Int32.ofNat len)), .val (.int (Int32.ofNat i)), z] [])) → ∃ (T' : State) (B' : Cell) (z' : Slot), Stand p l e { frames := 0, locals := 0, cells := 0, slots := 0 } s m #[.ref b, .int (Int32.ofNat o), .ref d, .int (Int32.ofNat q), .int (Int32.ofNat len)] below meth c T' ([] ++ copyLocs d q len) 0 0 ∧ Put d B' s₁ T' ∧ Laid B B' q (q + len) (fun j => Value.int (lo8 (cv A (o + (j - q))))) ∧
      Steps p.tables e below (s₁.setTop (entryFrame m #[.ref b, .int (Int32.ofNat o), .ref d, .int (Int32.ofNat q), .int (Int32.ofNat len)] 7)) (T'.setTop (mkF m 3 #[.val (.ref b), .val (.int (Int32.ofNat (o + len))), .val (.ref d), .val (.int (Int32.ofNat (q + len))), .val (.int (Int32.ofNat len)), .val (.int (Int32.ofNat len)), z'] [])) := by
    intro r
    induction r with
    | zero =>
      intro i hi z hz Tl Bk Xl pl fl cl
      have hil : i = len := by omega
      rw [hil] at Xl fl cl
      exact ⟨Tl, Bk, z, Xl, pl, fl, cl⟩
    | succ r ih =>
      intro i hi z hz Tl Bk Xl pl fl cl
      have all := X0.warmed.alike.symm.trans Xl.warmed.alike
      have hAl := hA0.keep all (pl.other hne hA0.1)
      have hBk := hB0.like all pl.1 fl.1 fl.2.1 fl.2.2.1
      have hlt : q + i < Bk.slots.size := by rw [fl.2.2.1]; omega
      have c3 : Steps p.tables e below (s₁.setTop (entryFrame m #[.ref b, .int (Int32.ofNat o), .ref d, .int (Int32.ofNat q), .int (Int32.ofNat len)] 7)) (Tl.setTop (mkF m 12 #[.val (.ref b), .val (.int (Int32.ofNat (o + i))), .val (.ref d), .val (.int (Int32.ofNat (q + i))), .val (.int (Int32.ofNat len)), .val (.int (Int32.ofNat i)), z] [.int (Int32.ofNat (o + i)), .ref b])) := cl.trans (by
        refine XS.iload Xl.here hexec rfl (hb hbytes d3) rfl ?_
        refine XS.iload Xl.here hexec rfl (hb hbytes d5) rfl ?_
        refine XS.icmpNo Xl.here hexec rfl (hb hbytes d7) rfl (ii_ge_f (lt32 (by omega) (by omega))) ?_
        refine XS.aloadN Xl.here hexec rfl (hb hbytes d10) rfl rfl ?_
        refine XS.iloadN Xl.here hexec rfl (hb hbytes d11) rfl ?_
        exact Steps.refl _)
      have c4 : Steps p.tables e below (s₁.setTop (entryFrame m #[.ref b, .int (Int32.ofNat o), .ref d, .int (Int32.ofNat q), .int (Int32.ofNat len)] 7)) (Tl.setTop (mkF m 13 #[.val (.ref b), .val (.int (Int32.ofNat (o + i))), .val (.ref d), .val (.int (Int32.ofNat (q + i))), .val (.int (Int32.ofNat len)), .val (.int (Int32.ofNat i)), z] [.int (cv A (o + i))])) := c3.trans (by
        refine Xl.aget hexec hAl rfl (hA.get (i := o + i) (by omega)) rfl rfl (hb hbytes d12) ?_
        exact Steps.refl _)
      have c5 : Steps p.tables e below (s₁.setTop (entryFrame m #[.ref b, .int (Int32.ofNat o), .ref d, .int (Int32.ofNat q), .int (Int32.ofNat len)] 7)) (Tl.setTop (mkF m 15 #[.val (.ref b), .val (.int (Int32.ofNat (o + i))), .val (.ref d), .val (.int (Int32.ofNat (q + i))), .val (.int (Int32.ofNat len)), .val (.int (Int32.ofNat i)), .val (.int (cv A (o + i)))] [])) := c4.trans (by
        refine XS.istoreS Xl.here hexec rfl (hb hbytes d13) rfl rfl hz ?_
        exact Steps.refl _)
      have c6 : Steps p.tables e below (s₁.setTop (entryFrame m #[.ref b, .int (Int32.ofNat o), .ref d, .int (Int32.ofNat q), .int (Int32.ofNat len)] 7)) (Tl.setTop (mkF m 31 #[.val (.ref b), .val (.int (Int32.ofNat (o + i))), .val (.ref d), .val (.int (Int32.ofNat (q + i))), .val (.int (Int32.ofNat len)), .val (.int (Int32.ofNat i)), .val (.int (cv A (o + i)))] [.int (lo8 (cv A (o + i))), .int (Int32.ofNat (q + i)), .ref d])) := c5.trans (by
        refine XS.iload Xl.here hexec rfl (hb hbytes d15) rfl ?_
        refine sipushV Xl.here hexec rfl 255 (hb hbytes d17) (by decide) ?_
        refine XS.icmpYes Xl.here hexec rfl (pc0 := 20) rfl (hb hbytes d20) rfl (ii_le_t (hp i (by omega))) (by decide) rfl ?_
        refine XS.aloadN Xl.here hexec rfl (hb hbytes d26) rfl rfl ?_
        refine XS.iloadN Xl.here hexec rfl (hb hbytes d27) rfl ?_
        refine XS.iload Xl.here hexec rfl (hb hbytes d28) rfl ?_
        refine i2b Xl.here hexec rfl (hb hbytes d30) rfl ?_
        exact Steps.refl _)
      obtain ⟨T7, X7, p7, st7⟩ := Xl.aput hexec hBk rfl hlt rfl (fits_lo8 (cv A (o + i))) (g := (mkF m 31 #[.val (.ref b), .val (.int (Int32.ofNat (o + i))), .val (.ref d), .val (.int (Int32.ofNat (q + i))), .val (.int (Int32.ofNat len)), .val (.int (Int32.ofNat i)), .val (.int (cv A (o + i)))] [.int (lo8 (cv A (o + i))), .int (Int32.ofNat (q + i)), .ref d])) rfl (rest := []) rfl (hb hbytes d31)
      have c8 : Steps p.tables e below (s₁.setTop (entryFrame m #[.ref b, .int (Int32.ofNat o), .ref d, .int (Int32.ofNat q), .int (Int32.ofNat len)] 7)) (T7.setTop (mkF m 32 #[.val (.ref b), .val (.int (Int32.ofNat (o + i))), .val (.ref d), .val (.int (Int32.ofNat (q + i))), .val (.int (Int32.ofNat len)), .val (.int (Int32.ofNat i)), .val (.int (cv A (o + i)))] [])) := c6.trans (st7 _ (Steps.refl _))
      have c9 : Steps p.tables e below (s₁.setTop (entryFrame m #[.ref b, .int (Int32.ofNat o), .ref d, .int (Int32.ofNat q), .int (Int32.ofNat len)] 7)) (T7.setTop (mkF m 3 #[.val (.ref b), .val (.int (Int32.ofNat (o + i) + 1)), .val (.ref d), .val (.int (Int32.ofNat (q + i) + 1)), .val (.int (Int32.ofNat len)), .val (.int (Int32.ofNat i + 1)), .val (.int (cv A (o + i)))] [])) := c8.trans (by
        refine iincV X7.here hexec rfl 1 (hb hbytes d32) (by decide) rfl rfl ?_
        refine iincV X7.here hexec rfl 1 (hb hbytes d35) (by decide) rfl rfl ?_
        refine iincV X7.here hexec rfl 1 (hb hbytes d38) (by decide) rfl rfl ?_
        refine XS.goto X7.here hexec rfl (pc0 := 41) rfl (hb hbytes d41) (by decide) rfl ?_
        exact Steps.refl _)
      have c10 : Steps p.tables e below (s₁.setTop (entryFrame m #[.ref b, .int (Int32.ofNat o), .ref d, .int (Int32.ofNat q), .int (Int32.ofNat len)] 7)) (T7.setTop (mkF m 3 #[.val (.ref b), .val (.int (Int32.ofNat (o + (i + 1)))), .val (.ref d), .val (.int (Int32.ofNat (q + (i + 1)))), .val (.int (Int32.ofNat len)), .val (.int (Int32.ofNat (i + 1))), .val (.int (cv A (o + i)))] [])) := by
        have := c9
        rw [succ32, succ32, succ32] at this
        exact this
      exact ih (i + 1) (by omega) _ (Or.inr ⟨_, rfl, rfl⟩) T7 _ (by rw [copyLocs_step, ← List.append_assoc]; exact X7) (pl.trans p7) (fl.step (by omega) hlt (by simp)) c10
  obtain ⟨T9, B9, z9, X9, p9, f9, g9⟩ := loop len 0 (by omega) .unset (Or.inl rfl) s₁ B (by simpa [copyLocs] using X0) ⟨hB0.1, fun _ _ => rfl, rfl⟩ (Laid.zero _ _ _) c2
  have c11 : Steps p.tables e below (s₁.setTop (entryFrame m #[.ref b, .int (Int32.ofNat o), .ref d, .int (Int32.ofNat q), .int (Int32.ofNat len)] 7)) (T9.setTop (mkF m 46 #[.val (.ref b), .val (.int (Int32.ofNat (o + len))), .val (.ref d), .val (.int (Int32.ofNat (q + len))), .val (.int (Int32.ofNat len)), .val (.int (Int32.ofNat len)), z9] [.int (Int32.ofNat len)])) := g9.trans (by
    refine XS.iload X9.here hexec rfl (hb hbytes d3) rfl ?_
    refine XS.iload X9.here hexec rfl (hb hbytes d5) rfl ?_
    refine XS.icmpYes X9.here hexec rfl (pc0 := 7) rfl (hb hbytes d7) rfl (ii_ge_t (nlt32 (by omega) (Nat.le_refl _))) (by decide) rfl ?_
    refine XS.iload X9.here hexec rfl (hb hbytes d44) rfl ?_
    exact Steps.refl _)
  exact ⟨T9, some (.int (Int32.ofNat len)), _, _, _, X9, by simp, rfl, rfl, (fun h => by cases h), ⟨rfl, B9, p9.from hh0, f9⟩, fun fs hl => c11.trans (X9.ireturnOut hexec hret rfl (Or.inl rfl) (hb hbytes d46) hl)⟩
end Cmp5
namespace Cmp3
def yN : MethodName := ⟨"java/lang/StringUTF16", "compress", "([CII)[B"⟩
abbrev yB : ByteArray := jdk_52_method_16_code
theorem d0 : decode yB 0 = .ok (.iload_n 2, 1) := by decide +kernel
theorem d1 : decode yB 1 = .ok (.newarray .byte, 2) := by decide +kernel
theorem d3 : decode yB 3 = .ok (.astore_n 3, 1) := by decide +kernel
theorem d4 : decode yB 4 = .ok (.aload_n 0, 1) := by decide +kernel
theorem d5 : decode yB 5 = .ok (.iload_n 1, 1) := by decide +kernel
theorem d6 : decode yB 6 = .ok (.aload_n 3, 1) := by decide +kernel
theorem d7 : decode yB 7 = .ok (.iconst 0, 1) := by decide +kernel
theorem d8 : decode yB 8 = .ok (.iload_n 2, 1) := by decide +kernel
theorem d9 : decode yB 9 = .ok (.invokestatic 115, 3) := by decide +kernel
theorem d12 : decode yB 12 = .ok (.istore 4, 2) := by decide +kernel
theorem d14 : decode yB 14 = .ok (.iload 4, 2) := by decide +kernel
theorem d16 : decode yB 16 = .ok (.iload_n 2, 1) := by decide +kernel
theorem d17 : decode yB 17 = .ok (.if_icmp (.eq) 40, 3) := by decide +kernel
theorem d57 : decode yB 57 = .ok (.aload_n 3, 1) := by decide +kernel
theorem d58 : decode yB 58 = .ok (.areturn, 1) := by decide +kernel
def site : List Cond := [.arrayClass .byte, Cmp5.tab] ++ staticW U16 115 Cmp5.yN
def tab : Cond := tabOf yN yB 6 (some (.array .byte)) site
def P (b : Addr) (A : Cell) (o len : Nat) (args : Array Value) (s : State) : Prop := args = #[.ref b, .int (Int32.ofNat o), .int (Int32.ofNat len)] ∧ Ch b A s ∧ o + len ≤ A.slots.size ∧ len ≤ 536870912 ∧ ∀ i, i < len → ¬ 255 < cv A (o + i)
def E (b : Addr) (A : Cell) (o len : Nat) (r : Option Value) (s u : State) : Prop := NewArr .byte "[B" len (fun j => .int (lo8 (cv A (o + j)))) r s u ∧ u.heap.size = s.heap.size + 1
/-- no char of the range above 255: a new byte[] of their low bytes -/
theorem law (l : Launch) (b : Addr) (A : Cell) (o len : Nat) : Law l yN 3 3 1 18 yB 6 (some (.array .byte)) site (P b A o len) (E b A o len) [] 1 len := by
  refine Law.of_walk (plainFor_of_name (by decide +kernel)) (by decide +kernel) (by decide +kernel) (by decide) (fun _ _ h => by rw [h.1]; rfl) (fun _ U U' hal hh h => ⟨h.1, h.2.1.mv hal hh, h.2.2⟩) (fun r U U' V V' h1 hal h2 h => ⟨NewArr.mv r U U' V V' h1 hal h2 h.1, by rw [h1, h2]; exact h.2⟩) ?_
  intro p e s m args below meth c s₁ X0 hexec hbytes hml hret hlk hnm hown hh0 W hP
  obtain ⟨rfl, hA, l1, l2, hp⟩ := hP
  have a31 := hA.1.2.2.2
  have c1 : Steps p.tables e below (s₁.setTop (entryFrame m #[.ref b, .int (Int32.ofNat o), .int (Int32.ofNat len)] 6)) (s₁.setTop (mkF m 0 #[.val (.ref b), .val (.int (Int32.ofNat o)), .val (.int (Int32.ofNat len)), .unset, .unset, .unset] [])) := entry rfl
  have c2 : Steps p.tables e below (s₁.setTop (entryFrame m #[.ref b, .int (Int32.ofNat o), .int (Int32.ofNat len)] 6)) (s₁.setTop (mkF m 1 #[.val (.ref b), .val (.int (Int32.ofNat o)), .val (.int (Int32.ofNat len)), .unset, .unset, .unset] [.int (Int32.ofNat len)])) := c1.trans (by
    refine XS.iloadN X0.here hexec rfl (hb hbytes d0) rfl ?_
    exact Steps.refl _)
  obtain ⟨T3, B3, X3, ba3, bs3, bv3, bh3, bf3, st3⟩ := X0.anew hexec (atype := .byte) (wk W (.arrayClass .byte)) rfl (by show len * 1 ≤ _; omega) (by omega) (g := (mkF m 1 #[.val (.ref b), .val (.int (Int32.ofNat o)), .val (.int (Int32.ofNat len)), .unset, .unset, .unset] [.int (Int32.ofNat len)])) rfl (hb hbytes d1) (rest := []) rfl (Nat.le_refl _) (by show 0 + len ≤ len; omega)
  rw [hh0] at ba3 st3
  have kp3 : XT.Kept s T3 := (XT.Kept.of_eq hh0).push bh3
  have hA3 := hA.keep X3.warmed.alike (kp3 _ _ hA.1.1)
  have hne : b ≠ s.heap.size := hA.1.ne
  have c4 : Steps p.tables e below (s₁.setTop (entryFrame m #[.ref b, .int (Int32.ofNat o), .int (Int32.ofNat len)] 6)) (T3.setTop (mkF m 3 #[.val (.ref b), .val (.int (Int32.ofNat o)), .val (.int (Int32.ofNat len)), .unset, .unset, .unset] [.ref s.heap.size])) := c2.trans (st3 _ (Steps.refl _))
  have c5 : Steps p.tables e below (s₁.setTop (entryFrame m #[.ref b, .int (Int32.ofNat o), .int (Int32.ofNat len)] 6)) (T3.setTop (mkF m 9 #[.val (.ref b), .val (.int (Int32.ofNat o)), .val (.int (Int32.ofNat len)), .val (.ref s.heap.size), .unset, .unset] [.int (Int32.ofNat len), .int 0, .ref s.heap.size, .int (Int32.ofNat o), .ref b])) := c4.trans (by
    refine XS.astoreN X3.here hexec rfl (hb hbytes d3) rfl rfl rfl ?_
    refine XS.aloadN X3.here hexec rfl (hb hbytes d4) rfl rfl ?_
    refine XS.iloadN X3.here hexec rfl (hb hbytes d5) rfl ?_
    refine XS.aloadN X3.here hexec rfl (hb hbytes d6) rfl rfl ?_
    refine iconstV X3.here hexec rfl 0 (hb hbytes d7) (by decide) ?_
    refine XS.iloadN X3.here hexec rfl (hb hbytes d8) rfl ?_
    exact Steps.refl _)
  obtain ⟨v6, T6, X6, E6, g6⟩ := X3.callS hexec (Cmp5.law l b A s.heap.size B3 o 0 len) hown (wks W (staticW U16 115 Cmp5.yN)) (wk W Cmp5.tab) (W := 0) (Nat.le_of_ble_eq_true rfl) (Nat.le_of_ble_eq_true rfl) (Nat.le_refl _) (by show 0 + len + 0 ≤ len; omega) (g := (mkF m 9 #[.val (.ref b), .val (.int (Int32.ofNat o)), .val (.int (Int32.ofNat len)), .val (.ref s.heap.size), .unset, .unset] [.int (Int32.ofNat len), .int (Int32.ofNat 0), .ref s.heap.size, .int (Int32.ofNat o), .ref b])) rfl (by rw [hml]; rfl) c5 (argsL := [.ref b, .int (Int32.ofNat o), .ref s.heap.size, .int (Int32.ofNat 0), .int (Int32.ofNat len)]) (rest := []) rfl rfl (by show 2 * 0 + 0 ≤ _; decide) (hb hbytes d9) (⟨rfl, hA3, ba3, hne, l1, by rw [bs3]; simp, hp⟩)
  obtain ⟨rfl, B6, p6, f6⟩ := E6
  have c7 : Steps p.tables e below (s₁.setTop (entryFrame m #[.ref b, .int (Int32.ofNat o), .int (Int32.ofNat len)] 6)) (T6.setTop (mkF m 12 #[.val (.ref b), .val (.int (Int32.ofNat o)), .val (.int (Int32.ofNat len)), .val (.ref s.heap.size), .unset, .unset] [.int (Int32.ofNat len)])) := g6
  have c8 : Steps p.tables e below (s₁.setTop (entryFrame m #[.ref b, .int (Int32.ofNat o), .int (Int32.ofNat len)] 6)) (T6.setTop (mkF m 58 #[.val (.ref b), .val (.int (Int32.ofNat o)), .val (.int (Int32.ofNat len)), .val (.ref s.heap.size), .val (.int (Int32.ofNat len)), .unset] [.ref s.heap.size])) := c7.trans (by
    refine XS.istore X6.here hexec rfl (hb hbytes d12) rfl rfl ?_
    refine XS.iload X6.here hexec rfl (hb hbytes d14) rfl ?_
    refine XS.iloadN X6.here hexec rfl (hb hbytes d16) rfl ?_
    refine XS.icmpYes X6.here hexec rfl (pc0 := 17) rfl (hb hbytes d17) rfl (ii_eq_t rfl) (by decide) rfl ?_
    refine XS.aloadN X6.here hexec rfl (hb hbytes d57) rfl rfl ?_
    exact Steps.refl _)
  have X8 := X6.wide (L' := []) (cells' := 1) (slots' := len) (fun x hx hlt => by
    simp only [List.nil_append, copyLocs, List.mem_map, List.mem_range] at hx
    obtain ⟨i, -, rfl⟩ := hx
    exact absurd hlt (Nat.lt_irrefl _)) (Nat.le_refl _) (by omega)
  exact ⟨T6, some (.ref s.heap.size), _, _, _, X8, rfl, rfl, rfl, (fun h => by cases h), ⟨⟨rfl, B6, ba3.like (X3.warmed.alike.symm.trans X6.warmed.alike) p6.1 f6.1 f6.2.1 f6.2.2.1, f6.2.1.trans bv3, by rw [X6.warmed.alike.findClass, f6.1]; exact bf3, by rw [f6.2.2.1, bs3]; simp, fun j hj => by rw [f6.2.2.2 j, if_pos (by omega)]; rfl, kp3.put p6 (Nat.le_refl _)⟩, by rw [p6.2.2, bh3, hh0]; simp⟩, fun fs hl => c8.trans (X8.areturnOut hexec rfl hret rfl (hb hbytes d58) hl)⟩
end Cmp3
namespace CodL
def yN : MethodName := ⟨"java/lang/StringUTF16", "coderFromArrayLen", "([BI)B"⟩
abbrev yB : ByteArray := jdk_52_method_15_code
theorem d0 : decode yB 0 = .ok (.iload_n 1, 1) := by decide +kernel
theorem d1 : decode yB 1 = .ok (.aload_n 0, 1) := by decide +kernel
theorem d2 : decode yB 2 = .ok (.arraylength, 1) := by decide +kernel
theorem d3 : decode yB 3 = .ok (.isub, 1) := by decide +kernel
theorem d4 : decode yB 4 = .ok (.bipush 31, 2) := by decide +kernel
theorem d6 : decode yB 6 = .ok (.iushr, 1) := by decide +kernel
theorem d7 : decode yB 7 = .ok (.i2b, 1) := by decide +kernel
theorem d8 : decode yB 8 = .ok (.ireturn, 1) := by decide +kernel
def site : List Cond := []
def tab : Cond := tabOf yN yB 2 (some .byte) site
def P (d : Addr) (B : Cell) (args : Array Value) (s : State) : Prop := args = #[.ref d, .int (Int32.ofNat B.slots.size)] ∧ Arr .byte d B s
def E (r : Option Value) (s u : State) : Prop := XT.PureE (some (.int 0)) r s u
/-- an array as long as the number of chars: LATIN1 -/
theorem law (l : Launch) (d : Addr) (B : Cell) : Law l yN 2 2 0 0 yB 2 (some .byte) site (P d B) E [] 0 0 := by
  refine Law.of_walk (plainFor_of_name (by decide +kernel)) (by decide +kernel) (by decide +kernel) (by decide) (fun _ _ h => by rw [h.1]; rfl) (fun _ U U' hal hh h => ⟨h.1, h.2.mv hal hh⟩) (fun r U U' V V' h1 hal h2 h => XT.PureE.mv r U U' V V' h1 hal h2 h) ?_
  intro p e s m args below meth c s₁ X0 hexec hbytes hml hret hlk hnm hown hh0 W hP
  obtain ⟨rfl, hB⟩ := hP
  have hB0 := hB.mv X0.warmed.alike hh0
  have c1 : Steps p.tables e below (s₁.setTop (entryFrame m #[.ref d, .int (Int32.ofNat B.slots.size)] 2)) (s₁.setTop (mkF m 0 #[.val (.ref d), .val (.int (Int32.ofNat B.slots.size))] [])) := entry rfl
  have c2 : Steps p.tables e below (s₁.setTop (entryFrame m #[.ref d, .int (Int32.ofNat B.slots.size)] 2)) (s₁.setTop (mkF m 2 #[.val (.ref d), .val (.int (Int32.ofNat B.slots.size))] [.ref d, .int (Int32.ofNat B.slots.size)])) := c1.trans (by
    refine XS.iloadN X0.here hexec rfl (hb hbytes d0) rfl ?_
    refine XS.aloadN X0.here hexec rfl (hb hbytes d1) rfl rfl ?_
    exact Steps.refl _)
  have c3 : Steps p.tables e below (s₁.setTop (entryFrame m #[.ref d, .int (Int32.ofNat B.slots.size)] 2)) (s₁.setTop (mkF m 8 #[.val (.ref d), .val (.int (Int32.ofNat B.slots.size))] [.int (lo8 (ushr (Int32.ofNat B.slots.size - Int32.ofNat B.slots.size) 31))])) := c2.trans (by
    refine X0.alen hexec hB0 rfl rfl (hb hbytes d2) ?_
    refine XS.isub X0.here hexec rfl (hb hbytes d3) rfl ?_
    refine bipushV X0.here hexec rfl 31 (hb hbytes d4) (by decide) ?_
    refine iushr X0.here hexec rfl (hb hbytes d6) rfl ?_
    refine i2b X0.here hexec rfl (hb hbytes d7) rfl ?_
    exact Steps.refl _)
  have e0 : lo8 (ushr (Int32.ofNat B.slots.size - Int32.ofNat B.slots.size) 31) = 0 := by rw [Int32.sub_self]; decide
  rw [e0] at c3
  exact ⟨s₁, some (.int 0), _, _, _, X0, rfl, rfl, rfl, (fun h => by cases h), ⟨rfl, hh0⟩, fun fs hl => c3.trans (X0.ireturnOut hexec hret rfl (Or.inr (Or.inr (Or.inl rfl))) (hb hbytes d8) hl)⟩
end CodL
/-- the String at a is Latin-1 over a new byte[] (the heap's one new cell): the low bytes of the len chars of A from o on; every cell but a is kept -/
def Got (a : Addr) (D : Cell) (fV fC : Field) (A : Cell) (o len : Nat) (r : Option Value) (s u : State) : Prop := r = none ∧ ∃ D' V : Cell, Blank "java/lang/String" a D' u ∧ Same D D' [fV.slot, fC.slot] ∧ D'.slots[fV.slot]? = some (.ref s.heap.size) ∧ D'.slots[fC.slot]? = some (.int 0) ∧ Arr .byte s.heap.size V u ∧ V.vm = .none ∧ u.vm.findClass "[B" = some V.cls ∧ V.slots.size = len ∧ (∀ j, j < len → V.slots[j]? = some (.int (lo8 (cv A (o + j))))) ∧ (∀ (y : Addr) (c : Cell), y ≠ a → s.heap[y]? = some c → u.heap[y]? = some c) ∧ u.heap.size = s.heap.size + 1
theorem Got.mv {a : Addr} {D A : Cell} {fV fC : Field} {o len : Nat} : ∀ r (U U' V V' : State), U'.heap = U.heap → V.vm.Alike V'.vm → V'.heap = V.heap → Got a D fV fC A o len r U V → Got a D fV fC A o len r U' V' :=
  fun r U U' V V' h1 hal h2 ⟨e0, D', X, a1, a2, a3, a4, a5, a6, a7, a8, a9, a10, a11⟩ => ⟨e0, D', X, a1.mv hal h2, a2, by rw [h1]; exact a3, a4, by rw [h1]; exact a5.mv hal h2, a6, by rw [hal.findClass]; exact a7, a8, a9, by rw [h1, h2]; exact a10, by rw [h1, h2]; exact a11⟩
namespace New4
def yN : MethodName := ⟨"java/lang/String", "<init>", "([CIILjava/lang/Void;)V"⟩
abbrev yB : ByteArray := jdk_42_method_149_code
theorem d0 : decode yB 0 = .ok (.aload_n 0, 1) := by decide +kernel
theorem d1 : decode yB 1 = .ok (.invokespecial 1, 3) := by decide +kernel
theorem d4 : decode yB 4 = .ok (.iload_n 3, 1) := by decide +kernel
theorem d5 : decode yB 5 = .ok (.ifCond (.ne) 22, 3) := by decide +kernel
theorem d27 : decode yB 27 = .ok (.getstatic 38, 3) := by decide +kernel
theorem d30 : decode yB 30 = .ok (.ifCond (.eq) 28, 3) := by decide +kernel
theorem d33 : decode yB 33 = .ok (.aload_n 1, 1) := by decide +kernel
theorem d34 : decode yB 34 = .ok (.iload_n 2, 1) := by decide +kernel
theorem d35 : decode yB 35 = .ok (.iload_n 3, 1) := by decide +kernel
theorem d36 : decode yB 36 = .ok (.invokestatic 177, 3) := by decide +kernel
theorem d39 : decode yB 39 = .ok (.astore 5, 2) := by decide +kernel
theorem d41 : decode yB 41 = .ok (.aload_n 0, 1) := by decide +kernel
theorem d42 : decode yB 42 = .ok (.aload 5, 2) := by decide +kernel
theorem d44 : decode yB 44 = .ok (.iload_n 3, 1) := by decide +kernel
theorem d45 : decode yB 45 = .ok (.invokestatic 47, 3) := by decide +kernel
theorem d48 : decode yB 48 = .ok (.putfield 15, 3) := by decide +kernel
theorem d51 : decode yB 51 = .ok (.aload_n 0, 1) := by decide +kernel
theorem d52 : decode yB 52 = .ok (.aload 5, 2) := by decide +kernel
theorem d54 : decode yB 54 = .ok (.putfield 9, 3) := by decide +kernel
theorem d57 : decode yB 57 = .ok (.return_, 1) := by decide +kernel
def site : List Cond := [.fieldLink "java/lang/String" 38 "java/lang/String" "COMPACT_STRINGS" "Z", Cmp3.tab, CodL.tab, .laysFinal "java/lang/String" "java/lang/String" "value" "[B", .fieldLink "java/lang/String" 9 "java/lang/String" "value" "[B", .laysFinal "java/lang/String" "java/lang/String" "coder" "B", .fieldLink "java/lang/String" 15 "java/lang/String" "coder" "B"] ++ objW "java/lang/String" 1 ++ staticW "java/lang/String" 177 Cmp3.yN ++ staticW "java/lang/String" 47 CodL.yN
def tab : Cond := tabOf yN yB 6 none site
def P (a : Addr) (D : Cell) (fV fC : Field) (b : Addr) (A : Cell) (z : Int32) (o len : Nat) (args : Array Value) (s : State) : Prop := args = #[.ref a, .ref b, .int (Int32.ofNat o), .int (Int32.ofNat len), .null] ∧ Blank "java/lang/String" a D s ∧ Found "java/lang/String" "value" "[B" fV s ∧ Found "java/lang/String" "coder" "B" fC s ∧ Ch b A s ∧ StaticIs s "java/lang/String" "COMPACT_STRINGS" "Z" (.int z) ∧ ¬ z = 0 ∧ 0 < len ∧ o + len ≤ A.slots.size ∧ len ≤ 536870912 ∧ ∀ i, i < len → ¬ 255 < cv A (o + i)
def E (a : Addr) (D : Cell) (fV fC : Field) (A : Cell) (o len : Nat) (r : Option Value) (s u : State) : Prop := Got a D fV fC A o len r s u
/-- len > 0, no char of the range above 255: a Latin-1 String of their low bytes -/
theorem law (l : Launch) (a : Addr) (D : Cell) (fV fC : Field) (b : Addr) (A : Cell) (z : Int32) (o len : Nat) : Law l yN 5 4 2 35 yB 6 none site (P a D fV fC b A z o len) (E a D fV fC A o len) [⟨a, fC.slot⟩, ⟨a, fV.slot⟩] 1 len := by
  refine Law.of_walk (plainFor_of_name (by decide +kernel)) (by decide +kernel) (by decide +kernel) (by decide) (fun _ _ h => by rw [h.1]; rfl) (fun _ U U' hal hh h => ⟨h.1, h.2.1.mv hal hh, h.2.2.1.al hal, h.2.2.2.1.al hal, h.2.2.2.2.1.mv hal hh, h.2.2.2.2.2.1.there hal hh, h.2.2.2.2.2.2⟩) (fun r U U' V V' h1 hal h2 h => Got.mv r U U' V V' h1 hal h2 h) ?_
  intro p e s m args below meth c s₁ X0 hexec hbytes hml hret hlk hnm hown hh0 W hP
  obtain ⟨rfl, hB, f1, f2, hA, s1, hz, l0, l1, l2, hp⟩ := hP
  have a31 := hA.1.2.2.2
  have c1 : Steps p.tables e below (s₁.setTop (entryFrame m #[.ref a, .ref b, .int (Int32.ofNat o), .int (Int32.ofNat len), .null] 6)) (s₁.setTop (mkF m 0 #[.val (.ref a), .val (.ref b), .val (.int (Int32.ofNat o)), .val (.int (Int32.ofNat len)), .val .null, .unset] [])) := entry rfl
  have c2 : Steps p.tables e below (s₁.setTop (entryFrame m #[.ref a, .ref b, .int (Int32.ofNat o), .int (Int32.ofNat len), .null] 6)) (s₁.setTop (mkF m 1 #[.val (.ref a), .val (.ref b), .val (.int (Int32.ofNat o)), .val (.int (Int32.ofNat len)), .val .null, .unset] [.ref a])) := c1.trans (by
    refine XS.aloadN X0.here hexec rfl (hb hbytes d0) rfl rfl ?_
    exact Steps.refl _)
  obtain ⟨T3, X3, q3, st3⟩ := X0.oinit hexec hown (wks W (objW "java/lang/String" 1)) (g := (mkF m 1 #[.val (.ref a), .val (.ref b), .val (.int (Int32.ofNat o)), .val (.int (Int32.ofNat len)), .val .null, .unset] [.ref a])) rfl (by rw [hml]; rfl) (rest := []) rfl (hb hbytes d1) (W := 0) (by show 2 * 0 + 0 ≤ _; decide) (Nat.le_of_ble_eq_true rfl) (Nat.le_of_ble_eq_true rfl)
  have hh3 := q3.trans hh0
  have c4 : Steps p.tables e below (s₁.setTop (entryFrame m #[.ref a, .ref b, .int (Int32.ofNat o), .int (Int32.ofNat len), .null] 6)) (T3.setTop (mkF m 27 #[.val (.ref a), .val (.ref b), .val (.int (Int32.ofNat o)), .val (.int (Int32.ofNat len)), .val .null, .unset] [])) := (c2.trans (st3 _ (Steps.refl _))).trans (by
    refine XS.iloadN X3.here hexec rfl (hb hbytes d4) rfl ?_
    refine XS.ifYes X3.here hexec rfl (pc0 := 5) rfl (hb hbytes d5) rfl (i0_ne_t (nz32 (by omega) l0)) (by decide) rfl ?_
    exact Steps.refl _)
  obtain ⟨T5, X5, q5, st5⟩ := X3.sget hexec hown (wk W (.fieldLink "java/lang/String" 38 "java/lang/String" "COMPACT_STRINGS" "Z")) s1 (fun _ _ h => by rw [hh3]; exact h) (g := (mkF m 27 #[.val (.ref a), .val (.ref b), .val (.int (Int32.ofNat o)), .val (.int (Int32.ofNat len)), .val .null, .unset] [])) rfl (hb hbytes d27)
  have hh5 := q5.trans hh3
  have c6 : Steps p.tables e below (s₁.setTop (entryFrame m #[.ref a, .ref b, .int (Int32.ofNat o), .int (Int32.ofNat len), .null] 6)) (T5.setTop (mkF m 30 #[.val (.ref a), .val (.ref b), .val (.int (Int32.ofNat o)), .val (.int (Int32.ofNat len)), .val .null, .unset] [.int z])) := c4.trans (st5 _ (Steps.refl _))
  have c7 : Steps p.tables e below (s₁.setTop (entryFrame m #[.ref a, .ref b, .int (Int32.ofNat o), .int (Int32.ofNat len), .null] 6)) (T5.setTop (mkF m 36 #[.val (.ref a), .val (.ref b), .val (.int (Int32.ofNat o)), .val (.int (Int32.ofNat len)), .val .null, .unset] [.int (Int32.ofNat len), .int (Int32.ofNat o), .ref b])) := c6.trans (by
    refine XS.ifNo X5.here hexec rfl (hb hbytes d30) rfl (i0_eq_f hz) ?_
    refine XS.aloadN X5.here hexec rfl (hb hbytes d33) rfl rfl ?_
    refine XS.iloadN X5.here hexec rfl (hb hbytes d34) rfl ?_
    refine XS.iloadN X5.here hexec rfl (hb hbytes d35) rfl ?_
    exact Steps.refl _)
  obtain ⟨v8, T8, X8, E8, g8⟩ := X5.callS hexec (Cmp3.law l b A o len) hown (wks W (staticW "java/lang/String" 177 Cmp3.yN)) (wk W Cmp3.tab) (W := 0) (Nat.le_of_ble_eq_true rfl) (Nat.le_of_ble_eq_true rfl) (Nat.le_refl _) (by show 0 + len ≤ len; omega) (g := (mkF m 36 #[.val (.ref a), .val (.ref b), .val (.int (Int32.ofNat o)), .val (.int (Int32.ofNat len)), .val .null, .unset] [.int (Int32.ofNat len), .int (Int32.ofNat o), .ref b])) rfl (by rw [hml]; rfl) c7 (argsL := [.ref b, .int (Int32.ofNat o), .int (Int32.ofNat len)]) (rest := []) rfl rfl (by show 2 * 0 + 0 ≤ _; decide) (hb hbytes d36) (⟨rfl, hA.mv X5.warmed.alike hh5, l1, l2, hp⟩)
  obtain ⟨e8, z8⟩ := E8
  obtain ⟨rfl, N, n1, n2, n3, n4, n5, n6⟩ := NewArr.mv _ T5 s _ _ hh5.symm (Vm.Alike.refl _) rfl e8
  rw [hh5] at z8
  have hB1 := hB.keep X8.warmed.alike (n6 _ _ hB.1)
  have hne : s.heap.size ≠ a := (Nat.ne_of_lt (Array.getElem?_eq_some_iff.mp hB.1).1).symm
  have c9 : Steps p.tables e below (s₁.setTop (entryFrame m #[.ref a, .ref b, .int (Int32.ofNat o), .int (Int32.ofNat len), .null] 6)) (T8.setTop (mkF m 39 #[.val (.ref a), .val (.ref b), .val (.int (Int32.ofNat o)), .val (.int (Int32.ofNat len)), .val .null, .unset] [.ref s.heap.size])) := g8
  have c10 : Steps p.tables e below (s₁.setTop (entryFrame m #[.ref a, .ref b, .int (Int32.ofNat o), .int (Int32.ofNat len), .null] 6)) (T8.setTop (mkF m 45 #[.val (.ref a), .val (.ref b), .val (.int (Int32.ofNat o)), .val (.int (Int32.ofNat len)), .val .null, .val (.ref s.heap.size)] [.int (Int32.ofNat N.slots.size), .ref s.heap.size, .ref a])) := by
    have hc : Steps p.tables e below (s₁.setTop (entryFrame m #[.ref a, .ref b, .int (Int32.ofNat o), .int (Int32.ofNat len), .null] 6)) (T8.setTop (mkF m 45 #[.val (.ref a), .val (.ref b), .val (.int (Int32.ofNat o)), .val (.int (Int32.ofNat len)), .val .null, .val (.ref s.heap.size)] [.int (Int32.ofNat len), .ref s.heap.size, .ref a])) := c9.trans (by
      refine XS.astore X8.here hexec rfl (hb hbytes d39) rfl rfl rfl ?_
      refine XS.aloadN X8.here hexec rfl (hb hbytes d41) rfl rfl ?_
      refine XS.aload X8.here hexec rfl (hb hbytes d42) rfl rfl ?_
      refine XS.iloadN X8.here hexec rfl (hb hbytes d44) rfl ?_
      exact Steps.refl _)
    rw [n4]; exact hc
  obtain ⟨v11, T11, X11, E11, g11⟩ := X8.callS hexec (CodL.law l s.heap.size N) hown (wks W (staticW "java/lang/String" 47 CodL.yN)) (wk W CodL.tab) (W := 1) (Nat.le_of_ble_eq_true rfl) (Nat.le_of_ble_eq_true rfl) (Nat.le_refl _) (by show 0 + len + 0 ≤ len; omega) (g := (mkF m 45 #[.val (.ref a), .val (.ref b), .val (.int (Int32.ofNat o)), .val (.int (Int32.ofNat len)), .val .null, .val (.ref s.heap.size)] [.int (Int32.ofNat N.slots.size), .ref s.heap.size, .ref a])) rfl (by rw [hml]; rfl) c10 (argsL := [.ref s.heap.size, .int (Int32.ofNat N.slots.size)]) (rest := [.ref a]) rfl rfl (by show 2 * 0 + (1 + 0) ≤ _; decide) (hb hbytes d45) (⟨rfl, n1⟩)
  obtain ⟨rfl, q11⟩ := E11
  have hB11 := hB1.mv (X8.warmed.alike.symm.trans X11.warmed.alike) q11
  have c12 : Steps p.tables e below (s₁.setTop (entryFrame m #[.ref a, .ref b, .int (Int32.ofNat o), .int (Int32.ofNat len), .null] 6)) (T11.setTop (mkF m 48 #[.val (.ref a), .val (.ref b), .val (.int (Int32.ofNat o)), .val (.int (Int32.ofNat len)), .val .null, .val (.ref s.heap.size)] [.int 0, .ref a])) := g11
  obtain ⟨T13, X13, p13, bl13, sl13, st13⟩ := X11.finit hexec hown (wk W (.fieldLink "java/lang/String" 15 "java/lang/String" "coder" "B")) (Or.inr ⟨_, (wk W (.laysFinal "java/lang/String" "java/lang/String" "coder" "B"))⟩) (Or.inl ⟨rfl, hnm⟩) f2 (Or.inl rfl) hB11 (t := .byte) (by decide +kernel) rfl (g := (mkF m 48 #[.val (.ref a), .val (.ref b), .val (.int (Int32.ofNat o)), .val (.int (Int32.ofNat len)), .val .null, .val (.ref s.heap.size)] [.int 0, .ref a])) rfl (rest := []) rfl (hb hbytes d48)
  have c14 : Steps p.tables e below (s₁.setTop (entryFrame m #[.ref a, .ref b, .int (Int32.ofNat o), .int (Int32.ofNat len), .null] 6)) (T13.setTop (mkF m 54 #[.val (.ref a), .val (.ref b), .val (.int (Int32.ofNat o)), .val (.int (Int32.ofNat len)), .val .null, .val (.ref s.heap.size)] [.ref s.heap.size, .ref a])) := (c12.trans (st13 _ (Steps.refl _))).trans (by
    refine XS.aloadN X13.here hexec rfl (hb hbytes d51) rfl rfl ?_
    refine XS.aload X13.here hexec rfl (hb hbytes d52) rfl rfl ?_
    exact Steps.refl _)
  obtain ⟨T15, X15, p15, bl15, sl15, st15⟩ := X13.finit hexec hown (wk W (.fieldLink "java/lang/String" 9 "java/lang/String" "value" "[B")) (Or.inr ⟨_, (wk W (.laysFinal "java/lang/String" "java/lang/String" "value" "[B"))⟩) (Or.inl ⟨rfl, hnm⟩) f1 (Or.inl rfl) bl13 (t := (.array .byte)) (by decide +kernel) rfl (g := (mkF m 54 #[.val (.ref a), .val (.ref b), .val (.int (Int32.ofNat o)), .val (.int (Int32.ofNat len)), .val .null, .val (.ref s.heap.size)] [.ref s.heap.size, .ref a])) rfl (rest := []) rfl (hb hbytes d54)
  have c16 : Steps p.tables e below (s₁.setTop (entryFrame m #[.ref a, .ref b, .int (Int32.ofNat o), .int (Int32.ofNat len), .null] 6)) (T15.setTop (mkF m 57 #[.val (.ref a), .val (.ref b), .val (.int (Int32.ofNat o)), .val (.int (Int32.ofNat len)), .val .null, .val (.ref s.heap.size)] [])) := c14.trans (st15 _ (Steps.refl _))
  have ap := apart (Or.inr ⟨_, (wk W (.laysFinal "java/lang/String" "java/lang/String" "value" "[B"))⟩) (Or.inr ⟨_, (wk W (.laysFinal "java/lang/String" "java/lang/String" "coder" "B"))⟩) f1 f2 (t₁ := .array .byte) (t₂ := .byte) (by decide +kernel) (by decide +kernel) (by decide)
  have al := X8.warmed.alike.symm.trans X15.warmed.alike
  have n7 : T11.heap[s.heap.size]? = some N := by rw [q11]; exact n1.1
  exact ⟨T15, none, _, _, _, X15, by simp, rfl, by omega, (fun _ => rfl), ⟨rfl, _, N, bl15, ((Same.refl D _).set _ (by simp)).set _ (by simp), sl15, (Cell.slots_setSlot_ne _ ap).trans sl13, n1.keep al (p15.other hne (p13.other hne n7)), n2, by rw [al.findClass]; exact n3, n4, n5, fun y c h1 h2 => p15.other h1 (p13.other h1 (by rw [q11]; exact n6 y c h2)), by rw [p15.2.2, p13.2.2, q11]; exact z8⟩, fun fs hl => c16.trans (X15.returnOut hexec hret (hb hbytes d57) hl)⟩
end New4
namespace New1
def yN : MethodName := ⟨"java/lang/String", "<init>", "([C)V"⟩
abbrev yB : ByteArray := jdk_42_method_3_code
theorem d0 : decode yB 0 = .ok (.aload_n 0, 1) := by decide +kernel
theorem d1 : decode yB 1 = .ok (.aload_n 1, 1) := by decide +kernel
theorem d2 : decode yB 2 = .ok (.iconst 0, 1) := by decide +kernel
theorem d3 : decode yB 3 = .ok (.aload_n 1, 1) := by decide +kernel
theorem d4 : decode yB 4 = .ok (.arraylength, 1) := by decide +kernel
theorem d5 : decode yB 5 = .ok (.aconst_null, 1) := by decide +kernel
theorem d6 : decode yB 6 = .ok (.invokespecial 27, 3) := by decide +kernel
theorem d9 : decode yB 9 = .ok (.return_, 1) := by decide +kernel
def site : List Cond := [New4.tab] ++ initW "java/lang/String" 27 New4.yN
def tab : Cond := tabOf yN yB 2 none site
def P (a : Addr) (D : Cell) (fV fC : Field) (b : Addr) (A : Cell) (z : Int32) (args : Array Value) (s : State) : Prop := args = #[.ref a, .ref b] ∧ Blank "java/lang/String" a D s ∧ Found "java/lang/String" "value" "[B" fV s ∧ Found "java/lang/String" "coder" "B" fC s ∧ Ch b A s ∧ StaticIs s "java/lang/String" "COMPACT_STRINGS" "Z" (.int z) ∧ ¬ z = 0 ∧ 0 < A.slots.size ∧ A.slots.size ≤ 536870912 ∧ ∀ i, i < A.slots.size → ¬ 255 < cv A i
def E (a : Addr) (D : Cell) (fV fC : Field) (A : Cell) (r : Option Value) (s u : State) : Prop := Got a D fV fC A 0 A.slots.size r s u
/-- new String(chars), not empty, no char above 255: a Latin-1 String of their low bytes -/
theorem law (l : Launch) (a : Addr) (D : Cell) (fV fC : Field) (b : Addr) (A : Cell) (z : Int32) : Law l yN 2 1 3 52 yB 2 none site (P a D fV fC b A z) (E a D fV fC A) [⟨a, fC.slot⟩, ⟨a, fV.slot⟩] 1 A.slots.size := by
  refine Law.of_walk (plainFor_of_name (by decide +kernel)) (by decide +kernel) (by decide +kernel) (by decide) (fun _ _ h => by rw [h.1]; rfl) (fun _ U U' hal hh h => ⟨h.1, h.2.1.mv hal hh, h.2.2.1.al hal, h.2.2.2.1.al hal, h.2.2.2.2.1.mv hal hh, h.2.2.2.2.2.1.there hal hh, h.2.2.2.2.2.2⟩) (fun r U U' V V' h1 hal h2 h => Got.mv r U U' V V' h1 hal h2 h) ?_
  intro p e s m args below meth c s₁ X0 hexec hbytes hml hret hlk hnm hown hh0 W hP
  obtain ⟨rfl, hB, f1, f2, hA, s1, hz, l0, l2, hp⟩ := hP
  have c1 : Steps p.tables e below (s₁.setTop (entryFrame m #[.ref a, .ref b] 2)) (s₁.setTop (mkF m 0 #[.val (.ref a), .val (.ref b)] [])) := entry rfl
  have c2 : Steps p.tables e below (s₁.setTop (entryFrame m #[.ref a, .ref b] 2)) (s₁.setTop (mkF m 6 #[.val (.ref a), .val (.ref b)] [.null, .int (Int32.ofNat A.slots.size), .int 0, .ref b, .ref a])) := c1.trans (by
    refine XS.aloadN X0.here hexec rfl (hb hbytes d0) rfl rfl ?_
    refine XS.aloadN X0.here hexec rfl (hb hbytes d1) rfl rfl ?_
    refine iconstV X0.here hexec rfl 0 (hb hbytes d2) (by decide) ?_
    refine XS.aloadN X0.here hexec rfl (hb hbytes d3) rfl rfl ?_
    refine X0.alen hexec (hA.1.mv X0.warmed.alike hh0) rfl rfl (hb hbytes d4) ?_
    refine XS.aconstNull X0.here hexec rfl (hb hbytes d5) ?_
    exact Steps.refl _)
  obtain ⟨v3, T3, X3, E3, g3⟩ := X0.callN hexec (New4.law l a D fV fC b A z 0 A.slots.size) rfl hown (wks W (initW "java/lang/String" 27 New4.yN)) (W New4.tab (by simp only [site, List.mem_cons, List.mem_append, true_or, or_true])) (W := 0) (Nat.le_of_ble_eq_true rfl) (Nat.le_of_ble_eq_true rfl) (Nat.le_refl _) (by show 0 + A.slots.size ≤ A.slots.size; omega) (g := (mkF m 6 #[.val (.ref a), .val (.ref b)] [.null, .int (Int32.ofNat A.slots.size), .int (Int32.ofNat 0), .ref b, .ref a])) rfl (by rw [hml]; rfl) c2 (argsL := [.ref b, .int (Int32.ofNat 0), .int (Int32.ofNat A.slots.size), .null]) (rest := []) rfl rfl (by show 2 * 0 + 0 ≤ _; decide) (hb hbytes d6) (⟨rfl, hB.mv X0.warmed.alike hh0, f1.al X0.warmed.alike, f2.al X0.warmed.alike, hA.mv X0.warmed.alike hh0, s1.there X0.warmed.alike hh0, hz, l0, by omega, l2, fun i hi => by rw [Nat.zero_add]; exact hp i hi⟩)
  have e0 := Got.mv _ s₁ s _ _ hh0.symm (Vm.Alike.refl _) rfl E3
  obtain rfl := e0.1
  have c4 : Steps p.tables e below (s₁.setTop (entryFrame m #[.ref a, .ref b] 2)) (T3.setTop (mkF m 9 #[.val (.ref a), .val (.ref b)] [])) := g3
  exact ⟨T3, none, _, _, _, X3, by simp, rfl, by omega, (fun _ => rfl), e0, fun fs hl => c4.trans (X3.returnOut hexec hret (hb hbytes d9) hl)⟩
theorem pays {l : Launch} {R : Room} {p : Program} {e : Env} {below : List Frame} {s : State} {sargs : Array Value} {len W : Nat} (a : Addr) (D : Cell) (fV fC : Field) (b : Addr) (A : Cell) (z : Int32) (htab : tab.before sargs s = true) (hfr : 4 ≤ R.frames) (hlo : W + 65 ≤ R.locals) :
    Back l R p e below s sargs yN len W (fun A₁ a₁ => A₁.cells + 1 ≤ R.cells ∧ A₁.slots + A.slots.size ≤ R.slots ∧ P a D fV fC b A z a₁ A₁.U) (fun A₁ _ v₁ B₁ => E a D fV fC A v₁ A₁.U B₁.U ∧ B₁.locs = A₁.locs ++ [⟨a, fC.slot⟩, ⟨a, fV.slot⟩] ∧ B₁.cells = A₁.cells + 1 ∧ B₁.slots = A₁.slots + A.slots.size) :=
  (law l a D fV fC b A z).pays htab hfr (by omega)
end New1
/-- the byte, read back as charAt reads it, is the char -/
theorem lo8_mask {x : Int32} (h0 : ¬ x < 0) (h1 : ¬ 255 < x) : lo8 x &&& 255 = x := by
  have t : ∀ k : Fin 256, lo8 (Int32.ofNat k.val) &&& 255 = Int32.ofNat k.val := by decide +kernel
  rw [Int32.lt_iff_toInt_lt] at h0 h1
  have e0 : (0 : Int32).toInt = 0 := rfl
  have e1 : (255 : Int32).toInt = 255 := rfl
  obtain ⟨k, hk⟩ : ∃ k : Nat, x.toInt = k := ⟨x.toInt.toNat, by omega⟩
  have hx : x = Int32.ofNat k := Int32.toInt_inj.mp (by rw [hk, Int32.toInt_ofNat_small (by omega)])
  rw [hx]
  exact t ⟨k, by omega⟩
end StrChars
namespace StrChars.Road
open Jvm Sem ClassFile Op Lib Jvm.Stand Jvm.Free Jvm.Free.XT
open Jvm.Lib.Cold (StaticIs)
abbrev ST : String := "java/lang/String"
/-- every table word that New1's law asks, flat -/
abbrev words : List Jvm.Cond := [.code New1.yN New1.yB 2 none, .initialized ST, .methodLink ST 27 New4.yN, .instanceMethod New4.yN,
  .code New4.yN New4.yB 6 none, .fieldLink ST 38 ST "COMPACT_STRINGS" "Z", .laysFinal ST ST "value" "[B", .fieldLink ST 9 ST "value" "[B", .laysFinal ST ST "coder" "B", .fieldLink ST 15 ST "coder" "B",
  .methodLink ST 1 Lib.objectInit, .instanceMethod Lib.objectInit, .code Lib.objectInit ⟨#[0xb1]⟩ 1 none, .methodLink ST 177 Cmp3.yN, .static Cmp3.yN, .methodLink ST 47 CodL.yN, .static CodL.yN,
  .code Cmp3.yN Cmp3.yB 6 (some (.array .byte)), .initialized U16, .arrayClass .byte, .methodLink U16 115 Cmp5.yN, .static Cmp5.yN, .code Cmp5.yN Cmp5.yB 7 (some .int), .code CodL.yN CodL.yB 2 (some .byte)]
theorem tab_of {a : Array Value} {s : State} (h : ∀ w ∈ words, w.before a s = true) : New1.tab.before a s = true := by
  have h5 : Cmp5.tab.before a s = true := unparts (wk h (.code Cmp5.yN Cmp5.yB 7 (some .int))) (wks h (.initialized Cmp5.yN.cls :: Cmp5.site))
  have hc : CodL.tab.before a s = true := unparts (wk h (.code CodL.yN CodL.yB 2 (some .byte))) (wks h (.initialized CodL.yN.cls :: CodL.site))
  have q5 : ∀ w ∈ Cmp5.tab :: words, w.before a s = true := fun w hw => (List.mem_cons.mp hw).elim (fun e => e ▸ h5) (h w)
  have h3 : Cmp3.tab.before a s = true := unparts (wk q5 (.code Cmp3.yN Cmp3.yB 6 (some (.array .byte)))) (wks q5 (.initialized Cmp3.yN.cls :: Cmp3.site))
  have q3 : ∀ w ∈ Cmp3.tab :: CodL.tab :: words, w.before a s = true := fun w hw => (List.mem_cons.mp hw).elim (fun e => e ▸ h3) fun hw => (List.mem_cons.mp hw).elim (fun e => e ▸ hc) (h w)
  have h4 : New4.tab.before a s = true := unparts (wk q3 (.code New4.yN New4.yB 6 none)) (wks q3 (.initialized New4.yN.cls :: New4.site))
  have q4 : ∀ w ∈ New4.tab :: words, w.before a s = true := fun w hw => (List.mem_cons.mp hw).elim (fun e => e ▸ h4) (h w)
  exact unparts (wk q4 (.code New1.yN New1.yB 2 none)) (wks q4 (.initialized New1.yN.cls :: New1.site))
/-- the words ride from the start Z to the walk's own state -/
theorem moved {Z s : State} {a0 args : Array Value} (hZ : Z.Warmed39 s.vm) (hw : ∀ d ∈ words, d.before a0 Z = true) : ∀ d ∈ words, d.before args s = true := fun d hd => by
  have q := hw d hd
  have t : ∀ d ∈ words, d = .arrayClass .byte ∨ (d.onTables && d.keepsFace) = true := by decide +kernel
  rcases t d hd with rfl | t
  · exact RoadKit.mvA hZ q
  · exact RoadKit.mv hZ q t
/-- WHAT COMES BACK, over the tables of the start Z: h the heap at the call, h' behind it -/
def Q (Z : State) (x : Addr) (A : Cell) (h : Heap) (v : Option Value) (h' : Heap) (L : List Loc) : Prop := v = none ∧ (∀ y ∈ L, y.base = x) ∧ RoadKit.Keep h h' [x] ∧ h'.size = h.size + 1 ∧ RoadKit.Exa Z h' x ST ∧ RoadKit.Fld Z h' x ST "value" "[B" (.ref h.size) ∧ RoadKit.Fld Z h' x ST "coder" "B" (.int 0) ∧
  (∃ V : Cell, RoadKit.Arr Z h' h.size V .byte ∧ V.vm = .none ∧ Z.vm.findClass "[B" = some V.cls ∧ V.slots.size = A.slots.size ∧ ∀ j, j < A.slots.size → V.slots[j]? = some (.int (lo8 (cv A j)))) ∧
  ∀ (O n d : String) (w : Value), RoadKit.Fld Z h x O n d w → RoadKit.slotOf Z O n d ≠ RoadKit.slotOf Z ST "value" "[B" → RoadKit.slotOf Z O n d ≠ RoadKit.slotOf Z ST "coder" "B" → RoadKit.Fld Z h' x O n d w
/-- **new String(chars) AT A CALL, IN THE ROAD'S FORM**: for specialBack behind newO: x the fresh String, b the char[] with the cell A -/
theorem back {p : Program} {l : Launch} {e : Env} {R : Room} {s : State} {args : Array Value} {below : List Frame} {len W : Nat} {Z : State} {a0 : Array Value} {h : Heap} (hZ : Z.Warmed39 s.vm) (hw : ∀ d ∈ words, d.before a0 Z = true) {kI : Nat} (wi : (Jvm.Cond.instantiable ST kI).before a0 Z = true)
    {x b : Addr} {A : Cell} {z : Int32} {v0 c0 : Value} (E : RoadKit.Exa Z h x ST) (V : RoadKit.Fld Z h x ST "value" "[B" v0) (C : RoadKit.Fld Z h x ST "coder" "B" c0) (K : RoadKit.Arr Z h b A .char) (hty : Typed .char A) (S : RoadKit.Sta Z h ST "COMPACT_STRINGS" "Z" (.int z)) (hz : ¬ z = 0)
    (l0 : 0 < A.slots.size) (l2 : A.slots.size ≤ 536870912) (hp : ∀ i, i < A.slots.size → ¬ 255 < cv A i) (hfr : 4 ≤ R.frames) (hlo : W + 65 ≤ R.locals) :
    Back l R p e below s args New1.yN len W (fun P a => a = #[.ref x, .ref b] ∧ P.U.heap = h ∧ P.cells + 1 ≤ R.cells ∧ P.slots + A.slots.size ≤ R.slots)
      (fun P _ v B => ∃ L, Q Z x A h v B.U.heap L ∧ B.locs = P.locs ++ L ∧ B.cells = P.cells + 1 ∧ B.slots = P.slots + A.slots.size) := by
  intro m meth c P g ig mk a X hg hsize hdg hW hn hp'
  obtain ⟨rfl, rfl, r1, r2⟩ := hp'
  have al : Z.vm.Alike P.U.vm := hZ.alike.trans X.warmed.alike
  obtain ⟨D, cfV, kV, iV, fV, hD, gV, stV, knV, obV, asV, slV⟩ := id V
  obtain ⟨D', cfC, kC, iC, fC, hD', gC, stC, -, -, asC, slC⟩ := id C
  cases hD.symm.trans hD'
  obtain ⟨D2, kD, e1, e2, e3, e4, e5⟩ := id E
  cases hD.symm.trans e1
  obtain ⟨c2, k2, i1, i2, i3, -⟩ := Cond.instantiable_spec wi
  cases e2.symm.trans i1
  cases e3.symm.trans i2
  obtain ⟨kU, u1, u2⟩ := al.2.2 _ _ e3
  have hB : Blank ST x D P.U := ⟨hD, ⟨knV, fun q hq => by rw [hq] at obV; cases obV⟩, by rw [al.findClass]; exact e2, kU, u1, by rw [u2]; exact i3, by rw [u2]; exact e5 i3⟩
  have F1 : Found ST "value" "[B" fV P.U := ⟨SBG.found_only al ⟨cfV, kV, iV, gV⟩, stV⟩
  have F2 : Found ST "coder" "B" fC P.U := ⟨SBG.found_only al ⟨cfC, kC, iC, gC⟩, stC⟩
  have hA : Ch b A P.U := ⟨⟨K.1, State.isArrayOf_alike al K.2.1, K.2.2, by omega⟩, hty⟩
  have hS : StaticIs P.U ST "COMPACT_STRINGS" "Z" (.int z) := by
    obtain ⟨cfS, iS, kS, fS, st, cS, t1, t2, t3, t4, t5, t6, t7⟩ := S
    exact StaticIs.there (s := { Z with heap := P.U.heap }) ⟨cfS, iS, kS, fS, st, cS, t1, t2, t3, t4, t5, (fun q => by rw [q] at t6; cases t6), t7⟩ al rfl
  obtain ⟨v, B, X', ⟨⟨hv, E', V', q1, q2, q3, q4, q5, q6, q7, q8, q9, q10, q11⟩, hl, hc, hs⟩, st⟩ := New1.pays x D fV fC b A z (tab_of (moved hZ hw)) hfr hlo m meth c P g ig mk _ X hg hsize hdg hW hn ⟨r1, r2, rfl, hB, F1, F2, hA, hS, hz, l0, l2, hp⟩
  have al' : Z.vm.Alike B.U.vm := hZ.alike.trans X'.warmed.alike
  have hsz : E'.slots.size = D.slots.size := by
    obtain ⟨-, -, -, kB, w1, w2, w3⟩ := q1
    obtain ⟨kB', y1, y2⟩ := al'.2.2 _ _ e3
    rw [q2.2.1] at w1
    cases w1.symm.trans y1
    rw [w3, e5 i3, y2]
  refine ⟨v, B, X', ⟨_, ⟨hv, ?_, ⟨by omega, fun y cy hy hn' => q10 y cy (by simpa using hn') hy, fun y cy hy => ?_⟩, q11, ⟨E', _, q1.1, by rw [q2.2.1]; exact e2, by rw [q2.2.1]; exact e3, by rw [q2.1]; exact obV, fun _ => by rw [hsz]; exact e5 i3⟩,
    ⟨E', cfV, kV, iV, fV, q1.1, gV, stV, by rw [q2.1]; exact knV, by rw [q2.1]; exact obV, by rw [q2.2.1]; exact asV, q3⟩, ⟨E', cfC, kC, iC, fC, q1.1, gC, stC, by rw [q2.1]; exact knV, by rw [q2.1]; exact obV, by rw [q2.2.1]; exact asC, q4⟩,
    ⟨V', ⟨q5.1, State.isArrayOf_alike al'.symm q5.2.1, q5.2.2.1⟩, q6, by rw [← al'.findClass]; exact q7, q8, fun j hj => by have := q9 j hj; rwa [Nat.zero_add] at this⟩, fun O n d w F n1 n2 => ?_⟩, hl, hc, hs⟩, st⟩
  · intro y hy
    simp only [List.mem_cons, List.not_mem_nil, or_false] at hy
    rcases hy with rfl | rfl <;> rfl
  · by_cases q : y = x
    · subst q
      cases hD.symm.trans hy
      exact ⟨E', q1.1, q2.2.1, q2.1, hsz⟩
    · exact ⟨cy, q10 y cy q hy, rfl, rfl, rfl⟩
  · obtain ⟨D3, cf, k, i, f, g1, g2, g3, g4, g5, g6, g7⟩ := F
    cases hD.symm.trans g1
    simp only [RoadKit.slotOf, g2, gV, gC, Option.map_some, Option.getD_some] at n1 n2
    exact ⟨E', cf, k, i, f, q1.1, g2, g3, by rw [q2.1]; exact g4, by rw [q2.1]; exact g5, by rw [q2.2.1]; exact g6, by rw [q2.2.2 f.slot (by simp [n1, n2])]; exact g7⟩
end StrChars.Road
namespace StrChars.Road
open Jvm Sem ClassFile Op Lib Jvm.Stand Jvm.Free Jvm.Free.XT
/-- WHAT COMES BACK, the byte[] as a list of values -/
def QA (Z : State) (x : Addr) (zn : Int32) (cs : List Int32) (h : Heap) (v : Option Value) (h' : Heap) (L : List Loc) : Prop := v = none ∧ (∀ y ∈ L, y.base = x) ∧ RoadKit.Keep h h' [x] ∧ h'.size = h.size + 1 ∧ RoadKit.Exa Z h' x ST ∧ RoadKit.Fld Z h' x ST "value" "[B" (.ref h.size) ∧ RoadKit.Fld Z h' x ST "coder" "B" (.int 0) ∧
  (∃ kb, Z.vm.findClass "[B" = some kb ∧ RoadKit.Arv Z h' h.size kb .byte zn (cs.map fun c => .int (lo8 c)) (.int 0)) ∧
  ∀ (O n d : String) (w : Value), RoadKit.Fld Z h x O n d w → RoadKit.slotOf Z O n d ≠ RoadKit.slotOf Z ST "value" "[B" → RoadKit.slotOf Z O n d ≠ RoadKit.slotOf Z ST "coder" "B" → RoadKit.Fld Z h' x O n d w
/-- **new String(chars) AT A CALL, THE ARRAYS AS LISTS**: the char[] at b holds cs, not empty, no char above 255 -/
theorem backArv {p : Program} {l : Launch} {e : Env} {R : Room} {s : State} {args : Array Value} {below : List Frame} {len W : Nat} {Z : State} {a0 : Array Value} {h : Heap} (hZ : Z.Warmed39 s.vm) (hw : ∀ d ∈ words, d.before a0 Z = true) {kI : Nat} (wi : (Jvm.Cond.instantiable ST kI).before a0 Z = true)
    {x b : Addr} {k : ClassId} {zn z : Int32} {cs : List Int32} {dv v0 c0 : Value} (E : RoadKit.Exa Z h x ST) (V : RoadKit.Fld Z h x ST "value" "[B" v0) (C : RoadKit.Fld Z h x ST "coder" "B" c0) (K : RoadKit.Arv Z h b k .char zn (cs.map Value.int) dv) (S : RoadKit.Sta Z h ST "COMPACT_STRINGS" "Z" (.int z)) (hz : ¬ z = 0)
    (hlen : zn.toNatClampNeg = cs.length) (h0 : 0 < cs.length) (hbig : cs.length ≤ 536870912) (hall : ∀ c ∈ cs, ¬ 255 < c) (hfr : 4 ≤ R.frames) (hlo : W + 65 ≤ R.locals) :
    Back l R p e below s args New1.yN len W (fun P a => a = #[.ref x, .ref b] ∧ P.U.heap = h ∧ P.cells + 1 ≤ R.cells ∧ P.slots + cs.length ≤ R.slots)
      (fun P _ v B => ∃ L, QA Z x zn cs h v B.U.heap L ∧ B.locs = P.locs ++ L ∧ B.cells = P.cells + 1 ∧ B.slots = P.slots + cs.length) := by
  obtain ⟨A, K1, K2, K3, K4, K5, K6⟩ := K
  have e : A.slots.size = cs.length := K3.trans hlen
  have hat : ∀ (i : Nat) (hi : i < cs.length), A.slots[i]? = some (.int cs[i]) := fun i hi => by rw [K5 i (by omega)]; simp [List.getD_eq_getElem?_getD, hi]
  have hcv : ∀ (i : Nat) (hi : i < cs.length), cv A i = cs[i] := fun i hi => by unfold cv; rw [hat i hi]
  have hty : Typed .char A := fun i v hv => by
    have hi : i < A.slots.size := (Array.getElem?_eq_some_iff.mp hv).1
    have q := K5 i hi
    rw [hv] at q
    rw [Option.some.inj q]
    exact K6 i hi
  refine Back.mono (back hZ hw wi E V C K1 hty S hz (by omega) (by omega) (fun i hi => by rw [hcv i (by omega)]; exact hall _ (List.getElem_mem _)) hfr hlo) (fun P a hp => ⟨hp.1, hp.2.1, hp.2.2.1, by rw [e]; exact hp.2.2.2⟩) (fun P a v B hp hq => ?_)
  obtain ⟨L, ⟨q1, q2, q3, q4, q5, q6, q7, ⟨V', v1, v2, v3, v4, v5⟩, q9⟩, hl, hc, hs⟩ := hq
  refine ⟨L, ⟨q1, q2, q3, q4, q5, q6, q7, ⟨V'.cls, v3, V', v1, rfl, by rw [v4, e, hlen], K4, fun i hi => ?_, fun i hi => ?_⟩, q9⟩, hl, hc, by rw [hs, e]⟩
  · have hi' : i < cs.length := by omega
    rw [v5 i (by omega), hcv i hi']; simp [List.getD_eq_getElem?_getD, hi']
  · have hi' : i < cs.length := by omega
    simp only [List.getD_eq_getElem?_getD, List.getElem?_map, List.getElem?_eq_getElem hi', Option.map_some, Option.getD_some]
    exact fits_lo8 _
end StrChars.Road
namespace StrChars.Road
open Jvm Sem ClassFile Op Lib Jvm.Stand Jvm.Free Jvm.Free.XT
/-- WHAT COMES BACK, in the writer's own shape -/
def QV (Z : State) (x : Addr) (N : Int32) (bs : List Int32) (h : Heap) (n0 : Nat) (v : Option Value) (h' : Heap) (L : List Loc) : Prop := v = none ∧ RoadKit.Fr n0 L ∧ RoadKit.Keep h h' [x] ∧ RoadKit.Exa Z h' x ST ∧ RoadKit.Fld Z h' x ST "coder" "B" (.int 0) ∧
  ∃ (t : Addr) (kb : ClassId), n0 ≤ t ∧ h.size ≤ t ∧ ¬ t = x ∧ RoadKit.Fld Z h' x ST "value" "[B" (.ref t) ∧ RoadKit.Arv Z h' t kb .byte N (bs.map Value.int) (.int 0)
/-- **new String(chars) AT A CALL, FOR THE WRITER**: a char[] of n known ints, each 0 to 255 -/
theorem backV {p : Program} {l : Launch} {e : Env} {R : Room} {s : State} {args : Array Value} {below : List Frame} {len W : Nat} {Z : State} {a0 : Array Value} {h : Heap} (hZ : Z.Warmed39 s.vm) (hw : ∀ d ∈ words, d.before a0 Z = true) {kI : Nat} (wi : (Jvm.Cond.instantiable ST kI).before a0 Z = true)
    {x b : Addr} {kC : ClassId} {cs bs : List Int32} {d v0 c0 : Value} {z N : Int32} {n n0 : Nat} (hx0 : n0 ≤ x) (hh0 : n0 ≤ h.size) (E : RoadKit.Exa Z h x ST) (V : RoadKit.Fld Z h x ST "value" "[B" v0) (C : RoadKit.Fld Z h x ST "coder" "B" c0) (K : RoadKit.Arv Z h b kC .char N (cs.map Value.int) d) (S : RoadKit.Sta Z h ST "COMPACT_STRINGS" "Z" (.int z)) (hz : ¬ z = 0)
    (hn : cs.length = n) (hN : N = Int32.ofNat n) (l0 : 0 < n) (l2 : n ≤ 4000) (hp : ∀ c ∈ cs, ¬ c < 0 ∧ ¬ (255 : Int32) < c) (hb : bs = cs.map (fun c => c.toInt8.toInt32)) (hfr : 4 ≤ R.frames) (hlo : W + 65 ≤ R.locals) :
    Back l R p e below s args (⟨"java/lang/String", "<init>", "([C)V"⟩ : MethodName) len W (fun P a => a = #[.ref x, .ref b] ∧ P.U.heap = h ∧ P.cells + 1 ≤ R.cells ∧ P.slots + n ≤ R.slots)
      (fun P _ v B => ∃ L, QV Z x N bs h n0 v B.U.heap L ∧ B.locs = P.locs ++ L ∧ B.cells = P.cells + 1 ∧ B.slots = P.slots + n) := by
  subst hn hN hb
  refine Back.mono (backArv hZ hw wi E V C K S hz (n32 (by omega)) l0 (by omega) (fun c hc => (hp c hc).2) hfr hlo) (fun P a hp => hp) (fun P a v B hp hq => ?_)
  obtain ⟨L, ⟨q1, q2, q3, q4, q5, q6, q7, ⟨kb, v1, v2⟩, q9⟩, hl, hc, hs⟩ := hq
  exact ⟨L, ⟨q1, fun y hy => by rw [q2 y hy]; exact hx0, q3, q5, q7, h.size, kb, hh0, Nat.le_refl _, Nat.ne_of_gt E.lt, q6, by rw [List.map_map]; exact v2⟩, hl, hc, hs⟩
end StrChars.Road
namespace StrChars
open Jvm Sem ClassFile Op Lib Jvm.Stand Jvm.Free.XT Jvm.Free.ALB Jvm.Free.JM Jvm.Free
open Jvm.Lib.Cold (StaticIs)
def hi8 (x : Int32) : Int32 := lo8 (x >>> ((8 : Int32) &&& 31))
/-- what StringUTF16.getChar makes of two bytes -/
def pairCh (u v : Int32) : Int32 := (((u &&& 255) <<< ((0 : Int32) &&& 31)) ||| ((v &&& 255) <<< ((8 : Int32) &&& 31))).toUInt32.toUInt16.toUInt32.toInt32
theorem lo8_and (x : Int32) : (lo8 x &&& 255).toBitVec.toNat = x.toBitVec.toNat % 256 := by
  have h : (lo8 x).toBitVec = (x.toBitVec.signExtend 8).signExtend 32 := by rw [lo8, Int8.toBitVec_toInt32, Int32.toBitVec_toInt8]
  rw [Int32.toBitVec_and, BitVec.toNat_and, h]
  have e : ((x.toBitVec.signExtend 8).signExtend 32).toNat % 256 = x.toBitVec.toNat % 256 := by
    rw [BitVec.toNat_signExtend]
    have hlt := x.toBitVec.isLt
    simp only [BitVec.toNat_setWidth, BitVec.toNat_signExtend]
    split <;> split <;> omega
  rw [← e]
  exact Nat.and_two_pow_sub_one_eq_mod _ 8
theorem pair_says {c : Int32} (h0 : ¬ c < 0) (h1 : ¬ 65535 < c) : pairCh (lo8 c) (hi8 c) = c := by
  rw [Int32.lt_iff_toInt_lt] at h0 h1
  have e0 : (0 : Int32).toInt = 0 := rfl
  have e1 : (65535 : Int32).toInt = 65535 := rfl
  have hc : c.toInt = c.toBitVec.toNat := by
    have := c.toBitVec.isLt
    have e : c.toInt = c.toBitVec.toInt := rfl
    rw [e] at h0 h1
    rw [e]
    rw [BitVec.toInt_eq_toNat_cond] at h0 h1 ⊢
    split at h0 <;> split <;> omega
  have hn : c.toBitVec.toNat < 65536 := by omega
  have a1 := lo8_and c
  have a2 : (hi8 c &&& 255).toBitVec.toNat = c.toBitVec.toNat / 256 := by
    rw [hi8, lo8_and]
    have e : ((8 : Int32) &&& 31) = 8 := by decide
    rw [e, Int32.toBitVec_shiftRight]
    have e2 : ((8 : Int32).toBitVec.smod 32) = 8#32 := by decide
    rw [e2, BitVec.sshiftRight_eq', BitVec.toNat_sshiftRight_of_msb_false (by rw [BitVec.msb_eq_false_iff_two_mul_lt]; omega)]
    show c.toBitVec.toNat >>> 8 % 256 = _
    rw [Nat.shiftRight_eq_div_pow]
    omega
  unfold pairCh
  apply Int32.toBitVec_inj.mp
  apply BitVec.eq_of_toNat_eq
  have f0 : ((0 : Int32) &&& 31) = 0 := by decide
  have f8 : ((8 : Int32) &&& 31) = 8 := by decide
  rw [f0, f8]
  have g : (((lo8 c &&& 255) <<< (0 : Int32)) ||| ((hi8 c &&& 255) <<< (8 : Int32))).toBitVec.toNat = c.toBitVec.toNat := by
    rw [Int32.toBitVec_or, Int32.toBitVec_shiftLeft, Int32.toBitVec_shiftLeft]
    have s0 : ((0 : Int32).toBitVec.smod 32) = 0#32 := by decide
    have s8 : ((8 : Int32).toBitVec.smod 32) = 8#32 := by decide
    rw [s0, s8, BitVec.toNat_or]
    simp only [BitVec.shiftLeft_eq', BitVec.toNat_shiftLeft, a1, a2]
    show (c.toBitVec.toNat % 256) <<< 0 % 2 ^ 32 ||| (c.toBitVec.toNat / 256) <<< 8 % 2 ^ 32 = _
    rw [Nat.shiftLeft_zero, Nat.mod_eq_of_lt (show c.toBitVec.toNat % 256 < 2 ^ 32 by omega), Nat.mod_eq_of_lt (show (c.toBitVec.toNat / 256) <<< 8 < 2 ^ 32 by rw [Nat.shiftLeft_eq]; omega), Nat.or_comm, ← Nat.shiftLeft_add_eq_or_of_lt (by omega), Nat.shiftLeft_eq]
    omega
  show BitVec.toNat (((((lo8 c &&& 255) <<< (0 : Int32)) ||| ((hi8 c &&& 255) <<< (8 : Int32))).toBitVec.setWidth 16).setWidth 32) = _
  rw [BitVec.toNat_setWidth, BitVec.toNat_setWidth, g]
  omega
end StrChars
namespace StrChars
open Jvm Sem ClassFile Op Lib Jvm.Stand Jvm.Free.XT Jvm.Free.ALB Jvm.Free.JM Jvm.Free
open Jvm.Lib.Cold (StaticIs)
/-- charAt's cast of a byte read back -/
def chr8 (u : Int32) : Int32 := (u &&& 255).toUInt32.toUInt16.toUInt32.toInt32
theorem chr8_lo8 {c : Int32} (h0 : ¬ c < 0) (h1 : ¬ 255 < c) : chr8 (lo8 c) = c := by
  have t : ∀ k : Fin 256, (Int32.ofNat k.val).toUInt32.toUInt16.toUInt32.toInt32 = Int32.ofNat k.val := by decide +kernel
  unfold chr8
  rw [lo8_mask h0 h1]
  rw [Int32.lt_iff_toInt_lt] at h0 h1
  have e0 : (0 : Int32).toInt = 0 := rfl
  have e1 : (255 : Int32).toInt = 255 := rfl
  obtain ⟨k, hk⟩ : ∃ k : Nat, c.toInt = k := ⟨c.toInt.toNat, by omega⟩
  have hx : c = Int32.ofNat k := Int32.toInt_inj.mp (by rw [hk, Int32.toInt_ofNat_small (by omega)])
  rw [hx]
  exact t ⟨k, by omega⟩
theorem narrow_ch {c : Int32} (h0 : ¬ c < 0) (h1 : ¬ 65535 < c) : narrow .char (.int c) = .int c := by
  have q : narrow .char (.int (pairCh (lo8 c) (hi8 c))) = .int (pairCh (lo8 c) (hi8 c)) := narrow_c _
  rwa [pair_says h0 h1] at q
/-- the array's cell V codes the n chars f 0 .. f (n - 1) by the coder cd, as the JDK does: coder 1 just where some char is above 255 -/
def Cod (cd : Int32) (n : Nat) (f : Nat → Int32) (V : Cell) : Prop := (cd = 0 ∧ V.slots.size = n ∧ ∀ j, j < n → V.slots[j]? = some (.int (lo8 (f j))) ∧ ¬ 255 < f j) ∨ (cd = 1 ∧ V.slots.size = 2 * n ∧ (∀ j, j < n → V.slots[2 * j]? = some (.int (lo8 (f j))) ∧ V.slots[2 * j + 1]? = some (.int (hi8 (f j)))) ∧ ∃ j, j < n ∧ 255 < f j)
theorem Cod.cd {cd : Int32} {n : Nat} {f : Nat → Int32} {V : Cell} (h : Cod cd n f V) : cd = 0 ∨ cd = 1 := h.imp (fun q => q.1) fun q => q.1
/-- **x is a String of the n chars f 0 .. f (n - 1)**, Latin-1 or UTF-16; its array at t has the cell V -/
def Txt (x t : Addr) (V : Cell) (cd : Int32) (n : Nat) (f : Nat → Int32) (U : State) : Prop := Exact "java/lang/String" x U ∧ Has x "java/lang/String" "value" "[B" (.ref t) U ∧ Has x "java/lang/String" "coder" "B" (.int cd) U ∧ XT.Arr .byte t V U ∧ Cod cd n f V ∧ ∀ j, j < n → ¬ f j < 0 ∧ ¬ 65535 < f j
theorem Txt.mv {x t : Addr} {V : Cell} {cd : Int32} {n : Nat} {f : Nat → Int32} {U U' : State} (h : Txt x t V cd n f U) (hal : U.vm.Alike U'.vm) (hh : U'.heap = U.heap) : Txt x t V cd n f U' := ⟨h.1.mv hal hh, h.2.1.mv hal hh, h.2.2.1.mv hal hh, h.2.2.2.1.mv hal hh, h.2.2.2.2⟩
namespace IsL
def yN : MethodName := ⟨"java/lang/String", "isLatin1", "()Z"⟩
abbrev yB : ByteArray := jdk_42_method_154_code
theorem d0 : decode yB 0 = .ok (.getstatic 38, 3) := by decide +kernel
theorem d3 : decode yB 3 = .ok (.ifCond (.eq) 14, 3) := by decide +kernel
theorem d6 : decode yB 6 = .ok (.aload_n 0, 1) := by decide +kernel
theorem d7 : decode yB 7 = .ok (.getfield 15, 3) := by decide +kernel
theorem d10 : decode yB 10 = .ok (.ifCond (.ne) 7, 3) := by decide +kernel
theorem d13 : decode yB 13 = .ok (.iconst 1, 1) := by decide +kernel
theorem d14 : decode yB 14 = .ok (.goto 4, 3) := by decide +kernel
theorem d17 : decode yB 17 = .ok (.iconst 0, 1) := by decide +kernel
theorem d18 : decode yB 18 = .ok (.ireturn, 1) := by decide +kernel
def site : List Cond := [.fieldLink "java/lang/String" 38 "java/lang/String" "COMPACT_STRINGS" "Z", .fieldLink "java/lang/String" 15 "java/lang/String" "coder" "B"]
def tab : Cond := tabOf yN yB 1 (some .boolean) site
def P (x : Addr) (cd z : Int32) (args : Array Value) (s : State) : Prop := args = #[.ref x] ∧ Has x "java/lang/String" "coder" "B" (.int cd) s ∧ (cd = 0 ∨ cd = 1) ∧ StaticIs s "java/lang/String" "COMPACT_STRINGS" "Z" (.int z) ∧ ¬ z = 0
def E (cd : Int32) (r : Option Value) (s u : State) : Prop := XT.PureE (some (.int (1 - cd))) r s u
theorem law (l : Launch) (x : Addr) (cd z : Int32) : Law l yN 1 0 0 0 yB 1 (some .boolean) site (P x cd z) (E cd) [] 0 0 := by
  refine Law.of_walk (plainFor_of_name (by decide +kernel)) (by decide +kernel) (by decide +kernel) (by decide) (fun _ _ h => by rw [h.1]; rfl) (fun _ U U' hal hh h => ⟨h.1, h.2.1.mv hal hh, h.2.2.1, h.2.2.2.1.there hal hh, h.2.2.2.2⟩) (fun r U U' V V' h1 hal h2 h => XT.PureE.mv r U U' V V' h1 hal h2 h) ?_
  intro p e s m args below meth c s₁ X0 hexec hbytes hml hret hlk hnm hown hh0 W hP
  obtain ⟨rfl, hx, hc, s1, hz⟩ := hP
  have c1 : Steps p.tables e below (s₁.setTop (entryFrame m #[.ref x] 1)) (s₁.setTop (mkF m 0 #[.val (.ref x)] [])) := entry rfl
  obtain ⟨T2, X2, q2, st2⟩ := X0.sget hexec hown (wk W (.fieldLink "java/lang/String" 38 "java/lang/String" "COMPACT_STRINGS" "Z")) s1 (fun _ _ h => by rw [hh0]; exact h) (g := (mkF m 0 #[.val (.ref x)] [])) rfl (hb hbytes d0)
  have hh2 := q2.trans hh0
  have c3 : Steps p.tables e below (s₁.setTop (entryFrame m #[.ref x] 1)) (T2.setTop (mkF m 7 #[.val (.ref x)] [.ref x])) := (c1.trans (st2 _ (Steps.refl _))).trans (by
    refine XS.ifNo X2.here hexec rfl (hb hbytes d3) rfl (i0_eq_f hz) ?_
    refine XS.aloadN X2.here hexec rfl (hb hbytes d6) rfl rfl ?_
    exact Steps.refl _)
  obtain ⟨T4, X4, q4, st4⟩ := X2.hget hexec hown (wk W (.fieldLink "java/lang/String" 15 "java/lang/String" "coder" "B")) (hx.mv X2.warmed.alike hh2) (g := (mkF m 7 #[.val (.ref x)] [.ref x])) rfl (rest := []) rfl (hb hbytes d7)
  have c5 : Steps p.tables e below (s₁.setTop (entryFrame m #[.ref x] 1)) (T4.setTop (mkF m 10 #[.val (.ref x)] [.int cd])) := c3.trans (st4 _ (Steps.refl _))
  have c6 : Steps p.tables e below (s₁.setTop (entryFrame m #[.ref x] 1)) (T4.setTop (mkF m 18 #[.val (.ref x)] [.int (1 - cd)])) := by
    rcases hc with rfl | rfl
    · exact c5.trans (by
        refine XS.ifNo X4.here hexec rfl (hb hbytes d10) rfl (i0_ne_f rfl) ?_
        refine iconstV X4.here hexec rfl 1 (hb hbytes d13) (by decide) ?_
        refine XS.goto X4.here hexec rfl (pc0 := 14) rfl (hb hbytes d14) (by decide) rfl ?_
        exact Steps.refl _)
    · exact c5.trans (by
        refine XS.ifYes X4.here hexec rfl (pc0 := 10) rfl (hb hbytes d10) rfl (i0_ne_t (by decide)) (by decide) rfl ?_
        refine iconstV X4.here hexec rfl 0 (hb hbytes d17) (by decide) ?_
        exact Steps.refl _)
  exact ⟨T4, some (.int (1 - cd)), _, _, _, X4, rfl, rfl, rfl, (fun h => by cases h), ⟨rfl, q4.trans hh2⟩, fun fs hl => c6.trans (X4.ireturnOut hexec hret (by rcases hc with rfl | rfl <;> rfl) (Or.inr (Or.inl rfl)) (hb hbytes d18) hl)⟩
end IsL
namespace LChA
def yN : MethodName := ⟨"java/lang/StringLatin1", "charAt", "([BI)C"⟩
abbrev yB : ByteArray := jdk_43_method_2_code
theorem d0 : decode yB 0 = .ok (.iload_n 1, 1) := by decide +kernel
theorem d1 : decode yB 1 = .ok (.aload_n 0, 1) := by decide +kernel
theorem d2 : decode yB 2 = .ok (.arraylength, 1) := by decide +kernel
theorem d3 : decode yB 3 = .ok (.invokestatic 9, 3) := by decide +kernel
theorem d6 : decode yB 6 = .ok (.aload_n 0, 1) := by decide +kernel
theorem d7 : decode yB 7 = .ok (.iload_n 1, 1) := by decide +kernel
theorem d8 : decode yB 8 = .ok (.baload, 1) := by decide +kernel
theorem d9 : decode yB 9 = .ok (.sipush 255, 3) := by decide +kernel
theorem d12 : decode yB 12 = .ok (.iand, 1) := by decide +kernel
theorem d13 : decode yB 13 = .ok (.i2c, 1) := by decide +kernel
theorem d14 : decode yB 14 = .ok (.ireturn, 1) := by decide +kernel
def site : List Cond := [JO.Str_checkIndex.tab] ++ staticW "java/lang/StringLatin1" 9 JO.Str_checkIndex.yN
def tab : Cond := tabOf yN yB 2 (some .char) site
def P (t : Addr) (V : Cell) (i : Nat) (u : Int32) (fm : Value) (args : Array Value) (s : State) : Prop := args = #[.ref t, .int (Int32.ofNat i)] ∧ XT.Arr .byte t V s ∧ V.slots[i]? = some (.int u) ∧ (StaticIs s "jdk/internal/util/Preconditions" "SIOOBE_FORMATTER" "Ljava/util/function/BiFunction;" fm ∧ fm.isRef = true)
def E (u : Int32) (r : Option Value) (s w : State) : Prop := XT.PureE (some (.int (chr8 u))) r s w
theorem law (l : Launch) (t : Addr) (V : Cell) (i : Nat) (u : Int32) (fm : Value) : Law l yN 2 2 2 27 yB 2 (some .char) site (P t V i u fm) (E u) [] 0 0 := by
  refine Law.of_walk (plainFor_of_name (by decide +kernel)) (by decide +kernel) (by decide +kernel) (by decide) (fun _ _ h => by rw [h.1]; rfl) (fun _ U U' hal hh h => ⟨h.1, h.2.1.mv hal hh, h.2.2.1, h.2.2.2.1.there hal hh, h.2.2.2.2⟩) (fun r U U' V V' h1 hal h2 h => XT.PureE.mv r U U' V V' h1 hal h2 h) ?_
  intro p e s m args below meth c s₁ X0 hexec hbytes hml hret hlk hnm hown hh0 W hP
  obtain ⟨rfl, hV, hu, s1, rf⟩ := hP
  have v31 := hV.2.2.2
  have hi : i < V.slots.size := (Array.getElem?_eq_some_iff.mp hu).1
  have c1 : Steps p.tables e below (s₁.setTop (entryFrame m #[.ref t, .int (Int32.ofNat i)] 2)) (s₁.setTop (mkF m 0 #[.val (.ref t), .val (.int (Int32.ofNat i))] [])) := entry rfl
  have c2 : Steps p.tables e below (s₁.setTop (entryFrame m #[.ref t, .int (Int32.ofNat i)] 2)) (s₁.setTop (mkF m 3 #[.val (.ref t), .val (.int (Int32.ofNat i))] [.int (Int32.ofNat V.slots.size), .int (Int32.ofNat i)])) := c1.trans (by
    refine XS.iloadN X0.here hexec rfl (hb hbytes d0) rfl ?_
    refine XS.aloadN X0.here hexec rfl (hb hbytes d1) rfl rfl ?_
    refine X0.alen hexec (hV.mv X0.warmed.alike hh0) rfl rfl (hb hbytes d2) ?_
    exact Steps.refl _)
  obtain ⟨v3, T3, X3, E3, g3⟩ := X0.callS hexec (JO.Str_checkIndex.law l (Int32.ofNat i) (Int32.ofNat V.slots.size) fm) hown (wks W (staticW "java/lang/StringLatin1" 9 JO.Str_checkIndex.yN)) (wk W JO.Str_checkIndex.tab) (W := 0) (Nat.le_of_ble_eq_true rfl) (Nat.le_of_ble_eq_true rfl) (Nat.le_refl _) (Nat.le_refl _) (g := (mkF m 3 #[.val (.ref t), .val (.int (Int32.ofNat i))] [.int (Int32.ofNat V.slots.size), .int (Int32.ofNat i)])) rfl (by rw [hml]; rfl) c2 (argsL := [.int (Int32.ofNat i), .int (Int32.ofNat V.slots.size)]) (rest := []) rfl rfl (by show 2 * 0 + 0 ≤ _; decide) (hb hbytes d3) (⟨rfl, rf, s1.there X0.warmed.alike hh0, Int32.ofNat_not_neg (by omega), lt32 v31 hi⟩)
  obtain ⟨rfl, q3⟩ := E3
  have hh3 := q3.trans hh0
  have c4 : Steps p.tables e below (s₁.setTop (entryFrame m #[.ref t, .int (Int32.ofNat i)] 2)) (T3.setTop (mkF m 14 #[.val (.ref t), .val (.int (Int32.ofNat i))] [.int (chr8 u)])) := Steps.trans g3 (by
    refine XS.aloadN X3.here hexec rfl (hb hbytes d6) rfl rfl ?_
    refine XS.iloadN X3.here hexec rfl (hb hbytes d7) rfl ?_
    refine X3.aget hexec (hV.mv X3.warmed.alike hh3) rfl hu rfl rfl (hb hbytes d8) ?_
    refine sipushV X3.here hexec rfl 255 (hb hbytes d9) (by decide) ?_
    refine XS.iand X3.here hexec rfl (hb hbytes d12) rfl ?_
    refine i2c X3.here hexec rfl (hb hbytes d13) rfl ?_
    exact Steps.refl _)
  exact ⟨T3, some (.int (chr8 u)), _, _, _, X3, rfl, rfl, rfl, (fun h => by cases h), ⟨rfl, hh3⟩, fun fs hl => c4.trans (X3.ireturnOut hexec hret (narrow_c _) (Or.inr (Or.inr (Or.inr (Or.inl rfl)))) (hb hbytes d14) hl)⟩
end LChA
end StrChars
namespace StrChars.Road
open Jvm Sem ClassFile Op Lib Jvm.Stand Jvm.Free Jvm.Free.XT
open Jvm.Lib.Cold (StaticIs)
theorem consq {a : Array Value} {s : State} {c : Jvm.Cond} {L : List Jvm.Cond} (h0 : c.before a s = true) (h : ∀ w ∈ L, w.before a s = true) : ∀ w ∈ c :: L, w.before a s = true := fun w hw => (List.mem_cons.mp hw).elim (fun e => e ▸ h0) (h w)
/-- the bytes of the chars cs, low before high -/
def wideBytes : List Int32 → List Value
  | [] => []
  | c :: cs => .int (lo8 c) :: .int (hi8 c) :: wideBytes cs
theorem wide_lo (d : Value) : ∀ (cs : List Int32) (j : Nat), j < cs.length → (wideBytes cs).getD (2 * j) d = .int (lo8 (cs.getD j 0))
  | [], j, h => absurd h (Nat.not_lt_zero j)
  | c :: cs, 0, _ => rfl
  | c :: cs, j + 1, h => by
    have q := wide_lo d cs j (by simpa using h)
    rw [show 2 * (j + 1) = 2 * j + 1 + 1 from by omega]
    simpa [wideBytes] using q
theorem wide_hi (d : Value) : ∀ (cs : List Int32) (j : Nat), j < cs.length → (wideBytes cs).getD (2 * j + 1) d = .int (hi8 (cs.getD j 0))
  | [], j, h => absurd h (Nat.not_lt_zero j)
  | c :: cs, 0, _ => rfl
  | c :: cs, j + 1, h => by
    have q := wide_hi d cs j (by simpa using h)
    rw [show 2 * (j + 1) + 1 = 2 * j + 1 + 1 + 1 from by omega]
    simpa [wideBytes] using q
theorem low_at (d : Value) (cs : List Int32) (j : Nat) (h : j < cs.length) : (cs.map fun c => Value.int (lo8 c)).getD j d = .int (lo8 (cs.getD j 0)) := by
  simp [List.getD_eq_getElem?_getD, h]
/-- an array of N2 bytes vs codes the chars cs by the coder cd -/
def CodA (cs : List Int32) (cd N2 : Int32) (vs : List Value) : Prop := (cd = 0 ∧ N2 = Int32.ofNat cs.length ∧ vs = (cs.map fun c => Value.int (lo8 c)) ∧ ∀ c ∈ cs, ¬ 255 < c) ∨ (cd = 1 ∧ N2 = Int32.ofNat (2 * cs.length) ∧ vs = wideBytes cs ∧ ∃ c ∈ cs, 255 < c)
theorem CodA.cod {cs : List Int32} {cd N2 : Int32} {vs : List Value} {V : Cell} (h : CodA cs cd N2 vs) (hn : 2 * cs.length < 2 ^ 31) (hs : V.slots.size = N2.toNatClampNeg) (hv : RoadKit.Has V vs (.int 0)) : Cod cd cs.length (fun j => cs.getD j 0) V := by
  rcases h with ⟨rfl, rfl, rfl, h⟩ | ⟨rfl, rfl, rfl, c, hc, hw⟩
  · rw [n32 (by omega)] at hs
    exact Or.inl ⟨rfl, hs, fun j hj => ⟨by rw [hv j (by omega), low_at _ _ _ hj], by
      have e : cs.getD j 0 = cs[j] := by simp [List.getD_eq_getElem?_getD, hj]
      show ¬ 255 < cs.getD j 0
      rw [e]; exact h _ (List.getElem_mem _)⟩⟩
  · rw [n32 (by omega)] at hs
    obtain ⟨j, hj, rfl⟩ := List.getElem_of_mem hc
    exact Or.inr ⟨rfl, hs, fun j hj => ⟨by rw [hv _ (by omega), wide_lo _ _ _ hj], by rw [hv _ (by omega), wide_hi _ _ _ hj]⟩, j, hj, by
      have e : cs.getD j 0 = cs[j] := by simp [List.getD_eq_getElem?_getD, hj]
      show 255 < cs.getD j 0
      rw [e]; exact hw⟩
/-- an object of exactly java/lang/String, its two fields found: as the laws ask it -/
theorem strObj {Z U : State} {a0 : Array Value} {kI : Nat} (wi : (Jvm.Cond.instantiable ST kI).before a0 Z = true) (al : Z.vm.Alike U.vm) {x : Addr} {v0 c0 : Value} (E : RoadKit.Exa Z U.heap x ST) (V : RoadKit.Fld Z U.heap x ST "value" "[B" v0) (C : RoadKit.Fld Z U.heap x ST "coder" "B" c0) :
    ∃ (D : Cell) (fV fC : Field), Blank ST x D U ∧ Found ST "value" "[B" fV U ∧ Found ST "coder" "B" fC U ∧ D.slots[fV.slot]? = some v0 ∧ D.slots[fC.slot]? = some c0 ∧ RoadKit.slotOf Z ST "value" "[B" = fV.slot ∧ RoadKit.slotOf Z ST "coder" "B" = fC.slot := by
  obtain ⟨D, cfV, kV, iV, fV, hD, gV, stV, knV, obV, asV, slV⟩ := V
  obtain ⟨D', cfC, kC, iC, fC, hD', gC, stC, -, -, asC, slC⟩ := C
  cases hD.symm.trans hD'
  obtain ⟨D2, kD, e1, e2, e3, e4, e5⟩ := E
  cases hD.symm.trans e1
  obtain ⟨c2, k2, i1, i2, i3, -⟩ := Cond.instantiable_spec wi
  cases e2.symm.trans i1
  cases e3.symm.trans i2
  obtain ⟨kU, u1, u2⟩ := al.2.2 _ _ e3
  exact ⟨D, fV, fC, ⟨hD, ⟨knV, fun q hq => by rw [hq] at obV; cases obV⟩, by rw [al.findClass]; exact e2, kU, u1, by rw [u2]; exact i3, by rw [u2]; exact e5 i3⟩, ⟨SBG.found_only al ⟨cfV, kV, iV, gV⟩, stV⟩, ⟨SBG.found_only al ⟨cfC, kC, iC, gC⟩, stC⟩, slV, slC, by simp [RoadKit.slotOf, gV], by simp [RoadKit.slotOf, gC]⟩
theorem sta_is {Z U : State} (al : Z.vm.Alike U.vm) {C n d : String} {v : Value} (S : RoadKit.Sta Z U.heap C n d v) : StaticIs U C n d v := by
  obtain ⟨cfS, iS, kS, fS, st, cS, t1, t2, t3, t4, t5, t6, t7⟩ := S
  exact StaticIs.there (s := { Z with heap := U.heap }) ⟨cfS, iS, kS, fS, st, cS, t1, t2, t3, t4, t5, (fun q => by rw [q] at t6; cases t6), t7⟩ al rfl
end StrChars.Road
namespace StrChars
open Jvm Sem ClassFile Op Lib Jvm.Stand Jvm.Free.XT Jvm.Free.ALB Jvm.Free.JM Jvm.Free
open Jvm.Lib.Cold (StaticIs)
/-- what place i of a byte[]'s cell holds -/
def yv (A : Cell) (i : Nat) : Int32 := match A.slots[i]? with | some (.int x) => x | _ => 0
theorem yv_get {a : Addr} {A : Cell} {U : State} (h : XT.Arr .byte a A U) (ht : Typed .byte A) {i : Nat} (hi : i < A.slots.size) : A.slots[i]? = some (.int (yv A i)) := by
  have e := Array.getElem?_eq_getElem hi
  have f := ht i _ e
  unfold yv; rw [e]
  generalize A.slots[i] = v at f
  cases v <;> simp [fits] at f ⊢
/-- the two arrays are equal, place for place -/
def EqC (A B : Cell) : Prop := A.slots.size = B.slots.size ∧ ∀ i, i < A.slots.size → yv A i = yv B i
/-- a boolean that says whether p -/
def Says01 (q : Prop) (r : Option Value) (s u : State) : Prop := ∃ v : Int32, r = some (.int v) ∧ u.heap = s.heap ∧ ((v = 1 ∧ q) ∨ (v = 0 ∧ ¬ q))
theorem Says01.mv {q : Prop} : ∀ r (U U' V V' : State), U'.heap = U.heap → V.vm.Alike V'.vm → V'.heap = V.heap → Says01 q r U V → Says01 q r U' V' :=
  fun r U U' V V' h1 _ h2 ⟨v, a, b, c⟩ => ⟨v, a, by rw [h1, h2]; exact b, c⟩
namespace LEq
def yN : MethodName := ⟨"java/lang/StringLatin1", "equals", "([B[B)Z"⟩
abbrev yB : ByteArray := jdk_43_method_13_code
theorem d0 : decode yB 0 = .ok (.aload_n 0, 1) := by decide +kernel
theorem d1 : decode yB 1 = .ok (.arraylength, 1) := by decide +kernel
theorem d2 : decode yB 2 = .ok (.aload_n 1, 1) := by decide +kernel
theorem d3 : decode yB 3 = .ok (.arraylength, 1) := by decide +kernel
theorem d4 : decode yB 4 = .ok (.if_icmp (.ne) 30, 3) := by decide +kernel
theorem d7 : decode yB 7 = .ok (.iconst 0, 1) := by decide +kernel
theorem d8 : decode yB 8 = .ok (.istore_n 2, 1) := by decide +kernel
theorem d9 : decode yB 9 = .ok (.iload_n 2, 1) := by decide +kernel
theorem d10 : decode yB 10 = .ok (.aload_n 0, 1) := by decide +kernel
theorem d11 : decode yB 11 = .ok (.arraylength, 1) := by decide +kernel
theorem d12 : decode yB 12 = .ok (.if_icmp (.ge) 20, 3) := by decide +kernel
theorem d15 : decode yB 15 = .ok (.aload_n 0, 1) := by decide +kernel
theorem d16 : decode yB 16 = .ok (.iload_n 2, 1) := by decide +kernel
theorem d17 : decode yB 17 = .ok (.baload, 1) := by decide +kernel
theorem d18 : decode yB 18 = .ok (.aload_n 1, 1) := by decide +kernel
theorem d19 : decode yB 19 = .ok (.iload_n 2, 1) := by decide +kernel
theorem d20 : decode yB 20 = .ok (.baload, 1) := by decide +kernel
theorem d21 : decode yB 21 = .ok (.if_icmp (.eq) 5, 3) := by decide +kernel
theorem d24 : decode yB 24 = .ok (.iconst 0, 1) := by decide +kernel
theorem d25 : decode yB 25 = .ok (.ireturn, 1) := by decide +kernel
theorem d26 : decode yB 26 = .ok (.iinc 2 1, 3) := by decide +kernel
theorem d29 : decode yB 29 = .ok (.goto (-20), 3) := by decide +kernel
theorem d32 : decode yB 32 = .ok (.iconst 1, 1) := by decide +kernel
theorem d33 : decode yB 33 = .ok (.ireturn, 1) := by decide +kernel
theorem d34 : decode yB 34 = .ok (.iconst 0, 1) := by decide +kernel
theorem d35 : decode yB 35 = .ok (.ireturn, 1) := by decide +kernel
def site : List Cond := []
def tab : Cond := tabOf yN yB 3 (some .boolean) site
def P (a : Addr) (A : Cell) (b : Addr) (B : Cell) (args : Array Value) (s : State) : Prop := args = #[.ref a, .ref b] ∧ XT.Arr .byte a A s ∧ Typed .byte A ∧ XT.Arr .byte b B s ∧ Typed .byte B
/-- whether two byte[] are equal, place for place -/
theorem law (l : Launch) (a : Addr) (A : Cell) (b : Addr) (B : Cell) : Law l yN 2 2 0 0 yB 3 (some .boolean) site (P a A b B) (Says01 (EqC A B)) [] 0 0 := by
  refine Law.of_walk (plainFor_of_name (by decide +kernel)) (by decide +kernel) (by decide +kernel) (by decide) (fun _ _ h => by rw [h.1]; rfl) (fun _ U U' hal hh h => ⟨h.1, h.2.1.mv hal hh, h.2.2.1, h.2.2.2.1.mv hal hh, h.2.2.2.2⟩) (fun r U U' V V' h1 hal h2 h => Says01.mv r U U' V V' h1 hal h2 h) ?_
  intro p e s m args below meth c s₁ X0 hexec hbytes hml hret hlk hnm hown hh0 W hP
  obtain ⟨rfl, hA, tA, hB, tB⟩ := hP
  have a31 := hA.2.2.2
  have b31 := hB.2.2.2
  have hA0 := hA.mv X0.warmed.alike hh0
  have hB0 := hB.mv X0.warmed.alike hh0
  have c1 : Steps p.tables e below (s₁.setTop (entryFrame m #[.ref a, .ref b] 3)) (s₁.setTop (mkF m 0 #[.val (.ref a), .val (.ref b), .unset] [])) := entry rfl
  have c2 : Steps p.tables e below (s₁.setTop (entryFrame m #[.ref a, .ref b] 3)) (s₁.setTop (mkF m 4 #[.val (.ref a), .val (.ref b), .unset] [.int (Int32.ofNat B.slots.size), .int (Int32.ofNat A.slots.size)])) := c1.trans (by
    refine XS.aloadN X0.here hexec rfl (hb hbytes d0) rfl rfl ?_
    refine X0.alen hexec hA0 rfl rfl (hb hbytes d1) ?_
    refine XS.aloadN X0.here hexec rfl (hb hbytes d2) rfl rfl ?_
    refine X0.alen hexec hB0 rfl rfl (hb hbytes d3) ?_
    exact Steps.refl _)
  by_cases hs : A.slots.size = B.slots.size
  · have c3 : Steps p.tables e below (s₁.setTop (entryFrame m #[.ref a, .ref b] 3)) (s₁.setTop (mkF m 9 #[.val (.ref a), .val (.ref b), .val (.int 0)] [])) := c2.trans (by
      refine XS.icmpNo X0.here hexec rfl (hb hbytes d4) rfl (ii_ne_f (by rw [hs])) ?_
      refine iconstV X0.here hexec rfl 0 (hb hbytes d7) (by decide) ?_
      refine XS.istoreN X0.here hexec rfl (hb hbytes d8) rfl rfl ?_
      exact Steps.refl _)
    have loop : ∀ (r i : Nat), i + r = A.slots.size → (∀ j, j < i → yv A j = yv B j) → Steps p.tables e below (s₁.setTop (entryFrame m #[.ref a, .ref b] 3)) (s₁.setTop (mkF m 9 #[.val (.ref a), .val (.ref b), .val (.int (Int32.ofNat i))] [])) → ∃ (pc : Nat) (Ls : Array Slot) (v : Int32), (pc = 25 ∨ pc = 33) ∧ ((v = 1 ∧ EqC A B) ∨ (v = 0 ∧ ¬ EqC A B)) ∧ Steps p.tables e below (s₁.setTop (entryFrame m #[.ref a, .ref b] 3)) (s₁.setTop (mkF m pc Ls [.int v])) := by
      intro r
      induction r with
      | zero =>
        intro i hi he cl
        exact ⟨33, _, 1, Or.inr rfl, Or.inl ⟨rfl, hs, fun j hj => he j (by omega)⟩, cl.trans (by
          refine XS.iloadN X0.here hexec rfl (hb hbytes d9) rfl ?_
          refine XS.aloadN X0.here hexec rfl (hb hbytes d10) rfl rfl ?_
          refine X0.alen hexec hA0 rfl rfl (hb hbytes d11) ?_
          refine XS.icmpYes X0.here hexec rfl (pc0 := 12) rfl (hb hbytes d12) rfl (ii_ge_t (nlt32 (by omega) (by omega))) (by decide) rfl ?_
          refine iconstV X0.here hexec rfl 1 (hb hbytes d32) (by decide) ?_
          exact Steps.refl _)⟩
      | succ r ih =>
        intro i hi he cl
        have c4 : Steps p.tables e below (s₁.setTop (entryFrame m #[.ref a, .ref b] 3)) (s₁.setTop (mkF m 21 #[.val (.ref a), .val (.ref b), .val (.int (Int32.ofNat i))] [.int (yv B i), .int (yv A i)])) := cl.trans (by
          refine XS.iloadN X0.here hexec rfl (hb hbytes d9) rfl ?_
          refine XS.aloadN X0.here hexec rfl (hb hbytes d10) rfl rfl ?_
          refine X0.alen hexec hA0 rfl rfl (hb hbytes d11) ?_
          refine XS.icmpNo X0.here hexec rfl (hb hbytes d12) rfl (ii_ge_f (lt32 (by omega) (by omega))) ?_
          refine XS.aloadN X0.here hexec rfl (hb hbytes d15) rfl rfl ?_
          refine XS.iloadN X0.here hexec rfl (hb hbytes d16) rfl ?_
          refine X0.aget hexec hA0 rfl (yv_get hA tA (i := i) (by omega)) rfl rfl (hb hbytes d17) ?_
          refine XS.aloadN X0.here hexec rfl (hb hbytes d18) rfl rfl ?_
          refine XS.iloadN X0.here hexec rfl (hb hbytes d19) rfl ?_
          refine X0.aget hexec hB0 rfl (yv_get hB tB (i := i) (by omega)) rfl rfl (hb hbytes d20) ?_
          exact Steps.refl _)
        by_cases hv : yv A i = yv B i
        · have c5 : Steps p.tables e below (s₁.setTop (entryFrame m #[.ref a, .ref b] 3)) (s₁.setTop (mkF m 9 #[.val (.ref a), .val (.ref b), .val (.int (Int32.ofNat i + 1))] [])) := c4.trans (by
            refine XS.icmpYes X0.here hexec rfl (pc0 := 21) rfl (hb hbytes d21) rfl (ii_eq_t hv) (by decide) rfl ?_
            refine iincV X0.here hexec rfl 1 (hb hbytes d26) (by decide) rfl rfl ?_
            refine XS.goto X0.here hexec rfl (pc0 := 29) rfl (hb hbytes d29) (by decide) rfl ?_
            exact Steps.refl _)
          rw [succ32] at c5
          exact ih (i + 1) (by omega) (fun j hj => by
            by_cases e : j = i
            · rw [e]; exact hv
            · exact he j (by omega)) c5
        · exact ⟨25, _, 0, Or.inl rfl, Or.inr ⟨rfl, fun q => hv (q.2 i (by omega))⟩, c4.trans (by
            refine XS.icmpNo X0.here hexec rfl (hb hbytes d21) rfl (ii_eq_f hv) ?_
            refine iconstV X0.here hexec rfl 0 (hb hbytes d24) (by decide) ?_
            exact Steps.refl _)⟩
    obtain ⟨pc, Ls, v, hpc, hv, cz⟩ := loop A.slots.size 0 (by omega) (fun j hj => absurd hj (Nat.not_lt_zero j)) c3
    have nv : narrow .boolean (.int v) = .int v := by rcases hv with ⟨rfl, -⟩ | ⟨rfl, -⟩ <;> rfl
    rcases hpc with rfl | rfl
    · exact ⟨s₁, some (.int v), _, _, _, X0, rfl, rfl, rfl, (fun h => by cases h), ⟨v, rfl, hh0, hv⟩, fun fs hl => cz.trans (X0.ireturnOut hexec hret nv (Or.inr (Or.inl rfl)) (hb hbytes d25) hl)⟩
    · exact ⟨s₁, some (.int v), _, _, _, X0, rfl, rfl, rfl, (fun h => by cases h), ⟨v, rfl, hh0, hv⟩, fun fs hl => cz.trans (X0.ireturnOut hexec hret nv (Or.inr (Or.inl rfl)) (hb hbytes d33) hl)⟩
  · have c3 : Steps p.tables e below (s₁.setTop (entryFrame m #[.ref a, .ref b] 3)) (s₁.setTop (mkF m 35 #[.val (.ref a), .val (.ref b), .unset] [.int 0])) := c2.trans (by
      refine XS.icmpYes X0.here hexec rfl (pc0 := 4) rfl (hb hbytes d4) rfl (ii_ne_t (ne32 a31 b31 hs)) (by decide) rfl ?_
      refine iconstV X0.here hexec rfl 0 (hb hbytes d34) (by decide) ?_
      exact Steps.refl _)
    exact ⟨s₁, some (.int 0), _, _, _, X0, rfl, rfl, rfl, (fun h => by cases h), ⟨0, rfl, hh0, Or.inr ⟨rfl, fun q => hs q.1⟩⟩, fun fs hl => c3.trans (X0.ireturnOut hexec hret rfl (Or.inr (Or.inl rfl)) (hb hbytes d35) hl)⟩
end LEq
theorem Cod.ty {cd : Int32} {n : Nat} {f : Nat → Int32} {V : Cell} (h : Cod cd n f V) : Typed .byte V := fun i v hv => by
  have hi : i < V.slots.size := (Array.getElem?_eq_some_iff.mp hv).1
  rcases h with ⟨-, k1, k2⟩ | ⟨-, k1, k2, -⟩
  · rw [(k2 i (by omega)).1] at hv; cases hv; exact fits_lo8 _
  · rcases Nat.mod_two_eq_zero_or_one i with e | e
    · obtain ⟨j, rfl⟩ : ∃ j, i = 2 * j := ⟨i / 2, by omega⟩
      rw [(k2 j (by omega)).1] at hv; cases hv; exact fits_lo8 _
    · obtain ⟨j, rfl⟩ : ∃ j, i = 2 * j + 1 := ⟨i / 2, by omega⟩
      rw [(k2 j (by omega)).2] at hv; cases hv; exact fits_lo8 _
/-- the same text -/
def SameT (n : Nat) (f : Nat → Int32) (k : Nat) (g : Nat → Int32) : Prop := n = k ∧ ∀ j, j < n → f j = g j
theorem lo8_inj {x y : Int32} (h0 : ¬ x < 0) (h1 : ¬ 255 < x) (k0 : ¬ y < 0) (k1 : ¬ 255 < y) (h : lo8 x = lo8 y) : x = y := by
  rw [← lo8_mask h0 h1, ← lo8_mask k0 k1, h]
/-- arrays coded by one coder are equal just where the texts are -/
theorem Cod.eqv {cd : Int32} {n k : Nat} {f g : Nat → Int32} {V V' : Cell} (h : Cod cd n f V) (h' : Cod cd k g V') (hf : ∀ j, j < n → ¬ f j < 0 ∧ ¬ 65535 < f j) (hg : ∀ j, j < k → ¬ g j < 0 ∧ ¬ 65535 < g j) : EqC V V' ↔ SameT n f k g := by
  have yvv : ∀ {W : Cell} {i : Nat} {x : Int32}, W.slots[i]? = some (.int x) → yv W i = x := fun q => by unfold yv; rw [q]
  rcases h with ⟨rfl, k1, k2⟩ | ⟨rfl, k1, k2, -⟩
  · rcases h' with ⟨-, m1, m2⟩ | ⟨e, -⟩
    · constructor
      · rintro ⟨e1, e2⟩
        refine ⟨by omega, fun j hj => ?_⟩
        have q := e2 j (by omega)
        rw [yvv (k2 j hj).1, yvv (m2 j (by omega)).1] at q
        exact lo8_inj (hf j hj).1 (k2 j hj).2 (hg j (by omega)).1 (m2 j (by omega)).2 q
      · rintro ⟨rfl, e2⟩
        refine ⟨by omega, fun j hj => ?_⟩
        rw [yvv (k2 j (by omega)).1, yvv (m2 j (by omega)).1, e2 j (by omega)]
    · exact absurd e (by decide)
  · rcases h' with ⟨e, -⟩ | ⟨-, m1, m2, -⟩
    · exact absurd e (by decide)
    · constructor
      · rintro ⟨e1, e2⟩
        refine ⟨by omega, fun j hj => ?_⟩
        have q1 := e2 (2 * j) (by omega)
        have q2 := e2 (2 * j + 1) (by omega)
        rw [yvv (k2 j hj).1, yvv (m2 j (by omega)).1] at q1
        rw [yvv (k2 j hj).2, yvv (m2 j (by omega)).2] at q2
        rw [← pair_says (hf j hj).1 (hf j hj).2, ← pair_says (hg j (by omega)).1 (hg j (by omega)).2, q1, q2]
      · rintro ⟨rfl, e2⟩
        refine ⟨by omega, fun i hi => ?_⟩
        rcases Nat.mod_two_eq_zero_or_one i with e | e
        · obtain ⟨j, rfl⟩ : ∃ j, i = 2 * j := ⟨i / 2, by omega⟩
          rw [yvv (k2 j (by omega)).1, yvv (m2 j (by omega)).1, e2 j (by omega)]
        · obtain ⟨j, rfl⟩ : ∃ j, i = 2 * j + 1 := ⟨i / 2, by omega⟩
          rw [yvv (k2 j (by omega)).2, yvv (m2 j (by omega)).2, e2 j (by omega)]
/-- two codings differ: so do the texts -/
theorem Cod.dif {cd cd' : Int32} {n k : Nat} {f g : Nat → Int32} {V V' : Cell} (h : Cod cd n f V) (h' : Cod cd' k g V') (hne : ¬ cd = cd') : ¬ SameT n f k g := by
  rintro ⟨rfl, e⟩
  rcases h with ⟨rfl, -, k2⟩ | ⟨rfl, -, -, j, hj, hw⟩
  · rcases h' with ⟨rfl, -⟩ | ⟨-, -, -, j, hj, hw⟩
    · exact hne rfl
    · exact (k2 j hj).2 (by rw [e j hj]; exact hw)
  · rcases h' with ⟨-, -, m2⟩ | ⟨rfl, -⟩
    · exact (m2 j hj).2 (by rw [← e j hj]; exact hw)
    · exact hne rfl
/-- an object of exactly C is an instance of C -/
theorem cinst {p : Program} {l : Launch} {e : Env} {R : Room} {s : State} {m : MethodId} {args : Array Value} {below : List Frame} {meth : Method} {c : Code} {T : State} {locs : List Loc} {cells slots : Nat} (X : Stand p l e R s m args below meth c T locs cells slots) (hexec : p.tables.exec = Jvm.exec) {own C : String} {index : Nat} (hown : s.vm.findClass own = some m.cls) (hlink : (Cond.classLink own index C).before args s = true) {a : Addr} (hE : Exact C a T)
    {g : JFrame} (hg : g.method = m) {rest : List Value} (hstack : g.stack = .ref a :: rest) (hdg : decode c.code g.pc = .ok (.instanceof index, 3)) :
    ∃ T', Stand p l e R s m args below meth c T' locs cells slots ∧ T'.heap = T.heap ∧ ∀ target, Steps p.tables e below (T'.setTop { g with pc := g.pc + 3, stack := .int 1 :: rest }) target → Steps p.tables e below (T.setTop g) target := by
  obtain ⟨cB, h1, D, h2, h3, h4⟩ := hE
  have h1' : s.vm.findClass C = some cB := by rw [← X.warmed.alike.findClass]; exact h1
  obtain ⟨vm', X', st⟩ := X.instanceofYes hexec hown hlink h2 h4 h1' (by rw [h3]; exact Jvm.Free.SB.assignable_self _ _) hg hstack hdg
  exact ⟨_, X', rfl, st⟩
theorem cself {p : Program} {l : Launch} {e : Env} {R : Room} {s : State} {m : MethodId} {args : Array Value} {below : List Frame} {meth : Method} {c : Code} {T : State} {locs : List Loc} {cells slots : Nat} (X : Stand p l e R s m args below meth c T locs cells slots) (hexec : p.tables.exec = Jvm.exec) {own C : String} {index : Nat} (hown : s.vm.findClass own = some m.cls) (hlink : (Cond.classLink own index C).before args s = true) {a : Addr} (hE : Exact C a T)
    {g : JFrame} (hg : g.method = m) {rest : List Value} (hstack : g.stack = .ref a :: rest) (hdg : decode c.code g.pc = .ok (.checkcast index, 3)) :
    ∃ T', Stand p l e R s m args below meth c T' locs cells slots ∧ T'.heap = T.heap ∧ ∀ target, Steps p.tables e below (T'.setTop { g with pc := g.pc + 3, stack := .ref a :: rest }) target → Steps p.tables e below (T.setTop g) target := by
  obtain ⟨cB, h1, D, h2, h3, h4⟩ := hE
  have h1' : s.vm.findClass C = some cB := by rw [← X.warmed.alike.findClass]; exact h1
  obtain ⟨vm', X', st⟩ := X.checkcastYes hexec hown hlink h2 h4 h1' (by rw [h3]; exact Jvm.Free.SB.assignable_self _ _) hg hstack hdg
  exact ⟨_, X', rfl, fun t h => st t (by rw [← hstack] at h; exact h)⟩
namespace SEq
def yN : MethodName := ⟨"java/lang/String", "equals", "(Ljava/lang/Object;)Z"⟩
abbrev yB : ByteArray := jdk_42_method_66_code
theorem d0 : decode yB 0 = .ok (.aload_n 0, 1) := by decide +kernel
theorem d1 : decode yB 1 = .ok (.aload_n 1, 1) := by decide +kernel
theorem d2 : decode yB 2 = .ok (.if_acmp (.ne) 5, 3) := by decide +kernel
theorem d5 : decode yB 5 = .ok (.iconst 1, 1) := by decide +kernel
theorem d6 : decode yB 6 = .ok (.ireturn, 1) := by decide +kernel
theorem d7 : decode yB 7 = .ok (.aload_n 1, 1) := by decide +kernel
theorem d8 : decode yB 8 = .ok (.instanceof 10, 3) := by decide +kernel
theorem d11 : decode yB 11 = .ok (.ifCond (.eq) 43, 3) := by decide +kernel
theorem d14 : decode yB 14 = .ok (.aload_n 1, 1) := by decide +kernel
theorem d15 : decode yB 15 = .ok (.checkcast 10, 3) := by decide +kernel
theorem d18 : decode yB 18 = .ok (.astore_n 2, 1) := by decide +kernel
theorem d19 : decode yB 19 = .ok (.getstatic 38, 3) := by decide +kernel
theorem d22 : decode yB 22 = .ok (.ifCond (.eq) 14, 3) := by decide +kernel
theorem d25 : decode yB 25 = .ok (.aload_n 0, 1) := by decide +kernel
theorem d26 : decode yB 26 = .ok (.getfield 15, 3) := by decide +kernel
theorem d29 : decode yB 29 = .ok (.aload_n 2, 1) := by decide +kernel
theorem d30 : decode yB 30 = .ok (.getfield 15, 3) := by decide +kernel
theorem d33 : decode yB 33 = .ok (.if_icmp (.ne) 21, 3) := by decide +kernel
theorem d36 : decode yB 36 = .ok (.aload_n 0, 1) := by decide +kernel
theorem d37 : decode yB 37 = .ok (.getfield 9, 3) := by decide +kernel
theorem d40 : decode yB 40 = .ok (.aload_n 2, 1) := by decide +kernel
theorem d41 : decode yB 41 = .ok (.getfield 9, 3) := by decide +kernel
theorem d44 : decode yB 44 = .ok (.invokestatic 541, 3) := by decide +kernel
theorem d47 : decode yB 47 = .ok (.ifCond (.eq) 7, 3) := by decide +kernel
theorem d50 : decode yB 50 = .ok (.iconst 1, 1) := by decide +kernel
theorem d51 : decode yB 51 = .ok (.goto 4, 3) := by decide +kernel
theorem d54 : decode yB 54 = .ok (.iconst 0, 1) := by decide +kernel
theorem d55 : decode yB 55 = .ok (.ireturn, 1) := by decide +kernel
def site : List Cond := [.classLink "java/lang/String" 10 "java/lang/String", .fieldLink "java/lang/String" 38 "java/lang/String" "COMPACT_STRINGS" "Z", .fieldLink "java/lang/String" 15 "java/lang/String" "coder" "B", .fieldLink "java/lang/String" 9 "java/lang/String" "value" "[B", LEq.tab] ++ staticW "java/lang/String" 541 LEq.yN
def tab : Cond := tabOf yN yB 3 (some .boolean) site
def P (x t : Addr) (V : Cell) (cd : Int32) (n : Nat) (f : Nat → Int32) (y t' : Addr) (V' : Cell) (cd' : Int32) (k : Nat) (g : Nat → Int32) (z : Int32) (args : Array Value) (s : State) : Prop := args = #[.ref x, .ref y] ∧ Txt x t V cd n f s ∧ Txt y t' V' cd' k g s ∧ StaticIs s "java/lang/String" "COMPACT_STRINGS" "Z" (.int z) ∧ ¬ z = 0
/-- equals(Object) of two Strings: whether the texts are the same -/
theorem law (l : Launch) (x t : Addr) (V : Cell) (cd : Int32) (n : Nat) (f : Nat → Int32) (y t' : Addr) (V' : Cell) (cd' : Int32) (k : Nat) (g : Nat → Int32) (z : Int32) : Law l yN 2 1 1 14 yB 3 (some .boolean) site (P x t V cd n f y t' V' cd' k g z) (Says01 (SameT n f k g)) [] 0 0 := by
  refine Law.of_walk (plainFor_of_name (by decide +kernel)) (by decide +kernel) (by decide +kernel) (by decide) (fun _ _ h => by rw [h.1]; rfl) (fun _ U U' hal hh h => ⟨h.1, h.2.1.mv hal hh, h.2.2.1.mv hal hh, h.2.2.2.1.there hal hh, h.2.2.2.2⟩) (fun r U U' V V' h1 hal h2 h => Says01.mv r U U' V V' h1 hal h2 h) ?_
  intro p e s m args below meth c s₁ X0 hexec hbytes hml hret hlk hnm hown hh0 W hP
  obtain ⟨rfl, hx, hy, s1, hz⟩ := hP
  have c1 : Steps p.tables e below (s₁.setTop (entryFrame m #[.ref x, .ref y] 3)) (s₁.setTop (mkF m 2 #[.val (.ref x), .val (.ref y), .unset] [.ref y, .ref x])) := Steps.trans (entry rfl) (by
    show Steps p.tables e below (s₁.setTop (mkF m 0 #[.val (.ref x), .val (.ref y), .unset] [])) _
    refine XS.aloadN X0.here hexec rfl (hb hbytes d0) rfl rfl ?_
    refine XS.aloadN X0.here hexec rfl (hb hbytes d1) rfl rfl ?_
    exact Steps.refl _)
  by_cases hxy : x = y
  · have c2 : Steps p.tables e below (s₁.setTop (entryFrame m #[.ref x, .ref y] 3)) (s₁.setTop (mkF m 6 #[.val (.ref x), .val (.ref y), .unset] [.int 1])) := c1.trans (by
      refine acmpNo X0.here hexec rfl (hb hbytes d2) rfl rfl rfl (by simp [acmp, hxy]) ?_
      refine iconstV X0.here hexec rfl 1 (hb hbytes d5) (by decide) ?_
      exact Steps.refl _)
    subst hxy
    have ec : cd = cd' := by
      obtain ⟨D, fd, a1, a2, a3⟩ := hx.2.2.1
      obtain ⟨D', fd', b1, b2, b3⟩ := hy.2.2.1
      cases a1.symm.trans b1
      obtain ⟨q1, q2, q3, q4⟩ := a2.1
      obtain ⟨r1, r2, r3, r4⟩ := b2.1
      cases q4.symm.trans r4
      cases a3.symm.trans b3; rfl
    have et : t = t' := by
      obtain ⟨D, fd, a1, a2, a3⟩ := hx.2.1
      obtain ⟨D', fd', b1, b2, b3⟩ := hy.2.1
      cases a1.symm.trans b1
      obtain ⟨q1, q2, q3, q4⟩ := a2.1
      obtain ⟨r1, r2, r3, r4⟩ := b2.1
      cases q4.symm.trans r4
      cases a3.symm.trans b3; rfl
    subst ec et
    have ev : V = V' := by cases hx.2.2.2.1.1.symm.trans hy.2.2.2.1.1; rfl
    subst ev
    have hs : SameT n f k g := (Cod.eqv hx.2.2.2.2.1 hy.2.2.2.2.1 hx.2.2.2.2.2 hy.2.2.2.2.2).mp ⟨rfl, fun _ _ => rfl⟩
    exact ⟨s₁, some (.int 1), _, _, _, X0, rfl, rfl, rfl, (fun h => by cases h), ⟨1, rfl, hh0, Or.inl ⟨rfl, hs⟩⟩, fun fs hl => c2.trans (X0.ireturnOut hexec hret rfl (Or.inr (Or.inl rfl)) (hb hbytes d6) hl)⟩
  · have c2 : Steps p.tables e below (s₁.setTop (entryFrame m #[.ref x, .ref y] 3)) (s₁.setTop (mkF m 8 #[.val (.ref x), .val (.ref y), .unset] [.ref y])) := c1.trans (by
      refine acmpYes X0.here hexec rfl (pc0 := 2) rfl (hb hbytes d2) rfl rfl rfl (by simp [acmp, hxy]) (by decide) rfl ?_
      refine XS.aloadN X0.here hexec rfl (hb hbytes d7) rfl rfl ?_
      exact Steps.refl _)
    obtain ⟨T3, X3, q3, st3⟩ := cinst X0 hexec hown (wk W (.classLink "java/lang/String" 10 "java/lang/String")) (hy.mv X0.warmed.alike hh0).1 (g := (mkF m 8 #[.val (.ref x), .val (.ref y), .unset] [.ref y])) rfl (rest := []) rfl (hb hbytes d8)
    have hh3 := q3.trans hh0
    have c4 : Steps p.tables e below (s₁.setTop (entryFrame m #[.ref x, .ref y] 3)) (T3.setTop (mkF m 15 #[.val (.ref x), .val (.ref y), .unset] [.ref y])) := (c2.trans (st3 _ (Steps.refl _))).trans (by
      refine XS.ifNo X3.here hexec rfl (hb hbytes d11) rfl (i0_eq_f (by decide)) ?_
      refine XS.aloadN X3.here hexec rfl (hb hbytes d14) rfl rfl ?_
      exact Steps.refl _)
    obtain ⟨T5, X5, q5, st5⟩ := cself X3 hexec hown (wk W (.classLink "java/lang/String" 10 "java/lang/String")) (hy.mv X3.warmed.alike hh3).1 (g := (mkF m 15 #[.val (.ref x), .val (.ref y), .unset] [.ref y])) rfl (rest := []) rfl (hb hbytes d15)
    have hh5 := q5.trans hh3
    have c6 : Steps p.tables e below (s₁.setTop (entryFrame m #[.ref x, .ref y] 3)) (T5.setTop (mkF m 19 #[.val (.ref x), .val (.ref y), .val (.ref y)] [])) := (c4.trans (st5 _ (Steps.refl _))).trans (by
      refine XS.astoreN X5.here hexec rfl (hb hbytes d18) rfl rfl rfl ?_
      exact Steps.refl _)
    obtain ⟨T7, X7, q7, st7⟩ := X5.sget hexec hown (wk W (.fieldLink "java/lang/String" 38 "java/lang/String" "COMPACT_STRINGS" "Z")) s1 (fun _ _ h => by rw [hh5]; exact h) (g := (mkF m 19 #[.val (.ref x), .val (.ref y), .val (.ref y)] [])) rfl (hb hbytes d19)
    have hh7 := q7.trans hh5
    have c8 : Steps p.tables e below (s₁.setTop (entryFrame m #[.ref x, .ref y] 3)) (T7.setTop (mkF m 26 #[.val (.ref x), .val (.ref y), .val (.ref y)] [.ref x])) := (c6.trans (st7 _ (Steps.refl _))).trans (by
      refine XS.ifNo X7.here hexec rfl (hb hbytes d22) rfl (i0_eq_f hz) ?_
      refine XS.aloadN X7.here hexec rfl (hb hbytes d25) rfl rfl ?_
      exact Steps.refl _)
    obtain ⟨T9, X9, q9, st9⟩ := X7.hget hexec hown (wk W (.fieldLink "java/lang/String" 15 "java/lang/String" "coder" "B")) (hx.mv X7.warmed.alike hh7).2.2.1 (g := (mkF m 26 #[.val (.ref x), .val (.ref y), .val (.ref y)] [.ref x])) rfl (rest := []) rfl (hb hbytes d26)
    have hh9 := q9.trans hh7
    have c10 : Steps p.tables e below (s₁.setTop (entryFrame m #[.ref x, .ref y] 3)) (T9.setTop (mkF m 30 #[.val (.ref x), .val (.ref y), .val (.ref y)] [.ref y, .int cd])) := (c8.trans (st9 _ (Steps.refl _))).trans (by
      refine XS.aloadN X9.here hexec rfl (hb hbytes d29) rfl rfl ?_
      exact Steps.refl _)
    obtain ⟨T11, X11, q11, st11⟩ := X9.hget hexec hown (wk W (.fieldLink "java/lang/String" 15 "java/lang/String" "coder" "B")) (hy.mv X9.warmed.alike hh9).2.2.1 (g := (mkF m 30 #[.val (.ref x), .val (.ref y), .val (.ref y)] [.ref y, .int cd])) rfl (rest := [.int cd]) rfl (hb hbytes d30)
    have hh11 := q11.trans hh9
    have c12 : Steps p.tables e below (s₁.setTop (entryFrame m #[.ref x, .ref y] 3)) (T11.setTop (mkF m 33 #[.val (.ref x), .val (.ref y), .val (.ref y)] [.int cd', .int cd])) := c10.trans (st11 _ (Steps.refl _))
    by_cases hcd : cd = cd'
    · subst hcd
      have c13 : Steps p.tables e below (s₁.setTop (entryFrame m #[.ref x, .ref y] 3)) (T11.setTop (mkF m 37 #[.val (.ref x), .val (.ref y), .val (.ref y)] [.ref x])) := c12.trans (by
        refine XS.icmpNo X11.here hexec rfl (hb hbytes d33) rfl (ii_ne_f rfl) ?_
        refine XS.aloadN X11.here hexec rfl (hb hbytes d36) rfl rfl ?_
        exact Steps.refl _)
      obtain ⟨T14, X14, q14, st14⟩ := X11.hget hexec hown (wk W (.fieldLink "java/lang/String" 9 "java/lang/String" "value" "[B")) (hx.mv X11.warmed.alike hh11).2.1 (g := (mkF m 37 #[.val (.ref x), .val (.ref y), .val (.ref y)] [.ref x])) rfl (rest := []) rfl (hb hbytes d37)
      have hh14 := q14.trans hh11
      have c15 : Steps p.tables e below (s₁.setTop (entryFrame m #[.ref x, .ref y] 3)) (T14.setTop (mkF m 41 #[.val (.ref x), .val (.ref y), .val (.ref y)] [.ref y, .ref t])) := (c13.trans (st14 _ (Steps.refl _))).trans (by
        refine XS.aloadN X14.here hexec rfl (hb hbytes d40) rfl rfl ?_
        exact Steps.refl _)
      obtain ⟨T16, X16, q16, st16⟩ := X14.hget hexec hown (wk W (.fieldLink "java/lang/String" 9 "java/lang/String" "value" "[B")) (hy.mv X14.warmed.alike hh14).2.1 (g := (mkF m 41 #[.val (.ref x), .val (.ref y), .val (.ref y)] [.ref y, .ref t])) rfl (rest := [.ref t]) rfl (hb hbytes d41)
      have hh16 := q16.trans hh14
      have c17 : Steps p.tables e below (s₁.setTop (entryFrame m #[.ref x, .ref y] 3)) (T16.setTop (mkF m 44 #[.val (.ref x), .val (.ref y), .val (.ref y)] [.ref t', .ref t])) := c15.trans (st16 _ (Steps.refl _))
      obtain ⟨v18, T18, X18, E18, g18⟩ := X16.callS hexec (LEq.law l t V t' V') hown (wks W (staticW "java/lang/String" 541 LEq.yN)) (wk W LEq.tab) (W := 0) (Nat.le_of_ble_eq_true rfl) (Nat.le_of_ble_eq_true rfl) (Nat.le_refl _) (Nat.le_refl _) (g := (mkF m 44 #[.val (.ref x), .val (.ref y), .val (.ref y)] [.ref t', .ref t])) rfl (by rw [hml]; rfl) c17 (argsL := [.ref t, .ref t']) (rest := []) rfl rfl (by show 2 * 0 + 0 ≤ _; decide) (hb hbytes d44) (⟨rfl, hx.2.2.2.1.mv X16.warmed.alike hh16, hx.2.2.2.2.1.ty, hy.2.2.2.1.mv X16.warmed.alike hh16, hy.2.2.2.2.1.ty⟩)
      obtain ⟨v, rfl, q18, hv⟩ := E18
      have iff := Cod.eqv hx.2.2.2.2.1 hy.2.2.2.2.1 hx.2.2.2.2.2 hy.2.2.2.2.2
      rcases hv with ⟨rfl, he⟩ | ⟨rfl, he⟩
      · have c19 : Steps p.tables e below (s₁.setTop (entryFrame m #[.ref x, .ref y] 3)) (T18.setTop (mkF m 55 #[.val (.ref x), .val (.ref y), .val (.ref y)] [.int 1])) := Steps.trans g18 (by
          refine XS.ifNo X18.here hexec rfl (hb hbytes d47) rfl (i0_eq_f (by decide)) ?_
          refine iconstV X18.here hexec rfl 1 (hb hbytes d50) (by decide) ?_
          refine XS.goto X18.here hexec rfl (pc0 := 51) rfl (hb hbytes d51) (by decide) rfl ?_
          exact Steps.refl _)
        exact ⟨T18, some (.int 1), _, _, _, X18, rfl, rfl, rfl, (fun h => by cases h), ⟨1, rfl, q18.trans hh16, Or.inl ⟨rfl, iff.mp he⟩⟩, fun fs hl => c19.trans (X18.ireturnOut hexec hret rfl (Or.inr (Or.inl rfl)) (hb hbytes d55) hl)⟩
      · have c19 : Steps p.tables e below (s₁.setTop (entryFrame m #[.ref x, .ref y] 3)) (T18.setTop (mkF m 55 #[.val (.ref x), .val (.ref y), .val (.ref y)] [.int 0])) := Steps.trans g18 (by
          refine XS.ifYes X18.here hexec rfl (pc0 := 47) rfl (hb hbytes d47) rfl (i0_eq_t rfl) (by decide) rfl ?_
          refine iconstV X18.here hexec rfl 0 (hb hbytes d54) (by decide) ?_
          exact Steps.refl _)
        exact ⟨T18, some (.int 0), _, _, _, X18, rfl, rfl, rfl, (fun h => by cases h), ⟨0, rfl, q18.trans hh16, Or.inr ⟨rfl, fun q => he (iff.mpr q)⟩⟩, fun fs hl => c19.trans (X18.ireturnOut hexec hret rfl (Or.inr (Or.inl rfl)) (hb hbytes d55) hl)⟩
    · have c13 : Steps p.tables e below (s₁.setTop (entryFrame m #[.ref x, .ref y] 3)) (T11.setTop (mkF m 55 #[.val (.ref x), .val (.ref y), .val (.ref y)] [.int 0])) := c12.trans (by
        refine XS.icmpYes X11.here hexec rfl (pc0 := 33) rfl (hb hbytes d33) rfl (ii_ne_t hcd) (by decide) rfl ?_
        refine iconstV X11.here hexec rfl 0 (hb hbytes d54) (by decide) ?_
        exact Steps.refl _)
      exact ⟨T11, some (.int 0), _, _, _, X11, rfl, rfl, rfl, (fun h => by cases h), ⟨0, rfl, hh11, Or.inr ⟨rfl, Cod.dif hx.2.2.2.2.1 hy.2.2.2.2.1 hcd⟩⟩, fun fs hl => c13.trans (X11.ireturnOut hexec hret rfl (Or.inr (Or.inl rfl)) (hb hbytes d55) hl)⟩
theorem pays {l : Launch} {R : Room} {p : Program} {e : Env} {below : List Frame} {s : State} {sargs : Array Value} {len W : Nat} (x t : Addr) (V : Cell) (cd : Int32) (n : Nat) (f : Nat → Int32) (y t' : Addr) (V' : Cell) (cd' : Int32) (k : Nat) (g : Nat → Int32) (z : Int32) (htab : tab.before sargs s = true) (hfr : 2 ≤ R.frames) (hlo : W + 28 ≤ R.locals) :
    Back l R p e below s sargs yN len W (fun A₁ a₁ => A₁.cells + 0 ≤ R.cells ∧ A₁.slots + 0 ≤ R.slots ∧ P x t V cd n f y t' V' cd' k g z a₁ A₁.U) (fun A₁ _ v₁ B₁ => Says01 (SameT n f k g) v₁ A₁.U B₁.U ∧ B₁.locs = A₁.locs ++ [] ∧ B₁.cells = A₁.cells + 0 ∧ B₁.slots = A₁.slots + 0) :=
  (law l x t V cd n f y t' V' cd' k g z).pays htab hfr (by omega)
end SEq
end StrChars
namespace StrChars.Road
open Jvm Sem ClassFile Op Lib Jvm.Stand Jvm.Free Jvm.Free.XT
open Jvm.Lib.Cold (StaticIs)
/-- the words of String.equals(Object) -/
abbrev wordsEq : List Jvm.Cond := [.code SEq.yN SEq.yB 3 (some .boolean), .initialized ST, .classLink ST 10 ST, .fieldLink ST 38 ST "COMPACT_STRINGS" "Z", .fieldLink ST 15 ST "coder" "B", .fieldLink ST 9 ST "value" "[B", .methodLink ST 541 LEq.yN, .static LEq.yN, .code LEq.yN LEq.yB 3 (some .boolean), .initialized "java/lang/StringLatin1"]
theorem tabEq_of {a : Array Value} {s : State} (h : ∀ w ∈ wordsEq, w.before a s = true) : SEq.tab.before a s = true := by
  have hl : LEq.tab.before a s = true := unparts (wk h (.code LEq.yN LEq.yB 3 (some .boolean))) (wks h (.initialized LEq.yN.cls :: LEq.site))
  have q := consq hl h
  exact unparts (wk q (.code SEq.yN SEq.yB 3 (some .boolean))) (wks q (.initialized SEq.yN.cls :: SEq.site))
theorem movedEq {Z s : State} {a0 args : Array Value} (hZ : Z.Warmed39 s.vm) (hw : ∀ d ∈ wordsEq, d.before a0 Z = true) : ∀ d ∈ wordsEq, d.before args s = true := fun d hd => by
  have t : ∀ d ∈ wordsEq, (d.onTables && d.keepsFace) = true := by decide +kernel
  exact RoadKit.mv hZ (hw d hd) (t d hd)
/-- the road's facts of a String, as the laws ask it -/
theorem txt_of {Z U : State} {a0 : Array Value} {kI : Nat} (wi : (Jvm.Cond.instantiable ST kI).before a0 Z = true) (al : Z.vm.Alike U.vm) {x t : Addr} {kb : ClassId} {cs : List Int32} {cd N2 : Int32} {vs : List Value} (E : RoadKit.Exa Z U.heap x ST) (V : RoadKit.Fld Z U.heap x ST "value" "[B" (.ref t)) (C : RoadKit.Fld Z U.heap x ST "coder" "B" (.int cd)) (K : RoadKit.Arv Z U.heap t kb .byte N2 vs (.int 0)) (hc : CodA cs cd N2 vs) (hb : ∀ c ∈ cs, ¬ c < 0 ∧ ¬ (65535 : Int32) < c) (l2 : cs.length ≤ 4000) :
    ∃ A, Txt x t A cd cs.length (fun j => cs.getD j 0) U := by
  obtain ⟨A, K1, K2, K3, K4, K5, K6⟩ := K
  have hcod := hc.cod (by omega) K3 K5
  obtain ⟨D, fV, fC, hB, F1, F2, g1, g2, -, -⟩ := strObj wi al E V C
  exact ⟨A, ⟨_, hB.2.2.1, D, hB.1, rfl, by cases q : D.vm <;> first | rfl | exact absurd q (hB.2.1.2 _)⟩, Has.of hB F1 g1, Has.of hB F2 g2, ⟨K1.1, State.isArrayOf_alike al K1.2.1, K1.2.2, by rcases hcod with ⟨-, q, -⟩ | ⟨-, q, -⟩ <;> omega⟩, hcod, fun j hj => by
    have e : cs.getD j 0 = cs[j] := by simp [List.getD_eq_getElem?_getD, hj]
    show ¬ cs.getD j 0 < 0 ∧ ¬ 65535 < cs.getD j 0
    rw [e]; exact hb _ (List.getElem_mem _)⟩
theorem same_list (cs ds : List Int32) : SameT cs.length (fun j => cs.getD j 0) ds.length (fun j => ds.getD j 0) ↔ cs = ds := by
  constructor
  · rintro ⟨e, q⟩
    refine List.ext_getElem e fun j h1 h2 => ?_
    have := q j h1
    simpa [List.getD_eq_getElem?_getD, h1, h2] using this
  · rintro rfl
    exact ⟨rfl, fun _ _ => rfl⟩
/-- **equals(Object) OF TWO SUCH STRINGS**: 1 just where the chars are the same -/
theorem eqW {p : Program} {l : Launch} {e : Env} {R : Room} {s : State} {args : Array Value} {below : List Frame} {len W : Nat} {Z : State} {a0 : Array Value} {h : Heap} (hZ : Z.Warmed39 s.vm) (hw : ∀ d ∈ wordsEq, d.before a0 Z = true) {kI : Nat} (wi : (Jvm.Cond.instantiable ST kI).before a0 Z = true)
    {x t : Addr} {kb : ClassId} {cs : List Int32} {cd N2 : Int32} {vs : List Value} (E : RoadKit.Exa Z h x ST) (V : RoadKit.Fld Z h x ST "value" "[B" (.ref t)) (C : RoadKit.Fld Z h x ST "coder" "B" (.int cd)) (K : RoadKit.Arv Z h t kb .byte N2 vs (.int 0)) (hc : CodA cs cd N2 vs) (hb : ∀ c ∈ cs, ¬ c < 0 ∧ ¬ (65535 : Int32) < c) (l2 : cs.length ≤ 4000)
    {y t' : Addr} {kb' : ClassId} {ds : List Int32} {cd' N2' : Int32} {vs' : List Value} (E' : RoadKit.Exa Z h y ST) (V' : RoadKit.Fld Z h y ST "value" "[B" (.ref t')) (C' : RoadKit.Fld Z h y ST "coder" "B" (.int cd')) (K' : RoadKit.Arv Z h t' kb' .byte N2' vs' (.int 0)) (hc' : CodA ds cd' N2' vs') (hb' : ∀ c ∈ ds, ¬ c < 0 ∧ ¬ (65535 : Int32) < c) (l2' : ds.length ≤ 4000)
    {z : Int32} (S : RoadKit.Sta Z h ST "COMPACT_STRINGS" "Z" (.int z)) (hz : ¬ z = 0) (hfr : 2 ≤ R.frames) (hlo : W + 28 ≤ R.locals) :
    Back l R p e below s args (⟨"java/lang/String", "equals", "(Ljava/lang/Object;)Z"⟩ : MethodName) len W (fun P a => a = #[.ref x, .ref y] ∧ P.U.heap = h ∧ P.cells + 0 ≤ R.cells ∧ P.slots + 0 ≤ R.slots)
      (fun P _ v B => ∃ L, (((v = some (.int 1) ∧ cs = ds) ∨ (v = some (.int 0) ∧ ¬ cs = ds)) ∧ L = [] ∧ B.U.heap = h) ∧ B.locs = P.locs ++ L ∧ B.cells = P.cells + 0 ∧ B.slots = P.slots + 0) := by
  intro m meth c P g ig mk a X hg hsize hdg hW hn hp'
  obtain ⟨rfl, rfl, r1, r2⟩ := hp'
  have al : Z.vm.Alike P.U.vm := hZ.alike.trans X.warmed.alike
  obtain ⟨A, hx⟩ := txt_of wi al E V C K hc hb l2
  obtain ⟨A', hy⟩ := txt_of wi al E' V' C' K' hc' hb' l2'
  obtain ⟨v, B, X', ⟨⟨w, hv, hh, hq⟩, hl, hk, hs⟩, st⟩ := SEq.pays x t A cd cs.length (fun j => cs.getD j 0) y t' A' cd' ds.length (fun j => ds.getD j 0) z (tabEq_of (movedEq hZ hw)) hfr hlo m meth c P g ig mk _ X hg hsize hdg hW hn ⟨r1, r2, rfl, hx, hy, sta_is al S, hz⟩
  refine ⟨v, B, X', ⟨[], ⟨?_, rfl, hh⟩, hl, hk, hs⟩, st⟩
  rcases hq with ⟨rfl, q⟩ | ⟨rfl, q⟩
  · exact Or.inl ⟨hv, (same_list cs ds).mp q⟩
  · exact Or.inr ⟨hv, fun e => q ((same_list cs ds).mpr e)⟩
end StrChars.Road
namespace StrChars
open Jvm Sem ClassFile Op Lib Jvm.Stand Jvm.Free.XT Jvm.Free.ALB Jvm.Free.JM Jvm.Free
open Jvm.Lib.Cold (StaticIs)
namespace ChN
def yN : MethodName := ⟨"java/lang/String", "charAt", "(I)C"⟩
abbrev yB : ByteArray := jdk_42_method_56_code
theorem d0 : decode yB 0 = .ok (.aload_n 0, 1) := by decide +kernel
theorem d1 : decode yB 1 = .ok (.invokevirtual 492, 3) := by decide +kernel
theorem d4 : decode yB 4 = .ok (.ifCond (.eq) 12, 3) := by decide +kernel
theorem d7 : decode yB 7 = .ok (.aload_n 0, 1) := by decide +kernel
theorem d8 : decode yB 8 = .ok (.getfield 9, 3) := by decide +kernel
theorem d11 : decode yB 11 = .ok (.iload_n 1, 1) := by decide +kernel
theorem d12 : decode yB 12 = .ok (.invokestatic 495, 3) := by decide +kernel
theorem d15 : decode yB 15 = .ok (.ireturn, 1) := by decide +kernel
def site : List Cond := [.fieldLink "java/lang/String" 9 "java/lang/String" "value" "[B", IsL.tab, LChA.tab] ++ virtW "java/lang/String" 492 "java/lang/String" IsL.yN IsL.yN ++ staticW "java/lang/String" 495 LChA.yN
def tab : Cond := tabOf yN yB 2 (some .char) site
def P (x t : Addr) (V : Cell) (n : Nat) (f : Nat → Int32) (z : Int32) (fm : Value) (i : Nat) (args : Array Value) (s : State) : Prop := args = #[.ref x, .int (Int32.ofNat i)] ∧ Txt x t V 0 n f s ∧ i < n ∧ StaticIs s "java/lang/String" "COMPACT_STRINGS" "Z" (.int z) ∧ ¬ z = 0 ∧ StaticIs s "jdk/internal/util/Preconditions" "SIOOBE_FORMATTER" "Ljava/util/function/BiFunction;" fm ∧ fm.isRef = true
def E (f : Nat → Int32) (i : Nat) (r : Option Value) (s u : State) : Prop := XT.PureE (some (.int (f i))) r s u
/-- charAt(i) of a Latin-1 String of n chars, i < n: f i -/
theorem law (l : Launch) (x t : Addr) (V : Cell) (n : Nat) (f : Nat → Int32) (z : Int32) (fm : Value) (i : Nat) : Law l yN 2 1 3 40 yB 2 (some .char) site (P x t V n f z fm i) (E f i) [] 0 0 := by
  refine Law.of_walk (plainFor_of_name (by decide +kernel)) (by decide +kernel) (by decide +kernel) (by decide) (fun _ _ h => by rw [h.1]; rfl) (fun _ U U' hal hh h => ⟨h.1, h.2.1.mv hal hh, h.2.2.1, h.2.2.2.1.there hal hh, h.2.2.2.2.1, h.2.2.2.2.2.1.there hal hh, h.2.2.2.2.2.2⟩) (fun r U U' V V' h1 hal h2 h => XT.PureE.mv r U U' V V' h1 hal h2 h) ?_
  intro p e s m args below meth c s₁ X0 hexec hbytes hml hret hlk hnm hown hh0 W hP
  obtain ⟨rfl, hx, hi, s1, hz, s3, rf⟩ := hP
  have v31 := hx.2.2.2.1.2.2.2
  have hr := hx.2.2.2.2.2 i hi
  have hx0 := hx.mv X0.warmed.alike hh0
  have c1 : Steps p.tables e below (s₁.setTop (entryFrame m #[.ref x, .int (Int32.ofNat i)] 2)) (s₁.setTop (mkF m 1 #[.val (.ref x), .val (.int (Int32.ofNat i))] [.ref x])) := Steps.trans (entry rfl) (by
    show Steps p.tables e below (s₁.setTop (mkF m 0 #[.val (.ref x), .val (.int (Int32.ofNat i))] [])) _
    refine XS.aloadN X0.here hexec rfl (hb hbytes d0) rfl rfl ?_
    exact Steps.refl _)
  obtain ⟨v2, T2, X2, E2, g2⟩ := X0.callV hexec (IsL.law l x 0 z) hown (wks W (virtW "java/lang/String" 492 "java/lang/String" IsL.yN IsL.yN)) rfl (by decide) (wk W IsL.tab) (W := 0) (Nat.le_of_ble_eq_true rfl) (Nat.le_of_ble_eq_true rfl) (Nat.le_refl _) (Nat.le_refl _) (hx0.1.fc X0.warmed.alike) hx0.1.is (g := (mkF m 1 #[.val (.ref x), .val (.int (Int32.ofNat i))] [.ref x])) rfl (by rw [hml]; rfl) c1 (argsL := []) (rest := []) rfl rfl (by show 2 * 0 + 0 ≤ _; decide) (hb hbytes d1) (⟨rfl, hx0.2.2.1, hx.2.2.2.2.1.cd, s1.there X0.warmed.alike hh0, hz⟩)
  obtain ⟨rfl, q2⟩ := E2
  have hh2 := q2.trans hh0
  have hx2 := hx.mv X2.warmed.alike hh2
  obtain ⟨-, k1, k2⟩ | ⟨k0, -⟩ := hx.2.2.2.2.1
  · have c3 : Steps p.tables e below (s₁.setTop (entryFrame m #[.ref x, .int (Int32.ofNat i)] 2)) (T2.setTop (mkF m 8 #[.val (.ref x), .val (.int (Int32.ofNat i))] [.ref x])) := Steps.trans g2 (by
      refine XS.ifNo X2.here hexec rfl (hb hbytes d4) rfl (i0_eq_f (by decide)) ?_
      refine XS.aloadN X2.here hexec rfl (hb hbytes d7) rfl rfl ?_
      exact Steps.refl _)
    obtain ⟨T4, X4, q4, st4⟩ := X2.hget hexec hown (wk W (.fieldLink "java/lang/String" 9 "java/lang/String" "value" "[B")) hx2.2.1 (g := (mkF m 8 #[.val (.ref x), .val (.int (Int32.ofNat i))] [.ref x])) rfl (rest := []) rfl (hb hbytes d8)
    have hh4 := q4.trans hh2
    have c5 : Steps p.tables e below (s₁.setTop (entryFrame m #[.ref x, .int (Int32.ofNat i)] 2)) (T4.setTop (mkF m 12 #[.val (.ref x), .val (.int (Int32.ofNat i))] [.int (Int32.ofNat i), .ref t])) := (c3.trans (st4 _ (Steps.refl _))).trans (by
      refine XS.iloadN X4.here hexec rfl (hb hbytes d11) rfl ?_
      exact Steps.refl _)
    obtain ⟨v6, T6, X6, E6, g6⟩ := X4.callS hexec (LChA.law l t V i (lo8 (f i)) fm) hown (wks W (staticW "java/lang/String" 495 LChA.yN)) (wk W LChA.tab) (W := 0) (Nat.le_of_ble_eq_true rfl) (Nat.le_of_ble_eq_true rfl) (Nat.le_refl _) (Nat.le_refl _) (g := (mkF m 12 #[.val (.ref x), .val (.int (Int32.ofNat i))] [.int (Int32.ofNat i), .ref t])) rfl (by rw [hml]; rfl) c5 (argsL := [.ref t, .int (Int32.ofNat i)]) (rest := []) rfl rfl (by show 2 * 0 + 0 ≤ _; decide) (hb hbytes d12) (⟨rfl, hx.2.2.2.1.mv X4.warmed.alike hh4, (k2 i hi).1, s3.there X4.warmed.alike hh4, rf⟩)
    obtain ⟨rfl, q6⟩ := E6
    rw [chr8_lo8 hr.1 (k2 i hi).2] at g6
    exact ⟨T6, some (.int (f i)), _, _, _, X6, rfl, rfl, rfl, (fun h => by cases h), ⟨rfl, q6.trans hh4⟩, fun fs hl => Steps.trans g6 (X6.ireturnOut hexec hret (narrow_ch hr.1 hr.2) (Or.inr (Or.inr (Or.inr (Or.inl rfl)))) (hb hbytes d15) hl)⟩
  · exact absurd k0 (by decide)
theorem pays {l : Launch} {R : Room} {p : Program} {e : Env} {below : List Frame} {s : State} {sargs : Array Value} {len W : Nat} (x t : Addr) (V : Cell) (n : Nat) (f : Nat → Int32) (z : Int32) (fm : Value) (i : Nat) (htab : tab.before sargs s = true) (hfr : 4 ≤ R.frames) (hlo : W + 53 ≤ R.locals) :
    Back l R p e below s sargs yN len W (fun A₁ a₁ => A₁.cells + 0 ≤ R.cells ∧ A₁.slots + 0 ≤ R.slots ∧ P x t V n f z fm i a₁ A₁.U) (fun A₁ _ v₁ B₁ => E f i v₁ A₁.U B₁.U ∧ B₁.locs = A₁.locs ++ [] ∧ B₁.cells = A₁.cells + 0 ∧ B₁.slots = A₁.slots + 0) :=
  (law l x t V n f z fm i).pays htab hfr (by omega)
end ChN
end StrChars
namespace StrChars.Road
open Jvm Sem ClassFile Op Lib Jvm.Stand Jvm.Free Jvm.Free.XT
open Jvm.Lib.Cold (StaticIs)
/-- the words of String.charAt(int), the Latin-1 road alone -/
abbrev wordsChN : List Jvm.Cond := [.code ChN.yN ChN.yB 2 (some .char), .initialized ST, .fieldLink ST 9 ST "value" "[B", .fieldLink ST 38 ST "COMPACT_STRINGS" "Z", .fieldLink ST 15 ST "coder" "B", .code IsL.yN IsL.yB 1 (some .boolean), .methodLink ST 492 IsL.yN, .declares IsL.yN, .selects ST IsL.yN IsL.yN, .instanceMethod IsL.yN,
  .methodLink ST 495 LChA.yN, .static LChA.yN, .code LChA.yN LChA.yB 2 (some .char), .initialized "java/lang/StringLatin1", .methodLink "java/lang/StringLatin1" 9 JO.Str_checkIndex.yN, .static JO.Str_checkIndex.yN, .code JO.Str_checkIndex.yN JO.Str_checkIndex.yB 2 none,
  .fieldLink ST 1053 "jdk/internal/util/Preconditions" "SIOOBE_FORMATTER" "Ljava/util/function/BiFunction;", .methodLink ST 1059 JC.PreCheck.yN, .static JC.PreCheck.yN, .code JC.PreCheck.yN JC.PreCheck.yB 3 (some .int), .initialized "jdk/internal/util/Preconditions"]
theorem tabChN_of {a : Array Value} {s : State} (h : ∀ w ∈ wordsChN, w.before a s = true) : ChN.tab.before a s = true := by
  have hp : JC.PreCheck.tab.before a s = true := unparts (wk h (.code JC.PreCheck.yN JC.PreCheck.yB 3 (some .int))) (wks h (.initialized JC.PreCheck.yN.cls :: JC.PreCheck.site))
  have qk := consq hp h
  have hk : JO.Str_checkIndex.tab.before a s = true := unparts (wk qk (.code JO.Str_checkIndex.yN JO.Str_checkIndex.yB 2 none)) (wks qk (.initialized JO.Str_checkIndex.yN.cls :: JO.Str_checkIndex.site))
  have ql := consq hk h
  have hl : LChA.tab.before a s = true := unparts (wk ql (.code LChA.yN LChA.yB 2 (some .char))) (wks ql (.initialized LChA.yN.cls :: LChA.site))
  have hi : IsL.tab.before a s = true := unparts (wk h (.code IsL.yN IsL.yB 1 (some .boolean))) (wks h (.initialized IsL.yN.cls :: IsL.site))
  have q := consq hi (consq hl h)
  exact unparts (wk q (.code ChN.yN ChN.yB 2 (some .char))) (wks q (.initialized ChN.yN.cls :: ChN.site))
theorem movedChN {Z s : State} {a0 args : Array Value} (hZ : Z.Warmed39 s.vm) (hw : ∀ d ∈ wordsChN, d.before a0 Z = true) : ∀ d ∈ wordsChN, d.before args s = true := fun d hd => by
  have t : ∀ d ∈ wordsChN, (d.onTables && d.keepsFace) = true := by decide +kernel
  exact RoadKit.mv hZ (hw d hd) (t d hd)
/-- **charAt(i) OF A LATIN-1 STRING**, i < n: the char -/
theorem chN {p : Program} {l : Launch} {e : Env} {R : Room} {s : State} {args : Array Value} {below : List Frame} {len W : Nat} {Z : State} {a0 : Array Value} {h : Heap} (hZ : Z.Warmed39 s.vm) (hw : ∀ d ∈ wordsChN, d.before a0 Z = true) {kI : Nat} (wi : (Jvm.Cond.instantiable ST kI).before a0 Z = true)
    {x t : Addr} {kb : ClassId} {cs : List Int32} {N2 z : Int32} {vs : List Value} {fm : Value} {i : Nat} {j : Int32} (E : RoadKit.Exa Z h x ST) (V : RoadKit.Fld Z h x ST "value" "[B" (.ref t)) (C : RoadKit.Fld Z h x ST "coder" "B" (.int 0)) (K : RoadKit.Arv Z h t kb .byte N2 vs (.int 0)) (hc : CodA cs 0 N2 vs) (hb : ∀ c ∈ cs, ¬ c < 0 ∧ ¬ (65535 : Int32) < c)
    (S : RoadKit.Sta Z h ST "COMPACT_STRINGS" "Z" (.int z)) (hz : ¬ z = 0) (F : RoadKit.Sta Z h "jdk/internal/util/Preconditions" "SIOOBE_FORMATTER" "Ljava/util/function/BiFunction;" fm) (rf : fm.isRef = true) (l2 : cs.length ≤ 4000) (hi : i < cs.length) (hj : j = Int32.ofNat i) (hfr : 4 ≤ R.frames) (hlo : W + 53 ≤ R.locals) :
    Back l R p e below s args (⟨"java/lang/String", "charAt", "(I)C"⟩ : MethodName) len W (fun P a => a = #[.ref x, .int j] ∧ P.U.heap = h ∧ P.cells + 0 ≤ R.cells ∧ P.slots + 0 ≤ R.slots)
      (fun P _ v B => ∃ L, (v = some (.int (cs.getD i 0)) ∧ L = [] ∧ B.U.heap = h) ∧ B.locs = P.locs ++ L ∧ B.cells = P.cells + 0 ∧ B.slots = P.slots + 0) := by
  subst hj
  intro m meth c P g ig mk a X hg hsize hdg hW hn hp'
  obtain ⟨rfl, rfl, r1, r2⟩ := hp'
  have al : Z.vm.Alike P.U.vm := hZ.alike.trans X.warmed.alike
  obtain ⟨A, hx⟩ := txt_of wi al E V C K hc hb l2
  obtain ⟨v, B, X', ⟨⟨hv, hh⟩, hl, hk, hs⟩, st⟩ := ChN.pays x t A cs.length (fun j => cs.getD j 0) z fm i (tabChN_of (movedChN hZ hw)) hfr hlo m meth c P g ig mk _ X hg hsize hdg hW hn ⟨r1, r2, rfl, hx, hi, sta_is al S, hz, sta_is al F, rf⟩
  exact ⟨v, B, X', ⟨[], ⟨hv, rfl, hh⟩, hl, hk, hs⟩, st⟩
/-- what backV says of its String, as the contracts of this text ask it: cs's low bytes, coder 0 -/
theorem codOf {cs : List Int32} {n : Nat} (hn : cs.length = n) (hb : ∀ c ∈ cs, ¬ 255 < c) : CodA cs 0 (Int32.ofNat n) ((cs.map lo8).map Value.int) := Or.inl ⟨rfl, by rw [hn], by simp [List.map_map, Function.comp_def], hb⟩
end StrChars.Road
end Jvm.Pilot.@@N@@

namespace Jvm.Pilot.@@N@@
open Jvm Jvm.ClassFile Sem Op Lib Jvm.Free Jvm.Stand Jvm.LawKit Jvm.RoadKit Bundle Jvm.Pilot.@@N@@.Jvm.D
/-- the run from A ends, and its end is as K says -/
def own_Go (tb : Tables) (e : Env) (below : List Frame) (K : Outcome → State → Prop) (A : State) : Prop := ∃ s₂ o, Steps tb e below A s₂ ∧ s₂.status = .running ∧ Ended s₂ below o ∧ K o s₂
theorem own_st {tb : Tables} {e : Env} {below : List Frame} {K : Outcome → State → Prop} {A B : State} (h : ∀ t, Steps tb e below B t → Steps tb e below A t) (g : own_Go tb e below K B) : own_Go tb e below K A := by
  obtain ⟨s₂, o, h1, r⟩ := g
  exact ⟨s₂, o, h _ h1, r⟩
theorem own_tr {tb : Tables} {e : Env} {below : List Frame} {K : Outcome → State → Prop} {A B : State} (h : Steps tb e below A B) (g : own_Go tb e below K B) : own_Go tb e below K A := by
  obtain ⟨s₂, o, h1, r⟩ := g
  exact ⟨s₂, o, h.trans h1, r⟩
section Rets
variable {p : Program} {l : Launch} {e : Env} {R : Room} {s : State} {m : MethodId} {args : Array Value} {below : List Frame} {meth : Method} {c : Code} {T : State} {locs : List Loc} {cells slots : Nat} {Q : Option Value → Heap → List Loc → Prop} {C S : Nat}
theorem own_ret (X : Stand p l e R s m args below meth c T locs cells slots) {v : Option Value} {A : State} (hv : meth.sig.returnType = none → v = none) (hlocks : meth.locks = false)
    (st : ∀ fs, (∀ (f : JFrame) (acts : List Action), f.method = m → f.locked = none → f.entered = [] → (doReturn e (T.setTop f) acts v).1 = T.setFrames fs) → Steps p.tables e below A (T.setFrames fs)) (q : Q v T.heap locs) (hc : cells ≤ C) (hs : slots ≤ S) :
    own_Go p.tables e below (fun o U' => ∃ v L, o = .returned v ∧ Q v U'.heap L ∧ FrameEnd s o U' L C S) A := by
  obtain ⟨fs, hr, hrun, hended, hW, hsame⟩ := X.leave (v := v) hv hlocks
  exact ⟨_, _, st fs hr, hrun, hended, _, _, rfl, q, ⟨_, rfl⟩, hW, hsame.mono hc hs⟩
theorem own_retV (X : Stand p l e R s m args below meth c T locs cells slots) (hx : p.tables.exec = Jvm.exec) {pc : Nat} {Ls : Array Slot} (hret : meth.sig.returnType = none) (hd : decode c.code pc = .ok (.return_, 1)) (hlocks : meth.locks = false) (q : Q none T.heap locs) (hc : cells ≤ C) (hs : slots ≤ S) :
    own_Go p.tables e below (fun o U' => ∃ v L, o = .returned v ∧ Q v U'.heap L ∧ FrameEnd s o U' L C S) (T.setTop (mkF m pc Ls [])) :=
  own_ret X (fun _ => rfl) hlocks (fun _ hr => X.returnOut hx hret hd hr) q hc hs
theorem own_retN (X : Stand p l e R s m args below meth c T locs cells slots) (hx : p.tables.exec = Jvm.exec) {pc : Nat} {Ls : Array Slot} {z : Int32} {t : FieldType} {rest : List Value} (hret : meth.sig.returnType = some t) (ht : t = .boolean ∨ t = .byte ∨ t = .char ∨ t = .short) (hd : decode c.code pc = .ok (.ireturn, 1)) (hlocks : meth.locks = false) (q : Q (some (.int (nar t z))) T.heap locs) (hc : cells ≤ C) (hs : slots ≤ S) :
    own_Go p.tables e below (fun o U' => ∃ v L, o = .returned v ∧ Q v U'.heap L ∧ FrameEnd s o U' L C S) (T.setTop (mkF m pc Ls (.int z :: rest))) :=
  own_ret X (fun h => by rw [hret] at h; cases h) hlocks (fun _ hr => retN X hx hret ht hd hr) q hc hs
theorem own_retI (X : Stand p l e R s m args below meth c T locs cells slots) (hx : p.tables.exec = Jvm.exec) {pc : Nat} {Ls : Array Slot} {z : Int32} {rest : List Value} (hret : meth.sig.returnType = some .int) (hd : decode c.code pc = .ok (.ireturn, 1)) (hlocks : meth.locks = false) (q : Q (some (.int z)) T.heap locs) (hc : cells ≤ C) (hs : slots ≤ S) :
    own_Go p.tables e below (fun o U' => ∃ v L, o = .returned v ∧ Q v U'.heap L ∧ FrameEnd s o U' L C S) (T.setTop (mkF m pc Ls (.int z :: rest))) :=
  own_ret X (fun h => by rw [hret] at h; cases h) hlocks (fun _ hr => retOut X hx hret rfl (Or.inl ⟨rfl, Or.inl rfl, z, rfl⟩) hd hr) q hc hs
theorem own_retJ (X : Stand p l e R s m args below meth c T locs cells slots) (hx : p.tables.exec = Jvm.exec) {pc : Nat} {Ls : Array Slot} {z : Int64} {rest : List Value} (hret : meth.sig.returnType = some .long) (hd : decode c.code pc = .ok (.lreturn, 1)) (hlocks : meth.locks = false) (q : Q (some (.long z)) T.heap locs) (hc : cells ≤ C) (hs : slots ≤ S) :
    own_Go p.tables e below (fun o U' => ∃ v L, o = .returned v ∧ Q v U'.heap L ∧ FrameEnd s o U' L C S) (T.setTop (mkF m pc Ls (.long z :: rest))) :=
  own_ret X (fun h => by rw [hret] at h; cases h) hlocks (fun _ hr => retOut X hx hret rfl (Or.inr (Or.inl ⟨rfl, rfl, z, rfl⟩)) hd hr) q hc hs
theorem own_narrow_ref {t : FieldType} {w : Value} (ht : t.isReference = true) : narrow t w = w := by cases t <;> first | (cases ht; done) | rfl
theorem own_retA (X : Stand p l e R s m args below meth c T locs cells slots) (hx : p.tables.exec = Jvm.exec) {pc : Nat} {Ls : Array Slot} {w : Value} {t : FieldType} {rest : List Value} (hret : meth.sig.returnType = some t) (ht : t.isReference = true) (hw : w.isRef = true) (hd : decode c.code pc = .ok (.areturn, 1)) (hlocks : meth.locks = false) (q : Q (some w) T.heap locs) (hc : cells ≤ C) (hs : slots ≤ S) :
    own_Go p.tables e below (fun o U' => ∃ v L, o = .returned v ∧ Q v U'.heap L ∧ FrameEnd s o U' L C S) (T.setTop (mkF m pc Ls (w :: rest))) :=
  own_ret X (fun h => by rw [hret] at h; cases h) hlocks (fun _ hr => retOut X hx hret (own_narrow_ref ht) (Or.inr (Or.inr (Or.inr (Or.inr ⟨rfl, ht, hw⟩)))) hd hr) q hc hs
end Rets

section WRets
variable {p : Program} {l : Launch} {e : Env} {R : Room} {s : State} {m : MethodId} {args : Array Value} {below : List Frame} {meth : Method} {c : Code} {T : State} {locs : List Loc} {cells slots : Nat} {Q : Option Value → Heap → List Loc → Prop} {C S : Nat} {Z : State} {EL : List (String × Nat)} {vm0 : Vm} {k0 : Nat} {h0 : Heap}
theorem own_retW (X : Stand p l e R (s.setVm vm0) m args below meth c T locs cells slots) (hS : s.Since vm0 k0) (hk : k0 ≤ T.heap.size) {v : Option Value} {A : State} (hv : meth.sig.returnType = none → v = none) (hlocks : meth.locks = false)
    (st : ∀ fs, (∀ (f : JFrame) (acts : List Action), f.method = m → f.locked = none → f.entered = [] → (doReturn e (T.setTop f) acts v).1 = T.setFrames fs) → Steps p.tables e below A (T.setFrames fs)) (q : Q v T.heap locs) (cr : CHr Z EL s.vm s.heap T.vm T.heap) (hc : cells ≤ C) (hs : slots ≤ S) :
    own_Go p.tables e below (fun oo U' => ∃ v L, oo = .returned v ∧ Q v U'.heap L ∧ CHr Z EL s.vm s.heap U'.vm U'.heap ∧ ReturnedEndW s oo U' L C S) A := by
  obtain ⟨fs, hr, hrun, hended, hE⟩ := X.leaveW hS hk (v := v) hv hlocks
  exact ⟨_, _, st fs hr, hrun, hended, _, _, rfl, q, cr, hE.1, hE.2.1, hE.2.2.1, hE.2.2.2.mono hc hs⟩
theorem own_retWV (X : Stand p l e R (s.setVm vm0) m args below meth c T locs cells slots) (hS : s.Since vm0 k0) (hk : k0 ≤ T.heap.size) (hx : p.tables.exec = Jvm.exec) {pc : Nat} {Ls : Array Slot} (hret : meth.sig.returnType = none) (hd : decode c.code pc = .ok (.return_, 1)) (hlocks : meth.locks = false) (q : Q none T.heap locs) (cr : CHr Z EL s.vm s.heap T.vm T.heap) (hc : cells ≤ C) (hs : slots ≤ S) :
    own_Go p.tables e below (fun oo U' => ∃ v L, oo = .returned v ∧ Q v U'.heap L ∧ CHr Z EL s.vm s.heap U'.vm U'.heap ∧ ReturnedEndW s oo U' L C S) (T.setTop (mkF m pc Ls [])) :=
  own_retW X hS hk (fun _ => rfl) hlocks (fun _ hr => X.returnOut hx hret hd hr) q cr hc hs
theorem own_retWN (X : Stand p l e R (s.setVm vm0) m args below meth c T locs cells slots) (hS : s.Since vm0 k0) (hk : k0 ≤ T.heap.size) (hx : p.tables.exec = Jvm.exec) {pc : Nat} {Ls : Array Slot} {z : Int32} {t : FieldType} {rest : List Value} (hret : meth.sig.returnType = some t) (ht : t = .boolean ∨ t = .byte ∨ t = .char ∨ t = .short) (hd : decode c.code pc = .ok (.ireturn, 1)) (hlocks : meth.locks = false) (q : Q (some (.int (nar t z))) T.heap locs) (cr : CHr Z EL s.vm s.heap T.vm T.heap) (hc : cells ≤ C) (hs : slots ≤ S) :
    own_Go p.tables e below (fun oo U' => ∃ v L, oo = .returned v ∧ Q v U'.heap L ∧ CHr Z EL s.vm s.heap U'.vm U'.heap ∧ ReturnedEndW s oo U' L C S) (T.setTop (mkF m pc Ls (.int z :: rest))) :=
  own_retW X hS hk (fun h => by rw [hret] at h; cases h) hlocks (fun _ hr => retN X hx hret ht hd hr) q cr hc hs
theorem own_retWA (X : Stand p l e R (s.setVm vm0) m args below meth c T locs cells slots) (hS : s.Since vm0 k0) (hk : k0 ≤ T.heap.size) (hx : p.tables.exec = Jvm.exec) {pc : Nat} {Ls : Array Slot} {w : Value} {t : FieldType} {rest : List Value} (hret : meth.sig.returnType = some t) (ht : t.isReference = true) (hw : w.isRef = true) (hd : decode c.code pc = .ok (.areturn, 1)) (hlocks : meth.locks = false) (q : Q (some w) T.heap locs) (cr : CHr Z EL s.vm s.heap T.vm T.heap) (hc : cells ≤ C) (hs : slots ≤ S) :
    own_Go p.tables e below (fun oo U' => ∃ v L, oo = .returned v ∧ Q v U'.heap L ∧ CHr Z EL s.vm s.heap U'.vm U'.heap ∧ ReturnedEndW s oo U' L C S) (T.setTop (mkF m pc Ls (w :: rest))) :=
  own_retW X hS hk (fun h => by rw [hret] at h; cases h) hlocks (fun _ hr => retOut X hx hret (own_narrow_ref ht) (Or.inr (Or.inr (Or.inr (Or.inr ⟨rfl, ht, hw⟩)))) hd hr) q cr hc hs
end WRets
theorem own_safe {Z : State} {EL : List (String × Nat)} {vm : Vm} {h : Heap} {a0 : Array Value} {n : Nat} {o : Addr} (hal : Z.vm.Alike vm) (wi : (Jvm.Cond.instantiable "java/lang/String" n).before a0 Z = true) (E : Exa Z h o "java/lang/String") (F : Fld Z h o "java/lang/String" "value" "[B" .null) : Safe Z EL vm h o := fun B => by
  obtain ⟨p, -, u, a, -, q, -, F', rfl | rfl⟩ := B
  · obtain ⟨cS, ⟨⟨s1, s2, s3, ⟨cv, kv, iv, s4, s4'⟩, -, s6, s7, s8, -⟩, -⟩, -⟩ := F'
    obtain ⟨kv', z4⟩ := ff_back (U := Wst Z vm h) hal s4
    obtain ⟨cell, cf, k, i, f, g1, g2, -, -, -, -, g7⟩ := F
    cases g2.symm.trans z4
    cases (show h[q.sa]? = some q.sC from s1).symm.trans g1
    rw [s8] at g7
    cases g7
  · obtain ⟨cell, k, g1, g2, g3, -⟩ := E
    cases (show h[q.sd]? = some q.SA from F'.hd).symm.trans g1
    obtain ⟨cS, ⟨⟨-, -, -, -, -, -, -, -, -, -, ⟨-, kB, hkB, compB, hkindB⟩, -⟩, -, -⟩, -⟩ := F'
    obtain ⟨c2, k2, i1, i2, i3, -⟩ := Cond.instantiable_spec wi
    cases g2.symm.trans i1
    obtain ⟨k3, e1, e2⟩ := hal.2.2 _ _ i2
    cases (show vm.classes[q.SA.cls]? = some kB from hkB).symm.trans e1
    rw [e2] at hkindB
    have := i3.symm.trans hkindB
    cases this
def own_J : List Int32 := [45, 45, 106, 115, 111, 110]
def own_iu (x : Int32) (k : Int32) : Int32 := ((x.toUInt32 >>> (k &&& 31).toUInt32).toInt32)
def own_cc (x : Int32) (k : Int32) : Int32 := own_iu x k &&& 255
def own_pos (x : Int32) : Int32 := (own_iu x 2 &&& 7) % 6
theorem own_pos_np (x : Int32) : ∃ np : Nat, np < 6 ∧ own_pos x = Int32.ofNat np := by
  have h1 := c_mask (own_iu x 2) 7 3 (by decide) (by decide)
  have h2 := (c_irem (own_iu x 2 &&& 7) 6 6 rfl).1 (by rw [h1]; omega)
  refine ⟨(own_pos x).toInt.toNat, ?_, Int32.toInt_inj.mp ?_⟩
  · unfold own_pos; omega
  · rw [Int32.toInt_ofNat_of_lt (by unfold own_pos; omega)]; unfold own_pos; omega
def own_np (x : Int32) : Nat := (own_pos x).toInt.toNat
theorem own_np_lt (x : Int32) : own_np x < 6 := by
  have h1 := c_mask (own_iu x 2) 7 3 (by decide) (by decide)
  have h2 := (c_irem (own_iu x 2 &&& 7) 6 6 rfl).1 (by rw [h1]; omega)
  unfold own_np own_pos; omega
theorem own_np_eq (x : Int32) : own_pos x = Int32.ofNat (own_np x) := by
  have h1 := c_mask (own_iu x 2) 7 3 (by decide) (by decide)
  have h2 := (c_irem (own_iu x 2 &&& 7) 6 6 rfl).1 (by rw [h1]; omega)
  refine Int32.toInt_inj.mp ?_
  rw [Int32.toInt_ofNat_of_lt (by unfold own_np own_pos; omega)]; unfold own_np own_pos; omega
theorem own_cc_le (x k : Int32) : 0 ≤ (own_cc x k).toInt ∧ (own_cc x k).toInt ≤ 255 := by
  have h1 := c_mask (own_iu x k) 255 8 (by decide) (by decide)
  unfold own_cc; omega
theorem own_i2c {x : Int32} (h : 0 ≤ x.toInt ∧ x.toInt ≤ 255) : x.toUInt32.toUInt16.toUInt32.toInt32 = x := by
  have q := c_i2c x
  exact Int32.toInt_inj.mp (by omega)
theorem own_ccc (x k : Int32) : (own_cc x k).toUInt32.toUInt16.toUInt32.toInt32 = own_cc x k := own_i2c (own_cc_le x k)
theorem own_ncc (x k : Int32) : nar .char (own_cc x k) = own_cc x k := own_i2c (own_cc_le x k)
def own_mk (x : Int32) : List Int32 :=
  if x &&& 3 = 0 then own_J else if x &&& 3 = 1 then own_J.set (own_np x) (own_cc x 5) else if x &&& 3 = 2 then (if own_iu x 2 &&& 1 = 0 then [45, 45, 106, 115, 111] else [45, 45, 106, 115, 111, 110, own_cc x 3]) else (if own_iu x 18 &&& 1 = 0 then [own_cc x 2, own_cc x 10] else [])
def own_isj (x : Int32) : Int32 := if x &&& 3 = 0 then 1 else if x &&& 3 = 1 then (if own_cc x 5 = own_J.getD (own_np x) 0 then 1 else 0) else 0
theorem own_rg {c : Int32} (h : 0 ≤ c.toInt ∧ c.toInt ≤ 255) : ¬ c < 0 ∧ ¬ (255 : Int32) < c := by
  have e0 : (0 : Int32).toInt = 0 := rfl
  have e1 : (255 : Int32).toInt = 255 := rfl
  rw [Int32.lt_iff_toInt_lt, Int32.lt_iff_toInt_lt, e0, e1]
  omega
theorem own_J_in : ∀ c ∈ own_J, ¬ c < 0 ∧ ¬ (255 : Int32) < c := by decide
theorem own_mk_in (x : Int32) : ∀ c ∈ own_mk x, ¬ c < 0 ∧ ¬ (255 : Int32) < c := by
  intro c hc
  have g := fun k => own_rg (own_cc_le x k)
  have j := own_J_in
  unfold own_mk at hc
  split at hc
  · exact j c hc
  · split at hc
    · rcases List.mem_or_eq_of_mem_set hc with h | rfl
      · exact j c h
      · exact g 5
    · split at hc
      · split at hc
        · exact (by decide : ∀ c ∈ ([45, 45, 106, 115, 111] : List Int32), ¬ c < 0 ∧ ¬ (255 : Int32) < c) c hc
        · simp only [List.mem_cons, List.not_mem_nil, or_false] at hc
          rcases hc with rfl | rfl | rfl | rfl | rfl | rfl | rfl
          · decide
          · decide
          · decide
          · decide
          · decide
          · decide
          · exact g 3
      · split at hc
        · simp only [List.mem_cons, List.not_mem_nil, or_false] at hc
          rcases hc with rfl | rfl
          · exact g 2
          · exact g 10
        · cases hc
theorem own_up (cs : List Int32) (h : ∀ c ∈ cs, ¬ c < 0 ∧ ¬ (255 : Int32) < c) : ∀ c ∈ cs, ¬ c < 0 ∧ ¬ (65535 : Int32) < c := fun c hc => ⟨(h c hc).1, fun q => (h c hc).2 (by rw [Int32.lt_iff_toInt_lt] at q ⊢; have e1 : (65535 : Int32).toInt = 65535 := rfl; have e2 : (255 : Int32).toInt = 255 := rfl; omega)⟩
theorem own_mk_len (x : Int32) : (own_mk x).length ≤ 7 := by
  unfold own_mk
  split
  · decide
  · split
    · rw [List.length_set]; decide
    · split
      · split
        · decide
        · exact Nat.le_refl 7
      · split
        · exact (by decide : 2 ≤ 7)
        · decide
theorem own_set_eq (l : List Int32) (i : Nat) (c : Int32) (h : i < l.length) : l.set i c = l ↔ c = l.getD i 0 := by
  constructor
  · intro e
    have q : (l.set i c).getD i 0 = c := by simp [List.getD_eq_getElem?_getD, h]
    rw [← q, e]
  · intro e
    apply List.ext_getElem?
    intro k
    rw [List.getElem?_set]
    split
    · rename_i q; subst q
      rw [e]; simp [List.getD_eq_getElem?_getD, h]
    · rfl
theorem own_key (x : Int32) : (own_mk x = own_J ↔ own_isj x = 1) ∧ (own_isj x = 0 ∨ own_isj x = 1) := by
  unfold own_mk own_isj
  split
  · exact ⟨⟨fun _ => rfl, fun _ => rfl⟩, Or.inr rfl⟩
  · split
    · rw [own_set_eq own_J (own_np x) (own_cc x 5) (own_np_lt x)]
      split
      · rename_i q; exact ⟨⟨fun _ => rfl, fun _ => q⟩, Or.inr rfl⟩
      · rename_i q; exact ⟨⟨fun h => absurd h q, fun h => absurd h (by decide)⟩, Or.inl rfl⟩
    · refine ⟨⟨fun h => ?_, fun h => absurd h (by decide)⟩, Or.inl rfl⟩
      exfalso
      have hl := congrArg List.length h
      split at hl
      · split at hl
        · exact absurd hl (by decide)
        · exact absurd hl (by simp [own_J])
      · split at hl
        · exact absurd hl (by simp [own_J])
        · exact absurd hl (by decide)

theorem d3_0 : decode jdk_42_method_149_code 0 = .ok (.aload_n 0, 1) := by decide +kernel
theorem d3_1 : decode jdk_42_method_149_code 1 = .ok (.invokespecial 1, 3) := by decide +kernel
theorem d3_4 : decode jdk_42_method_149_code 4 = .ok (.iload_n 3, 1) := by decide +kernel
theorem d3_5 : decode jdk_42_method_149_code 5 = .ok (.ifCond .ne 22, 3) := by decide +kernel
theorem d3_8 : decode jdk_42_method_149_code 8 = .ok (.aload_n 0, 1) := by decide +kernel
theorem d3_9 : decode jdk_42_method_149_code 9 = .ok (.ldc 7, 2) := by decide +kernel
theorem d3_11 : decode jdk_42_method_149_code 11 = .ok (.getfield 9, 3) := by decide +kernel
theorem d3_14 : decode jdk_42_method_149_code 14 = .ok (.putfield 9, 3) := by decide +kernel
theorem d3_17 : decode jdk_42_method_149_code 17 = .ok (.aload_n 0, 1) := by decide +kernel
theorem d3_18 : decode jdk_42_method_149_code 18 = .ok (.ldc 7, 2) := by decide +kernel
theorem d3_20 : decode jdk_42_method_149_code 20 = .ok (.getfield 15, 3) := by decide +kernel
theorem d3_23 : decode jdk_42_method_149_code 23 = .ok (.putfield 15, 3) := by decide +kernel
theorem d3_26 : decode jdk_42_method_149_code 26 = .ok (.return_, 1) := by decide +kernel
theorem pn_java_lang_String : plainName "java/lang/String" = true := by first | (simp [plainName, overriddenIn]; done) | decide +kernel
theorem ef_rmS0 (m : MethodId) (x0 : Addr) (x1 : Addr) (x2 : Int32) (x3 : Int32) : entryFrame m #[(.ref x0), (.ref x1), (.int x2), (.int x3), .null] 6 = mkF m 0 #[.val (.ref x0), .val (.ref x1), .val (.int x2), .val (.int x3), .val .null, .unset] [] := by first | (simp [entryFrame, mkF, argsToLocals, Value.category]; done) | rfl
def Q_rmS0 (Z : State) (o ca : Addr) (G1 : Int32) (G3 : Value) (h0 : Heap) (n0 : Nat) (v : Option Value) (h : Heap) (L : List Loc) : Prop := v = none ∧ Fr n0 L ∧ Keep h0 h [o] ∧ ∃ (t : Addr) (kb : ClassId), Exa Z h o "java/lang/String" ∧ Fld Z h o "java/lang/String" "coder" "B" (.int (0 : Int32)) ∧ Fld Z h o "java/lang/String" "value" "[B" (.ref t) ∧ Arv Z h t kb .byte (Int32.ofNat ([] : List Int32).length) ((([] : List Int32).map (fun c => c.toInt8.toInt32)).map Value.int) (.int (0 : Int32))
def K_rmS0 (Z : State) (o ca : Addr) (G1 : Int32) (G3 : Value) (h0 : Heap) (n0 : Nat) (s : State) : Outcome → State → Prop := fun oo U' => ∃ v L, oo = .returned v ∧ Q_rmS0 Z o ca G1 G3 h0 n0 v U'.heap L ∧ CHr Z consts_1 s.vm s.heap U'.vm U'.heap ∧ ReturnedEndW s oo U' L ({ frames := 1, cells := 4, slots := 8, locals := 12 } : Room).cells ({ frames := 1, cells := 4, slots := 8, locals := 12 } : Room).slots
set_option maxRecDepth 65536 in
set_option maxHeartbeats 40000000 in
theorem rmS0 (l : Launch) (Z : State) (a0 : Array Value) (hw : ∀ d ∈ tables_1, d.before a0 Z = true) (ws : List Jvm.Cond) (o ca : Addr) (G1 : Int32) (G3 : Value) (h0 : Heap) (n0 : Nat) (Z0 : n0 ≤ h0.size) (E_o : Exa Z h0 o "java/lang/String") (F_v : Fld Z h0 o "java/lang/String" "value" "[B" .null) (F_c : Fld Z h0 o "java/lang/String" "coder" "B" (.int (0 : Int32))) (g_o : n0 ≤ o) (hEL : EW Z a0 consts_1) (O2 : Sta Z Z.heap "java/lang/String" "COMPACT_STRINGS" "Z" (.int G1)) (O4 : Sta Z Z.heap "jdk/internal/util/Preconditions" "SIOOBE_FORMATTER" "Ljava/util/function/BiFunction;" G3) (P5 : ¬ (G1 = (0 : Int32))) (rG3 : G3.isRef = true) (O_ : Old Z n0 h0) :
    MetFree l (⟨"java/lang/String", "<init>", "([CIILjava/lang/Void;)V"⟩ : MethodName) (head1 (Jvm.Cond.code (⟨"java/lang/String", "<init>", "([CIILjava/lang/Void;)V"⟩ : MethodName) jdk_42_method_149_code 6 none :: ws) ({ frames := 1, cells := 4, slots := 8, locals := 12 } : Room)) (fun as_ U => as_ = #[(.ref o), (.ref ca), (.int (0 : Int32)), (.int (0 : Int32)), .null] ∧ Z.Warmed39 U.vm ∧ U.heap = h0 ∧ CHv Z consts_1 U.vm h0) (fun _ _ _ _ _ => True) (fun _ U oo U' => ∃ v L, oo = .returned v ∧ Q_rmS0 Z o ca G1 G3 h0 n0 v U'.heap L ∧ CHr Z consts_1 U.vm U.heap U'.vm U'.heap ∧ ReturnedEndW U oo U' L ({ frames := 1, cells := 4, slots := 8, locals := 12 } : Room).cells ({ frames := 1, cells := 4, slots := 8, locals := 12 } : Room).slots) := by
  refine MetFree.of_bodySF (plainFor_of_name pn_java_lang_String) hisR ?_
  intro p e s m args below meth c s₁ Bd hml0 hP hK
  obtain ⟨rfl, hZ, hh, hC⟩ := hP
  have hx := Bd.exec
  have hby := Bd.bytes
  have hml : c.maxLocals = 6 := hml0
  have hown : s.vm.findClass "java/lang/String" = some m.cls := findClass_of_methodNamed Bd.named
  have hnm := (name_of_methodNamed Bd.named Bd.method).1
  have X0 : Stand p l e ({ frames := 1, cells := 4, slots := 8, locals := 12 } : Room) (s.setVm s.vm) m #[(.ref o), (.ref ca), (.int (0 : Int32)), (.int (0 : Int32)), .null] below meth c s₁ [] 0 0 := Stand.of_body Bd
  have hZ : Z.Warmed39 (s.setVm s.vm).vm := hZ
  have hown : (s.setVm s.vm).vm.findClass "java/lang/String" = some m.cls := hown
  have e0 : s₁.heap = h0 := by rw [← hh, Bd.state]; rfl
  have N0 := Fr.nil n0
  refine own_st (K := (K_rmS0 Z o ca G1 G3 h0 n0 s)) (fun t' k' => castTop (ef_rmS0 m o ca (0 : Int32) (0 : Int32)) k') ?_
  have hSA : ∀ a ∈ Bundle.stringAtoms, a.before a0 Z = true := by
    intro a ha
    simp only [Bundle.stringAtoms, List.mem_cons, List.not_mem_nil, or_false] at ha
    rcases ha with rfl | rfl | rfl | rfl | rfl | rfl | rfl
    · exact (hw _ (List.mem_of_getElem? (i := 7) rfl))
    · exact (hw _ (List.mem_of_getElem? (i := 6) rfl))
    · exact (hw _ (List.mem_of_getElem? (i := 23) rfl))
    · exact (hw _ (List.mem_of_getElem? (i := 33) rfl))
    · exact (hw _ (List.mem_of_getElem? (i := 31) rfl))
    · exact (hw _ (List.mem_of_getElem? (i := 43) rfl))
    · exact (hw _ (List.mem_of_getElem? (i := 44) rfl))
  have hS0 : s.Since s.vm h0.size := (State.WarmedH.refl s).since _
  have hk0 : h0.size ≤ h0.size := Nat.le_refl _
  have CR0 := CHr.refl hC
  show own_Go p.tables e below _ (s₁.setTop (mkF m 0 #[.val (.ref o), .val (.ref ca), .val (.int (0 : Int32)), .val (.int (0 : Int32)), .val .null, .unset] []))
  refine own_st (fun _ k' => XS.aloadN X0.here hx rfl (hb hby d3_0) rfl rfl k') ?_
  show own_Go p.tables e below _ (s₁.setTop (mkF m 1 #[.val (.ref o), .val (.ref ca), .val (.int (0 : Int32)), .val (.int (0 : Int32)), .val .null, .unset] [(.ref o)]))
  obtain ⟨T1, X1, e1, st1⟩ := initO X0 hx hZ hown (hw _ (List.mem_of_getElem? (i := 15) rfl)) (hw _ (List.mem_of_getElem? (i := 16) rfl)) (hw _ (List.mem_of_getElem? (i := 17) rfl)) e0 (g := (mkF m 1 #[.val (.ref o), .val (.ref ca), .val (.int (0 : Int32)), .val (.int (0 : Int32)), .val .null, .unset] [(.ref o)])) rfl (by rw [hml]; rfl) rfl (hb hby d3_1) (by decide) (W := 0) (by show 2 * 0 + _ ≤ _; exact Nat.le_of_eq rfl) (by decide)
  refine own_st st1 ?_
  show own_Go p.tables e below _ (T1.setTop (mkF m 4 #[.val (.ref o), .val (.ref ca), .val (.int (0 : Int32)), .val (.int (0 : Int32)), .val .null, .unset] []))
  refine own_st (fun _ k' => XS.iloadN X1.here hx rfl (hb hby d3_4) rfl k') ?_
  show own_Go p.tables e below _ (T1.setTop (mkF m 5 #[.val (.ref o), .val (.ref ca), .val (.int (0 : Int32)), .val (.int (0 : Int32)), .val .null, .unset] [(.int (0 : Int32))]))
  refine own_st (fun _ k' => XS.ifNo X1.here hx rfl (hb hby d3_5) rfl ((if0 _ _).trans (teq (by decide : (0 : Int32) = (0 : Int32))).2) k') ?_
  show own_Go p.tables e below _ (T1.setTop (mkF m 8 #[.val (.ref o), .val (.ref ca), .val (.int (0 : Int32)), .val (.int (0 : Int32)), .val .null, .unset] []))
  refine own_st (fun _ k' => XS.aloadN X1.here hx rfl (hb hby d3_8) rfl rfl k') ?_
  show own_Go p.tables e below _ (T1.setTop (mkF m 9 #[.val (.ref o), .val (.ref ca), .val (.int (0 : Int32)), .val (.int (0 : Int32)), .val .null, .unset] [(.ref o)]))
  obtain ⟨a2, T2, h2, k12, b2, kb2, X2, e2, E2, hS2, hk2, hZ, hown, El2, Fc2, Fv2, Vt2, -, -, CRl2, -, hne2, st2⟩ := ldcCH X1 hx hZ hown (hw _ (List.mem_of_getElem? (i := 55) rfl)) hSA e1 hS0 hk0 hEL (by decide) hC (vs := ((([] : List Int32).map (fun c => c.toInt8.toInt32)).map Value.int)) (z := 0) ⟨by decide, by decide⟩ (by decide) (by decide) (g := (mkF m 9 #[.val (.ref o), .val (.ref ca), .val (.int (0 : Int32)), .val (.int (0 : Int32)), .val .null, .unset] [(.ref o)])) rfl (hb hby d3_9) (n := 0) (by decide) (by decide) (by decide) (by decide)
  have CR2 := CR0.trans CRl2
  have E_o_x3 := E_o.ext E2
  have F_v_x4 := F_v.ext E2
  have F_c_x5 := F_c.ext E2
  have O__x6 := O_.ext E2
  have K7 : Keep h0 h2 [o] := (Keep.refl h0 [o]).ext E2
  have ZE2 : n0 ≤ h2.size := Nat.le_trans Z0 E2.1
  refine own_st st2 ?_
  show own_Go p.tables e below _ (T2.setTop (mkF m 11 #[.val (.ref o), .val (.ref ca), .val (.int (0 : Int32)), .val (.int (0 : Int32)), .val .null, .unset] [(.ref a2), (.ref o)]))
  have Sf1 : Safe Z consts_1 T2.vm h2 o := own_safe (EL := consts_1) hZ.alike (hw _ (List.mem_of_getElem? (i := 6) rfl)) E_o_x3 F_v_x4
  obtain ⟨ne_o_a2, ne_o_b2⟩ := hne2 o Sf1
  obtain ⟨T8, X8, e8, st8⟩ := getF X2 hx hZ hown (host := "") (Or.inl (hw _ (List.mem_of_getElem? (i := 32) rfl))) Via.refl e2 Fv2 (g := (mkF m 11 #[.val (.ref o), .val (.ref ca), .val (.int (0 : Int32)), .val (.int (0 : Int32)), .val .null, .unset] [(.ref a2), (.ref o)])) rfl rfl (hb hby d3_11)
  refine own_st st8 ?_
  show own_Go p.tables e below _ (T8.setTop (mkF m 14 #[.val (.ref o), .val (.ref ca), .val (.int (0 : Int32)), .val (.int (0 : Int32)), .val .null, .unset] [(.ref b2), (.ref o)]))
  obtain ⟨T9, h9, X9, e9, W9, st9⟩ := putF X8 hx hZ hown (host := "") (Or.inl (hw _ (List.mem_of_getElem? (i := 32) rfl))) Via.refl e8 F_v_x4 E_o_x3 (Or.inr ⟨(hw _ (List.mem_of_getElem? (i := 33) rfl)), rfl, hnm⟩) (hw _ (List.mem_of_getElem? (i := 6) rfl)) (ty := (.array .byte)) (by decide) rfl rfl (g := (mkF m 14 #[.val (.ref o), .val (.ref ca), .val (.int (0 : Int32)), .val (.int (0 : Int32)), .val .null, .unset] [(.ref b2), (.ref o)])) rfl rfl (hb hby d3_14)
  have N9 := Fr.snoc X9 N0 g_o
  have Hc10 := CHv.wr W9 Sf1 CRl2.1
  have CR10 := CR2.trans (CHr.wr W9 Sf1 CRl2.1)
  have hk10 := Nat.le_trans hk2 (Keep.of_wr W9).1
  have E_o_x11 := E_o_x3.wr W9
  have F_v_x12 := F_v_x4.same W9
  have F_c_x13 := F_c_x5.other W9 (Or.inr (slot_ne (Or.inr (hw _ (List.mem_of_getElem? (i := 31) rfl))) (Or.inr (hw _ (List.mem_of_getElem? (i := 33) rfl))) (by decide) (t := .byte) (t' := (.array .byte)) (by decide) (by decide)))
  have O__x14 := O__x6.wr W9 g_o
  have El2_x15 := El2.wr W9
  have Fc2_x16 := Fc2.other W9 (Or.inl (Ne.symm ne_o_a2))
  have Fv2_x17 := Fv2.other W9 (Or.inl (Ne.symm ne_o_a2))
  have Vt2_x18 := Vt2.other W9 (Ne.symm ne_o_b2)
  have ZVW9 : n0 ≤ h9.size := Nat.le_trans ZE2 (Keep.of_wr W9).1
  have K19 : Keep h0 h9 [o] := K7.wr W9 (Or.inl (List.mem_of_getElem? (i := 0) rfl))
  refine own_st st9 ?_
  show own_Go p.tables e below _ (T9.setTop (mkF m 17 #[.val (.ref o), .val (.ref ca), .val (.int (0 : Int32)), .val (.int (0 : Int32)), .val .null, .unset] []))
  have Sf1b := Safe.wr W9 Sf1 CRl2.1 Sf1
  refine own_st (fun _ k' => XS.aloadN X9.here hx rfl (hb hby d3_17) rfl rfl k') ?_
  show own_Go p.tables e below _ (T9.setTop (mkF m 18 #[.val (.ref o), .val (.ref ca), .val (.int (0 : Int32)), .val (.int (0 : Int32)), .val .null, .unset] [(.ref o)]))
  obtain ⟨a20, T20, h20, k120, b20, kb20, X20, e20, E20, hS20, hk20, hZ, hown, El20, Fc20, Fv20, Vt20, -, -, CRl20, -, hne20, st20⟩ := ldcCH X9 hx hZ hown (hw _ (List.mem_of_getElem? (i := 55) rfl)) hSA e9 hS2 hk10 hEL (by decide) Hc10 (vs := ((([] : List Int32).map (fun c => c.toInt8.toInt32)).map Value.int)) (z := 0) ⟨by decide, by decide⟩ (by decide) (by decide) (g := (mkF m 18 #[.val (.ref o), .val (.ref ca), .val (.int (0 : Int32)), .val (.int (0 : Int32)), .val .null, .unset] [(.ref o)])) rfl (hb hby d3_18) (n := 0) (by decide) (by decide) (by decide) (by decide)
  have CR20 := CR10.trans CRl20
  have E_o_x21 := E_o_x11.ext E20
  have F_v_x22 := F_v_x12.ext E20
  have F_c_x23 := F_c_x13.ext E20
  have O__x24 := O__x14.ext E20
  have El2_x25 := El2_x15.ext E20
  have Fc2_x26 := Fc2_x16.ext E20
  have Fv2_x27 := Fv2_x17.ext E20
  have Vt2_x28 := Vt2_x18.ext E20
  have K29 : Keep h0 h20 [o] := K19.ext E20
  have ZE20 : n0 ≤ h20.size := Nat.le_trans ZVW9 E20.1
  refine own_st st20 ?_
  show own_Go p.tables e below _ (T20.setTop (mkF m 20 #[.val (.ref o), .val (.ref ca), .val (.int (0 : Int32)), .val (.int (0 : Int32)), .val .null, .unset] [(.ref a20), (.ref o)]))
  have Sf2 : Safe Z consts_1 T20.vm h20 o := CRl20.safe E_o_x11.lt Sf1b
  obtain ⟨ne_o_a20, ne_o_b20⟩ := hne20 o Sf2
  obtain ⟨T30, X30, e30, st30⟩ := getF X20 hx hZ hown (host := "") (Or.inl (hw _ (List.mem_of_getElem? (i := 30) rfl))) Via.refl e20 Fc20 (g := (mkF m 20 #[.val (.ref o), .val (.ref ca), .val (.int (0 : Int32)), .val (.int (0 : Int32)), .val .null, .unset] [(.ref a20), (.ref o)])) rfl rfl (hb hby d3_20)
  refine own_st st30 ?_
  show own_Go p.tables e below _ (T30.setTop (mkF m 23 #[.val (.ref o), .val (.ref ca), .val (.int (0 : Int32)), .val (.int (0 : Int32)), .val .null, .unset] [(.int (0 : Int32)), (.ref o)]))
  obtain ⟨T31, h31, X31, e31, W31, st31⟩ := putF X30 hx hZ hown (host := "") (Or.inl (hw _ (List.mem_of_getElem? (i := 30) rfl))) Via.refl e30 F_c_x23 E_o_x21 (Or.inr ⟨(hw _ (List.mem_of_getElem? (i := 31) rfl)), rfl, hnm⟩) (hw _ (List.mem_of_getElem? (i := 6) rfl)) (ty := .byte) (by decide) rfl rfl (g := (mkF m 23 #[.val (.ref o), .val (.ref ca), .val (.int (0 : Int32)), .val (.int (0 : Int32)), .val .null, .unset] [(.int (0 : Int32)), (.ref o)])) rfl rfl (hb hby d3_23)
  have N31 := Fr.snoc X31 N9 g_o
  have Hc32 := CHv.wr W31 Sf2 CRl20.1
  have CR32 := CR20.trans (CHr.wr W31 Sf2 CRl20.1)
  have hk32 := Nat.le_trans hk20 (Keep.of_wr W31).1
  have E_o_x33 := E_o_x21.wr W31
  have F_v_x34 := F_v_x22.other W31 (Or.inr (slot_ne (Or.inr (hw _ (List.mem_of_getElem? (i := 33) rfl))) (Or.inr (hw _ (List.mem_of_getElem? (i := 31) rfl))) (by decide) (t := (.array .byte)) (t' := .byte) (by decide) (by decide)))
  have F_c_x35 := F_c_x23.same W31
  have O__x36 := O__x24.wr W31 g_o
  have El2_x37 := El2_x25.wr W31
  have Fc2_x38 := Fc2_x26.other W31 (Or.inl (Ne.symm ne_o_a2))
  have Fv2_x39 := Fv2_x27.other W31 (Or.inl (Ne.symm ne_o_a2))
  have Vt2_x40 := Vt2_x28.other W31 (Ne.symm ne_o_b2)
  have El20_x41 := El20.wr W31
  have Fc20_x42 := Fc20.other W31 (Or.inl (Ne.symm ne_o_a20))
  have Fv20_x43 := Fv20.other W31 (Or.inl (Ne.symm ne_o_a20))
  have Vt20_x44 := Vt20.other W31 (Ne.symm ne_o_b20)
  have ZVW31 : n0 ≤ h31.size := Nat.le_trans ZE20 (Keep.of_wr W31).1
  have K45 : Keep h0 h31 [o] := K29.wr W31 (Or.inl (List.mem_of_getElem? (i := 0) rfl))
  refine own_st st31 ?_
  show own_Go p.tables e below _ (T31.setTop (mkF m 26 #[.val (.ref o), .val (.ref ca), .val (.int (0 : Int32)), .val (.int (0 : Int32)), .val .null, .unset] []))
  have cr46 : CHr Z consts_1 s.vm s.heap T31.vm T31.heap := by rw [hh, e31]; exact CR32.trans (CHv.at X31 hZ hEL Hc32)
  exact own_retWV X31 hS20 (by rw [e31]; exact hk32) hx Bd.returns (hb hby d3_26) Bd.notSynchronized ⟨rfl, N31, by rw [e31]; exact K45, b2, kb2, by rw [e31]; exact E_o_x33, by rw [e31]; exact F_c_x35, by rw [e31]; exact F_v_x34, by rw [e31]; exact Vt2_x40⟩ cr46 (by decide) (by decide)

theorem d2_0 : decode jdk_42_method_3_code 0 = .ok (.aload_n 0, 1) := by decide +kernel
theorem d2_1 : decode jdk_42_method_3_code 1 = .ok (.aload_n 1, 1) := by decide +kernel
theorem d2_2 : decode jdk_42_method_3_code 2 = .ok (.iconst 0, 1) := by decide +kernel
theorem d2_3 : decode jdk_42_method_3_code 3 = .ok (.aload_n 1, 1) := by decide +kernel
theorem d2_4 : decode jdk_42_method_3_code 4 = .ok (.arraylength, 1) := by decide +kernel
theorem d2_5 : decode jdk_42_method_3_code 5 = .ok (.aconst_null, 1) := by decide +kernel
theorem d2_6 : decode jdk_42_method_3_code 6 = .ok (.invokespecial 27, 3) := by decide +kernel
theorem d2_9 : decode jdk_42_method_3_code 9 = .ok (.return_, 1) := by decide +kernel
theorem pd___CIILjava_lang_Void__V : parseMethodDescriptor "([CIILjava/lang/Void;)V" = some ⟨[(.array .char), .int, .int, (.object "java/lang/Void")], none⟩ := by decide +kernel
theorem ef_rmS1 (m : MethodId) (x0 : Addr) (x1 : Addr) : entryFrame m #[(.ref x0), (.ref x1)] 2 = mkF m 0 #[.val (.ref x0), .val (.ref x1)] [] := by first | (simp [entryFrame, mkF, argsToLocals, Value.category]; done) | rfl
def Q_rmS1 (Z : State) (o ca : Addr) (kc : ClassId) (G1 : Int32) (G3 : Value) (h0 : Heap) (n0 : Nat) (v : Option Value) (h : Heap) (L : List Loc) : Prop := v = none ∧ Fr n0 L ∧ Keep h0 h [o] ∧ ∃ (t : Addr) (kb : ClassId), Exa Z h o "java/lang/String" ∧ Fld Z h o "java/lang/String" "coder" "B" (.int (0 : Int32)) ∧ Fld Z h o "java/lang/String" "value" "[B" (.ref t) ∧ Arv Z h t kb .byte (Int32.ofNat ([] : List Int32).length) ((([] : List Int32).map (fun c => c.toInt8.toInt32)).map Value.int) (.int (0 : Int32))
def K_rmS1 (Z : State) (o ca : Addr) (kc : ClassId) (G1 : Int32) (G3 : Value) (h0 : Heap) (n0 : Nat) (s : State) : Outcome → State → Prop := fun oo U' => ∃ v L, oo = .returned v ∧ Q_rmS1 Z o ca kc G1 G3 h0 n0 v U'.heap L ∧ CHr Z consts_1 s.vm s.heap U'.vm U'.heap ∧ ReturnedEndW s oo U' L ({ frames := 2, cells := 4, slots := 8, locals := 29 } : Room).cells ({ frames := 2, cells := 4, slots := 8, locals := 29 } : Room).slots
set_option maxRecDepth 65536 in
set_option maxHeartbeats 40000000 in
theorem rmS1 (l : Launch) (Z : State) (a0 : Array Value) (hw : ∀ d ∈ tables_1, d.before a0 Z = true) (ws : List Jvm.Cond) (o ca : Addr) (kc : ClassId) (G1 : Int32) (G3 : Value) (h0 : Heap) (n0 : Nat) (Z0 : n0 ≤ h0.size) (E_o : Exa Z h0 o "java/lang/String") (F_v : Fld Z h0 o "java/lang/String" "value" "[B" .null) (F_c : Fld Z h0 o "java/lang/String" "coder" "B" (.int (0 : Int32))) (g_o : n0 ≤ o) (V_ca : Arv Z h0 ca kc .char (0 : Int32) [] (.int (0 : Int32))) (hEL : EW Z a0 consts_1) (O2 : Sta Z Z.heap "java/lang/String" "COMPACT_STRINGS" "Z" (.int G1)) (O4 : Sta Z Z.heap "jdk/internal/util/Preconditions" "SIOOBE_FORMATTER" "Ljava/util/function/BiFunction;" G3) (P5 : ¬ (G1 = (0 : Int32))) (rG3 : G3.isRef = true) (O_ : Old Z n0 h0) :
    MetFree l (⟨"java/lang/String", "<init>", "([C)V"⟩ : MethodName) (head1 (Jvm.Cond.code (⟨"java/lang/String", "<init>", "([C)V"⟩ : MethodName) jdk_42_method_3_code 2 none :: ws) ({ frames := 2, cells := 4, slots := 8, locals := 29 } : Room)) (fun as_ U => as_ = #[(.ref o), (.ref ca)] ∧ Z.Warmed39 U.vm ∧ U.heap = h0 ∧ CHv Z consts_1 U.vm h0) (fun _ _ _ _ _ => True) (fun _ U oo U' => ∃ v L, oo = .returned v ∧ Q_rmS1 Z o ca kc G1 G3 h0 n0 v U'.heap L ∧ CHr Z consts_1 U.vm U.heap U'.vm U'.heap ∧ ReturnedEndW U oo U' L ({ frames := 2, cells := 4, slots := 8, locals := 29 } : Room).cells ({ frames := 2, cells := 4, slots := 8, locals := 29 } : Room).slots) := by
  refine MetFree.of_bodySF (plainFor_of_name pn_java_lang_String) hisR ?_
  intro p e s m args below meth c s₁ Bd hml0 hP hK
  obtain ⟨rfl, hZ, hh, hC⟩ := hP
  have hx := Bd.exec
  have hby := Bd.bytes
  have hml : c.maxLocals = 2 := hml0
  have hown : s.vm.findClass "java/lang/String" = some m.cls := findClass_of_methodNamed Bd.named
  have hnm := (name_of_methodNamed Bd.named Bd.method).1
  have X0 : Stand p l e ({ frames := 2, cells := 4, slots := 8, locals := 29 } : Room) (s.setVm s.vm) m #[(.ref o), (.ref ca)] below meth c s₁ [] 0 0 := Stand.of_body Bd
  have hZ : Z.Warmed39 (s.setVm s.vm).vm := hZ
  have hown : (s.setVm s.vm).vm.findClass "java/lang/String" = some m.cls := hown
  have e0 : s₁.heap = h0 := by rw [← hh, Bd.state]; rfl
  have N0 := Fr.nil n0
  refine own_st (K := (K_rmS1 Z o ca kc G1 G3 h0 n0 s)) (fun t' k' => castTop (ef_rmS1 m o ca) k') ?_
  have hSA : ∀ a ∈ Bundle.stringAtoms, a.before a0 Z = true := by
    intro a ha
    simp only [Bundle.stringAtoms, List.mem_cons, List.not_mem_nil, or_false] at ha
    rcases ha with rfl | rfl | rfl | rfl | rfl | rfl | rfl
    · exact (hw _ (List.mem_of_getElem? (i := 7) rfl))
    · exact (hw _ (List.mem_of_getElem? (i := 6) rfl))
    · exact (hw _ (List.mem_of_getElem? (i := 23) rfl))
    · exact (hw _ (List.mem_of_getElem? (i := 33) rfl))
    · exact (hw _ (List.mem_of_getElem? (i := 31) rfl))
    · exact (hw _ (List.mem_of_getElem? (i := 43) rfl))
    · exact (hw _ (List.mem_of_getElem? (i := 44) rfl))
  have hS0 : s.Since s.vm h0.size := (State.WarmedH.refl s).since _
  have hk0 : h0.size ≤ h0.size := Nat.le_refl _
  have CR0 := CHr.refl hC
  show own_Go p.tables e below _ (s₁.setTop (mkF m 0 #[.val (.ref o), .val (.ref ca)] []))
  refine own_st (fun _ k' => XS.aloadN X0.here hx rfl (hb hby d2_0) rfl rfl k') ?_
  show own_Go p.tables e below _ (s₁.setTop (mkF m 1 #[.val (.ref o), .val (.ref ca)] [(.ref o)]))
  refine own_st (fun _ k' => XS.aloadN X0.here hx rfl (hb hby d2_1) rfl rfl k') ?_
  show own_Go p.tables e below _ (s₁.setTop (mkF m 2 #[.val (.ref o), .val (.ref ca)] [(.ref ca), (.ref o)]))
  refine own_st (fun _ k' => XS.iconst X0.here hx rfl (hb hby d2_2) k') ?_
  show own_Go p.tables e below _ (s₁.setTop (mkF m 3 #[.val (.ref o), .val (.ref ca)] [(.int (0 : Int32)), (.ref ca), (.ref o)]))
  refine own_st (fun _ k' => XS.aloadN X0.here hx rfl (hb hby d2_3) rfl rfl k') ?_
  show own_Go p.tables e below _ (s₁.setTop (mkF m 4 #[.val (.ref o), .val (.ref ca)] [(.ref ca), (.int (0 : Int32)), (.ref ca), (.ref o)]))
  obtain ⟨cl1, Ar1, qc1, Sz1, Nn1, Hs1, Gs1⟩ := id V_ca
  refine own_st (fun t' k' => X0.arraylength hx (by rw [e0]; exact Ar1.1) (State.isArrayOf_alike hZ.alike Ar1.2.1) (g := (mkF m 4 #[.val (.ref o), .val (.ref ca)] [(.ref ca), (.int (0 : Int32)), (.ref ca), (.ref o)])) rfl rfl (hb hby d2_4) t' k') ?_
  rw [len_of Sz1 Nn1]
  show own_Go p.tables e below _ (s₁.setTop (mkF m 5 #[.val (.ref o), .val (.ref ca)] [(.int (0 : Int32)), (.int (0 : Int32)), (.ref ca), (.ref o)]))
  refine own_st (fun _ k' => XS.aconstNull X0.here hx rfl (hb hby d2_5) k') ?_
  show own_Go p.tables e below _ (s₁.setTop (mkF m 6 #[.val (.ref o), .val (.ref ca)] [.null, (.int (0 : Int32)), (.int (0 : Int32)), (.ref ca), (.ref o)]))
  obtain ⟨_, _, ⟨T2, L2, k2, n2⟩, -, X2', h22, gr2, ⟨Lc2, hQ2, l2, y2, z2, CRc2⟩, st2⟩ := X0.specialBackS hx (y := (⟨"java/lang/String", "<init>", "([CIILjava/lang/Void;)V"⟩ : MethodName)) rfl hown (mvT hZ (hw _ (List.mem_of_getElem? (i := 11) rfl))) (mvT hZ (hw _ (List.mem_of_getElem? (i := 12) rfl))) (mvT hZ (hw _ (List.mem_of_getElem? (i := 14) rfl))) (by decide) (backOfSH (W := 0) (rmS0 l Z a0 hw [] o ca G1 G3 h0 n0 Z0 E_o F_v F_c g_o hEL O2 O4 P5 rG3 O_) hZ (hw _ (List.mem_of_getElem? (i := 14) rfl)) (hw _ (List.mem_of_getElem? (i := 7) rfl)) (by decide) (by decide) hEL hC) (g := (mkF m 6 #[.val (.ref o), .val (.ref ca)] [.null, (.int (0 : Int32)), (.int (0 : Int32)), (.ref ca), (.ref o)])) rfl (by rw [hml]; rfl) (Steps.refl _) (a := o) (argsL := [(.ref ca), (.int (0 : Int32)), (.int (0 : Int32)), .null]) (rest := []) (lenOf pd___CIILjava_lang_Void__V rfl) rfl (by show 2 * 0 + _ ≤ _; exact Nat.le_of_eq rfl) (hb hby d2_6) (fun _ _ => ⟨rfl, e0, (by decide : 0 + 4 ≤ _), (by decide : 0 + 8 ≤ _)⟩)
  dsimp only [Pt.U, Pt.locs, Pt.cells, Pt.slots] at X2' h22 gr2 l2 y2 z2 st2 hQ2 CRc2
  subst l2 y2 z2
  obtain ⟨X2, hS2, hZ, hown⟩ := rebS hS0 (by rw [e0]; exact hk0) X2' h22 gr2 hZ hown
  have CR2 := CR0.trans CRc2
  have hk2 : T2.heap.size ≤ T2.heap.size := Nat.le_refl _
  obtain ⟨rfl, Nq2, Kc2, t, kb, Eo, Fc, Fv, Vt⟩ := hQ2
  have N2 := Fr.app N0 Nq2
  have Kk2 : Keep h0 T2.heap [o] := (Keep.refl h0 [o]).trans Kc2 (allS (Or.inl (List.mem_of_getElem? (i := 0) rfl)) all0)
  refine own_tr st2 ?_
  show own_Go p.tables e below _ (T2.setTop (mkF m 9 #[.val (.ref o), .val (.ref ca)] []))
  have cr3 : CHr Z consts_1 s.vm s.heap T2.vm T2.heap := by rw [hh, show T2.heap = T2.heap from rfl]; exact CR2.trans (CHv.at X2 hZ hEL CRc2.1)
  exact own_retWV X2 hS2 (by exact hk2) hx Bd.returns (hb hby d2_9) Bd.notSynchronized ⟨rfl, N2, by exact Kk2, t, kb, Eo, Fc, Fv, Vt⟩ cr3 (by decide) (by decide)

theorem own_np_c (x : Int32) : (own_pos x).toNatClampNeg = own_np x := rfl
theorem own_np_0 (x : Int32) : ¬ own_pos x < 0 := by
  have h := own_np_lt x
  rw [own_np_eq, Int32.lt_iff_toInt_lt, Int32.toInt_ofNat_of_lt (by omega)]
  have : (0 : Int32).toInt = 0 := rfl
  omega
theorem own_np_6 (x : Int32) : own_pos x < 6 := by
  have h := own_np_lt x
  rw [own_np_eq, Int32.lt_iff_toInt_lt, Int32.toInt_ofNat_of_lt (by omega)]
  have : (6 : Int32).toInt = 6 := rfl
  omega

theorem d1_0 : decode method_3_code 0 = .ok (.iload_n 0, 1) := by decide +kernel
theorem d1_1 : decode method_3_code 1 = .ok (.iconst 3, 1) := by decide +kernel
theorem d1_2 : decode method_3_code 2 = .ok (.iand, 1) := by decide +kernel
theorem d1_3 : decode method_3_code 3 = .ok (.istore_n 1, 1) := by decide +kernel
theorem d1_4 : decode method_3_code 4 = .ok (.bipush 6, 2) := by decide +kernel
theorem d1_6 : decode method_3_code 6 = .ok (.newarray .char, 2) := by decide +kernel
theorem d1_8 : decode method_3_code 8 = .ok (.dup, 1) := by decide +kernel
theorem d1_9 : decode method_3_code 9 = .ok (.iconst 0, 1) := by decide +kernel
theorem d1_10 : decode method_3_code 10 = .ok (.bipush 45, 2) := by decide +kernel
theorem d1_12 : decode method_3_code 12 = .ok (.castore, 1) := by decide +kernel
theorem d1_13 : decode method_3_code 13 = .ok (.dup, 1) := by decide +kernel
theorem d1_14 : decode method_3_code 14 = .ok (.iconst 1, 1) := by decide +kernel
theorem d1_15 : decode method_3_code 15 = .ok (.bipush 45, 2) := by decide +kernel
theorem d1_17 : decode method_3_code 17 = .ok (.castore, 1) := by decide +kernel
theorem d1_18 : decode method_3_code 18 = .ok (.dup, 1) := by decide +kernel
theorem d1_19 : decode method_3_code 19 = .ok (.iconst 2, 1) := by decide +kernel
theorem d1_20 : decode method_3_code 20 = .ok (.bipush 106, 2) := by decide +kernel
theorem d1_22 : decode method_3_code 22 = .ok (.castore, 1) := by decide +kernel
theorem d1_23 : decode method_3_code 23 = .ok (.dup, 1) := by decide +kernel
theorem d1_24 : decode method_3_code 24 = .ok (.iconst 3, 1) := by decide +kernel
theorem d1_25 : decode method_3_code 25 = .ok (.bipush 115, 2) := by decide +kernel
theorem d1_27 : decode method_3_code 27 = .ok (.castore, 1) := by decide +kernel
theorem d1_28 : decode method_3_code 28 = .ok (.dup, 1) := by decide +kernel
theorem d1_29 : decode method_3_code 29 = .ok (.iconst 4, 1) := by decide +kernel
theorem d1_30 : decode method_3_code 30 = .ok (.bipush 111, 2) := by decide +kernel
theorem d1_32 : decode method_3_code 32 = .ok (.castore, 1) := by decide +kernel
theorem d1_33 : decode method_3_code 33 = .ok (.dup, 1) := by decide +kernel
theorem d1_34 : decode method_3_code 34 = .ok (.iconst 5, 1) := by decide +kernel
theorem d1_35 : decode method_3_code 35 = .ok (.bipush 110, 2) := by decide +kernel
theorem d1_37 : decode method_3_code 37 = .ok (.castore, 1) := by decide +kernel
theorem d1_38 : decode method_3_code 38 = .ok (.astore_n 2, 1) := by decide +kernel
theorem d1_39 : decode method_3_code 39 = .ok (.iload_n 1, 1) := by decide +kernel
theorem d1_40 : decode method_3_code 40 = .ok (.ifCond .ne 12, 3) := by decide +kernel
theorem d1_43 : decode method_3_code 43 = .ok (.new 13, 3) := by decide +kernel
theorem d1_46 : decode method_3_code 46 = .ok (.dup, 1) := by decide +kernel
theorem d1_47 : decode method_3_code 47 = .ok (.aload_n 2, 1) := by decide +kernel
theorem d1_48 : decode method_3_code 48 = .ok (.invokespecial 25, 3) := by decide +kernel
theorem d1_51 : decode method_3_code 51 = .ok (.areturn, 1) := by decide +kernel
theorem d1_52 : decode method_3_code 52 = .ok (.iload_n 1, 1) := by decide +kernel
theorem d1_53 : decode method_3_code 53 = .ok (.iconst 1, 1) := by decide +kernel
theorem d1_54 : decode method_3_code 54 = .ok (.if_icmp .ne 33, 3) := by decide +kernel
theorem d1_57 : decode method_3_code 57 = .ok (.iload_n 0, 1) := by decide +kernel
theorem d1_58 : decode method_3_code 58 = .ok (.iconst 2, 1) := by decide +kernel
theorem d1_59 : decode method_3_code 59 = .ok (.iushr, 1) := by decide +kernel
theorem d1_60 : decode method_3_code 60 = .ok (.bipush 7, 2) := by decide +kernel
theorem d1_62 : decode method_3_code 62 = .ok (.iand, 1) := by decide +kernel
theorem d1_63 : decode method_3_code 63 = .ok (.bipush 6, 2) := by decide +kernel
theorem d1_65 : decode method_3_code 65 = .ok (.irem, 1) := by decide +kernel
theorem d1_66 : decode method_3_code 66 = .ok (.istore_n 3, 1) := by decide +kernel
theorem d1_67 : decode method_3_code 67 = .ok (.aload_n 2, 1) := by decide +kernel
theorem d1_68 : decode method_3_code 68 = .ok (.iload_n 3, 1) := by decide +kernel
theorem d1_69 : decode method_3_code 69 = .ok (.iload_n 0, 1) := by decide +kernel
theorem d1_70 : decode method_3_code 70 = .ok (.iconst 5, 1) := by decide +kernel
theorem d1_71 : decode method_3_code 71 = .ok (.iushr, 1) := by decide +kernel
theorem d1_72 : decode method_3_code 72 = .ok (.sipush 255, 3) := by decide +kernel
theorem d1_75 : decode method_3_code 75 = .ok (.iand, 1) := by decide +kernel
theorem d1_76 : decode method_3_code 76 = .ok (.i2c, 1) := by decide +kernel
theorem d1_77 : decode method_3_code 77 = .ok (.castore, 1) := by decide +kernel
theorem d1_78 : decode method_3_code 78 = .ok (.new 13, 3) := by decide +kernel
theorem d1_81 : decode method_3_code 81 = .ok (.dup, 1) := by decide +kernel
theorem d1_82 : decode method_3_code 82 = .ok (.aload_n 2, 1) := by decide +kernel
theorem d1_83 : decode method_3_code 83 = .ok (.invokespecial 25, 3) := by decide +kernel
theorem d1_86 : decode method_3_code 86 = .ok (.areturn, 1) := by decide +kernel
theorem d1_87 : decode method_3_code 87 = .ok (.iload_n 1, 1) := by decide +kernel
theorem d1_88 : decode method_3_code 88 = .ok (.iconst 2, 1) := by decide +kernel
theorem d1_89 : decode method_3_code 89 = .ok (.if_icmp .ne 101, 3) := by decide +kernel
theorem d1_92 : decode method_3_code 92 = .ok (.iload_n 0, 1) := by decide +kernel
theorem d1_93 : decode method_3_code 93 = .ok (.iconst 2, 1) := by decide +kernel
theorem d1_94 : decode method_3_code 94 = .ok (.iushr, 1) := by decide +kernel
theorem d1_95 : decode method_3_code 95 = .ok (.iconst 1, 1) := by decide +kernel
theorem d1_96 : decode method_3_code 96 = .ok (.iand, 1) := by decide +kernel
theorem d1_97 : decode method_3_code 97 = .ok (.ifCond .ne 39, 3) := by decide +kernel
theorem d1_100 : decode method_3_code 100 = .ok (.new 13, 3) := by decide +kernel
theorem d1_103 : decode method_3_code 103 = .ok (.dup, 1) := by decide +kernel
theorem d1_104 : decode method_3_code 104 = .ok (.iconst 5, 1) := by decide +kernel
theorem d1_105 : decode method_3_code 105 = .ok (.newarray .char, 2) := by decide +kernel
theorem d1_107 : decode method_3_code 107 = .ok (.dup, 1) := by decide +kernel
theorem d1_108 : decode method_3_code 108 = .ok (.iconst 0, 1) := by decide +kernel
theorem d1_109 : decode method_3_code 109 = .ok (.bipush 45, 2) := by decide +kernel
theorem d1_111 : decode method_3_code 111 = .ok (.castore, 1) := by decide +kernel
theorem d1_112 : decode method_3_code 112 = .ok (.dup, 1) := by decide +kernel
theorem d1_113 : decode method_3_code 113 = .ok (.iconst 1, 1) := by decide +kernel
theorem d1_114 : decode method_3_code 114 = .ok (.bipush 45, 2) := by decide +kernel
theorem d1_116 : decode method_3_code 116 = .ok (.castore, 1) := by decide +kernel
theorem d1_117 : decode method_3_code 117 = .ok (.dup, 1) := by decide +kernel
theorem d1_118 : decode method_3_code 118 = .ok (.iconst 2, 1) := by decide +kernel
theorem d1_119 : decode method_3_code 119 = .ok (.bipush 106, 2) := by decide +kernel
theorem d1_121 : decode method_3_code 121 = .ok (.castore, 1) := by decide +kernel
theorem d1_122 : decode method_3_code 122 = .ok (.dup, 1) := by decide +kernel
theorem d1_123 : decode method_3_code 123 = .ok (.iconst 3, 1) := by decide +kernel
theorem d1_124 : decode method_3_code 124 = .ok (.bipush 115, 2) := by decide +kernel
theorem d1_126 : decode method_3_code 126 = .ok (.castore, 1) := by decide +kernel
theorem d1_127 : decode method_3_code 127 = .ok (.dup, 1) := by decide +kernel
theorem d1_128 : decode method_3_code 128 = .ok (.iconst 4, 1) := by decide +kernel
theorem d1_129 : decode method_3_code 129 = .ok (.bipush 111, 2) := by decide +kernel
theorem d1_131 : decode method_3_code 131 = .ok (.castore, 1) := by decide +kernel
theorem d1_132 : decode method_3_code 132 = .ok (.invokespecial 25, 3) := by decide +kernel
theorem d1_135 : decode method_3_code 135 = .ok (.areturn, 1) := by decide +kernel
theorem d1_136 : decode method_3_code 136 = .ok (.new 13, 3) := by decide +kernel
theorem d1_139 : decode method_3_code 139 = .ok (.dup, 1) := by decide +kernel
theorem d1_140 : decode method_3_code 140 = .ok (.bipush 7, 2) := by decide +kernel
theorem d1_142 : decode method_3_code 142 = .ok (.newarray .char, 2) := by decide +kernel
theorem d1_144 : decode method_3_code 144 = .ok (.dup, 1) := by decide +kernel
theorem d1_145 : decode method_3_code 145 = .ok (.iconst 0, 1) := by decide +kernel
theorem d1_146 : decode method_3_code 146 = .ok (.bipush 45, 2) := by decide +kernel
theorem d1_148 : decode method_3_code 148 = .ok (.castore, 1) := by decide +kernel
theorem d1_149 : decode method_3_code 149 = .ok (.dup, 1) := by decide +kernel
theorem d1_150 : decode method_3_code 150 = .ok (.iconst 1, 1) := by decide +kernel
theorem d1_151 : decode method_3_code 151 = .ok (.bipush 45, 2) := by decide +kernel
theorem d1_153 : decode method_3_code 153 = .ok (.castore, 1) := by decide +kernel
theorem d1_154 : decode method_3_code 154 = .ok (.dup, 1) := by decide +kernel
theorem d1_155 : decode method_3_code 155 = .ok (.iconst 2, 1) := by decide +kernel
theorem d1_156 : decode method_3_code 156 = .ok (.bipush 106, 2) := by decide +kernel
theorem d1_158 : decode method_3_code 158 = .ok (.castore, 1) := by decide +kernel
theorem d1_159 : decode method_3_code 159 = .ok (.dup, 1) := by decide +kernel
theorem d1_160 : decode method_3_code 160 = .ok (.iconst 3, 1) := by decide +kernel
theorem d1_161 : decode method_3_code 161 = .ok (.bipush 115, 2) := by decide +kernel
theorem d1_163 : decode method_3_code 163 = .ok (.castore, 1) := by decide +kernel
theorem d1_164 : decode method_3_code 164 = .ok (.dup, 1) := by decide +kernel
theorem d1_165 : decode method_3_code 165 = .ok (.iconst 4, 1) := by decide +kernel
theorem d1_166 : decode method_3_code 166 = .ok (.bipush 111, 2) := by decide +kernel
theorem d1_168 : decode method_3_code 168 = .ok (.castore, 1) := by decide +kernel
theorem d1_169 : decode method_3_code 169 = .ok (.dup, 1) := by decide +kernel
theorem d1_170 : decode method_3_code 170 = .ok (.iconst 5, 1) := by decide +kernel
theorem d1_171 : decode method_3_code 171 = .ok (.bipush 110, 2) := by decide +kernel
theorem d1_173 : decode method_3_code 173 = .ok (.castore, 1) := by decide +kernel
theorem d1_174 : decode method_3_code 174 = .ok (.dup, 1) := by decide +kernel
theorem d1_175 : decode method_3_code 175 = .ok (.bipush 6, 2) := by decide +kernel
theorem d1_177 : decode method_3_code 177 = .ok (.iload_n 0, 1) := by decide +kernel
theorem d1_178 : decode method_3_code 178 = .ok (.iconst 3, 1) := by decide +kernel
theorem d1_179 : decode method_3_code 179 = .ok (.iushr, 1) := by decide +kernel
theorem d1_180 : decode method_3_code 180 = .ok (.sipush 255, 3) := by decide +kernel
theorem d1_183 : decode method_3_code 183 = .ok (.iand, 1) := by decide +kernel
theorem d1_184 : decode method_3_code 184 = .ok (.i2c, 1) := by decide +kernel
theorem d1_185 : decode method_3_code 185 = .ok (.castore, 1) := by decide +kernel
theorem d1_186 : decode method_3_code 186 = .ok (.invokespecial 25, 3) := by decide +kernel
theorem d1_189 : decode method_3_code 189 = .ok (.areturn, 1) := by decide +kernel
theorem d1_190 : decode method_3_code 190 = .ok (.iload_n 0, 1) := by decide +kernel
theorem d1_191 : decode method_3_code 191 = .ok (.bipush 18, 2) := by decide +kernel
theorem d1_193 : decode method_3_code 193 = .ok (.iushr, 1) := by decide +kernel
theorem d1_194 : decode method_3_code 194 = .ok (.iconst 1, 1) := by decide +kernel
theorem d1_195 : decode method_3_code 195 = .ok (.iand, 1) := by decide +kernel
theorem d1_196 : decode method_3_code 196 = .ok (.ifCond .eq 14, 3) := by decide +kernel
theorem d1_199 : decode method_3_code 199 = .ok (.new 13, 3) := by decide +kernel
theorem d1_202 : decode method_3_code 202 = .ok (.dup, 1) := by decide +kernel
theorem d1_203 : decode method_3_code 203 = .ok (.iconst 0, 1) := by decide +kernel
theorem d1_204 : decode method_3_code 204 = .ok (.newarray .char, 2) := by decide +kernel
theorem d1_206 : decode method_3_code 206 = .ok (.invokespecial 25, 3) := by decide +kernel
theorem d1_209 : decode method_3_code 209 = .ok (.areturn, 1) := by decide +kernel
theorem d1_210 : decode method_3_code 210 = .ok (.new 13, 3) := by decide +kernel
theorem d1_213 : decode method_3_code 213 = .ok (.dup, 1) := by decide +kernel
theorem d1_214 : decode method_3_code 214 = .ok (.iconst 2, 1) := by decide +kernel
theorem d1_215 : decode method_3_code 215 = .ok (.newarray .char, 2) := by decide +kernel
theorem d1_217 : decode method_3_code 217 = .ok (.dup, 1) := by decide +kernel
theorem d1_218 : decode method_3_code 218 = .ok (.iconst 0, 1) := by decide +kernel
theorem d1_219 : decode method_3_code 219 = .ok (.iload_n 0, 1) := by decide +kernel
theorem d1_220 : decode method_3_code 220 = .ok (.iconst 2, 1) := by decide +kernel
theorem d1_221 : decode method_3_code 221 = .ok (.iushr, 1) := by decide +kernel
theorem d1_222 : decode method_3_code 222 = .ok (.sipush 255, 3) := by decide +kernel
theorem d1_225 : decode method_3_code 225 = .ok (.iand, 1) := by decide +kernel
theorem d1_226 : decode method_3_code 226 = .ok (.i2c, 1) := by decide +kernel
theorem d1_227 : decode method_3_code 227 = .ok (.castore, 1) := by decide +kernel
theorem d1_228 : decode method_3_code 228 = .ok (.dup, 1) := by decide +kernel
theorem d1_229 : decode method_3_code 229 = .ok (.iconst 1, 1) := by decide +kernel
theorem d1_230 : decode method_3_code 230 = .ok (.iload_n 0, 1) := by decide +kernel
theorem d1_231 : decode method_3_code 231 = .ok (.bipush 10, 2) := by decide +kernel
theorem d1_233 : decode method_3_code 233 = .ok (.iushr, 1) := by decide +kernel
theorem d1_234 : decode method_3_code 234 = .ok (.sipush 255, 3) := by decide +kernel
theorem d1_237 : decode method_3_code 237 = .ok (.iand, 1) := by decide +kernel
theorem d1_238 : decode method_3_code 238 = .ok (.i2c, 1) := by decide +kernel
theorem d1_239 : decode method_3_code 239 = .ok (.castore, 1) := by decide +kernel
theorem d1_240 : decode method_3_code 240 = .ok (.invokespecial 25, 3) := by decide +kernel
theorem d1_243 : decode method_3_code 243 = .ok (.areturn, 1) := by decide +kernel
theorem pd___C_V : parseMethodDescriptor "([C)V" = some ⟨[(.array .char)], none⟩ := by decide +kernel
theorem pn_com_example_frozen_thread_frozenthread_cli_FormReporterAsksForJsonPinLaw : plainName "com/example/frozen_thread/frozenthread/cli/FormReporterAsksForJsonPinLaw" = true := by first | (simp [plainName, overriddenIn]; done) | decide +kernel
theorem ef_rmMk (m : MethodId) (x0 : Int32) : entryFrame m #[(.int x0)] 4 = mkF m 0 #[.val (.int x0), .unset, .unset, .unset] [] := by first | (simp [entryFrame, mkF, argsToLocals, Value.category]; done) | rfl
def Q_rmMk (Z : State) (x : Int32) (G1 : Int32) (G3 : Value) (h0 : Heap) (n0 : Nat) (v : Option Value) (h : Heap) (L : List Loc) : Prop := ∃ (b t : Addr) (kb : ClassId), v = some (.ref b) ∧ Fr n0 L ∧ Keep h0 h [] ∧ n0 ≤ b ∧ h0.size ≤ b ∧ Exa Z h b "java/lang/String" ∧ Fld Z h b "java/lang/String" "coder" "B" (.int (0 : Int32)) ∧ Fld Z h b "java/lang/String" "value" "[B" (.ref t) ∧ Arv Z h t kb .byte (Int32.ofNat (own_mk x).length) (((own_mk x).map (fun c => c.toInt8.toInt32)).map Value.int) (.int (0 : Int32))
def K_rmMk (Z : State) (x : Int32) (G1 : Int32) (G3 : Value) (h0 : Heap) (n0 : Nat) (s : State) : Outcome → State → Prop := fun oo U' => ∃ v L, oo = .returned v ∧ Q_rmMk Z x G1 G3 h0 n0 v U'.heap L ∧ CHr Z consts_1 s.vm s.heap U'.vm U'.heap ∧ ReturnedEndW s oo U' L ({ frames := 4, cells := 7, slots := 24, locals := 66 } : Room).cells ({ frames := 4, cells := 7, slots := 24, locals := 66 } : Room).slots
set_option maxRecDepth 65536 in
set_option maxHeartbeats 40000000 in
theorem rmMk (l : Launch) (Z : State) (a0 : Array Value) (hw : ∀ d ∈ tables_1, d.before a0 Z = true) (ws : List Jvm.Cond) (x : Int32) (G1 : Int32) (G3 : Value) (h0 : Heap) (n0 : Nat) (Z0 : n0 ≤ h0.size) (hEL : EW Z a0 consts_1) (O2 : Sta Z Z.heap "java/lang/String" "COMPACT_STRINGS" "Z" (.int G1)) (O4 : Sta Z Z.heap "jdk/internal/util/Preconditions" "SIOOBE_FORMATTER" "Ljava/util/function/BiFunction;" G3) (P5 : ¬ (G1 = (0 : Int32))) (rG3 : G3.isRef = true) (O_ : Old Z n0 h0) :
    MetFree l (⟨"com/example/frozen_thread/frozenthread/cli/FormReporterAsksForJsonPinLaw", "make", "(I)Ljava/lang/String;"⟩ : MethodName) (head1 (Jvm.Cond.code (⟨"com/example/frozen_thread/frozenthread/cli/FormReporterAsksForJsonPinLaw", "make", "(I)Ljava/lang/String;"⟩ : MethodName) method_3_code 4 (some (.object "java/lang/String")) :: ws) ({ frames := 4, cells := 7, slots := 24, locals := 66 } : Room)) (fun as_ U => as_ = #[(.int x)] ∧ Z.Warmed39 U.vm ∧ U.heap = h0 ∧ CHv Z consts_1 U.vm h0) (fun _ _ _ _ _ => True) (fun _ U oo U' => ∃ v L, oo = .returned v ∧ Q_rmMk Z x G1 G3 h0 n0 v U'.heap L ∧ CHr Z consts_1 U.vm U.heap U'.vm U'.heap ∧ ReturnedEndW U oo U' L ({ frames := 4, cells := 7, slots := 24, locals := 66 } : Room).cells ({ frames := 4, cells := 7, slots := 24, locals := 66 } : Room).slots) := by
  refine MetFree.of_bodySF (plainFor_of_name pn_com_example_frozen_thread_frozenthread_cli_FormReporterAsksForJsonPinLaw) hisR ?_
  intro p e s m args below meth c s₁ Bd hml0 hP hK
  obtain ⟨rfl, hZ, hh, hC⟩ := hP
  have hx := Bd.exec
  have hby := Bd.bytes
  have hml : c.maxLocals = 4 := hml0
  have hown : s.vm.findClass "com/example/frozen_thread/frozenthread/cli/FormReporterAsksForJsonPinLaw" = some m.cls := findClass_of_methodNamed Bd.named
  have hnm := (name_of_methodNamed Bd.named Bd.method).1
  have X0 : Stand p l e ({ frames := 4, cells := 7, slots := 24, locals := 66 } : Room) (s.setVm s.vm) m #[(.int x)] below meth c s₁ [] 0 0 := Stand.of_body Bd
  have hZ : Z.Warmed39 (s.setVm s.vm).vm := hZ
  have hown : (s.setVm s.vm).vm.findClass "com/example/frozen_thread/frozenthread/cli/FormReporterAsksForJsonPinLaw" = some m.cls := hown
  have e0 : s₁.heap = h0 := by rw [← hh, Bd.state]; rfl
  have N0 := Fr.nil n0
  refine own_st (K := (K_rmMk Z x G1 G3 h0 n0 s)) (fun t' k' => castTop (ef_rmMk m x) k') ?_
  have hSA : ∀ a ∈ Bundle.stringAtoms, a.before a0 Z = true := by
    intro a ha
    simp only [Bundle.stringAtoms, List.mem_cons, List.not_mem_nil, or_false] at ha
    rcases ha with rfl | rfl | rfl | rfl | rfl | rfl | rfl
    · exact (hw _ (List.mem_of_getElem? (i := 7) rfl))
    · exact (hw _ (List.mem_of_getElem? (i := 6) rfl))
    · exact (hw _ (List.mem_of_getElem? (i := 23) rfl))
    · exact (hw _ (List.mem_of_getElem? (i := 33) rfl))
    · exact (hw _ (List.mem_of_getElem? (i := 31) rfl))
    · exact (hw _ (List.mem_of_getElem? (i := 43) rfl))
    · exact (hw _ (List.mem_of_getElem? (i := 44) rfl))
  have hS0 : s.Since s.vm h0.size := (State.WarmedH.refl s).since _
  have hk0 : h0.size ≤ h0.size := Nat.le_refl _
  have CR0 := CHr.refl hC
  show own_Go p.tables e below _ (s₁.setTop (mkF m 0 #[.val (.int x), .unset, .unset, .unset] []))
  refine own_st (fun _ k' => XS.iloadN X0.here hx rfl (hb hby d1_0) rfl k') ?_
  show own_Go p.tables e below _ (s₁.setTop (mkF m 1 #[.val (.int x), .unset, .unset, .unset] [(.int x)]))
  refine own_st (fun _ k' => XS.iconst X0.here hx rfl (hb hby d1_1) k') ?_
  show own_Go p.tables e below _ (s₁.setTop (mkF m 2 #[.val (.int x), .unset, .unset, .unset] [(.int (3 : Int32)), (.int x)]))
  refine own_st (fun _ k' => XS.iand X0.here hx rfl (hb hby d1_2) rfl k') ?_
  show own_Go p.tables e below _ (s₁.setTop (mkF m 3 #[.val (.int x), .unset, .unset, .unset] [(.int (x &&& (3 : Int32)))]))
  refine own_st (fun _ k' => XS.istoreN X0.here hx rfl (hb hby d1_3) rfl (l' := #[.val (.int x), .val (.int (x &&& (3 : Int32))), .unset, .unset]) rfl k') ?_
  show own_Go p.tables e below _ (s₁.setTop (mkF m 4 #[.val (.int x), .val (.int (x &&& (3 : Int32))), .unset, .unset] []))
  refine own_st (fun _ k' => XS.bipush X0.here hx rfl (hb hby d1_4) k') ?_
  show own_Go p.tables e below _ (s₁.setTop (mkF m 6 #[.val (.int x), .val (.int (x &&& (3 : Int32))), .unset, .unset] [(.int (6 : Int32))]))
  obtain ⟨T1, h1, k1, X1, e1, E1, A1, st1⟩ := newP X0 hx hZ (hw _ (List.mem_of_getElem? (i := 4) rfl)) e0 (g := (mkF m 6 #[.val (.int x), .val (.int (x &&& (3 : Int32))), .unset, .unset] [(.int (6 : Int32))])) rfl (hb hby d1_6) rfl (by decide) (cap := 6) (by decide) (by decide) (by decide) (by decide)
  obtain ⟨ca1, g1⟩ : ∃ z, z = h0.size := ⟨_, rfl⟩
  rw [← g1] at A1 st1
  have g_ca1 : n0 ≤ ca1 := Nat.le_trans Z0 (Nat.le_of_eq g1.symm)
  have sz_ca1 : h0.size ≤ ca1 := Nat.le_trans (Keep.refl h0 []).1 (Nat.le_of_eq g1.symm)
  have Hc2 := CHv.ext E1 hC
  have CR2 := CR0.trans (CHr.ext E1 hC)
  have hk2 := Nat.le_trans hk0 E1.1
  have O__x3 := O_.ext E1
  have K4 : Keep h0 h1 [] := (Keep.refl h0 []).ext E1
  have ZE1 : n0 ≤ h1.size := Nat.le_trans Z0 E1.1
  have V_ca1 : Arv Z h1 ca1 k1 .char (6 : Int32) [(.int (0 : Int32)), (.int (0 : Int32)), (.int (0 : Int32)), (.int (0 : Int32)), (.int (0 : Int32)), (.int (0 : Int32))] (.int (0 : Int32)) := (Arv.new A1 (by decide)).pad (pad_rep [] (.int (0 : Int32)) 6)
  refine own_st st1 ?_
  show own_Go p.tables e below _ (T1.setTop (mkF m 8 #[.val (.int x), .val (.int (x &&& (3 : Int32))), .unset, .unset] [(.ref ca1)]))
  refine own_st (fun _ k' => XS.dup X1.here hx rfl (hb hby d1_8) rfl rfl k') ?_
  show own_Go p.tables e below _ (T1.setTop (mkF m 9 #[.val (.int x), .val (.int (x &&& (3 : Int32))), .unset, .unset] [(.ref ca1), (.ref ca1)]))
  refine own_st (fun _ k' => XS.iconst X1.here hx rfl (hb hby d1_9) k') ?_
  show own_Go p.tables e below _ (T1.setTop (mkF m 10 #[.val (.int x), .val (.int (x &&& (3 : Int32))), .unset, .unset] [(.int (0 : Int32)), (.ref ca1), (.ref ca1)]))
  refine own_st (fun _ k' => XS.bipush X1.here hx rfl (hb hby d1_10) k') ?_
  show own_Go p.tables e below _ (T1.setTop (mkF m 12 #[.val (.int x), .val (.int (x &&& (3 : Int32))), .unset, .unset] [(.int (45 : Int32)), (.int (0 : Int32)), (.ref ca1), (.ref ca1)]))
  obtain ⟨cl5, Ar5, qc5, Sz5, Nn5, Hs5, Gs5⟩ := id V_ca1
  obtain ⟨T6, h6, X6, e6, W6, st6⟩ := stC X1 hx hZ e1 Ar5 (j := (0 : Int32)) (inb_of Sz5 ⟨by decide, by decide⟩) (g := (mkF m 12 #[.val (.int x), .val (.int (x &&& (3 : Int32))), .unset, .unset] [(.int (45 : Int32)), (.int (0 : Int32)), (.ref ca1), (.ref ca1)])) rfl rfl (hb hby d1_12)
  have N6 := Fr.snoc X6 N0 g_ca1
  have Vn6 := Arv.set Ar5 qc5 Sz5 Nn5 Hs5 Gs5 (fits_nar_char _) W6 0 rfl (Nat.le_of_ble_eq_true rfl)
  have Hc7 := CHv.wr W6 (Safe.arr hZ.alike Ar5 (by decide)) Hc2
  have CR7 := CR2.trans (CHr.wr W6 (Safe.arr hZ.alike Ar5 (by decide)) Hc2)
  have hk7 := Nat.le_trans hk2 (Keep.of_wr W6).1
  have O__x8 := O__x3.wr W6 g_ca1
  have ZVW6 : n0 ≤ h6.size := Nat.le_trans ZE1 (Keep.of_wr W6).1
  have K10 : Keep h0 h6 [] := K4.wr W6 (Or.inr sz_ca1)
  have Vm6 : Arv Z h6 ca1 k1 .char (6 : Int32) [(.int (45 : Int32)), (.int (0 : Int32)), (.int (0 : Int32)), (.int (0 : Int32)), (.int (0 : Int32)), (.int (0 : Int32))] (.int (0 : Int32)) := Vn6
  refine own_st st6 ?_
  show own_Go p.tables e below _ (T6.setTop (mkF m 13 #[.val (.int x), .val (.int (x &&& (3 : Int32))), .unset, .unset] [(.ref ca1)]))
  refine own_st (fun _ k' => XS.dup X6.here hx rfl (hb hby d1_13) rfl rfl k') ?_
  show own_Go p.tables e below _ (T6.setTop (mkF m 14 #[.val (.int x), .val (.int (x &&& (3 : Int32))), .unset, .unset] [(.ref ca1), (.ref ca1)]))
  refine own_st (fun _ k' => XS.iconst X6.here hx rfl (hb hby d1_14) k') ?_
  show own_Go p.tables e below _ (T6.setTop (mkF m 15 #[.val (.int x), .val (.int (x &&& (3 : Int32))), .unset, .unset] [(.int (1 : Int32)), (.ref ca1), (.ref ca1)]))
  refine own_st (fun _ k' => XS.bipush X6.here hx rfl (hb hby d1_15) k') ?_
  show own_Go p.tables e below _ (T6.setTop (mkF m 17 #[.val (.int x), .val (.int (x &&& (3 : Int32))), .unset, .unset] [(.int (45 : Int32)), (.int (1 : Int32)), (.ref ca1), (.ref ca1)]))
  obtain ⟨cl11, Ar11, qc11, Sz11, Nn11, Hs11, Gs11⟩ := id Vm6
  obtain ⟨T12, h12, X12, e12, W12, st12⟩ := stC X6 hx hZ e6 Ar11 (j := (1 : Int32)) (inb_of Sz11 ⟨by decide, by decide⟩) (g := (mkF m 17 #[.val (.int x), .val (.int (x &&& (3 : Int32))), .unset, .unset] [(.int (45 : Int32)), (.int (1 : Int32)), (.ref ca1), (.ref ca1)])) rfl rfl (hb hby d1_17)
  have N12 := Fr.snoc X12 N6 g_ca1
  have Vn12 := Arv.set Ar11 qc11 Sz11 Nn11 Hs11 Gs11 (fits_nar_char _) W12 1 rfl (Nat.le_of_ble_eq_true rfl)
  have Hc13 := CHv.wr W12 (Safe.arr hZ.alike Ar11 (by decide)) Hc7
  have CR13 := CR7.trans (CHr.wr W12 (Safe.arr hZ.alike Ar11 (by decide)) Hc7)
  have hk13 := Nat.le_trans hk7 (Keep.of_wr W12).1
  have O__x14 := O__x8.wr W12 g_ca1
  have ZVW12 : n0 ≤ h12.size := Nat.le_trans ZVW6 (Keep.of_wr W12).1
  have K16 : Keep h0 h12 [] := K10.wr W12 (Or.inr sz_ca1)
  have Vm12 : Arv Z h12 ca1 k1 .char (6 : Int32) [(.int (45 : Int32)), (.int (45 : Int32)), (.int (0 : Int32)), (.int (0 : Int32)), (.int (0 : Int32)), (.int (0 : Int32))] (.int (0 : Int32)) := Vn12
  refine own_st st12 ?_
  show own_Go p.tables e below _ (T12.setTop (mkF m 18 #[.val (.int x), .val (.int (x &&& (3 : Int32))), .unset, .unset] [(.ref ca1)]))
  refine own_st (fun _ k' => XS.dup X12.here hx rfl (hb hby d1_18) rfl rfl k') ?_
  show own_Go p.tables e below _ (T12.setTop (mkF m 19 #[.val (.int x), .val (.int (x &&& (3 : Int32))), .unset, .unset] [(.ref ca1), (.ref ca1)]))
  refine own_st (fun _ k' => XS.iconst X12.here hx rfl (hb hby d1_19) k') ?_
  show own_Go p.tables e below _ (T12.setTop (mkF m 20 #[.val (.int x), .val (.int (x &&& (3 : Int32))), .unset, .unset] [(.int (2 : Int32)), (.ref ca1), (.ref ca1)]))
  refine own_st (fun _ k' => XS.bipush X12.here hx rfl (hb hby d1_20) k') ?_
  show own_Go p.tables e below _ (T12.setTop (mkF m 22 #[.val (.int x), .val (.int (x &&& (3 : Int32))), .unset, .unset] [(.int (106 : Int32)), (.int (2 : Int32)), (.ref ca1), (.ref ca1)]))
  obtain ⟨cl17, Ar17, qc17, Sz17, Nn17, Hs17, Gs17⟩ := id Vm12
  obtain ⟨T18, h18, X18, e18, W18, st18⟩ := stC X12 hx hZ e12 Ar17 (j := (2 : Int32)) (inb_of Sz17 ⟨by decide, by decide⟩) (g := (mkF m 22 #[.val (.int x), .val (.int (x &&& (3 : Int32))), .unset, .unset] [(.int (106 : Int32)), (.int (2 : Int32)), (.ref ca1), (.ref ca1)])) rfl rfl (hb hby d1_22)
  have N18 := Fr.snoc X18 N12 g_ca1
  have Vn18 := Arv.set Ar17 qc17 Sz17 Nn17 Hs17 Gs17 (fits_nar_char _) W18 2 rfl (Nat.le_of_ble_eq_true rfl)
  have Hc19 := CHv.wr W18 (Safe.arr hZ.alike Ar17 (by decide)) Hc13
  have CR19 := CR13.trans (CHr.wr W18 (Safe.arr hZ.alike Ar17 (by decide)) Hc13)
  have hk19 := Nat.le_trans hk13 (Keep.of_wr W18).1
  have O__x20 := O__x14.wr W18 g_ca1
  have ZVW18 : n0 ≤ h18.size := Nat.le_trans ZVW12 (Keep.of_wr W18).1
  have K22 : Keep h0 h18 [] := K16.wr W18 (Or.inr sz_ca1)
  have Vm18 : Arv Z h18 ca1 k1 .char (6 : Int32) [(.int (45 : Int32)), (.int (45 : Int32)), (.int (106 : Int32)), (.int (0 : Int32)), (.int (0 : Int32)), (.int (0 : Int32))] (.int (0 : Int32)) := Vn18
  refine own_st st18 ?_
  show own_Go p.tables e below _ (T18.setTop (mkF m 23 #[.val (.int x), .val (.int (x &&& (3 : Int32))), .unset, .unset] [(.ref ca1)]))
  refine own_st (fun _ k' => XS.dup X18.here hx rfl (hb hby d1_23) rfl rfl k') ?_
  show own_Go p.tables e below _ (T18.setTop (mkF m 24 #[.val (.int x), .val (.int (x &&& (3 : Int32))), .unset, .unset] [(.ref ca1), (.ref ca1)]))
  refine own_st (fun _ k' => XS.iconst X18.here hx rfl (hb hby d1_24) k') ?_
  show own_Go p.tables e below _ (T18.setTop (mkF m 25 #[.val (.int x), .val (.int (x &&& (3 : Int32))), .unset, .unset] [(.int (3 : Int32)), (.ref ca1), (.ref ca1)]))
  refine own_st (fun _ k' => XS.bipush X18.here hx rfl (hb hby d1_25) k') ?_
  show own_Go p.tables e below _ (T18.setTop (mkF m 27 #[.val (.int x), .val (.int (x &&& (3 : Int32))), .unset, .unset] [(.int (115 : Int32)), (.int (3 : Int32)), (.ref ca1), (.ref ca1)]))
  obtain ⟨cl23, Ar23, qc23, Sz23, Nn23, Hs23, Gs23⟩ := id Vm18
  obtain ⟨T24, h24, X24, e24, W24, st24⟩ := stC X18 hx hZ e18 Ar23 (j := (3 : Int32)) (inb_of Sz23 ⟨by decide, by decide⟩) (g := (mkF m 27 #[.val (.int x), .val (.int (x &&& (3 : Int32))), .unset, .unset] [(.int (115 : Int32)), (.int (3 : Int32)), (.ref ca1), (.ref ca1)])) rfl rfl (hb hby d1_27)
  have N24 := Fr.snoc X24 N18 g_ca1
  have Vn24 := Arv.set Ar23 qc23 Sz23 Nn23 Hs23 Gs23 (fits_nar_char _) W24 3 rfl (Nat.le_of_ble_eq_true rfl)
  have Hc25 := CHv.wr W24 (Safe.arr hZ.alike Ar23 (by decide)) Hc19
  have CR25 := CR19.trans (CHr.wr W24 (Safe.arr hZ.alike Ar23 (by decide)) Hc19)
  have hk25 := Nat.le_trans hk19 (Keep.of_wr W24).1
  have O__x26 := O__x20.wr W24 g_ca1
  have ZVW24 : n0 ≤ h24.size := Nat.le_trans ZVW18 (Keep.of_wr W24).1
  have K28 : Keep h0 h24 [] := K22.wr W24 (Or.inr sz_ca1)
  have Vm24 : Arv Z h24 ca1 k1 .char (6 : Int32) [(.int (45 : Int32)), (.int (45 : Int32)), (.int (106 : Int32)), (.int (115 : Int32)), (.int (0 : Int32)), (.int (0 : Int32))] (.int (0 : Int32)) := Vn24
  refine own_st st24 ?_
  show own_Go p.tables e below _ (T24.setTop (mkF m 28 #[.val (.int x), .val (.int (x &&& (3 : Int32))), .unset, .unset] [(.ref ca1)]))
  refine own_st (fun _ k' => XS.dup X24.here hx rfl (hb hby d1_28) rfl rfl k') ?_
  show own_Go p.tables e below _ (T24.setTop (mkF m 29 #[.val (.int x), .val (.int (x &&& (3 : Int32))), .unset, .unset] [(.ref ca1), (.ref ca1)]))
  refine own_st (fun _ k' => XS.iconst X24.here hx rfl (hb hby d1_29) k') ?_
  show own_Go p.tables e below _ (T24.setTop (mkF m 30 #[.val (.int x), .val (.int (x &&& (3 : Int32))), .unset, .unset] [(.int (4 : Int32)), (.ref ca1), (.ref ca1)]))
  refine own_st (fun _ k' => XS.bipush X24.here hx rfl (hb hby d1_30) k') ?_
  show own_Go p.tables e below _ (T24.setTop (mkF m 32 #[.val (.int x), .val (.int (x &&& (3 : Int32))), .unset, .unset] [(.int (111 : Int32)), (.int (4 : Int32)), (.ref ca1), (.ref ca1)]))
  obtain ⟨cl29, Ar29, qc29, Sz29, Nn29, Hs29, Gs29⟩ := id Vm24
  obtain ⟨T30, h30, X30, e30, W30, st30⟩ := stC X24 hx hZ e24 Ar29 (j := (4 : Int32)) (inb_of Sz29 ⟨by decide, by decide⟩) (g := (mkF m 32 #[.val (.int x), .val (.int (x &&& (3 : Int32))), .unset, .unset] [(.int (111 : Int32)), (.int (4 : Int32)), (.ref ca1), (.ref ca1)])) rfl rfl (hb hby d1_32)
  have N30 := Fr.snoc X30 N24 g_ca1
  have Vn30 := Arv.set Ar29 qc29 Sz29 Nn29 Hs29 Gs29 (fits_nar_char _) W30 4 rfl (Nat.le_of_ble_eq_true rfl)
  have Hc31 := CHv.wr W30 (Safe.arr hZ.alike Ar29 (by decide)) Hc25
  have CR31 := CR25.trans (CHr.wr W30 (Safe.arr hZ.alike Ar29 (by decide)) Hc25)
  have hk31 := Nat.le_trans hk25 (Keep.of_wr W30).1
  have O__x32 := O__x26.wr W30 g_ca1
  have ZVW30 : n0 ≤ h30.size := Nat.le_trans ZVW24 (Keep.of_wr W30).1
  have K34 : Keep h0 h30 [] := K28.wr W30 (Or.inr sz_ca1)
  have Vm30 : Arv Z h30 ca1 k1 .char (6 : Int32) [(.int (45 : Int32)), (.int (45 : Int32)), (.int (106 : Int32)), (.int (115 : Int32)), (.int (111 : Int32)), (.int (0 : Int32))] (.int (0 : Int32)) := Vn30
  refine own_st st30 ?_
  show own_Go p.tables e below _ (T30.setTop (mkF m 33 #[.val (.int x), .val (.int (x &&& (3 : Int32))), .unset, .unset] [(.ref ca1)]))
  refine own_st (fun _ k' => XS.dup X30.here hx rfl (hb hby d1_33) rfl rfl k') ?_
  show own_Go p.tables e below _ (T30.setTop (mkF m 34 #[.val (.int x), .val (.int (x &&& (3 : Int32))), .unset, .unset] [(.ref ca1), (.ref ca1)]))
  refine own_st (fun _ k' => XS.iconst X30.here hx rfl (hb hby d1_34) k') ?_
  show own_Go p.tables e below _ (T30.setTop (mkF m 35 #[.val (.int x), .val (.int (x &&& (3 : Int32))), .unset, .unset] [(.int (5 : Int32)), (.ref ca1), (.ref ca1)]))
  refine own_st (fun _ k' => XS.bipush X30.here hx rfl (hb hby d1_35) k') ?_
  show own_Go p.tables e below _ (T30.setTop (mkF m 37 #[.val (.int x), .val (.int (x &&& (3 : Int32))), .unset, .unset] [(.int (110 : Int32)), (.int (5 : Int32)), (.ref ca1), (.ref ca1)]))
  obtain ⟨cl35, Ar35, qc35, Sz35, Nn35, Hs35, Gs35⟩ := id Vm30
  obtain ⟨T36, h36, X36, e36, W36, st36⟩ := stC X30 hx hZ e30 Ar35 (j := (5 : Int32)) (inb_of Sz35 ⟨by decide, by decide⟩) (g := (mkF m 37 #[.val (.int x), .val (.int (x &&& (3 : Int32))), .unset, .unset] [(.int (110 : Int32)), (.int (5 : Int32)), (.ref ca1), (.ref ca1)])) rfl rfl (hb hby d1_37)
  have N36 := Fr.snoc X36 N30 g_ca1
  have Vn36 := Arv.set Ar35 qc35 Sz35 Nn35 Hs35 Gs35 (fits_nar_char _) W36 5 rfl (Nat.le_of_ble_eq_true rfl)
  have Hc37 := CHv.wr W36 (Safe.arr hZ.alike Ar35 (by decide)) Hc31
  have CR37 := CR31.trans (CHr.wr W36 (Safe.arr hZ.alike Ar35 (by decide)) Hc31)
  have hk37 := Nat.le_trans hk31 (Keep.of_wr W36).1
  have O__x38 := O__x32.wr W36 g_ca1
  have ZVW36 : n0 ≤ h36.size := Nat.le_trans ZVW30 (Keep.of_wr W36).1
  have K40 : Keep h0 h36 [] := K34.wr W36 (Or.inr sz_ca1)
  have Vm36 : Arv Z h36 ca1 k1 .char (6 : Int32) [(.int (45 : Int32)), (.int (45 : Int32)), (.int (106 : Int32)), (.int (115 : Int32)), (.int (111 : Int32)), (.int (110 : Int32))] (.int (0 : Int32)) := Vn36
  refine own_st st36 ?_
  show own_Go p.tables e below _ (T36.setTop (mkF m 38 #[.val (.int x), .val (.int (x &&& (3 : Int32))), .unset, .unset] [(.ref ca1)]))
  refine own_st (fun _ k' => XS.astoreN X36.here hx rfl (hb hby d1_38) rfl rfl (l' := #[.val (.int x), .val (.int (x &&& (3 : Int32))), .val (.ref ca1), .unset]) rfl k') ?_
  show own_Go p.tables e below _ (T36.setTop (mkF m 39 #[.val (.int x), .val (.int (x &&& (3 : Int32))), .val (.ref ca1), .unset] []))
  refine own_st (fun _ k' => XS.iloadN X36.here hx rfl (hb hby d1_39) rfl k') ?_
  show own_Go p.tables e below _ (T36.setTop (mkF m 40 #[.val (.int x), .val (.int (x &&& (3 : Int32))), .val (.ref ca1), .unset] [(.int (x &&& (3 : Int32)))]))
  by_cases hc41 : (x &&& (3 : Int32)) = (0 : Int32)
  ·  -- pc 40, (x &&& (3 : Int32)) = (0 : Int32)
    refine own_st (fun _ k' => XS.ifNo X36.here hx rfl (hb hby d1_40) rfl ((if0 _ _).trans (teq hc41).2) k') ?_
    show own_Go p.tables e below _ (T36.setTop (mkF m 43 #[.val (.int x), .val (.int (x &&& (3 : Int32))), .val (.ref ca1), .unset] []))
    obtain ⟨T42, h42, X42, e42, E42, A42, D42, -, st42⟩ := newO X36 hx hZ hown (hw _ (List.mem_of_getElem? (i := 5) rfl)) (hw _ (List.mem_of_getElem? (i := 6) rfl)) (hw _ (List.mem_of_getElem? (i := 7) rfl)) e36 (g := (mkF m 43 #[.val (.int x), .val (.int (x &&& (3 : Int32))), .val (.ref ca1), .unset] [])) rfl (hb hby d1_43) (by decide) (by decide)
    obtain ⟨b42, g42⟩ : ∃ z, z = h36.size := ⟨_, rfl⟩
    rw [← g42] at A42 D42 st42
    have g_b42 : n0 ≤ b42 := Nat.le_trans ZVW36 (Nat.le_of_eq g42.symm)
    have sz_b42 : h0.size ≤ b42 := Nat.le_trans K40.1 (Nat.le_of_eq g42.symm)
    have ne_ca1_b42 : ca1 ≠ b42 := Nat.ne_of_lt (Nat.lt_of_lt_of_le Vm36.lt (Nat.le_of_eq g42.symm))
    have Hc43 := CHv.ext E42 Hc37
    have CR43 := CR37.trans (CHr.ext E42 Hc37)
    have hk43 := Nat.le_trans hk37 E42.1
    have O__x44 := O__x38.ext E42
    have Vm36_x45 := Vm36.ext E42
    have K46 : Keep h0 h42 [] := K40.ext E42
    have ZE42 : n0 ≤ h42.size := Nat.le_trans ZVW36 E42.1
    have F_coder_b42 : Fld Z h42 b42 "java/lang/String" "coder" "B" (.int (0 : Int32)) := D42 (Or.inr (hw _ (List.mem_of_getElem? (i := 31) rfl))) (ty := .byte) (by decide)
    have F_value_b42 : Fld Z h42 b42 "java/lang/String" "value" "[B" .null := D42 (Or.inr (hw _ (List.mem_of_getElem? (i := 33) rfl))) (ty := (.array .byte)) (by decide)
    refine own_st st42 ?_
    show own_Go p.tables e below _ (T42.setTop (mkF m 46 #[.val (.int x), .val (.int (x &&& (3 : Int32))), .val (.ref ca1), .unset] [(.ref b42)]))
    refine own_st (fun _ k' => XS.dup X42.here hx rfl (hb hby d1_46) rfl rfl k') ?_
    show own_Go p.tables e below _ (T42.setTop (mkF m 47 #[.val (.int x), .val (.int (x &&& (3 : Int32))), .val (.ref ca1), .unset] [(.ref b42), (.ref b42)]))
    refine own_st (fun _ k' => XS.aloadN X42.here hx rfl (hb hby d1_47) rfl rfl k') ?_
    show own_Go p.tables e below _ (T42.setTop (mkF m 48 #[.val (.int x), .val (.int (x &&& (3 : Int32))), .val (.ref ca1), .unset] [(.ref ca1), (.ref b42), (.ref b42)]))
    have hws : ∀ d ∈ StrChars.Road.words, d.before a0 Z = true := fun d hd => hw d ((by decide +kernel : ∀ d ∈ StrChars.Road.words, d ∈ tables_1) d hd)
    have hmk47 : own_mk x = ([(45 : Int32), (45 : Int32), (106 : Int32), (115 : Int32), (111 : Int32), (110 : Int32)] : List Int32) := by simp [own_mk, own_J, hc41]
    have hp47 : ∀ c ∈ ([(45 : Int32), (45 : Int32), (106 : Int32), (115 : Int32), (111 : Int32), (110 : Int32)] : List Int32), ¬ c < 0 ∧ ¬ (255 : Int32) < c := by rw [← hmk47]; exact own_mk_in x
    obtain ⟨_, _, ⟨T47, L47, k47, n47⟩, -, X47, ⟨Lc47, hQ47, l47, y47, z47⟩, st47⟩ := X42.specialBack hx (y := (⟨"java/lang/String", "<init>", "([C)V"⟩ : MethodName)) rfl hown (mvT hZ (hw _ (List.mem_of_getElem? (i := 8) rfl))) (mvT hZ (hw _ (List.mem_of_getElem? (i := 9) rfl))) (mvT hZ (hw _ (List.mem_of_getElem? (i := 10) rfl))) (by decide) (StrChars.Road.backV (W := 1) hZ hws (kI := 4) (hw _ (List.mem_of_getElem? (i := 6) rfl)) (cs := ([(45 : Int32), (45 : Int32), (106 : Int32), (115 : Int32), (111 : Int32), (110 : Int32)] : List Int32)) (bs := ([(45 : Int32), (45 : Int32), (106 : Int32), (115 : Int32), (111 : Int32), (110 : Int32)] : List Int32).map (fun c => c.toInt8.toInt32)) (n := 6) g_b42 ZE42 A42 F_value_b42 F_coder_b42 Vm36_x45 (O2.ext O__x44.2) P5 rfl rfl (by decide) (by decide) hp47 rfl (by decide) (by decide)) (g := (mkF m 48 #[.val (.int x), .val (.int (x &&& (3 : Int32))), .val (.ref ca1), .unset] [(.ref ca1), (.ref b42), (.ref b42)])) rfl (by rw [hml]; rfl) (Steps.refl _) (a := b42) (argsL := [(.ref ca1)]) (rest := [(.ref b42)]) (lenOf pd___C_V rfl) rfl (by show 2 * 0 + _ ≤ _; exact Nat.le_of_eq rfl) (hb hby d1_48) (fun _ _ => ⟨rfl, e42, (by decide : 2 + 1 ≤ _), (by decide : 10 + 6 ≤ _)⟩)
    dsimp only [Pt.U, Pt.locs, Pt.cells, Pt.slots] at X47 l47 y47 z47 st47 hQ47
    subst l47 y47 z47
    obtain ⟨rfl, Nq47, Kc47, Es, Fc, t, kb, ut, vt, wt, Fv, Vt⟩ := hQ47
    have Hc48 := CHv.keep Kc47 (allS (own_safe (EL := consts_1) hZ.alike (hw _ (List.mem_of_getElem? (i := 6) rfl)) A42 F_value_b42) all0) Hc43
    have CR48 := CR43.trans (CHr.keep Kc47 (allS (own_safe (EL := consts_1) hZ.alike (hw _ (List.mem_of_getElem? (i := 6) rfl)) A42 F_value_b42) all0) Hc43)
    have hk48 := Nat.le_trans hk43 Kc47.1
    have N47 := Fr.app N36 Nq47
    have Kk47 : Keep h0 T47.heap [] := K46.trans Kc47 (allS (Or.inr sz_b42) all0)
    refine own_tr st47 ?_
    show own_Go p.tables e below _ (T47.setTop (mkF m 51 #[.val (.int x), .val (.int (x &&& (3 : Int32))), .val (.ref ca1), .unset] [(.ref b42)]))
    have cr49 : CHr Z consts_1 s.vm s.heap T47.vm T47.heap := by rw [hh, show T47.heap = T47.heap from rfl]; exact CR48.trans (CHv.at X47 hZ hEL Hc48)
    exact own_retWA X47 hS0 (by exact hk48) hx Bd.returns rfl rfl (hb hby d1_51) Bd.notSynchronized ⟨b42, t, kb, rfl, N47, by exact Kk47, g_b42, sz_b42, Es, Fc, Fv, by rw [hmk47]; exact Vt⟩ cr49 (by decide) (by decide)
  ·  -- pc 40, not (x &&& (3 : Int32)) = (0 : Int32)
    refine own_st (fun _ k' => XS.ifYes X36.here hx rfl (pc0 := 40) (pc' := 52) rfl (hb hby d1_40) rfl ((if0 _ _).trans (feq hc41).2) (by decide) (by decide) k') ?_
    show own_Go p.tables e below _ (T36.setTop (mkF m 52 #[.val (.int x), .val (.int (x &&& (3 : Int32))), .val (.ref ca1), .unset] []))
    refine own_st (fun _ k' => XS.iloadN X36.here hx rfl (hb hby d1_52) rfl k') ?_
    show own_Go p.tables e below _ (T36.setTop (mkF m 53 #[.val (.int x), .val (.int (x &&& (3 : Int32))), .val (.ref ca1), .unset] [(.int (x &&& (3 : Int32)))]))
    refine own_st (fun _ k' => XS.iconst X36.here hx rfl (hb hby d1_53) k') ?_
    show own_Go p.tables e below _ (T36.setTop (mkF m 54 #[.val (.int x), .val (.int (x &&& (3 : Int32))), .val (.ref ca1), .unset] [(.int (1 : Int32)), (.int (x &&& (3 : Int32)))]))
    by_cases hc50 : (x &&& (3 : Int32)) = (1 : Int32)
    ·  -- pc 54, (x &&& (3 : Int32)) = (1 : Int32)
      refine own_st (fun _ k' => XS.icmpNo X36.here hx rfl (hb hby d1_54) rfl (teq hc50).2 k') ?_
      show own_Go p.tables e below _ (T36.setTop (mkF m 57 #[.val (.int x), .val (.int (x &&& (3 : Int32))), .val (.ref ca1), .unset] []))
      refine own_st (fun _ k' => XS.iloadN X36.here hx rfl (hb hby d1_57) rfl k') ?_
      show own_Go p.tables e below _ (T36.setTop (mkF m 58 #[.val (.int x), .val (.int (x &&& (3 : Int32))), .val (.ref ca1), .unset] [(.int x)]))
      refine own_st (fun _ k' => XS.iconst X36.here hx rfl (hb hby d1_58) k') ?_
      show own_Go p.tables e below _ (T36.setTop (mkF m 59 #[.val (.int x), .val (.int (x &&& (3 : Int32))), .val (.ref ca1), .unset] [(.int (2 : Int32)), (.int x)]))
      refine own_st (fun _ k' => XS.iushr X36.here hx rfl (hb hby d1_59) rfl k') ?_
      show own_Go p.tables e below _ (T36.setTop (mkF m 60 #[.val (.int x), .val (.int (x &&& (3 : Int32))), .val (.ref ca1), .unset] [(.int ((x.toUInt32 >>> ((2 : Int32) &&& 31).toUInt32).toInt32))]))
      refine own_st (fun _ k' => XS.bipush X36.here hx rfl (hb hby d1_60) k') ?_
      show own_Go p.tables e below _ (T36.setTop (mkF m 62 #[.val (.int x), .val (.int (x &&& (3 : Int32))), .val (.ref ca1), .unset] [(.int (7 : Int32)), (.int ((x.toUInt32 >>> ((2 : Int32) &&& 31).toUInt32).toInt32))]))
      refine own_st (fun _ k' => XS.iand X36.here hx rfl (hb hby d1_62) rfl k') ?_
      show own_Go p.tables e below _ (T36.setTop (mkF m 63 #[.val (.int x), .val (.int (x &&& (3 : Int32))), .val (.ref ca1), .unset] [(.int (((x.toUInt32 >>> ((2 : Int32) &&& 31).toUInt32).toInt32) &&& (7 : Int32)))]))
      refine own_st (fun _ k' => XS.bipush X36.here hx rfl (hb hby d1_63) k') ?_
      show own_Go p.tables e below _ (T36.setTop (mkF m 65 #[.val (.int x), .val (.int (x &&& (3 : Int32))), .val (.ref ca1), .unset] [(.int (6 : Int32)), (.int (((x.toUInt32 >>> ((2 : Int32) &&& 31).toUInt32).toInt32) &&& (7 : Int32)))]))
      refine own_st (fun _ k' => iremM X36 hx rfl (hb hby d1_65) rfl (by decide) k') ?_
      show own_Go p.tables e below _ (T36.setTop (mkF m 66 #[.val (.int x), .val (.int (x &&& (3 : Int32))), .val (.ref ca1), .unset] [(.int ((((x.toUInt32 >>> ((2 : Int32) &&& 31).toUInt32).toInt32) &&& (7 : Int32)) % (6 : Int32)))]))
      show own_Go p.tables e below _ (T36.setTop (mkF m 66 #[.val (.int x), .val (.int (x &&& (3 : Int32))), .val (.ref ca1), .unset] [(.int (own_pos x))]))
      refine own_st (fun _ k' => XS.istoreN X36.here hx rfl (hb hby d1_66) rfl (l' := #[.val (.int x), .val (.int (x &&& (3 : Int32))), .val (.ref ca1), .val (.int (own_pos x))]) rfl k') ?_
      show own_Go p.tables e below _ (T36.setTop (mkF m 67 #[.val (.int x), .val (.int (x &&& (3 : Int32))), .val (.ref ca1), .val (.int (own_pos x))] []))
      refine own_st (fun _ k' => XS.aloadN X36.here hx rfl (hb hby d1_67) rfl rfl k') ?_
      show own_Go p.tables e below _ (T36.setTop (mkF m 68 #[.val (.int x), .val (.int (x &&& (3 : Int32))), .val (.ref ca1), .val (.int (own_pos x))] [(.ref ca1)]))
      refine own_st (fun _ k' => XS.iloadN X36.here hx rfl (hb hby d1_68) rfl k') ?_
      show own_Go p.tables e below _ (T36.setTop (mkF m 69 #[.val (.int x), .val (.int (x &&& (3 : Int32))), .val (.ref ca1), .val (.int (own_pos x))] [(.int (own_pos x)), (.ref ca1)]))
      refine own_st (fun _ k' => XS.iloadN X36.here hx rfl (hb hby d1_69) rfl k') ?_
      show own_Go p.tables e below _ (T36.setTop (mkF m 70 #[.val (.int x), .val (.int (x &&& (3 : Int32))), .val (.ref ca1), .val (.int (own_pos x))] [(.int x), (.int (own_pos x)), (.ref ca1)]))
      refine own_st (fun _ k' => XS.iconst X36.here hx rfl (hb hby d1_70) k') ?_
      show own_Go p.tables e below _ (T36.setTop (mkF m 71 #[.val (.int x), .val (.int (x &&& (3 : Int32))), .val (.ref ca1), .val (.int (own_pos x))] [(.int (5 : Int32)), (.int x), (.int (own_pos x)), (.ref ca1)]))
      refine own_st (fun _ k' => XS.iushr X36.here hx rfl (hb hby d1_71) rfl k') ?_
      show own_Go p.tables e below _ (T36.setTop (mkF m 72 #[.val (.int x), .val (.int (x &&& (3 : Int32))), .val (.ref ca1), .val (.int (own_pos x))] [(.int ((x.toUInt32 >>> ((5 : Int32) &&& 31).toUInt32).toInt32)), (.int (own_pos x)), (.ref ca1)]))
      refine own_st (fun _ k' => XS.sipush X36.here hx rfl (hb hby d1_72) k') ?_
      show own_Go p.tables e below _ (T36.setTop (mkF m 75 #[.val (.int x), .val (.int (x &&& (3 : Int32))), .val (.ref ca1), .val (.int (own_pos x))] [(.int (255 : Int32)), (.int ((x.toUInt32 >>> ((5 : Int32) &&& 31).toUInt32).toInt32)), (.int (own_pos x)), (.ref ca1)]))
      refine own_st (fun _ k' => XS.iand X36.here hx rfl (hb hby d1_75) rfl k') ?_
      show own_Go p.tables e below _ (T36.setTop (mkF m 76 #[.val (.int x), .val (.int (x &&& (3 : Int32))), .val (.ref ca1), .val (.int (own_pos x))] [(.int (((x.toUInt32 >>> ((5 : Int32) &&& 31).toUInt32).toInt32) &&& (255 : Int32))), (.int (own_pos x)), (.ref ca1)]))
      show own_Go p.tables e below _ (T36.setTop (mkF m 76 #[.val (.int x), .val (.int (x &&& (3 : Int32))), .val (.ref ca1), .val (.int (own_pos x))] [(.int (own_cc x (5 : Int32))), (.int (own_pos x)), (.ref ca1)]))
      refine own_st (fun _ k' => XS.i2c X36.here hx rfl (hb hby d1_76) rfl k') ?_
      show own_Go p.tables e below _ (T36.setTop (mkF m 77 #[.val (.int x), .val (.int (x &&& (3 : Int32))), .val (.ref ca1), .val (.int (own_pos x))] [(.int ((own_cc x (5 : Int32)).toUInt32.toUInt16.toUInt32.toInt32)), (.int (own_pos x)), (.ref ca1)]))
      rw [own_ccc]
      show own_Go p.tables e below _ (T36.setTop (mkF m 77 #[.val (.int x), .val (.int (x &&& (3 : Int32))), .val (.ref ca1), .val (.int (own_pos x))] [(.int (own_cc x (5 : Int32))), (.int (own_pos x)), (.ref ca1)]))
      obtain ⟨cl51, Ar51, qc51, Sz51, Nn51, Hs51, Gs51⟩ := id Vm36
      obtain ⟨T52, h52, X52, e52, W52, st52⟩ := stC X36 hx hZ e36 Ar51 (j := (own_pos x)) (inb_of Sz51 ⟨own_np_0 x, own_np_6 x⟩) (g := (mkF m 77 #[.val (.int x), .val (.int (x &&& (3 : Int32))), .val (.ref ca1), .val (.int (own_pos x))] [(.int (own_cc x (5 : Int32))), (.int (own_pos x)), (.ref ca1)])) rfl rfl (hb hby d1_77)
      have N52 := Fr.snoc X52 N36 g_ca1
      have Vn52 := Arv.set Ar51 qc51 Sz51 Nn51 Hs51 Gs51 (fits_nar_char _) W52 (own_np x) (own_np_c x) (own_np_lt x)
      rw [own_ncc] at Vn52
      have Hc53 := CHv.wr W52 (Safe.arr hZ.alike Ar51 (by decide)) Hc37
      have CR53 := CR37.trans (CHr.wr W52 (Safe.arr hZ.alike Ar51 (by decide)) Hc37)
      have hk53 := Nat.le_trans hk37 (Keep.of_wr W52).1
      have O__x54 := O__x38.wr W52 g_ca1
      have ZVW52 : n0 ≤ h52.size := Nat.le_trans ZVW36 (Keep.of_wr W52).1
      have K56 : Keep h0 h52 [] := K40.wr W52 (Or.inr sz_ca1)
      have Vm52 : Arv Z h52 ca1 k1 .char (6 : Int32) ([(.int (45 : Int32)), (.int (45 : Int32)), (.int (106 : Int32)), (.int (115 : Int32)), (.int (111 : Int32)), (.int (110 : Int32))].set (own_np x) (.int (own_cc x (5 : Int32)))) (.int (0 : Int32)) := Vn52
      refine own_st st52 ?_
      show own_Go p.tables e below _ (T52.setTop (mkF m 78 #[.val (.int x), .val (.int (x &&& (3 : Int32))), .val (.ref ca1), .val (.int (own_pos x))] []))
      obtain ⟨T57, h57, X57, e57, E57, A57, D57, -, st57⟩ := newO X52 hx hZ hown (hw _ (List.mem_of_getElem? (i := 5) rfl)) (hw _ (List.mem_of_getElem? (i := 6) rfl)) (hw _ (List.mem_of_getElem? (i := 7) rfl)) e52 (g := (mkF m 78 #[.val (.int x), .val (.int (x &&& (3 : Int32))), .val (.ref ca1), .val (.int (own_pos x))] [])) rfl (hb hby d1_78) (by decide) (by decide)
      obtain ⟨b57, g57⟩ : ∃ z, z = h52.size := ⟨_, rfl⟩
      rw [← g57] at A57 D57 st57
      have g_b57 : n0 ≤ b57 := Nat.le_trans ZVW52 (Nat.le_of_eq g57.symm)
      have sz_b57 : h0.size ≤ b57 := Nat.le_trans K56.1 (Nat.le_of_eq g57.symm)
      have ne_ca1_b57 : ca1 ≠ b57 := Nat.ne_of_lt (Nat.lt_of_lt_of_le Vm52.lt (Nat.le_of_eq g57.symm))
      have Hc58 := CHv.ext E57 Hc53
      have CR58 := CR53.trans (CHr.ext E57 Hc53)
      have hk58 := Nat.le_trans hk53 E57.1
      have O__x59 := O__x54.ext E57
      have Vm52_x60 := Vm52.ext E57
      have K61 : Keep h0 h57 [] := K56.ext E57
      have ZE57 : n0 ≤ h57.size := Nat.le_trans ZVW52 E57.1
      have F_coder_b57 : Fld Z h57 b57 "java/lang/String" "coder" "B" (.int (0 : Int32)) := D57 (Or.inr (hw _ (List.mem_of_getElem? (i := 31) rfl))) (ty := .byte) (by decide)
      have F_value_b57 : Fld Z h57 b57 "java/lang/String" "value" "[B" .null := D57 (Or.inr (hw _ (List.mem_of_getElem? (i := 33) rfl))) (ty := (.array .byte)) (by decide)
      refine own_st st57 ?_
      show own_Go p.tables e below _ (T57.setTop (mkF m 81 #[.val (.int x), .val (.int (x &&& (3 : Int32))), .val (.ref ca1), .val (.int (own_pos x))] [(.ref b57)]))
      refine own_st (fun _ k' => XS.dup X57.here hx rfl (hb hby d1_81) rfl rfl k') ?_
      show own_Go p.tables e below _ (T57.setTop (mkF m 82 #[.val (.int x), .val (.int (x &&& (3 : Int32))), .val (.ref ca1), .val (.int (own_pos x))] [(.ref b57), (.ref b57)]))
      refine own_st (fun _ k' => XS.aloadN X57.here hx rfl (hb hby d1_82) rfl rfl k') ?_
      show own_Go p.tables e below _ (T57.setTop (mkF m 83 #[.val (.int x), .val (.int (x &&& (3 : Int32))), .val (.ref ca1), .val (.int (own_pos x))] [(.ref ca1), (.ref b57), (.ref b57)]))
      have hws : ∀ d ∈ StrChars.Road.words, d.before a0 Z = true := fun d hd => hw d ((by decide +kernel : ∀ d ∈ StrChars.Road.words, d ∈ tables_1) d hd)
      have hmk62 : own_mk x = ([(45 : Int32), (45 : Int32), (106 : Int32), (115 : Int32), (111 : Int32), (110 : Int32)].set (own_np x) (own_cc x (5 : Int32)) : List Int32) := by rw [own_mk, if_neg hc41, if_pos hc50]; rfl
      have hp62 : ∀ c ∈ ([(45 : Int32), (45 : Int32), (106 : Int32), (115 : Int32), (111 : Int32), (110 : Int32)].set (own_np x) (own_cc x (5 : Int32)) : List Int32), ¬ c < 0 ∧ ¬ (255 : Int32) < c := by rw [← hmk62]; exact own_mk_in x
      have Vx62 : Arv Z h57 ca1 k1 .char (6 : Int32) (([(45 : Int32), (45 : Int32), (106 : Int32), (115 : Int32), (111 : Int32), (110 : Int32)].set (own_np x) (own_cc x (5 : Int32)) : List Int32).map Value.int) (.int (0 : Int32)) := by rw [List.map_set]; exact Vm52_x60
      obtain ⟨_, _, ⟨T62, L62, k62, n62⟩, -, X62, ⟨Lc62, hQ62, l62, y62, z62⟩, st62⟩ := X57.specialBack hx (y := (⟨"java/lang/String", "<init>", "([C)V"⟩ : MethodName)) rfl hown (mvT hZ (hw _ (List.mem_of_getElem? (i := 8) rfl))) (mvT hZ (hw _ (List.mem_of_getElem? (i := 9) rfl))) (mvT hZ (hw _ (List.mem_of_getElem? (i := 10) rfl))) (by decide) (StrChars.Road.backV (W := 1) hZ hws (kI := 4) (hw _ (List.mem_of_getElem? (i := 6) rfl)) (cs := ([(45 : Int32), (45 : Int32), (106 : Int32), (115 : Int32), (111 : Int32), (110 : Int32)].set (own_np x) (own_cc x (5 : Int32)) : List Int32)) (bs := ([(45 : Int32), (45 : Int32), (106 : Int32), (115 : Int32), (111 : Int32), (110 : Int32)].set (own_np x) (own_cc x (5 : Int32)) : List Int32).map (fun c => c.toInt8.toInt32)) (n := 6) g_b57 ZE57 A57 F_value_b57 F_coder_b57 Vx62 (O2.ext O__x59.2) P5 (by simp) rfl (by decide) (by decide) hp62 rfl (by decide) (by decide)) (g := (mkF m 83 #[.val (.int x), .val (.int (x &&& (3 : Int32))), .val (.ref ca1), .val (.int (own_pos x))] [(.ref ca1), (.ref b57), (.ref b57)])) rfl (by rw [hml]; rfl) (Steps.refl _) (a := b57) (argsL := [(.ref ca1)]) (rest := [(.ref b57)]) (lenOf pd___C_V rfl) rfl (by show 2 * 0 + _ ≤ _; exact Nat.le_of_eq rfl) (hb hby d1_83) (fun _ _ => ⟨rfl, e57, (by decide : 2 + 1 ≤ _), (by decide : 10 + 6 ≤ _)⟩)
      dsimp only [Pt.U, Pt.locs, Pt.cells, Pt.slots] at X62 l62 y62 z62 st62 hQ62
      subst l62 y62 z62
      obtain ⟨rfl, Nq62, Kc62, Es, Fc, t, kb, ut, vt, wt, Fv, Vt⟩ := hQ62
      have Hc63 := CHv.keep Kc62 (allS (own_safe (EL := consts_1) hZ.alike (hw _ (List.mem_of_getElem? (i := 6) rfl)) A57 F_value_b57) all0) Hc58
      have CR63 := CR58.trans (CHr.keep Kc62 (allS (own_safe (EL := consts_1) hZ.alike (hw _ (List.mem_of_getElem? (i := 6) rfl)) A57 F_value_b57) all0) Hc58)
      have hk63 := Nat.le_trans hk58 Kc62.1
      have N62 := Fr.app N52 Nq62
      have Kk62 : Keep h0 T62.heap [] := K61.trans Kc62 (allS (Or.inr sz_b57) all0)
      refine own_tr st62 ?_
      show own_Go p.tables e below _ (T62.setTop (mkF m 86 #[.val (.int x), .val (.int (x &&& (3 : Int32))), .val (.ref ca1), .val (.int (own_pos x))] [(.ref b57)]))
      have cr64 : CHr Z consts_1 s.vm s.heap T62.vm T62.heap := by rw [hh, show T62.heap = T62.heap from rfl]; exact CR63.trans (CHv.at X62 hZ hEL Hc63)
      exact own_retWA X62 hS0 (by exact hk63) hx Bd.returns rfl rfl (hb hby d1_86) Bd.notSynchronized ⟨b57, t, kb, rfl, N62, by exact Kk62, g_b57, sz_b57, Es, Fc, Fv, by rw [hmk62, List.length_set]; exact Vt⟩ cr64 (by decide) (by decide)
    ·  -- pc 54, not (x &&& (3 : Int32)) = (1 : Int32)
      refine own_st (fun _ k' => XS.icmpYes X36.here hx rfl (pc0 := 54) (pc' := 87) rfl (hb hby d1_54) rfl (feq hc50).2 (by decide) (by decide) k') ?_
      show own_Go p.tables e below _ (T36.setTop (mkF m 87 #[.val (.int x), .val (.int (x &&& (3 : Int32))), .val (.ref ca1), .unset] []))
      refine own_st (fun _ k' => XS.iloadN X36.here hx rfl (hb hby d1_87) rfl k') ?_
      show own_Go p.tables e below _ (T36.setTop (mkF m 88 #[.val (.int x), .val (.int (x &&& (3 : Int32))), .val (.ref ca1), .unset] [(.int (x &&& (3 : Int32)))]))
      refine own_st (fun _ k' => XS.iconst X36.here hx rfl (hb hby d1_88) k') ?_
      show own_Go p.tables e below _ (T36.setTop (mkF m 89 #[.val (.int x), .val (.int (x &&& (3 : Int32))), .val (.ref ca1), .unset] [(.int (2 : Int32)), (.int (x &&& (3 : Int32)))]))
      by_cases hc65 : (x &&& (3 : Int32)) = (2 : Int32)
      ·  -- pc 89, (x &&& (3 : Int32)) = (2 : Int32)
        refine own_st (fun _ k' => XS.icmpNo X36.here hx rfl (hb hby d1_89) rfl (teq hc65).2 k') ?_
        show own_Go p.tables e below _ (T36.setTop (mkF m 92 #[.val (.int x), .val (.int (x &&& (3 : Int32))), .val (.ref ca1), .unset] []))
        refine own_st (fun _ k' => XS.iloadN X36.here hx rfl (hb hby d1_92) rfl k') ?_
        show own_Go p.tables e below _ (T36.setTop (mkF m 93 #[.val (.int x), .val (.int (x &&& (3 : Int32))), .val (.ref ca1), .unset] [(.int x)]))
        refine own_st (fun _ k' => XS.iconst X36.here hx rfl (hb hby d1_93) k') ?_
        show own_Go p.tables e below _ (T36.setTop (mkF m 94 #[.val (.int x), .val (.int (x &&& (3 : Int32))), .val (.ref ca1), .unset] [(.int (2 : Int32)), (.int x)]))
        refine own_st (fun _ k' => XS.iushr X36.here hx rfl (hb hby d1_94) rfl k') ?_
        show own_Go p.tables e below _ (T36.setTop (mkF m 95 #[.val (.int x), .val (.int (x &&& (3 : Int32))), .val (.ref ca1), .unset] [(.int ((x.toUInt32 >>> ((2 : Int32) &&& 31).toUInt32).toInt32))]))
        refine own_st (fun _ k' => XS.iconst X36.here hx rfl (hb hby d1_95) k') ?_
        show own_Go p.tables e below _ (T36.setTop (mkF m 96 #[.val (.int x), .val (.int (x &&& (3 : Int32))), .val (.ref ca1), .unset] [(.int (1 : Int32)), (.int ((x.toUInt32 >>> ((2 : Int32) &&& 31).toUInt32).toInt32))]))
        refine own_st (fun _ k' => XS.iand X36.here hx rfl (hb hby d1_96) rfl k') ?_
        show own_Go p.tables e below _ (T36.setTop (mkF m 97 #[.val (.int x), .val (.int (x &&& (3 : Int32))), .val (.ref ca1), .unset] [(.int (((x.toUInt32 >>> ((2 : Int32) &&& 31).toUInt32).toInt32) &&& (1 : Int32)))]))
        show own_Go p.tables e below _ (T36.setTop (mkF m 97 #[.val (.int x), .val (.int (x &&& (3 : Int32))), .val (.ref ca1), .unset] [(.int (own_iu x (2 : Int32) &&& (1 : Int32)))]))
        by_cases hc66 : (own_iu x (2 : Int32) &&& (1 : Int32)) = (0 : Int32)
        ·  -- pc 97, (own_iu x (2 : Int32) &&& (1 : Int32)) = (0 : Int32)
          refine own_st (fun _ k' => XS.ifNo X36.here hx rfl (hb hby d1_97) rfl ((if0 _ _).trans (teq hc66).2) k') ?_
          show own_Go p.tables e below _ (T36.setTop (mkF m 100 #[.val (.int x), .val (.int (x &&& (3 : Int32))), .val (.ref ca1), .unset] []))
          obtain ⟨T67, h67, X67, e67, E67, A67, D67, -, st67⟩ := newO X36 hx hZ hown (hw _ (List.mem_of_getElem? (i := 5) rfl)) (hw _ (List.mem_of_getElem? (i := 6) rfl)) (hw _ (List.mem_of_getElem? (i := 7) rfl)) e36 (g := (mkF m 100 #[.val (.int x), .val (.int (x &&& (3 : Int32))), .val (.ref ca1), .unset] [])) rfl (hb hby d1_100) (by decide) (by decide)
          obtain ⟨b67, g67⟩ : ∃ z, z = h36.size := ⟨_, rfl⟩
          rw [← g67] at A67 D67 st67
          have g_b67 : n0 ≤ b67 := Nat.le_trans ZVW36 (Nat.le_of_eq g67.symm)
          have sz_b67 : h0.size ≤ b67 := Nat.le_trans K40.1 (Nat.le_of_eq g67.symm)
          have ne_ca1_b67 : ca1 ≠ b67 := Nat.ne_of_lt (Nat.lt_of_lt_of_le Vm36.lt (Nat.le_of_eq g67.symm))
          have Hc68 := CHv.ext E67 Hc37
          have CR68 := CR37.trans (CHr.ext E67 Hc37)
          have hk68 := Nat.le_trans hk37 E67.1
          have O__x69 := O__x38.ext E67
          have Vm36_x70 := Vm36.ext E67
          have K71 : Keep h0 h67 [] := K40.ext E67
          have ZE67 : n0 ≤ h67.size := Nat.le_trans ZVW36 E67.1
          have F_coder_b67 : Fld Z h67 b67 "java/lang/String" "coder" "B" (.int (0 : Int32)) := D67 (Or.inr (hw _ (List.mem_of_getElem? (i := 31) rfl))) (ty := .byte) (by decide)
          have F_value_b67 : Fld Z h67 b67 "java/lang/String" "value" "[B" .null := D67 (Or.inr (hw _ (List.mem_of_getElem? (i := 33) rfl))) (ty := (.array .byte)) (by decide)
          refine own_st st67 ?_
          show own_Go p.tables e below _ (T67.setTop (mkF m 103 #[.val (.int x), .val (.int (x &&& (3 : Int32))), .val (.ref ca1), .unset] [(.ref b67)]))
          refine own_st (fun _ k' => XS.dup X67.here hx rfl (hb hby d1_103) rfl rfl k') ?_
          show own_Go p.tables e below _ (T67.setTop (mkF m 104 #[.val (.int x), .val (.int (x &&& (3 : Int32))), .val (.ref ca1), .unset] [(.ref b67), (.ref b67)]))
          refine own_st (fun _ k' => XS.iconst X67.here hx rfl (hb hby d1_104) k') ?_
          show own_Go p.tables e below _ (T67.setTop (mkF m 105 #[.val (.int x), .val (.int (x &&& (3 : Int32))), .val (.ref ca1), .unset] [(.int (5 : Int32)), (.ref b67), (.ref b67)]))
          obtain ⟨T72, h72, k72, X72, e72, E72, A72, st72⟩ := newP X67 hx hZ (hw _ (List.mem_of_getElem? (i := 4) rfl)) e67 (g := (mkF m 105 #[.val (.int x), .val (.int (x &&& (3 : Int32))), .val (.ref ca1), .unset] [(.int (5 : Int32)), (.ref b67), (.ref b67)])) rfl (hb hby d1_105) rfl (by decide) (cap := 5) (by decide) (by decide) (by decide) (by decide)
          obtain ⟨ca72, g72⟩ : ∃ z, z = h67.size := ⟨_, rfl⟩
          rw [← g72] at A72 st72
          have g_ca72 : n0 ≤ ca72 := Nat.le_trans ZE67 (Nat.le_of_eq g72.symm)
          have sz_ca72 : h0.size ≤ ca72 := Nat.le_trans K71.1 (Nat.le_of_eq g72.symm)
          have ne_ca1_ca72 : ca1 ≠ ca72 := Nat.ne_of_lt (Nat.lt_of_lt_of_le Vm36_x70.lt (Nat.le_of_eq g72.symm))
          have ne_b67_ca72 : b67 ≠ ca72 := Nat.ne_of_lt (Nat.lt_of_lt_of_le A67.lt (Nat.le_of_eq g72.symm))
          have Hc73 := CHv.ext E72 Hc68
          have CR73 := CR68.trans (CHr.ext E72 Hc68)
          have hk73 := Nat.le_trans hk68 E72.1
          have O__x74 := O__x69.ext E72
          have Vm36_x75 := Vm36_x70.ext E72
          have A67_x76 := A67.ext E72
          have F_coder_b67_x77 := F_coder_b67.ext E72
          have F_value_b67_x78 := F_value_b67.ext E72
          have K79 : Keep h0 h72 [] := K71.ext E72
          have ZE72 : n0 ≤ h72.size := Nat.le_trans ZE67 E72.1
          have V_ca72 : Arv Z h72 ca72 k72 .char (5 : Int32) [(.int (0 : Int32)), (.int (0 : Int32)), (.int (0 : Int32)), (.int (0 : Int32)), (.int (0 : Int32))] (.int (0 : Int32)) := (Arv.new A72 (by decide)).pad (pad_rep [] (.int (0 : Int32)) 5)
          refine own_st st72 ?_
          show own_Go p.tables e below _ (T72.setTop (mkF m 107 #[.val (.int x), .val (.int (x &&& (3 : Int32))), .val (.ref ca1), .unset] [(.ref ca72), (.ref b67), (.ref b67)]))
          refine own_st (fun _ k' => XS.dup X72.here hx rfl (hb hby d1_107) rfl rfl k') ?_
          show own_Go p.tables e below _ (T72.setTop (mkF m 108 #[.val (.int x), .val (.int (x &&& (3 : Int32))), .val (.ref ca1), .unset] [(.ref ca72), (.ref ca72), (.ref b67), (.ref b67)]))
          refine own_st (fun _ k' => XS.iconst X72.here hx rfl (hb hby d1_108) k') ?_
          show own_Go p.tables e below _ (T72.setTop (mkF m 109 #[.val (.int x), .val (.int (x &&& (3 : Int32))), .val (.ref ca1), .unset] [(.int (0 : Int32)), (.ref ca72), (.ref ca72), (.ref b67), (.ref b67)]))
          refine own_st (fun _ k' => XS.bipush X72.here hx rfl (hb hby d1_109) k') ?_
          show own_Go p.tables e below _ (T72.setTop (mkF m 111 #[.val (.int x), .val (.int (x &&& (3 : Int32))), .val (.ref ca1), .unset] [(.int (45 : Int32)), (.int (0 : Int32)), (.ref ca72), (.ref ca72), (.ref b67), (.ref b67)]))
          obtain ⟨cl80, Ar80, qc80, Sz80, Nn80, Hs80, Gs80⟩ := id V_ca72
          obtain ⟨T81, h81, X81, e81, W81, st81⟩ := stC X72 hx hZ e72 Ar80 (j := (0 : Int32)) (inb_of Sz80 ⟨by decide, by decide⟩) (g := (mkF m 111 #[.val (.int x), .val (.int (x &&& (3 : Int32))), .val (.ref ca1), .unset] [(.int (45 : Int32)), (.int (0 : Int32)), (.ref ca72), (.ref ca72), (.ref b67), (.ref b67)])) rfl rfl (hb hby d1_111)
          have N81 := Fr.snoc X81 N36 g_ca72
          have Vn81 := Arv.set Ar80 qc80 Sz80 Nn80 Hs80 Gs80 (fits_nar_char _) W81 0 rfl (Nat.le_of_ble_eq_true rfl)
          have Hc82 := CHv.wr W81 (Safe.arr hZ.alike Ar80 (by decide)) Hc73
          have CR82 := CR73.trans (CHr.wr W81 (Safe.arr hZ.alike Ar80 (by decide)) Hc73)
          have hk82 := Nat.le_trans hk73 (Keep.of_wr W81).1
          have O__x83 := O__x74.wr W81 g_ca72
          have Vm36_x84 := Vm36_x75.other W81 ne_ca1_ca72
          have A67_x85 := A67_x76.wr W81
          have F_coder_b67_x86 := F_coder_b67_x77.other W81 (Or.inl ne_b67_ca72)
          have F_value_b67_x87 := F_value_b67_x78.other W81 (Or.inl ne_b67_ca72)
          have ZVW81 : n0 ≤ h81.size := Nat.le_trans ZE72 (Keep.of_wr W81).1
          have K89 : Keep h0 h81 [] := K79.wr W81 (Or.inr sz_ca72)
          have Vm81 : Arv Z h81 ca72 k72 .char (5 : Int32) [(.int (45 : Int32)), (.int (0 : Int32)), (.int (0 : Int32)), (.int (0 : Int32)), (.int (0 : Int32))] (.int (0 : Int32)) := Vn81
          refine own_st st81 ?_
          show own_Go p.tables e below _ (T81.setTop (mkF m 112 #[.val (.int x), .val (.int (x &&& (3 : Int32))), .val (.ref ca1), .unset] [(.ref ca72), (.ref b67), (.ref b67)]))
          refine own_st (fun _ k' => XS.dup X81.here hx rfl (hb hby d1_112) rfl rfl k') ?_
          show own_Go p.tables e below _ (T81.setTop (mkF m 113 #[.val (.int x), .val (.int (x &&& (3 : Int32))), .val (.ref ca1), .unset] [(.ref ca72), (.ref ca72), (.ref b67), (.ref b67)]))
          refine own_st (fun _ k' => XS.iconst X81.here hx rfl (hb hby d1_113) k') ?_
          show own_Go p.tables e below _ (T81.setTop (mkF m 114 #[.val (.int x), .val (.int (x &&& (3 : Int32))), .val (.ref ca1), .unset] [(.int (1 : Int32)), (.ref ca72), (.ref ca72), (.ref b67), (.ref b67)]))
          refine own_st (fun _ k' => XS.bipush X81.here hx rfl (hb hby d1_114) k') ?_
          show own_Go p.tables e below _ (T81.setTop (mkF m 116 #[.val (.int x), .val (.int (x &&& (3 : Int32))), .val (.ref ca1), .unset] [(.int (45 : Int32)), (.int (1 : Int32)), (.ref ca72), (.ref ca72), (.ref b67), (.ref b67)]))
          obtain ⟨cl90, Ar90, qc90, Sz90, Nn90, Hs90, Gs90⟩ := id Vm81
          obtain ⟨T91, h91, X91, e91, W91, st91⟩ := stC X81 hx hZ e81 Ar90 (j := (1 : Int32)) (inb_of Sz90 ⟨by decide, by decide⟩) (g := (mkF m 116 #[.val (.int x), .val (.int (x &&& (3 : Int32))), .val (.ref ca1), .unset] [(.int (45 : Int32)), (.int (1 : Int32)), (.ref ca72), (.ref ca72), (.ref b67), (.ref b67)])) rfl rfl (hb hby d1_116)
          have N91 := Fr.snoc X91 N81 g_ca72
          have Vn91 := Arv.set Ar90 qc90 Sz90 Nn90 Hs90 Gs90 (fits_nar_char _) W91 1 rfl (Nat.le_of_ble_eq_true rfl)
          have Hc92 := CHv.wr W91 (Safe.arr hZ.alike Ar90 (by decide)) Hc82
          have CR92 := CR82.trans (CHr.wr W91 (Safe.arr hZ.alike Ar90 (by decide)) Hc82)
          have hk92 := Nat.le_trans hk82 (Keep.of_wr W91).1
          have O__x93 := O__x83.wr W91 g_ca72
          have Vm36_x94 := Vm36_x84.other W91 ne_ca1_ca72
          have A67_x95 := A67_x85.wr W91
          have F_coder_b67_x96 := F_coder_b67_x86.other W91 (Or.inl ne_b67_ca72)
          have F_value_b67_x97 := F_value_b67_x87.other W91 (Or.inl ne_b67_ca72)
          have ZVW91 : n0 ≤ h91.size := Nat.le_trans ZVW81 (Keep.of_wr W91).1
          have K99 : Keep h0 h91 [] := K89.wr W91 (Or.inr sz_ca72)
          have Vm91 : Arv Z h91 ca72 k72 .char (5 : Int32) [(.int (45 : Int32)), (.int (45 : Int32)), (.int (0 : Int32)), (.int (0 : Int32)), (.int (0 : Int32))] (.int (0 : Int32)) := Vn91
          refine own_st st91 ?_
          show own_Go p.tables e below _ (T91.setTop (mkF m 117 #[.val (.int x), .val (.int (x &&& (3 : Int32))), .val (.ref ca1), .unset] [(.ref ca72), (.ref b67), (.ref b67)]))
          refine own_st (fun _ k' => XS.dup X91.here hx rfl (hb hby d1_117) rfl rfl k') ?_
          show own_Go p.tables e below _ (T91.setTop (mkF m 118 #[.val (.int x), .val (.int (x &&& (3 : Int32))), .val (.ref ca1), .unset] [(.ref ca72), (.ref ca72), (.ref b67), (.ref b67)]))
          refine own_st (fun _ k' => XS.iconst X91.here hx rfl (hb hby d1_118) k') ?_
          show own_Go p.tables e below _ (T91.setTop (mkF m 119 #[.val (.int x), .val (.int (x &&& (3 : Int32))), .val (.ref ca1), .unset] [(.int (2 : Int32)), (.ref ca72), (.ref ca72), (.ref b67), (.ref b67)]))
          refine own_st (fun _ k' => XS.bipush X91.here hx rfl (hb hby d1_119) k') ?_
          show own_Go p.tables e below _ (T91.setTop (mkF m 121 #[.val (.int x), .val (.int (x &&& (3 : Int32))), .val (.ref ca1), .unset] [(.int (106 : Int32)), (.int (2 : Int32)), (.ref ca72), (.ref ca72), (.ref b67), (.ref b67)]))
          obtain ⟨cl100, Ar100, qc100, Sz100, Nn100, Hs100, Gs100⟩ := id Vm91
          obtain ⟨T101, h101, X101, e101, W101, st101⟩ := stC X91 hx hZ e91 Ar100 (j := (2 : Int32)) (inb_of Sz100 ⟨by decide, by decide⟩) (g := (mkF m 121 #[.val (.int x), .val (.int (x &&& (3 : Int32))), .val (.ref ca1), .unset] [(.int (106 : Int32)), (.int (2 : Int32)), (.ref ca72), (.ref ca72), (.ref b67), (.ref b67)])) rfl rfl (hb hby d1_121)
          have N101 := Fr.snoc X101 N91 g_ca72
          have Vn101 := Arv.set Ar100 qc100 Sz100 Nn100 Hs100 Gs100 (fits_nar_char _) W101 2 rfl (Nat.le_of_ble_eq_true rfl)
          have Hc102 := CHv.wr W101 (Safe.arr hZ.alike Ar100 (by decide)) Hc92
          have CR102 := CR92.trans (CHr.wr W101 (Safe.arr hZ.alike Ar100 (by decide)) Hc92)
          have hk102 := Nat.le_trans hk92 (Keep.of_wr W101).1
          have O__x103 := O__x93.wr W101 g_ca72
          have Vm36_x104 := Vm36_x94.other W101 ne_ca1_ca72
          have A67_x105 := A67_x95.wr W101
          have F_coder_b67_x106 := F_coder_b67_x96.other W101 (Or.inl ne_b67_ca72)
          have F_value_b67_x107 := F_value_b67_x97.other W101 (Or.inl ne_b67_ca72)
          have ZVW101 : n0 ≤ h101.size := Nat.le_trans ZVW91 (Keep.of_wr W101).1
          have K109 : Keep h0 h101 [] := K99.wr W101 (Or.inr sz_ca72)
          have Vm101 : Arv Z h101 ca72 k72 .char (5 : Int32) [(.int (45 : Int32)), (.int (45 : Int32)), (.int (106 : Int32)), (.int (0 : Int32)), (.int (0 : Int32))] (.int (0 : Int32)) := Vn101
          refine own_st st101 ?_
          show own_Go p.tables e below _ (T101.setTop (mkF m 122 #[.val (.int x), .val (.int (x &&& (3 : Int32))), .val (.ref ca1), .unset] [(.ref ca72), (.ref b67), (.ref b67)]))
          refine own_st (fun _ k' => XS.dup X101.here hx rfl (hb hby d1_122) rfl rfl k') ?_
          show own_Go p.tables e below _ (T101.setTop (mkF m 123 #[.val (.int x), .val (.int (x &&& (3 : Int32))), .val (.ref ca1), .unset] [(.ref ca72), (.ref ca72), (.ref b67), (.ref b67)]))
          refine own_st (fun _ k' => XS.iconst X101.here hx rfl (hb hby d1_123) k') ?_
          show own_Go p.tables e below _ (T101.setTop (mkF m 124 #[.val (.int x), .val (.int (x &&& (3 : Int32))), .val (.ref ca1), .unset] [(.int (3 : Int32)), (.ref ca72), (.ref ca72), (.ref b67), (.ref b67)]))
          refine own_st (fun _ k' => XS.bipush X101.here hx rfl (hb hby d1_124) k') ?_
          show own_Go p.tables e below _ (T101.setTop (mkF m 126 #[.val (.int x), .val (.int (x &&& (3 : Int32))), .val (.ref ca1), .unset] [(.int (115 : Int32)), (.int (3 : Int32)), (.ref ca72), (.ref ca72), (.ref b67), (.ref b67)]))
          obtain ⟨cl110, Ar110, qc110, Sz110, Nn110, Hs110, Gs110⟩ := id Vm101
          obtain ⟨T111, h111, X111, e111, W111, st111⟩ := stC X101 hx hZ e101 Ar110 (j := (3 : Int32)) (inb_of Sz110 ⟨by decide, by decide⟩) (g := (mkF m 126 #[.val (.int x), .val (.int (x &&& (3 : Int32))), .val (.ref ca1), .unset] [(.int (115 : Int32)), (.int (3 : Int32)), (.ref ca72), (.ref ca72), (.ref b67), (.ref b67)])) rfl rfl (hb hby d1_126)
          have N111 := Fr.snoc X111 N101 g_ca72
          have Vn111 := Arv.set Ar110 qc110 Sz110 Nn110 Hs110 Gs110 (fits_nar_char _) W111 3 rfl (Nat.le_of_ble_eq_true rfl)
          have Hc112 := CHv.wr W111 (Safe.arr hZ.alike Ar110 (by decide)) Hc102
          have CR112 := CR102.trans (CHr.wr W111 (Safe.arr hZ.alike Ar110 (by decide)) Hc102)
          have hk112 := Nat.le_trans hk102 (Keep.of_wr W111).1
          have O__x113 := O__x103.wr W111 g_ca72
          have Vm36_x114 := Vm36_x104.other W111 ne_ca1_ca72
          have A67_x115 := A67_x105.wr W111
          have F_coder_b67_x116 := F_coder_b67_x106.other W111 (Or.inl ne_b67_ca72)
          have F_value_b67_x117 := F_value_b67_x107.other W111 (Or.inl ne_b67_ca72)
          have ZVW111 : n0 ≤ h111.size := Nat.le_trans ZVW101 (Keep.of_wr W111).1
          have K119 : Keep h0 h111 [] := K109.wr W111 (Or.inr sz_ca72)
          have Vm111 : Arv Z h111 ca72 k72 .char (5 : Int32) [(.int (45 : Int32)), (.int (45 : Int32)), (.int (106 : Int32)), (.int (115 : Int32)), (.int (0 : Int32))] (.int (0 : Int32)) := Vn111
          refine own_st st111 ?_
          show own_Go p.tables e below _ (T111.setTop (mkF m 127 #[.val (.int x), .val (.int (x &&& (3 : Int32))), .val (.ref ca1), .unset] [(.ref ca72), (.ref b67), (.ref b67)]))
          refine own_st (fun _ k' => XS.dup X111.here hx rfl (hb hby d1_127) rfl rfl k') ?_
          show own_Go p.tables e below _ (T111.setTop (mkF m 128 #[.val (.int x), .val (.int (x &&& (3 : Int32))), .val (.ref ca1), .unset] [(.ref ca72), (.ref ca72), (.ref b67), (.ref b67)]))
          refine own_st (fun _ k' => XS.iconst X111.here hx rfl (hb hby d1_128) k') ?_
          show own_Go p.tables e below _ (T111.setTop (mkF m 129 #[.val (.int x), .val (.int (x &&& (3 : Int32))), .val (.ref ca1), .unset] [(.int (4 : Int32)), (.ref ca72), (.ref ca72), (.ref b67), (.ref b67)]))
          refine own_st (fun _ k' => XS.bipush X111.here hx rfl (hb hby d1_129) k') ?_
          show own_Go p.tables e below _ (T111.setTop (mkF m 131 #[.val (.int x), .val (.int (x &&& (3 : Int32))), .val (.ref ca1), .unset] [(.int (111 : Int32)), (.int (4 : Int32)), (.ref ca72), (.ref ca72), (.ref b67), (.ref b67)]))
          obtain ⟨cl120, Ar120, qc120, Sz120, Nn120, Hs120, Gs120⟩ := id Vm111
          obtain ⟨T121, h121, X121, e121, W121, st121⟩ := stC X111 hx hZ e111 Ar120 (j := (4 : Int32)) (inb_of Sz120 ⟨by decide, by decide⟩) (g := (mkF m 131 #[.val (.int x), .val (.int (x &&& (3 : Int32))), .val (.ref ca1), .unset] [(.int (111 : Int32)), (.int (4 : Int32)), (.ref ca72), (.ref ca72), (.ref b67), (.ref b67)])) rfl rfl (hb hby d1_131)
          have N121 := Fr.snoc X121 N111 g_ca72
          have Vn121 := Arv.set Ar120 qc120 Sz120 Nn120 Hs120 Gs120 (fits_nar_char _) W121 4 rfl (Nat.le_of_ble_eq_true rfl)
          have Hc122 := CHv.wr W121 (Safe.arr hZ.alike Ar120 (by decide)) Hc112
          have CR122 := CR112.trans (CHr.wr W121 (Safe.arr hZ.alike Ar120 (by decide)) Hc112)
          have hk122 := Nat.le_trans hk112 (Keep.of_wr W121).1
          have O__x123 := O__x113.wr W121 g_ca72
          have Vm36_x124 := Vm36_x114.other W121 ne_ca1_ca72
          have A67_x125 := A67_x115.wr W121
          have F_coder_b67_x126 := F_coder_b67_x116.other W121 (Or.inl ne_b67_ca72)
          have F_value_b67_x127 := F_value_b67_x117.other W121 (Or.inl ne_b67_ca72)
          have ZVW121 : n0 ≤ h121.size := Nat.le_trans ZVW111 (Keep.of_wr W121).1
          have K129 : Keep h0 h121 [] := K119.wr W121 (Or.inr sz_ca72)
          have Vm121 : Arv Z h121 ca72 k72 .char (5 : Int32) [(.int (45 : Int32)), (.int (45 : Int32)), (.int (106 : Int32)), (.int (115 : Int32)), (.int (111 : Int32))] (.int (0 : Int32)) := Vn121
          refine own_st st121 ?_
          show own_Go p.tables e below _ (T121.setTop (mkF m 132 #[.val (.int x), .val (.int (x &&& (3 : Int32))), .val (.ref ca1), .unset] [(.ref ca72), (.ref b67), (.ref b67)]))
          have hws : ∀ d ∈ StrChars.Road.words, d.before a0 Z = true := fun d hd => hw d ((by decide +kernel : ∀ d ∈ StrChars.Road.words, d ∈ tables_1) d hd)
          have hmk130 : own_mk x = ([(45 : Int32), (45 : Int32), (106 : Int32), (115 : Int32), (111 : Int32)] : List Int32) := by simp [own_mk, own_J, hc41, hc50, hc65, hc66]
          have hp130 : ∀ c ∈ ([(45 : Int32), (45 : Int32), (106 : Int32), (115 : Int32), (111 : Int32)] : List Int32), ¬ c < 0 ∧ ¬ (255 : Int32) < c := by rw [← hmk130]; exact own_mk_in x
          obtain ⟨_, _, ⟨T130, L130, k130, n130⟩, -, X130, ⟨Lc130, hQ130, l130, y130, z130⟩, st130⟩ := X121.specialBack hx (y := (⟨"java/lang/String", "<init>", "([C)V"⟩ : MethodName)) rfl hown (mvT hZ (hw _ (List.mem_of_getElem? (i := 8) rfl))) (mvT hZ (hw _ (List.mem_of_getElem? (i := 9) rfl))) (mvT hZ (hw _ (List.mem_of_getElem? (i := 10) rfl))) (by decide) (StrChars.Road.backV (W := 1) hZ hws (kI := 4) (hw _ (List.mem_of_getElem? (i := 6) rfl)) (cs := ([(45 : Int32), (45 : Int32), (106 : Int32), (115 : Int32), (111 : Int32)] : List Int32)) (bs := ([(45 : Int32), (45 : Int32), (106 : Int32), (115 : Int32), (111 : Int32)] : List Int32).map (fun c => c.toInt8.toInt32)) (n := 5) g_b67 ZVW121 A67_x125 F_value_b67_x127 F_coder_b67_x126 Vm121 (O2.ext O__x123.2) P5 rfl rfl (by decide) (by decide) hp130 rfl (by decide) (by decide)) (g := (mkF m 132 #[.val (.int x), .val (.int (x &&& (3 : Int32))), .val (.ref ca1), .unset] [(.ref ca72), (.ref b67), (.ref b67)])) rfl (by rw [hml]; rfl) (Steps.refl _) (a := b67) (argsL := [(.ref ca72)]) (rest := [(.ref b67)]) (lenOf pd___C_V rfl) rfl (by show 2 * 0 + _ ≤ _; exact Nat.le_of_eq rfl) (hb hby d1_132) (fun _ _ => ⟨rfl, e121, (by decide : 3 + 1 ≤ _), (by decide : 15 + 5 ≤ _)⟩)
          dsimp only [Pt.U, Pt.locs, Pt.cells, Pt.slots] at X130 l130 y130 z130 st130 hQ130
          subst l130 y130 z130
          obtain ⟨rfl, Nq130, Kc130, Es, Fc, t, kb, ut, vt, wt, Fv, Vt⟩ := hQ130
          have Hc131 := CHv.keep Kc130 (allS (own_safe (EL := consts_1) hZ.alike (hw _ (List.mem_of_getElem? (i := 6) rfl)) A67_x125 F_value_b67_x127) all0) Hc122
          have CR131 := CR122.trans (CHr.keep Kc130 (allS (own_safe (EL := consts_1) hZ.alike (hw _ (List.mem_of_getElem? (i := 6) rfl)) A67_x125 F_value_b67_x127) all0) Hc122)
          have hk131 := Nat.le_trans hk122 Kc130.1
          have N130 := Fr.app N121 Nq130
          have Kk130 : Keep h0 T130.heap [] := K129.trans Kc130 (allS (Or.inr sz_b67) all0)
          refine own_tr st130 ?_
          show own_Go p.tables e below _ (T130.setTop (mkF m 135 #[.val (.int x), .val (.int (x &&& (3 : Int32))), .val (.ref ca1), .unset] [(.ref b67)]))
          have cr132 : CHr Z consts_1 s.vm s.heap T130.vm T130.heap := by rw [hh, show T130.heap = T130.heap from rfl]; exact CR131.trans (CHv.at X130 hZ hEL Hc131)
          exact own_retWA X130 hS0 (by exact hk131) hx Bd.returns rfl rfl (hb hby d1_135) Bd.notSynchronized ⟨b67, t, kb, rfl, N130, by exact Kk130, g_b67, sz_b67, Es, Fc, Fv, by rw [hmk130]; exact Vt⟩ cr132 (by decide) (by decide)
        ·  -- pc 97, not (own_iu x (2 : Int32) &&& (1 : Int32)) = (0 : Int32)
          refine own_st (fun _ k' => XS.ifYes X36.here hx rfl (pc0 := 97) (pc' := 136) rfl (hb hby d1_97) rfl ((if0 _ _).trans (feq hc66).2) (by decide) (by decide) k') ?_
          show own_Go p.tables e below _ (T36.setTop (mkF m 136 #[.val (.int x), .val (.int (x &&& (3 : Int32))), .val (.ref ca1), .unset] []))
          obtain ⟨T133, h133, X133, e133, E133, A133, D133, -, st133⟩ := newO X36 hx hZ hown (hw _ (List.mem_of_getElem? (i := 5) rfl)) (hw _ (List.mem_of_getElem? (i := 6) rfl)) (hw _ (List.mem_of_getElem? (i := 7) rfl)) e36 (g := (mkF m 136 #[.val (.int x), .val (.int (x &&& (3 : Int32))), .val (.ref ca1), .unset] [])) rfl (hb hby d1_136) (by decide) (by decide)
          obtain ⟨b133, g133⟩ : ∃ z, z = h36.size := ⟨_, rfl⟩
          rw [← g133] at A133 D133 st133
          have g_b133 : n0 ≤ b133 := Nat.le_trans ZVW36 (Nat.le_of_eq g133.symm)
          have sz_b133 : h0.size ≤ b133 := Nat.le_trans K40.1 (Nat.le_of_eq g133.symm)
          have ne_ca1_b133 : ca1 ≠ b133 := Nat.ne_of_lt (Nat.lt_of_lt_of_le Vm36.lt (Nat.le_of_eq g133.symm))
          have Hc134 := CHv.ext E133 Hc37
          have CR134 := CR37.trans (CHr.ext E133 Hc37)
          have hk134 := Nat.le_trans hk37 E133.1
          have O__x135 := O__x38.ext E133
          have Vm36_x136 := Vm36.ext E133
          have K137 : Keep h0 h133 [] := K40.ext E133
          have ZE133 : n0 ≤ h133.size := Nat.le_trans ZVW36 E133.1
          have F_coder_b133 : Fld Z h133 b133 "java/lang/String" "coder" "B" (.int (0 : Int32)) := D133 (Or.inr (hw _ (List.mem_of_getElem? (i := 31) rfl))) (ty := .byte) (by decide)
          have F_value_b133 : Fld Z h133 b133 "java/lang/String" "value" "[B" .null := D133 (Or.inr (hw _ (List.mem_of_getElem? (i := 33) rfl))) (ty := (.array .byte)) (by decide)
          refine own_st st133 ?_
          show own_Go p.tables e below _ (T133.setTop (mkF m 139 #[.val (.int x), .val (.int (x &&& (3 : Int32))), .val (.ref ca1), .unset] [(.ref b133)]))
          refine own_st (fun _ k' => XS.dup X133.here hx rfl (hb hby d1_139) rfl rfl k') ?_
          show own_Go p.tables e below _ (T133.setTop (mkF m 140 #[.val (.int x), .val (.int (x &&& (3 : Int32))), .val (.ref ca1), .unset] [(.ref b133), (.ref b133)]))
          refine own_st (fun _ k' => XS.bipush X133.here hx rfl (hb hby d1_140) k') ?_
          show own_Go p.tables e below _ (T133.setTop (mkF m 142 #[.val (.int x), .val (.int (x &&& (3 : Int32))), .val (.ref ca1), .unset] [(.int (7 : Int32)), (.ref b133), (.ref b133)]))
          obtain ⟨T138, h138, k138, X138, e138, E138, A138, st138⟩ := newP X133 hx hZ (hw _ (List.mem_of_getElem? (i := 4) rfl)) e133 (g := (mkF m 142 #[.val (.int x), .val (.int (x &&& (3 : Int32))), .val (.ref ca1), .unset] [(.int (7 : Int32)), (.ref b133), (.ref b133)])) rfl (hb hby d1_142) rfl (by decide) (cap := 7) (by decide) (by decide) (by decide) (by decide)
          obtain ⟨ca138, g138⟩ : ∃ z, z = h133.size := ⟨_, rfl⟩
          rw [← g138] at A138 st138
          have g_ca138 : n0 ≤ ca138 := Nat.le_trans ZE133 (Nat.le_of_eq g138.symm)
          have sz_ca138 : h0.size ≤ ca138 := Nat.le_trans K137.1 (Nat.le_of_eq g138.symm)
          have ne_ca1_ca138 : ca1 ≠ ca138 := Nat.ne_of_lt (Nat.lt_of_lt_of_le Vm36_x136.lt (Nat.le_of_eq g138.symm))
          have ne_b133_ca138 : b133 ≠ ca138 := Nat.ne_of_lt (Nat.lt_of_lt_of_le A133.lt (Nat.le_of_eq g138.symm))
          have Hc139 := CHv.ext E138 Hc134
          have CR139 := CR134.trans (CHr.ext E138 Hc134)
          have hk139 := Nat.le_trans hk134 E138.1
          have O__x140 := O__x135.ext E138
          have Vm36_x141 := Vm36_x136.ext E138
          have A133_x142 := A133.ext E138
          have F_coder_b133_x143 := F_coder_b133.ext E138
          have F_value_b133_x144 := F_value_b133.ext E138
          have K145 : Keep h0 h138 [] := K137.ext E138
          have ZE138 : n0 ≤ h138.size := Nat.le_trans ZE133 E138.1
          have V_ca138 : Arv Z h138 ca138 k138 .char (7 : Int32) [(.int (0 : Int32)), (.int (0 : Int32)), (.int (0 : Int32)), (.int (0 : Int32)), (.int (0 : Int32)), (.int (0 : Int32)), (.int (0 : Int32))] (.int (0 : Int32)) := (Arv.new A138 (by decide)).pad (pad_rep [] (.int (0 : Int32)) 7)
          refine own_st st138 ?_
          show own_Go p.tables e below _ (T138.setTop (mkF m 144 #[.val (.int x), .val (.int (x &&& (3 : Int32))), .val (.ref ca1), .unset] [(.ref ca138), (.ref b133), (.ref b133)]))
          refine own_st (fun _ k' => XS.dup X138.here hx rfl (hb hby d1_144) rfl rfl k') ?_
          show own_Go p.tables e below _ (T138.setTop (mkF m 145 #[.val (.int x), .val (.int (x &&& (3 : Int32))), .val (.ref ca1), .unset] [(.ref ca138), (.ref ca138), (.ref b133), (.ref b133)]))
          refine own_st (fun _ k' => XS.iconst X138.here hx rfl (hb hby d1_145) k') ?_
          show own_Go p.tables e below _ (T138.setTop (mkF m 146 #[.val (.int x), .val (.int (x &&& (3 : Int32))), .val (.ref ca1), .unset] [(.int (0 : Int32)), (.ref ca138), (.ref ca138), (.ref b133), (.ref b133)]))
          refine own_st (fun _ k' => XS.bipush X138.here hx rfl (hb hby d1_146) k') ?_
          show own_Go p.tables e below _ (T138.setTop (mkF m 148 #[.val (.int x), .val (.int (x &&& (3 : Int32))), .val (.ref ca1), .unset] [(.int (45 : Int32)), (.int (0 : Int32)), (.ref ca138), (.ref ca138), (.ref b133), (.ref b133)]))
          obtain ⟨cl146, Ar146, qc146, Sz146, Nn146, Hs146, Gs146⟩ := id V_ca138
          obtain ⟨T147, h147, X147, e147, W147, st147⟩ := stC X138 hx hZ e138 Ar146 (j := (0 : Int32)) (inb_of Sz146 ⟨by decide, by decide⟩) (g := (mkF m 148 #[.val (.int x), .val (.int (x &&& (3 : Int32))), .val (.ref ca1), .unset] [(.int (45 : Int32)), (.int (0 : Int32)), (.ref ca138), (.ref ca138), (.ref b133), (.ref b133)])) rfl rfl (hb hby d1_148)
          have N147 := Fr.snoc X147 N36 g_ca138
          have Vn147 := Arv.set Ar146 qc146 Sz146 Nn146 Hs146 Gs146 (fits_nar_char _) W147 0 rfl (Nat.le_of_ble_eq_true rfl)
          have Hc148 := CHv.wr W147 (Safe.arr hZ.alike Ar146 (by decide)) Hc139
          have CR148 := CR139.trans (CHr.wr W147 (Safe.arr hZ.alike Ar146 (by decide)) Hc139)
          have hk148 := Nat.le_trans hk139 (Keep.of_wr W147).1
          have O__x149 := O__x140.wr W147 g_ca138
          have Vm36_x150 := Vm36_x141.other W147 ne_ca1_ca138
          have A133_x151 := A133_x142.wr W147
          have F_coder_b133_x152 := F_coder_b133_x143.other W147 (Or.inl ne_b133_ca138)
          have F_value_b133_x153 := F_value_b133_x144.other W147 (Or.inl ne_b133_ca138)
          have ZVW147 : n0 ≤ h147.size := Nat.le_trans ZE138 (Keep.of_wr W147).1
          have K155 : Keep h0 h147 [] := K145.wr W147 (Or.inr sz_ca138)
          have Vm147 : Arv Z h147 ca138 k138 .char (7 : Int32) [(.int (45 : Int32)), (.int (0 : Int32)), (.int (0 : Int32)), (.int (0 : Int32)), (.int (0 : Int32)), (.int (0 : Int32)), (.int (0 : Int32))] (.int (0 : Int32)) := Vn147
          refine own_st st147 ?_
          show own_Go p.tables e below _ (T147.setTop (mkF m 149 #[.val (.int x), .val (.int (x &&& (3 : Int32))), .val (.ref ca1), .unset] [(.ref ca138), (.ref b133), (.ref b133)]))
          refine own_st (fun _ k' => XS.dup X147.here hx rfl (hb hby d1_149) rfl rfl k') ?_
          show own_Go p.tables e below _ (T147.setTop (mkF m 150 #[.val (.int x), .val (.int (x &&& (3 : Int32))), .val (.ref ca1), .unset] [(.ref ca138), (.ref ca138), (.ref b133), (.ref b133)]))
          refine own_st (fun _ k' => XS.iconst X147.here hx rfl (hb hby d1_150) k') ?_
          show own_Go p.tables e below _ (T147.setTop (mkF m 151 #[.val (.int x), .val (.int (x &&& (3 : Int32))), .val (.ref ca1), .unset] [(.int (1 : Int32)), (.ref ca138), (.ref ca138), (.ref b133), (.ref b133)]))
          refine own_st (fun _ k' => XS.bipush X147.here hx rfl (hb hby d1_151) k') ?_
          show own_Go p.tables e below _ (T147.setTop (mkF m 153 #[.val (.int x), .val (.int (x &&& (3 : Int32))), .val (.ref ca1), .unset] [(.int (45 : Int32)), (.int (1 : Int32)), (.ref ca138), (.ref ca138), (.ref b133), (.ref b133)]))
          obtain ⟨cl156, Ar156, qc156, Sz156, Nn156, Hs156, Gs156⟩ := id Vm147
          obtain ⟨T157, h157, X157, e157, W157, st157⟩ := stC X147 hx hZ e147 Ar156 (j := (1 : Int32)) (inb_of Sz156 ⟨by decide, by decide⟩) (g := (mkF m 153 #[.val (.int x), .val (.int (x &&& (3 : Int32))), .val (.ref ca1), .unset] [(.int (45 : Int32)), (.int (1 : Int32)), (.ref ca138), (.ref ca138), (.ref b133), (.ref b133)])) rfl rfl (hb hby d1_153)
          have N157 := Fr.snoc X157 N147 g_ca138
          have Vn157 := Arv.set Ar156 qc156 Sz156 Nn156 Hs156 Gs156 (fits_nar_char _) W157 1 rfl (Nat.le_of_ble_eq_true rfl)
          have Hc158 := CHv.wr W157 (Safe.arr hZ.alike Ar156 (by decide)) Hc148
          have CR158 := CR148.trans (CHr.wr W157 (Safe.arr hZ.alike Ar156 (by decide)) Hc148)
          have hk158 := Nat.le_trans hk148 (Keep.of_wr W157).1
          have O__x159 := O__x149.wr W157 g_ca138
          have Vm36_x160 := Vm36_x150.other W157 ne_ca1_ca138
          have A133_x161 := A133_x151.wr W157
          have F_coder_b133_x162 := F_coder_b133_x152.other W157 (Or.inl ne_b133_ca138)
          have F_value_b133_x163 := F_value_b133_x153.other W157 (Or.inl ne_b133_ca138)
          have ZVW157 : n0 ≤ h157.size := Nat.le_trans ZVW147 (Keep.of_wr W157).1
          have K165 : Keep h0 h157 [] := K155.wr W157 (Or.inr sz_ca138)
          have Vm157 : Arv Z h157 ca138 k138 .char (7 : Int32) [(.int (45 : Int32)), (.int (45 : Int32)), (.int (0 : Int32)), (.int (0 : Int32)), (.int (0 : Int32)), (.int (0 : Int32)), (.int (0 : Int32))] (.int (0 : Int32)) := Vn157
          refine own_st st157 ?_
          show own_Go p.tables e below _ (T157.setTop (mkF m 154 #[.val (.int x), .val (.int (x &&& (3 : Int32))), .val (.ref ca1), .unset] [(.ref ca138), (.ref b133), (.ref b133)]))
          refine own_st (fun _ k' => XS.dup X157.here hx rfl (hb hby d1_154) rfl rfl k') ?_
          show own_Go p.tables e below _ (T157.setTop (mkF m 155 #[.val (.int x), .val (.int (x &&& (3 : Int32))), .val (.ref ca1), .unset] [(.ref ca138), (.ref ca138), (.ref b133), (.ref b133)]))
          refine own_st (fun _ k' => XS.iconst X157.here hx rfl (hb hby d1_155) k') ?_
          show own_Go p.tables e below _ (T157.setTop (mkF m 156 #[.val (.int x), .val (.int (x &&& (3 : Int32))), .val (.ref ca1), .unset] [(.int (2 : Int32)), (.ref ca138), (.ref ca138), (.ref b133), (.ref b133)]))
          refine own_st (fun _ k' => XS.bipush X157.here hx rfl (hb hby d1_156) k') ?_
          show own_Go p.tables e below _ (T157.setTop (mkF m 158 #[.val (.int x), .val (.int (x &&& (3 : Int32))), .val (.ref ca1), .unset] [(.int (106 : Int32)), (.int (2 : Int32)), (.ref ca138), (.ref ca138), (.ref b133), (.ref b133)]))
          obtain ⟨cl166, Ar166, qc166, Sz166, Nn166, Hs166, Gs166⟩ := id Vm157
          obtain ⟨T167, h167, X167, e167, W167, st167⟩ := stC X157 hx hZ e157 Ar166 (j := (2 : Int32)) (inb_of Sz166 ⟨by decide, by decide⟩) (g := (mkF m 158 #[.val (.int x), .val (.int (x &&& (3 : Int32))), .val (.ref ca1), .unset] [(.int (106 : Int32)), (.int (2 : Int32)), (.ref ca138), (.ref ca138), (.ref b133), (.ref b133)])) rfl rfl (hb hby d1_158)
          have N167 := Fr.snoc X167 N157 g_ca138
          have Vn167 := Arv.set Ar166 qc166 Sz166 Nn166 Hs166 Gs166 (fits_nar_char _) W167 2 rfl (Nat.le_of_ble_eq_true rfl)
          have Hc168 := CHv.wr W167 (Safe.arr hZ.alike Ar166 (by decide)) Hc158
          have CR168 := CR158.trans (CHr.wr W167 (Safe.arr hZ.alike Ar166 (by decide)) Hc158)
          have hk168 := Nat.le_trans hk158 (Keep.of_wr W167).1
          have O__x169 := O__x159.wr W167 g_ca138
          have Vm36_x170 := Vm36_x160.other W167 ne_ca1_ca138
          have A133_x171 := A133_x161.wr W167
          have F_coder_b133_x172 := F_coder_b133_x162.other W167 (Or.inl ne_b133_ca138)
          have F_value_b133_x173 := F_value_b133_x163.other W167 (Or.inl ne_b133_ca138)
          have ZVW167 : n0 ≤ h167.size := Nat.le_trans ZVW157 (Keep.of_wr W167).1
          have K175 : Keep h0 h167 [] := K165.wr W167 (Or.inr sz_ca138)
          have Vm167 : Arv Z h167 ca138 k138 .char (7 : Int32) [(.int (45 : Int32)), (.int (45 : Int32)), (.int (106 : Int32)), (.int (0 : Int32)), (.int (0 : Int32)), (.int (0 : Int32)), (.int (0 : Int32))] (.int (0 : Int32)) := Vn167
          refine own_st st167 ?_
          show own_Go p.tables e below _ (T167.setTop (mkF m 159 #[.val (.int x), .val (.int (x &&& (3 : Int32))), .val (.ref ca1), .unset] [(.ref ca138), (.ref b133), (.ref b133)]))
          refine own_st (fun _ k' => XS.dup X167.here hx rfl (hb hby d1_159) rfl rfl k') ?_
          show own_Go p.tables e below _ (T167.setTop (mkF m 160 #[.val (.int x), .val (.int (x &&& (3 : Int32))), .val (.ref ca1), .unset] [(.ref ca138), (.ref ca138), (.ref b133), (.ref b133)]))
          refine own_st (fun _ k' => XS.iconst X167.here hx rfl (hb hby d1_160) k') ?_
          show own_Go p.tables e below _ (T167.setTop (mkF m 161 #[.val (.int x), .val (.int (x &&& (3 : Int32))), .val (.ref ca1), .unset] [(.int (3 : Int32)), (.ref ca138), (.ref ca138), (.ref b133), (.ref b133)]))
          refine own_st (fun _ k' => XS.bipush X167.here hx rfl (hb hby d1_161) k') ?_
          show own_Go p.tables e below _ (T167.setTop (mkF m 163 #[.val (.int x), .val (.int (x &&& (3 : Int32))), .val (.ref ca1), .unset] [(.int (115 : Int32)), (.int (3 : Int32)), (.ref ca138), (.ref ca138), (.ref b133), (.ref b133)]))
          obtain ⟨cl176, Ar176, qc176, Sz176, Nn176, Hs176, Gs176⟩ := id Vm167
          obtain ⟨T177, h177, X177, e177, W177, st177⟩ := stC X167 hx hZ e167 Ar176 (j := (3 : Int32)) (inb_of Sz176 ⟨by decide, by decide⟩) (g := (mkF m 163 #[.val (.int x), .val (.int (x &&& (3 : Int32))), .val (.ref ca1), .unset] [(.int (115 : Int32)), (.int (3 : Int32)), (.ref ca138), (.ref ca138), (.ref b133), (.ref b133)])) rfl rfl (hb hby d1_163)
          have N177 := Fr.snoc X177 N167 g_ca138
          have Vn177 := Arv.set Ar176 qc176 Sz176 Nn176 Hs176 Gs176 (fits_nar_char _) W177 3 rfl (Nat.le_of_ble_eq_true rfl)
          have Hc178 := CHv.wr W177 (Safe.arr hZ.alike Ar176 (by decide)) Hc168
          have CR178 := CR168.trans (CHr.wr W177 (Safe.arr hZ.alike Ar176 (by decide)) Hc168)
          have hk178 := Nat.le_trans hk168 (Keep.of_wr W177).1
          have O__x179 := O__x169.wr W177 g_ca138
          have Vm36_x180 := Vm36_x170.other W177 ne_ca1_ca138
          have A133_x181 := A133_x171.wr W177
          have F_coder_b133_x182 := F_coder_b133_x172.other W177 (Or.inl ne_b133_ca138)
          have F_value_b133_x183 := F_value_b133_x173.other W177 (Or.inl ne_b133_ca138)
          have ZVW177 : n0 ≤ h177.size := Nat.le_trans ZVW167 (Keep.of_wr W177).1
          have K185 : Keep h0 h177 [] := K175.wr W177 (Or.inr sz_ca138)
          have Vm177 : Arv Z h177 ca138 k138 .char (7 : Int32) [(.int (45 : Int32)), (.int (45 : Int32)), (.int (106 : Int32)), (.int (115 : Int32)), (.int (0 : Int32)), (.int (0 : Int32)), (.int (0 : Int32))] (.int (0 : Int32)) := Vn177
          refine own_st st177 ?_
          show own_Go p.tables e below _ (T177.setTop (mkF m 164 #[.val (.int x), .val (.int (x &&& (3 : Int32))), .val (.ref ca1), .unset] [(.ref ca138), (.ref b133), (.ref b133)]))
          refine own_st (fun _ k' => XS.dup X177.here hx rfl (hb hby d1_164) rfl rfl k') ?_
          show own_Go p.tables e below _ (T177.setTop (mkF m 165 #[.val (.int x), .val (.int (x &&& (3 : Int32))), .val (.ref ca1), .unset] [(.ref ca138), (.ref ca138), (.ref b133), (.ref b133)]))
          refine own_st (fun _ k' => XS.iconst X177.here hx rfl (hb hby d1_165) k') ?_
          show own_Go p.tables e below _ (T177.setTop (mkF m 166 #[.val (.int x), .val (.int (x &&& (3 : Int32))), .val (.ref ca1), .unset] [(.int (4 : Int32)), (.ref ca138), (.ref ca138), (.ref b133), (.ref b133)]))
          refine own_st (fun _ k' => XS.bipush X177.here hx rfl (hb hby d1_166) k') ?_
          show own_Go p.tables e below _ (T177.setTop (mkF m 168 #[.val (.int x), .val (.int (x &&& (3 : Int32))), .val (.ref ca1), .unset] [(.int (111 : Int32)), (.int (4 : Int32)), (.ref ca138), (.ref ca138), (.ref b133), (.ref b133)]))
          obtain ⟨cl186, Ar186, qc186, Sz186, Nn186, Hs186, Gs186⟩ := id Vm177
          obtain ⟨T187, h187, X187, e187, W187, st187⟩ := stC X177 hx hZ e177 Ar186 (j := (4 : Int32)) (inb_of Sz186 ⟨by decide, by decide⟩) (g := (mkF m 168 #[.val (.int x), .val (.int (x &&& (3 : Int32))), .val (.ref ca1), .unset] [(.int (111 : Int32)), (.int (4 : Int32)), (.ref ca138), (.ref ca138), (.ref b133), (.ref b133)])) rfl rfl (hb hby d1_168)
          have N187 := Fr.snoc X187 N177 g_ca138
          have Vn187 := Arv.set Ar186 qc186 Sz186 Nn186 Hs186 Gs186 (fits_nar_char _) W187 4 rfl (Nat.le_of_ble_eq_true rfl)
          have Hc188 := CHv.wr W187 (Safe.arr hZ.alike Ar186 (by decide)) Hc178
          have CR188 := CR178.trans (CHr.wr W187 (Safe.arr hZ.alike Ar186 (by decide)) Hc178)
          have hk188 := Nat.le_trans hk178 (Keep.of_wr W187).1
          have O__x189 := O__x179.wr W187 g_ca138
          have Vm36_x190 := Vm36_x180.other W187 ne_ca1_ca138
          have A133_x191 := A133_x181.wr W187
          have F_coder_b133_x192 := F_coder_b133_x182.other W187 (Or.inl ne_b133_ca138)
          have F_value_b133_x193 := F_value_b133_x183.other W187 (Or.inl ne_b133_ca138)
          have ZVW187 : n0 ≤ h187.size := Nat.le_trans ZVW177 (Keep.of_wr W187).1
          have K195 : Keep h0 h187 [] := K185.wr W187 (Or.inr sz_ca138)
          have Vm187 : Arv Z h187 ca138 k138 .char (7 : Int32) [(.int (45 : Int32)), (.int (45 : Int32)), (.int (106 : Int32)), (.int (115 : Int32)), (.int (111 : Int32)), (.int (0 : Int32)), (.int (0 : Int32))] (.int (0 : Int32)) := Vn187
          refine own_st st187 ?_
          show own_Go p.tables e below _ (T187.setTop (mkF m 169 #[.val (.int x), .val (.int (x &&& (3 : Int32))), .val (.ref ca1), .unset] [(.ref ca138), (.ref b133), (.ref b133)]))
          refine own_st (fun _ k' => XS.dup X187.here hx rfl (hb hby d1_169) rfl rfl k') ?_
          show own_Go p.tables e below _ (T187.setTop (mkF m 170 #[.val (.int x), .val (.int (x &&& (3 : Int32))), .val (.ref ca1), .unset] [(.ref ca138), (.ref ca138), (.ref b133), (.ref b133)]))
          refine own_st (fun _ k' => XS.iconst X187.here hx rfl (hb hby d1_170) k') ?_
          show own_Go p.tables e below _ (T187.setTop (mkF m 171 #[.val (.int x), .val (.int (x &&& (3 : Int32))), .val (.ref ca1), .unset] [(.int (5 : Int32)), (.ref ca138), (.ref ca138), (.ref b133), (.ref b133)]))
          refine own_st (fun _ k' => XS.bipush X187.here hx rfl (hb hby d1_171) k') ?_
          show own_Go p.tables e below _ (T187.setTop (mkF m 173 #[.val (.int x), .val (.int (x &&& (3 : Int32))), .val (.ref ca1), .unset] [(.int (110 : Int32)), (.int (5 : Int32)), (.ref ca138), (.ref ca138), (.ref b133), (.ref b133)]))
          obtain ⟨cl196, Ar196, qc196, Sz196, Nn196, Hs196, Gs196⟩ := id Vm187
          obtain ⟨T197, h197, X197, e197, W197, st197⟩ := stC X187 hx hZ e187 Ar196 (j := (5 : Int32)) (inb_of Sz196 ⟨by decide, by decide⟩) (g := (mkF m 173 #[.val (.int x), .val (.int (x &&& (3 : Int32))), .val (.ref ca1), .unset] [(.int (110 : Int32)), (.int (5 : Int32)), (.ref ca138), (.ref ca138), (.ref b133), (.ref b133)])) rfl rfl (hb hby d1_173)
          have N197 := Fr.snoc X197 N187 g_ca138
          have Vn197 := Arv.set Ar196 qc196 Sz196 Nn196 Hs196 Gs196 (fits_nar_char _) W197 5 rfl (Nat.le_of_ble_eq_true rfl)
          have Hc198 := CHv.wr W197 (Safe.arr hZ.alike Ar196 (by decide)) Hc188
          have CR198 := CR188.trans (CHr.wr W197 (Safe.arr hZ.alike Ar196 (by decide)) Hc188)
          have hk198 := Nat.le_trans hk188 (Keep.of_wr W197).1
          have O__x199 := O__x189.wr W197 g_ca138
          have Vm36_x200 := Vm36_x190.other W197 ne_ca1_ca138
          have A133_x201 := A133_x191.wr W197
          have F_coder_b133_x202 := F_coder_b133_x192.other W197 (Or.inl ne_b133_ca138)
          have F_value_b133_x203 := F_value_b133_x193.other W197 (Or.inl ne_b133_ca138)
          have ZVW197 : n0 ≤ h197.size := Nat.le_trans ZVW187 (Keep.of_wr W197).1
          have K205 : Keep h0 h197 [] := K195.wr W197 (Or.inr sz_ca138)
          have Vm197 : Arv Z h197 ca138 k138 .char (7 : Int32) [(.int (45 : Int32)), (.int (45 : Int32)), (.int (106 : Int32)), (.int (115 : Int32)), (.int (111 : Int32)), (.int (110 : Int32)), (.int (0 : Int32))] (.int (0 : Int32)) := Vn197
          refine own_st st197 ?_
          show own_Go p.tables e below _ (T197.setTop (mkF m 174 #[.val (.int x), .val (.int (x &&& (3 : Int32))), .val (.ref ca1), .unset] [(.ref ca138), (.ref b133), (.ref b133)]))
          refine own_st (fun _ k' => XS.dup X197.here hx rfl (hb hby d1_174) rfl rfl k') ?_
          show own_Go p.tables e below _ (T197.setTop (mkF m 175 #[.val (.int x), .val (.int (x &&& (3 : Int32))), .val (.ref ca1), .unset] [(.ref ca138), (.ref ca138), (.ref b133), (.ref b133)]))
          refine own_st (fun _ k' => XS.bipush X197.here hx rfl (hb hby d1_175) k') ?_
          show own_Go p.tables e below _ (T197.setTop (mkF m 177 #[.val (.int x), .val (.int (x &&& (3 : Int32))), .val (.ref ca1), .unset] [(.int (6 : Int32)), (.ref ca138), (.ref ca138), (.ref b133), (.ref b133)]))
          refine own_st (fun _ k' => XS.iloadN X197.here hx rfl (hb hby d1_177) rfl k') ?_
          show own_Go p.tables e below _ (T197.setTop (mkF m 178 #[.val (.int x), .val (.int (x &&& (3 : Int32))), .val (.ref ca1), .unset] [(.int x), (.int (6 : Int32)), (.ref ca138), (.ref ca138), (.ref b133), (.ref b133)]))
          refine own_st (fun _ k' => XS.iconst X197.here hx rfl (hb hby d1_178) k') ?_
          show own_Go p.tables e below _ (T197.setTop (mkF m 179 #[.val (.int x), .val (.int (x &&& (3 : Int32))), .val (.ref ca1), .unset] [(.int (3 : Int32)), (.int x), (.int (6 : Int32)), (.ref ca138), (.ref ca138), (.ref b133), (.ref b133)]))
          refine own_st (fun _ k' => XS.iushr X197.here hx rfl (hb hby d1_179) rfl k') ?_
          show own_Go p.tables e below _ (T197.setTop (mkF m 180 #[.val (.int x), .val (.int (x &&& (3 : Int32))), .val (.ref ca1), .unset] [(.int ((x.toUInt32 >>> ((3 : Int32) &&& 31).toUInt32).toInt32)), (.int (6 : Int32)), (.ref ca138), (.ref ca138), (.ref b133), (.ref b133)]))
          refine own_st (fun _ k' => XS.sipush X197.here hx rfl (hb hby d1_180) k') ?_
          show own_Go p.tables e below _ (T197.setTop (mkF m 183 #[.val (.int x), .val (.int (x &&& (3 : Int32))), .val (.ref ca1), .unset] [(.int (255 : Int32)), (.int ((x.toUInt32 >>> ((3 : Int32) &&& 31).toUInt32).toInt32)), (.int (6 : Int32)), (.ref ca138), (.ref ca138), (.ref b133), (.ref b133)]))
          refine own_st (fun _ k' => XS.iand X197.here hx rfl (hb hby d1_183) rfl k') ?_
          show own_Go p.tables e below _ (T197.setTop (mkF m 184 #[.val (.int x), .val (.int (x &&& (3 : Int32))), .val (.ref ca1), .unset] [(.int (((x.toUInt32 >>> ((3 : Int32) &&& 31).toUInt32).toInt32) &&& (255 : Int32))), (.int (6 : Int32)), (.ref ca138), (.ref ca138), (.ref b133), (.ref b133)]))
          show own_Go p.tables e below _ (T197.setTop (mkF m 184 #[.val (.int x), .val (.int (x &&& (3 : Int32))), .val (.ref ca1), .unset] [(.int (own_cc x (3 : Int32))), (.int (6 : Int32)), (.ref ca138), (.ref ca138), (.ref b133), (.ref b133)]))
          refine own_st (fun _ k' => XS.i2c X197.here hx rfl (hb hby d1_184) rfl k') ?_
          show own_Go p.tables e below _ (T197.setTop (mkF m 185 #[.val (.int x), .val (.int (x &&& (3 : Int32))), .val (.ref ca1), .unset] [(.int ((own_cc x (3 : Int32)).toUInt32.toUInt16.toUInt32.toInt32)), (.int (6 : Int32)), (.ref ca138), (.ref ca138), (.ref b133), (.ref b133)]))
          rw [own_ccc]
          show own_Go p.tables e below _ (T197.setTop (mkF m 185 #[.val (.int x), .val (.int (x &&& (3 : Int32))), .val (.ref ca1), .unset] [(.int (own_cc x (3 : Int32))), (.int (6 : Int32)), (.ref ca138), (.ref ca138), (.ref b133), (.ref b133)]))
          obtain ⟨cl206, Ar206, qc206, Sz206, Nn206, Hs206, Gs206⟩ := id Vm197
          obtain ⟨T207, h207, X207, e207, W207, st207⟩ := stC X197 hx hZ e197 Ar206 (j := (6 : Int32)) (inb_of Sz206 ⟨by decide, by decide⟩) (g := (mkF m 185 #[.val (.int x), .val (.int (x &&& (3 : Int32))), .val (.ref ca1), .unset] [(.int (own_cc x (3 : Int32))), (.int (6 : Int32)), (.ref ca138), (.ref ca138), (.ref b133), (.ref b133)])) rfl rfl (hb hby d1_185)
          have N207 := Fr.snoc X207 N197 g_ca138
          have Vn207 := Arv.set Ar206 qc206 Sz206 Nn206 Hs206 Gs206 (fits_nar_char _) W207 6 rfl (Nat.le_of_ble_eq_true rfl)
          rw [own_ncc] at Vn207
          have Hc208 := CHv.wr W207 (Safe.arr hZ.alike Ar206 (by decide)) Hc198
          have CR208 := CR198.trans (CHr.wr W207 (Safe.arr hZ.alike Ar206 (by decide)) Hc198)
          have hk208 := Nat.le_trans hk198 (Keep.of_wr W207).1
          have O__x209 := O__x199.wr W207 g_ca138
          have Vm36_x210 := Vm36_x200.other W207 ne_ca1_ca138
          have A133_x211 := A133_x201.wr W207
          have F_coder_b133_x212 := F_coder_b133_x202.other W207 (Or.inl ne_b133_ca138)
          have F_value_b133_x213 := F_value_b133_x203.other W207 (Or.inl ne_b133_ca138)
          have ZVW207 : n0 ≤ h207.size := Nat.le_trans ZVW197 (Keep.of_wr W207).1
          have K215 : Keep h0 h207 [] := K205.wr W207 (Or.inr sz_ca138)
          have Vm207 : Arv Z h207 ca138 k138 .char (7 : Int32) [(.int (45 : Int32)), (.int (45 : Int32)), (.int (106 : Int32)), (.int (115 : Int32)), (.int (111 : Int32)), (.int (110 : Int32)), (.int (own_cc x (3 : Int32)))] (.int (0 : Int32)) := Vn207
          refine own_st st207 ?_
          show own_Go p.tables e below _ (T207.setTop (mkF m 186 #[.val (.int x), .val (.int (x &&& (3 : Int32))), .val (.ref ca1), .unset] [(.ref ca138), (.ref b133), (.ref b133)]))
          have hws : ∀ d ∈ StrChars.Road.words, d.before a0 Z = true := fun d hd => hw d ((by decide +kernel : ∀ d ∈ StrChars.Road.words, d ∈ tables_1) d hd)
          have hmk216 : own_mk x = ([(45 : Int32), (45 : Int32), (106 : Int32), (115 : Int32), (111 : Int32), (110 : Int32), (own_cc x (3 : Int32))] : List Int32) := by simp [own_mk, own_J, hc41, hc50, hc65, hc66]
          have hp216 : ∀ c ∈ ([(45 : Int32), (45 : Int32), (106 : Int32), (115 : Int32), (111 : Int32), (110 : Int32), (own_cc x (3 : Int32))] : List Int32), ¬ c < 0 ∧ ¬ (255 : Int32) < c := by rw [← hmk216]; exact own_mk_in x
          obtain ⟨_, _, ⟨T216, L216, k216, n216⟩, -, X216, ⟨Lc216, hQ216, l216, y216, z216⟩, st216⟩ := X207.specialBack hx (y := (⟨"java/lang/String", "<init>", "([C)V"⟩ : MethodName)) rfl hown (mvT hZ (hw _ (List.mem_of_getElem? (i := 8) rfl))) (mvT hZ (hw _ (List.mem_of_getElem? (i := 9) rfl))) (mvT hZ (hw _ (List.mem_of_getElem? (i := 10) rfl))) (by decide) (StrChars.Road.backV (W := 1) hZ hws (kI := 4) (hw _ (List.mem_of_getElem? (i := 6) rfl)) (cs := ([(45 : Int32), (45 : Int32), (106 : Int32), (115 : Int32), (111 : Int32), (110 : Int32), (own_cc x (3 : Int32))] : List Int32)) (bs := ([(45 : Int32), (45 : Int32), (106 : Int32), (115 : Int32), (111 : Int32), (110 : Int32), (own_cc x (3 : Int32))] : List Int32).map (fun c => c.toInt8.toInt32)) (n := 7) g_b133 ZVW207 A133_x211 F_value_b133_x213 F_coder_b133_x212 Vm207 (O2.ext O__x209.2) P5 rfl rfl (by decide) (by decide) hp216 rfl (by decide) (by decide)) (g := (mkF m 186 #[.val (.int x), .val (.int (x &&& (3 : Int32))), .val (.ref ca1), .unset] [(.ref ca138), (.ref b133), (.ref b133)])) rfl (by rw [hml]; rfl) (Steps.refl _) (a := b133) (argsL := [(.ref ca138)]) (rest := [(.ref b133)]) (lenOf pd___C_V rfl) rfl (by show 2 * 0 + _ ≤ _; exact Nat.le_of_eq rfl) (hb hby d1_186) (fun _ _ => ⟨rfl, e207, (by decide : 3 + 1 ≤ _), (by decide : 17 + 7 ≤ _)⟩)
          dsimp only [Pt.U, Pt.locs, Pt.cells, Pt.slots] at X216 l216 y216 z216 st216 hQ216
          subst l216 y216 z216
          obtain ⟨rfl, Nq216, Kc216, Es, Fc, t, kb, ut, vt, wt, Fv, Vt⟩ := hQ216
          have Hc217 := CHv.keep Kc216 (allS (own_safe (EL := consts_1) hZ.alike (hw _ (List.mem_of_getElem? (i := 6) rfl)) A133_x211 F_value_b133_x213) all0) Hc208
          have CR217 := CR208.trans (CHr.keep Kc216 (allS (own_safe (EL := consts_1) hZ.alike (hw _ (List.mem_of_getElem? (i := 6) rfl)) A133_x211 F_value_b133_x213) all0) Hc208)
          have hk217 := Nat.le_trans hk208 Kc216.1
          have N216 := Fr.app N207 Nq216
          have Kk216 : Keep h0 T216.heap [] := K215.trans Kc216 (allS (Or.inr sz_b133) all0)
          refine own_tr st216 ?_
          show own_Go p.tables e below _ (T216.setTop (mkF m 189 #[.val (.int x), .val (.int (x &&& (3 : Int32))), .val (.ref ca1), .unset] [(.ref b133)]))
          have cr218 : CHr Z consts_1 s.vm s.heap T216.vm T216.heap := by rw [hh, show T216.heap = T216.heap from rfl]; exact CR217.trans (CHv.at X216 hZ hEL Hc217)
          exact own_retWA X216 hS0 (by exact hk217) hx Bd.returns rfl rfl (hb hby d1_189) Bd.notSynchronized ⟨b133, t, kb, rfl, N216, by exact Kk216, g_b133, sz_b133, Es, Fc, Fv, by rw [hmk216]; exact Vt⟩ cr218 (by decide) (by decide)
      ·  -- pc 89, not (x &&& (3 : Int32)) = (2 : Int32)
        refine own_st (fun _ k' => XS.icmpYes X36.here hx rfl (pc0 := 89) (pc' := 190) rfl (hb hby d1_89) rfl (feq hc65).2 (by decide) (by decide) k') ?_
        show own_Go p.tables e below _ (T36.setTop (mkF m 190 #[.val (.int x), .val (.int (x &&& (3 : Int32))), .val (.ref ca1), .unset] []))
        refine own_st (fun _ k' => XS.iloadN X36.here hx rfl (hb hby d1_190) rfl k') ?_
        show own_Go p.tables e below _ (T36.setTop (mkF m 191 #[.val (.int x), .val (.int (x &&& (3 : Int32))), .val (.ref ca1), .unset] [(.int x)]))
        refine own_st (fun _ k' => XS.bipush X36.here hx rfl (hb hby d1_191) k') ?_
        show own_Go p.tables e below _ (T36.setTop (mkF m 193 #[.val (.int x), .val (.int (x &&& (3 : Int32))), .val (.ref ca1), .unset] [(.int (18 : Int32)), (.int x)]))
        refine own_st (fun _ k' => XS.iushr X36.here hx rfl (hb hby d1_193) rfl k') ?_
        show own_Go p.tables e below _ (T36.setTop (mkF m 194 #[.val (.int x), .val (.int (x &&& (3 : Int32))), .val (.ref ca1), .unset] [(.int ((x.toUInt32 >>> ((18 : Int32) &&& 31).toUInt32).toInt32))]))
        refine own_st (fun _ k' => XS.iconst X36.here hx rfl (hb hby d1_194) k') ?_
        show own_Go p.tables e below _ (T36.setTop (mkF m 195 #[.val (.int x), .val (.int (x &&& (3 : Int32))), .val (.ref ca1), .unset] [(.int (1 : Int32)), (.int ((x.toUInt32 >>> ((18 : Int32) &&& 31).toUInt32).toInt32))]))
        refine own_st (fun _ k' => XS.iand X36.here hx rfl (hb hby d1_195) rfl k') ?_
        show own_Go p.tables e below _ (T36.setTop (mkF m 196 #[.val (.int x), .val (.int (x &&& (3 : Int32))), .val (.ref ca1), .unset] [(.int (((x.toUInt32 >>> ((18 : Int32) &&& 31).toUInt32).toInt32) &&& (1 : Int32)))]))
        show own_Go p.tables e below _ (T36.setTop (mkF m 196 #[.val (.int x), .val (.int (x &&& (3 : Int32))), .val (.ref ca1), .unset] [(.int (own_iu x (18 : Int32) &&& (1 : Int32)))]))
        by_cases hc219 : (own_iu x (18 : Int32) &&& (1 : Int32)) = (0 : Int32)
        ·  -- pc 196, (own_iu x (18 : Int32) &&& (1 : Int32)) = (0 : Int32)
          refine own_st (fun _ k' => XS.ifYes X36.here hx rfl (pc0 := 196) (pc' := 210) rfl (hb hby d1_196) rfl ((if0 _ _).trans (teq hc219).1) (by decide) (by decide) k') ?_
          show own_Go p.tables e below _ (T36.setTop (mkF m 210 #[.val (.int x), .val (.int (x &&& (3 : Int32))), .val (.ref ca1), .unset] []))
          obtain ⟨T220, h220, X220, e220, E220, A220, D220, -, st220⟩ := newO X36 hx hZ hown (hw _ (List.mem_of_getElem? (i := 5) rfl)) (hw _ (List.mem_of_getElem? (i := 6) rfl)) (hw _ (List.mem_of_getElem? (i := 7) rfl)) e36 (g := (mkF m 210 #[.val (.int x), .val (.int (x &&& (3 : Int32))), .val (.ref ca1), .unset] [])) rfl (hb hby d1_210) (by decide) (by decide)
          obtain ⟨b220, g220⟩ : ∃ z, z = h36.size := ⟨_, rfl⟩
          rw [← g220] at A220 D220 st220
          have g_b220 : n0 ≤ b220 := Nat.le_trans ZVW36 (Nat.le_of_eq g220.symm)
          have sz_b220 : h0.size ≤ b220 := Nat.le_trans K40.1 (Nat.le_of_eq g220.symm)
          have ne_ca1_b220 : ca1 ≠ b220 := Nat.ne_of_lt (Nat.lt_of_lt_of_le Vm36.lt (Nat.le_of_eq g220.symm))
          have Hc221 := CHv.ext E220 Hc37
          have CR221 := CR37.trans (CHr.ext E220 Hc37)
          have hk221 := Nat.le_trans hk37 E220.1
          have O__x222 := O__x38.ext E220
          have Vm36_x223 := Vm36.ext E220
          have K224 : Keep h0 h220 [] := K40.ext E220
          have ZE220 : n0 ≤ h220.size := Nat.le_trans ZVW36 E220.1
          have F_coder_b220 : Fld Z h220 b220 "java/lang/String" "coder" "B" (.int (0 : Int32)) := D220 (Or.inr (hw _ (List.mem_of_getElem? (i := 31) rfl))) (ty := .byte) (by decide)
          have F_value_b220 : Fld Z h220 b220 "java/lang/String" "value" "[B" .null := D220 (Or.inr (hw _ (List.mem_of_getElem? (i := 33) rfl))) (ty := (.array .byte)) (by decide)
          refine own_st st220 ?_
          show own_Go p.tables e below _ (T220.setTop (mkF m 213 #[.val (.int x), .val (.int (x &&& (3 : Int32))), .val (.ref ca1), .unset] [(.ref b220)]))
          refine own_st (fun _ k' => XS.dup X220.here hx rfl (hb hby d1_213) rfl rfl k') ?_
          show own_Go p.tables e below _ (T220.setTop (mkF m 214 #[.val (.int x), .val (.int (x &&& (3 : Int32))), .val (.ref ca1), .unset] [(.ref b220), (.ref b220)]))
          refine own_st (fun _ k' => XS.iconst X220.here hx rfl (hb hby d1_214) k') ?_
          show own_Go p.tables e below _ (T220.setTop (mkF m 215 #[.val (.int x), .val (.int (x &&& (3 : Int32))), .val (.ref ca1), .unset] [(.int (2 : Int32)), (.ref b220), (.ref b220)]))
          obtain ⟨T225, h225, k225, X225, e225, E225, A225, st225⟩ := newP X220 hx hZ (hw _ (List.mem_of_getElem? (i := 4) rfl)) e220 (g := (mkF m 215 #[.val (.int x), .val (.int (x &&& (3 : Int32))), .val (.ref ca1), .unset] [(.int (2 : Int32)), (.ref b220), (.ref b220)])) rfl (hb hby d1_215) rfl (by decide) (cap := 2) (by decide) (by decide) (by decide) (by decide)
          obtain ⟨ca225, g225⟩ : ∃ z, z = h220.size := ⟨_, rfl⟩
          rw [← g225] at A225 st225
          have g_ca225 : n0 ≤ ca225 := Nat.le_trans ZE220 (Nat.le_of_eq g225.symm)
          have sz_ca225 : h0.size ≤ ca225 := Nat.le_trans K224.1 (Nat.le_of_eq g225.symm)
          have ne_ca1_ca225 : ca1 ≠ ca225 := Nat.ne_of_lt (Nat.lt_of_lt_of_le Vm36_x223.lt (Nat.le_of_eq g225.symm))
          have ne_b220_ca225 : b220 ≠ ca225 := Nat.ne_of_lt (Nat.lt_of_lt_of_le A220.lt (Nat.le_of_eq g225.symm))
          have Hc226 := CHv.ext E225 Hc221
          have CR226 := CR221.trans (CHr.ext E225 Hc221)
          have hk226 := Nat.le_trans hk221 E225.1
          have O__x227 := O__x222.ext E225
          have Vm36_x228 := Vm36_x223.ext E225
          have A220_x229 := A220.ext E225
          have F_coder_b220_x230 := F_coder_b220.ext E225
          have F_value_b220_x231 := F_value_b220.ext E225
          have K232 : Keep h0 h225 [] := K224.ext E225
          have ZE225 : n0 ≤ h225.size := Nat.le_trans ZE220 E225.1
          have V_ca225 : Arv Z h225 ca225 k225 .char (2 : Int32) [(.int (0 : Int32)), (.int (0 : Int32))] (.int (0 : Int32)) := (Arv.new A225 (by decide)).pad (pad_rep [] (.int (0 : Int32)) 2)
          refine own_st st225 ?_
          show own_Go p.tables e below _ (T225.setTop (mkF m 217 #[.val (.int x), .val (.int (x &&& (3 : Int32))), .val (.ref ca1), .unset] [(.ref ca225), (.ref b220), (.ref b220)]))
          refine own_st (fun _ k' => XS.dup X225.here hx rfl (hb hby d1_217) rfl rfl k') ?_
          show own_Go p.tables e below _ (T225.setTop (mkF m 218 #[.val (.int x), .val (.int (x &&& (3 : Int32))), .val (.ref ca1), .unset] [(.ref ca225), (.ref ca225), (.ref b220), (.ref b220)]))
          refine own_st (fun _ k' => XS.iconst X225.here hx rfl (hb hby d1_218) k') ?_
          show own_Go p.tables e below _ (T225.setTop (mkF m 219 #[.val (.int x), .val (.int (x &&& (3 : Int32))), .val (.ref ca1), .unset] [(.int (0 : Int32)), (.ref ca225), (.ref ca225), (.ref b220), (.ref b220)]))
          refine own_st (fun _ k' => XS.iloadN X225.here hx rfl (hb hby d1_219) rfl k') ?_
          show own_Go p.tables e below _ (T225.setTop (mkF m 220 #[.val (.int x), .val (.int (x &&& (3 : Int32))), .val (.ref ca1), .unset] [(.int x), (.int (0 : Int32)), (.ref ca225), (.ref ca225), (.ref b220), (.ref b220)]))
          refine own_st (fun _ k' => XS.iconst X225.here hx rfl (hb hby d1_220) k') ?_
          show own_Go p.tables e below _ (T225.setTop (mkF m 221 #[.val (.int x), .val (.int (x &&& (3 : Int32))), .val (.ref ca1), .unset] [(.int (2 : Int32)), (.int x), (.int (0 : Int32)), (.ref ca225), (.ref ca225), (.ref b220), (.ref b220)]))
          refine own_st (fun _ k' => XS.iushr X225.here hx rfl (hb hby d1_221) rfl k') ?_
          show own_Go p.tables e below _ (T225.setTop (mkF m 222 #[.val (.int x), .val (.int (x &&& (3 : Int32))), .val (.ref ca1), .unset] [(.int ((x.toUInt32 >>> ((2 : Int32) &&& 31).toUInt32).toInt32)), (.int (0 : Int32)), (.ref ca225), (.ref ca225), (.ref b220), (.ref b220)]))
          refine own_st (fun _ k' => XS.sipush X225.here hx rfl (hb hby d1_222) k') ?_
          show own_Go p.tables e below _ (T225.setTop (mkF m 225 #[.val (.int x), .val (.int (x &&& (3 : Int32))), .val (.ref ca1), .unset] [(.int (255 : Int32)), (.int ((x.toUInt32 >>> ((2 : Int32) &&& 31).toUInt32).toInt32)), (.int (0 : Int32)), (.ref ca225), (.ref ca225), (.ref b220), (.ref b220)]))
          refine own_st (fun _ k' => XS.iand X225.here hx rfl (hb hby d1_225) rfl k') ?_
          show own_Go p.tables e below _ (T225.setTop (mkF m 226 #[.val (.int x), .val (.int (x &&& (3 : Int32))), .val (.ref ca1), .unset] [(.int (((x.toUInt32 >>> ((2 : Int32) &&& 31).toUInt32).toInt32) &&& (255 : Int32))), (.int (0 : Int32)), (.ref ca225), (.ref ca225), (.ref b220), (.ref b220)]))
          show own_Go p.tables e below _ (T225.setTop (mkF m 226 #[.val (.int x), .val (.int (x &&& (3 : Int32))), .val (.ref ca1), .unset] [(.int (own_cc x (2 : Int32))), (.int (0 : Int32)), (.ref ca225), (.ref ca225), (.ref b220), (.ref b220)]))
          refine own_st (fun _ k' => XS.i2c X225.here hx rfl (hb hby d1_226) rfl k') ?_
          show own_Go p.tables e below _ (T225.setTop (mkF m 227 #[.val (.int x), .val (.int (x &&& (3 : Int32))), .val (.ref ca1), .unset] [(.int ((own_cc x (2 : Int32)).toUInt32.toUInt16.toUInt32.toInt32)), (.int (0 : Int32)), (.ref ca225), (.ref ca225), (.ref b220), (.ref b220)]))
          rw [own_ccc]
          show own_Go p.tables e below _ (T225.setTop (mkF m 227 #[.val (.int x), .val (.int (x &&& (3 : Int32))), .val (.ref ca1), .unset] [(.int (own_cc x (2 : Int32))), (.int (0 : Int32)), (.ref ca225), (.ref ca225), (.ref b220), (.ref b220)]))
          obtain ⟨cl233, Ar233, qc233, Sz233, Nn233, Hs233, Gs233⟩ := id V_ca225
          obtain ⟨T234, h234, X234, e234, W234, st234⟩ := stC X225 hx hZ e225 Ar233 (j := (0 : Int32)) (inb_of Sz233 ⟨by decide, by decide⟩) (g := (mkF m 227 #[.val (.int x), .val (.int (x &&& (3 : Int32))), .val (.ref ca1), .unset] [(.int (own_cc x (2 : Int32))), (.int (0 : Int32)), (.ref ca225), (.ref ca225), (.ref b220), (.ref b220)])) rfl rfl (hb hby d1_227)
          have N234 := Fr.snoc X234 N36 g_ca225
          have Vn234 := Arv.set Ar233 qc233 Sz233 Nn233 Hs233 Gs233 (fits_nar_char _) W234 0 rfl (Nat.le_of_ble_eq_true rfl)
          rw [own_ncc] at Vn234
          have Hc235 := CHv.wr W234 (Safe.arr hZ.alike Ar233 (by decide)) Hc226
          have CR235 := CR226.trans (CHr.wr W234 (Safe.arr hZ.alike Ar233 (by decide)) Hc226)
          have hk235 := Nat.le_trans hk226 (Keep.of_wr W234).1
          have O__x236 := O__x227.wr W234 g_ca225
          have Vm36_x237 := Vm36_x228.other W234 ne_ca1_ca225
          have A220_x238 := A220_x229.wr W234
          have F_coder_b220_x239 := F_coder_b220_x230.other W234 (Or.inl ne_b220_ca225)
          have F_value_b220_x240 := F_value_b220_x231.other W234 (Or.inl ne_b220_ca225)
          have ZVW234 : n0 ≤ h234.size := Nat.le_trans ZE225 (Keep.of_wr W234).1
          have K242 : Keep h0 h234 [] := K232.wr W234 (Or.inr sz_ca225)
          have Vm234 : Arv Z h234 ca225 k225 .char (2 : Int32) [(.int (own_cc x (2 : Int32))), (.int (0 : Int32))] (.int (0 : Int32)) := Vn234
          refine own_st st234 ?_
          show own_Go p.tables e below _ (T234.setTop (mkF m 228 #[.val (.int x), .val (.int (x &&& (3 : Int32))), .val (.ref ca1), .unset] [(.ref ca225), (.ref b220), (.ref b220)]))
          refine own_st (fun _ k' => XS.dup X234.here hx rfl (hb hby d1_228) rfl rfl k') ?_
          show own_Go p.tables e below _ (T234.setTop (mkF m 229 #[.val (.int x), .val (.int (x &&& (3 : Int32))), .val (.ref ca1), .unset] [(.ref ca225), (.ref ca225), (.ref b220), (.ref b220)]))
          refine own_st (fun _ k' => XS.iconst X234.here hx rfl (hb hby d1_229) k') ?_
          show own_Go p.tables e below _ (T234.setTop (mkF m 230 #[.val (.int x), .val (.int (x &&& (3 : Int32))), .val (.ref ca1), .unset] [(.int (1 : Int32)), (.ref ca225), (.ref ca225), (.ref b220), (.ref b220)]))
          refine own_st (fun _ k' => XS.iloadN X234.here hx rfl (hb hby d1_230) rfl k') ?_
          show own_Go p.tables e below _ (T234.setTop (mkF m 231 #[.val (.int x), .val (.int (x &&& (3 : Int32))), .val (.ref ca1), .unset] [(.int x), (.int (1 : Int32)), (.ref ca225), (.ref ca225), (.ref b220), (.ref b220)]))
          refine own_st (fun _ k' => XS.bipush X234.here hx rfl (hb hby d1_231) k') ?_
          show own_Go p.tables e below _ (T234.setTop (mkF m 233 #[.val (.int x), .val (.int (x &&& (3 : Int32))), .val (.ref ca1), .unset] [(.int (10 : Int32)), (.int x), (.int (1 : Int32)), (.ref ca225), (.ref ca225), (.ref b220), (.ref b220)]))
          refine own_st (fun _ k' => XS.iushr X234.here hx rfl (hb hby d1_233) rfl k') ?_
          show own_Go p.tables e below _ (T234.setTop (mkF m 234 #[.val (.int x), .val (.int (x &&& (3 : Int32))), .val (.ref ca1), .unset] [(.int ((x.toUInt32 >>> ((10 : Int32) &&& 31).toUInt32).toInt32)), (.int (1 : Int32)), (.ref ca225), (.ref ca225), (.ref b220), (.ref b220)]))
          refine own_st (fun _ k' => XS.sipush X234.here hx rfl (hb hby d1_234) k') ?_
          show own_Go p.tables e below _ (T234.setTop (mkF m 237 #[.val (.int x), .val (.int (x &&& (3 : Int32))), .val (.ref ca1), .unset] [(.int (255 : Int32)), (.int ((x.toUInt32 >>> ((10 : Int32) &&& 31).toUInt32).toInt32)), (.int (1 : Int32)), (.ref ca225), (.ref ca225), (.ref b220), (.ref b220)]))
          refine own_st (fun _ k' => XS.iand X234.here hx rfl (hb hby d1_237) rfl k') ?_
          show own_Go p.tables e below _ (T234.setTop (mkF m 238 #[.val (.int x), .val (.int (x &&& (3 : Int32))), .val (.ref ca1), .unset] [(.int (((x.toUInt32 >>> ((10 : Int32) &&& 31).toUInt32).toInt32) &&& (255 : Int32))), (.int (1 : Int32)), (.ref ca225), (.ref ca225), (.ref b220), (.ref b220)]))
          show own_Go p.tables e below _ (T234.setTop (mkF m 238 #[.val (.int x), .val (.int (x &&& (3 : Int32))), .val (.ref ca1), .unset] [(.int (own_cc x (10 : Int32))), (.int (1 : Int32)), (.ref ca225), (.ref ca225), (.ref b220), (.ref b220)]))
          refine own_st (fun _ k' => XS.i2c X234.here hx rfl (hb hby d1_238) rfl k') ?_
          show own_Go p.tables e below _ (T234.setTop (mkF m 239 #[.val (.int x), .val (.int (x &&& (3 : Int32))), .val (.ref ca1), .unset] [(.int ((own_cc x (10 : Int32)).toUInt32.toUInt16.toUInt32.toInt32)), (.int (1 : Int32)), (.ref ca225), (.ref ca225), (.ref b220), (.ref b220)]))
          rw [own_ccc]
          show own_Go p.tables e below _ (T234.setTop (mkF m 239 #[.val (.int x), .val (.int (x &&& (3 : Int32))), .val (.ref ca1), .unset] [(.int (own_cc x (10 : Int32))), (.int (1 : Int32)), (.ref ca225), (.ref ca225), (.ref b220), (.ref b220)]))
          obtain ⟨cl243, Ar243, qc243, Sz243, Nn243, Hs243, Gs243⟩ := id Vm234
          obtain ⟨T244, h244, X244, e244, W244, st244⟩ := stC X234 hx hZ e234 Ar243 (j := (1 : Int32)) (inb_of Sz243 ⟨by decide, by decide⟩) (g := (mkF m 239 #[.val (.int x), .val (.int (x &&& (3 : Int32))), .val (.ref ca1), .unset] [(.int (own_cc x (10 : Int32))), (.int (1 : Int32)), (.ref ca225), (.ref ca225), (.ref b220), (.ref b220)])) rfl rfl (hb hby d1_239)
          have N244 := Fr.snoc X244 N234 g_ca225
          have Vn244 := Arv.set Ar243 qc243 Sz243 Nn243 Hs243 Gs243 (fits_nar_char _) W244 1 rfl (Nat.le_of_ble_eq_true rfl)
          rw [own_ncc] at Vn244
          have Hc245 := CHv.wr W244 (Safe.arr hZ.alike Ar243 (by decide)) Hc235
          have CR245 := CR235.trans (CHr.wr W244 (Safe.arr hZ.alike Ar243 (by decide)) Hc235)
          have hk245 := Nat.le_trans hk235 (Keep.of_wr W244).1
          have O__x246 := O__x236.wr W244 g_ca225
          have Vm36_x247 := Vm36_x237.other W244 ne_ca1_ca225
          have A220_x248 := A220_x238.wr W244
          have F_coder_b220_x249 := F_coder_b220_x239.other W244 (Or.inl ne_b220_ca225)
          have F_value_b220_x250 := F_value_b220_x240.other W244 (Or.inl ne_b220_ca225)
          have ZVW244 : n0 ≤ h244.size := Nat.le_trans ZVW234 (Keep.of_wr W244).1
          have K252 : Keep h0 h244 [] := K242.wr W244 (Or.inr sz_ca225)
          have Vm244 : Arv Z h244 ca225 k225 .char (2 : Int32) [(.int (own_cc x (2 : Int32))), (.int (own_cc x (10 : Int32)))] (.int (0 : Int32)) := Vn244
          refine own_st st244 ?_
          show own_Go p.tables e below _ (T244.setTop (mkF m 240 #[.val (.int x), .val (.int (x &&& (3 : Int32))), .val (.ref ca1), .unset] [(.ref ca225), (.ref b220), (.ref b220)]))
          have hws : ∀ d ∈ StrChars.Road.words, d.before a0 Z = true := fun d hd => hw d ((by decide +kernel : ∀ d ∈ StrChars.Road.words, d ∈ tables_1) d hd)
          have hmk253 : own_mk x = ([(own_cc x (2 : Int32)), (own_cc x (10 : Int32))] : List Int32) := by simp [own_mk, own_J, hc41, hc50, hc65, hc219]
          have hp253 : ∀ c ∈ ([(own_cc x (2 : Int32)), (own_cc x (10 : Int32))] : List Int32), ¬ c < 0 ∧ ¬ (255 : Int32) < c := by rw [← hmk253]; exact own_mk_in x
          obtain ⟨_, _, ⟨T253, L253, k253, n253⟩, -, X253, ⟨Lc253, hQ253, l253, y253, z253⟩, st253⟩ := X244.specialBack hx (y := (⟨"java/lang/String", "<init>", "([C)V"⟩ : MethodName)) rfl hown (mvT hZ (hw _ (List.mem_of_getElem? (i := 8) rfl))) (mvT hZ (hw _ (List.mem_of_getElem? (i := 9) rfl))) (mvT hZ (hw _ (List.mem_of_getElem? (i := 10) rfl))) (by decide) (StrChars.Road.backV (W := 1) hZ hws (kI := 4) (hw _ (List.mem_of_getElem? (i := 6) rfl)) (cs := ([(own_cc x (2 : Int32)), (own_cc x (10 : Int32))] : List Int32)) (bs := ([(own_cc x (2 : Int32)), (own_cc x (10 : Int32))] : List Int32).map (fun c => c.toInt8.toInt32)) (n := 2) g_b220 ZVW244 A220_x248 F_value_b220_x250 F_coder_b220_x249 Vm244 (O2.ext O__x246.2) P5 rfl rfl (by decide) (by decide) hp253 rfl (by decide) (by decide)) (g := (mkF m 240 #[.val (.int x), .val (.int (x &&& (3 : Int32))), .val (.ref ca1), .unset] [(.ref ca225), (.ref b220), (.ref b220)])) rfl (by rw [hml]; rfl) (Steps.refl _) (a := b220) (argsL := [(.ref ca225)]) (rest := [(.ref b220)]) (lenOf pd___C_V rfl) rfl (by show 2 * 0 + _ ≤ _; exact Nat.le_of_eq rfl) (hb hby d1_240) (fun _ _ => ⟨rfl, e244, (by decide : 3 + 1 ≤ _), (by decide : 12 + 2 ≤ _)⟩)
          dsimp only [Pt.U, Pt.locs, Pt.cells, Pt.slots] at X253 l253 y253 z253 st253 hQ253
          subst l253 y253 z253
          obtain ⟨rfl, Nq253, Kc253, Es, Fc, t, kb, ut, vt, wt, Fv, Vt⟩ := hQ253
          have Hc254 := CHv.keep Kc253 (allS (own_safe (EL := consts_1) hZ.alike (hw _ (List.mem_of_getElem? (i := 6) rfl)) A220_x248 F_value_b220_x250) all0) Hc245
          have CR254 := CR245.trans (CHr.keep Kc253 (allS (own_safe (EL := consts_1) hZ.alike (hw _ (List.mem_of_getElem? (i := 6) rfl)) A220_x248 F_value_b220_x250) all0) Hc245)
          have hk254 := Nat.le_trans hk245 Kc253.1
          have N253 := Fr.app N244 Nq253
          have Kk253 : Keep h0 T253.heap [] := K252.trans Kc253 (allS (Or.inr sz_b220) all0)
          refine own_tr st253 ?_
          show own_Go p.tables e below _ (T253.setTop (mkF m 243 #[.val (.int x), .val (.int (x &&& (3 : Int32))), .val (.ref ca1), .unset] [(.ref b220)]))
          have cr255 : CHr Z consts_1 s.vm s.heap T253.vm T253.heap := by rw [hh, show T253.heap = T253.heap from rfl]; exact CR254.trans (CHv.at X253 hZ hEL Hc254)
          exact own_retWA X253 hS0 (by exact hk254) hx Bd.returns rfl rfl (hb hby d1_243) Bd.notSynchronized ⟨b220, t, kb, rfl, N253, by exact Kk253, g_b220, sz_b220, Es, Fc, Fv, by rw [hmk253]; exact Vt⟩ cr255 (by decide) (by decide)
        ·  -- pc 196, not (own_iu x (18 : Int32) &&& (1 : Int32)) = (0 : Int32)
          refine own_st (fun _ k' => XS.ifNo X36.here hx rfl (hb hby d1_196) rfl ((if0 _ _).trans (feq hc219).1) k') ?_
          show own_Go p.tables e below _ (T36.setTop (mkF m 199 #[.val (.int x), .val (.int (x &&& (3 : Int32))), .val (.ref ca1), .unset] []))
          obtain ⟨T256, h256, X256, e256, E256, A256, D256, -, st256⟩ := newO X36 hx hZ hown (hw _ (List.mem_of_getElem? (i := 5) rfl)) (hw _ (List.mem_of_getElem? (i := 6) rfl)) (hw _ (List.mem_of_getElem? (i := 7) rfl)) e36 (g := (mkF m 199 #[.val (.int x), .val (.int (x &&& (3 : Int32))), .val (.ref ca1), .unset] [])) rfl (hb hby d1_199) (by decide) (by decide)
          obtain ⟨b256, g256⟩ : ∃ z, z = h36.size := ⟨_, rfl⟩
          rw [← g256] at A256 D256 st256
          have g_b256 : n0 ≤ b256 := Nat.le_trans ZVW36 (Nat.le_of_eq g256.symm)
          have sz_b256 : h0.size ≤ b256 := Nat.le_trans K40.1 (Nat.le_of_eq g256.symm)
          have ne_ca1_b256 : ca1 ≠ b256 := Nat.ne_of_lt (Nat.lt_of_lt_of_le Vm36.lt (Nat.le_of_eq g256.symm))
          have Hc257 := CHv.ext E256 Hc37
          have CR257 := CR37.trans (CHr.ext E256 Hc37)
          have hk257 := Nat.le_trans hk37 E256.1
          have O__x258 := O__x38.ext E256
          have Vm36_x259 := Vm36.ext E256
          have K260 : Keep h0 h256 [] := K40.ext E256
          have ZE256 : n0 ≤ h256.size := Nat.le_trans ZVW36 E256.1
          have F_coder_b256 : Fld Z h256 b256 "java/lang/String" "coder" "B" (.int (0 : Int32)) := D256 (Or.inr (hw _ (List.mem_of_getElem? (i := 31) rfl))) (ty := .byte) (by decide)
          have F_value_b256 : Fld Z h256 b256 "java/lang/String" "value" "[B" .null := D256 (Or.inr (hw _ (List.mem_of_getElem? (i := 33) rfl))) (ty := (.array .byte)) (by decide)
          refine own_st st256 ?_
          show own_Go p.tables e below _ (T256.setTop (mkF m 202 #[.val (.int x), .val (.int (x &&& (3 : Int32))), .val (.ref ca1), .unset] [(.ref b256)]))
          refine own_st (fun _ k' => XS.dup X256.here hx rfl (hb hby d1_202) rfl rfl k') ?_
          show own_Go p.tables e below _ (T256.setTop (mkF m 203 #[.val (.int x), .val (.int (x &&& (3 : Int32))), .val (.ref ca1), .unset] [(.ref b256), (.ref b256)]))
          refine own_st (fun _ k' => XS.iconst X256.here hx rfl (hb hby d1_203) k') ?_
          show own_Go p.tables e below _ (T256.setTop (mkF m 204 #[.val (.int x), .val (.int (x &&& (3 : Int32))), .val (.ref ca1), .unset] [(.int (0 : Int32)), (.ref b256), (.ref b256)]))
          obtain ⟨T261, h261, k261, X261, e261, E261, A261, st261⟩ := newP X256 hx hZ (hw _ (List.mem_of_getElem? (i := 4) rfl)) e256 (g := (mkF m 204 #[.val (.int x), .val (.int (x &&& (3 : Int32))), .val (.ref ca1), .unset] [(.int (0 : Int32)), (.ref b256), (.ref b256)])) rfl (hb hby d1_204) rfl (by decide) (cap := 0) (by decide) (by decide) (by decide) (by decide)
          obtain ⟨ca261, g261⟩ : ∃ z, z = h256.size := ⟨_, rfl⟩
          rw [← g261] at A261 st261
          have g_ca261 : n0 ≤ ca261 := Nat.le_trans ZE256 (Nat.le_of_eq g261.symm)
          have sz_ca261 : h0.size ≤ ca261 := Nat.le_trans K260.1 (Nat.le_of_eq g261.symm)
          have ne_ca1_ca261 : ca1 ≠ ca261 := Nat.ne_of_lt (Nat.lt_of_lt_of_le Vm36_x259.lt (Nat.le_of_eq g261.symm))
          have ne_b256_ca261 : b256 ≠ ca261 := Nat.ne_of_lt (Nat.lt_of_lt_of_le A256.lt (Nat.le_of_eq g261.symm))
          have Hc262 := CHv.ext E261 Hc257
          have CR262 := CR257.trans (CHr.ext E261 Hc257)
          have hk262 := Nat.le_trans hk257 E261.1
          have O__x263 := O__x258.ext E261
          have Vm36_x264 := Vm36_x259.ext E261
          have A256_x265 := A256.ext E261
          have F_coder_b256_x266 := F_coder_b256.ext E261
          have F_value_b256_x267 := F_value_b256.ext E261
          have K268 : Keep h0 h261 [] := K260.ext E261
          have ZE261 : n0 ≤ h261.size := Nat.le_trans ZE256 E261.1
          have V_ca261 : Arv Z h261 ca261 k261 .char (0 : Int32) [] (.int (0 : Int32)) := (Arv.new A261 (by decide))
          refine own_st st261 ?_
          show own_Go p.tables e below _ (T261.setTop (mkF m 206 #[.val (.int x), .val (.int (x &&& (3 : Int32))), .val (.ref ca1), .unset] [(.ref ca261), (.ref b256), (.ref b256)]))
          obtain ⟨_, _, ⟨T269, L269, k269, n269⟩, -, X269', h2269, gr269, ⟨Lc269, hQ269, l269, y269, z269, CRc269⟩, st269⟩ := X261.specialBackS hx (y := (⟨"java/lang/String", "<init>", "([C)V"⟩ : MethodName)) rfl hown (mvT hZ (hw _ (List.mem_of_getElem? (i := 8) rfl))) (mvT hZ (hw _ (List.mem_of_getElem? (i := 9) rfl))) (mvT hZ (hw _ (List.mem_of_getElem? (i := 10) rfl))) (by decide) (backOfSH (W := 1) (rmS1 l Z a0 hw [] b256 ca261 k261 G1 G3 h261 n0 ZE261 A256_x265 F_value_b256_x267 F_coder_b256_x266 g_b256 V_ca261 hEL O2 O4 P5 rG3 O__x263) hZ (hw _ (List.mem_of_getElem? (i := 10) rfl)) (hw _ (List.mem_of_getElem? (i := 7) rfl)) (by decide) (by decide) hEL Hc262) (g := (mkF m 206 #[.val (.int x), .val (.int (x &&& (3 : Int32))), .val (.ref ca1), .unset] [(.ref ca261), (.ref b256), (.ref b256)])) rfl (by rw [hml]; rfl) (Steps.refl _) (a := b256) (argsL := [(.ref ca261)]) (rest := [(.ref b256)]) (lenOf pd___C_V rfl) rfl (by show 2 * 0 + _ ≤ _; exact Nat.le_of_eq rfl) (hb hby d1_206) (fun _ _ => ⟨rfl, e261, (by decide : 3 + 4 ≤ _), (by decide : 10 + 8 ≤ _)⟩)
          dsimp only [Pt.U, Pt.locs, Pt.cells, Pt.slots] at X269' h2269 gr269 l269 y269 z269 st269 hQ269 CRc269
          subst l269 y269 z269
          obtain ⟨X269, hS269, hZ, hown⟩ := rebS hS0 (by rw [e261]; exact hk262) X269' h2269 gr269 hZ hown
          have CR269 := CR262.trans CRc269
          have hk269 : T269.heap.size ≤ T269.heap.size := Nat.le_refl _
          obtain ⟨rfl, Nq269, Kc269, t, kb, Es, Fc, Fv, Vt⟩ := hQ269
          have N269 := Fr.app N36 Nq269
          have Kk269 : Keep h0 T269.heap [] := K268.trans Kc269 (allS (Or.inr sz_b256) all0)
          have hmk269 : own_mk x = [] := by simp [own_mk, hc41, hc50, hc65, hc219]
          refine own_tr st269 ?_
          show own_Go p.tables e below _ (T269.setTop (mkF m 209 #[.val (.int x), .val (.int (x &&& (3 : Int32))), .val (.ref ca1), .unset] [(.ref b256)]))
          have cr270 : CHr Z consts_1 s.vm s.heap T269.vm T269.heap := by rw [hh, show T269.heap = T269.heap from rfl]; exact CR269.trans (CHv.at X269 hZ hEL CRc269.1)
          exact own_retWA X269 hS269 (by exact hk269) hx Bd.returns rfl rfl (hb hby d1_209) Bd.notSynchronized ⟨b256, t, kb, rfl, N269, by exact Kk269, g_b256, sz_b256, Es, Fc, Fv, by rw [hmk269]; exact Vt⟩ cr270 (by decide) (by decide)

theorem d9_0 : decode method_4_code 0 = .ok (.iload_n 0, 1) := by decide +kernel
theorem d9_1 : decode method_4_code 1 = .ok (.iconst 3, 1) := by decide +kernel
theorem d9_2 : decode method_4_code 2 = .ok (.iand, 1) := by decide +kernel
theorem d9_3 : decode method_4_code 3 = .ok (.istore_n 1, 1) := by decide +kernel
theorem d9_4 : decode method_4_code 4 = .ok (.iload_n 1, 1) := by decide +kernel
theorem d9_5 : decode method_4_code 5 = .ok (.ifCond .ne 5, 3) := by decide +kernel
theorem d9_8 : decode method_4_code 8 = .ok (.iconst 1, 1) := by decide +kernel
theorem d9_9 : decode method_4_code 9 = .ok (.ireturn, 1) := by decide +kernel
theorem d9_10 : decode method_4_code 10 = .ok (.iload_n 1, 1) := by decide +kernel
theorem d9_11 : decode method_4_code 11 = .ok (.iconst 1, 1) := by decide +kernel
theorem d9_12 : decode method_4_code 12 = .ok (.if_icmp .ne 38, 3) := by decide +kernel
theorem d9_15 : decode method_4_code 15 = .ok (.iload_n 0, 1) := by decide +kernel
theorem d9_16 : decode method_4_code 16 = .ok (.iconst 2, 1) := by decide +kernel
theorem d9_17 : decode method_4_code 17 = .ok (.iushr, 1) := by decide +kernel
theorem d9_18 : decode method_4_code 18 = .ok (.bipush 7, 2) := by decide +kernel
theorem d9_20 : decode method_4_code 20 = .ok (.iand, 1) := by decide +kernel
theorem d9_21 : decode method_4_code 21 = .ok (.bipush 6, 2) := by decide +kernel
theorem d9_23 : decode method_4_code 23 = .ok (.irem, 1) := by decide +kernel
theorem d9_24 : decode method_4_code 24 = .ok (.istore_n 2, 1) := by decide +kernel
theorem d9_25 : decode method_4_code 25 = .ok (.iload_n 0, 1) := by decide +kernel
theorem d9_26 : decode method_4_code 26 = .ok (.iconst 5, 1) := by decide +kernel
theorem d9_27 : decode method_4_code 27 = .ok (.iushr, 1) := by decide +kernel
theorem d9_28 : decode method_4_code 28 = .ok (.sipush 255, 3) := by decide +kernel
theorem d9_31 : decode method_4_code 31 = .ok (.iand, 1) := by decide +kernel
theorem d9_32 : decode method_4_code 32 = .ok (.i2c, 1) := by decide +kernel
theorem d9_33 : decode method_4_code 33 = .ok (.istore_n 3, 1) := by decide +kernel
theorem d9_34 : decode method_4_code 34 = .ok (.iload_n 3, 1) := by decide +kernel
theorem d9_35 : decode method_4_code 35 = .ok (.ldc 28, 2) := by decide +kernel
theorem d9_37 : decode method_4_code 37 = .ok (.iload_n 2, 1) := by decide +kernel
theorem d9_38 : decode method_4_code 38 = .ok (.invokevirtual 30, 3) := by decide +kernel
theorem d9_41 : decode method_4_code 41 = .ok (.if_icmp .ne 7, 3) := by decide +kernel
theorem d9_44 : decode method_4_code 44 = .ok (.iconst 1, 1) := by decide +kernel
theorem d9_45 : decode method_4_code 45 = .ok (.goto 4, 3) := by decide +kernel
theorem d9_48 : decode method_4_code 48 = .ok (.iconst 0, 1) := by decide +kernel
theorem d9_49 : decode method_4_code 49 = .ok (.ireturn, 1) := by decide +kernel
theorem d9_50 : decode method_4_code 50 = .ok (.iconst 0, 1) := by decide +kernel
theorem d9_51 : decode method_4_code 51 = .ok (.ireturn, 1) := by decide +kernel
theorem pd__I_C : parseMethodDescriptor "(I)C" = some ⟨[.int], some .char⟩ := by decide +kernel
theorem ef_rmIs (m : MethodId) (x0 : Int32) : entryFrame m #[(.int x0)] 4 = mkF m 0 #[.val (.int x0), .unset, .unset, .unset] [] := by first | (simp [entryFrame, mkF, argsToLocals, Value.category]; done) | rfl
def Q_rmIs (Z : State) (x : Int32) (G1 : Int32) (G3 : Value) (h0 : Heap) (n0 : Nat) (v : Option Value) (h : Heap) (L : List Loc) : Prop := v = some (.int (own_isj x)) ∧ Fr n0 L ∧ Keep h0 h []
def K_rmIs (Z : State) (x : Int32) (G1 : Int32) (G3 : Value) (h0 : Heap) (n0 : Nat) (s : State) : Outcome → State → Prop := fun oo U' => ∃ v L, oo = .returned v ∧ Q_rmIs Z x G1 G3 h0 n0 v U'.heap L ∧ CHr Z consts_1 s.vm s.heap U'.vm U'.heap ∧ ReturnedEndW s oo U' L ({ frames := 4, cells := 2, slots := 28, locals := 54 } : Room).cells ({ frames := 4, cells := 2, slots := 28, locals := 54 } : Room).slots
set_option maxRecDepth 65536 in
set_option maxHeartbeats 40000000 in
theorem rmIs (l : Launch) (Z : State) (a0 : Array Value) (hw : ∀ d ∈ tables_1, d.before a0 Z = true) (ws : List Jvm.Cond) (x : Int32) (G1 : Int32) (G3 : Value) (h0 : Heap) (n0 : Nat) (Z0 : n0 ≤ h0.size) (hEL : EW Z a0 consts_1) (O2 : Sta Z Z.heap "java/lang/String" "COMPACT_STRINGS" "Z" (.int G1)) (O4 : Sta Z Z.heap "jdk/internal/util/Preconditions" "SIOOBE_FORMATTER" "Ljava/util/function/BiFunction;" G3) (P5 : ¬ (G1 = (0 : Int32))) (rG3 : G3.isRef = true) (O_ : Old Z n0 h0) :
    MetFree l (⟨"com/example/frozen_thread/frozenthread/cli/FormReporterAsksForJsonPinLaw", "isJson", "(I)Z"⟩ : MethodName) (head1 (Jvm.Cond.code (⟨"com/example/frozen_thread/frozenthread/cli/FormReporterAsksForJsonPinLaw", "isJson", "(I)Z"⟩ : MethodName) method_4_code 4 (some .boolean) :: ws) ({ frames := 4, cells := 2, slots := 28, locals := 54 } : Room)) (fun as_ U => as_ = #[(.int x)] ∧ Z.Warmed39 U.vm ∧ U.heap = h0 ∧ CHv Z consts_1 U.vm h0) (fun _ _ _ _ _ => True) (fun _ U oo U' => ∃ v L, oo = .returned v ∧ Q_rmIs Z x G1 G3 h0 n0 v U'.heap L ∧ CHr Z consts_1 U.vm U.heap U'.vm U'.heap ∧ ReturnedEndW U oo U' L ({ frames := 4, cells := 2, slots := 28, locals := 54 } : Room).cells ({ frames := 4, cells := 2, slots := 28, locals := 54 } : Room).slots) := by
  refine MetFree.of_bodySF (plainFor_of_name pn_com_example_frozen_thread_frozenthread_cli_FormReporterAsksForJsonPinLaw) hisR ?_
  intro p e s m args below meth c s₁ Bd hml0 hP hK
  obtain ⟨rfl, hZ, hh, hC⟩ := hP
  have hx := Bd.exec
  have hby := Bd.bytes
  have hml : c.maxLocals = 4 := hml0
  have hown : s.vm.findClass "com/example/frozen_thread/frozenthread/cli/FormReporterAsksForJsonPinLaw" = some m.cls := findClass_of_methodNamed Bd.named
  have hnm := (name_of_methodNamed Bd.named Bd.method).1
  have X0 : Stand p l e ({ frames := 4, cells := 2, slots := 28, locals := 54 } : Room) (s.setVm s.vm) m #[(.int x)] below meth c s₁ [] 0 0 := Stand.of_body Bd
  have hZ : Z.Warmed39 (s.setVm s.vm).vm := hZ
  have hown : (s.setVm s.vm).vm.findClass "com/example/frozen_thread/frozenthread/cli/FormReporterAsksForJsonPinLaw" = some m.cls := hown
  have e0 : s₁.heap = h0 := by rw [← hh, Bd.state]; rfl
  have N0 := Fr.nil n0
  refine own_st (K := (K_rmIs Z x G1 G3 h0 n0 s)) (fun t' k' => castTop (ef_rmIs m x) k') ?_
  have hSA : ∀ a ∈ Bundle.stringAtoms, a.before a0 Z = true := by
    intro a ha
    simp only [Bundle.stringAtoms, List.mem_cons, List.not_mem_nil, or_false] at ha
    rcases ha with rfl | rfl | rfl | rfl | rfl | rfl | rfl
    · exact (hw _ (List.mem_of_getElem? (i := 7) rfl))
    · exact (hw _ (List.mem_of_getElem? (i := 6) rfl))
    · exact (hw _ (List.mem_of_getElem? (i := 23) rfl))
    · exact (hw _ (List.mem_of_getElem? (i := 33) rfl))
    · exact (hw _ (List.mem_of_getElem? (i := 31) rfl))
    · exact (hw _ (List.mem_of_getElem? (i := 43) rfl))
    · exact (hw _ (List.mem_of_getElem? (i := 44) rfl))
  have hS0 : s.Since s.vm h0.size := (State.WarmedH.refl s).since _
  have hk0 : h0.size ≤ h0.size := Nat.le_refl _
  have CR0 := CHr.refl hC
  show own_Go p.tables e below _ (s₁.setTop (mkF m 0 #[.val (.int x), .unset, .unset, .unset] []))
  refine own_st (fun _ k' => XS.iloadN X0.here hx rfl (hb hby d9_0) rfl k') ?_
  show own_Go p.tables e below _ (s₁.setTop (mkF m 1 #[.val (.int x), .unset, .unset, .unset] [(.int x)]))
  refine own_st (fun _ k' => XS.iconst X0.here hx rfl (hb hby d9_1) k') ?_
  show own_Go p.tables e below _ (s₁.setTop (mkF m 2 #[.val (.int x), .unset, .unset, .unset] [(.int (3 : Int32)), (.int x)]))
  refine own_st (fun _ k' => XS.iand X0.here hx rfl (hb hby d9_2) rfl k') ?_
  show own_Go p.tables e below _ (s₁.setTop (mkF m 3 #[.val (.int x), .unset, .unset, .unset] [(.int (x &&& (3 : Int32)))]))
  refine own_st (fun _ k' => XS.istoreN X0.here hx rfl (hb hby d9_3) rfl (l' := #[.val (.int x), .val (.int (x &&& (3 : Int32))), .unset, .unset]) rfl k') ?_
  show own_Go p.tables e below _ (s₁.setTop (mkF m 4 #[.val (.int x), .val (.int (x &&& (3 : Int32))), .unset, .unset] []))
  refine own_st (fun _ k' => XS.iloadN X0.here hx rfl (hb hby d9_4) rfl k') ?_
  show own_Go p.tables e below _ (s₁.setTop (mkF m 5 #[.val (.int x), .val (.int (x &&& (3 : Int32))), .unset, .unset] [(.int (x &&& (3 : Int32)))]))
  by_cases hc1 : (x &&& (3 : Int32)) = (0 : Int32)
  ·  -- pc 5, (x &&& (3 : Int32)) = (0 : Int32)
    refine own_st (fun _ k' => XS.ifNo X0.here hx rfl (hb hby d9_5) rfl ((if0 _ _).trans (teq hc1).2) k') ?_
    show own_Go p.tables e below _ (s₁.setTop (mkF m 8 #[.val (.int x), .val (.int (x &&& (3 : Int32))), .unset, .unset] []))
    refine own_st (fun _ k' => XS.iconst X0.here hx rfl (hb hby d9_8) k') ?_
    show own_Go p.tables e below _ (s₁.setTop (mkF m 9 #[.val (.int x), .val (.int (x &&& (3 : Int32))), .unset, .unset] [(.int (1 : Int32))]))
    have cr2 : CHr Z consts_1 s.vm s.heap s₁.vm s₁.heap := by rw [hh, e0]; exact CR0.trans (CHv.at X0 hZ hEL hC)
    exact own_retWN X0 hS0 (by rw [e0]; exact hk0) hx (t := .boolean) Bd.returns (by simp) (hb hby d9_9) Bd.notSynchronized ⟨by rw [own_isj, if_pos hc1]; rfl, N0, by rw [e0]; exact (Keep.refl h0 [])⟩ cr2 (by decide) (by decide)
  ·  -- pc 5, not (x &&& (3 : Int32)) = (0 : Int32)
    refine own_st (fun _ k' => XS.ifYes X0.here hx rfl (pc0 := 5) (pc' := 10) rfl (hb hby d9_5) rfl ((if0 _ _).trans (feq hc1).2) (by decide) (by decide) k') ?_
    show own_Go p.tables e below _ (s₁.setTop (mkF m 10 #[.val (.int x), .val (.int (x &&& (3 : Int32))), .unset, .unset] []))
    refine own_st (fun _ k' => XS.iloadN X0.here hx rfl (hb hby d9_10) rfl k') ?_
    show own_Go p.tables e below _ (s₁.setTop (mkF m 11 #[.val (.int x), .val (.int (x &&& (3 : Int32))), .unset, .unset] [(.int (x &&& (3 : Int32)))]))
    refine own_st (fun _ k' => XS.iconst X0.here hx rfl (hb hby d9_11) k') ?_
    show own_Go p.tables e below _ (s₁.setTop (mkF m 12 #[.val (.int x), .val (.int (x &&& (3 : Int32))), .unset, .unset] [(.int (1 : Int32)), (.int (x &&& (3 : Int32)))]))
    by_cases hc3 : (x &&& (3 : Int32)) = (1 : Int32)
    ·  -- pc 12, (x &&& (3 : Int32)) = (1 : Int32)
      refine own_st (fun _ k' => XS.icmpNo X0.here hx rfl (hb hby d9_12) rfl (teq hc3).2 k') ?_
      show own_Go p.tables e below _ (s₁.setTop (mkF m 15 #[.val (.int x), .val (.int (x &&& (3 : Int32))), .unset, .unset] []))
      refine own_st (fun _ k' => XS.iloadN X0.here hx rfl (hb hby d9_15) rfl k') ?_
      show own_Go p.tables e below _ (s₁.setTop (mkF m 16 #[.val (.int x), .val (.int (x &&& (3 : Int32))), .unset, .unset] [(.int x)]))
      refine own_st (fun _ k' => XS.iconst X0.here hx rfl (hb hby d9_16) k') ?_
      show own_Go p.tables e below _ (s₁.setTop (mkF m 17 #[.val (.int x), .val (.int (x &&& (3 : Int32))), .unset, .unset] [(.int (2 : Int32)), (.int x)]))
      refine own_st (fun _ k' => XS.iushr X0.here hx rfl (hb hby d9_17) rfl k') ?_
      show own_Go p.tables e below _ (s₁.setTop (mkF m 18 #[.val (.int x), .val (.int (x &&& (3 : Int32))), .unset, .unset] [(.int ((x.toUInt32 >>> ((2 : Int32) &&& 31).toUInt32).toInt32))]))
      refine own_st (fun _ k' => XS.bipush X0.here hx rfl (hb hby d9_18) k') ?_
      show own_Go p.tables e below _ (s₁.setTop (mkF m 20 #[.val (.int x), .val (.int (x &&& (3 : Int32))), .unset, .unset] [(.int (7 : Int32)), (.int ((x.toUInt32 >>> ((2 : Int32) &&& 31).toUInt32).toInt32))]))
      refine own_st (fun _ k' => XS.iand X0.here hx rfl (hb hby d9_20) rfl k') ?_
      show own_Go p.tables e below _ (s₁.setTop (mkF m 21 #[.val (.int x), .val (.int (x &&& (3 : Int32))), .unset, .unset] [(.int (((x.toUInt32 >>> ((2 : Int32) &&& 31).toUInt32).toInt32) &&& (7 : Int32)))]))
      refine own_st (fun _ k' => XS.bipush X0.here hx rfl (hb hby d9_21) k') ?_
      show own_Go p.tables e below _ (s₁.setTop (mkF m 23 #[.val (.int x), .val (.int (x &&& (3 : Int32))), .unset, .unset] [(.int (6 : Int32)), (.int (((x.toUInt32 >>> ((2 : Int32) &&& 31).toUInt32).toInt32) &&& (7 : Int32)))]))
      refine own_st (fun _ k' => iremM X0 hx rfl (hb hby d9_23) rfl (by decide) k') ?_
      show own_Go p.tables e below _ (s₁.setTop (mkF m 24 #[.val (.int x), .val (.int (x &&& (3 : Int32))), .unset, .unset] [(.int ((((x.toUInt32 >>> ((2 : Int32) &&& 31).toUInt32).toInt32) &&& (7 : Int32)) % (6 : Int32)))]))
      show own_Go p.tables e below _ (s₁.setTop (mkF m 24 #[.val (.int x), .val (.int (x &&& (3 : Int32))), .unset, .unset] [(.int (own_pos x))]))
      refine own_st (fun _ k' => XS.istoreN X0.here hx rfl (hb hby d9_24) rfl (l' := #[.val (.int x), .val (.int (x &&& (3 : Int32))), .val (.int (own_pos x)), .unset]) rfl k') ?_
      show own_Go p.tables e below _ (s₁.setTop (mkF m 25 #[.val (.int x), .val (.int (x &&& (3 : Int32))), .val (.int (own_pos x)), .unset] []))
      refine own_st (fun _ k' => XS.iloadN X0.here hx rfl (hb hby d9_25) rfl k') ?_
      show own_Go p.tables e below _ (s₁.setTop (mkF m 26 #[.val (.int x), .val (.int (x &&& (3 : Int32))), .val (.int (own_pos x)), .unset] [(.int x)]))
      refine own_st (fun _ k' => XS.iconst X0.here hx rfl (hb hby d9_26) k') ?_
      show own_Go p.tables e below _ (s₁.setTop (mkF m 27 #[.val (.int x), .val (.int (x &&& (3 : Int32))), .val (.int (own_pos x)), .unset] [(.int (5 : Int32)), (.int x)]))
      refine own_st (fun _ k' => XS.iushr X0.here hx rfl (hb hby d9_27) rfl k') ?_
      show own_Go p.tables e below _ (s₁.setTop (mkF m 28 #[.val (.int x), .val (.int (x &&& (3 : Int32))), .val (.int (own_pos x)), .unset] [(.int ((x.toUInt32 >>> ((5 : Int32) &&& 31).toUInt32).toInt32))]))
      refine own_st (fun _ k' => XS.sipush X0.here hx rfl (hb hby d9_28) k') ?_
      show own_Go p.tables e below _ (s₁.setTop (mkF m 31 #[.val (.int x), .val (.int (x &&& (3 : Int32))), .val (.int (own_pos x)), .unset] [(.int (255 : Int32)), (.int ((x.toUInt32 >>> ((5 : Int32) &&& 31).toUInt32).toInt32))]))
      refine own_st (fun _ k' => XS.iand X0.here hx rfl (hb hby d9_31) rfl k') ?_
      show own_Go p.tables e below _ (s₁.setTop (mkF m 32 #[.val (.int x), .val (.int (x &&& (3 : Int32))), .val (.int (own_pos x)), .unset] [(.int (((x.toUInt32 >>> ((5 : Int32) &&& 31).toUInt32).toInt32) &&& (255 : Int32)))]))
      show own_Go p.tables e below _ (s₁.setTop (mkF m 32 #[.val (.int x), .val (.int (x &&& (3 : Int32))), .val (.int (own_pos x)), .unset] [(.int (own_cc x (5 : Int32)))]))
      refine own_st (fun _ k' => XS.i2c X0.here hx rfl (hb hby d9_32) rfl k') ?_
      show own_Go p.tables e below _ (s₁.setTop (mkF m 33 #[.val (.int x), .val (.int (x &&& (3 : Int32))), .val (.int (own_pos x)), .unset] [(.int ((own_cc x (5 : Int32)).toUInt32.toUInt16.toUInt32.toInt32))]))
      rw [own_ccc]
      show own_Go p.tables e below _ (s₁.setTop (mkF m 33 #[.val (.int x), .val (.int (x &&& (3 : Int32))), .val (.int (own_pos x)), .unset] [(.int (own_cc x (5 : Int32)))]))
      refine own_st (fun _ k' => XS.istoreN X0.here hx rfl (hb hby d9_33) rfl (l' := #[.val (.int x), .val (.int (x &&& (3 : Int32))), .val (.int (own_pos x)), .val (.int (own_cc x (5 : Int32)))]) rfl k') ?_
      show own_Go p.tables e below _ (s₁.setTop (mkF m 34 #[.val (.int x), .val (.int (x &&& (3 : Int32))), .val (.int (own_pos x)), .val (.int (own_cc x (5 : Int32)))] []))
      refine own_st (fun _ k' => XS.iloadN X0.here hx rfl (hb hby d9_34) rfl k') ?_
      show own_Go p.tables e below _ (s₁.setTop (mkF m 35 #[.val (.int x), .val (.int (x &&& (3 : Int32))), .val (.int (own_pos x)), .val (.int (own_cc x (5 : Int32)))] [(.int (own_cc x (5 : Int32)))]))
      obtain ⟨a4, T4, h4, k14, b4, kb4, X4, e4, E4, hS4, hk4, hZ, hown, El4, Fc4, Fv4, Vt4, -, -, CRl4, -, hne4, st4⟩ := ldcCH X0 hx hZ hown (hw _ (List.mem_of_getElem? (i := 56) rfl)) hSA e0 hS0 hk0 hEL (by decide) hC (vs := (((own_J : List Int32).map (fun c => c.toInt8.toInt32)).map Value.int)) (z := 6) ⟨by decide, by decide⟩ (by decide) (by decide) (g := (mkF m 35 #[.val (.int x), .val (.int (x &&& (3 : Int32))), .val (.int (own_pos x)), .val (.int (own_cc x (5 : Int32)))] [(.int (own_cc x (5 : Int32)))])) rfl (hb hby d9_35) (n := 24) (by decide) (by decide) (by decide) (by decide)
      have CR4 := CR0.trans CRl4
      have O__x5 := O_.ext E4
      have K6 : Keep h0 h4 [] := (Keep.refl h0 []).ext E4
      have ZE4 : n0 ≤ h4.size := Nat.le_trans Z0 E4.1
      refine own_st st4 ?_
      show own_Go p.tables e below _ (T4.setTop (mkF m 37 #[.val (.int x), .val (.int (x &&& (3 : Int32))), .val (.int (own_pos x)), .val (.int (own_cc x (5 : Int32)))] [(.ref a4), (.int (own_cc x (5 : Int32)))]))
      refine own_st (fun _ k' => XS.iloadN X4.here hx rfl (hb hby d9_37) rfl k') ?_
      show own_Go p.tables e below _ (T4.setTop (mkF m 38 #[.val (.int x), .val (.int (x &&& (3 : Int32))), .val (.int (own_pos x)), .val (.int (own_cc x (5 : Int32)))] [(.int (own_pos x)), (.ref a4), (.int (own_cc x (5 : Int32)))]))
      have hch : ∀ d ∈ StrChars.Road.wordsChN, d.before a0 Z = true := fun d hd => hw d ((by decide +kernel : ∀ d ∈ StrChars.Road.wordsChN, d ∈ tables_1) d hd)
      have hcd : StrChars.Road.CodA own_J 0 (6 : Int32) ((own_J.map (fun c => c.toInt8.toInt32)).map Value.int) := StrChars.Road.codOf (n := 6) rfl (fun x hx => (own_J_in x hx).2)
      obtain ⟨cq7, kq7, q7a, q7b, q7c⟩ := isOf hZ e4 El4
      obtain ⟨_, _, ⟨T7, L7, k7, n7⟩, -, X7, ⟨Lc7, hQ7, l7, y7, z7⟩, st7⟩ := X4.virtualBack hx (y := (⟨"java/lang/String", "charAt", "(I)C"⟩ : MethodName)) (z := (⟨"java/lang/String", "charAt", "(I)C"⟩ : MethodName)) hown (mvT hZ (hw _ (List.mem_of_getElem? (i := 57) rfl))) (mvT hZ (hw _ (List.mem_of_getElem? (i := 58) rfl))) (notFace_of_selects (args := #[]) (mvT hZ (hw _ (List.mem_of_getElem? (i := 60) rfl)))) (mvT hZ (hw _ (List.mem_of_getElem? (i := 60) rfl))) (mvT hZ (hw _ (List.mem_of_getElem? (i := 59) rfl))) (by decide) (StrChars.Road.chN (W := 1) hZ hch (kI := 4) (hw _ (List.mem_of_getElem? (i := 6) rfl)) El4 Fv4 Fc4 Vt4 hcd (own_up own_J own_J_in) (O2.ext O__x5.2) P5 (O4.ext O__x5.2) rG3 (by decide) (i := own_np x) (own_np_lt x) (j := (own_pos x)) (own_np_eq x) (by decide) (by decide)) q7a q7c (g := (mkF m 38 #[.val (.int x), .val (.int (x &&& (3 : Int32))), .val (.int (own_pos x)), .val (.int (own_cc x (5 : Int32)))] [(.int (own_pos x)), (.ref a4), (.int (own_cc x (5 : Int32)))])) rfl (by rw [hml]; rfl) (Steps.refl _) (argsL := [(.int (own_pos x))]) (rest := [(.int (own_cc x (5 : Int32)))]) (lenOf pd__I_C rfl) rfl (by show 2 * 0 + _ ≤ _; exact Nat.le_of_eq rfl) (hb hby d9_38) (fun _ _ => ⟨rfl, e4, (by decide : 2 + 0 ≤ _), (by decide : 28 + 0 ≤ _)⟩)
      dsimp only [Pt.U, Pt.locs, Pt.cells, Pt.slots] at X7 l7 y7 z7 st7 hQ7
      subst l7 y7 z7
      obtain ⟨rfl, rfl, e7⟩ := hQ7
      have N7 := Fr.app N0 (Fr.nil n0)
      refine own_tr st7 ?_
      show own_Go p.tables e below _ (T7.setTop (mkF m 41 #[.val (.int x), .val (.int (x &&& (3 : Int32))), .val (.int (own_pos x)), .val (.int (own_cc x (5 : Int32)))] [(.int (own_J.getD (own_np x) 0)), (.int (own_cc x (5 : Int32)))]))
      by_cases hc8 : (own_cc x (5 : Int32)) = (own_J.getD (own_np x) 0)
      ·  -- pc 41, (own_cc x (5 : Int32)) = (own_J.getD (own_np x) 0)
        refine own_st (fun _ k' => XS.icmpNo X7.here hx rfl (hb hby d9_41) rfl (teq hc8).2 k') ?_
        show own_Go p.tables e below _ (T7.setTop (mkF m 44 #[.val (.int x), .val (.int (x &&& (3 : Int32))), .val (.int (own_pos x)), .val (.int (own_cc x (5 : Int32)))] []))
        refine own_st (fun _ k' => XS.iconst X7.here hx rfl (hb hby d9_44) k') ?_
        show own_Go p.tables e below _ (T7.setTop (mkF m 45 #[.val (.int x), .val (.int (x &&& (3 : Int32))), .val (.int (own_pos x)), .val (.int (own_cc x (5 : Int32)))] [(.int (1 : Int32))]))
        refine own_st (fun _ k' => XS.goto X7.here hx rfl (pc0 := 45) (pc' := 49) rfl (hb hby d9_45) (by decide) (by decide) k') ?_
        show own_Go p.tables e below _ (T7.setTop (mkF m 49 #[.val (.int x), .val (.int (x &&& (3 : Int32))), .val (.int (own_pos x)), .val (.int (own_cc x (5 : Int32)))] [(.int (1 : Int32))]))
        have cr9 : CHr Z consts_1 s.vm s.heap T7.vm T7.heap := by rw [hh, e7]; exact CR4.trans (CHv.at X7 hZ hEL CRl4.1)
        exact own_retWN X7 hS4 (by rw [e7]; exact hk4) hx (t := .boolean) Bd.returns (by simp) (hb hby d9_49) Bd.notSynchronized ⟨by rw [own_isj, if_neg hc1, if_pos hc3, if_pos hc8]; rfl, N7, by rw [e7]; exact K6⟩ cr9 (by decide) (by decide)
      ·  -- pc 41, not (own_cc x (5 : Int32)) = (own_J.getD (own_np x) 0)
        refine own_st (fun _ k' => XS.icmpYes X7.here hx rfl (pc0 := 41) (pc' := 48) rfl (hb hby d9_41) rfl (feq hc8).2 (by decide) (by decide) k') ?_
        show own_Go p.tables e below _ (T7.setTop (mkF m 48 #[.val (.int x), .val (.int (x &&& (3 : Int32))), .val (.int (own_pos x)), .val (.int (own_cc x (5 : Int32)))] []))
        refine own_st (fun _ k' => XS.iconst X7.here hx rfl (hb hby d9_48) k') ?_
        show own_Go p.tables e below _ (T7.setTop (mkF m 49 #[.val (.int x), .val (.int (x &&& (3 : Int32))), .val (.int (own_pos x)), .val (.int (own_cc x (5 : Int32)))] [(.int (0 : Int32))]))
        have cr10 : CHr Z consts_1 s.vm s.heap T7.vm T7.heap := by rw [hh, e7]; exact CR4.trans (CHv.at X7 hZ hEL CRl4.1)
        exact own_retWN X7 hS4 (by rw [e7]; exact hk4) hx (t := .boolean) Bd.returns (by simp) (hb hby d9_49) Bd.notSynchronized ⟨by rw [own_isj, if_neg hc1, if_pos hc3, if_neg hc8]; rfl, N7, by rw [e7]; exact K6⟩ cr10 (by decide) (by decide)
    ·  -- pc 12, not (x &&& (3 : Int32)) = (1 : Int32)
      refine own_st (fun _ k' => XS.icmpYes X0.here hx rfl (pc0 := 12) (pc' := 50) rfl (hb hby d9_12) rfl (feq hc3).2 (by decide) (by decide) k') ?_
      show own_Go p.tables e below _ (s₁.setTop (mkF m 50 #[.val (.int x), .val (.int (x &&& (3 : Int32))), .unset, .unset] []))
      refine own_st (fun _ k' => XS.iconst X0.here hx rfl (hb hby d9_50) k') ?_
      show own_Go p.tables e below _ (s₁.setTop (mkF m 51 #[.val (.int x), .val (.int (x &&& (3 : Int32))), .unset, .unset] [(.int (0 : Int32))]))
      have cr11 : CHr Z consts_1 s.vm s.heap s₁.vm s₁.heap := by rw [hh, e0]; exact CR0.trans (CHv.at X0 hZ hEL hC)
      exact own_retWN X0 hS0 (by rw [e0]; exact hk0) hx (t := .boolean) Bd.returns (by simp) (hb hby d9_51) Bd.notSynchronized ⟨by rw [own_isj, if_neg hc1, if_neg hc3]; rfl, N0, by rw [e0]; exact (Keep.refl h0 [])⟩ cr11 (by decide) (by decide)

theorem d8_0 : decode prog_35_method_2_code 0 = .ok (.aload_n 0, 1) := by decide +kernel
theorem d8_1 : decode prog_35_method_2_code 1 = .ok (.astore_n 1, 1) := by decide +kernel
theorem d8_2 : decode prog_35_method_2_code 2 = .ok (.aload_n 1, 1) := by decide +kernel
theorem d8_3 : decode prog_35_method_2_code 3 = .ok (.arraylength, 1) := by decide +kernel
theorem d8_4 : decode prog_35_method_2_code 4 = .ok (.istore_n 2, 1) := by decide +kernel
theorem d8_5 : decode prog_35_method_2_code 5 = .ok (.iconst 0, 1) := by decide +kernel
theorem d8_6 : decode prog_35_method_2_code 6 = .ok (.istore_n 3, 1) := by decide +kernel
theorem d8_7 : decode prog_35_method_2_code 7 = .ok (.iload_n 3, 1) := by decide +kernel
theorem d8_8 : decode prog_35_method_2_code 8 = .ok (.iload_n 2, 1) := by decide +kernel
theorem d8_9 : decode prog_35_method_2_code 9 = .ok (.if_icmp .ge 26, 3) := by decide +kernel
theorem d8_35 : decode prog_35_method_2_code 35 = .ok (.iconst 0, 1) := by decide +kernel
theorem d8_36 : decode prog_35_method_2_code 36 = .ok (.ireturn, 1) := by decide +kernel
theorem pn_com_example_frozen_thread_frozenthread_cli_FormReporter : plainName "com/example/frozen_thread/frozenthread/cli/FormReporter" = true := by first | (simp [plainName, overriddenIn]; done) | decide +kernel
theorem ef_rmAs0 (m : MethodId) (x0 : Addr) : entryFrame m #[(.ref x0)] 5 = mkF m 0 #[.val (.ref x0), .unset, .unset, .unset, .unset] [] := by first | (simp [entryFrame, mkF, argsToLocals, Value.category]; done) | rfl
def Q_rmAs0 (Z : State) (ar : Addr) (ka : ClassId) (G1 : Int32) (G3 : Value) (h0 : Heap) (n0 : Nat) (v : Option Value) (h : Heap) (L : List Loc) : Prop := ((v = some (.int 1) ∧ (False)) ∨ (v = some (.int 0) ∧ ¬ (False))) ∧ Fr n0 L ∧ Keep h0 h []
def K_rmAs0 (Z : State) (ar : Addr) (ka : ClassId) (G1 : Int32) (G3 : Value) (h0 : Heap) (n0 : Nat) (s : State) : Outcome → State → Prop := fun oo U' => ∃ v L, oo = .returned v ∧ Q_rmAs0 Z ar ka G1 G3 h0 n0 v U'.heap L ∧ CHr Z consts_1 s.vm s.heap U'.vm U'.heap ∧ ReturnedEndW s oo U' L ({ frames := 0, cells := 0, slots := 0, locals := 0 } : Room).cells ({ frames := 0, cells := 0, slots := 0, locals := 0 } : Room).slots
set_option maxRecDepth 65536 in
set_option maxHeartbeats 40000000 in
theorem rmAs0 (l : Launch) (Z : State) (a0 : Array Value) (hw : ∀ d ∈ tables_1, d.before a0 Z = true) (ws : List Jvm.Cond) (ar : Addr) (ka : ClassId) (G1 : Int32) (G3 : Value) (h0 : Heap) (n0 : Nat) (Z0 : n0 ≤ h0.size)  (V_ar : Arv Z h0 ar ka (.object "java/lang/String") (0 : Int32) [] .null) (hEL : EW Z a0 consts_1) (O2 : Sta Z Z.heap "java/lang/String" "COMPACT_STRINGS" "Z" (.int G1)) (O4 : Sta Z Z.heap "jdk/internal/util/Preconditions" "SIOOBE_FORMATTER" "Ljava/util/function/BiFunction;" G3) (P5 : ¬ (G1 = (0 : Int32))) (rG3 : G3.isRef = true) (O_ : Old Z n0 h0) :
    MetFree l (⟨"com/example/frozen_thread/frozenthread/cli/FormReporter", "asksForJson", "([Ljava/lang/String;)Z"⟩ : MethodName) (head1 (Jvm.Cond.code (⟨"com/example/frozen_thread/frozenthread/cli/FormReporter", "asksForJson", "([Ljava/lang/String;)Z"⟩ : MethodName) prog_35_method_2_code 5 (some .boolean) :: ws) ({ frames := 0, cells := 0, slots := 0, locals := 0 } : Room)) (fun as_ U => as_ = #[(.ref ar)] ∧ Z.Warmed39 U.vm ∧ U.heap = h0 ∧ CHv Z consts_1 U.vm h0) (fun _ _ _ _ _ => True) (fun _ U oo U' => ∃ v L, oo = .returned v ∧ Q_rmAs0 Z ar ka G1 G3 h0 n0 v U'.heap L ∧ CHr Z consts_1 U.vm U.heap U'.vm U'.heap ∧ ReturnedEndW U oo U' L ({ frames := 0, cells := 0, slots := 0, locals := 0 } : Room).cells ({ frames := 0, cells := 0, slots := 0, locals := 0 } : Room).slots) := by
  refine MetFree.of_bodySF (plainFor_of_name pn_com_example_frozen_thread_frozenthread_cli_FormReporter) hisR ?_
  intro p e s m args below meth c s₁ Bd hml0 hP hK
  obtain ⟨rfl, hZ, hh, hC⟩ := hP
  have hx := Bd.exec
  have hby := Bd.bytes
  have hml : c.maxLocals = 5 := hml0
  have hown : s.vm.findClass "com/example/frozen_thread/frozenthread/cli/FormReporter" = some m.cls := findClass_of_methodNamed Bd.named
  have hnm := (name_of_methodNamed Bd.named Bd.method).1
  have X0 : Stand p l e ({ frames := 0, cells := 0, slots := 0, locals := 0 } : Room) (s.setVm s.vm) m #[(.ref ar)] below meth c s₁ [] 0 0 := Stand.of_body Bd
  have hZ : Z.Warmed39 (s.setVm s.vm).vm := hZ
  have hown : (s.setVm s.vm).vm.findClass "com/example/frozen_thread/frozenthread/cli/FormReporter" = some m.cls := hown
  have e0 : s₁.heap = h0 := by rw [← hh, Bd.state]; rfl
  have N0 := Fr.nil n0
  refine own_st (K := (K_rmAs0 Z ar ka G1 G3 h0 n0 s)) (fun t' k' => castTop (ef_rmAs0 m ar) k') ?_
  have hSA : ∀ a ∈ Bundle.stringAtoms, a.before a0 Z = true := by
    intro a ha
    simp only [Bundle.stringAtoms, List.mem_cons, List.not_mem_nil, or_false] at ha
    rcases ha with rfl | rfl | rfl | rfl | rfl | rfl | rfl
    · exact (hw _ (List.mem_of_getElem? (i := 7) rfl))
    · exact (hw _ (List.mem_of_getElem? (i := 6) rfl))
    · exact (hw _ (List.mem_of_getElem? (i := 23) rfl))
    · exact (hw _ (List.mem_of_getElem? (i := 33) rfl))
    · exact (hw _ (List.mem_of_getElem? (i := 31) rfl))
    · exact (hw _ (List.mem_of_getElem? (i := 43) rfl))
    · exact (hw _ (List.mem_of_getElem? (i := 44) rfl))
  have hS0 : s.Since s.vm h0.size := (State.WarmedH.refl s).since _
  have hk0 : h0.size ≤ h0.size := Nat.le_refl _
  have CR0 := CHr.refl hC
  have heq : ∀ d ∈ StrChars.Road.wordsEq, d.before a0 Z = true := fun d hd => hw d ((by decide +kernel : ∀ d ∈ StrChars.Road.wordsEq, d ∈ tables_1) d hd)
  show own_Go p.tables e below _ (s₁.setTop (mkF m 0 #[.val (.ref ar), .unset, .unset, .unset, .unset] []))
  refine own_st (fun _ k' => XS.aloadN X0.here hx rfl (hb hby d8_0) rfl rfl k') ?_
  show own_Go p.tables e below _ (s₁.setTop (mkF m 1 #[.val (.ref ar), .unset, .unset, .unset, .unset] [(.ref ar)]))
  refine own_st (fun _ k' => XS.astoreN X0.here hx rfl (hb hby d8_1) rfl rfl (l' := #[.val (.ref ar), .val (.ref ar), .unset, .unset, .unset]) rfl k') ?_
  show own_Go p.tables e below _ (s₁.setTop (mkF m 2 #[.val (.ref ar), .val (.ref ar), .unset, .unset, .unset] []))
  refine own_st (fun _ k' => XS.aloadN X0.here hx rfl (hb hby d8_2) rfl rfl k') ?_
  show own_Go p.tables e below _ (s₁.setTop (mkF m 3 #[.val (.ref ar), .val (.ref ar), .unset, .unset, .unset] [(.ref ar)]))
  obtain ⟨cl1, Ar1, qc1, Sz1, Nn1, Hs1, Gs1⟩ := id V_ar
  refine own_st (fun t' k' => X0.arraylength hx (by rw [e0]; exact Ar1.1) (State.isArrayOf_alike hZ.alike Ar1.2.1) (g := (mkF m 3 #[.val (.ref ar), .val (.ref ar), .unset, .unset, .unset] [(.ref ar)])) rfl rfl (hb hby d8_3) t' k') ?_
  rw [len_of Sz1 Nn1]
  show own_Go p.tables e below _ (s₁.setTop (mkF m 4 #[.val (.ref ar), .val (.ref ar), .unset, .unset, .unset] [(.int (0 : Int32))]))
  refine own_st (fun _ k' => XS.istoreN X0.here hx rfl (hb hby d8_4) rfl (l' := #[.val (.ref ar), .val (.ref ar), .val (.int (0 : Int32)), .unset, .unset]) rfl k') ?_
  show own_Go p.tables e below _ (s₁.setTop (mkF m 5 #[.val (.ref ar), .val (.ref ar), .val (.int (0 : Int32)), .unset, .unset] []))
  refine own_st (fun _ k' => XS.iconst X0.here hx rfl (hb hby d8_5) k') ?_
  show own_Go p.tables e below _ (s₁.setTop (mkF m 6 #[.val (.ref ar), .val (.ref ar), .val (.int (0 : Int32)), .unset, .unset] [(.int (0 : Int32))]))
  refine own_st (fun _ k' => XS.istoreN X0.here hx rfl (hb hby d8_6) rfl (l' := #[.val (.ref ar), .val (.ref ar), .val (.int (0 : Int32)), .val (.int (0 : Int32)), .unset]) rfl k') ?_
  show own_Go p.tables e below _ (s₁.setTop (mkF m 7 #[.val (.ref ar), .val (.ref ar), .val (.int (0 : Int32)), .val (.int (0 : Int32)), .unset] []))
  refine own_st (fun _ k' => XS.iloadN X0.here hx rfl (hb hby d8_7) rfl k') ?_
  show own_Go p.tables e below _ (s₁.setTop (mkF m 8 #[.val (.ref ar), .val (.ref ar), .val (.int (0 : Int32)), .val (.int (0 : Int32)), .unset] [(.int (0 : Int32))]))
  refine own_st (fun _ k' => XS.iloadN X0.here hx rfl (hb hby d8_8) rfl k') ?_
  show own_Go p.tables e below _ (s₁.setTop (mkF m 9 #[.val (.ref ar), .val (.ref ar), .val (.int (0 : Int32)), .val (.int (0 : Int32)), .unset] [(.int (0 : Int32)), (.int (0 : Int32))]))
  refine own_st (fun _ k' => XS.icmpYes X0.here hx rfl (pc0 := 9) (pc' := 35) rfl (hb hby d8_9) rfl (flt (by decide : ¬ (0 : Int32) < (0 : Int32))).2.1 (by decide) (by decide) k') ?_
  show own_Go p.tables e below _ (s₁.setTop (mkF m 35 #[.val (.ref ar), .val (.ref ar), .val (.int (0 : Int32)), .val (.int (0 : Int32)), .unset] []))
  refine own_st (fun _ k' => XS.iconst X0.here hx rfl (hb hby d8_35) k') ?_
  show own_Go p.tables e below _ (s₁.setTop (mkF m 36 #[.val (.ref ar), .val (.ref ar), .val (.int (0 : Int32)), .val (.int (0 : Int32)), .unset] [(.int (0 : Int32))]))
  have cr2 : CHr Z consts_1 s.vm s.heap s₁.vm s₁.heap := by rw [hh, e0]; exact CR0.trans (CHv.at X0 hZ hEL hC)
  exact own_retWN X0 hS0 (by rw [e0]; exact hk0) hx (t := .boolean) Bd.returns (by simp) (hb hby d8_36) Bd.notSynchronized ⟨Or.inr ⟨rfl, fun q => q⟩, N0, by rw [e0]; exact (Keep.refl h0 [])⟩ cr2 (by decide) (by decide)

theorem d8_12 : decode prog_35_method_2_code 12 = .ok (.aload_n 1, 1) := by decide +kernel
theorem d8_13 : decode prog_35_method_2_code 13 = .ok (.iload_n 3, 1) := by decide +kernel
theorem d8_14 : decode prog_35_method_2_code 14 = .ok (.aaload, 1) := by decide +kernel
theorem d8_15 : decode prog_35_method_2_code 15 = .ok (.astore 4, 2) := by decide +kernel
theorem d8_17 : decode prog_35_method_2_code 17 = .ok (.aload 4, 2) := by decide +kernel
theorem d8_19 : decode prog_35_method_2_code 19 = .ok (.ldc 13, 2) := by decide +kernel
theorem d8_21 : decode prog_35_method_2_code 21 = .ok (.invokevirtual 15, 3) := by decide +kernel
theorem d8_24 : decode prog_35_method_2_code 24 = .ok (.ifCond .eq 5, 3) := by decide +kernel
theorem d8_27 : decode prog_35_method_2_code 27 = .ok (.iconst 1, 1) := by decide +kernel
theorem d8_28 : decode prog_35_method_2_code 28 = .ok (.ireturn, 1) := by decide +kernel
theorem d8_29 : decode prog_35_method_2_code 29 = .ok (.iinc 3 1, 3) := by decide +kernel
theorem d8_32 : decode prog_35_method_2_code 32 = .ok (.goto (-25), 3) := by decide +kernel
theorem pd__Ljava_lang_Object__Z : parseMethodDescriptor "(Ljava/lang/Object;)Z" = some ⟨[(.object "java/lang/Object")], some .boolean⟩ := by decide +kernel
theorem ef_rmAs1 (m : MethodId) (x0 : Addr) : entryFrame m #[(.ref x0)] 5 = mkF m 0 #[.val (.ref x0), .unset, .unset, .unset, .unset] [] := by first | (simp [entryFrame, mkF, argsToLocals, Value.category]; done) | rfl
def Q_rmAs1 (Z : State) (ar : Addr) (ka : ClassId) (b0_ t0_ : Addr) (kb0_ : ClassId) (cs0_ : List Int32) (G1 : Int32) (G3 : Value) (h0 : Heap) (n0 : Nat) (v : Option Value) (h : Heap) (L : List Loc) : Prop := ((v = some (.int 1) ∧ (cs0_ = own_J)) ∨ (v = some (.int 0) ∧ ¬ (cs0_ = own_J))) ∧ Fr n0 L ∧ Keep h0 h []
def K_rmAs1 (Z : State) (ar : Addr) (ka : ClassId) (b0_ t0_ : Addr) (kb0_ : ClassId) (cs0_ : List Int32) (G1 : Int32) (G3 : Value) (h0 : Heap) (n0 : Nat) (s : State) : Outcome → State → Prop := fun oo U' => ∃ v L, oo = .returned v ∧ Q_rmAs1 Z ar ka b0_ t0_ kb0_ cs0_ G1 G3 h0 n0 v U'.heap L ∧ CHr Z consts_1 s.vm s.heap U'.vm U'.heap ∧ ReturnedEndW s oo U' L ({ frames := 2, cells := 2, slots := 28, locals := 28 } : Room).cells ({ frames := 2, cells := 2, slots := 28, locals := 28 } : Room).slots
set_option maxRecDepth 65536 in
set_option maxHeartbeats 40000000 in
theorem rmAs1 (l : Launch) (Z : State) (a0 : Array Value) (hw : ∀ d ∈ tables_1, d.before a0 Z = true) (ws : List Jvm.Cond) (ar : Addr) (ka : ClassId) (b0_ t0_ : Addr) (kb0_ : ClassId) (cs0_ : List Int32) (G1 : Int32) (G3 : Value) (h0 : Heap) (n0 : Nat) (Z0 : n0 ≤ h0.size)  (E0_ : Exa Z h0 b0_ "java/lang/String") (C0_ : Fld Z h0 b0_ "java/lang/String" "coder" "B" (.int (0 : Int32))) (W0_ : Fld Z h0 b0_ "java/lang/String" "value" "[B" (.ref t0_)) (K0_ : Arv Z h0 t0_ kb0_ .byte (Int32.ofNat cs0_.length) ((cs0_.map (fun c => c.toInt8.toInt32)).map Value.int) (.int (0 : Int32))) (hp0_ : ∀ c ∈ cs0_, ¬ c < 0 ∧ ¬ (255 : Int32) < c) (hl0_ : cs0_.length ≤ 7) (V_ar : Arv Z h0 ar ka (.object "java/lang/String") (1 : Int32) [(.ref b0_)] .null) (hEL : EW Z a0 consts_1) (O2 : Sta Z Z.heap "java/lang/String" "COMPACT_STRINGS" "Z" (.int G1)) (O4 : Sta Z Z.heap "jdk/internal/util/Preconditions" "SIOOBE_FORMATTER" "Ljava/util/function/BiFunction;" G3) (P5 : ¬ (G1 = (0 : Int32))) (rG3 : G3.isRef = true) (O_ : Old Z n0 h0) :
    MetFree l (⟨"com/example/frozen_thread/frozenthread/cli/FormReporter", "asksForJson", "([Ljava/lang/String;)Z"⟩ : MethodName) (head1 (Jvm.Cond.code (⟨"com/example/frozen_thread/frozenthread/cli/FormReporter", "asksForJson", "([Ljava/lang/String;)Z"⟩ : MethodName) prog_35_method_2_code 5 (some .boolean) :: ws) ({ frames := 2, cells := 2, slots := 28, locals := 28 } : Room)) (fun as_ U => as_ = #[(.ref ar)] ∧ Z.Warmed39 U.vm ∧ U.heap = h0 ∧ CHv Z consts_1 U.vm h0) (fun _ _ _ _ _ => True) (fun _ U oo U' => ∃ v L, oo = .returned v ∧ Q_rmAs1 Z ar ka b0_ t0_ kb0_ cs0_ G1 G3 h0 n0 v U'.heap L ∧ CHr Z consts_1 U.vm U.heap U'.vm U'.heap ∧ ReturnedEndW U oo U' L ({ frames := 2, cells := 2, slots := 28, locals := 28 } : Room).cells ({ frames := 2, cells := 2, slots := 28, locals := 28 } : Room).slots) := by
  refine MetFree.of_bodySF (plainFor_of_name pn_com_example_frozen_thread_frozenthread_cli_FormReporter) hisR ?_
  intro p e s m args below meth c s₁ Bd hml0 hP hK
  obtain ⟨rfl, hZ, hh, hC⟩ := hP
  have hx := Bd.exec
  have hby := Bd.bytes
  have hml : c.maxLocals = 5 := hml0
  have hown : s.vm.findClass "com/example/frozen_thread/frozenthread/cli/FormReporter" = some m.cls := findClass_of_methodNamed Bd.named
  have hnm := (name_of_methodNamed Bd.named Bd.method).1
  have X0 : Stand p l e ({ frames := 2, cells := 2, slots := 28, locals := 28 } : Room) (s.setVm s.vm) m #[(.ref ar)] below meth c s₁ [] 0 0 := Stand.of_body Bd
  have hZ : Z.Warmed39 (s.setVm s.vm).vm := hZ
  have hown : (s.setVm s.vm).vm.findClass "com/example/frozen_thread/frozenthread/cli/FormReporter" = some m.cls := hown
  have e0 : s₁.heap = h0 := by rw [← hh, Bd.state]; rfl
  have N0 := Fr.nil n0
  refine own_st (K := (K_rmAs1 Z ar ka b0_ t0_ kb0_ cs0_ G1 G3 h0 n0 s)) (fun t' k' => castTop (ef_rmAs1 m ar) k') ?_
  have hSA : ∀ a ∈ Bundle.stringAtoms, a.before a0 Z = true := by
    intro a ha
    simp only [Bundle.stringAtoms, List.mem_cons, List.not_mem_nil, or_false] at ha
    rcases ha with rfl | rfl | rfl | rfl | rfl | rfl | rfl
    · exact (hw _ (List.mem_of_getElem? (i := 7) rfl))
    · exact (hw _ (List.mem_of_getElem? (i := 6) rfl))
    · exact (hw _ (List.mem_of_getElem? (i := 23) rfl))
    · exact (hw _ (List.mem_of_getElem? (i := 33) rfl))
    · exact (hw _ (List.mem_of_getElem? (i := 31) rfl))
    · exact (hw _ (List.mem_of_getElem? (i := 43) rfl))
    · exact (hw _ (List.mem_of_getElem? (i := 44) rfl))
  have hS0 : s.Since s.vm h0.size := (State.WarmedH.refl s).since _
  have hk0 : h0.size ≤ h0.size := Nat.le_refl _
  have CR0 := CHr.refl hC
  have heq : ∀ d ∈ StrChars.Road.wordsEq, d.before a0 Z = true := fun d hd => hw d ((by decide +kernel : ∀ d ∈ StrChars.Road.wordsEq, d ∈ tables_1) d hd)
  show own_Go p.tables e below _ (s₁.setTop (mkF m 0 #[.val (.ref ar), .unset, .unset, .unset, .unset] []))
  refine own_st (fun _ k' => XS.aloadN X0.here hx rfl (hb hby d8_0) rfl rfl k') ?_
  show own_Go p.tables e below _ (s₁.setTop (mkF m 1 #[.val (.ref ar), .unset, .unset, .unset, .unset] [(.ref ar)]))
  refine own_st (fun _ k' => XS.astoreN X0.here hx rfl (hb hby d8_1) rfl rfl (l' := #[.val (.ref ar), .val (.ref ar), .unset, .unset, .unset]) rfl k') ?_
  show own_Go p.tables e below _ (s₁.setTop (mkF m 2 #[.val (.ref ar), .val (.ref ar), .unset, .unset, .unset] []))
  refine own_st (fun _ k' => XS.aloadN X0.here hx rfl (hb hby d8_2) rfl rfl k') ?_
  show own_Go p.tables e below _ (s₁.setTop (mkF m 3 #[.val (.ref ar), .val (.ref ar), .unset, .unset, .unset] [(.ref ar)]))
  obtain ⟨cl1, Ar1, qc1, Sz1, Nn1, Hs1, Gs1⟩ := id V_ar
  refine own_st (fun t' k' => X0.arraylength hx (by rw [e0]; exact Ar1.1) (State.isArrayOf_alike hZ.alike Ar1.2.1) (g := (mkF m 3 #[.val (.ref ar), .val (.ref ar), .unset, .unset, .unset] [(.ref ar)])) rfl rfl (hb hby d8_3) t' k') ?_
  rw [len_of Sz1 Nn1]
  show own_Go p.tables e below _ (s₁.setTop (mkF m 4 #[.val (.ref ar), .val (.ref ar), .unset, .unset, .unset] [(.int (1 : Int32))]))
  refine own_st (fun _ k' => XS.istoreN X0.here hx rfl (hb hby d8_4) rfl (l' := #[.val (.ref ar), .val (.ref ar), .val (.int (1 : Int32)), .unset, .unset]) rfl k') ?_
  show own_Go p.tables e below _ (s₁.setTop (mkF m 5 #[.val (.ref ar), .val (.ref ar), .val (.int (1 : Int32)), .unset, .unset] []))
  refine own_st (fun _ k' => XS.iconst X0.here hx rfl (hb hby d8_5) k') ?_
  show own_Go p.tables e below _ (s₁.setTop (mkF m 6 #[.val (.ref ar), .val (.ref ar), .val (.int (1 : Int32)), .unset, .unset] [(.int (0 : Int32))]))
  refine own_st (fun _ k' => XS.istoreN X0.here hx rfl (hb hby d8_6) rfl (l' := #[.val (.ref ar), .val (.ref ar), .val (.int (1 : Int32)), .val (.int (0 : Int32)), .unset]) rfl k') ?_
  show own_Go p.tables e below _ (s₁.setTop (mkF m 7 #[.val (.ref ar), .val (.ref ar), .val (.int (1 : Int32)), .val (.int (0 : Int32)), .unset] []))
  refine own_st (fun _ k' => XS.iloadN X0.here hx rfl (hb hby d8_7) rfl k') ?_
  show own_Go p.tables e below _ (s₁.setTop (mkF m 8 #[.val (.ref ar), .val (.ref ar), .val (.int (1 : Int32)), .val (.int (0 : Int32)), .unset] [(.int (0 : Int32))]))
  refine own_st (fun _ k' => XS.iloadN X0.here hx rfl (hb hby d8_8) rfl k') ?_
  show own_Go p.tables e below _ (s₁.setTop (mkF m 9 #[.val (.ref ar), .val (.ref ar), .val (.int (1 : Int32)), .val (.int (0 : Int32)), .unset] [(.int (1 : Int32)), (.int (0 : Int32))]))
  refine own_st (fun _ k' => XS.icmpNo X0.here hx rfl (hb hby d8_9) rfl (tlt (by decide : (0 : Int32) < (1 : Int32))).2.1 k') ?_
  show own_Go p.tables e below _ (s₁.setTop (mkF m 12 #[.val (.ref ar), .val (.ref ar), .val (.int (1 : Int32)), .val (.int (0 : Int32)), .unset] []))
  refine own_st (fun _ k' => XS.aloadN X0.here hx rfl (hb hby d8_12) rfl rfl k') ?_
  show own_Go p.tables e below _ (s₁.setTop (mkF m 13 #[.val (.ref ar), .val (.ref ar), .val (.int (1 : Int32)), .val (.int (0 : Int32)), .unset] [(.ref ar)]))
  refine own_st (fun _ k' => XS.iloadN X0.here hx rfl (hb hby d8_13) rfl k') ?_
  show own_Go p.tables e below _ (s₁.setTop (mkF m 14 #[.val (.ref ar), .val (.ref ar), .val (.int (1 : Int32)), .val (.int (0 : Int32)), .unset] [(.int (0 : Int32)), (.ref ar)]))
  obtain ⟨cl2, Ar2, qc2, Sz2, Nn2, Hs2, Gs2⟩ := id V_ar
  have hin2 : ¬ ((0 : Int32) < 0 ∨ cl2.slots.size ≤ ((0 : Int32)).toNatClampNeg) := inb_of Sz2 ⟨by decide, by decide⟩
  have hat2 : cl2.slots[((0 : Int32)).toNatClampNeg]? = some (.ref b0_) := Hs2.at hin2 rfl
  refine own_st (fun t' k' => X0.aaload hx (j := (0 : Int32)) (v := (.ref b0_)) (by rw [e0]; exact Ar2.1) (State.isArrayOf_alike hZ.alike Ar2.2.1) rfl Ar2.2.2 hin2 hat2 (g := (mkF m 14 #[.val (.ref ar), .val (.ref ar), .val (.int (1 : Int32)), .val (.int (0 : Int32)), .unset] [(.int (0 : Int32)), (.ref ar)])) rfl rfl (hb hby d8_14) t' k') ?_
  show own_Go p.tables e below _ (s₁.setTop (mkF m 15 #[.val (.ref ar), .val (.ref ar), .val (.int (1 : Int32)), .val (.int (0 : Int32)), .unset] [(.ref b0_)]))
  refine own_st (fun _ k' => XS.astore X0.here hx rfl (hb hby d8_15) rfl rfl (l' := #[.val (.ref ar), .val (.ref ar), .val (.int (1 : Int32)), .val (.int (0 : Int32)), .val (.ref b0_)]) rfl k') ?_
  show own_Go p.tables e below _ (s₁.setTop (mkF m 17 #[.val (.ref ar), .val (.ref ar), .val (.int (1 : Int32)), .val (.int (0 : Int32)), .val (.ref b0_)] []))
  refine own_st (fun _ k' => XS.aload X0.here hx rfl (hb hby d8_17) rfl rfl k') ?_
  show own_Go p.tables e below _ (s₁.setTop (mkF m 19 #[.val (.ref ar), .val (.ref ar), .val (.int (1 : Int32)), .val (.int (0 : Int32)), .val (.ref b0_)] [(.ref b0_)]))
  obtain ⟨a3, T3, h3, k13, b3, kb3, X3, e3, E3, hS3, hk3, hZ, hown, El3, Fc3, Fv3, Vt3, -, -, CRl3, -, hne3, st3⟩ := ldcCH X0 hx hZ hown (hw _ (List.mem_of_getElem? (i := 42) rfl)) hSA e0 hS0 hk0 hEL (by decide) hC (vs := (((own_J : List Int32).map (fun c => c.toInt8.toInt32)).map Value.int)) (z := 6) ⟨by decide, by decide⟩ (by decide) (by decide) (g := (mkF m 19 #[.val (.ref ar), .val (.ref ar), .val (.int (1 : Int32)), .val (.int (0 : Int32)), .val (.ref b0_)] [(.ref b0_)])) rfl (hb hby d8_19) (n := 24) (by decide) (by decide) (by decide) (by decide)
  have CR3 := CR0.trans CRl3
  have O__x4 := O_.ext E3
  have E0__x5 := E0_.ext E3
  have C0__x6 := C0_.ext E3
  have W0__x7 := W0_.ext E3
  have K0__x8 := K0_.ext E3
  have V_ar_x9 := V_ar.ext E3
  have K10 : Keep h0 h3 [] := (Keep.refl h0 []).ext E3
  have ZE3 : n0 ≤ h3.size := Nat.le_trans Z0 E3.1
  refine own_st st3 ?_
  show own_Go p.tables e below _ (T3.setTop (mkF m 21 #[.val (.ref ar), .val (.ref ar), .val (.int (1 : Int32)), .val (.int (0 : Int32)), .val (.ref b0_)] [(.ref a3), (.ref b0_)]))
  have hcJ11 : StrChars.Road.CodA own_J 0 (6 : Int32) ((own_J.map (fun c => c.toInt8.toInt32)).map Value.int) := StrChars.Road.codOf (n := 6) rfl (fun x hx => (own_J_in x hx).2)
  have hcX11 : StrChars.Road.CodA cs0_ 0 (Int32.ofNat cs0_.length) ((cs0_.map (fun c => c.toInt8.toInt32)).map Value.int) := StrChars.Road.codOf (n := cs0_.length) rfl (fun x hx => (hp0_ x hx).2)
  obtain ⟨cq11, kq11, q11a, q11b, q11c⟩ := isOf hZ e3 E0__x5
  obtain ⟨_, _, ⟨T11, L11, k11, n11⟩, -, X11, ⟨Lc11, hQ11, l11, y11, z11⟩, st11⟩ := X3.virtualBack hx (y := (⟨"java/lang/String", "equals", "(Ljava/lang/Object;)Z"⟩ : MethodName)) (z := (⟨"java/lang/String", "equals", "(Ljava/lang/Object;)Z"⟩ : MethodName)) hown (mvT hZ (hw _ (List.mem_of_getElem? (i := 45) rfl))) (mvT hZ (hw _ (List.mem_of_getElem? (i := 46) rfl))) (notFace_of_selects (args := #[]) (mvT hZ (hw _ (List.mem_of_getElem? (i := 48) rfl)))) (mvT hZ (hw _ (List.mem_of_getElem? (i := 48) rfl))) (mvT hZ (hw _ (List.mem_of_getElem? (i := 47) rfl))) (by decide) (StrChars.Road.eqW (W := 0) hZ heq (kI := 4) (hw _ (List.mem_of_getElem? (i := 6) rfl)) E0__x5 W0__x7 C0__x6 K0__x8 hcX11 (own_up cs0_ hp0_) (Nat.le_trans hl0_ (by decide)) El3 Fv3 Fc3 Vt3 hcJ11 (own_up own_J own_J_in) (by decide) (O2.ext O__x4.2) P5 (by decide) (by decide)) q11a q11c (g := (mkF m 21 #[.val (.ref ar), .val (.ref ar), .val (.int (1 : Int32)), .val (.int (0 : Int32)), .val (.ref b0_)] [(.ref a3), (.ref b0_)])) rfl (by rw [hml]; rfl) (Steps.refl _) (argsL := [(.ref a3)]) (rest := []) (lenOf pd__Ljava_lang_Object__Z rfl) rfl (by show 2 * 0 + _ ≤ _; exact Nat.le_of_eq rfl) (hb hby d8_21) (fun _ _ => ⟨rfl, e3, (by decide : 2 + 0 ≤ _), (by decide : 28 + 0 ≤ _)⟩)
  dsimp only [Pt.U, Pt.locs, Pt.cells, Pt.slots] at X11 l11 y11 z11 st11 hQ11
  subst l11 y11 z11
  obtain ⟨hD11, rfl, e11⟩ := hQ11
  have N11 := Fr.app N0 (Fr.nil n0)
  rcases hD11 with ⟨rfl, hc11⟩ | ⟨rfl, hc11⟩
  ·  -- alike
    refine own_tr st11 ?_
    show own_Go p.tables e below _ (T11.setTop (mkF m 24 #[.val (.ref ar), .val (.ref ar), .val (.int (1 : Int32)), .val (.int (0 : Int32)), .val (.ref b0_)] [(.int (1 : Int32))]))
    refine own_st (fun _ k' => XS.ifNo X11.here hx rfl (hb hby d8_24) rfl ((if0 _ _).trans (feq (by decide : ¬ (1 : Int32) = (0 : Int32))).1) k') ?_
    show own_Go p.tables e below _ (T11.setTop (mkF m 27 #[.val (.ref ar), .val (.ref ar), .val (.int (1 : Int32)), .val (.int (0 : Int32)), .val (.ref b0_)] []))
    refine own_st (fun _ k' => XS.iconst X11.here hx rfl (hb hby d8_27) k') ?_
    show own_Go p.tables e below _ (T11.setTop (mkF m 28 #[.val (.ref ar), .val (.ref ar), .val (.int (1 : Int32)), .val (.int (0 : Int32)), .val (.ref b0_)] [(.int (1 : Int32))]))
    have cr12 : CHr Z consts_1 s.vm s.heap T11.vm T11.heap := by rw [hh, e11]; exact CR3.trans (CHv.at X11 hZ hEL CRl3.1)
    exact own_retWN X11 hS3 (by rw [e11]; exact hk3) hx (t := .boolean) Bd.returns (by simp) (hb hby d8_28) Bd.notSynchronized ⟨Or.inl ⟨rfl, hc11⟩, N11, by rw [e11]; exact K10⟩ cr12 (by decide) (by decide)
  ·  -- unlike
    refine own_tr st11 ?_
    show own_Go p.tables e below _ (T11.setTop (mkF m 24 #[.val (.ref ar), .val (.ref ar), .val (.int (1 : Int32)), .val (.int (0 : Int32)), .val (.ref b0_)] [(.int (0 : Int32))]))
    refine own_st (fun _ k' => XS.ifYes X11.here hx rfl (pc0 := 24) (pc' := 29) rfl (hb hby d8_24) rfl ((if0 _ _).trans (teq (by decide : (0 : Int32) = (0 : Int32))).1) (by decide) (by decide) k') ?_
    show own_Go p.tables e below _ (T11.setTop (mkF m 29 #[.val (.ref ar), .val (.ref ar), .val (.int (1 : Int32)), .val (.int (0 : Int32)), .val (.ref b0_)] []))
    refine own_st (fun _ k' => XS.iinc X11.here hx rfl (hb hby d8_29) rfl (l' := #[.val (.ref ar), .val (.ref ar), .val (.int (1 : Int32)), .val (.int (1 : Int32)), .val (.ref b0_)]) rfl k') ?_
    show own_Go p.tables e below _ (T11.setTop (mkF m 32 #[.val (.ref ar), .val (.ref ar), .val (.int (1 : Int32)), .val (.int (1 : Int32)), .val (.ref b0_)] []))
    refine own_st (fun _ k' => XS.goto X11.here hx rfl (pc0 := 32) (pc' := 7) rfl (hb hby d8_32) (by decide) (by decide) k') ?_
    show own_Go p.tables e below _ (T11.setTop (mkF m 7 #[.val (.ref ar), .val (.ref ar), .val (.int (1 : Int32)), .val (.int (1 : Int32)), .val (.ref b0_)] []))
    refine own_st (fun _ k' => XS.iloadN X11.here hx rfl (hb hby d8_7) rfl k') ?_
    show own_Go p.tables e below _ (T11.setTop (mkF m 8 #[.val (.ref ar), .val (.ref ar), .val (.int (1 : Int32)), .val (.int (1 : Int32)), .val (.ref b0_)] [(.int (1 : Int32))]))
    refine own_st (fun _ k' => XS.iloadN X11.here hx rfl (hb hby d8_8) rfl k') ?_
    show own_Go p.tables e below _ (T11.setTop (mkF m 9 #[.val (.ref ar), .val (.ref ar), .val (.int (1 : Int32)), .val (.int (1 : Int32)), .val (.ref b0_)] [(.int (1 : Int32)), (.int (1 : Int32))]))
    refine own_st (fun _ k' => XS.icmpYes X11.here hx rfl (pc0 := 9) (pc' := 35) rfl (hb hby d8_9) rfl (flt (by decide : ¬ (1 : Int32) < (1 : Int32))).2.1 (by decide) (by decide) k') ?_
    show own_Go p.tables e below _ (T11.setTop (mkF m 35 #[.val (.ref ar), .val (.ref ar), .val (.int (1 : Int32)), .val (.int (1 : Int32)), .val (.ref b0_)] []))
    refine own_st (fun _ k' => XS.iconst X11.here hx rfl (hb hby d8_35) k') ?_
    show own_Go p.tables e below _ (T11.setTop (mkF m 36 #[.val (.ref ar), .val (.ref ar), .val (.int (1 : Int32)), .val (.int (1 : Int32)), .val (.ref b0_)] [(.int (0 : Int32))]))
    have cr13 : CHr Z consts_1 s.vm s.heap T11.vm T11.heap := by rw [hh, e11]; exact CR3.trans (CHv.at X11 hZ hEL CRl3.1)
    exact own_retWN X11 hS3 (by rw [e11]; exact hk3) hx (t := .boolean) Bd.returns (by simp) (hb hby d8_36) Bd.notSynchronized ⟨Or.inr ⟨rfl, hc11⟩, N11, by rw [e11]; exact K10⟩ cr13 (by decide) (by decide)

theorem ef_rmAs2 (m : MethodId) (x0 : Addr) : entryFrame m #[(.ref x0)] 5 = mkF m 0 #[.val (.ref x0), .unset, .unset, .unset, .unset] [] := by first | (simp [entryFrame, mkF, argsToLocals, Value.category]; done) | rfl
def Q_rmAs2 (Z : State) (ar : Addr) (ka : ClassId) (b0_ t0_ : Addr) (kb0_ : ClassId) (cs0_ : List Int32) (b1_ t1_ : Addr) (kb1_ : ClassId) (cs1_ : List Int32) (G1 : Int32) (G3 : Value) (h0 : Heap) (n0 : Nat) (v : Option Value) (h : Heap) (L : List Loc) : Prop := ((v = some (.int 1) ∧ (cs0_ = own_J ∨ cs1_ = own_J)) ∨ (v = some (.int 0) ∧ ¬ (cs0_ = own_J ∨ cs1_ = own_J))) ∧ Fr n0 L ∧ Keep h0 h []
def K_rmAs2 (Z : State) (ar : Addr) (ka : ClassId) (b0_ t0_ : Addr) (kb0_ : ClassId) (cs0_ : List Int32) (b1_ t1_ : Addr) (kb1_ : ClassId) (cs1_ : List Int32) (G1 : Int32) (G3 : Value) (h0 : Heap) (n0 : Nat) (s : State) : Outcome → State → Prop := fun oo U' => ∃ v L, oo = .returned v ∧ Q_rmAs2 Z ar ka b0_ t0_ kb0_ cs0_ b1_ t1_ kb1_ cs1_ G1 G3 h0 n0 v U'.heap L ∧ CHr Z consts_1 s.vm s.heap U'.vm U'.heap ∧ ReturnedEndW s oo U' L ({ frames := 2, cells := 4, slots := 56, locals := 28 } : Room).cells ({ frames := 2, cells := 4, slots := 56, locals := 28 } : Room).slots
set_option maxRecDepth 65536 in
set_option maxHeartbeats 40000000 in
theorem rmAs2 (l : Launch) (Z : State) (a0 : Array Value) (hw : ∀ d ∈ tables_1, d.before a0 Z = true) (ws : List Jvm.Cond) (ar : Addr) (ka : ClassId) (b0_ t0_ : Addr) (kb0_ : ClassId) (cs0_ : List Int32) (b1_ t1_ : Addr) (kb1_ : ClassId) (cs1_ : List Int32) (G1 : Int32) (G3 : Value) (h0 : Heap) (n0 : Nat) (Z0 : n0 ≤ h0.size)  (E0_ : Exa Z h0 b0_ "java/lang/String") (C0_ : Fld Z h0 b0_ "java/lang/String" "coder" "B" (.int (0 : Int32))) (W0_ : Fld Z h0 b0_ "java/lang/String" "value" "[B" (.ref t0_)) (K0_ : Arv Z h0 t0_ kb0_ .byte (Int32.ofNat cs0_.length) ((cs0_.map (fun c => c.toInt8.toInt32)).map Value.int) (.int (0 : Int32))) (hp0_ : ∀ c ∈ cs0_, ¬ c < 0 ∧ ¬ (255 : Int32) < c) (hl0_ : cs0_.length ≤ 7) (E1_ : Exa Z h0 b1_ "java/lang/String") (C1_ : Fld Z h0 b1_ "java/lang/String" "coder" "B" (.int (0 : Int32))) (W1_ : Fld Z h0 b1_ "java/lang/String" "value" "[B" (.ref t1_)) (K1_ : Arv Z h0 t1_ kb1_ .byte (Int32.ofNat cs1_.length) ((cs1_.map (fun c => c.toInt8.toInt32)).map Value.int) (.int (0 : Int32))) (hp1_ : ∀ c ∈ cs1_, ¬ c < 0 ∧ ¬ (255 : Int32) < c) (hl1_ : cs1_.length ≤ 7) (V_ar : Arv Z h0 ar ka (.object "java/lang/String") (2 : Int32) [(.ref b0_), (.ref b1_)] .null) (hEL : EW Z a0 consts_1) (O2 : Sta Z Z.heap "java/lang/String" "COMPACT_STRINGS" "Z" (.int G1)) (O4 : Sta Z Z.heap "jdk/internal/util/Preconditions" "SIOOBE_FORMATTER" "Ljava/util/function/BiFunction;" G3) (P5 : ¬ (G1 = (0 : Int32))) (rG3 : G3.isRef = true) (O_ : Old Z n0 h0) :
    MetFree l (⟨"com/example/frozen_thread/frozenthread/cli/FormReporter", "asksForJson", "([Ljava/lang/String;)Z"⟩ : MethodName) (head1 (Jvm.Cond.code (⟨"com/example/frozen_thread/frozenthread/cli/FormReporter", "asksForJson", "([Ljava/lang/String;)Z"⟩ : MethodName) prog_35_method_2_code 5 (some .boolean) :: ws) ({ frames := 2, cells := 4, slots := 56, locals := 28 } : Room)) (fun as_ U => as_ = #[(.ref ar)] ∧ Z.Warmed39 U.vm ∧ U.heap = h0 ∧ CHv Z consts_1 U.vm h0) (fun _ _ _ _ _ => True) (fun _ U oo U' => ∃ v L, oo = .returned v ∧ Q_rmAs2 Z ar ka b0_ t0_ kb0_ cs0_ b1_ t1_ kb1_ cs1_ G1 G3 h0 n0 v U'.heap L ∧ CHr Z consts_1 U.vm U.heap U'.vm U'.heap ∧ ReturnedEndW U oo U' L ({ frames := 2, cells := 4, slots := 56, locals := 28 } : Room).cells ({ frames := 2, cells := 4, slots := 56, locals := 28 } : Room).slots) := by
  refine MetFree.of_bodySF (plainFor_of_name pn_com_example_frozen_thread_frozenthread_cli_FormReporter) hisR ?_
  intro p e s m args below meth c s₁ Bd hml0 hP hK
  obtain ⟨rfl, hZ, hh, hC⟩ := hP
  have hx := Bd.exec
  have hby := Bd.bytes
  have hml : c.maxLocals = 5 := hml0
  have hown : s.vm.findClass "com/example/frozen_thread/frozenthread/cli/FormReporter" = some m.cls := findClass_of_methodNamed Bd.named
  have hnm := (name_of_methodNamed Bd.named Bd.method).1
  have X0 : Stand p l e ({ frames := 2, cells := 4, slots := 56, locals := 28 } : Room) (s.setVm s.vm) m #[(.ref ar)] below meth c s₁ [] 0 0 := Stand.of_body Bd
  have hZ : Z.Warmed39 (s.setVm s.vm).vm := hZ
  have hown : (s.setVm s.vm).vm.findClass "com/example/frozen_thread/frozenthread/cli/FormReporter" = some m.cls := hown
  have e0 : s₁.heap = h0 := by rw [← hh, Bd.state]; rfl
  have N0 := Fr.nil n0
  refine own_st (K := (K_rmAs2 Z ar ka b0_ t0_ kb0_ cs0_ b1_ t1_ kb1_ cs1_ G1 G3 h0 n0 s)) (fun t' k' => castTop (ef_rmAs2 m ar) k') ?_
  have hSA : ∀ a ∈ Bundle.stringAtoms, a.before a0 Z = true := by
    intro a ha
    simp only [Bundle.stringAtoms, List.mem_cons, List.not_mem_nil, or_false] at ha
    rcases ha with rfl | rfl | rfl | rfl | rfl | rfl | rfl
    · exact (hw _ (List.mem_of_getElem? (i := 7) rfl))
    · exact (hw _ (List.mem_of_getElem? (i := 6) rfl))
    · exact (hw _ (List.mem_of_getElem? (i := 23) rfl))
    · exact (hw _ (List.mem_of_getElem? (i := 33) rfl))
    · exact (hw _ (List.mem_of_getElem? (i := 31) rfl))
    · exact (hw _ (List.mem_of_getElem? (i := 43) rfl))
    · exact (hw _ (List.mem_of_getElem? (i := 44) rfl))
  have hS0 : s.Since s.vm h0.size := (State.WarmedH.refl s).since _
  have hk0 : h0.size ≤ h0.size := Nat.le_refl _
  have CR0 := CHr.refl hC
  have heq : ∀ d ∈ StrChars.Road.wordsEq, d.before a0 Z = true := fun d hd => hw d ((by decide +kernel : ∀ d ∈ StrChars.Road.wordsEq, d ∈ tables_1) d hd)
  show own_Go p.tables e below _ (s₁.setTop (mkF m 0 #[.val (.ref ar), .unset, .unset, .unset, .unset] []))
  refine own_st (fun _ k' => XS.aloadN X0.here hx rfl (hb hby d8_0) rfl rfl k') ?_
  show own_Go p.tables e below _ (s₁.setTop (mkF m 1 #[.val (.ref ar), .unset, .unset, .unset, .unset] [(.ref ar)]))
  refine own_st (fun _ k' => XS.astoreN X0.here hx rfl (hb hby d8_1) rfl rfl (l' := #[.val (.ref ar), .val (.ref ar), .unset, .unset, .unset]) rfl k') ?_
  show own_Go p.tables e below _ (s₁.setTop (mkF m 2 #[.val (.ref ar), .val (.ref ar), .unset, .unset, .unset] []))
  refine own_st (fun _ k' => XS.aloadN X0.here hx rfl (hb hby d8_2) rfl rfl k') ?_
  show own_Go p.tables e below _ (s₁.setTop (mkF m 3 #[.val (.ref ar), .val (.ref ar), .unset, .unset, .unset] [(.ref ar)]))
  obtain ⟨cl1, Ar1, qc1, Sz1, Nn1, Hs1, Gs1⟩ := id V_ar
  refine own_st (fun t' k' => X0.arraylength hx (by rw [e0]; exact Ar1.1) (State.isArrayOf_alike hZ.alike Ar1.2.1) (g := (mkF m 3 #[.val (.ref ar), .val (.ref ar), .unset, .unset, .unset] [(.ref ar)])) rfl rfl (hb hby d8_3) t' k') ?_
  rw [len_of Sz1 Nn1]
  show own_Go p.tables e below _ (s₁.setTop (mkF m 4 #[.val (.ref ar), .val (.ref ar), .unset, .unset, .unset] [(.int (2 : Int32))]))
  refine own_st (fun _ k' => XS.istoreN X0.here hx rfl (hb hby d8_4) rfl (l' := #[.val (.ref ar), .val (.ref ar), .val (.int (2 : Int32)), .unset, .unset]) rfl k') ?_
  show own_Go p.tables e below _ (s₁.setTop (mkF m 5 #[.val (.ref ar), .val (.ref ar), .val (.int (2 : Int32)), .unset, .unset] []))
  refine own_st (fun _ k' => XS.iconst X0.here hx rfl (hb hby d8_5) k') ?_
  show own_Go p.tables e below _ (s₁.setTop (mkF m 6 #[.val (.ref ar), .val (.ref ar), .val (.int (2 : Int32)), .unset, .unset] [(.int (0 : Int32))]))
  refine own_st (fun _ k' => XS.istoreN X0.here hx rfl (hb hby d8_6) rfl (l' := #[.val (.ref ar), .val (.ref ar), .val (.int (2 : Int32)), .val (.int (0 : Int32)), .unset]) rfl k') ?_
  show own_Go p.tables e below _ (s₁.setTop (mkF m 7 #[.val (.ref ar), .val (.ref ar), .val (.int (2 : Int32)), .val (.int (0 : Int32)), .unset] []))
  refine own_st (fun _ k' => XS.iloadN X0.here hx rfl (hb hby d8_7) rfl k') ?_
  show own_Go p.tables e below _ (s₁.setTop (mkF m 8 #[.val (.ref ar), .val (.ref ar), .val (.int (2 : Int32)), .val (.int (0 : Int32)), .unset] [(.int (0 : Int32))]))
  refine own_st (fun _ k' => XS.iloadN X0.here hx rfl (hb hby d8_8) rfl k') ?_
  show own_Go p.tables e below _ (s₁.setTop (mkF m 9 #[.val (.ref ar), .val (.ref ar), .val (.int (2 : Int32)), .val (.int (0 : Int32)), .unset] [(.int (2 : Int32)), (.int (0 : Int32))]))
  refine own_st (fun _ k' => XS.icmpNo X0.here hx rfl (hb hby d8_9) rfl (tlt (by decide : (0 : Int32) < (2 : Int32))).2.1 k') ?_
  show own_Go p.tables e below _ (s₁.setTop (mkF m 12 #[.val (.ref ar), .val (.ref ar), .val (.int (2 : Int32)), .val (.int (0 : Int32)), .unset] []))
  refine own_st (fun _ k' => XS.aloadN X0.here hx rfl (hb hby d8_12) rfl rfl k') ?_
  show own_Go p.tables e below _ (s₁.setTop (mkF m 13 #[.val (.ref ar), .val (.ref ar), .val (.int (2 : Int32)), .val (.int (0 : Int32)), .unset] [(.ref ar)]))
  refine own_st (fun _ k' => XS.iloadN X0.here hx rfl (hb hby d8_13) rfl k') ?_
  show own_Go p.tables e below _ (s₁.setTop (mkF m 14 #[.val (.ref ar), .val (.ref ar), .val (.int (2 : Int32)), .val (.int (0 : Int32)), .unset] [(.int (0 : Int32)), (.ref ar)]))
  obtain ⟨cl2, Ar2, qc2, Sz2, Nn2, Hs2, Gs2⟩ := id V_ar
  have hin2 : ¬ ((0 : Int32) < 0 ∨ cl2.slots.size ≤ ((0 : Int32)).toNatClampNeg) := inb_of Sz2 ⟨by decide, by decide⟩
  have hat2 : cl2.slots[((0 : Int32)).toNatClampNeg]? = some (.ref b0_) := Hs2.at hin2 rfl
  refine own_st (fun t' k' => X0.aaload hx (j := (0 : Int32)) (v := (.ref b0_)) (by rw [e0]; exact Ar2.1) (State.isArrayOf_alike hZ.alike Ar2.2.1) rfl Ar2.2.2 hin2 hat2 (g := (mkF m 14 #[.val (.ref ar), .val (.ref ar), .val (.int (2 : Int32)), .val (.int (0 : Int32)), .unset] [(.int (0 : Int32)), (.ref ar)])) rfl rfl (hb hby d8_14) t' k') ?_
  show own_Go p.tables e below _ (s₁.setTop (mkF m 15 #[.val (.ref ar), .val (.ref ar), .val (.int (2 : Int32)), .val (.int (0 : Int32)), .unset] [(.ref b0_)]))
  refine own_st (fun _ k' => XS.astore X0.here hx rfl (hb hby d8_15) rfl rfl (l' := #[.val (.ref ar), .val (.ref ar), .val (.int (2 : Int32)), .val (.int (0 : Int32)), .val (.ref b0_)]) rfl k') ?_
  show own_Go p.tables e below _ (s₁.setTop (mkF m 17 #[.val (.ref ar), .val (.ref ar), .val (.int (2 : Int32)), .val (.int (0 : Int32)), .val (.ref b0_)] []))
  refine own_st (fun _ k' => XS.aload X0.here hx rfl (hb hby d8_17) rfl rfl k') ?_
  show own_Go p.tables e below _ (s₁.setTop (mkF m 19 #[.val (.ref ar), .val (.ref ar), .val (.int (2 : Int32)), .val (.int (0 : Int32)), .val (.ref b0_)] [(.ref b0_)]))
  obtain ⟨a3, T3, h3, k13, b3, kb3, X3, e3, E3, hS3, hk3, hZ, hown, El3, Fc3, Fv3, Vt3, -, -, CRl3, -, hne3, st3⟩ := ldcCH X0 hx hZ hown (hw _ (List.mem_of_getElem? (i := 42) rfl)) hSA e0 hS0 hk0 hEL (by decide) hC (vs := (((own_J : List Int32).map (fun c => c.toInt8.toInt32)).map Value.int)) (z := 6) ⟨by decide, by decide⟩ (by decide) (by decide) (g := (mkF m 19 #[.val (.ref ar), .val (.ref ar), .val (.int (2 : Int32)), .val (.int (0 : Int32)), .val (.ref b0_)] [(.ref b0_)])) rfl (hb hby d8_19) (n := 24) (by decide) (by decide) (by decide) (by decide)
  have CR3 := CR0.trans CRl3
  have O__x4 := O_.ext E3
  have E0__x5 := E0_.ext E3
  have C0__x6 := C0_.ext E3
  have W0__x7 := W0_.ext E3
  have K0__x8 := K0_.ext E3
  have E1__x9 := E1_.ext E3
  have C1__x10 := C1_.ext E3
  have W1__x11 := W1_.ext E3
  have K1__x12 := K1_.ext E3
  have V_ar_x13 := V_ar.ext E3
  have K14 : Keep h0 h3 [] := (Keep.refl h0 []).ext E3
  have ZE3 : n0 ≤ h3.size := Nat.le_trans Z0 E3.1
  refine own_st st3 ?_
  show own_Go p.tables e below _ (T3.setTop (mkF m 21 #[.val (.ref ar), .val (.ref ar), .val (.int (2 : Int32)), .val (.int (0 : Int32)), .val (.ref b0_)] [(.ref a3), (.ref b0_)]))
  have hcJ15 : StrChars.Road.CodA own_J 0 (6 : Int32) ((own_J.map (fun c => c.toInt8.toInt32)).map Value.int) := StrChars.Road.codOf (n := 6) rfl (fun x hx => (own_J_in x hx).2)
  have hcX15 : StrChars.Road.CodA cs0_ 0 (Int32.ofNat cs0_.length) ((cs0_.map (fun c => c.toInt8.toInt32)).map Value.int) := StrChars.Road.codOf (n := cs0_.length) rfl (fun x hx => (hp0_ x hx).2)
  obtain ⟨cq15, kq15, q15a, q15b, q15c⟩ := isOf hZ e3 E0__x5
  obtain ⟨_, _, ⟨T15, L15, k15, n15⟩, -, X15, ⟨Lc15, hQ15, l15, y15, z15⟩, st15⟩ := X3.virtualBack hx (y := (⟨"java/lang/String", "equals", "(Ljava/lang/Object;)Z"⟩ : MethodName)) (z := (⟨"java/lang/String", "equals", "(Ljava/lang/Object;)Z"⟩ : MethodName)) hown (mvT hZ (hw _ (List.mem_of_getElem? (i := 45) rfl))) (mvT hZ (hw _ (List.mem_of_getElem? (i := 46) rfl))) (notFace_of_selects (args := #[]) (mvT hZ (hw _ (List.mem_of_getElem? (i := 48) rfl)))) (mvT hZ (hw _ (List.mem_of_getElem? (i := 48) rfl))) (mvT hZ (hw _ (List.mem_of_getElem? (i := 47) rfl))) (by decide) (StrChars.Road.eqW (W := 0) hZ heq (kI := 4) (hw _ (List.mem_of_getElem? (i := 6) rfl)) E0__x5 W0__x7 C0__x6 K0__x8 hcX15 (own_up cs0_ hp0_) (Nat.le_trans hl0_ (by decide)) El3 Fv3 Fc3 Vt3 hcJ15 (own_up own_J own_J_in) (by decide) (O2.ext O__x4.2) P5 (by decide) (by decide)) q15a q15c (g := (mkF m 21 #[.val (.ref ar), .val (.ref ar), .val (.int (2 : Int32)), .val (.int (0 : Int32)), .val (.ref b0_)] [(.ref a3), (.ref b0_)])) rfl (by rw [hml]; rfl) (Steps.refl _) (argsL := [(.ref a3)]) (rest := []) (lenOf pd__Ljava_lang_Object__Z rfl) rfl (by show 2 * 0 + _ ≤ _; exact Nat.le_of_eq rfl) (hb hby d8_21) (fun _ _ => ⟨rfl, e3, (by decide : 2 + 0 ≤ _), (by decide : 28 + 0 ≤ _)⟩)
  dsimp only [Pt.U, Pt.locs, Pt.cells, Pt.slots] at X15 l15 y15 z15 st15 hQ15
  subst l15 y15 z15
  obtain ⟨hD15, rfl, e15⟩ := hQ15
  have N15 := Fr.app N0 (Fr.nil n0)
  rcases hD15 with ⟨rfl, hc15⟩ | ⟨rfl, hc15⟩
  ·  -- alike
    refine own_tr st15 ?_
    show own_Go p.tables e below _ (T15.setTop (mkF m 24 #[.val (.ref ar), .val (.ref ar), .val (.int (2 : Int32)), .val (.int (0 : Int32)), .val (.ref b0_)] [(.int (1 : Int32))]))
    refine own_st (fun _ k' => XS.ifNo X15.here hx rfl (hb hby d8_24) rfl ((if0 _ _).trans (feq (by decide : ¬ (1 : Int32) = (0 : Int32))).1) k') ?_
    show own_Go p.tables e below _ (T15.setTop (mkF m 27 #[.val (.ref ar), .val (.ref ar), .val (.int (2 : Int32)), .val (.int (0 : Int32)), .val (.ref b0_)] []))
    refine own_st (fun _ k' => XS.iconst X15.here hx rfl (hb hby d8_27) k') ?_
    show own_Go p.tables e below _ (T15.setTop (mkF m 28 #[.val (.ref ar), .val (.ref ar), .val (.int (2 : Int32)), .val (.int (0 : Int32)), .val (.ref b0_)] [(.int (1 : Int32))]))
    have cr16 : CHr Z consts_1 s.vm s.heap T15.vm T15.heap := by rw [hh, e15]; exact CR3.trans (CHv.at X15 hZ hEL CRl3.1)
    exact own_retWN X15 hS3 (by rw [e15]; exact hk3) hx (t := .boolean) Bd.returns (by simp) (hb hby d8_28) Bd.notSynchronized ⟨Or.inl ⟨rfl, Or.inl hc15⟩, N15, by rw [e15]; exact K14⟩ cr16 (by decide) (by decide)
  ·  -- unlike
    refine own_tr st15 ?_
    show own_Go p.tables e below _ (T15.setTop (mkF m 24 #[.val (.ref ar), .val (.ref ar), .val (.int (2 : Int32)), .val (.int (0 : Int32)), .val (.ref b0_)] [(.int (0 : Int32))]))
    refine own_st (fun _ k' => XS.ifYes X15.here hx rfl (pc0 := 24) (pc' := 29) rfl (hb hby d8_24) rfl ((if0 _ _).trans (teq (by decide : (0 : Int32) = (0 : Int32))).1) (by decide) (by decide) k') ?_
    show own_Go p.tables e below _ (T15.setTop (mkF m 29 #[.val (.ref ar), .val (.ref ar), .val (.int (2 : Int32)), .val (.int (0 : Int32)), .val (.ref b0_)] []))
    refine own_st (fun _ k' => XS.iinc X15.here hx rfl (hb hby d8_29) rfl (l' := #[.val (.ref ar), .val (.ref ar), .val (.int (2 : Int32)), .val (.int (1 : Int32)), .val (.ref b0_)]) rfl k') ?_
    show own_Go p.tables e below _ (T15.setTop (mkF m 32 #[.val (.ref ar), .val (.ref ar), .val (.int (2 : Int32)), .val (.int (1 : Int32)), .val (.ref b0_)] []))
    refine own_st (fun _ k' => XS.goto X15.here hx rfl (pc0 := 32) (pc' := 7) rfl (hb hby d8_32) (by decide) (by decide) k') ?_
    show own_Go p.tables e below _ (T15.setTop (mkF m 7 #[.val (.ref ar), .val (.ref ar), .val (.int (2 : Int32)), .val (.int (1 : Int32)), .val (.ref b0_)] []))
    refine own_st (fun _ k' => XS.iloadN X15.here hx rfl (hb hby d8_7) rfl k') ?_
    show own_Go p.tables e below _ (T15.setTop (mkF m 8 #[.val (.ref ar), .val (.ref ar), .val (.int (2 : Int32)), .val (.int (1 : Int32)), .val (.ref b0_)] [(.int (1 : Int32))]))
    refine own_st (fun _ k' => XS.iloadN X15.here hx rfl (hb hby d8_8) rfl k') ?_
    show own_Go p.tables e below _ (T15.setTop (mkF m 9 #[.val (.ref ar), .val (.ref ar), .val (.int (2 : Int32)), .val (.int (1 : Int32)), .val (.ref b0_)] [(.int (2 : Int32)), (.int (1 : Int32))]))
    refine own_st (fun _ k' => XS.icmpNo X15.here hx rfl (hb hby d8_9) rfl (tlt (by decide : (1 : Int32) < (2 : Int32))).2.1 k') ?_
    show own_Go p.tables e below _ (T15.setTop (mkF m 12 #[.val (.ref ar), .val (.ref ar), .val (.int (2 : Int32)), .val (.int (1 : Int32)), .val (.ref b0_)] []))
    refine own_st (fun _ k' => XS.aloadN X15.here hx rfl (hb hby d8_12) rfl rfl k') ?_
    show own_Go p.tables e below _ (T15.setTop (mkF m 13 #[.val (.ref ar), .val (.ref ar), .val (.int (2 : Int32)), .val (.int (1 : Int32)), .val (.ref b0_)] [(.ref ar)]))
    refine own_st (fun _ k' => XS.iloadN X15.here hx rfl (hb hby d8_13) rfl k') ?_
    show own_Go p.tables e below _ (T15.setTop (mkF m 14 #[.val (.ref ar), .val (.ref ar), .val (.int (2 : Int32)), .val (.int (1 : Int32)), .val (.ref b0_)] [(.int (1 : Int32)), (.ref ar)]))
    obtain ⟨cl17, Ar17, qc17, Sz17, Nn17, Hs17, Gs17⟩ := id V_ar_x13
    have hin17 : ¬ ((1 : Int32) < 0 ∨ cl17.slots.size ≤ ((1 : Int32)).toNatClampNeg) := inb_of Sz17 ⟨by decide, by decide⟩
    have hat17 : cl17.slots[((1 : Int32)).toNatClampNeg]? = some (.ref b1_) := Hs17.at hin17 rfl
    refine own_st (fun t' k' => X15.aaload hx (j := (1 : Int32)) (v := (.ref b1_)) (by rw [e15]; exact Ar17.1) (State.isArrayOf_alike hZ.alike Ar17.2.1) rfl Ar17.2.2 hin17 hat17 (g := (mkF m 14 #[.val (.ref ar), .val (.ref ar), .val (.int (2 : Int32)), .val (.int (1 : Int32)), .val (.ref b0_)] [(.int (1 : Int32)), (.ref ar)])) rfl rfl (hb hby d8_14) t' k') ?_
    show own_Go p.tables e below _ (T15.setTop (mkF m 15 #[.val (.ref ar), .val (.ref ar), .val (.int (2 : Int32)), .val (.int (1 : Int32)), .val (.ref b0_)] [(.ref b1_)]))
    refine own_st (fun _ k' => XS.astore X15.here hx rfl (hb hby d8_15) rfl rfl (l' := #[.val (.ref ar), .val (.ref ar), .val (.int (2 : Int32)), .val (.int (1 : Int32)), .val (.ref b1_)]) rfl k') ?_
    show own_Go p.tables e below _ (T15.setTop (mkF m 17 #[.val (.ref ar), .val (.ref ar), .val (.int (2 : Int32)), .val (.int (1 : Int32)), .val (.ref b1_)] []))
    refine own_st (fun _ k' => XS.aload X15.here hx rfl (hb hby d8_17) rfl rfl k') ?_
    show own_Go p.tables e below _ (T15.setTop (mkF m 19 #[.val (.ref ar), .val (.ref ar), .val (.int (2 : Int32)), .val (.int (1 : Int32)), .val (.ref b1_)] [(.ref b1_)]))
    obtain ⟨a18, T18, h18, k118, b18, kb18, X18, e18, E18, hS18, hk18, hZ, hown, El18, Fc18, Fv18, Vt18, -, -, CRl18, -, hne18, st18⟩ := ldcCH X15 hx hZ hown (hw _ (List.mem_of_getElem? (i := 42) rfl)) hSA e15 hS3 hk3 hEL (by decide) CRl3.1 (vs := (((own_J : List Int32).map (fun c => c.toInt8.toInt32)).map Value.int)) (z := 6) ⟨by decide, by decide⟩ (by decide) (by decide) (g := (mkF m 19 #[.val (.ref ar), .val (.ref ar), .val (.int (2 : Int32)), .val (.int (1 : Int32)), .val (.ref b1_)] [(.ref b1_)])) rfl (hb hby d8_19) (n := 24) (by decide) (by decide) (by decide) (by decide)
    have CR18 := CR3.trans CRl18
    have O__x19 := O__x4.ext E18
    have E0__x20 := E0__x5.ext E18
    have C0__x21 := C0__x6.ext E18
    have W0__x22 := W0__x7.ext E18
    have K0__x23 := K0__x8.ext E18
    have E1__x24 := E1__x9.ext E18
    have C1__x25 := C1__x10.ext E18
    have W1__x26 := W1__x11.ext E18
    have K1__x27 := K1__x12.ext E18
    have V_ar_x28 := V_ar_x13.ext E18
    have El3_x29 := El3.ext E18
    have Fc3_x30 := Fc3.ext E18
    have Fv3_x31 := Fv3.ext E18
    have Vt3_x32 := Vt3.ext E18
    have K33 : Keep h0 h18 [] := K14.ext E18
    have ZE18 : n0 ≤ h18.size := Nat.le_trans ZE3 E18.1
    refine own_st st18 ?_
    show own_Go p.tables e below _ (T18.setTop (mkF m 21 #[.val (.ref ar), .val (.ref ar), .val (.int (2 : Int32)), .val (.int (1 : Int32)), .val (.ref b1_)] [(.ref a18), (.ref b1_)]))
    have hcJ34 : StrChars.Road.CodA own_J 0 (6 : Int32) ((own_J.map (fun c => c.toInt8.toInt32)).map Value.int) := StrChars.Road.codOf (n := 6) rfl (fun x hx => (own_J_in x hx).2)
    have hcX34 : StrChars.Road.CodA cs1_ 0 (Int32.ofNat cs1_.length) ((cs1_.map (fun c => c.toInt8.toInt32)).map Value.int) := StrChars.Road.codOf (n := cs1_.length) rfl (fun x hx => (hp1_ x hx).2)
    obtain ⟨cq34, kq34, q34a, q34b, q34c⟩ := isOf hZ e18 E1__x24
    obtain ⟨_, _, ⟨T34, L34, k34, n34⟩, -, X34, ⟨Lc34, hQ34, l34, y34, z34⟩, st34⟩ := X18.virtualBack hx (y := (⟨"java/lang/String", "equals", "(Ljava/lang/Object;)Z"⟩ : MethodName)) (z := (⟨"java/lang/String", "equals", "(Ljava/lang/Object;)Z"⟩ : MethodName)) hown (mvT hZ (hw _ (List.mem_of_getElem? (i := 45) rfl))) (mvT hZ (hw _ (List.mem_of_getElem? (i := 46) rfl))) (notFace_of_selects (args := #[]) (mvT hZ (hw _ (List.mem_of_getElem? (i := 48) rfl)))) (mvT hZ (hw _ (List.mem_of_getElem? (i := 48) rfl))) (mvT hZ (hw _ (List.mem_of_getElem? (i := 47) rfl))) (by decide) (StrChars.Road.eqW (W := 0) hZ heq (kI := 4) (hw _ (List.mem_of_getElem? (i := 6) rfl)) E1__x24 W1__x26 C1__x25 K1__x27 hcX34 (own_up cs1_ hp1_) (Nat.le_trans hl1_ (by decide)) El18 Fv18 Fc18 Vt18 hcJ34 (own_up own_J own_J_in) (by decide) (O2.ext O__x19.2) P5 (by decide) (by decide)) q34a q34c (g := (mkF m 21 #[.val (.ref ar), .val (.ref ar), .val (.int (2 : Int32)), .val (.int (1 : Int32)), .val (.ref b1_)] [(.ref a18), (.ref b1_)])) rfl (by rw [hml]; rfl) (Steps.refl _) (argsL := [(.ref a18)]) (rest := []) (lenOf pd__Ljava_lang_Object__Z rfl) rfl (by show 2 * 0 + _ ≤ _; exact Nat.le_of_eq rfl) (hb hby d8_21) (fun _ _ => ⟨rfl, e18, (by decide : 4 + 0 ≤ _), (by decide : 56 + 0 ≤ _)⟩)
    dsimp only [Pt.U, Pt.locs, Pt.cells, Pt.slots] at X34 l34 y34 z34 st34 hQ34
    subst l34 y34 z34
    obtain ⟨hD34, rfl, e34⟩ := hQ34
    have N34 := Fr.app N15 (Fr.nil n0)
    rcases hD34 with ⟨rfl, hc34⟩ | ⟨rfl, hc34⟩
    ·  -- alike
      refine own_tr st34 ?_
      show own_Go p.tables e below _ (T34.setTop (mkF m 24 #[.val (.ref ar), .val (.ref ar), .val (.int (2 : Int32)), .val (.int (1 : Int32)), .val (.ref b1_)] [(.int (1 : Int32))]))
      refine own_st (fun _ k' => XS.ifNo X34.here hx rfl (hb hby d8_24) rfl ((if0 _ _).trans (feq (by decide : ¬ (1 : Int32) = (0 : Int32))).1) k') ?_
      show own_Go p.tables e below _ (T34.setTop (mkF m 27 #[.val (.ref ar), .val (.ref ar), .val (.int (2 : Int32)), .val (.int (1 : Int32)), .val (.ref b1_)] []))
      refine own_st (fun _ k' => XS.iconst X34.here hx rfl (hb hby d8_27) k') ?_
      show own_Go p.tables e below _ (T34.setTop (mkF m 28 #[.val (.ref ar), .val (.ref ar), .val (.int (2 : Int32)), .val (.int (1 : Int32)), .val (.ref b1_)] [(.int (1 : Int32))]))
      have cr35 : CHr Z consts_1 s.vm s.heap T34.vm T34.heap := by rw [hh, e34]; exact CR18.trans (CHv.at X34 hZ hEL CRl18.1)
      exact own_retWN X34 hS18 (by rw [e34]; exact hk18) hx (t := .boolean) Bd.returns (by simp) (hb hby d8_28) Bd.notSynchronized ⟨Or.inl ⟨rfl, Or.inr (hc34)⟩, N34, by rw [e34]; exact K33⟩ cr35 (by decide) (by decide)
    ·  -- unlike
      refine own_tr st34 ?_
      show own_Go p.tables e below _ (T34.setTop (mkF m 24 #[.val (.ref ar), .val (.ref ar), .val (.int (2 : Int32)), .val (.int (1 : Int32)), .val (.ref b1_)] [(.int (0 : Int32))]))
      refine own_st (fun _ k' => XS.ifYes X34.here hx rfl (pc0 := 24) (pc' := 29) rfl (hb hby d8_24) rfl ((if0 _ _).trans (teq (by decide : (0 : Int32) = (0 : Int32))).1) (by decide) (by decide) k') ?_
      show own_Go p.tables e below _ (T34.setTop (mkF m 29 #[.val (.ref ar), .val (.ref ar), .val (.int (2 : Int32)), .val (.int (1 : Int32)), .val (.ref b1_)] []))
      refine own_st (fun _ k' => XS.iinc X34.here hx rfl (hb hby d8_29) rfl (l' := #[.val (.ref ar), .val (.ref ar), .val (.int (2 : Int32)), .val (.int (2 : Int32)), .val (.ref b1_)]) rfl k') ?_
      show own_Go p.tables e below _ (T34.setTop (mkF m 32 #[.val (.ref ar), .val (.ref ar), .val (.int (2 : Int32)), .val (.int (2 : Int32)), .val (.ref b1_)] []))
      refine own_st (fun _ k' => XS.goto X34.here hx rfl (pc0 := 32) (pc' := 7) rfl (hb hby d8_32) (by decide) (by decide) k') ?_
      show own_Go p.tables e below _ (T34.setTop (mkF m 7 #[.val (.ref ar), .val (.ref ar), .val (.int (2 : Int32)), .val (.int (2 : Int32)), .val (.ref b1_)] []))
      refine own_st (fun _ k' => XS.iloadN X34.here hx rfl (hb hby d8_7) rfl k') ?_
      show own_Go p.tables e below _ (T34.setTop (mkF m 8 #[.val (.ref ar), .val (.ref ar), .val (.int (2 : Int32)), .val (.int (2 : Int32)), .val (.ref b1_)] [(.int (2 : Int32))]))
      refine own_st (fun _ k' => XS.iloadN X34.here hx rfl (hb hby d8_8) rfl k') ?_
      show own_Go p.tables e below _ (T34.setTop (mkF m 9 #[.val (.ref ar), .val (.ref ar), .val (.int (2 : Int32)), .val (.int (2 : Int32)), .val (.ref b1_)] [(.int (2 : Int32)), (.int (2 : Int32))]))
      refine own_st (fun _ k' => XS.icmpYes X34.here hx rfl (pc0 := 9) (pc' := 35) rfl (hb hby d8_9) rfl (flt (by decide : ¬ (2 : Int32) < (2 : Int32))).2.1 (by decide) (by decide) k') ?_
      show own_Go p.tables e below _ (T34.setTop (mkF m 35 #[.val (.ref ar), .val (.ref ar), .val (.int (2 : Int32)), .val (.int (2 : Int32)), .val (.ref b1_)] []))
      refine own_st (fun _ k' => XS.iconst X34.here hx rfl (hb hby d8_35) k') ?_
      show own_Go p.tables e below _ (T34.setTop (mkF m 36 #[.val (.ref ar), .val (.ref ar), .val (.int (2 : Int32)), .val (.int (2 : Int32)), .val (.ref b1_)] [(.int (0 : Int32))]))
      have cr36 : CHr Z consts_1 s.vm s.heap T34.vm T34.heap := by rw [hh, e34]; exact CR18.trans (CHv.at X34 hZ hEL CRl18.1)
      exact own_retWN X34 hS18 (by rw [e34]; exact hk18) hx (t := .boolean) Bd.returns (by simp) (hb hby d8_36) Bd.notSynchronized ⟨Or.inr ⟨rfl, fun q => q.elim hc15 hc34⟩, N34, by rw [e34]; exact K33⟩ cr36 (by decide) (by decide)

theorem ef_rmAs3 (m : MethodId) (x0 : Addr) : entryFrame m #[(.ref x0)] 5 = mkF m 0 #[.val (.ref x0), .unset, .unset, .unset, .unset] [] := by first | (simp [entryFrame, mkF, argsToLocals, Value.category]; done) | rfl
def Q_rmAs3 (Z : State) (ar : Addr) (ka : ClassId) (b0_ t0_ : Addr) (kb0_ : ClassId) (cs0_ : List Int32) (b1_ t1_ : Addr) (kb1_ : ClassId) (cs1_ : List Int32) (b2_ t2_ : Addr) (kb2_ : ClassId) (cs2_ : List Int32) (G1 : Int32) (G3 : Value) (h0 : Heap) (n0 : Nat) (v : Option Value) (h : Heap) (L : List Loc) : Prop := ((v = some (.int 1) ∧ (cs0_ = own_J ∨ cs1_ = own_J ∨ cs2_ = own_J)) ∨ (v = some (.int 0) ∧ ¬ (cs0_ = own_J ∨ cs1_ = own_J ∨ cs2_ = own_J))) ∧ Fr n0 L ∧ Keep h0 h []
def K_rmAs3 (Z : State) (ar : Addr) (ka : ClassId) (b0_ t0_ : Addr) (kb0_ : ClassId) (cs0_ : List Int32) (b1_ t1_ : Addr) (kb1_ : ClassId) (cs1_ : List Int32) (b2_ t2_ : Addr) (kb2_ : ClassId) (cs2_ : List Int32) (G1 : Int32) (G3 : Value) (h0 : Heap) (n0 : Nat) (s : State) : Outcome → State → Prop := fun oo U' => ∃ v L, oo = .returned v ∧ Q_rmAs3 Z ar ka b0_ t0_ kb0_ cs0_ b1_ t1_ kb1_ cs1_ b2_ t2_ kb2_ cs2_ G1 G3 h0 n0 v U'.heap L ∧ CHr Z consts_1 s.vm s.heap U'.vm U'.heap ∧ ReturnedEndW s oo U' L ({ frames := 2, cells := 6, slots := 84, locals := 28 } : Room).cells ({ frames := 2, cells := 6, slots := 84, locals := 28 } : Room).slots
set_option maxRecDepth 65536 in
set_option maxHeartbeats 40000000 in
theorem rmAs3 (l : Launch) (Z : State) (a0 : Array Value) (hw : ∀ d ∈ tables_1, d.before a0 Z = true) (ws : List Jvm.Cond) (ar : Addr) (ka : ClassId) (b0_ t0_ : Addr) (kb0_ : ClassId) (cs0_ : List Int32) (b1_ t1_ : Addr) (kb1_ : ClassId) (cs1_ : List Int32) (b2_ t2_ : Addr) (kb2_ : ClassId) (cs2_ : List Int32) (G1 : Int32) (G3 : Value) (h0 : Heap) (n0 : Nat) (Z0 : n0 ≤ h0.size)  (E0_ : Exa Z h0 b0_ "java/lang/String") (C0_ : Fld Z h0 b0_ "java/lang/String" "coder" "B" (.int (0 : Int32))) (W0_ : Fld Z h0 b0_ "java/lang/String" "value" "[B" (.ref t0_)) (K0_ : Arv Z h0 t0_ kb0_ .byte (Int32.ofNat cs0_.length) ((cs0_.map (fun c => c.toInt8.toInt32)).map Value.int) (.int (0 : Int32))) (hp0_ : ∀ c ∈ cs0_, ¬ c < 0 ∧ ¬ (255 : Int32) < c) (hl0_ : cs0_.length ≤ 7) (E1_ : Exa Z h0 b1_ "java/lang/String") (C1_ : Fld Z h0 b1_ "java/lang/String" "coder" "B" (.int (0 : Int32))) (W1_ : Fld Z h0 b1_ "java/lang/String" "value" "[B" (.ref t1_)) (K1_ : Arv Z h0 t1_ kb1_ .byte (Int32.ofNat cs1_.length) ((cs1_.map (fun c => c.toInt8.toInt32)).map Value.int) (.int (0 : Int32))) (hp1_ : ∀ c ∈ cs1_, ¬ c < 0 ∧ ¬ (255 : Int32) < c) (hl1_ : cs1_.length ≤ 7) (E2_ : Exa Z h0 b2_ "java/lang/String") (C2_ : Fld Z h0 b2_ "java/lang/String" "coder" "B" (.int (0 : Int32))) (W2_ : Fld Z h0 b2_ "java/lang/String" "value" "[B" (.ref t2_)) (K2_ : Arv Z h0 t2_ kb2_ .byte (Int32.ofNat cs2_.length) ((cs2_.map (fun c => c.toInt8.toInt32)).map Value.int) (.int (0 : Int32))) (hp2_ : ∀ c ∈ cs2_, ¬ c < 0 ∧ ¬ (255 : Int32) < c) (hl2_ : cs2_.length ≤ 7) (V_ar : Arv Z h0 ar ka (.object "java/lang/String") (3 : Int32) [(.ref b0_), (.ref b1_), (.ref b2_)] .null) (hEL : EW Z a0 consts_1) (O2 : Sta Z Z.heap "java/lang/String" "COMPACT_STRINGS" "Z" (.int G1)) (O4 : Sta Z Z.heap "jdk/internal/util/Preconditions" "SIOOBE_FORMATTER" "Ljava/util/function/BiFunction;" G3) (P5 : ¬ (G1 = (0 : Int32))) (rG3 : G3.isRef = true) (O_ : Old Z n0 h0) :
    MetFree l (⟨"com/example/frozen_thread/frozenthread/cli/FormReporter", "asksForJson", "([Ljava/lang/String;)Z"⟩ : MethodName) (head1 (Jvm.Cond.code (⟨"com/example/frozen_thread/frozenthread/cli/FormReporter", "asksForJson", "([Ljava/lang/String;)Z"⟩ : MethodName) prog_35_method_2_code 5 (some .boolean) :: ws) ({ frames := 2, cells := 6, slots := 84, locals := 28 } : Room)) (fun as_ U => as_ = #[(.ref ar)] ∧ Z.Warmed39 U.vm ∧ U.heap = h0 ∧ CHv Z consts_1 U.vm h0) (fun _ _ _ _ _ => True) (fun _ U oo U' => ∃ v L, oo = .returned v ∧ Q_rmAs3 Z ar ka b0_ t0_ kb0_ cs0_ b1_ t1_ kb1_ cs1_ b2_ t2_ kb2_ cs2_ G1 G3 h0 n0 v U'.heap L ∧ CHr Z consts_1 U.vm U.heap U'.vm U'.heap ∧ ReturnedEndW U oo U' L ({ frames := 2, cells := 6, slots := 84, locals := 28 } : Room).cells ({ frames := 2, cells := 6, slots := 84, locals := 28 } : Room).slots) := by
  refine MetFree.of_bodySF (plainFor_of_name pn_com_example_frozen_thread_frozenthread_cli_FormReporter) hisR ?_
  intro p e s m args below meth c s₁ Bd hml0 hP hK
  obtain ⟨rfl, hZ, hh, hC⟩ := hP
  have hx := Bd.exec
  have hby := Bd.bytes
  have hml : c.maxLocals = 5 := hml0
  have hown : s.vm.findClass "com/example/frozen_thread/frozenthread/cli/FormReporter" = some m.cls := findClass_of_methodNamed Bd.named
  have hnm := (name_of_methodNamed Bd.named Bd.method).1
  have X0 : Stand p l e ({ frames := 2, cells := 6, slots := 84, locals := 28 } : Room) (s.setVm s.vm) m #[(.ref ar)] below meth c s₁ [] 0 0 := Stand.of_body Bd
  have hZ : Z.Warmed39 (s.setVm s.vm).vm := hZ
  have hown : (s.setVm s.vm).vm.findClass "com/example/frozen_thread/frozenthread/cli/FormReporter" = some m.cls := hown
  have e0 : s₁.heap = h0 := by rw [← hh, Bd.state]; rfl
  have N0 := Fr.nil n0
  refine own_st (K := (K_rmAs3 Z ar ka b0_ t0_ kb0_ cs0_ b1_ t1_ kb1_ cs1_ b2_ t2_ kb2_ cs2_ G1 G3 h0 n0 s)) (fun t' k' => castTop (ef_rmAs3 m ar) k') ?_
  have hSA : ∀ a ∈ Bundle.stringAtoms, a.before a0 Z = true := by
    intro a ha
    simp only [Bundle.stringAtoms, List.mem_cons, List.not_mem_nil, or_false] at ha
    rcases ha with rfl | rfl | rfl | rfl | rfl | rfl | rfl
    · exact (hw _ (List.mem_of_getElem? (i := 7) rfl))
    · exact (hw _ (List.mem_of_getElem? (i := 6) rfl))
    · exact (hw _ (List.mem_of_getElem? (i := 23) rfl))
    · exact (hw _ (List.mem_of_getElem? (i := 33) rfl))
    · exact (hw _ (List.mem_of_getElem? (i := 31) rfl))
    · exact (hw _ (List.mem_of_getElem? (i := 43) rfl))
    · exact (hw _ (List.mem_of_getElem? (i := 44) rfl))
  have hS0 : s.Since s.vm h0.size := (State.WarmedH.refl s).since _
  have hk0 : h0.size ≤ h0.size := Nat.le_refl _
  have CR0 := CHr.refl hC
  have heq : ∀ d ∈ StrChars.Road.wordsEq, d.before a0 Z = true := fun d hd => hw d ((by decide +kernel : ∀ d ∈ StrChars.Road.wordsEq, d ∈ tables_1) d hd)
  show own_Go p.tables e below _ (s₁.setTop (mkF m 0 #[.val (.ref ar), .unset, .unset, .unset, .unset] []))
  refine own_st (fun _ k' => XS.aloadN X0.here hx rfl (hb hby d8_0) rfl rfl k') ?_
  show own_Go p.tables e below _ (s₁.setTop (mkF m 1 #[.val (.ref ar), .unset, .unset, .unset, .unset] [(.ref ar)]))
  refine own_st (fun _ k' => XS.astoreN X0.here hx rfl (hb hby d8_1) rfl rfl (l' := #[.val (.ref ar), .val (.ref ar), .unset, .unset, .unset]) rfl k') ?_
  show own_Go p.tables e below _ (s₁.setTop (mkF m 2 #[.val (.ref ar), .val (.ref ar), .unset, .unset, .unset] []))
  refine own_st (fun _ k' => XS.aloadN X0.here hx rfl (hb hby d8_2) rfl rfl k') ?_
  show own_Go p.tables e below _ (s₁.setTop (mkF m 3 #[.val (.ref ar), .val (.ref ar), .unset, .unset, .unset] [(.ref ar)]))
  obtain ⟨cl1, Ar1, qc1, Sz1, Nn1, Hs1, Gs1⟩ := id V_ar
  refine own_st (fun t' k' => X0.arraylength hx (by rw [e0]; exact Ar1.1) (State.isArrayOf_alike hZ.alike Ar1.2.1) (g := (mkF m 3 #[.val (.ref ar), .val (.ref ar), .unset, .unset, .unset] [(.ref ar)])) rfl rfl (hb hby d8_3) t' k') ?_
  rw [len_of Sz1 Nn1]
  show own_Go p.tables e below _ (s₁.setTop (mkF m 4 #[.val (.ref ar), .val (.ref ar), .unset, .unset, .unset] [(.int (3 : Int32))]))
  refine own_st (fun _ k' => XS.istoreN X0.here hx rfl (hb hby d8_4) rfl (l' := #[.val (.ref ar), .val (.ref ar), .val (.int (3 : Int32)), .unset, .unset]) rfl k') ?_
  show own_Go p.tables e below _ (s₁.setTop (mkF m 5 #[.val (.ref ar), .val (.ref ar), .val (.int (3 : Int32)), .unset, .unset] []))
  refine own_st (fun _ k' => XS.iconst X0.here hx rfl (hb hby d8_5) k') ?_
  show own_Go p.tables e below _ (s₁.setTop (mkF m 6 #[.val (.ref ar), .val (.ref ar), .val (.int (3 : Int32)), .unset, .unset] [(.int (0 : Int32))]))
  refine own_st (fun _ k' => XS.istoreN X0.here hx rfl (hb hby d8_6) rfl (l' := #[.val (.ref ar), .val (.ref ar), .val (.int (3 : Int32)), .val (.int (0 : Int32)), .unset]) rfl k') ?_
  show own_Go p.tables e below _ (s₁.setTop (mkF m 7 #[.val (.ref ar), .val (.ref ar), .val (.int (3 : Int32)), .val (.int (0 : Int32)), .unset] []))
  refine own_st (fun _ k' => XS.iloadN X0.here hx rfl (hb hby d8_7) rfl k') ?_
  show own_Go p.tables e below _ (s₁.setTop (mkF m 8 #[.val (.ref ar), .val (.ref ar), .val (.int (3 : Int32)), .val (.int (0 : Int32)), .unset] [(.int (0 : Int32))]))
  refine own_st (fun _ k' => XS.iloadN X0.here hx rfl (hb hby d8_8) rfl k') ?_
  show own_Go p.tables e below _ (s₁.setTop (mkF m 9 #[.val (.ref ar), .val (.ref ar), .val (.int (3 : Int32)), .val (.int (0 : Int32)), .unset] [(.int (3 : Int32)), (.int (0 : Int32))]))
  refine own_st (fun _ k' => XS.icmpNo X0.here hx rfl (hb hby d8_9) rfl (tlt (by decide : (0 : Int32) < (3 : Int32))).2.1 k') ?_
  show own_Go p.tables e below _ (s₁.setTop (mkF m 12 #[.val (.ref ar), .val (.ref ar), .val (.int (3 : Int32)), .val (.int (0 : Int32)), .unset] []))
  refine own_st (fun _ k' => XS.aloadN X0.here hx rfl (hb hby d8_12) rfl rfl k') ?_
  show own_Go p.tables e below _ (s₁.setTop (mkF m 13 #[.val (.ref ar), .val (.ref ar), .val (.int (3 : Int32)), .val (.int (0 : Int32)), .unset] [(.ref ar)]))
  refine own_st (fun _ k' => XS.iloadN X0.here hx rfl (hb hby d8_13) rfl k') ?_
  show own_Go p.tables e below _ (s₁.setTop (mkF m 14 #[.val (.ref ar), .val (.ref ar), .val (.int (3 : Int32)), .val (.int (0 : Int32)), .unset] [(.int (0 : Int32)), (.ref ar)]))
  obtain ⟨cl2, Ar2, qc2, Sz2, Nn2, Hs2, Gs2⟩ := id V_ar
  have hin2 : ¬ ((0 : Int32) < 0 ∨ cl2.slots.size ≤ ((0 : Int32)).toNatClampNeg) := inb_of Sz2 ⟨by decide, by decide⟩
  have hat2 : cl2.slots[((0 : Int32)).toNatClampNeg]? = some (.ref b0_) := Hs2.at hin2 rfl
  refine own_st (fun t' k' => X0.aaload hx (j := (0 : Int32)) (v := (.ref b0_)) (by rw [e0]; exact Ar2.1) (State.isArrayOf_alike hZ.alike Ar2.2.1) rfl Ar2.2.2 hin2 hat2 (g := (mkF m 14 #[.val (.ref ar), .val (.ref ar), .val (.int (3 : Int32)), .val (.int (0 : Int32)), .unset] [(.int (0 : Int32)), (.ref ar)])) rfl rfl (hb hby d8_14) t' k') ?_
  show own_Go p.tables e below _ (s₁.setTop (mkF m 15 #[.val (.ref ar), .val (.ref ar), .val (.int (3 : Int32)), .val (.int (0 : Int32)), .unset] [(.ref b0_)]))
  refine own_st (fun _ k' => XS.astore X0.here hx rfl (hb hby d8_15) rfl rfl (l' := #[.val (.ref ar), .val (.ref ar), .val (.int (3 : Int32)), .val (.int (0 : Int32)), .val (.ref b0_)]) rfl k') ?_
  show own_Go p.tables e below _ (s₁.setTop (mkF m 17 #[.val (.ref ar), .val (.ref ar), .val (.int (3 : Int32)), .val (.int (0 : Int32)), .val (.ref b0_)] []))
  refine own_st (fun _ k' => XS.aload X0.here hx rfl (hb hby d8_17) rfl rfl k') ?_
  show own_Go p.tables e below _ (s₁.setTop (mkF m 19 #[.val (.ref ar), .val (.ref ar), .val (.int (3 : Int32)), .val (.int (0 : Int32)), .val (.ref b0_)] [(.ref b0_)]))
  obtain ⟨a3, T3, h3, k13, b3, kb3, X3, e3, E3, hS3, hk3, hZ, hown, El3, Fc3, Fv3, Vt3, -, -, CRl3, -, hne3, st3⟩ := ldcCH X0 hx hZ hown (hw _ (List.mem_of_getElem? (i := 42) rfl)) hSA e0 hS0 hk0 hEL (by decide) hC (vs := (((own_J : List Int32).map (fun c => c.toInt8.toInt32)).map Value.int)) (z := 6) ⟨by decide, by decide⟩ (by decide) (by decide) (g := (mkF m 19 #[.val (.ref ar), .val (.ref ar), .val (.int (3 : Int32)), .val (.int (0 : Int32)), .val (.ref b0_)] [(.ref b0_)])) rfl (hb hby d8_19) (n := 24) (by decide) (by decide) (by decide) (by decide)
  have CR3 := CR0.trans CRl3
  have O__x4 := O_.ext E3
  have E0__x5 := E0_.ext E3
  have C0__x6 := C0_.ext E3
  have W0__x7 := W0_.ext E3
  have K0__x8 := K0_.ext E3
  have E1__x9 := E1_.ext E3
  have C1__x10 := C1_.ext E3
  have W1__x11 := W1_.ext E3
  have K1__x12 := K1_.ext E3
  have E2__x13 := E2_.ext E3
  have C2__x14 := C2_.ext E3
  have W2__x15 := W2_.ext E3
  have K2__x16 := K2_.ext E3
  have V_ar_x17 := V_ar.ext E3
  have K18 : Keep h0 h3 [] := (Keep.refl h0 []).ext E3
  have ZE3 : n0 ≤ h3.size := Nat.le_trans Z0 E3.1
  refine own_st st3 ?_
  show own_Go p.tables e below _ (T3.setTop (mkF m 21 #[.val (.ref ar), .val (.ref ar), .val (.int (3 : Int32)), .val (.int (0 : Int32)), .val (.ref b0_)] [(.ref a3), (.ref b0_)]))
  have hcJ19 : StrChars.Road.CodA own_J 0 (6 : Int32) ((own_J.map (fun c => c.toInt8.toInt32)).map Value.int) := StrChars.Road.codOf (n := 6) rfl (fun x hx => (own_J_in x hx).2)
  have hcX19 : StrChars.Road.CodA cs0_ 0 (Int32.ofNat cs0_.length) ((cs0_.map (fun c => c.toInt8.toInt32)).map Value.int) := StrChars.Road.codOf (n := cs0_.length) rfl (fun x hx => (hp0_ x hx).2)
  obtain ⟨cq19, kq19, q19a, q19b, q19c⟩ := isOf hZ e3 E0__x5
  obtain ⟨_, _, ⟨T19, L19, k19, n19⟩, -, X19, ⟨Lc19, hQ19, l19, y19, z19⟩, st19⟩ := X3.virtualBack hx (y := (⟨"java/lang/String", "equals", "(Ljava/lang/Object;)Z"⟩ : MethodName)) (z := (⟨"java/lang/String", "equals", "(Ljava/lang/Object;)Z"⟩ : MethodName)) hown (mvT hZ (hw _ (List.mem_of_getElem? (i := 45) rfl))) (mvT hZ (hw _ (List.mem_of_getElem? (i := 46) rfl))) (notFace_of_selects (args := #[]) (mvT hZ (hw _ (List.mem_of_getElem? (i := 48) rfl)))) (mvT hZ (hw _ (List.mem_of_getElem? (i := 48) rfl))) (mvT hZ (hw _ (List.mem_of_getElem? (i := 47) rfl))) (by decide) (StrChars.Road.eqW (W := 0) hZ heq (kI := 4) (hw _ (List.mem_of_getElem? (i := 6) rfl)) E0__x5 W0__x7 C0__x6 K0__x8 hcX19 (own_up cs0_ hp0_) (Nat.le_trans hl0_ (by decide)) El3 Fv3 Fc3 Vt3 hcJ19 (own_up own_J own_J_in) (by decide) (O2.ext O__x4.2) P5 (by decide) (by decide)) q19a q19c (g := (mkF m 21 #[.val (.ref ar), .val (.ref ar), .val (.int (3 : Int32)), .val (.int (0 : Int32)), .val (.ref b0_)] [(.ref a3), (.ref b0_)])) rfl (by rw [hml]; rfl) (Steps.refl _) (argsL := [(.ref a3)]) (rest := []) (lenOf pd__Ljava_lang_Object__Z rfl) rfl (by show 2 * 0 + _ ≤ _; exact Nat.le_of_eq rfl) (hb hby d8_21) (fun _ _ => ⟨rfl, e3, (by decide : 2 + 0 ≤ _), (by decide : 28 + 0 ≤ _)⟩)
  dsimp only [Pt.U, Pt.locs, Pt.cells, Pt.slots] at X19 l19 y19 z19 st19 hQ19
  subst l19 y19 z19
  obtain ⟨hD19, rfl, e19⟩ := hQ19
  have N19 := Fr.app N0 (Fr.nil n0)
  rcases hD19 with ⟨rfl, hc19⟩ | ⟨rfl, hc19⟩
  ·  -- alike
    refine own_tr st19 ?_
    show own_Go p.tables e below _ (T19.setTop (mkF m 24 #[.val (.ref ar), .val (.ref ar), .val (.int (3 : Int32)), .val (.int (0 : Int32)), .val (.ref b0_)] [(.int (1 : Int32))]))
    refine own_st (fun _ k' => XS.ifNo X19.here hx rfl (hb hby d8_24) rfl ((if0 _ _).trans (feq (by decide : ¬ (1 : Int32) = (0 : Int32))).1) k') ?_
    show own_Go p.tables e below _ (T19.setTop (mkF m 27 #[.val (.ref ar), .val (.ref ar), .val (.int (3 : Int32)), .val (.int (0 : Int32)), .val (.ref b0_)] []))
    refine own_st (fun _ k' => XS.iconst X19.here hx rfl (hb hby d8_27) k') ?_
    show own_Go p.tables e below _ (T19.setTop (mkF m 28 #[.val (.ref ar), .val (.ref ar), .val (.int (3 : Int32)), .val (.int (0 : Int32)), .val (.ref b0_)] [(.int (1 : Int32))]))
    have cr20 : CHr Z consts_1 s.vm s.heap T19.vm T19.heap := by rw [hh, e19]; exact CR3.trans (CHv.at X19 hZ hEL CRl3.1)
    exact own_retWN X19 hS3 (by rw [e19]; exact hk3) hx (t := .boolean) Bd.returns (by simp) (hb hby d8_28) Bd.notSynchronized ⟨Or.inl ⟨rfl, Or.inl hc19⟩, N19, by rw [e19]; exact K18⟩ cr20 (by decide) (by decide)
  ·  -- unlike
    refine own_tr st19 ?_
    show own_Go p.tables e below _ (T19.setTop (mkF m 24 #[.val (.ref ar), .val (.ref ar), .val (.int (3 : Int32)), .val (.int (0 : Int32)), .val (.ref b0_)] [(.int (0 : Int32))]))
    refine own_st (fun _ k' => XS.ifYes X19.here hx rfl (pc0 := 24) (pc' := 29) rfl (hb hby d8_24) rfl ((if0 _ _).trans (teq (by decide : (0 : Int32) = (0 : Int32))).1) (by decide) (by decide) k') ?_
    show own_Go p.tables e below _ (T19.setTop (mkF m 29 #[.val (.ref ar), .val (.ref ar), .val (.int (3 : Int32)), .val (.int (0 : Int32)), .val (.ref b0_)] []))
    refine own_st (fun _ k' => XS.iinc X19.here hx rfl (hb hby d8_29) rfl (l' := #[.val (.ref ar), .val (.ref ar), .val (.int (3 : Int32)), .val (.int (1 : Int32)), .val (.ref b0_)]) rfl k') ?_
    show own_Go p.tables e below _ (T19.setTop (mkF m 32 #[.val (.ref ar), .val (.ref ar), .val (.int (3 : Int32)), .val (.int (1 : Int32)), .val (.ref b0_)] []))
    refine own_st (fun _ k' => XS.goto X19.here hx rfl (pc0 := 32) (pc' := 7) rfl (hb hby d8_32) (by decide) (by decide) k') ?_
    show own_Go p.tables e below _ (T19.setTop (mkF m 7 #[.val (.ref ar), .val (.ref ar), .val (.int (3 : Int32)), .val (.int (1 : Int32)), .val (.ref b0_)] []))
    refine own_st (fun _ k' => XS.iloadN X19.here hx rfl (hb hby d8_7) rfl k') ?_
    show own_Go p.tables e below _ (T19.setTop (mkF m 8 #[.val (.ref ar), .val (.ref ar), .val (.int (3 : Int32)), .val (.int (1 : Int32)), .val (.ref b0_)] [(.int (1 : Int32))]))
    refine own_st (fun _ k' => XS.iloadN X19.here hx rfl (hb hby d8_8) rfl k') ?_
    show own_Go p.tables e below _ (T19.setTop (mkF m 9 #[.val (.ref ar), .val (.ref ar), .val (.int (3 : Int32)), .val (.int (1 : Int32)), .val (.ref b0_)] [(.int (3 : Int32)), (.int (1 : Int32))]))
    refine own_st (fun _ k' => XS.icmpNo X19.here hx rfl (hb hby d8_9) rfl (tlt (by decide : (1 : Int32) < (3 : Int32))).2.1 k') ?_
    show own_Go p.tables e below _ (T19.setTop (mkF m 12 #[.val (.ref ar), .val (.ref ar), .val (.int (3 : Int32)), .val (.int (1 : Int32)), .val (.ref b0_)] []))
    refine own_st (fun _ k' => XS.aloadN X19.here hx rfl (hb hby d8_12) rfl rfl k') ?_
    show own_Go p.tables e below _ (T19.setTop (mkF m 13 #[.val (.ref ar), .val (.ref ar), .val (.int (3 : Int32)), .val (.int (1 : Int32)), .val (.ref b0_)] [(.ref ar)]))
    refine own_st (fun _ k' => XS.iloadN X19.here hx rfl (hb hby d8_13) rfl k') ?_
    show own_Go p.tables e below _ (T19.setTop (mkF m 14 #[.val (.ref ar), .val (.ref ar), .val (.int (3 : Int32)), .val (.int (1 : Int32)), .val (.ref b0_)] [(.int (1 : Int32)), (.ref ar)]))
    obtain ⟨cl21, Ar21, qc21, Sz21, Nn21, Hs21, Gs21⟩ := id V_ar_x17
    have hin21 : ¬ ((1 : Int32) < 0 ∨ cl21.slots.size ≤ ((1 : Int32)).toNatClampNeg) := inb_of Sz21 ⟨by decide, by decide⟩
    have hat21 : cl21.slots[((1 : Int32)).toNatClampNeg]? = some (.ref b1_) := Hs21.at hin21 rfl
    refine own_st (fun t' k' => X19.aaload hx (j := (1 : Int32)) (v := (.ref b1_)) (by rw [e19]; exact Ar21.1) (State.isArrayOf_alike hZ.alike Ar21.2.1) rfl Ar21.2.2 hin21 hat21 (g := (mkF m 14 #[.val (.ref ar), .val (.ref ar), .val (.int (3 : Int32)), .val (.int (1 : Int32)), .val (.ref b0_)] [(.int (1 : Int32)), (.ref ar)])) rfl rfl (hb hby d8_14) t' k') ?_
    show own_Go p.tables e below _ (T19.setTop (mkF m 15 #[.val (.ref ar), .val (.ref ar), .val (.int (3 : Int32)), .val (.int (1 : Int32)), .val (.ref b0_)] [(.ref b1_)]))
    refine own_st (fun _ k' => XS.astore X19.here hx rfl (hb hby d8_15) rfl rfl (l' := #[.val (.ref ar), .val (.ref ar), .val (.int (3 : Int32)), .val (.int (1 : Int32)), .val (.ref b1_)]) rfl k') ?_
    show own_Go p.tables e below _ (T19.setTop (mkF m 17 #[.val (.ref ar), .val (.ref ar), .val (.int (3 : Int32)), .val (.int (1 : Int32)), .val (.ref b1_)] []))
    refine own_st (fun _ k' => XS.aload X19.here hx rfl (hb hby d8_17) rfl rfl k') ?_
    show own_Go p.tables e below _ (T19.setTop (mkF m 19 #[.val (.ref ar), .val (.ref ar), .val (.int (3 : Int32)), .val (.int (1 : Int32)), .val (.ref b1_)] [(.ref b1_)]))
    obtain ⟨a22, T22, h22, k122, b22, kb22, X22, e22, E22, hS22, hk22, hZ, hown, El22, Fc22, Fv22, Vt22, -, -, CRl22, -, hne22, st22⟩ := ldcCH X19 hx hZ hown (hw _ (List.mem_of_getElem? (i := 42) rfl)) hSA e19 hS3 hk3 hEL (by decide) CRl3.1 (vs := (((own_J : List Int32).map (fun c => c.toInt8.toInt32)).map Value.int)) (z := 6) ⟨by decide, by decide⟩ (by decide) (by decide) (g := (mkF m 19 #[.val (.ref ar), .val (.ref ar), .val (.int (3 : Int32)), .val (.int (1 : Int32)), .val (.ref b1_)] [(.ref b1_)])) rfl (hb hby d8_19) (n := 24) (by decide) (by decide) (by decide) (by decide)
    have CR22 := CR3.trans CRl22
    have O__x23 := O__x4.ext E22
    have E0__x24 := E0__x5.ext E22
    have C0__x25 := C0__x6.ext E22
    have W0__x26 := W0__x7.ext E22
    have K0__x27 := K0__x8.ext E22
    have E1__x28 := E1__x9.ext E22
    have C1__x29 := C1__x10.ext E22
    have W1__x30 := W1__x11.ext E22
    have K1__x31 := K1__x12.ext E22
    have E2__x32 := E2__x13.ext E22
    have C2__x33 := C2__x14.ext E22
    have W2__x34 := W2__x15.ext E22
    have K2__x35 := K2__x16.ext E22
    have V_ar_x36 := V_ar_x17.ext E22
    have El3_x37 := El3.ext E22
    have Fc3_x38 := Fc3.ext E22
    have Fv3_x39 := Fv3.ext E22
    have Vt3_x40 := Vt3.ext E22
    have K41 : Keep h0 h22 [] := K18.ext E22
    have ZE22 : n0 ≤ h22.size := Nat.le_trans ZE3 E22.1
    refine own_st st22 ?_
    show own_Go p.tables e below _ (T22.setTop (mkF m 21 #[.val (.ref ar), .val (.ref ar), .val (.int (3 : Int32)), .val (.int (1 : Int32)), .val (.ref b1_)] [(.ref a22), (.ref b1_)]))
    have hcJ42 : StrChars.Road.CodA own_J 0 (6 : Int32) ((own_J.map (fun c => c.toInt8.toInt32)).map Value.int) := StrChars.Road.codOf (n := 6) rfl (fun x hx => (own_J_in x hx).2)
    have hcX42 : StrChars.Road.CodA cs1_ 0 (Int32.ofNat cs1_.length) ((cs1_.map (fun c => c.toInt8.toInt32)).map Value.int) := StrChars.Road.codOf (n := cs1_.length) rfl (fun x hx => (hp1_ x hx).2)
    obtain ⟨cq42, kq42, q42a, q42b, q42c⟩ := isOf hZ e22 E1__x28
    obtain ⟨_, _, ⟨T42, L42, k42, n42⟩, -, X42, ⟨Lc42, hQ42, l42, y42, z42⟩, st42⟩ := X22.virtualBack hx (y := (⟨"java/lang/String", "equals", "(Ljava/lang/Object;)Z"⟩ : MethodName)) (z := (⟨"java/lang/String", "equals", "(Ljava/lang/Object;)Z"⟩ : MethodName)) hown (mvT hZ (hw _ (List.mem_of_getElem? (i := 45) rfl))) (mvT hZ (hw _ (List.mem_of_getElem? (i := 46) rfl))) (notFace_of_selects (args := #[]) (mvT hZ (hw _ (List.mem_of_getElem? (i := 48) rfl)))) (mvT hZ (hw _ (List.mem_of_getElem? (i := 48) rfl))) (mvT hZ (hw _ (List.mem_of_getElem? (i := 47) rfl))) (by decide) (StrChars.Road.eqW (W := 0) hZ heq (kI := 4) (hw _ (List.mem_of_getElem? (i := 6) rfl)) E1__x28 W1__x30 C1__x29 K1__x31 hcX42 (own_up cs1_ hp1_) (Nat.le_trans hl1_ (by decide)) El22 Fv22 Fc22 Vt22 hcJ42 (own_up own_J own_J_in) (by decide) (O2.ext O__x23.2) P5 (by decide) (by decide)) q42a q42c (g := (mkF m 21 #[.val (.ref ar), .val (.ref ar), .val (.int (3 : Int32)), .val (.int (1 : Int32)), .val (.ref b1_)] [(.ref a22), (.ref b1_)])) rfl (by rw [hml]; rfl) (Steps.refl _) (argsL := [(.ref a22)]) (rest := []) (lenOf pd__Ljava_lang_Object__Z rfl) rfl (by show 2 * 0 + _ ≤ _; exact Nat.le_of_eq rfl) (hb hby d8_21) (fun _ _ => ⟨rfl, e22, (by decide : 4 + 0 ≤ _), (by decide : 56 + 0 ≤ _)⟩)
    dsimp only [Pt.U, Pt.locs, Pt.cells, Pt.slots] at X42 l42 y42 z42 st42 hQ42
    subst l42 y42 z42
    obtain ⟨hD42, rfl, e42⟩ := hQ42
    have N42 := Fr.app N19 (Fr.nil n0)
    rcases hD42 with ⟨rfl, hc42⟩ | ⟨rfl, hc42⟩
    ·  -- alike
      refine own_tr st42 ?_
      show own_Go p.tables e below _ (T42.setTop (mkF m 24 #[.val (.ref ar), .val (.ref ar), .val (.int (3 : Int32)), .val (.int (1 : Int32)), .val (.ref b1_)] [(.int (1 : Int32))]))
      refine own_st (fun _ k' => XS.ifNo X42.here hx rfl (hb hby d8_24) rfl ((if0 _ _).trans (feq (by decide : ¬ (1 : Int32) = (0 : Int32))).1) k') ?_
      show own_Go p.tables e below _ (T42.setTop (mkF m 27 #[.val (.ref ar), .val (.ref ar), .val (.int (3 : Int32)), .val (.int (1 : Int32)), .val (.ref b1_)] []))
      refine own_st (fun _ k' => XS.iconst X42.here hx rfl (hb hby d8_27) k') ?_
      show own_Go p.tables e below _ (T42.setTop (mkF m 28 #[.val (.ref ar), .val (.ref ar), .val (.int (3 : Int32)), .val (.int (1 : Int32)), .val (.ref b1_)] [(.int (1 : Int32))]))
      have cr43 : CHr Z consts_1 s.vm s.heap T42.vm T42.heap := by rw [hh, e42]; exact CR22.trans (CHv.at X42 hZ hEL CRl22.1)
      exact own_retWN X42 hS22 (by rw [e42]; exact hk22) hx (t := .boolean) Bd.returns (by simp) (hb hby d8_28) Bd.notSynchronized ⟨Or.inl ⟨rfl, Or.inr (Or.inl hc42)⟩, N42, by rw [e42]; exact K41⟩ cr43 (by decide) (by decide)
    ·  -- unlike
      refine own_tr st42 ?_
      show own_Go p.tables e below _ (T42.setTop (mkF m 24 #[.val (.ref ar), .val (.ref ar), .val (.int (3 : Int32)), .val (.int (1 : Int32)), .val (.ref b1_)] [(.int (0 : Int32))]))
      refine own_st (fun _ k' => XS.ifYes X42.here hx rfl (pc0 := 24) (pc' := 29) rfl (hb hby d8_24) rfl ((if0 _ _).trans (teq (by decide : (0 : Int32) = (0 : Int32))).1) (by decide) (by decide) k') ?_
      show own_Go p.tables e below _ (T42.setTop (mkF m 29 #[.val (.ref ar), .val (.ref ar), .val (.int (3 : Int32)), .val (.int (1 : Int32)), .val (.ref b1_)] []))
      refine own_st (fun _ k' => XS.iinc X42.here hx rfl (hb hby d8_29) rfl (l' := #[.val (.ref ar), .val (.ref ar), .val (.int (3 : Int32)), .val (.int (2 : Int32)), .val (.ref b1_)]) rfl k') ?_
      show own_Go p.tables e below _ (T42.setTop (mkF m 32 #[.val (.ref ar), .val (.ref ar), .val (.int (3 : Int32)), .val (.int (2 : Int32)), .val (.ref b1_)] []))
      refine own_st (fun _ k' => XS.goto X42.here hx rfl (pc0 := 32) (pc' := 7) rfl (hb hby d8_32) (by decide) (by decide) k') ?_
      show own_Go p.tables e below _ (T42.setTop (mkF m 7 #[.val (.ref ar), .val (.ref ar), .val (.int (3 : Int32)), .val (.int (2 : Int32)), .val (.ref b1_)] []))
      refine own_st (fun _ k' => XS.iloadN X42.here hx rfl (hb hby d8_7) rfl k') ?_
      show own_Go p.tables e below _ (T42.setTop (mkF m 8 #[.val (.ref ar), .val (.ref ar), .val (.int (3 : Int32)), .val (.int (2 : Int32)), .val (.ref b1_)] [(.int (2 : Int32))]))
      refine own_st (fun _ k' => XS.iloadN X42.here hx rfl (hb hby d8_8) rfl k') ?_
      show own_Go p.tables e below _ (T42.setTop (mkF m 9 #[.val (.ref ar), .val (.ref ar), .val (.int (3 : Int32)), .val (.int (2 : Int32)), .val (.ref b1_)] [(.int (3 : Int32)), (.int (2 : Int32))]))
      refine own_st (fun _ k' => XS.icmpNo X42.here hx rfl (hb hby d8_9) rfl (tlt (by decide : (2 : Int32) < (3 : Int32))).2.1 k') ?_
      show own_Go p.tables e below _ (T42.setTop (mkF m 12 #[.val (.ref ar), .val (.ref ar), .val (.int (3 : Int32)), .val (.int (2 : Int32)), .val (.ref b1_)] []))
      refine own_st (fun _ k' => XS.aloadN X42.here hx rfl (hb hby d8_12) rfl rfl k') ?_
      show own_Go p.tables e below _ (T42.setTop (mkF m 13 #[.val (.ref ar), .val (.ref ar), .val (.int (3 : Int32)), .val (.int (2 : Int32)), .val (.ref b1_)] [(.ref ar)]))
      refine own_st (fun _ k' => XS.iloadN X42.here hx rfl (hb hby d8_13) rfl k') ?_
      show own_Go p.tables e below _ (T42.setTop (mkF m 14 #[.val (.ref ar), .val (.ref ar), .val (.int (3 : Int32)), .val (.int (2 : Int32)), .val (.ref b1_)] [(.int (2 : Int32)), (.ref ar)]))
      obtain ⟨cl44, Ar44, qc44, Sz44, Nn44, Hs44, Gs44⟩ := id V_ar_x36
      have hin44 : ¬ ((2 : Int32) < 0 ∨ cl44.slots.size ≤ ((2 : Int32)).toNatClampNeg) := inb_of Sz44 ⟨by decide, by decide⟩
      have hat44 : cl44.slots[((2 : Int32)).toNatClampNeg]? = some (.ref b2_) := Hs44.at hin44 rfl
      refine own_st (fun t' k' => X42.aaload hx (j := (2 : Int32)) (v := (.ref b2_)) (by rw [e42]; exact Ar44.1) (State.isArrayOf_alike hZ.alike Ar44.2.1) rfl Ar44.2.2 hin44 hat44 (g := (mkF m 14 #[.val (.ref ar), .val (.ref ar), .val (.int (3 : Int32)), .val (.int (2 : Int32)), .val (.ref b1_)] [(.int (2 : Int32)), (.ref ar)])) rfl rfl (hb hby d8_14) t' k') ?_
      show own_Go p.tables e below _ (T42.setTop (mkF m 15 #[.val (.ref ar), .val (.ref ar), .val (.int (3 : Int32)), .val (.int (2 : Int32)), .val (.ref b1_)] [(.ref b2_)]))
      refine own_st (fun _ k' => XS.astore X42.here hx rfl (hb hby d8_15) rfl rfl (l' := #[.val (.ref ar), .val (.ref ar), .val (.int (3 : Int32)), .val (.int (2 : Int32)), .val (.ref b2_)]) rfl k') ?_
      show own_Go p.tables e below _ (T42.setTop (mkF m 17 #[.val (.ref ar), .val (.ref ar), .val (.int (3 : Int32)), .val (.int (2 : Int32)), .val (.ref b2_)] []))
      refine own_st (fun _ k' => XS.aload X42.here hx rfl (hb hby d8_17) rfl rfl k') ?_
      show own_Go p.tables e below _ (T42.setTop (mkF m 19 #[.val (.ref ar), .val (.ref ar), .val (.int (3 : Int32)), .val (.int (2 : Int32)), .val (.ref b2_)] [(.ref b2_)]))
      obtain ⟨a45, T45, h45, k145, b45, kb45, X45, e45, E45, hS45, hk45, hZ, hown, El45, Fc45, Fv45, Vt45, -, -, CRl45, -, hne45, st45⟩ := ldcCH X42 hx hZ hown (hw _ (List.mem_of_getElem? (i := 42) rfl)) hSA e42 hS22 hk22 hEL (by decide) CRl22.1 (vs := (((own_J : List Int32).map (fun c => c.toInt8.toInt32)).map Value.int)) (z := 6) ⟨by decide, by decide⟩ (by decide) (by decide) (g := (mkF m 19 #[.val (.ref ar), .val (.ref ar), .val (.int (3 : Int32)), .val (.int (2 : Int32)), .val (.ref b2_)] [(.ref b2_)])) rfl (hb hby d8_19) (n := 24) (by decide) (by decide) (by decide) (by decide)
      have CR45 := CR22.trans CRl45
      have O__x46 := O__x23.ext E45
      have E0__x47 := E0__x24.ext E45
      have C0__x48 := C0__x25.ext E45
      have W0__x49 := W0__x26.ext E45
      have K0__x50 := K0__x27.ext E45
      have E1__x51 := E1__x28.ext E45
      have C1__x52 := C1__x29.ext E45
      have W1__x53 := W1__x30.ext E45
      have K1__x54 := K1__x31.ext E45
      have E2__x55 := E2__x32.ext E45
      have C2__x56 := C2__x33.ext E45
      have W2__x57 := W2__x34.ext E45
      have K2__x58 := K2__x35.ext E45
      have V_ar_x59 := V_ar_x36.ext E45
      have El3_x60 := El3_x37.ext E45
      have Fc3_x61 := Fc3_x38.ext E45
      have Fv3_x62 := Fv3_x39.ext E45
      have Vt3_x63 := Vt3_x40.ext E45
      have El22_x64 := El22.ext E45
      have Fc22_x65 := Fc22.ext E45
      have Fv22_x66 := Fv22.ext E45
      have Vt22_x67 := Vt22.ext E45
      have K68 : Keep h0 h45 [] := K41.ext E45
      have ZE45 : n0 ≤ h45.size := Nat.le_trans ZE22 E45.1
      refine own_st st45 ?_
      show own_Go p.tables e below _ (T45.setTop (mkF m 21 #[.val (.ref ar), .val (.ref ar), .val (.int (3 : Int32)), .val (.int (2 : Int32)), .val (.ref b2_)] [(.ref a45), (.ref b2_)]))
      have hcJ69 : StrChars.Road.CodA own_J 0 (6 : Int32) ((own_J.map (fun c => c.toInt8.toInt32)).map Value.int) := StrChars.Road.codOf (n := 6) rfl (fun x hx => (own_J_in x hx).2)
      have hcX69 : StrChars.Road.CodA cs2_ 0 (Int32.ofNat cs2_.length) ((cs2_.map (fun c => c.toInt8.toInt32)).map Value.int) := StrChars.Road.codOf (n := cs2_.length) rfl (fun x hx => (hp2_ x hx).2)
      obtain ⟨cq69, kq69, q69a, q69b, q69c⟩ := isOf hZ e45 E2__x55
      obtain ⟨_, _, ⟨T69, L69, k69, n69⟩, -, X69, ⟨Lc69, hQ69, l69, y69, z69⟩, st69⟩ := X45.virtualBack hx (y := (⟨"java/lang/String", "equals", "(Ljava/lang/Object;)Z"⟩ : MethodName)) (z := (⟨"java/lang/String", "equals", "(Ljava/lang/Object;)Z"⟩ : MethodName)) hown (mvT hZ (hw _ (List.mem_of_getElem? (i := 45) rfl))) (mvT hZ (hw _ (List.mem_of_getElem? (i := 46) rfl))) (notFace_of_selects (args := #[]) (mvT hZ (hw _ (List.mem_of_getElem? (i := 48) rfl)))) (mvT hZ (hw _ (List.mem_of_getElem? (i := 48) rfl))) (mvT hZ (hw _ (List.mem_of_getElem? (i := 47) rfl))) (by decide) (StrChars.Road.eqW (W := 0) hZ heq (kI := 4) (hw _ (List.mem_of_getElem? (i := 6) rfl)) E2__x55 W2__x57 C2__x56 K2__x58 hcX69 (own_up cs2_ hp2_) (Nat.le_trans hl2_ (by decide)) El45 Fv45 Fc45 Vt45 hcJ69 (own_up own_J own_J_in) (by decide) (O2.ext O__x46.2) P5 (by decide) (by decide)) q69a q69c (g := (mkF m 21 #[.val (.ref ar), .val (.ref ar), .val (.int (3 : Int32)), .val (.int (2 : Int32)), .val (.ref b2_)] [(.ref a45), (.ref b2_)])) rfl (by rw [hml]; rfl) (Steps.refl _) (argsL := [(.ref a45)]) (rest := []) (lenOf pd__Ljava_lang_Object__Z rfl) rfl (by show 2 * 0 + _ ≤ _; exact Nat.le_of_eq rfl) (hb hby d8_21) (fun _ _ => ⟨rfl, e45, (by decide : 6 + 0 ≤ _), (by decide : 84 + 0 ≤ _)⟩)
      dsimp only [Pt.U, Pt.locs, Pt.cells, Pt.slots] at X69 l69 y69 z69 st69 hQ69
      subst l69 y69 z69
      obtain ⟨hD69, rfl, e69⟩ := hQ69
      have N69 := Fr.app N42 (Fr.nil n0)
      rcases hD69 with ⟨rfl, hc69⟩ | ⟨rfl, hc69⟩
      ·  -- alike
        refine own_tr st69 ?_
        show own_Go p.tables e below _ (T69.setTop (mkF m 24 #[.val (.ref ar), .val (.ref ar), .val (.int (3 : Int32)), .val (.int (2 : Int32)), .val (.ref b2_)] [(.int (1 : Int32))]))
        refine own_st (fun _ k' => XS.ifNo X69.here hx rfl (hb hby d8_24) rfl ((if0 _ _).trans (feq (by decide : ¬ (1 : Int32) = (0 : Int32))).1) k') ?_
        show own_Go p.tables e below _ (T69.setTop (mkF m 27 #[.val (.ref ar), .val (.ref ar), .val (.int (3 : Int32)), .val (.int (2 : Int32)), .val (.ref b2_)] []))
        refine own_st (fun _ k' => XS.iconst X69.here hx rfl (hb hby d8_27) k') ?_
        show own_Go p.tables e below _ (T69.setTop (mkF m 28 #[.val (.ref ar), .val (.ref ar), .val (.int (3 : Int32)), .val (.int (2 : Int32)), .val (.ref b2_)] [(.int (1 : Int32))]))
        have cr70 : CHr Z consts_1 s.vm s.heap T69.vm T69.heap := by rw [hh, e69]; exact CR45.trans (CHv.at X69 hZ hEL CRl45.1)
        exact own_retWN X69 hS45 (by rw [e69]; exact hk45) hx (t := .boolean) Bd.returns (by simp) (hb hby d8_28) Bd.notSynchronized ⟨Or.inl ⟨rfl, Or.inr (Or.inr (hc69))⟩, N69, by rw [e69]; exact K68⟩ cr70 (by decide) (by decide)
      ·  -- unlike
        refine own_tr st69 ?_
        show own_Go p.tables e below _ (T69.setTop (mkF m 24 #[.val (.ref ar), .val (.ref ar), .val (.int (3 : Int32)), .val (.int (2 : Int32)), .val (.ref b2_)] [(.int (0 : Int32))]))
        refine own_st (fun _ k' => XS.ifYes X69.here hx rfl (pc0 := 24) (pc' := 29) rfl (hb hby d8_24) rfl ((if0 _ _).trans (teq (by decide : (0 : Int32) = (0 : Int32))).1) (by decide) (by decide) k') ?_
        show own_Go p.tables e below _ (T69.setTop (mkF m 29 #[.val (.ref ar), .val (.ref ar), .val (.int (3 : Int32)), .val (.int (2 : Int32)), .val (.ref b2_)] []))
        refine own_st (fun _ k' => XS.iinc X69.here hx rfl (hb hby d8_29) rfl (l' := #[.val (.ref ar), .val (.ref ar), .val (.int (3 : Int32)), .val (.int (3 : Int32)), .val (.ref b2_)]) rfl k') ?_
        show own_Go p.tables e below _ (T69.setTop (mkF m 32 #[.val (.ref ar), .val (.ref ar), .val (.int (3 : Int32)), .val (.int (3 : Int32)), .val (.ref b2_)] []))
        refine own_st (fun _ k' => XS.goto X69.here hx rfl (pc0 := 32) (pc' := 7) rfl (hb hby d8_32) (by decide) (by decide) k') ?_
        show own_Go p.tables e below _ (T69.setTop (mkF m 7 #[.val (.ref ar), .val (.ref ar), .val (.int (3 : Int32)), .val (.int (3 : Int32)), .val (.ref b2_)] []))
        refine own_st (fun _ k' => XS.iloadN X69.here hx rfl (hb hby d8_7) rfl k') ?_
        show own_Go p.tables e below _ (T69.setTop (mkF m 8 #[.val (.ref ar), .val (.ref ar), .val (.int (3 : Int32)), .val (.int (3 : Int32)), .val (.ref b2_)] [(.int (3 : Int32))]))
        refine own_st (fun _ k' => XS.iloadN X69.here hx rfl (hb hby d8_8) rfl k') ?_
        show own_Go p.tables e below _ (T69.setTop (mkF m 9 #[.val (.ref ar), .val (.ref ar), .val (.int (3 : Int32)), .val (.int (3 : Int32)), .val (.ref b2_)] [(.int (3 : Int32)), (.int (3 : Int32))]))
        refine own_st (fun _ k' => XS.icmpYes X69.here hx rfl (pc0 := 9) (pc' := 35) rfl (hb hby d8_9) rfl (flt (by decide : ¬ (3 : Int32) < (3 : Int32))).2.1 (by decide) (by decide) k') ?_
        show own_Go p.tables e below _ (T69.setTop (mkF m 35 #[.val (.ref ar), .val (.ref ar), .val (.int (3 : Int32)), .val (.int (3 : Int32)), .val (.ref b2_)] []))
        refine own_st (fun _ k' => XS.iconst X69.here hx rfl (hb hby d8_35) k') ?_
        show own_Go p.tables e below _ (T69.setTop (mkF m 36 #[.val (.ref ar), .val (.ref ar), .val (.int (3 : Int32)), .val (.int (3 : Int32)), .val (.ref b2_)] [(.int (0 : Int32))]))
        have cr71 : CHr Z consts_1 s.vm s.heap T69.vm T69.heap := by rw [hh, e69]; exact CR45.trans (CHv.at X69 hZ hEL CRl45.1)
        exact own_retWN X69 hS45 (by rw [e69]; exact hk45) hx (t := .boolean) Bd.returns (by simp) (hb hby d8_36) Bd.notSynchronized ⟨Or.inr ⟨rfl, fun q => q.elim hc19 (fun q => q.elim hc42 hc69)⟩, N69, by rw [e69]; exact K68⟩ cr71 (by decide) (by decide)

theorem own_k (x : Int32) : (x &&& 3) = 0 ∨ (x &&& 3) = 1 ∨ (x &&& 3) = 2 ∨ (x &&& 3) = 3 := by
  have h := c_mask x 3 2 (by decide) (by decide)
  rcases (by omega : (x &&& 3).toInt = 0 ∨ (x &&& 3).toInt = 1 ∨ (x &&& 3).toInt = 2 ∨ (x &&& 3).toInt = 3) with q | q | q | q
  · exact Or.inl (Int32.toInt_inj.mp q)
  · exact Or.inr (Or.inl (Int32.toInt_inj.mp q))
  · exact Or.inr (Or.inr (Or.inl (Int32.toInt_inj.mp q)))
  · exact Or.inr (Or.inr (Or.inr (Int32.toInt_inj.mp q)))

theorem pd__I_Ljava_lang_String_ : parseMethodDescriptor "(I)Ljava/lang/String;" = some ⟨[.int], some (.object "java/lang/String")⟩ := by decide +kernel
theorem pd___Ljava_lang_String__Z : parseMethodDescriptor "([Ljava/lang/String;)Z" = some ⟨[(.array (.object "java/lang/String"))], some .boolean⟩ := by decide +kernel
theorem pd__I_Z : parseMethodDescriptor "(I)Z" = some ⟨[.int], some .boolean⟩ := by decide +kernel
theorem ef_rm0 (m : MethodId) (x0 : Int32) (x1 : Int32) (x2 : Int32) (x3 : Int32) : entryFrame m #[(.int x0), (.int x1), (.int x2), (.int x3)] maxLocals = mkF m 0 #[.val (.int x0), .val (.int x1), .val (.int x2), .val (.int x3), .unset, .unset, .unset, .unset, .unset, .unset] [] := by first | (simp [entryFrame, mkF, argsToLocals, Value.category, maxLocals]; done) | rfl
def Q_rm0 (Z : State) (count xa xb xc : Int32) (G1 : Int32) (G3 : Value) (h0 : Heap) (n0 : Nat) (v : Option Value) (h : Heap) (L : List Loc) : Prop := v = some (.int 1) ∧ Fr n0 L
def K_rm0 (Z : State) (count xa xb xc : Int32) (G1 : Int32) (G3 : Value) (h0 : Heap) (n0 : Nat) (s : State) : Outcome → State → Prop := fun oo U' => ∃ v L, oo = .returned v ∧ Q_rm0 Z count xa xb xc G1 G3 h0 n0 v U'.heap L ∧ CHr Z consts_1 s.vm s.heap U'.vm U'.heap ∧ ReturnedEndW s oo U' L 34 243
set_option maxRecDepth 65536 in
set_option maxHeartbeats 40000000 in
theorem rm0 (l : Launch) (Z : State) (a0 : Array Value) (hw : ∀ d ∈ tables_1, d.before a0 Z = true) (ws : List Jvm.Cond) (count xa xb xc : Int32) (G1 : Int32) (G3 : Value) (h0 : Heap) (n0 : Nat) (Z0 : n0 ≤ h0.size) (hEL : EW Z a0 consts_1) (O2 : Sta Z Z.heap "java/lang/String" "COMPACT_STRINGS" "Z" (.int G1)) (O4 : Sta Z Z.heap "jdk/internal/util/Preconditions" "SIOOBE_FORMATTER" "Ljava/util/function/BiFunction;" G3) (P5 : ¬ (G1 = (0 : Int32))) (rG3 : G3.isRef = true) (O_ : Old Z n0 h0) :
    MetFree l x (head1 (Jvm.Cond.code x code maxLocals ret :: ws) room_1) (fun as_ U => as_ = #[(.int count), (.int xa), (.int xb), (.int xc)] ∧ Z.Warmed39 U.vm ∧ U.heap = h0 ∧ CHv Z consts_1 U.vm h0) (fun _ _ _ _ _ => True) (fun _ U oo U' => ∃ v L, oo = .returned v ∧ Q_rm0 Z count xa xb xc G1 G3 h0 n0 v U'.heap L ∧ CHr Z consts_1 U.vm U.heap U'.vm U'.heap ∧ ReturnedEndW U oo U' L 34 243) := by
  refine MetFree.of_bodySF (plainFor_of_name pn_com_example_frozen_thread_frozenthread_cli_FormReporterAsksForJsonPinLaw) hisR ?_
  intro p e s m args below meth c s₁ Bd hml0 hP hK
  obtain ⟨rfl, hZ, hh, hC⟩ := hP
  have hx := Bd.exec
  have hby := Bd.bytes
  have hml : c.maxLocals = 10 := hml0
  have hown : s.vm.findClass "com/example/frozen_thread/frozenthread/cli/FormReporterAsksForJsonPinLaw" = some m.cls := findClass_of_methodNamed Bd.named
  have hnm := (name_of_methodNamed Bd.named Bd.method).1
  have X0 : Stand p l e room_1 (s.setVm s.vm) m #[(.int count), (.int xa), (.int xb), (.int xc)] below meth c s₁ [] 0 0 := Stand.of_body Bd
  have hZ : Z.Warmed39 (s.setVm s.vm).vm := hZ
  have hown : (s.setVm s.vm).vm.findClass "com/example/frozen_thread/frozenthread/cli/FormReporterAsksForJsonPinLaw" = some m.cls := hown
  have e0 : s₁.heap = h0 := by rw [← hh, Bd.state]; rfl
  have N0 := Fr.nil n0
  refine own_st (K := (K_rm0 Z count xa xb xc G1 G3 h0 n0 s)) (fun t' k' => castTop (ef_rm0 m count xa xb xc) k') ?_
  have hSA : ∀ a ∈ Bundle.stringAtoms, a.before a0 Z = true := by
    intro a ha
    simp only [Bundle.stringAtoms, List.mem_cons, List.not_mem_nil, or_false] at ha
    rcases ha with rfl | rfl | rfl | rfl | rfl | rfl | rfl
    · exact (hw _ (List.mem_of_getElem? (i := 7) rfl))
    · exact (hw _ (List.mem_of_getElem? (i := 6) rfl))
    · exact (hw _ (List.mem_of_getElem? (i := 23) rfl))
    · exact (hw _ (List.mem_of_getElem? (i := 33) rfl))
    · exact (hw _ (List.mem_of_getElem? (i := 31) rfl))
    · exact (hw _ (List.mem_of_getElem? (i := 43) rfl))
    · exact (hw _ (List.mem_of_getElem? (i := 44) rfl))
  have hS0 : s.Since s.vm h0.size := (State.WarmedH.refl s).since _
  have hk0 : h0.size ≤ h0.size := Nat.le_refl _
  have CR0 := CHr.refl hC
  show own_Go p.tables e below _ (s₁.setTop (mkF m 0 #[.val (.int count), .val (.int xa), .val (.int xb), .val (.int xc), .unset, .unset, .unset, .unset, .unset, .unset] []))
  refine own_st (fun _ k' => XS.iloadN X0.here hx rfl (hb hby at_0) rfl k') ?_
  show own_Go p.tables e below _ (s₁.setTop (mkF m 1 #[.val (.int count), .val (.int xa), .val (.int xb), .val (.int xc), .unset, .unset, .unset, .unset, .unset, .unset] [(.int count)]))
  refine own_st (fun _ k' => XS.iconst X0.here hx rfl (hb hby at_1) k') ?_
  show own_Go p.tables e below _ (s₁.setTop (mkF m 2 #[.val (.int count), .val (.int xa), .val (.int xb), .val (.int xc), .unset, .unset, .unset, .unset, .unset, .unset] [(.int (3 : Int32)), (.int count)]))
  refine own_st (fun _ k' => XS.iand X0.here hx rfl (hb hby at_2) rfl k') ?_
  show own_Go p.tables e below _ (s₁.setTop (mkF m 3 #[.val (.int count), .val (.int xa), .val (.int xb), .val (.int xc), .unset, .unset, .unset, .unset, .unset, .unset] [(.int (count &&& (3 : Int32)))]))
  refine own_st (fun _ k' => XS.istore X0.here hx rfl (hb hby at_3) rfl (l' := #[.val (.int count), .val (.int xa), .val (.int xb), .val (.int xc), .val (.int (count &&& (3 : Int32))), .unset, .unset, .unset, .unset, .unset]) rfl k') ?_
  show own_Go p.tables e below _ (s₁.setTop (mkF m 5 #[.val (.int count), .val (.int xa), .val (.int xb), .val (.int xc), .val (.int (count &&& (3 : Int32))), .unset, .unset, .unset, .unset, .unset] []))
  refine own_st (fun _ k' => XS.iloadN X0.here hx rfl (hb hby at_5) rfl k') ?_
  show own_Go p.tables e below _ (s₁.setTop (mkF m 6 #[.val (.int count), .val (.int xa), .val (.int xb), .val (.int xc), .val (.int (count &&& (3 : Int32))), .unset, .unset, .unset, .unset, .unset] [(.int xa)]))
  obtain ⟨_, _, ⟨T1, L1, k1, n1⟩, -, X1', h21, gr1, ⟨Lc1, hQ1, l1, y1, z1, CRc1⟩, st1⟩ := callSS X0 hx (y := (⟨"com/example/frozen_thread/frozenthread/cli/FormReporterAsksForJsonPinLaw", "make", "(I)Ljava/lang/String;"⟩ : MethodName)) hown (mvT hZ (hw _ (List.mem_of_getElem? (i := 0) rfl))) (mvT hZ (hw _ (List.mem_of_getElem? (i := 1) rfl))) (mvT hZ (hw _ (List.mem_of_getElem? (i := 2) rfl))) (mvT hZ (hw _ (List.mem_of_getElem? (i := 3) rfl))) (by decide) (backOfSH (W := 0) (rmMk l Z a0 hw [] xa G1 G3 h0 n0 Z0 hEL O2 O4 P5 rG3 O_) hZ (hw _ (List.mem_of_getElem? (i := 3) rfl)) (hw _ (List.mem_of_getElem? (i := 2) rfl)) (by decide) (by decide) hEL hC) (g := (mkF m 6 #[.val (.int count), .val (.int xa), .val (.int xb), .val (.int xc), .val (.int (count &&& (3 : Int32))), .unset, .unset, .unset, .unset, .unset] [(.int xa)])) rfl (by rw [hml]; rfl) (argsL := [(.int xa)]) (rest := []) (lenOf pd__I_Ljava_lang_String_ rfl) rfl (by show 2 * 0 + _ ≤ _; exact Nat.le_of_eq rfl) (hb hby at_6) (fun _ _ => ⟨rfl, e0, (by decide : 0 + 7 ≤ _), (by decide : 0 + 24 ≤ _)⟩)
  dsimp only [Pt.U, Pt.locs, Pt.cells, Pt.slots] at X1' h21 gr1 l1 y1 z1 st1 hQ1 CRc1
  subst l1 y1 z1
  obtain ⟨X1, hS1, hZ, hown⟩ := rebS hS0 (by rw [e0]; exact hk0) X1' h21 gr1 hZ hown
  have CR1 := CR0.trans CRc1
  have hk1 : T1.heap.size ≤ T1.heap.size := Nat.le_refl _
  obtain ⟨bs1, ts1, ks1, rfl, Nq1, Kc1, g_bs1, sz1, Es1, Fc1, Fv1, Vt1⟩ := hQ1
  have N1 := Fr.app N0 Nq1
  have O__x2 := O_.keep Kc1 all0
  have Zc1 : n0 ≤ T1.heap.size := Nat.le_trans Z0 Kc1.1
  refine own_tr st1 ?_
  show own_Go p.tables e below _ (T1.setTop (mkF m 9 #[.val (.int count), .val (.int xa), .val (.int xb), .val (.int xc), .val (.int (count &&& (3 : Int32))), .unset, .unset, .unset, .unset, .unset] [(.ref bs1)]))
  refine own_st (fun _ k' => XS.astore X1.here hx rfl (hb hby at_9) rfl rfl (l' := #[.val (.int count), .val (.int xa), .val (.int xb), .val (.int xc), .val (.int (count &&& (3 : Int32))), .val (.ref bs1), .unset, .unset, .unset, .unset]) rfl k') ?_
  show own_Go p.tables e below _ (T1.setTop (mkF m 11 #[.val (.int count), .val (.int xa), .val (.int xb), .val (.int xc), .val (.int (count &&& (3 : Int32))), .val (.ref bs1), .unset, .unset, .unset, .unset] []))
  refine own_st (fun _ k' => XS.iloadN X1.here hx rfl (hb hby at_11) rfl k') ?_
  show own_Go p.tables e below _ (T1.setTop (mkF m 12 #[.val (.int count), .val (.int xa), .val (.int xb), .val (.int xc), .val (.int (count &&& (3 : Int32))), .val (.ref bs1), .unset, .unset, .unset, .unset] [(.int xb)]))
  obtain ⟨_, _, ⟨T3, L3, k3, n3⟩, -, X3', h23, gr3, ⟨Lc3, hQ3, l3, y3, z3, CRc3⟩, st3⟩ := callSS X1 hx (y := (⟨"com/example/frozen_thread/frozenthread/cli/FormReporterAsksForJsonPinLaw", "make", "(I)Ljava/lang/String;"⟩ : MethodName)) hown (mvT hZ (hw _ (List.mem_of_getElem? (i := 0) rfl))) (mvT hZ (hw _ (List.mem_of_getElem? (i := 1) rfl))) (mvT hZ (hw _ (List.mem_of_getElem? (i := 2) rfl))) (mvT hZ (hw _ (List.mem_of_getElem? (i := 3) rfl))) (by decide) (backOfSH (W := 0) (rmMk l Z a0 hw [] xb G1 G3 T1.heap n0 Zc1 hEL O2 O4 P5 rG3 O__x2) hZ (hw _ (List.mem_of_getElem? (i := 3) rfl)) (hw _ (List.mem_of_getElem? (i := 2) rfl)) (by decide) (by decide) hEL CRc1.1) (g := (mkF m 12 #[.val (.int count), .val (.int xa), .val (.int xb), .val (.int xc), .val (.int (count &&& (3 : Int32))), .val (.ref bs1), .unset, .unset, .unset, .unset] [(.int xb)])) rfl (by rw [hml]; rfl) (argsL := [(.int xb)]) (rest := []) (lenOf pd__I_Ljava_lang_String_ rfl) rfl (by show 2 * 0 + _ ≤ _; exact Nat.le_of_eq rfl) (hb hby at_12) (fun _ _ => ⟨rfl, rfl, (by decide : 7 + 7 ≤ _), (by decide : 24 + 24 ≤ _)⟩)
  dsimp only [Pt.U, Pt.locs, Pt.cells, Pt.slots] at X3' h23 gr3 l3 y3 z3 st3 hQ3 CRc3
  subst l3 y3 z3
  obtain ⟨X3, hS3, hZ, hown⟩ := rebS hS1 (by exact hk1) X3' h23 gr3 hZ hown
  have CR3 := CR1.trans CRc3
  have hk3 : T3.heap.size ≤ T3.heap.size := Nat.le_refl _
  obtain ⟨bs3, ts3, ks3, rfl, Nq3, Kc3, g_bs3, sz3, Es3, Fc3, Fv3, Vt3⟩ := hQ3
  have N3 := Fr.app N1 Nq3
  have O__x4 := O__x2.keep Kc3 all0
  have Es1_x5 := Es1.keep Kc3
  have Fc1_x6 := Fc1.keep Kc3 nin0
  have Fv1_x7 := Fv1.keep Kc3 nin0
  have Vt1_x8 := Vt1.keep Kc3 nin0
  have Zc3 : n0 ≤ T3.heap.size := Nat.le_trans Zc1 Kc3.1
  refine own_tr st3 ?_
  show own_Go p.tables e below _ (T3.setTop (mkF m 15 #[.val (.int count), .val (.int xa), .val (.int xb), .val (.int xc), .val (.int (count &&& (3 : Int32))), .val (.ref bs1), .unset, .unset, .unset, .unset] [(.ref bs3)]))
  refine own_st (fun _ k' => XS.astore X3.here hx rfl (hb hby at_15) rfl rfl (l' := #[.val (.int count), .val (.int xa), .val (.int xb), .val (.int xc), .val (.int (count &&& (3 : Int32))), .val (.ref bs1), .val (.ref bs3), .unset, .unset, .unset]) rfl k') ?_
  show own_Go p.tables e below _ (T3.setTop (mkF m 17 #[.val (.int count), .val (.int xa), .val (.int xb), .val (.int xc), .val (.int (count &&& (3 : Int32))), .val (.ref bs1), .val (.ref bs3), .unset, .unset, .unset] []))
  refine own_st (fun _ k' => XS.iloadN X3.here hx rfl (hb hby at_17) rfl k') ?_
  show own_Go p.tables e below _ (T3.setTop (mkF m 18 #[.val (.int count), .val (.int xa), .val (.int xb), .val (.int xc), .val (.int (count &&& (3 : Int32))), .val (.ref bs1), .val (.ref bs3), .unset, .unset, .unset] [(.int xc)]))
  obtain ⟨_, _, ⟨T9, L9, k9, n9⟩, -, X9', h29, gr9, ⟨Lc9, hQ9, l9, y9, z9, CRc9⟩, st9⟩ := callSS X3 hx (y := (⟨"com/example/frozen_thread/frozenthread/cli/FormReporterAsksForJsonPinLaw", "make", "(I)Ljava/lang/String;"⟩ : MethodName)) hown (mvT hZ (hw _ (List.mem_of_getElem? (i := 0) rfl))) (mvT hZ (hw _ (List.mem_of_getElem? (i := 1) rfl))) (mvT hZ (hw _ (List.mem_of_getElem? (i := 2) rfl))) (mvT hZ (hw _ (List.mem_of_getElem? (i := 3) rfl))) (by decide) (backOfSH (W := 0) (rmMk l Z a0 hw [] xc G1 G3 T3.heap n0 Zc3 hEL O2 O4 P5 rG3 O__x4) hZ (hw _ (List.mem_of_getElem? (i := 3) rfl)) (hw _ (List.mem_of_getElem? (i := 2) rfl)) (by decide) (by decide) hEL CRc3.1) (g := (mkF m 18 #[.val (.int count), .val (.int xa), .val (.int xb), .val (.int xc), .val (.int (count &&& (3 : Int32))), .val (.ref bs1), .val (.ref bs3), .unset, .unset, .unset] [(.int xc)])) rfl (by rw [hml]; rfl) (argsL := [(.int xc)]) (rest := []) (lenOf pd__I_Ljava_lang_String_ rfl) rfl (by show 2 * 0 + _ ≤ _; exact Nat.le_of_eq rfl) (hb hby at_18) (fun _ _ => ⟨rfl, rfl, (by decide : 14 + 7 ≤ _), (by decide : 48 + 24 ≤ _)⟩)
  dsimp only [Pt.U, Pt.locs, Pt.cells, Pt.slots] at X9' h29 gr9 l9 y9 z9 st9 hQ9 CRc9
  subst l9 y9 z9
  obtain ⟨X9, hS9, hZ, hown⟩ := rebS hS3 (by exact hk3) X9' h29 gr9 hZ hown
  have CR9 := CR3.trans CRc9
  have hk9 : T9.heap.size ≤ T9.heap.size := Nat.le_refl _
  obtain ⟨bs9, ts9, ks9, rfl, Nq9, Kc9, g_bs9, sz9, Es9, Fc9, Fv9, Vt9⟩ := hQ9
  have N9 := Fr.app N3 Nq9
  have O__x10 := O__x4.keep Kc9 all0
  have Es1_x11 := Es1_x5.keep Kc9
  have Fc1_x12 := Fc1_x6.keep Kc9 nin0
  have Fv1_x13 := Fv1_x7.keep Kc9 nin0
  have Vt1_x14 := Vt1_x8.keep Kc9 nin0
  have Es3_x15 := Es3.keep Kc9
  have Fc3_x16 := Fc3.keep Kc9 nin0
  have Fv3_x17 := Fv3.keep Kc9 nin0
  have Vt3_x18 := Vt3.keep Kc9 nin0
  have Zc9 : n0 ≤ T9.heap.size := Nat.le_trans Zc3 Kc9.1
  refine own_tr st9 ?_
  show own_Go p.tables e below _ (T9.setTop (mkF m 21 #[.val (.int count), .val (.int xa), .val (.int xb), .val (.int xc), .val (.int (count &&& (3 : Int32))), .val (.ref bs1), .val (.ref bs3), .unset, .unset, .unset] [(.ref bs9)]))
  refine own_st (fun _ k' => XS.astore X9.here hx rfl (hb hby at_21) rfl rfl (l' := #[.val (.int count), .val (.int xa), .val (.int xb), .val (.int xc), .val (.int (count &&& (3 : Int32))), .val (.ref bs1), .val (.ref bs3), .val (.ref bs9), .unset, .unset]) rfl k') ?_
  show own_Go p.tables e below _ (T9.setTop (mkF m 23 #[.val (.int count), .val (.int xa), .val (.int xb), .val (.int xc), .val (.int (count &&& (3 : Int32))), .val (.ref bs1), .val (.ref bs3), .val (.ref bs9), .unset, .unset] []))
  rcases own_k count with hk | hk | hk | hk
  ·  -- n = 0
    rw [hk]
    show own_Go p.tables e below _ (T9.setTop (mkF m 23 #[.val (.int count), .val (.int xa), .val (.int xb), .val (.int xc), .val (.int (0 : Int32)), .val (.ref bs1), .val (.ref bs3), .val (.ref bs9), .unset, .unset] []))
    refine own_st (fun _ k' => XS.iload X9.here hx rfl (hb hby at_23) rfl k') ?_
    show own_Go p.tables e below _ (T9.setTop (mkF m 25 #[.val (.int count), .val (.int xa), .val (.int xb), .val (.int xc), .val (.int (0 : Int32)), .val (.ref bs1), .val (.ref bs3), .val (.ref bs9), .unset, .unset] [(.int (0 : Int32))]))
    obtain ⟨T19, h19, k19, X19, e19, E19, A19, O19, st19⟩ := newR X9 hx hZ hown (hw _ (List.mem_of_getElem? (i := 5) rfl)) (hw _ (List.mem_of_getElem? (i := 34) rfl)) rfl (g := (mkF m 25 #[.val (.int count), .val (.int xa), .val (.int xb), .val (.int xc), .val (.int (0 : Int32)), .val (.ref bs1), .val (.ref bs3), .val (.ref bs9), .unset, .unset] [(.int (0 : Int32))])) rfl (hb hby at_25) rfl (by decide) (cap := 0) (by decide) (by decide) (by decide) (by decide)
    obtain ⟨ar, g19⟩ : ∃ z, z = T9.heap.size := ⟨_, rfl⟩
    rw [← g19] at A19 st19
    have g_ar : n0 ≤ ar := Nat.le_trans Zc9 (Nat.le_of_eq g19.symm)
    have ne_bs1_ar : bs1 ≠ ar := Nat.ne_of_lt (Nat.lt_of_lt_of_le Es1_x11.lt (Nat.le_of_eq g19.symm))
    have ne_ts1_ar : ts1 ≠ ar := Nat.ne_of_lt (Nat.lt_of_lt_of_le Vt1_x14.lt (Nat.le_of_eq g19.symm))
    have ne_bs3_ar : bs3 ≠ ar := Nat.ne_of_lt (Nat.lt_of_lt_of_le Es3_x15.lt (Nat.le_of_eq g19.symm))
    have ne_ts3_ar : ts3 ≠ ar := Nat.ne_of_lt (Nat.lt_of_lt_of_le Vt3_x18.lt (Nat.le_of_eq g19.symm))
    have ne_bs9_ar : bs9 ≠ ar := Nat.ne_of_lt (Nat.lt_of_lt_of_le Es9.lt (Nat.le_of_eq g19.symm))
    have ne_ts9_ar : ts9 ≠ ar := Nat.ne_of_lt (Nat.lt_of_lt_of_le Vt9.lt (Nat.le_of_eq g19.symm))
    have Hc20 := CHv.ext E19 CRc9.1
    have CR20 := CR9.trans (CHr.ext E19 CRc9.1)
    have hk20 := Nat.le_trans hk9 E19.1
    have O__x21 := O__x10.ext E19
    have Es1_x22 := Es1_x11.ext E19
    have Fc1_x23 := Fc1_x12.ext E19
    have Fv1_x24 := Fv1_x13.ext E19
    have Vt1_x25 := Vt1_x14.ext E19
    have Es3_x26 := Es3_x15.ext E19
    have Fc3_x27 := Fc3_x16.ext E19
    have Fv3_x28 := Fv3_x17.ext E19
    have Vt3_x29 := Vt3_x18.ext E19
    have Es9_x30 := Es9.ext E19
    have Fc9_x31 := Fc9.ext E19
    have Fv9_x32 := Fv9.ext E19
    have Vt9_x33 := Vt9.ext E19
    have ZE19 : n0 ≤ h19.size := Nat.le_trans Zc9 E19.1
    have V_ar : Arv Z h19 ar k19 (.object "java/lang/String") (0 : Int32) [] .null := (Arv.new A19 (by decide))
    refine own_st st19 ?_
    show own_Go p.tables e below _ (T19.setTop (mkF m 28 #[.val (.int count), .val (.int xa), .val (.int xb), .val (.int xc), .val (.int (0 : Int32)), .val (.ref bs1), .val (.ref bs3), .val (.ref bs9), .unset, .unset] [(.ref ar)]))
    refine own_st (fun _ k' => XS.astore X19.here hx rfl (hb hby at_28) rfl rfl (l' := #[.val (.int count), .val (.int xa), .val (.int xb), .val (.int xc), .val (.int (0 : Int32)), .val (.ref bs1), .val (.ref bs3), .val (.ref bs9), .val (.ref ar), .unset]) rfl k') ?_
    show own_Go p.tables e below _ (T19.setTop (mkF m 30 #[.val (.int count), .val (.int xa), .val (.int xb), .val (.int xc), .val (.int (0 : Int32)), .val (.ref bs1), .val (.ref bs3), .val (.ref bs9), .val (.ref ar), .unset] []))
    refine own_st (fun _ k' => XS.iload X19.here hx rfl (hb hby at_30) rfl k') ?_
    show own_Go p.tables e below _ (T19.setTop (mkF m 32 #[.val (.int count), .val (.int xa), .val (.int xb), .val (.int xc), .val (.int (0 : Int32)), .val (.ref bs1), .val (.ref bs3), .val (.ref bs9), .val (.ref ar), .unset] [(.int (0 : Int32))]))
    refine own_st (fun _ k' => XS.iconst X19.here hx rfl (hb hby at_32) k') ?_
    show own_Go p.tables e below _ (T19.setTop (mkF m 33 #[.val (.int count), .val (.int xa), .val (.int xb), .val (.int xc), .val (.int (0 : Int32)), .val (.ref bs1), .val (.ref bs3), .val (.ref bs9), .val (.ref ar), .unset] [(.int (1 : Int32)), (.int (0 : Int32))]))
    refine own_st (fun _ k' => XS.icmpYes X19.here hx rfl (pc0 := 33) (pc' := 42) rfl (hb hby at_33) rfl (tlt (by decide : (0 : Int32) < (1 : Int32))).1 (by decide) (by decide) k') ?_
    show own_Go p.tables e below _ (T19.setTop (mkF m 42 #[.val (.int count), .val (.int xa), .val (.int xb), .val (.int xc), .val (.int (0 : Int32)), .val (.ref bs1), .val (.ref bs3), .val (.ref bs9), .val (.ref ar), .unset] []))
    refine own_st (fun _ k' => XS.iload X19.here hx rfl (hb hby at_42) rfl k') ?_
    show own_Go p.tables e below _ (T19.setTop (mkF m 44 #[.val (.int count), .val (.int xa), .val (.int xb), .val (.int xc), .val (.int (0 : Int32)), .val (.ref bs1), .val (.ref bs3), .val (.ref bs9), .val (.ref ar), .unset] [(.int (0 : Int32))]))
    refine own_st (fun _ k' => XS.iconst X19.here hx rfl (hb hby at_44) k') ?_
    show own_Go p.tables e below _ (T19.setTop (mkF m 45 #[.val (.int count), .val (.int xa), .val (.int xb), .val (.int xc), .val (.int (0 : Int32)), .val (.ref bs1), .val (.ref bs3), .val (.ref bs9), .val (.ref ar), .unset] [(.int (2 : Int32)), (.int (0 : Int32))]))
    refine own_st (fun _ k' => XS.icmpYes X19.here hx rfl (pc0 := 45) (pc' := 54) rfl (hb hby at_45) rfl (tlt (by decide : (0 : Int32) < (2 : Int32))).1 (by decide) (by decide) k') ?_
    show own_Go p.tables e below _ (T19.setTop (mkF m 54 #[.val (.int count), .val (.int xa), .val (.int xb), .val (.int xc), .val (.int (0 : Int32)), .val (.ref bs1), .val (.ref bs3), .val (.ref bs9), .val (.ref ar), .unset] []))
    refine own_st (fun _ k' => XS.iload X19.here hx rfl (hb hby at_54) rfl k') ?_
    show own_Go p.tables e below _ (T19.setTop (mkF m 56 #[.val (.int count), .val (.int xa), .val (.int xb), .val (.int xc), .val (.int (0 : Int32)), .val (.ref bs1), .val (.ref bs3), .val (.ref bs9), .val (.ref ar), .unset] [(.int (0 : Int32))]))
    refine own_st (fun _ k' => XS.iconst X19.here hx rfl (hb hby at_56) k') ?_
    show own_Go p.tables e below _ (T19.setTop (mkF m 57 #[.val (.int count), .val (.int xa), .val (.int xb), .val (.int xc), .val (.int (0 : Int32)), .val (.ref bs1), .val (.ref bs3), .val (.ref bs9), .val (.ref ar), .unset] [(.int (3 : Int32)), (.int (0 : Int32))]))
    refine own_st (fun _ k' => XS.icmpYes X19.here hx rfl (pc0 := 57) (pc' := 66) rfl (hb hby at_57) rfl (tlt (by decide : (0 : Int32) < (3 : Int32))).1 (by decide) (by decide) k') ?_
    show own_Go p.tables e below _ (T19.setTop (mkF m 66 #[.val (.int count), .val (.int xa), .val (.int xb), .val (.int xc), .val (.int (0 : Int32)), .val (.ref bs1), .val (.ref bs3), .val (.ref bs9), .val (.ref ar), .unset] []))
    refine own_st (fun _ k' => XS.iload X19.here hx rfl (hb hby at_66) rfl k') ?_
    show own_Go p.tables e below _ (T19.setTop (mkF m 68 #[.val (.int count), .val (.int xa), .val (.int xb), .val (.int xc), .val (.int (0 : Int32)), .val (.ref bs1), .val (.ref bs3), .val (.ref bs9), .val (.ref ar), .unset] [(.int (0 : Int32))]))
    refine own_st (fun _ k' => XS.iconst X19.here hx rfl (hb hby at_68) k') ?_
    show own_Go p.tables e below _ (T19.setTop (mkF m 69 #[.val (.int count), .val (.int xa), .val (.int xb), .val (.int xc), .val (.int (0 : Int32)), .val (.ref bs1), .val (.ref bs3), .val (.ref bs9), .val (.ref ar), .unset] [(.int (1 : Int32)), (.int (0 : Int32))]))
    refine own_st (fun _ k' => XS.icmpYes X19.here hx rfl (pc0 := 69) (pc' := 79) rfl (hb hby at_69) rfl (tlt (by decide : (0 : Int32) < (1 : Int32))).1 (by decide) (by decide) k') ?_
    show own_Go p.tables e below _ (T19.setTop (mkF m 79 #[.val (.int count), .val (.int xa), .val (.int xb), .val (.int xc), .val (.int (0 : Int32)), .val (.ref bs1), .val (.ref bs3), .val (.ref bs9), .val (.ref ar), .unset] []))
    refine own_st (fun _ k' => XS.iload X19.here hx rfl (hb hby at_79) rfl k') ?_
    show own_Go p.tables e below _ (T19.setTop (mkF m 81 #[.val (.int count), .val (.int xa), .val (.int xb), .val (.int xc), .val (.int (0 : Int32)), .val (.ref bs1), .val (.ref bs3), .val (.ref bs9), .val (.ref ar), .unset] [(.int (0 : Int32))]))
    refine own_st (fun _ k' => XS.iconst X19.here hx rfl (hb hby at_81) k') ?_
    show own_Go p.tables e below _ (T19.setTop (mkF m 82 #[.val (.int count), .val (.int xa), .val (.int xb), .val (.int xc), .val (.int (0 : Int32)), .val (.ref bs1), .val (.ref bs3), .val (.ref bs9), .val (.ref ar), .unset] [(.int (2 : Int32)), (.int (0 : Int32))]))
    refine own_st (fun _ k' => XS.icmpYes X19.here hx rfl (pc0 := 82) (pc' := 92) rfl (hb hby at_82) rfl (tlt (by decide : (0 : Int32) < (2 : Int32))).1 (by decide) (by decide) k') ?_
    show own_Go p.tables e below _ (T19.setTop (mkF m 92 #[.val (.int count), .val (.int xa), .val (.int xb), .val (.int xc), .val (.int (0 : Int32)), .val (.ref bs1), .val (.ref bs3), .val (.ref bs9), .val (.ref ar), .unset] []))
    refine own_st (fun _ k' => XS.iload X19.here hx rfl (hb hby at_92) rfl k') ?_
    show own_Go p.tables e below _ (T19.setTop (mkF m 94 #[.val (.int count), .val (.int xa), .val (.int xb), .val (.int xc), .val (.int (0 : Int32)), .val (.ref bs1), .val (.ref bs3), .val (.ref bs9), .val (.ref ar), .unset] [(.int (0 : Int32))]))
    refine own_st (fun _ k' => XS.iconst X19.here hx rfl (hb hby at_94) k') ?_
    show own_Go p.tables e below _ (T19.setTop (mkF m 95 #[.val (.int count), .val (.int xa), .val (.int xb), .val (.int xc), .val (.int (0 : Int32)), .val (.ref bs1), .val (.ref bs3), .val (.ref bs9), .val (.ref ar), .unset] [(.int (3 : Int32)), (.int (0 : Int32))]))
    refine own_st (fun _ k' => XS.icmpYes X19.here hx rfl (pc0 := 95) (pc' := 109) rfl (hb hby at_95) rfl (tlt (by decide : (0 : Int32) < (3 : Int32))).1 (by decide) (by decide) k') ?_
    show own_Go p.tables e below _ (T19.setTop (mkF m 109 #[.val (.int count), .val (.int xa), .val (.int xb), .val (.int xc), .val (.int (0 : Int32)), .val (.ref bs1), .val (.ref bs3), .val (.ref bs9), .val (.ref ar), .unset] []))
    refine own_st (fun _ k' => XS.iconst X19.here hx rfl (hb hby at_109) k') ?_
    show own_Go p.tables e below _ (T19.setTop (mkF m 110 #[.val (.int count), .val (.int xa), .val (.int xb), .val (.int xc), .val (.int (0 : Int32)), .val (.ref bs1), .val (.ref bs3), .val (.ref bs9), .val (.ref ar), .unset] [(.int (0 : Int32))]))
    refine own_st (fun _ k' => XS.istore X19.here hx rfl (hb hby at_110) rfl (l' := #[.val (.int count), .val (.int xa), .val (.int xb), .val (.int xc), .val (.int (0 : Int32)), .val (.ref bs1), .val (.ref bs3), .val (.ref bs9), .val (.ref ar), .val (.int (0 : Int32))]) rfl k') ?_
    show own_Go p.tables e below _ (T19.setTop (mkF m 112 #[.val (.int count), .val (.int xa), .val (.int xb), .val (.int xc), .val (.int (0 : Int32)), .val (.ref bs1), .val (.ref bs3), .val (.ref bs9), .val (.ref ar), .val (.int (0 : Int32))] []))
    refine own_st (fun _ k' => XS.aload X19.here hx rfl (hb hby at_112) rfl rfl k') ?_
    show own_Go p.tables e below _ (T19.setTop (mkF m 114 #[.val (.int count), .val (.int xa), .val (.int xb), .val (.int xc), .val (.int (0 : Int32)), .val (.ref bs1), .val (.ref bs3), .val (.ref bs9), .val (.ref ar), .val (.int (0 : Int32))] [(.ref ar)]))
    obtain ⟨_, _, ⟨T34, L34, k34, n34⟩, -, X34', h234, gr34, ⟨Lc34, hQ34, l34, y34, z34, CRc34⟩, st34⟩ := callSS X19 hx (y := (⟨"com/example/frozen_thread/frozenthread/cli/FormReporter", "asksForJson", "([Ljava/lang/String;)Z"⟩ : MethodName)) hown (mvT hZ (hw _ (List.mem_of_getElem? (i := 35) rfl))) (mvT hZ (hw _ (List.mem_of_getElem? (i := 36) rfl))) (mvT hZ (hw _ (List.mem_of_getElem? (i := 37) rfl))) (mvT hZ (hw _ (List.mem_of_getElem? (i := 38) rfl))) (by decide) (backOfSH (W := 0) (rmAs0 l Z a0 hw [] ar k19 G1 G3 h19 n0 ZE19  V_ar hEL O2 O4 P5 rG3 O__x21) hZ (hw _ (List.mem_of_getElem? (i := 38) rfl)) (hw _ (List.mem_of_getElem? (i := 37) rfl)) (by decide) (by decide) hEL Hc20) (g := (mkF m 114 #[.val (.int count), .val (.int xa), .val (.int xb), .val (.int xc), .val (.int (0 : Int32)), .val (.ref bs1), .val (.ref bs3), .val (.ref bs9), .val (.ref ar), .val (.int (0 : Int32))] [(.ref ar)])) rfl (by rw [hml]; rfl) (argsL := [(.ref ar)]) (rest := []) (lenOf pd___Ljava_lang_String__Z rfl) rfl (by show 2 * 0 + _ ≤ _; exact Nat.le_of_eq rfl) (hb hby at_114) (fun _ _ => ⟨rfl, e19, (by decide : 22 + 0 ≤ _), (by decide : 72 + 0 ≤ _)⟩)
    dsimp only [Pt.U, Pt.locs, Pt.cells, Pt.slots] at X34' h234 gr34 l34 y34 z34 st34 hQ34 CRc34
    subst l34 y34 z34
    obtain ⟨X34, hS34, hZ, hown⟩ := rebS hS9 (by rw [e19]; exact hk20) X34' h234 gr34 hZ hown
    have CR34 := CR20.trans CRc34
    have hk34 : T34.heap.size ≤ T34.heap.size := Nat.le_refl _
    obtain ⟨hD34, Nq34, Kc34⟩ := hQ34
    have N34 := Fr.app N9 Nq34
    rcases hD34 with ⟨rfl, hj34⟩ | ⟨rfl, hj34⟩
    ·  -- 1
      refine own_tr st34 ?_
      show own_Go p.tables e below _ (T34.setTop (mkF m 117 #[.val (.int count), .val (.int xa), .val (.int xb), .val (.int xc), .val (.int (0 : Int32)), .val (.ref bs1), .val (.ref bs3), .val (.ref bs9), .val (.ref ar), .val (.int (0 : Int32))] [(.int (1 : Int32))]))
      refine own_st (fun _ k' => XS.iload X34.here hx rfl (hb hby at_117) rfl k') ?_
      show own_Go p.tables e below _ (T34.setTop (mkF m 119 #[.val (.int count), .val (.int xa), .val (.int xb), .val (.int xc), .val (.int (0 : Int32)), .val (.ref bs1), .val (.ref bs3), .val (.ref bs9), .val (.ref ar), .val (.int (0 : Int32))] [(.int (0 : Int32)), (.int (1 : Int32))]))
      exact False.elim (hj34)
    ·  -- 0
      refine own_tr st34 ?_
      show own_Go p.tables e below _ (T34.setTop (mkF m 117 #[.val (.int count), .val (.int xa), .val (.int xb), .val (.int xc), .val (.int (0 : Int32)), .val (.ref bs1), .val (.ref bs3), .val (.ref bs9), .val (.ref ar), .val (.int (0 : Int32))] [(.int (0 : Int32))]))
      refine own_st (fun _ k' => XS.iload X34.here hx rfl (hb hby at_117) rfl k') ?_
      show own_Go p.tables e below _ (T34.setTop (mkF m 119 #[.val (.int count), .val (.int xa), .val (.int xb), .val (.int xc), .val (.int (0 : Int32)), .val (.ref bs1), .val (.ref bs3), .val (.ref bs9), .val (.ref ar), .val (.int (0 : Int32))] [(.int (0 : Int32)), (.int (0 : Int32))]))
      refine own_st (fun _ k' => XS.icmpNo X34.here hx rfl (hb hby at_119) rfl (teq (by decide : (0 : Int32) = (0 : Int32))).2 k') ?_
      show own_Go p.tables e below _ (T34.setTop (mkF m 122 #[.val (.int count), .val (.int xa), .val (.int xb), .val (.int xc), .val (.int (0 : Int32)), .val (.ref bs1), .val (.ref bs3), .val (.ref bs9), .val (.ref ar), .val (.int (0 : Int32))] []))
      refine own_st (fun _ k' => XS.iconst X34.here hx rfl (hb hby at_122) k') ?_
      show own_Go p.tables e below _ (T34.setTop (mkF m 123 #[.val (.int count), .val (.int xa), .val (.int xb), .val (.int xc), .val (.int (0 : Int32)), .val (.ref bs1), .val (.ref bs3), .val (.ref bs9), .val (.ref ar), .val (.int (0 : Int32))] [(.int (1 : Int32))]))
      refine own_st (fun _ k' => XS.goto X34.here hx rfl (pc0 := 123) (pc' := 127) rfl (hb hby at_123) (by decide) (by decide) k') ?_
      show own_Go p.tables e below _ (T34.setTop (mkF m 127 #[.val (.int count), .val (.int xa), .val (.int xb), .val (.int xc), .val (.int (0 : Int32)), .val (.ref bs1), .val (.ref bs3), .val (.ref bs9), .val (.ref ar), .val (.int (0 : Int32))] [(.int (1 : Int32))]))
      have cr35 : CHr Z consts_1 s.vm s.heap T34.vm T34.heap := by rw [hh, show T34.heap = T34.heap from rfl]; exact CR34.trans (CHv.at X34 hZ hEL CRc34.1)
      exact own_retWN X34 hS34 (by exact hk34) hx (t := .boolean) Bd.returns (by simp) (hb hby at_127) Bd.notSynchronized ⟨rfl, N34⟩ cr35 (by decide) (by decide)
  ·  -- n = 1
    rw [hk]
    show own_Go p.tables e below _ (T9.setTop (mkF m 23 #[.val (.int count), .val (.int xa), .val (.int xb), .val (.int xc), .val (.int (1 : Int32)), .val (.ref bs1), .val (.ref bs3), .val (.ref bs9), .unset, .unset] []))
    refine own_st (fun _ k' => XS.iload X9.here hx rfl (hb hby at_23) rfl k') ?_
    show own_Go p.tables e below _ (T9.setTop (mkF m 25 #[.val (.int count), .val (.int xa), .val (.int xb), .val (.int xc), .val (.int (1 : Int32)), .val (.ref bs1), .val (.ref bs3), .val (.ref bs9), .unset, .unset] [(.int (1 : Int32))]))
    obtain ⟨T36, h36, k36, X36, e36, E36, A36, O36, st36⟩ := newR X9 hx hZ hown (hw _ (List.mem_of_getElem? (i := 5) rfl)) (hw _ (List.mem_of_getElem? (i := 34) rfl)) rfl (g := (mkF m 25 #[.val (.int count), .val (.int xa), .val (.int xb), .val (.int xc), .val (.int (1 : Int32)), .val (.ref bs1), .val (.ref bs3), .val (.ref bs9), .unset, .unset] [(.int (1 : Int32))])) rfl (hb hby at_25) rfl (by decide) (cap := 1) (by decide) (by decide) (by decide) (by decide)
    obtain ⟨ar, g36⟩ : ∃ z, z = T9.heap.size := ⟨_, rfl⟩
    rw [← g36] at A36 st36
    have g_ar : n0 ≤ ar := Nat.le_trans Zc9 (Nat.le_of_eq g36.symm)
    have ne_bs1_ar : bs1 ≠ ar := Nat.ne_of_lt (Nat.lt_of_lt_of_le Es1_x11.lt (Nat.le_of_eq g36.symm))
    have ne_ts1_ar : ts1 ≠ ar := Nat.ne_of_lt (Nat.lt_of_lt_of_le Vt1_x14.lt (Nat.le_of_eq g36.symm))
    have ne_bs3_ar : bs3 ≠ ar := Nat.ne_of_lt (Nat.lt_of_lt_of_le Es3_x15.lt (Nat.le_of_eq g36.symm))
    have ne_ts3_ar : ts3 ≠ ar := Nat.ne_of_lt (Nat.lt_of_lt_of_le Vt3_x18.lt (Nat.le_of_eq g36.symm))
    have ne_bs9_ar : bs9 ≠ ar := Nat.ne_of_lt (Nat.lt_of_lt_of_le Es9.lt (Nat.le_of_eq g36.symm))
    have ne_ts9_ar : ts9 ≠ ar := Nat.ne_of_lt (Nat.lt_of_lt_of_le Vt9.lt (Nat.le_of_eq g36.symm))
    have Hc37 := CHv.ext E36 CRc9.1
    have CR37 := CR9.trans (CHr.ext E36 CRc9.1)
    have hk37 := Nat.le_trans hk9 E36.1
    have O__x38 := O__x10.ext E36
    have Es1_x39 := Es1_x11.ext E36
    have Fc1_x40 := Fc1_x12.ext E36
    have Fv1_x41 := Fv1_x13.ext E36
    have Vt1_x42 := Vt1_x14.ext E36
    have Es3_x43 := Es3_x15.ext E36
    have Fc3_x44 := Fc3_x16.ext E36
    have Fv3_x45 := Fv3_x17.ext E36
    have Vt3_x46 := Vt3_x18.ext E36
    have Es9_x47 := Es9.ext E36
    have Fc9_x48 := Fc9.ext E36
    have Fv9_x49 := Fv9.ext E36
    have Vt9_x50 := Vt9.ext E36
    have ZE36 : n0 ≤ h36.size := Nat.le_trans Zc9 E36.1
    have V_ar : Arv Z h36 ar k36 (.object "java/lang/String") (1 : Int32) [.null] .null := (Arv.new A36 (by decide)).pad (pad_rep [] .null 1)
    refine own_st st36 ?_
    show own_Go p.tables e below _ (T36.setTop (mkF m 28 #[.val (.int count), .val (.int xa), .val (.int xb), .val (.int xc), .val (.int (1 : Int32)), .val (.ref bs1), .val (.ref bs3), .val (.ref bs9), .unset, .unset] [(.ref ar)]))
    refine own_st (fun _ k' => XS.astore X36.here hx rfl (hb hby at_28) rfl rfl (l' := #[.val (.int count), .val (.int xa), .val (.int xb), .val (.int xc), .val (.int (1 : Int32)), .val (.ref bs1), .val (.ref bs3), .val (.ref bs9), .val (.ref ar), .unset]) rfl k') ?_
    show own_Go p.tables e below _ (T36.setTop (mkF m 30 #[.val (.int count), .val (.int xa), .val (.int xb), .val (.int xc), .val (.int (1 : Int32)), .val (.ref bs1), .val (.ref bs3), .val (.ref bs9), .val (.ref ar), .unset] []))
    refine own_st (fun _ k' => XS.iload X36.here hx rfl (hb hby at_30) rfl k') ?_
    show own_Go p.tables e below _ (T36.setTop (mkF m 32 #[.val (.int count), .val (.int xa), .val (.int xb), .val (.int xc), .val (.int (1 : Int32)), .val (.ref bs1), .val (.ref bs3), .val (.ref bs9), .val (.ref ar), .unset] [(.int (1 : Int32))]))
    refine own_st (fun _ k' => XS.iconst X36.here hx rfl (hb hby at_32) k') ?_
    show own_Go p.tables e below _ (T36.setTop (mkF m 33 #[.val (.int count), .val (.int xa), .val (.int xb), .val (.int xc), .val (.int (1 : Int32)), .val (.ref bs1), .val (.ref bs3), .val (.ref bs9), .val (.ref ar), .unset] [(.int (1 : Int32)), (.int (1 : Int32))]))
    refine own_st (fun _ k' => XS.icmpNo X36.here hx rfl (hb hby at_33) rfl (flt (by decide : ¬ (1 : Int32) < (1 : Int32))).1 k') ?_
    show own_Go p.tables e below _ (T36.setTop (mkF m 36 #[.val (.int count), .val (.int xa), .val (.int xb), .val (.int xc), .val (.int (1 : Int32)), .val (.ref bs1), .val (.ref bs3), .val (.ref bs9), .val (.ref ar), .unset] []))
    refine own_st (fun _ k' => XS.aload X36.here hx rfl (hb hby at_36) rfl rfl k') ?_
    show own_Go p.tables e below _ (T36.setTop (mkF m 38 #[.val (.int count), .val (.int xa), .val (.int xb), .val (.int xc), .val (.int (1 : Int32)), .val (.ref bs1), .val (.ref bs3), .val (.ref bs9), .val (.ref ar), .unset] [(.ref ar)]))
    refine own_st (fun _ k' => XS.iconst X36.here hx rfl (hb hby at_38) k') ?_
    show own_Go p.tables e below _ (T36.setTop (mkF m 39 #[.val (.int count), .val (.int xa), .val (.int xb), .val (.int xc), .val (.int (1 : Int32)), .val (.ref bs1), .val (.ref bs3), .val (.ref bs9), .val (.ref ar), .unset] [(.int (0 : Int32)), (.ref ar)]))
    refine own_st (fun _ k' => XS.aload X36.here hx rfl (hb hby at_39) rfl rfl k') ?_
    show own_Go p.tables e below _ (T36.setTop (mkF m 41 #[.val (.int count), .val (.int xa), .val (.int xb), .val (.int xc), .val (.int (1 : Int32)), .val (.ref bs1), .val (.ref bs3), .val (.ref bs9), .val (.ref ar), .unset] [(.ref bs1), (.int (0 : Int32)), (.ref ar)]))
    obtain ⟨cl51, Ar51, qc51, Sz51, Nn51, Hs51, Gs51⟩ := id V_ar
    have hin51 : ¬ ((0 : Int32) < 0 ∨ cl51.slots.size ≤ ((0 : Int32)).toNatClampNeg) := inb_of Sz51 ⟨by decide, by decide⟩
    obtain ⟨T52, h52, X52, e52, W52, st52⟩ := stR X36 hx hZ e36 Ar51 (j := (0 : Int32)) hin51 rfl (Sto.ofV Ar51 qc51 O36 (Ins.self Es1_x39)) (g := (mkF m 41 #[.val (.int count), .val (.int xa), .val (.int xb), .val (.int xc), .val (.int (1 : Int32)), .val (.ref bs1), .val (.ref bs3), .val (.ref bs9), .val (.ref ar), .unset] [(.ref bs1), (.int (0 : Int32)), (.ref ar)])) rfl rfl (hb hby at_41)
    have N52 := Fr.snoc X52 N9 g_ar
    have Vn52 := Arv.set Ar51 qc51 Sz51 Nn51 Hs51 Gs51 rfl W52 0 rfl (Nat.le_of_ble_eq_true rfl)
    have Hc53 := CHv.wr W52 (Safe.arr hZ.alike Ar51 (by decide)) Hc37
    have CR53 := CR37.trans (CHr.wr W52 (Safe.arr hZ.alike Ar51 (by decide)) Hc37)
    have hk53 := Nat.le_trans hk37 (Keep.of_wr W52).1
    have O__x54 := O__x38.wr W52 g_ar
    have Es1_x55 := Es1_x39.wr W52
    have Fc1_x56 := Fc1_x40.other W52 (Or.inl ne_bs1_ar)
    have Fv1_x57 := Fv1_x41.other W52 (Or.inl ne_bs1_ar)
    have Vt1_x58 := Vt1_x42.other W52 ne_ts1_ar
    have Es3_x59 := Es3_x43.wr W52
    have Fc3_x60 := Fc3_x44.other W52 (Or.inl ne_bs3_ar)
    have Fv3_x61 := Fv3_x45.other W52 (Or.inl ne_bs3_ar)
    have Vt3_x62 := Vt3_x46.other W52 ne_ts3_ar
    have Es9_x63 := Es9_x47.wr W52
    have Fc9_x64 := Fc9_x48.other W52 (Or.inl ne_bs9_ar)
    have Fv9_x65 := Fv9_x49.other W52 (Or.inl ne_bs9_ar)
    have Vt9_x66 := Vt9_x50.other W52 ne_ts9_ar
    have ZVW52 : n0 ≤ h52.size := Nat.le_trans ZE36 (Keep.of_wr W52).1
    refine own_st st52 ?_
    show own_Go p.tables e below _ (T52.setTop (mkF m 42 #[.val (.int count), .val (.int xa), .val (.int xb), .val (.int xc), .val (.int (1 : Int32)), .val (.ref bs1), .val (.ref bs3), .val (.ref bs9), .val (.ref ar), .unset] []))
    refine own_st (fun _ k' => XS.iload X52.here hx rfl (hb hby at_42) rfl k') ?_
    show own_Go p.tables e below _ (T52.setTop (mkF m 44 #[.val (.int count), .val (.int xa), .val (.int xb), .val (.int xc), .val (.int (1 : Int32)), .val (.ref bs1), .val (.ref bs3), .val (.ref bs9), .val (.ref ar), .unset] [(.int (1 : Int32))]))
    refine own_st (fun _ k' => XS.iconst X52.here hx rfl (hb hby at_44) k') ?_
    show own_Go p.tables e below _ (T52.setTop (mkF m 45 #[.val (.int count), .val (.int xa), .val (.int xb), .val (.int xc), .val (.int (1 : Int32)), .val (.ref bs1), .val (.ref bs3), .val (.ref bs9), .val (.ref ar), .unset] [(.int (2 : Int32)), (.int (1 : Int32))]))
    refine own_st (fun _ k' => XS.icmpYes X52.here hx rfl (pc0 := 45) (pc' := 54) rfl (hb hby at_45) rfl (tlt (by decide : (1 : Int32) < (2 : Int32))).1 (by decide) (by decide) k') ?_
    show own_Go p.tables e below _ (T52.setTop (mkF m 54 #[.val (.int count), .val (.int xa), .val (.int xb), .val (.int xc), .val (.int (1 : Int32)), .val (.ref bs1), .val (.ref bs3), .val (.ref bs9), .val (.ref ar), .unset] []))
    refine own_st (fun _ k' => XS.iload X52.here hx rfl (hb hby at_54) rfl k') ?_
    show own_Go p.tables e below _ (T52.setTop (mkF m 56 #[.val (.int count), .val (.int xa), .val (.int xb), .val (.int xc), .val (.int (1 : Int32)), .val (.ref bs1), .val (.ref bs3), .val (.ref bs9), .val (.ref ar), .unset] [(.int (1 : Int32))]))
    refine own_st (fun _ k' => XS.iconst X52.here hx rfl (hb hby at_56) k') ?_
    show own_Go p.tables e below _ (T52.setTop (mkF m 57 #[.val (.int count), .val (.int xa), .val (.int xb), .val (.int xc), .val (.int (1 : Int32)), .val (.ref bs1), .val (.ref bs3), .val (.ref bs9), .val (.ref ar), .unset] [(.int (3 : Int32)), (.int (1 : Int32))]))
    refine own_st (fun _ k' => XS.icmpYes X52.here hx rfl (pc0 := 57) (pc' := 66) rfl (hb hby at_57) rfl (tlt (by decide : (1 : Int32) < (3 : Int32))).1 (by decide) (by decide) k') ?_
    show own_Go p.tables e below _ (T52.setTop (mkF m 66 #[.val (.int count), .val (.int xa), .val (.int xb), .val (.int xc), .val (.int (1 : Int32)), .val (.ref bs1), .val (.ref bs3), .val (.ref bs9), .val (.ref ar), .unset] []))
    refine own_st (fun _ k' => XS.iload X52.here hx rfl (hb hby at_66) rfl k') ?_
    show own_Go p.tables e below _ (T52.setTop (mkF m 68 #[.val (.int count), .val (.int xa), .val (.int xb), .val (.int xc), .val (.int (1 : Int32)), .val (.ref bs1), .val (.ref bs3), .val (.ref bs9), .val (.ref ar), .unset] [(.int (1 : Int32))]))
    refine own_st (fun _ k' => XS.iconst X52.here hx rfl (hb hby at_68) k') ?_
    show own_Go p.tables e below _ (T52.setTop (mkF m 69 #[.val (.int count), .val (.int xa), .val (.int xb), .val (.int xc), .val (.int (1 : Int32)), .val (.ref bs1), .val (.ref bs3), .val (.ref bs9), .val (.ref ar), .unset] [(.int (1 : Int32)), (.int (1 : Int32))]))
    refine own_st (fun _ k' => XS.icmpNo X52.here hx rfl (hb hby at_69) rfl (flt (by decide : ¬ (1 : Int32) < (1 : Int32))).1 k') ?_
    show own_Go p.tables e below _ (T52.setTop (mkF m 72 #[.val (.int count), .val (.int xa), .val (.int xb), .val (.int xc), .val (.int (1 : Int32)), .val (.ref bs1), .val (.ref bs3), .val (.ref bs9), .val (.ref ar), .unset] []))
    refine own_st (fun _ k' => XS.iloadN X52.here hx rfl (hb hby at_72) rfl k') ?_
    show own_Go p.tables e below _ (T52.setTop (mkF m 73 #[.val (.int count), .val (.int xa), .val (.int xb), .val (.int xc), .val (.int (1 : Int32)), .val (.ref bs1), .val (.ref bs3), .val (.ref bs9), .val (.ref ar), .unset] [(.int xa)]))
    obtain ⟨_, _, ⟨T68, L68, k68, n68⟩, -, X68', h268, gr68, ⟨Lc68, hQ68, l68, y68, z68, CRc68⟩, st68⟩ := callSS X52 hx (y := (⟨"com/example/frozen_thread/frozenthread/cli/FormReporterAsksForJsonPinLaw", "isJson", "(I)Z"⟩ : MethodName)) hown (mvT hZ (hw _ (List.mem_of_getElem? (i := 39) rfl))) (mvT hZ (hw _ (List.mem_of_getElem? (i := 40) rfl))) (mvT hZ (hw _ (List.mem_of_getElem? (i := 2) rfl))) (mvT hZ (hw _ (List.mem_of_getElem? (i := 41) rfl))) (by decide) (backOfSH (W := 0) (rmIs l Z a0 hw [] xa G1 G3 h52 n0 ZVW52 hEL O2 O4 P5 rG3 O__x54) hZ (hw _ (List.mem_of_getElem? (i := 41) rfl)) (hw _ (List.mem_of_getElem? (i := 2) rfl)) (by decide) (by decide) hEL Hc53) (g := (mkF m 73 #[.val (.int count), .val (.int xa), .val (.int xb), .val (.int xc), .val (.int (1 : Int32)), .val (.ref bs1), .val (.ref bs3), .val (.ref bs9), .val (.ref ar), .unset] [(.int xa)])) rfl (by rw [hml]; rfl) (argsL := [(.int xa)]) (rest := []) (lenOf pd__I_Z rfl) rfl (by show 2 * 0 + _ ≤ _; exact Nat.le_of_eq rfl) (hb hby at_73) (fun _ _ => ⟨rfl, e52, (by decide : 22 + 2 ≤ _), (by decide : 73 + 28 ≤ _)⟩)
    dsimp only [Pt.U, Pt.locs, Pt.cells, Pt.slots] at X68' h268 gr68 l68 y68 z68 st68 hQ68 CRc68
    subst l68 y68 z68
    obtain ⟨X68, hS68, hZ, hown⟩ := rebS hS9 (by rw [e52]; exact hk53) X68' h268 gr68 hZ hown
    have CR68 := CR53.trans CRc68
    have hk68 : T68.heap.size ≤ T68.heap.size := Nat.le_refl _
    obtain ⟨rfl, Nq68, Kc68⟩ := hQ68
    have N68 := Fr.app N52 Nq68
    have O__x69 := O__x54.keep Kc68 all0
    have Es1_x70 := Es1_x55.keep Kc68
    have Fc1_x71 := Fc1_x56.keep Kc68 nin0
    have Fv1_x72 := Fv1_x57.keep Kc68 nin0
    have Vt1_x73 := Vt1_x58.keep Kc68 nin0
    have Es3_x74 := Es3_x59.keep Kc68
    have Fc3_x75 := Fc3_x60.keep Kc68 nin0
    have Fv3_x76 := Fv3_x61.keep Kc68 nin0
    have Vt3_x77 := Vt3_x62.keep Kc68 nin0
    have Es9_x78 := Es9_x63.keep Kc68
    have Fc9_x79 := Fc9_x64.keep Kc68 nin0
    have Fv9_x80 := Fv9_x65.keep Kc68 nin0
    have Vt9_x81 := Vt9_x66.keep Kc68 nin0
    have Vn52_x82 := Vn52.keep Kc68 nin0
    have Zc68 : n0 ≤ T68.heap.size := Nat.le_trans ZVW52 Kc68.1
    refine own_tr st68 ?_
    show own_Go p.tables e below _ (T68.setTop (mkF m 76 #[.val (.int count), .val (.int xa), .val (.int xb), .val (.int xc), .val (.int (1 : Int32)), .val (.ref bs1), .val (.ref bs3), .val (.ref bs9), .val (.ref ar), .unset] [(.int (own_isj xa))]))
    by_cases hc83 : (own_isj xa) = (0 : Int32)
    ·  -- pc 76, (own_isj xa) = (0 : Int32)
      refine own_st (fun _ k' => XS.ifNo X68.here hx rfl (hb hby at_76) rfl ((if0 _ _).trans (teq hc83).2) k') ?_
      show own_Go p.tables e below _ (T68.setTop (mkF m 79 #[.val (.int count), .val (.int xa), .val (.int xb), .val (.int xc), .val (.int (1 : Int32)), .val (.ref bs1), .val (.ref bs3), .val (.ref bs9), .val (.ref ar), .unset] []))
      refine own_st (fun _ k' => XS.iload X68.here hx rfl (hb hby at_79) rfl k') ?_
      show own_Go p.tables e below _ (T68.setTop (mkF m 81 #[.val (.int count), .val (.int xa), .val (.int xb), .val (.int xc), .val (.int (1 : Int32)), .val (.ref bs1), .val (.ref bs3), .val (.ref bs9), .val (.ref ar), .unset] [(.int (1 : Int32))]))
      refine own_st (fun _ k' => XS.iconst X68.here hx rfl (hb hby at_81) k') ?_
      show own_Go p.tables e below _ (T68.setTop (mkF m 82 #[.val (.int count), .val (.int xa), .val (.int xb), .val (.int xc), .val (.int (1 : Int32)), .val (.ref bs1), .val (.ref bs3), .val (.ref bs9), .val (.ref ar), .unset] [(.int (2 : Int32)), (.int (1 : Int32))]))
      refine own_st (fun _ k' => XS.icmpYes X68.here hx rfl (pc0 := 82) (pc' := 92) rfl (hb hby at_82) rfl (tlt (by decide : (1 : Int32) < (2 : Int32))).1 (by decide) (by decide) k') ?_
      show own_Go p.tables e below _ (T68.setTop (mkF m 92 #[.val (.int count), .val (.int xa), .val (.int xb), .val (.int xc), .val (.int (1 : Int32)), .val (.ref bs1), .val (.ref bs3), .val (.ref bs9), .val (.ref ar), .unset] []))
      refine own_st (fun _ k' => XS.iload X68.here hx rfl (hb hby at_92) rfl k') ?_
      show own_Go p.tables e below _ (T68.setTop (mkF m 94 #[.val (.int count), .val (.int xa), .val (.int xb), .val (.int xc), .val (.int (1 : Int32)), .val (.ref bs1), .val (.ref bs3), .val (.ref bs9), .val (.ref ar), .unset] [(.int (1 : Int32))]))
      refine own_st (fun _ k' => XS.iconst X68.here hx rfl (hb hby at_94) k') ?_
      show own_Go p.tables e below _ (T68.setTop (mkF m 95 #[.val (.int count), .val (.int xa), .val (.int xb), .val (.int xc), .val (.int (1 : Int32)), .val (.ref bs1), .val (.ref bs3), .val (.ref bs9), .val (.ref ar), .unset] [(.int (3 : Int32)), (.int (1 : Int32))]))
      refine own_st (fun _ k' => XS.icmpYes X68.here hx rfl (pc0 := 95) (pc' := 109) rfl (hb hby at_95) rfl (tlt (by decide : (1 : Int32) < (3 : Int32))).1 (by decide) (by decide) k') ?_
      show own_Go p.tables e below _ (T68.setTop (mkF m 109 #[.val (.int count), .val (.int xa), .val (.int xb), .val (.int xc), .val (.int (1 : Int32)), .val (.ref bs1), .val (.ref bs3), .val (.ref bs9), .val (.ref ar), .unset] []))
      refine own_st (fun _ k' => XS.iconst X68.here hx rfl (hb hby at_109) k') ?_
      show own_Go p.tables e below _ (T68.setTop (mkF m 110 #[.val (.int count), .val (.int xa), .val (.int xb), .val (.int xc), .val (.int (1 : Int32)), .val (.ref bs1), .val (.ref bs3), .val (.ref bs9), .val (.ref ar), .unset] [(.int (0 : Int32))]))
      refine own_st (fun _ k' => XS.istore X68.here hx rfl (hb hby at_110) rfl (l' := #[.val (.int count), .val (.int xa), .val (.int xb), .val (.int xc), .val (.int (1 : Int32)), .val (.ref bs1), .val (.ref bs3), .val (.ref bs9), .val (.ref ar), .val (.int (0 : Int32))]) rfl k') ?_
      show own_Go p.tables e below _ (T68.setTop (mkF m 112 #[.val (.int count), .val (.int xa), .val (.int xb), .val (.int xc), .val (.int (1 : Int32)), .val (.ref bs1), .val (.ref bs3), .val (.ref bs9), .val (.ref ar), .val (.int (0 : Int32))] []))
      refine own_st (fun _ k' => XS.aload X68.here hx rfl (hb hby at_112) rfl rfl k') ?_
      show own_Go p.tables e below _ (T68.setTop (mkF m 114 #[.val (.int count), .val (.int xa), .val (.int xb), .val (.int xc), .val (.int (1 : Int32)), .val (.ref bs1), .val (.ref bs3), .val (.ref bs9), .val (.ref ar), .val (.int (0 : Int32))] [(.ref ar)]))
      obtain ⟨_, _, ⟨T84, L84, k84, n84⟩, -, X84', h284, gr84, ⟨Lc84, hQ84, l84, y84, z84, CRc84⟩, st84⟩ := callSS X68 hx (y := (⟨"com/example/frozen_thread/frozenthread/cli/FormReporter", "asksForJson", "([Ljava/lang/String;)Z"⟩ : MethodName)) hown (mvT hZ (hw _ (List.mem_of_getElem? (i := 35) rfl))) (mvT hZ (hw _ (List.mem_of_getElem? (i := 36) rfl))) (mvT hZ (hw _ (List.mem_of_getElem? (i := 37) rfl))) (mvT hZ (hw _ (List.mem_of_getElem? (i := 38) rfl))) (by decide) (backOfSH (W := 0) (rmAs1 l Z a0 hw [] ar k36 bs1 ts1 ks1 (own_mk xa) G1 G3 T68.heap n0 Zc68  Es1_x70 Fc1_x71 Fv1_x72 Vt1_x73 (own_mk_in xa) (own_mk_len xa) Vn52_x82 hEL O2 O4 P5 rG3 O__x69) hZ (hw _ (List.mem_of_getElem? (i := 38) rfl)) (hw _ (List.mem_of_getElem? (i := 37) rfl)) (by decide) (by decide) hEL CRc68.1) (g := (mkF m 114 #[.val (.int count), .val (.int xa), .val (.int xb), .val (.int xc), .val (.int (1 : Int32)), .val (.ref bs1), .val (.ref bs3), .val (.ref bs9), .val (.ref ar), .val (.int (0 : Int32))] [(.ref ar)])) rfl (by rw [hml]; rfl) (argsL := [(.ref ar)]) (rest := []) (lenOf pd___Ljava_lang_String__Z rfl) rfl (by show 2 * 0 + _ ≤ _; exact Nat.le_of_eq rfl) (hb hby at_114) (fun _ _ => ⟨rfl, rfl, (by decide : 24 + 2 ≤ _), (by decide : 101 + 28 ≤ _)⟩)
      dsimp only [Pt.U, Pt.locs, Pt.cells, Pt.slots] at X84' h284 gr84 l84 y84 z84 st84 hQ84 CRc84
      subst l84 y84 z84
      obtain ⟨X84, hS84, hZ, hown⟩ := rebS hS68 (by exact hk68) X84' h284 gr84 hZ hown
      have CR84 := CR68.trans CRc84
      have hk84 : T84.heap.size ≤ T84.heap.size := Nat.le_refl _
      obtain ⟨hD84, Nq84, Kc84⟩ := hQ84
      have N84 := Fr.app N68 Nq84
      rcases hD84 with ⟨rfl, hj84⟩ | ⟨rfl, hj84⟩
      ·  -- 1
        refine own_tr st84 ?_
        show own_Go p.tables e below _ (T84.setTop (mkF m 117 #[.val (.int count), .val (.int xa), .val (.int xb), .val (.int xc), .val (.int (1 : Int32)), .val (.ref bs1), .val (.ref bs3), .val (.ref bs9), .val (.ref ar), .val (.int (0 : Int32))] [(.int (1 : Int32))]))
        refine own_st (fun _ k' => XS.iload X84.here hx rfl (hb hby at_117) rfl k') ?_
        show own_Go p.tables e below _ (T84.setTop (mkF m 119 #[.val (.int count), .val (.int xa), .val (.int xb), .val (.int xc), .val (.int (1 : Int32)), .val (.ref bs1), .val (.ref bs3), .val (.ref bs9), .val (.ref ar), .val (.int (0 : Int32))] [(.int (0 : Int32)), (.int (1 : Int32))]))
        exact False.elim ((fun q => absurd (hc83.symm.trans ((own_key xa).1.mp q)) (by decide)) hj84)
      ·  -- 0
        refine own_tr st84 ?_
        show own_Go p.tables e below _ (T84.setTop (mkF m 117 #[.val (.int count), .val (.int xa), .val (.int xb), .val (.int xc), .val (.int (1 : Int32)), .val (.ref bs1), .val (.ref bs3), .val (.ref bs9), .val (.ref ar), .val (.int (0 : Int32))] [(.int (0 : Int32))]))
        refine own_st (fun _ k' => XS.iload X84.here hx rfl (hb hby at_117) rfl k') ?_
        show own_Go p.tables e below _ (T84.setTop (mkF m 119 #[.val (.int count), .val (.int xa), .val (.int xb), .val (.int xc), .val (.int (1 : Int32)), .val (.ref bs1), .val (.ref bs3), .val (.ref bs9), .val (.ref ar), .val (.int (0 : Int32))] [(.int (0 : Int32)), (.int (0 : Int32))]))
        refine own_st (fun _ k' => XS.icmpNo X84.here hx rfl (hb hby at_119) rfl (teq (by decide : (0 : Int32) = (0 : Int32))).2 k') ?_
        show own_Go p.tables e below _ (T84.setTop (mkF m 122 #[.val (.int count), .val (.int xa), .val (.int xb), .val (.int xc), .val (.int (1 : Int32)), .val (.ref bs1), .val (.ref bs3), .val (.ref bs9), .val (.ref ar), .val (.int (0 : Int32))] []))
        refine own_st (fun _ k' => XS.iconst X84.here hx rfl (hb hby at_122) k') ?_
        show own_Go p.tables e below _ (T84.setTop (mkF m 123 #[.val (.int count), .val (.int xa), .val (.int xb), .val (.int xc), .val (.int (1 : Int32)), .val (.ref bs1), .val (.ref bs3), .val (.ref bs9), .val (.ref ar), .val (.int (0 : Int32))] [(.int (1 : Int32))]))
        refine own_st (fun _ k' => XS.goto X84.here hx rfl (pc0 := 123) (pc' := 127) rfl (hb hby at_123) (by decide) (by decide) k') ?_
        show own_Go p.tables e below _ (T84.setTop (mkF m 127 #[.val (.int count), .val (.int xa), .val (.int xb), .val (.int xc), .val (.int (1 : Int32)), .val (.ref bs1), .val (.ref bs3), .val (.ref bs9), .val (.ref ar), .val (.int (0 : Int32))] [(.int (1 : Int32))]))
        have cr85 : CHr Z consts_1 s.vm s.heap T84.vm T84.heap := by rw [hh, show T84.heap = T84.heap from rfl]; exact CR84.trans (CHv.at X84 hZ hEL CRc84.1)
        exact own_retWN X84 hS84 (by exact hk84) hx (t := .boolean) Bd.returns (by simp) (hb hby at_127) Bd.notSynchronized ⟨rfl, N84⟩ cr85 (by decide) (by decide)
    ·  -- pc 76, not (own_isj xa) = (0 : Int32)
      refine own_st (fun _ k' => XS.ifYes X68.here hx rfl (pc0 := 76) (pc' := 105) rfl (hb hby at_76) rfl ((if0 _ _).trans (feq hc83).2) (by decide) (by decide) k') ?_
      show own_Go p.tables e below _ (T68.setTop (mkF m 105 #[.val (.int count), .val (.int xa), .val (.int xb), .val (.int xc), .val (.int (1 : Int32)), .val (.ref bs1), .val (.ref bs3), .val (.ref bs9), .val (.ref ar), .unset] []))
      refine own_st (fun _ k' => XS.iconst X68.here hx rfl (hb hby at_105) k') ?_
      show own_Go p.tables e below _ (T68.setTop (mkF m 106 #[.val (.int count), .val (.int xa), .val (.int xb), .val (.int xc), .val (.int (1 : Int32)), .val (.ref bs1), .val (.ref bs3), .val (.ref bs9), .val (.ref ar), .unset] [(.int (1 : Int32))]))
      refine own_st (fun _ k' => XS.goto X68.here hx rfl (pc0 := 106) (pc' := 110) rfl (hb hby at_106) (by decide) (by decide) k') ?_
      show own_Go p.tables e below _ (T68.setTop (mkF m 110 #[.val (.int count), .val (.int xa), .val (.int xb), .val (.int xc), .val (.int (1 : Int32)), .val (.ref bs1), .val (.ref bs3), .val (.ref bs9), .val (.ref ar), .unset] [(.int (1 : Int32))]))
      refine own_st (fun _ k' => XS.istore X68.here hx rfl (hb hby at_110) rfl (l' := #[.val (.int count), .val (.int xa), .val (.int xb), .val (.int xc), .val (.int (1 : Int32)), .val (.ref bs1), .val (.ref bs3), .val (.ref bs9), .val (.ref ar), .val (.int (1 : Int32))]) rfl k') ?_
      show own_Go p.tables e below _ (T68.setTop (mkF m 112 #[.val (.int count), .val (.int xa), .val (.int xb), .val (.int xc), .val (.int (1 : Int32)), .val (.ref bs1), .val (.ref bs3), .val (.ref bs9), .val (.ref ar), .val (.int (1 : Int32))] []))
      refine own_st (fun _ k' => XS.aload X68.here hx rfl (hb hby at_112) rfl rfl k') ?_
      show own_Go p.tables e below _ (T68.setTop (mkF m 114 #[.val (.int count), .val (.int xa), .val (.int xb), .val (.int xc), .val (.int (1 : Int32)), .val (.ref bs1), .val (.ref bs3), .val (.ref bs9), .val (.ref ar), .val (.int (1 : Int32))] [(.ref ar)]))
      obtain ⟨_, _, ⟨T86, L86, k86, n86⟩, -, X86', h286, gr86, ⟨Lc86, hQ86, l86, y86, z86, CRc86⟩, st86⟩ := callSS X68 hx (y := (⟨"com/example/frozen_thread/frozenthread/cli/FormReporter", "asksForJson", "([Ljava/lang/String;)Z"⟩ : MethodName)) hown (mvT hZ (hw _ (List.mem_of_getElem? (i := 35) rfl))) (mvT hZ (hw _ (List.mem_of_getElem? (i := 36) rfl))) (mvT hZ (hw _ (List.mem_of_getElem? (i := 37) rfl))) (mvT hZ (hw _ (List.mem_of_getElem? (i := 38) rfl))) (by decide) (backOfSH (W := 0) (rmAs1 l Z a0 hw [] ar k36 bs1 ts1 ks1 (own_mk xa) G1 G3 T68.heap n0 Zc68  Es1_x70 Fc1_x71 Fv1_x72 Vt1_x73 (own_mk_in xa) (own_mk_len xa) Vn52_x82 hEL O2 O4 P5 rG3 O__x69) hZ (hw _ (List.mem_of_getElem? (i := 38) rfl)) (hw _ (List.mem_of_getElem? (i := 37) rfl)) (by decide) (by decide) hEL CRc68.1) (g := (mkF m 114 #[.val (.int count), .val (.int xa), .val (.int xb), .val (.int xc), .val (.int (1 : Int32)), .val (.ref bs1), .val (.ref bs3), .val (.ref bs9), .val (.ref ar), .val (.int (1 : Int32))] [(.ref ar)])) rfl (by rw [hml]; rfl) (argsL := [(.ref ar)]) (rest := []) (lenOf pd___Ljava_lang_String__Z rfl) rfl (by show 2 * 0 + _ ≤ _; exact Nat.le_of_eq rfl) (hb hby at_114) (fun _ _ => ⟨rfl, rfl, (by decide : 24 + 2 ≤ _), (by decide : 101 + 28 ≤ _)⟩)
      dsimp only [Pt.U, Pt.locs, Pt.cells, Pt.slots] at X86' h286 gr86 l86 y86 z86 st86 hQ86 CRc86
      subst l86 y86 z86
      obtain ⟨X86, hS86, hZ, hown⟩ := rebS hS68 (by exact hk68) X86' h286 gr86 hZ hown
      have CR86 := CR68.trans CRc86
      have hk86 : T86.heap.size ≤ T86.heap.size := Nat.le_refl _
      obtain ⟨hD86, Nq86, Kc86⟩ := hQ86
      have N86 := Fr.app N68 Nq86
      rcases hD86 with ⟨rfl, hj86⟩ | ⟨rfl, hj86⟩
      ·  -- 1
        refine own_tr st86 ?_
        show own_Go p.tables e below _ (T86.setTop (mkF m 117 #[.val (.int count), .val (.int xa), .val (.int xb), .val (.int xc), .val (.int (1 : Int32)), .val (.ref bs1), .val (.ref bs3), .val (.ref bs9), .val (.ref ar), .val (.int (1 : Int32))] [(.int (1 : Int32))]))
        refine own_st (fun _ k' => XS.iload X86.here hx rfl (hb hby at_117) rfl k') ?_
        show own_Go p.tables e below _ (T86.setTop (mkF m 119 #[.val (.int count), .val (.int xa), .val (.int xb), .val (.int xc), .val (.int (1 : Int32)), .val (.ref bs1), .val (.ref bs3), .val (.ref bs9), .val (.ref ar), .val (.int (1 : Int32))] [(.int (1 : Int32)), (.int (1 : Int32))]))
        refine own_st (fun _ k' => XS.icmpNo X86.here hx rfl (hb hby at_119) rfl (teq (by decide : (1 : Int32) = (1 : Int32))).2 k') ?_
        show own_Go p.tables e below _ (T86.setTop (mkF m 122 #[.val (.int count), .val (.int xa), .val (.int xb), .val (.int xc), .val (.int (1 : Int32)), .val (.ref bs1), .val (.ref bs3), .val (.ref bs9), .val (.ref ar), .val (.int (1 : Int32))] []))
        refine own_st (fun _ k' => XS.iconst X86.here hx rfl (hb hby at_122) k') ?_
        show own_Go p.tables e below _ (T86.setTop (mkF m 123 #[.val (.int count), .val (.int xa), .val (.int xb), .val (.int xc), .val (.int (1 : Int32)), .val (.ref bs1), .val (.ref bs3), .val (.ref bs9), .val (.ref ar), .val (.int (1 : Int32))] [(.int (1 : Int32))]))
        refine own_st (fun _ k' => XS.goto X86.here hx rfl (pc0 := 123) (pc' := 127) rfl (hb hby at_123) (by decide) (by decide) k') ?_
        show own_Go p.tables e below _ (T86.setTop (mkF m 127 #[.val (.int count), .val (.int xa), .val (.int xb), .val (.int xc), .val (.int (1 : Int32)), .val (.ref bs1), .val (.ref bs3), .val (.ref bs9), .val (.ref ar), .val (.int (1 : Int32))] [(.int (1 : Int32))]))
        have cr87 : CHr Z consts_1 s.vm s.heap T86.vm T86.heap := by rw [hh, show T86.heap = T86.heap from rfl]; exact CR86.trans (CHv.at X86 hZ hEL CRc86.1)
        exact own_retWN X86 hS86 (by exact hk86) hx (t := .boolean) Bd.returns (by simp) (hb hby at_127) Bd.notSynchronized ⟨rfl, N86⟩ cr87 (by decide) (by decide)
      ·  -- 0
        refine own_tr st86 ?_
        show own_Go p.tables e below _ (T86.setTop (mkF m 117 #[.val (.int count), .val (.int xa), .val (.int xb), .val (.int xc), .val (.int (1 : Int32)), .val (.ref bs1), .val (.ref bs3), .val (.ref bs9), .val (.ref ar), .val (.int (1 : Int32))] [(.int (0 : Int32))]))
        refine own_st (fun _ k' => XS.iload X86.here hx rfl (hb hby at_117) rfl k') ?_
        show own_Go p.tables e below _ (T86.setTop (mkF m 119 #[.val (.int count), .val (.int xa), .val (.int xb), .val (.int xc), .val (.int (1 : Int32)), .val (.ref bs1), .val (.ref bs3), .val (.ref bs9), .val (.ref ar), .val (.int (1 : Int32))] [(.int (1 : Int32)), (.int (0 : Int32))]))
        exact absurd ((own_key xa).1.mpr ((own_key xa).2.resolve_left hc83)) hj86
  ·  -- n = 2
    rw [hk]
    show own_Go p.tables e below _ (T9.setTop (mkF m 23 #[.val (.int count), .val (.int xa), .val (.int xb), .val (.int xc), .val (.int (2 : Int32)), .val (.ref bs1), .val (.ref bs3), .val (.ref bs9), .unset, .unset] []))
    refine own_st (fun _ k' => XS.iload X9.here hx rfl (hb hby at_23) rfl k') ?_
    show own_Go p.tables e below _ (T9.setTop (mkF m 25 #[.val (.int count), .val (.int xa), .val (.int xb), .val (.int xc), .val (.int (2 : Int32)), .val (.ref bs1), .val (.ref bs3), .val (.ref bs9), .unset, .unset] [(.int (2 : Int32))]))
    obtain ⟨T88, h88, k88, X88, e88, E88, A88, O88, st88⟩ := newR X9 hx hZ hown (hw _ (List.mem_of_getElem? (i := 5) rfl)) (hw _ (List.mem_of_getElem? (i := 34) rfl)) rfl (g := (mkF m 25 #[.val (.int count), .val (.int xa), .val (.int xb), .val (.int xc), .val (.int (2 : Int32)), .val (.ref bs1), .val (.ref bs3), .val (.ref bs9), .unset, .unset] [(.int (2 : Int32))])) rfl (hb hby at_25) rfl (by decide) (cap := 2) (by decide) (by decide) (by decide) (by decide)
    obtain ⟨ar, g88⟩ : ∃ z, z = T9.heap.size := ⟨_, rfl⟩
    rw [← g88] at A88 st88
    have g_ar : n0 ≤ ar := Nat.le_trans Zc9 (Nat.le_of_eq g88.symm)
    have ne_bs1_ar : bs1 ≠ ar := Nat.ne_of_lt (Nat.lt_of_lt_of_le Es1_x11.lt (Nat.le_of_eq g88.symm))
    have ne_ts1_ar : ts1 ≠ ar := Nat.ne_of_lt (Nat.lt_of_lt_of_le Vt1_x14.lt (Nat.le_of_eq g88.symm))
    have ne_bs3_ar : bs3 ≠ ar := Nat.ne_of_lt (Nat.lt_of_lt_of_le Es3_x15.lt (Nat.le_of_eq g88.symm))
    have ne_ts3_ar : ts3 ≠ ar := Nat.ne_of_lt (Nat.lt_of_lt_of_le Vt3_x18.lt (Nat.le_of_eq g88.symm))
    have ne_bs9_ar : bs9 ≠ ar := Nat.ne_of_lt (Nat.lt_of_lt_of_le Es9.lt (Nat.le_of_eq g88.symm))
    have ne_ts9_ar : ts9 ≠ ar := Nat.ne_of_lt (Nat.lt_of_lt_of_le Vt9.lt (Nat.le_of_eq g88.symm))
    have Hc89 := CHv.ext E88 CRc9.1
    have CR89 := CR9.trans (CHr.ext E88 CRc9.1)
    have hk89 := Nat.le_trans hk9 E88.1
    have O__x90 := O__x10.ext E88
    have Es1_x91 := Es1_x11.ext E88
    have Fc1_x92 := Fc1_x12.ext E88
    have Fv1_x93 := Fv1_x13.ext E88
    have Vt1_x94 := Vt1_x14.ext E88
    have Es3_x95 := Es3_x15.ext E88
    have Fc3_x96 := Fc3_x16.ext E88
    have Fv3_x97 := Fv3_x17.ext E88
    have Vt3_x98 := Vt3_x18.ext E88
    have Es9_x99 := Es9.ext E88
    have Fc9_x100 := Fc9.ext E88
    have Fv9_x101 := Fv9.ext E88
    have Vt9_x102 := Vt9.ext E88
    have ZE88 : n0 ≤ h88.size := Nat.le_trans Zc9 E88.1
    have V_ar : Arv Z h88 ar k88 (.object "java/lang/String") (2 : Int32) [.null, .null] .null := (Arv.new A88 (by decide)).pad (pad_rep [] .null 2)
    refine own_st st88 ?_
    show own_Go p.tables e below _ (T88.setTop (mkF m 28 #[.val (.int count), .val (.int xa), .val (.int xb), .val (.int xc), .val (.int (2 : Int32)), .val (.ref bs1), .val (.ref bs3), .val (.ref bs9), .unset, .unset] [(.ref ar)]))
    refine own_st (fun _ k' => XS.astore X88.here hx rfl (hb hby at_28) rfl rfl (l' := #[.val (.int count), .val (.int xa), .val (.int xb), .val (.int xc), .val (.int (2 : Int32)), .val (.ref bs1), .val (.ref bs3), .val (.ref bs9), .val (.ref ar), .unset]) rfl k') ?_
    show own_Go p.tables e below _ (T88.setTop (mkF m 30 #[.val (.int count), .val (.int xa), .val (.int xb), .val (.int xc), .val (.int (2 : Int32)), .val (.ref bs1), .val (.ref bs3), .val (.ref bs9), .val (.ref ar), .unset] []))
    refine own_st (fun _ k' => XS.iload X88.here hx rfl (hb hby at_30) rfl k') ?_
    show own_Go p.tables e below _ (T88.setTop (mkF m 32 #[.val (.int count), .val (.int xa), .val (.int xb), .val (.int xc), .val (.int (2 : Int32)), .val (.ref bs1), .val (.ref bs3), .val (.ref bs9), .val (.ref ar), .unset] [(.int (2 : Int32))]))
    refine own_st (fun _ k' => XS.iconst X88.here hx rfl (hb hby at_32) k') ?_
    show own_Go p.tables e below _ (T88.setTop (mkF m 33 #[.val (.int count), .val (.int xa), .val (.int xb), .val (.int xc), .val (.int (2 : Int32)), .val (.ref bs1), .val (.ref bs3), .val (.ref bs9), .val (.ref ar), .unset] [(.int (1 : Int32)), (.int (2 : Int32))]))
    refine own_st (fun _ k' => XS.icmpNo X88.here hx rfl (hb hby at_33) rfl (flt (by decide : ¬ (2 : Int32) < (1 : Int32))).1 k') ?_
    show own_Go p.tables e below _ (T88.setTop (mkF m 36 #[.val (.int count), .val (.int xa), .val (.int xb), .val (.int xc), .val (.int (2 : Int32)), .val (.ref bs1), .val (.ref bs3), .val (.ref bs9), .val (.ref ar), .unset] []))
    refine own_st (fun _ k' => XS.aload X88.here hx rfl (hb hby at_36) rfl rfl k') ?_
    show own_Go p.tables e below _ (T88.setTop (mkF m 38 #[.val (.int count), .val (.int xa), .val (.int xb), .val (.int xc), .val (.int (2 : Int32)), .val (.ref bs1), .val (.ref bs3), .val (.ref bs9), .val (.ref ar), .unset] [(.ref ar)]))
    refine own_st (fun _ k' => XS.iconst X88.here hx rfl (hb hby at_38) k') ?_
    show own_Go p.tables e below _ (T88.setTop (mkF m 39 #[.val (.int count), .val (.int xa), .val (.int xb), .val (.int xc), .val (.int (2 : Int32)), .val (.ref bs1), .val (.ref bs3), .val (.ref bs9), .val (.ref ar), .unset] [(.int (0 : Int32)), (.ref ar)]))
    refine own_st (fun _ k' => XS.aload X88.here hx rfl (hb hby at_39) rfl rfl k') ?_
    show own_Go p.tables e below _ (T88.setTop (mkF m 41 #[.val (.int count), .val (.int xa), .val (.int xb), .val (.int xc), .val (.int (2 : Int32)), .val (.ref bs1), .val (.ref bs3), .val (.ref bs9), .val (.ref ar), .unset] [(.ref bs1), (.int (0 : Int32)), (.ref ar)]))
    obtain ⟨cl103, Ar103, qc103, Sz103, Nn103, Hs103, Gs103⟩ := id V_ar
    have hin103 : ¬ ((0 : Int32) < 0 ∨ cl103.slots.size ≤ ((0 : Int32)).toNatClampNeg) := inb_of Sz103 ⟨by decide, by decide⟩
    obtain ⟨T104, h104, X104, e104, W104, st104⟩ := stR X88 hx hZ e88 Ar103 (j := (0 : Int32)) hin103 rfl (Sto.ofV Ar103 qc103 O88 (Ins.self Es1_x91)) (g := (mkF m 41 #[.val (.int count), .val (.int xa), .val (.int xb), .val (.int xc), .val (.int (2 : Int32)), .val (.ref bs1), .val (.ref bs3), .val (.ref bs9), .val (.ref ar), .unset] [(.ref bs1), (.int (0 : Int32)), (.ref ar)])) rfl rfl (hb hby at_41)
    have N104 := Fr.snoc X104 N9 g_ar
    have Vn104 := Arv.set Ar103 qc103 Sz103 Nn103 Hs103 Gs103 rfl W104 0 rfl (Nat.le_of_ble_eq_true rfl)
    have Hc105 := CHv.wr W104 (Safe.arr hZ.alike Ar103 (by decide)) Hc89
    have CR105 := CR89.trans (CHr.wr W104 (Safe.arr hZ.alike Ar103 (by decide)) Hc89)
    have hk105 := Nat.le_trans hk89 (Keep.of_wr W104).1
    have O__x106 := O__x90.wr W104 g_ar
    have Es1_x107 := Es1_x91.wr W104
    have Fc1_x108 := Fc1_x92.other W104 (Or.inl ne_bs1_ar)
    have Fv1_x109 := Fv1_x93.other W104 (Or.inl ne_bs1_ar)
    have Vt1_x110 := Vt1_x94.other W104 ne_ts1_ar
    have Es3_x111 := Es3_x95.wr W104
    have Fc3_x112 := Fc3_x96.other W104 (Or.inl ne_bs3_ar)
    have Fv3_x113 := Fv3_x97.other W104 (Or.inl ne_bs3_ar)
    have Vt3_x114 := Vt3_x98.other W104 ne_ts3_ar
    have Es9_x115 := Es9_x99.wr W104
    have Fc9_x116 := Fc9_x100.other W104 (Or.inl ne_bs9_ar)
    have Fv9_x117 := Fv9_x101.other W104 (Or.inl ne_bs9_ar)
    have Vt9_x118 := Vt9_x102.other W104 ne_ts9_ar
    have ZVW104 : n0 ≤ h104.size := Nat.le_trans ZE88 (Keep.of_wr W104).1
    refine own_st st104 ?_
    show own_Go p.tables e below _ (T104.setTop (mkF m 42 #[.val (.int count), .val (.int xa), .val (.int xb), .val (.int xc), .val (.int (2 : Int32)), .val (.ref bs1), .val (.ref bs3), .val (.ref bs9), .val (.ref ar), .unset] []))
    refine own_st (fun _ k' => XS.iload X104.here hx rfl (hb hby at_42) rfl k') ?_
    show own_Go p.tables e below _ (T104.setTop (mkF m 44 #[.val (.int count), .val (.int xa), .val (.int xb), .val (.int xc), .val (.int (2 : Int32)), .val (.ref bs1), .val (.ref bs3), .val (.ref bs9), .val (.ref ar), .unset] [(.int (2 : Int32))]))
    refine own_st (fun _ k' => XS.iconst X104.here hx rfl (hb hby at_44) k') ?_
    show own_Go p.tables e below _ (T104.setTop (mkF m 45 #[.val (.int count), .val (.int xa), .val (.int xb), .val (.int xc), .val (.int (2 : Int32)), .val (.ref bs1), .val (.ref bs3), .val (.ref bs9), .val (.ref ar), .unset] [(.int (2 : Int32)), (.int (2 : Int32))]))
    refine own_st (fun _ k' => XS.icmpNo X104.here hx rfl (hb hby at_45) rfl (flt (by decide : ¬ (2 : Int32) < (2 : Int32))).1 k') ?_
    show own_Go p.tables e below _ (T104.setTop (mkF m 48 #[.val (.int count), .val (.int xa), .val (.int xb), .val (.int xc), .val (.int (2 : Int32)), .val (.ref bs1), .val (.ref bs3), .val (.ref bs9), .val (.ref ar), .unset] []))
    refine own_st (fun _ k' => XS.aload X104.here hx rfl (hb hby at_48) rfl rfl k') ?_
    show own_Go p.tables e below _ (T104.setTop (mkF m 50 #[.val (.int count), .val (.int xa), .val (.int xb), .val (.int xc), .val (.int (2 : Int32)), .val (.ref bs1), .val (.ref bs3), .val (.ref bs9), .val (.ref ar), .unset] [(.ref ar)]))
    refine own_st (fun _ k' => XS.iconst X104.here hx rfl (hb hby at_50) k') ?_
    show own_Go p.tables e below _ (T104.setTop (mkF m 51 #[.val (.int count), .val (.int xa), .val (.int xb), .val (.int xc), .val (.int (2 : Int32)), .val (.ref bs1), .val (.ref bs3), .val (.ref bs9), .val (.ref ar), .unset] [(.int (1 : Int32)), (.ref ar)]))
    refine own_st (fun _ k' => XS.aload X104.here hx rfl (hb hby at_51) rfl rfl k') ?_
    show own_Go p.tables e below _ (T104.setTop (mkF m 53 #[.val (.int count), .val (.int xa), .val (.int xb), .val (.int xc), .val (.int (2 : Int32)), .val (.ref bs1), .val (.ref bs3), .val (.ref bs9), .val (.ref ar), .unset] [(.ref bs3), (.int (1 : Int32)), (.ref ar)]))
    obtain ⟨cl120, Ar120, qc120, Sz120, Nn120, Hs120, Gs120⟩ := id Vn104
    have hin120 : ¬ ((1 : Int32) < 0 ∨ cl120.slots.size ≤ ((1 : Int32)).toNatClampNeg) := inb_of Sz120 ⟨by decide, by decide⟩
    obtain ⟨T121, h121, X121, e121, W121, st121⟩ := stR X104 hx hZ e104 Ar120 (j := (1 : Int32)) hin120 rfl (Sto.ofV Ar120 qc120 O88 (Ins.self Es3_x111)) (g := (mkF m 53 #[.val (.int count), .val (.int xa), .val (.int xb), .val (.int xc), .val (.int (2 : Int32)), .val (.ref bs1), .val (.ref bs3), .val (.ref bs9), .val (.ref ar), .unset] [(.ref bs3), (.int (1 : Int32)), (.ref ar)])) rfl rfl (hb hby at_53)
    have N121 := Fr.snoc X121 N104 g_ar
    have Vn121 := Arv.set Ar120 qc120 Sz120 Nn120 Hs120 Gs120 rfl W121 1 rfl (Nat.le_of_ble_eq_true rfl)
    have Hc122 := CHv.wr W121 (Safe.arr hZ.alike Ar120 (by decide)) Hc105
    have CR122 := CR105.trans (CHr.wr W121 (Safe.arr hZ.alike Ar120 (by decide)) Hc105)
    have hk122 := Nat.le_trans hk105 (Keep.of_wr W121).1
    have O__x123 := O__x106.wr W121 g_ar
    have Es1_x124 := Es1_x107.wr W121
    have Fc1_x125 := Fc1_x108.other W121 (Or.inl ne_bs1_ar)
    have Fv1_x126 := Fv1_x109.other W121 (Or.inl ne_bs1_ar)
    have Vt1_x127 := Vt1_x110.other W121 ne_ts1_ar
    have Es3_x128 := Es3_x111.wr W121
    have Fc3_x129 := Fc3_x112.other W121 (Or.inl ne_bs3_ar)
    have Fv3_x130 := Fv3_x113.other W121 (Or.inl ne_bs3_ar)
    have Vt3_x131 := Vt3_x114.other W121 ne_ts3_ar
    have Es9_x132 := Es9_x115.wr W121
    have Fc9_x133 := Fc9_x116.other W121 (Or.inl ne_bs9_ar)
    have Fv9_x134 := Fv9_x117.other W121 (Or.inl ne_bs9_ar)
    have Vt9_x135 := Vt9_x118.other W121 ne_ts9_ar
    have ZVW121 : n0 ≤ h121.size := Nat.le_trans ZVW104 (Keep.of_wr W121).1
    refine own_st st121 ?_
    show own_Go p.tables e below _ (T121.setTop (mkF m 54 #[.val (.int count), .val (.int xa), .val (.int xb), .val (.int xc), .val (.int (2 : Int32)), .val (.ref bs1), .val (.ref bs3), .val (.ref bs9), .val (.ref ar), .unset] []))
    refine own_st (fun _ k' => XS.iload X121.here hx rfl (hb hby at_54) rfl k') ?_
    show own_Go p.tables e below _ (T121.setTop (mkF m 56 #[.val (.int count), .val (.int xa), .val (.int xb), .val (.int xc), .val (.int (2 : Int32)), .val (.ref bs1), .val (.ref bs3), .val (.ref bs9), .val (.ref ar), .unset] [(.int (2 : Int32))]))
    refine own_st (fun _ k' => XS.iconst X121.here hx rfl (hb hby at_56) k') ?_
    show own_Go p.tables e below _ (T121.setTop (mkF m 57 #[.val (.int count), .val (.int xa), .val (.int xb), .val (.int xc), .val (.int (2 : Int32)), .val (.ref bs1), .val (.ref bs3), .val (.ref bs9), .val (.ref ar), .unset] [(.int (3 : Int32)), (.int (2 : Int32))]))
    refine own_st (fun _ k' => XS.icmpYes X121.here hx rfl (pc0 := 57) (pc' := 66) rfl (hb hby at_57) rfl (tlt (by decide : (2 : Int32) < (3 : Int32))).1 (by decide) (by decide) k') ?_
    show own_Go p.tables e below _ (T121.setTop (mkF m 66 #[.val (.int count), .val (.int xa), .val (.int xb), .val (.int xc), .val (.int (2 : Int32)), .val (.ref bs1), .val (.ref bs3), .val (.ref bs9), .val (.ref ar), .unset] []))
    refine own_st (fun _ k' => XS.iload X121.here hx rfl (hb hby at_66) rfl k') ?_
    show own_Go p.tables e below _ (T121.setTop (mkF m 68 #[.val (.int count), .val (.int xa), .val (.int xb), .val (.int xc), .val (.int (2 : Int32)), .val (.ref bs1), .val (.ref bs3), .val (.ref bs9), .val (.ref ar), .unset] [(.int (2 : Int32))]))
    refine own_st (fun _ k' => XS.iconst X121.here hx rfl (hb hby at_68) k') ?_
    show own_Go p.tables e below _ (T121.setTop (mkF m 69 #[.val (.int count), .val (.int xa), .val (.int xb), .val (.int xc), .val (.int (2 : Int32)), .val (.ref bs1), .val (.ref bs3), .val (.ref bs9), .val (.ref ar), .unset] [(.int (1 : Int32)), (.int (2 : Int32))]))
    refine own_st (fun _ k' => XS.icmpNo X121.here hx rfl (hb hby at_69) rfl (flt (by decide : ¬ (2 : Int32) < (1 : Int32))).1 k') ?_
    show own_Go p.tables e below _ (T121.setTop (mkF m 72 #[.val (.int count), .val (.int xa), .val (.int xb), .val (.int xc), .val (.int (2 : Int32)), .val (.ref bs1), .val (.ref bs3), .val (.ref bs9), .val (.ref ar), .unset] []))
    refine own_st (fun _ k' => XS.iloadN X121.here hx rfl (hb hby at_72) rfl k') ?_
    show own_Go p.tables e below _ (T121.setTop (mkF m 73 #[.val (.int count), .val (.int xa), .val (.int xb), .val (.int xc), .val (.int (2 : Int32)), .val (.ref bs1), .val (.ref bs3), .val (.ref bs9), .val (.ref ar), .unset] [(.int xa)]))
    obtain ⟨_, _, ⟨T137, L137, k137, n137⟩, -, X137', h2137, gr137, ⟨Lc137, hQ137, l137, y137, z137, CRc137⟩, st137⟩ := callSS X121 hx (y := (⟨"com/example/frozen_thread/frozenthread/cli/FormReporterAsksForJsonPinLaw", "isJson", "(I)Z"⟩ : MethodName)) hown (mvT hZ (hw _ (List.mem_of_getElem? (i := 39) rfl))) (mvT hZ (hw _ (List.mem_of_getElem? (i := 40) rfl))) (mvT hZ (hw _ (List.mem_of_getElem? (i := 2) rfl))) (mvT hZ (hw _ (List.mem_of_getElem? (i := 41) rfl))) (by decide) (backOfSH (W := 0) (rmIs l Z a0 hw [] xa G1 G3 h121 n0 ZVW121 hEL O2 O4 P5 rG3 O__x123) hZ (hw _ (List.mem_of_getElem? (i := 41) rfl)) (hw _ (List.mem_of_getElem? (i := 2) rfl)) (by decide) (by decide) hEL Hc122) (g := (mkF m 73 #[.val (.int count), .val (.int xa), .val (.int xb), .val (.int xc), .val (.int (2 : Int32)), .val (.ref bs1), .val (.ref bs3), .val (.ref bs9), .val (.ref ar), .unset] [(.int xa)])) rfl (by rw [hml]; rfl) (argsL := [(.int xa)]) (rest := []) (lenOf pd__I_Z rfl) rfl (by show 2 * 0 + _ ≤ _; exact Nat.le_of_eq rfl) (hb hby at_73) (fun _ _ => ⟨rfl, e121, (by decide : 22 + 2 ≤ _), (by decide : 74 + 28 ≤ _)⟩)
    dsimp only [Pt.U, Pt.locs, Pt.cells, Pt.slots] at X137' h2137 gr137 l137 y137 z137 st137 hQ137 CRc137
    subst l137 y137 z137
    obtain ⟨X137, hS137, hZ, hown⟩ := rebS hS9 (by rw [e121]; exact hk122) X137' h2137 gr137 hZ hown
    have CR137 := CR122.trans CRc137
    have hk137 : T137.heap.size ≤ T137.heap.size := Nat.le_refl _
    obtain ⟨rfl, Nq137, Kc137⟩ := hQ137
    have N137 := Fr.app N121 Nq137
    have O__x138 := O__x123.keep Kc137 all0
    have Es1_x139 := Es1_x124.keep Kc137
    have Fc1_x140 := Fc1_x125.keep Kc137 nin0
    have Fv1_x141 := Fv1_x126.keep Kc137 nin0
    have Vt1_x142 := Vt1_x127.keep Kc137 nin0
    have Es3_x143 := Es3_x128.keep Kc137
    have Fc3_x144 := Fc3_x129.keep Kc137 nin0
    have Fv3_x145 := Fv3_x130.keep Kc137 nin0
    have Vt3_x146 := Vt3_x131.keep Kc137 nin0
    have Es9_x147 := Es9_x132.keep Kc137
    have Fc9_x148 := Fc9_x133.keep Kc137 nin0
    have Fv9_x149 := Fv9_x134.keep Kc137 nin0
    have Vt9_x150 := Vt9_x135.keep Kc137 nin0
    have Vn121_x151 := Vn121.keep Kc137 nin0
    have Zc137 : n0 ≤ T137.heap.size := Nat.le_trans ZVW121 Kc137.1
    refine own_tr st137 ?_
    show own_Go p.tables e below _ (T137.setTop (mkF m 76 #[.val (.int count), .val (.int xa), .val (.int xb), .val (.int xc), .val (.int (2 : Int32)), .val (.ref bs1), .val (.ref bs3), .val (.ref bs9), .val (.ref ar), .unset] [(.int (own_isj xa))]))
    by_cases hc152 : (own_isj xa) = (0 : Int32)
    ·  -- pc 76, (own_isj xa) = (0 : Int32)
      refine own_st (fun _ k' => XS.ifNo X137.here hx rfl (hb hby at_76) rfl ((if0 _ _).trans (teq hc152).2) k') ?_
      show own_Go p.tables e below _ (T137.setTop (mkF m 79 #[.val (.int count), .val (.int xa), .val (.int xb), .val (.int xc), .val (.int (2 : Int32)), .val (.ref bs1), .val (.ref bs3), .val (.ref bs9), .val (.ref ar), .unset] []))
      refine own_st (fun _ k' => XS.iload X137.here hx rfl (hb hby at_79) rfl k') ?_
      show own_Go p.tables e below _ (T137.setTop (mkF m 81 #[.val (.int count), .val (.int xa), .val (.int xb), .val (.int xc), .val (.int (2 : Int32)), .val (.ref bs1), .val (.ref bs3), .val (.ref bs9), .val (.ref ar), .unset] [(.int (2 : Int32))]))
      refine own_st (fun _ k' => XS.iconst X137.here hx rfl (hb hby at_81) k') ?_
      show own_Go p.tables e below _ (T137.setTop (mkF m 82 #[.val (.int count), .val (.int xa), .val (.int xb), .val (.int xc), .val (.int (2 : Int32)), .val (.ref bs1), .val (.ref bs3), .val (.ref bs9), .val (.ref ar), .unset] [(.int (2 : Int32)), (.int (2 : Int32))]))
      refine own_st (fun _ k' => XS.icmpNo X137.here hx rfl (hb hby at_82) rfl (flt (by decide : ¬ (2 : Int32) < (2 : Int32))).1 k') ?_
      show own_Go p.tables e below _ (T137.setTop (mkF m 85 #[.val (.int count), .val (.int xa), .val (.int xb), .val (.int xc), .val (.int (2 : Int32)), .val (.ref bs1), .val (.ref bs3), .val (.ref bs9), .val (.ref ar), .unset] []))
      refine own_st (fun _ k' => XS.iloadN X137.here hx rfl (hb hby at_85) rfl k') ?_
      show own_Go p.tables e below _ (T137.setTop (mkF m 86 #[.val (.int count), .val (.int xa), .val (.int xb), .val (.int xc), .val (.int (2 : Int32)), .val (.ref bs1), .val (.ref bs3), .val (.ref bs9), .val (.ref ar), .unset] [(.int xb)]))
      obtain ⟨_, _, ⟨T153, L153, k153, n153⟩, -, X153', h2153, gr153, ⟨Lc153, hQ153, l153, y153, z153, CRc153⟩, st153⟩ := callSS X137 hx (y := (⟨"com/example/frozen_thread/frozenthread/cli/FormReporterAsksForJsonPinLaw", "isJson", "(I)Z"⟩ : MethodName)) hown (mvT hZ (hw _ (List.mem_of_getElem? (i := 39) rfl))) (mvT hZ (hw _ (List.mem_of_getElem? (i := 40) rfl))) (mvT hZ (hw _ (List.mem_of_getElem? (i := 2) rfl))) (mvT hZ (hw _ (List.mem_of_getElem? (i := 41) rfl))) (by decide) (backOfSH (W := 0) (rmIs l Z a0 hw [] xb G1 G3 T137.heap n0 Zc137 hEL O2 O4 P5 rG3 O__x138) hZ (hw _ (List.mem_of_getElem? (i := 41) rfl)) (hw _ (List.mem_of_getElem? (i := 2) rfl)) (by decide) (by decide) hEL CRc137.1) (g := (mkF m 86 #[.val (.int count), .val (.int xa), .val (.int xb), .val (.int xc), .val (.int (2 : Int32)), .val (.ref bs1), .val (.ref bs3), .val (.ref bs9), .val (.ref ar), .unset] [(.int xb)])) rfl (by rw [hml]; rfl) (argsL := [(.int xb)]) (rest := []) (lenOf pd__I_Z rfl) rfl (by show 2 * 0 + _ ≤ _; exact Nat.le_of_eq rfl) (hb hby at_86) (fun _ _ => ⟨rfl, rfl, (by decide : 24 + 2 ≤ _), (by decide : 102 + 28 ≤ _)⟩)
      dsimp only [Pt.U, Pt.locs, Pt.cells, Pt.slots] at X153' h2153 gr153 l153 y153 z153 st153 hQ153 CRc153
      subst l153 y153 z153
      obtain ⟨X153, hS153, hZ, hown⟩ := rebS hS137 (by exact hk137) X153' h2153 gr153 hZ hown
      have CR153 := CR137.trans CRc153
      have hk153 : T153.heap.size ≤ T153.heap.size := Nat.le_refl _
      obtain ⟨rfl, Nq153, Kc153⟩ := hQ153
      have N153 := Fr.app N137 Nq153
      have O__x154 := O__x138.keep Kc153 all0
      have Es1_x155 := Es1_x139.keep Kc153
      have Fc1_x156 := Fc1_x140.keep Kc153 nin0
      have Fv1_x157 := Fv1_x141.keep Kc153 nin0
      have Vt1_x158 := Vt1_x142.keep Kc153 nin0
      have Es3_x159 := Es3_x143.keep Kc153
      have Fc3_x160 := Fc3_x144.keep Kc153 nin0
      have Fv3_x161 := Fv3_x145.keep Kc153 nin0
      have Vt3_x162 := Vt3_x146.keep Kc153 nin0
      have Es9_x163 := Es9_x147.keep Kc153
      have Fc9_x164 := Fc9_x148.keep Kc153 nin0
      have Fv9_x165 := Fv9_x149.keep Kc153 nin0
      have Vt9_x166 := Vt9_x150.keep Kc153 nin0
      have Vn121_x167 := Vn121_x151.keep Kc153 nin0
      have Zc153 : n0 ≤ T153.heap.size := Nat.le_trans Zc137 Kc153.1
      refine own_tr st153 ?_
      show own_Go p.tables e below _ (T153.setTop (mkF m 89 #[.val (.int count), .val (.int xa), .val (.int xb), .val (.int xc), .val (.int (2 : Int32)), .val (.ref bs1), .val (.ref bs3), .val (.ref bs9), .val (.ref ar), .unset] [(.int (own_isj xb))]))
      by_cases hc168 : (own_isj xb) = (0 : Int32)
      ·  -- pc 89, (own_isj xb) = (0 : Int32)
        refine own_st (fun _ k' => XS.ifNo X153.here hx rfl (hb hby at_89) rfl ((if0 _ _).trans (teq hc168).2) k') ?_
        show own_Go p.tables e below _ (T153.setTop (mkF m 92 #[.val (.int count), .val (.int xa), .val (.int xb), .val (.int xc), .val (.int (2 : Int32)), .val (.ref bs1), .val (.ref bs3), .val (.ref bs9), .val (.ref ar), .unset] []))
        refine own_st (fun _ k' => XS.iload X153.here hx rfl (hb hby at_92) rfl k') ?_
        show own_Go p.tables e below _ (T153.setTop (mkF m 94 #[.val (.int count), .val (.int xa), .val (.int xb), .val (.int xc), .val (.int (2 : Int32)), .val (.ref bs1), .val (.ref bs3), .val (.ref bs9), .val (.ref ar), .unset] [(.int (2 : Int32))]))
        refine own_st (fun _ k' => XS.iconst X153.here hx rfl (hb hby at_94) k') ?_
        show own_Go p.tables e below _ (T153.setTop (mkF m 95 #[.val (.int count), .val (.int xa), .val (.int xb), .val (.int xc), .val (.int (2 : Int32)), .val (.ref bs1), .val (.ref bs3), .val (.ref bs9), .val (.ref ar), .unset] [(.int (3 : Int32)), (.int (2 : Int32))]))
        refine own_st (fun _ k' => XS.icmpYes X153.here hx rfl (pc0 := 95) (pc' := 109) rfl (hb hby at_95) rfl (tlt (by decide : (2 : Int32) < (3 : Int32))).1 (by decide) (by decide) k') ?_
        show own_Go p.tables e below _ (T153.setTop (mkF m 109 #[.val (.int count), .val (.int xa), .val (.int xb), .val (.int xc), .val (.int (2 : Int32)), .val (.ref bs1), .val (.ref bs3), .val (.ref bs9), .val (.ref ar), .unset] []))
        refine own_st (fun _ k' => XS.iconst X153.here hx rfl (hb hby at_109) k') ?_
        show own_Go p.tables e below _ (T153.setTop (mkF m 110 #[.val (.int count), .val (.int xa), .val (.int xb), .val (.int xc), .val (.int (2 : Int32)), .val (.ref bs1), .val (.ref bs3), .val (.ref bs9), .val (.ref ar), .unset] [(.int (0 : Int32))]))
        refine own_st (fun _ k' => XS.istore X153.here hx rfl (hb hby at_110) rfl (l' := #[.val (.int count), .val (.int xa), .val (.int xb), .val (.int xc), .val (.int (2 : Int32)), .val (.ref bs1), .val (.ref bs3), .val (.ref bs9), .val (.ref ar), .val (.int (0 : Int32))]) rfl k') ?_
        show own_Go p.tables e below _ (T153.setTop (mkF m 112 #[.val (.int count), .val (.int xa), .val (.int xb), .val (.int xc), .val (.int (2 : Int32)), .val (.ref bs1), .val (.ref bs3), .val (.ref bs9), .val (.ref ar), .val (.int (0 : Int32))] []))
        refine own_st (fun _ k' => XS.aload X153.here hx rfl (hb hby at_112) rfl rfl k') ?_
        show own_Go p.tables e below _ (T153.setTop (mkF m 114 #[.val (.int count), .val (.int xa), .val (.int xb), .val (.int xc), .val (.int (2 : Int32)), .val (.ref bs1), .val (.ref bs3), .val (.ref bs9), .val (.ref ar), .val (.int (0 : Int32))] [(.ref ar)]))
        obtain ⟨_, _, ⟨T169, L169, k169, n169⟩, -, X169', h2169, gr169, ⟨Lc169, hQ169, l169, y169, z169, CRc169⟩, st169⟩ := callSS X153 hx (y := (⟨"com/example/frozen_thread/frozenthread/cli/FormReporter", "asksForJson", "([Ljava/lang/String;)Z"⟩ : MethodName)) hown (mvT hZ (hw _ (List.mem_of_getElem? (i := 35) rfl))) (mvT hZ (hw _ (List.mem_of_getElem? (i := 36) rfl))) (mvT hZ (hw _ (List.mem_of_getElem? (i := 37) rfl))) (mvT hZ (hw _ (List.mem_of_getElem? (i := 38) rfl))) (by decide) (backOfSH (W := 0) (rmAs2 l Z a0 hw [] ar k88 bs1 ts1 ks1 (own_mk xa) bs3 ts3 ks3 (own_mk xb) G1 G3 T153.heap n0 Zc153  Es1_x155 Fc1_x156 Fv1_x157 Vt1_x158 (own_mk_in xa) (own_mk_len xa) Es3_x159 Fc3_x160 Fv3_x161 Vt3_x162 (own_mk_in xb) (own_mk_len xb) Vn121_x167 hEL O2 O4 P5 rG3 O__x154) hZ (hw _ (List.mem_of_getElem? (i := 38) rfl)) (hw _ (List.mem_of_getElem? (i := 37) rfl)) (by decide) (by decide) hEL CRc153.1) (g := (mkF m 114 #[.val (.int count), .val (.int xa), .val (.int xb), .val (.int xc), .val (.int (2 : Int32)), .val (.ref bs1), .val (.ref bs3), .val (.ref bs9), .val (.ref ar), .val (.int (0 : Int32))] [(.ref ar)])) rfl (by rw [hml]; rfl) (argsL := [(.ref ar)]) (rest := []) (lenOf pd___Ljava_lang_String__Z rfl) rfl (by show 2 * 0 + _ ≤ _; exact Nat.le_of_eq rfl) (hb hby at_114) (fun _ _ => ⟨rfl, rfl, (by decide : 26 + 4 ≤ _), (by decide : 130 + 56 ≤ _)⟩)
        dsimp only [Pt.U, Pt.locs, Pt.cells, Pt.slots] at X169' h2169 gr169 l169 y169 z169 st169 hQ169 CRc169
        subst l169 y169 z169
        obtain ⟨X169, hS169, hZ, hown⟩ := rebS hS153 (by exact hk153) X169' h2169 gr169 hZ hown
        have CR169 := CR153.trans CRc169
        have hk169 : T169.heap.size ≤ T169.heap.size := Nat.le_refl _
        obtain ⟨hD169, Nq169, Kc169⟩ := hQ169
        have N169 := Fr.app N153 Nq169
        rcases hD169 with ⟨rfl, hj169⟩ | ⟨rfl, hj169⟩
        ·  -- 1
          refine own_tr st169 ?_
          show own_Go p.tables e below _ (T169.setTop (mkF m 117 #[.val (.int count), .val (.int xa), .val (.int xb), .val (.int xc), .val (.int (2 : Int32)), .val (.ref bs1), .val (.ref bs3), .val (.ref bs9), .val (.ref ar), .val (.int (0 : Int32))] [(.int (1 : Int32))]))
          refine own_st (fun _ k' => XS.iload X169.here hx rfl (hb hby at_117) rfl k') ?_
          show own_Go p.tables e below _ (T169.setTop (mkF m 119 #[.val (.int count), .val (.int xa), .val (.int xb), .val (.int xc), .val (.int (2 : Int32)), .val (.ref bs1), .val (.ref bs3), .val (.ref bs9), .val (.ref ar), .val (.int (0 : Int32))] [(.int (0 : Int32)), (.int (1 : Int32))]))
          exact False.elim (hj169.elim (fun q => absurd (hc152.symm.trans ((own_key xa).1.mp q)) (by decide)) (fun q => absurd (hc168.symm.trans ((own_key xb).1.mp q)) (by decide)))
        ·  -- 0
          refine own_tr st169 ?_
          show own_Go p.tables e below _ (T169.setTop (mkF m 117 #[.val (.int count), .val (.int xa), .val (.int xb), .val (.int xc), .val (.int (2 : Int32)), .val (.ref bs1), .val (.ref bs3), .val (.ref bs9), .val (.ref ar), .val (.int (0 : Int32))] [(.int (0 : Int32))]))
          refine own_st (fun _ k' => XS.iload X169.here hx rfl (hb hby at_117) rfl k') ?_
          show own_Go p.tables e below _ (T169.setTop (mkF m 119 #[.val (.int count), .val (.int xa), .val (.int xb), .val (.int xc), .val (.int (2 : Int32)), .val (.ref bs1), .val (.ref bs3), .val (.ref bs9), .val (.ref ar), .val (.int (0 : Int32))] [(.int (0 : Int32)), (.int (0 : Int32))]))
          refine own_st (fun _ k' => XS.icmpNo X169.here hx rfl (hb hby at_119) rfl (teq (by decide : (0 : Int32) = (0 : Int32))).2 k') ?_
          show own_Go p.tables e below _ (T169.setTop (mkF m 122 #[.val (.int count), .val (.int xa), .val (.int xb), .val (.int xc), .val (.int (2 : Int32)), .val (.ref bs1), .val (.ref bs3), .val (.ref bs9), .val (.ref ar), .val (.int (0 : Int32))] []))
          refine own_st (fun _ k' => XS.iconst X169.here hx rfl (hb hby at_122) k') ?_
          show own_Go p.tables e below _ (T169.setTop (mkF m 123 #[.val (.int count), .val (.int xa), .val (.int xb), .val (.int xc), .val (.int (2 : Int32)), .val (.ref bs1), .val (.ref bs3), .val (.ref bs9), .val (.ref ar), .val (.int (0 : Int32))] [(.int (1 : Int32))]))
          refine own_st (fun _ k' => XS.goto X169.here hx rfl (pc0 := 123) (pc' := 127) rfl (hb hby at_123) (by decide) (by decide) k') ?_
          show own_Go p.tables e below _ (T169.setTop (mkF m 127 #[.val (.int count), .val (.int xa), .val (.int xb), .val (.int xc), .val (.int (2 : Int32)), .val (.ref bs1), .val (.ref bs3), .val (.ref bs9), .val (.ref ar), .val (.int (0 : Int32))] [(.int (1 : Int32))]))
          have cr170 : CHr Z consts_1 s.vm s.heap T169.vm T169.heap := by rw [hh, show T169.heap = T169.heap from rfl]; exact CR169.trans (CHv.at X169 hZ hEL CRc169.1)
          exact own_retWN X169 hS169 (by exact hk169) hx (t := .boolean) Bd.returns (by simp) (hb hby at_127) Bd.notSynchronized ⟨rfl, N169⟩ cr170 (by decide) (by decide)
      ·  -- pc 89, not (own_isj xb) = (0 : Int32)
        refine own_st (fun _ k' => XS.ifYes X153.here hx rfl (pc0 := 89) (pc' := 105) rfl (hb hby at_89) rfl ((if0 _ _).trans (feq hc168).2) (by decide) (by decide) k') ?_
        show own_Go p.tables e below _ (T153.setTop (mkF m 105 #[.val (.int count), .val (.int xa), .val (.int xb), .val (.int xc), .val (.int (2 : Int32)), .val (.ref bs1), .val (.ref bs3), .val (.ref bs9), .val (.ref ar), .unset] []))
        refine own_st (fun _ k' => XS.iconst X153.here hx rfl (hb hby at_105) k') ?_
        show own_Go p.tables e below _ (T153.setTop (mkF m 106 #[.val (.int count), .val (.int xa), .val (.int xb), .val (.int xc), .val (.int (2 : Int32)), .val (.ref bs1), .val (.ref bs3), .val (.ref bs9), .val (.ref ar), .unset] [(.int (1 : Int32))]))
        refine own_st (fun _ k' => XS.goto X153.here hx rfl (pc0 := 106) (pc' := 110) rfl (hb hby at_106) (by decide) (by decide) k') ?_
        show own_Go p.tables e below _ (T153.setTop (mkF m 110 #[.val (.int count), .val (.int xa), .val (.int xb), .val (.int xc), .val (.int (2 : Int32)), .val (.ref bs1), .val (.ref bs3), .val (.ref bs9), .val (.ref ar), .unset] [(.int (1 : Int32))]))
        refine own_st (fun _ k' => XS.istore X153.here hx rfl (hb hby at_110) rfl (l' := #[.val (.int count), .val (.int xa), .val (.int xb), .val (.int xc), .val (.int (2 : Int32)), .val (.ref bs1), .val (.ref bs3), .val (.ref bs9), .val (.ref ar), .val (.int (1 : Int32))]) rfl k') ?_
        show own_Go p.tables e below _ (T153.setTop (mkF m 112 #[.val (.int count), .val (.int xa), .val (.int xb), .val (.int xc), .val (.int (2 : Int32)), .val (.ref bs1), .val (.ref bs3), .val (.ref bs9), .val (.ref ar), .val (.int (1 : Int32))] []))
        refine own_st (fun _ k' => XS.aload X153.here hx rfl (hb hby at_112) rfl rfl k') ?_
        show own_Go p.tables e below _ (T153.setTop (mkF m 114 #[.val (.int count), .val (.int xa), .val (.int xb), .val (.int xc), .val (.int (2 : Int32)), .val (.ref bs1), .val (.ref bs3), .val (.ref bs9), .val (.ref ar), .val (.int (1 : Int32))] [(.ref ar)]))
        obtain ⟨_, _, ⟨T171, L171, k171, n171⟩, -, X171', h2171, gr171, ⟨Lc171, hQ171, l171, y171, z171, CRc171⟩, st171⟩ := callSS X153 hx (y := (⟨"com/example/frozen_thread/frozenthread/cli/FormReporter", "asksForJson", "([Ljava/lang/String;)Z"⟩ : MethodName)) hown (mvT hZ (hw _ (List.mem_of_getElem? (i := 35) rfl))) (mvT hZ (hw _ (List.mem_of_getElem? (i := 36) rfl))) (mvT hZ (hw _ (List.mem_of_getElem? (i := 37) rfl))) (mvT hZ (hw _ (List.mem_of_getElem? (i := 38) rfl))) (by decide) (backOfSH (W := 0) (rmAs2 l Z a0 hw [] ar k88 bs1 ts1 ks1 (own_mk xa) bs3 ts3 ks3 (own_mk xb) G1 G3 T153.heap n0 Zc153  Es1_x155 Fc1_x156 Fv1_x157 Vt1_x158 (own_mk_in xa) (own_mk_len xa) Es3_x159 Fc3_x160 Fv3_x161 Vt3_x162 (own_mk_in xb) (own_mk_len xb) Vn121_x167 hEL O2 O4 P5 rG3 O__x154) hZ (hw _ (List.mem_of_getElem? (i := 38) rfl)) (hw _ (List.mem_of_getElem? (i := 37) rfl)) (by decide) (by decide) hEL CRc153.1) (g := (mkF m 114 #[.val (.int count), .val (.int xa), .val (.int xb), .val (.int xc), .val (.int (2 : Int32)), .val (.ref bs1), .val (.ref bs3), .val (.ref bs9), .val (.ref ar), .val (.int (1 : Int32))] [(.ref ar)])) rfl (by rw [hml]; rfl) (argsL := [(.ref ar)]) (rest := []) (lenOf pd___Ljava_lang_String__Z rfl) rfl (by show 2 * 0 + _ ≤ _; exact Nat.le_of_eq rfl) (hb hby at_114) (fun _ _ => ⟨rfl, rfl, (by decide : 26 + 4 ≤ _), (by decide : 130 + 56 ≤ _)⟩)
        dsimp only [Pt.U, Pt.locs, Pt.cells, Pt.slots] at X171' h2171 gr171 l171 y171 z171 st171 hQ171 CRc171
        subst l171 y171 z171
        obtain ⟨X171, hS171, hZ, hown⟩ := rebS hS153 (by exact hk153) X171' h2171 gr171 hZ hown
        have CR171 := CR153.trans CRc171
        have hk171 : T171.heap.size ≤ T171.heap.size := Nat.le_refl _
        obtain ⟨hD171, Nq171, Kc171⟩ := hQ171
        have N171 := Fr.app N153 Nq171
        rcases hD171 with ⟨rfl, hj171⟩ | ⟨rfl, hj171⟩
        ·  -- 1
          refine own_tr st171 ?_
          show own_Go p.tables e below _ (T171.setTop (mkF m 117 #[.val (.int count), .val (.int xa), .val (.int xb), .val (.int xc), .val (.int (2 : Int32)), .val (.ref bs1), .val (.ref bs3), .val (.ref bs9), .val (.ref ar), .val (.int (1 : Int32))] [(.int (1 : Int32))]))
          refine own_st (fun _ k' => XS.iload X171.here hx rfl (hb hby at_117) rfl k') ?_
          show own_Go p.tables e below _ (T171.setTop (mkF m 119 #[.val (.int count), .val (.int xa), .val (.int xb), .val (.int xc), .val (.int (2 : Int32)), .val (.ref bs1), .val (.ref bs3), .val (.ref bs9), .val (.ref ar), .val (.int (1 : Int32))] [(.int (1 : Int32)), (.int (1 : Int32))]))
          refine own_st (fun _ k' => XS.icmpNo X171.here hx rfl (hb hby at_119) rfl (teq (by decide : (1 : Int32) = (1 : Int32))).2 k') ?_
          show own_Go p.tables e below _ (T171.setTop (mkF m 122 #[.val (.int count), .val (.int xa), .val (.int xb), .val (.int xc), .val (.int (2 : Int32)), .val (.ref bs1), .val (.ref bs3), .val (.ref bs9), .val (.ref ar), .val (.int (1 : Int32))] []))
          refine own_st (fun _ k' => XS.iconst X171.here hx rfl (hb hby at_122) k') ?_
          show own_Go p.tables e below _ (T171.setTop (mkF m 123 #[.val (.int count), .val (.int xa), .val (.int xb), .val (.int xc), .val (.int (2 : Int32)), .val (.ref bs1), .val (.ref bs3), .val (.ref bs9), .val (.ref ar), .val (.int (1 : Int32))] [(.int (1 : Int32))]))
          refine own_st (fun _ k' => XS.goto X171.here hx rfl (pc0 := 123) (pc' := 127) rfl (hb hby at_123) (by decide) (by decide) k') ?_
          show own_Go p.tables e below _ (T171.setTop (mkF m 127 #[.val (.int count), .val (.int xa), .val (.int xb), .val (.int xc), .val (.int (2 : Int32)), .val (.ref bs1), .val (.ref bs3), .val (.ref bs9), .val (.ref ar), .val (.int (1 : Int32))] [(.int (1 : Int32))]))
          have cr172 : CHr Z consts_1 s.vm s.heap T171.vm T171.heap := by rw [hh, show T171.heap = T171.heap from rfl]; exact CR171.trans (CHv.at X171 hZ hEL CRc171.1)
          exact own_retWN X171 hS171 (by exact hk171) hx (t := .boolean) Bd.returns (by simp) (hb hby at_127) Bd.notSynchronized ⟨rfl, N171⟩ cr172 (by decide) (by decide)
        ·  -- 0
          refine own_tr st171 ?_
          show own_Go p.tables e below _ (T171.setTop (mkF m 117 #[.val (.int count), .val (.int xa), .val (.int xb), .val (.int xc), .val (.int (2 : Int32)), .val (.ref bs1), .val (.ref bs3), .val (.ref bs9), .val (.ref ar), .val (.int (1 : Int32))] [(.int (0 : Int32))]))
          refine own_st (fun _ k' => XS.iload X171.here hx rfl (hb hby at_117) rfl k') ?_
          show own_Go p.tables e below _ (T171.setTop (mkF m 119 #[.val (.int count), .val (.int xa), .val (.int xb), .val (.int xc), .val (.int (2 : Int32)), .val (.ref bs1), .val (.ref bs3), .val (.ref bs9), .val (.ref ar), .val (.int (1 : Int32))] [(.int (1 : Int32)), (.int (0 : Int32))]))
          exact absurd (Or.inr ((own_key xb).1.mpr ((own_key xb).2.resolve_left hc168))) hj171
    ·  -- pc 76, not (own_isj xa) = (0 : Int32)
      refine own_st (fun _ k' => XS.ifYes X137.here hx rfl (pc0 := 76) (pc' := 105) rfl (hb hby at_76) rfl ((if0 _ _).trans (feq hc152).2) (by decide) (by decide) k') ?_
      show own_Go p.tables e below _ (T137.setTop (mkF m 105 #[.val (.int count), .val (.int xa), .val (.int xb), .val (.int xc), .val (.int (2 : Int32)), .val (.ref bs1), .val (.ref bs3), .val (.ref bs9), .val (.ref ar), .unset] []))
      refine own_st (fun _ k' => XS.iconst X137.here hx rfl (hb hby at_105) k') ?_
      show own_Go p.tables e below _ (T137.setTop (mkF m 106 #[.val (.int count), .val (.int xa), .val (.int xb), .val (.int xc), .val (.int (2 : Int32)), .val (.ref bs1), .val (.ref bs3), .val (.ref bs9), .val (.ref ar), .unset] [(.int (1 : Int32))]))
      refine own_st (fun _ k' => XS.goto X137.here hx rfl (pc0 := 106) (pc' := 110) rfl (hb hby at_106) (by decide) (by decide) k') ?_
      show own_Go p.tables e below _ (T137.setTop (mkF m 110 #[.val (.int count), .val (.int xa), .val (.int xb), .val (.int xc), .val (.int (2 : Int32)), .val (.ref bs1), .val (.ref bs3), .val (.ref bs9), .val (.ref ar), .unset] [(.int (1 : Int32))]))
      refine own_st (fun _ k' => XS.istore X137.here hx rfl (hb hby at_110) rfl (l' := #[.val (.int count), .val (.int xa), .val (.int xb), .val (.int xc), .val (.int (2 : Int32)), .val (.ref bs1), .val (.ref bs3), .val (.ref bs9), .val (.ref ar), .val (.int (1 : Int32))]) rfl k') ?_
      show own_Go p.tables e below _ (T137.setTop (mkF m 112 #[.val (.int count), .val (.int xa), .val (.int xb), .val (.int xc), .val (.int (2 : Int32)), .val (.ref bs1), .val (.ref bs3), .val (.ref bs9), .val (.ref ar), .val (.int (1 : Int32))] []))
      refine own_st (fun _ k' => XS.aload X137.here hx rfl (hb hby at_112) rfl rfl k') ?_
      show own_Go p.tables e below _ (T137.setTop (mkF m 114 #[.val (.int count), .val (.int xa), .val (.int xb), .val (.int xc), .val (.int (2 : Int32)), .val (.ref bs1), .val (.ref bs3), .val (.ref bs9), .val (.ref ar), .val (.int (1 : Int32))] [(.ref ar)]))
      obtain ⟨_, _, ⟨T173, L173, k173, n173⟩, -, X173', h2173, gr173, ⟨Lc173, hQ173, l173, y173, z173, CRc173⟩, st173⟩ := callSS X137 hx (y := (⟨"com/example/frozen_thread/frozenthread/cli/FormReporter", "asksForJson", "([Ljava/lang/String;)Z"⟩ : MethodName)) hown (mvT hZ (hw _ (List.mem_of_getElem? (i := 35) rfl))) (mvT hZ (hw _ (List.mem_of_getElem? (i := 36) rfl))) (mvT hZ (hw _ (List.mem_of_getElem? (i := 37) rfl))) (mvT hZ (hw _ (List.mem_of_getElem? (i := 38) rfl))) (by decide) (backOfSH (W := 0) (rmAs2 l Z a0 hw [] ar k88 bs1 ts1 ks1 (own_mk xa) bs3 ts3 ks3 (own_mk xb) G1 G3 T137.heap n0 Zc137  Es1_x139 Fc1_x140 Fv1_x141 Vt1_x142 (own_mk_in xa) (own_mk_len xa) Es3_x143 Fc3_x144 Fv3_x145 Vt3_x146 (own_mk_in xb) (own_mk_len xb) Vn121_x151 hEL O2 O4 P5 rG3 O__x138) hZ (hw _ (List.mem_of_getElem? (i := 38) rfl)) (hw _ (List.mem_of_getElem? (i := 37) rfl)) (by decide) (by decide) hEL CRc137.1) (g := (mkF m 114 #[.val (.int count), .val (.int xa), .val (.int xb), .val (.int xc), .val (.int (2 : Int32)), .val (.ref bs1), .val (.ref bs3), .val (.ref bs9), .val (.ref ar), .val (.int (1 : Int32))] [(.ref ar)])) rfl (by rw [hml]; rfl) (argsL := [(.ref ar)]) (rest := []) (lenOf pd___Ljava_lang_String__Z rfl) rfl (by show 2 * 0 + _ ≤ _; exact Nat.le_of_eq rfl) (hb hby at_114) (fun _ _ => ⟨rfl, rfl, (by decide : 24 + 4 ≤ _), (by decide : 102 + 56 ≤ _)⟩)
      dsimp only [Pt.U, Pt.locs, Pt.cells, Pt.slots] at X173' h2173 gr173 l173 y173 z173 st173 hQ173 CRc173
      subst l173 y173 z173
      obtain ⟨X173, hS173, hZ, hown⟩ := rebS hS137 (by exact hk137) X173' h2173 gr173 hZ hown
      have CR173 := CR137.trans CRc173
      have hk173 : T173.heap.size ≤ T173.heap.size := Nat.le_refl _
      obtain ⟨hD173, Nq173, Kc173⟩ := hQ173
      have N173 := Fr.app N137 Nq173
      rcases hD173 with ⟨rfl, hj173⟩ | ⟨rfl, hj173⟩
      ·  -- 1
        refine own_tr st173 ?_
        show own_Go p.tables e below _ (T173.setTop (mkF m 117 #[.val (.int count), .val (.int xa), .val (.int xb), .val (.int xc), .val (.int (2 : Int32)), .val (.ref bs1), .val (.ref bs3), .val (.ref bs9), .val (.ref ar), .val (.int (1 : Int32))] [(.int (1 : Int32))]))
        refine own_st (fun _ k' => XS.iload X173.here hx rfl (hb hby at_117) rfl k') ?_
        show own_Go p.tables e below _ (T173.setTop (mkF m 119 #[.val (.int count), .val (.int xa), .val (.int xb), .val (.int xc), .val (.int (2 : Int32)), .val (.ref bs1), .val (.ref bs3), .val (.ref bs9), .val (.ref ar), .val (.int (1 : Int32))] [(.int (1 : Int32)), (.int (1 : Int32))]))
        refine own_st (fun _ k' => XS.icmpNo X173.here hx rfl (hb hby at_119) rfl (teq (by decide : (1 : Int32) = (1 : Int32))).2 k') ?_
        show own_Go p.tables e below _ (T173.setTop (mkF m 122 #[.val (.int count), .val (.int xa), .val (.int xb), .val (.int xc), .val (.int (2 : Int32)), .val (.ref bs1), .val (.ref bs3), .val (.ref bs9), .val (.ref ar), .val (.int (1 : Int32))] []))
        refine own_st (fun _ k' => XS.iconst X173.here hx rfl (hb hby at_122) k') ?_
        show own_Go p.tables e below _ (T173.setTop (mkF m 123 #[.val (.int count), .val (.int xa), .val (.int xb), .val (.int xc), .val (.int (2 : Int32)), .val (.ref bs1), .val (.ref bs3), .val (.ref bs9), .val (.ref ar), .val (.int (1 : Int32))] [(.int (1 : Int32))]))
        refine own_st (fun _ k' => XS.goto X173.here hx rfl (pc0 := 123) (pc' := 127) rfl (hb hby at_123) (by decide) (by decide) k') ?_
        show own_Go p.tables e below _ (T173.setTop (mkF m 127 #[.val (.int count), .val (.int xa), .val (.int xb), .val (.int xc), .val (.int (2 : Int32)), .val (.ref bs1), .val (.ref bs3), .val (.ref bs9), .val (.ref ar), .val (.int (1 : Int32))] [(.int (1 : Int32))]))
        have cr174 : CHr Z consts_1 s.vm s.heap T173.vm T173.heap := by rw [hh, show T173.heap = T173.heap from rfl]; exact CR173.trans (CHv.at X173 hZ hEL CRc173.1)
        exact own_retWN X173 hS173 (by exact hk173) hx (t := .boolean) Bd.returns (by simp) (hb hby at_127) Bd.notSynchronized ⟨rfl, N173⟩ cr174 (by decide) (by decide)
      ·  -- 0
        refine own_tr st173 ?_
        show own_Go p.tables e below _ (T173.setTop (mkF m 117 #[.val (.int count), .val (.int xa), .val (.int xb), .val (.int xc), .val (.int (2 : Int32)), .val (.ref bs1), .val (.ref bs3), .val (.ref bs9), .val (.ref ar), .val (.int (1 : Int32))] [(.int (0 : Int32))]))
        refine own_st (fun _ k' => XS.iload X173.here hx rfl (hb hby at_117) rfl k') ?_
        show own_Go p.tables e below _ (T173.setTop (mkF m 119 #[.val (.int count), .val (.int xa), .val (.int xb), .val (.int xc), .val (.int (2 : Int32)), .val (.ref bs1), .val (.ref bs3), .val (.ref bs9), .val (.ref ar), .val (.int (1 : Int32))] [(.int (1 : Int32)), (.int (0 : Int32))]))
        exact absurd (Or.inl ((own_key xa).1.mpr ((own_key xa).2.resolve_left hc152))) hj173
  ·  -- n = 3
    rw [hk]
    show own_Go p.tables e below _ (T9.setTop (mkF m 23 #[.val (.int count), .val (.int xa), .val (.int xb), .val (.int xc), .val (.int (3 : Int32)), .val (.ref bs1), .val (.ref bs3), .val (.ref bs9), .unset, .unset] []))
    refine own_st (fun _ k' => XS.iload X9.here hx rfl (hb hby at_23) rfl k') ?_
    show own_Go p.tables e below _ (T9.setTop (mkF m 25 #[.val (.int count), .val (.int xa), .val (.int xb), .val (.int xc), .val (.int (3 : Int32)), .val (.ref bs1), .val (.ref bs3), .val (.ref bs9), .unset, .unset] [(.int (3 : Int32))]))
    obtain ⟨T175, h175, k175, X175, e175, E175, A175, O175, st175⟩ := newR X9 hx hZ hown (hw _ (List.mem_of_getElem? (i := 5) rfl)) (hw _ (List.mem_of_getElem? (i := 34) rfl)) rfl (g := (mkF m 25 #[.val (.int count), .val (.int xa), .val (.int xb), .val (.int xc), .val (.int (3 : Int32)), .val (.ref bs1), .val (.ref bs3), .val (.ref bs9), .unset, .unset] [(.int (3 : Int32))])) rfl (hb hby at_25) rfl (by decide) (cap := 3) (by decide) (by decide) (by decide) (by decide)
    obtain ⟨ar, g175⟩ : ∃ z, z = T9.heap.size := ⟨_, rfl⟩
    rw [← g175] at A175 st175
    have g_ar : n0 ≤ ar := Nat.le_trans Zc9 (Nat.le_of_eq g175.symm)
    have ne_bs1_ar : bs1 ≠ ar := Nat.ne_of_lt (Nat.lt_of_lt_of_le Es1_x11.lt (Nat.le_of_eq g175.symm))
    have ne_ts1_ar : ts1 ≠ ar := Nat.ne_of_lt (Nat.lt_of_lt_of_le Vt1_x14.lt (Nat.le_of_eq g175.symm))
    have ne_bs3_ar : bs3 ≠ ar := Nat.ne_of_lt (Nat.lt_of_lt_of_le Es3_x15.lt (Nat.le_of_eq g175.symm))
    have ne_ts3_ar : ts3 ≠ ar := Nat.ne_of_lt (Nat.lt_of_lt_of_le Vt3_x18.lt (Nat.le_of_eq g175.symm))
    have ne_bs9_ar : bs9 ≠ ar := Nat.ne_of_lt (Nat.lt_of_lt_of_le Es9.lt (Nat.le_of_eq g175.symm))
    have ne_ts9_ar : ts9 ≠ ar := Nat.ne_of_lt (Nat.lt_of_lt_of_le Vt9.lt (Nat.le_of_eq g175.symm))
    have Hc176 := CHv.ext E175 CRc9.1
    have CR176 := CR9.trans (CHr.ext E175 CRc9.1)
    have hk176 := Nat.le_trans hk9 E175.1
    have O__x177 := O__x10.ext E175
    have Es1_x178 := Es1_x11.ext E175
    have Fc1_x179 := Fc1_x12.ext E175
    have Fv1_x180 := Fv1_x13.ext E175
    have Vt1_x181 := Vt1_x14.ext E175
    have Es3_x182 := Es3_x15.ext E175
    have Fc3_x183 := Fc3_x16.ext E175
    have Fv3_x184 := Fv3_x17.ext E175
    have Vt3_x185 := Vt3_x18.ext E175
    have Es9_x186 := Es9.ext E175
    have Fc9_x187 := Fc9.ext E175
    have Fv9_x188 := Fv9.ext E175
    have Vt9_x189 := Vt9.ext E175
    have ZE175 : n0 ≤ h175.size := Nat.le_trans Zc9 E175.1
    have V_ar : Arv Z h175 ar k175 (.object "java/lang/String") (3 : Int32) [.null, .null, .null] .null := (Arv.new A175 (by decide)).pad (pad_rep [] .null 3)
    refine own_st st175 ?_
    show own_Go p.tables e below _ (T175.setTop (mkF m 28 #[.val (.int count), .val (.int xa), .val (.int xb), .val (.int xc), .val (.int (3 : Int32)), .val (.ref bs1), .val (.ref bs3), .val (.ref bs9), .unset, .unset] [(.ref ar)]))
    refine own_st (fun _ k' => XS.astore X175.here hx rfl (hb hby at_28) rfl rfl (l' := #[.val (.int count), .val (.int xa), .val (.int xb), .val (.int xc), .val (.int (3 : Int32)), .val (.ref bs1), .val (.ref bs3), .val (.ref bs9), .val (.ref ar), .unset]) rfl k') ?_
    show own_Go p.tables e below _ (T175.setTop (mkF m 30 #[.val (.int count), .val (.int xa), .val (.int xb), .val (.int xc), .val (.int (3 : Int32)), .val (.ref bs1), .val (.ref bs3), .val (.ref bs9), .val (.ref ar), .unset] []))
    refine own_st (fun _ k' => XS.iload X175.here hx rfl (hb hby at_30) rfl k') ?_
    show own_Go p.tables e below _ (T175.setTop (mkF m 32 #[.val (.int count), .val (.int xa), .val (.int xb), .val (.int xc), .val (.int (3 : Int32)), .val (.ref bs1), .val (.ref bs3), .val (.ref bs9), .val (.ref ar), .unset] [(.int (3 : Int32))]))
    refine own_st (fun _ k' => XS.iconst X175.here hx rfl (hb hby at_32) k') ?_
    show own_Go p.tables e below _ (T175.setTop (mkF m 33 #[.val (.int count), .val (.int xa), .val (.int xb), .val (.int xc), .val (.int (3 : Int32)), .val (.ref bs1), .val (.ref bs3), .val (.ref bs9), .val (.ref ar), .unset] [(.int (1 : Int32)), (.int (3 : Int32))]))
    refine own_st (fun _ k' => XS.icmpNo X175.here hx rfl (hb hby at_33) rfl (flt (by decide : ¬ (3 : Int32) < (1 : Int32))).1 k') ?_
    show own_Go p.tables e below _ (T175.setTop (mkF m 36 #[.val (.int count), .val (.int xa), .val (.int xb), .val (.int xc), .val (.int (3 : Int32)), .val (.ref bs1), .val (.ref bs3), .val (.ref bs9), .val (.ref ar), .unset] []))
    refine own_st (fun _ k' => XS.aload X175.here hx rfl (hb hby at_36) rfl rfl k') ?_
    show own_Go p.tables e below _ (T175.setTop (mkF m 38 #[.val (.int count), .val (.int xa), .val (.int xb), .val (.int xc), .val (.int (3 : Int32)), .val (.ref bs1), .val (.ref bs3), .val (.ref bs9), .val (.ref ar), .unset] [(.ref ar)]))
    refine own_st (fun _ k' => XS.iconst X175.here hx rfl (hb hby at_38) k') ?_
    show own_Go p.tables e below _ (T175.setTop (mkF m 39 #[.val (.int count), .val (.int xa), .val (.int xb), .val (.int xc), .val (.int (3 : Int32)), .val (.ref bs1), .val (.ref bs3), .val (.ref bs9), .val (.ref ar), .unset] [(.int (0 : Int32)), (.ref ar)]))
    refine own_st (fun _ k' => XS.aload X175.here hx rfl (hb hby at_39) rfl rfl k') ?_
    show own_Go p.tables e below _ (T175.setTop (mkF m 41 #[.val (.int count), .val (.int xa), .val (.int xb), .val (.int xc), .val (.int (3 : Int32)), .val (.ref bs1), .val (.ref bs3), .val (.ref bs9), .val (.ref ar), .unset] [(.ref bs1), (.int (0 : Int32)), (.ref ar)]))
    obtain ⟨cl190, Ar190, qc190, Sz190, Nn190, Hs190, Gs190⟩ := id V_ar
    have hin190 : ¬ ((0 : Int32) < 0 ∨ cl190.slots.size ≤ ((0 : Int32)).toNatClampNeg) := inb_of Sz190 ⟨by decide, by decide⟩
    obtain ⟨T191, h191, X191, e191, W191, st191⟩ := stR X175 hx hZ e175 Ar190 (j := (0 : Int32)) hin190 rfl (Sto.ofV Ar190 qc190 O175 (Ins.self Es1_x178)) (g := (mkF m 41 #[.val (.int count), .val (.int xa), .val (.int xb), .val (.int xc), .val (.int (3 : Int32)), .val (.ref bs1), .val (.ref bs3), .val (.ref bs9), .val (.ref ar), .unset] [(.ref bs1), (.int (0 : Int32)), (.ref ar)])) rfl rfl (hb hby at_41)
    have N191 := Fr.snoc X191 N9 g_ar
    have Vn191 := Arv.set Ar190 qc190 Sz190 Nn190 Hs190 Gs190 rfl W191 0 rfl (Nat.le_of_ble_eq_true rfl)
    have Hc192 := CHv.wr W191 (Safe.arr hZ.alike Ar190 (by decide)) Hc176
    have CR192 := CR176.trans (CHr.wr W191 (Safe.arr hZ.alike Ar190 (by decide)) Hc176)
    have hk192 := Nat.le_trans hk176 (Keep.of_wr W191).1
    have O__x193 := O__x177.wr W191 g_ar
    have Es1_x194 := Es1_x178.wr W191
    have Fc1_x195 := Fc1_x179.other W191 (Or.inl ne_bs1_ar)
    have Fv1_x196 := Fv1_x180.other W191 (Or.inl ne_bs1_ar)
    have Vt1_x197 := Vt1_x181.other W191 ne_ts1_ar
    have Es3_x198 := Es3_x182.wr W191
    have Fc3_x199 := Fc3_x183.other W191 (Or.inl ne_bs3_ar)
    have Fv3_x200 := Fv3_x184.other W191 (Or.inl ne_bs3_ar)
    have Vt3_x201 := Vt3_x185.other W191 ne_ts3_ar
    have Es9_x202 := Es9_x186.wr W191
    have Fc9_x203 := Fc9_x187.other W191 (Or.inl ne_bs9_ar)
    have Fv9_x204 := Fv9_x188.other W191 (Or.inl ne_bs9_ar)
    have Vt9_x205 := Vt9_x189.other W191 ne_ts9_ar
    have ZVW191 : n0 ≤ h191.size := Nat.le_trans ZE175 (Keep.of_wr W191).1
    refine own_st st191 ?_
    show own_Go p.tables e below _ (T191.setTop (mkF m 42 #[.val (.int count), .val (.int xa), .val (.int xb), .val (.int xc), .val (.int (3 : Int32)), .val (.ref bs1), .val (.ref bs3), .val (.ref bs9), .val (.ref ar), .unset] []))
    refine own_st (fun _ k' => XS.iload X191.here hx rfl (hb hby at_42) rfl k') ?_
    show own_Go p.tables e below _ (T191.setTop (mkF m 44 #[.val (.int count), .val (.int xa), .val (.int xb), .val (.int xc), .val (.int (3 : Int32)), .val (.ref bs1), .val (.ref bs3), .val (.ref bs9), .val (.ref ar), .unset] [(.int (3 : Int32))]))
    refine own_st (fun _ k' => XS.iconst X191.here hx rfl (hb hby at_44) k') ?_
    show own_Go p.tables e below _ (T191.setTop (mkF m 45 #[.val (.int count), .val (.int xa), .val (.int xb), .val (.int xc), .val (.int (3 : Int32)), .val (.ref bs1), .val (.ref bs3), .val (.ref bs9), .val (.ref ar), .unset] [(.int (2 : Int32)), (.int (3 : Int32))]))
    refine own_st (fun _ k' => XS.icmpNo X191.here hx rfl (hb hby at_45) rfl (flt (by decide : ¬ (3 : Int32) < (2 : Int32))).1 k') ?_
    show own_Go p.tables e below _ (T191.setTop (mkF m 48 #[.val (.int count), .val (.int xa), .val (.int xb), .val (.int xc), .val (.int (3 : Int32)), .val (.ref bs1), .val (.ref bs3), .val (.ref bs9), .val (.ref ar), .unset] []))
    refine own_st (fun _ k' => XS.aload X191.here hx rfl (hb hby at_48) rfl rfl k') ?_
    show own_Go p.tables e below _ (T191.setTop (mkF m 50 #[.val (.int count), .val (.int xa), .val (.int xb), .val (.int xc), .val (.int (3 : Int32)), .val (.ref bs1), .val (.ref bs3), .val (.ref bs9), .val (.ref ar), .unset] [(.ref ar)]))
    refine own_st (fun _ k' => XS.iconst X191.here hx rfl (hb hby at_50) k') ?_
    show own_Go p.tables e below _ (T191.setTop (mkF m 51 #[.val (.int count), .val (.int xa), .val (.int xb), .val (.int xc), .val (.int (3 : Int32)), .val (.ref bs1), .val (.ref bs3), .val (.ref bs9), .val (.ref ar), .unset] [(.int (1 : Int32)), (.ref ar)]))
    refine own_st (fun _ k' => XS.aload X191.here hx rfl (hb hby at_51) rfl rfl k') ?_
    show own_Go p.tables e below _ (T191.setTop (mkF m 53 #[.val (.int count), .val (.int xa), .val (.int xb), .val (.int xc), .val (.int (3 : Int32)), .val (.ref bs1), .val (.ref bs3), .val (.ref bs9), .val (.ref ar), .unset] [(.ref bs3), (.int (1 : Int32)), (.ref ar)]))
    obtain ⟨cl207, Ar207, qc207, Sz207, Nn207, Hs207, Gs207⟩ := id Vn191
    have hin207 : ¬ ((1 : Int32) < 0 ∨ cl207.slots.size ≤ ((1 : Int32)).toNatClampNeg) := inb_of Sz207 ⟨by decide, by decide⟩
    obtain ⟨T208, h208, X208, e208, W208, st208⟩ := stR X191 hx hZ e191 Ar207 (j := (1 : Int32)) hin207 rfl (Sto.ofV Ar207 qc207 O175 (Ins.self Es3_x198)) (g := (mkF m 53 #[.val (.int count), .val (.int xa), .val (.int xb), .val (.int xc), .val (.int (3 : Int32)), .val (.ref bs1), .val (.ref bs3), .val (.ref bs9), .val (.ref ar), .unset] [(.ref bs3), (.int (1 : Int32)), (.ref ar)])) rfl rfl (hb hby at_53)
    have N208 := Fr.snoc X208 N191 g_ar
    have Vn208 := Arv.set Ar207 qc207 Sz207 Nn207 Hs207 Gs207 rfl W208 1 rfl (Nat.le_of_ble_eq_true rfl)
    have Hc209 := CHv.wr W208 (Safe.arr hZ.alike Ar207 (by decide)) Hc192
    have CR209 := CR192.trans (CHr.wr W208 (Safe.arr hZ.alike Ar207 (by decide)) Hc192)
    have hk209 := Nat.le_trans hk192 (Keep.of_wr W208).1
    have O__x210 := O__x193.wr W208 g_ar
    have Es1_x211 := Es1_x194.wr W208
    have Fc1_x212 := Fc1_x195.other W208 (Or.inl ne_bs1_ar)
    have Fv1_x213 := Fv1_x196.other W208 (Or.inl ne_bs1_ar)
    have Vt1_x214 := Vt1_x197.other W208 ne_ts1_ar
    have Es3_x215 := Es3_x198.wr W208
    have Fc3_x216 := Fc3_x199.other W208 (Or.inl ne_bs3_ar)
    have Fv3_x217 := Fv3_x200.other W208 (Or.inl ne_bs3_ar)
    have Vt3_x218 := Vt3_x201.other W208 ne_ts3_ar
    have Es9_x219 := Es9_x202.wr W208
    have Fc9_x220 := Fc9_x203.other W208 (Or.inl ne_bs9_ar)
    have Fv9_x221 := Fv9_x204.other W208 (Or.inl ne_bs9_ar)
    have Vt9_x222 := Vt9_x205.other W208 ne_ts9_ar
    have ZVW208 : n0 ≤ h208.size := Nat.le_trans ZVW191 (Keep.of_wr W208).1
    refine own_st st208 ?_
    show own_Go p.tables e below _ (T208.setTop (mkF m 54 #[.val (.int count), .val (.int xa), .val (.int xb), .val (.int xc), .val (.int (3 : Int32)), .val (.ref bs1), .val (.ref bs3), .val (.ref bs9), .val (.ref ar), .unset] []))
    refine own_st (fun _ k' => XS.iload X208.here hx rfl (hb hby at_54) rfl k') ?_
    show own_Go p.tables e below _ (T208.setTop (mkF m 56 #[.val (.int count), .val (.int xa), .val (.int xb), .val (.int xc), .val (.int (3 : Int32)), .val (.ref bs1), .val (.ref bs3), .val (.ref bs9), .val (.ref ar), .unset] [(.int (3 : Int32))]))
    refine own_st (fun _ k' => XS.iconst X208.here hx rfl (hb hby at_56) k') ?_
    show own_Go p.tables e below _ (T208.setTop (mkF m 57 #[.val (.int count), .val (.int xa), .val (.int xb), .val (.int xc), .val (.int (3 : Int32)), .val (.ref bs1), .val (.ref bs3), .val (.ref bs9), .val (.ref ar), .unset] [(.int (3 : Int32)), (.int (3 : Int32))]))
    refine own_st (fun _ k' => XS.icmpNo X208.here hx rfl (hb hby at_57) rfl (flt (by decide : ¬ (3 : Int32) < (3 : Int32))).1 k') ?_
    show own_Go p.tables e below _ (T208.setTop (mkF m 60 #[.val (.int count), .val (.int xa), .val (.int xb), .val (.int xc), .val (.int (3 : Int32)), .val (.ref bs1), .val (.ref bs3), .val (.ref bs9), .val (.ref ar), .unset] []))
    refine own_st (fun _ k' => XS.aload X208.here hx rfl (hb hby at_60) rfl rfl k') ?_
    show own_Go p.tables e below _ (T208.setTop (mkF m 62 #[.val (.int count), .val (.int xa), .val (.int xb), .val (.int xc), .val (.int (3 : Int32)), .val (.ref bs1), .val (.ref bs3), .val (.ref bs9), .val (.ref ar), .unset] [(.ref ar)]))
    refine own_st (fun _ k' => XS.iconst X208.here hx rfl (hb hby at_62) k') ?_
    show own_Go p.tables e below _ (T208.setTop (mkF m 63 #[.val (.int count), .val (.int xa), .val (.int xb), .val (.int xc), .val (.int (3 : Int32)), .val (.ref bs1), .val (.ref bs3), .val (.ref bs9), .val (.ref ar), .unset] [(.int (2 : Int32)), (.ref ar)]))
    refine own_st (fun _ k' => XS.aload X208.here hx rfl (hb hby at_63) rfl rfl k') ?_
    show own_Go p.tables e below _ (T208.setTop (mkF m 65 #[.val (.int count), .val (.int xa), .val (.int xb), .val (.int xc), .val (.int (3 : Int32)), .val (.ref bs1), .val (.ref bs3), .val (.ref bs9), .val (.ref ar), .unset] [(.ref bs9), (.int (2 : Int32)), (.ref ar)]))
    obtain ⟨cl224, Ar224, qc224, Sz224, Nn224, Hs224, Gs224⟩ := id Vn208
    have hin224 : ¬ ((2 : Int32) < 0 ∨ cl224.slots.size ≤ ((2 : Int32)).toNatClampNeg) := inb_of Sz224 ⟨by decide, by decide⟩
    obtain ⟨T225, h225, X225, e225, W225, st225⟩ := stR X208 hx hZ e208 Ar224 (j := (2 : Int32)) hin224 rfl (Sto.ofV Ar224 qc224 O175 (Ins.self Es9_x219)) (g := (mkF m 65 #[.val (.int count), .val (.int xa), .val (.int xb), .val (.int xc), .val (.int (3 : Int32)), .val (.ref bs1), .val (.ref bs3), .val (.ref bs9), .val (.ref ar), .unset] [(.ref bs9), (.int (2 : Int32)), (.ref ar)])) rfl rfl (hb hby at_65)
    have N225 := Fr.snoc X225 N208 g_ar
    have Vn225 := Arv.set Ar224 qc224 Sz224 Nn224 Hs224 Gs224 rfl W225 2 rfl (Nat.le_of_ble_eq_true rfl)
    have Hc226 := CHv.wr W225 (Safe.arr hZ.alike Ar224 (by decide)) Hc209
    have CR226 := CR209.trans (CHr.wr W225 (Safe.arr hZ.alike Ar224 (by decide)) Hc209)
    have hk226 := Nat.le_trans hk209 (Keep.of_wr W225).1
    have O__x227 := O__x210.wr W225 g_ar
    have Es1_x228 := Es1_x211.wr W225
    have Fc1_x229 := Fc1_x212.other W225 (Or.inl ne_bs1_ar)
    have Fv1_x230 := Fv1_x213.other W225 (Or.inl ne_bs1_ar)
    have Vt1_x231 := Vt1_x214.other W225 ne_ts1_ar
    have Es3_x232 := Es3_x215.wr W225
    have Fc3_x233 := Fc3_x216.other W225 (Or.inl ne_bs3_ar)
    have Fv3_x234 := Fv3_x217.other W225 (Or.inl ne_bs3_ar)
    have Vt3_x235 := Vt3_x218.other W225 ne_ts3_ar
    have Es9_x236 := Es9_x219.wr W225
    have Fc9_x237 := Fc9_x220.other W225 (Or.inl ne_bs9_ar)
    have Fv9_x238 := Fv9_x221.other W225 (Or.inl ne_bs9_ar)
    have Vt9_x239 := Vt9_x222.other W225 ne_ts9_ar
    have ZVW225 : n0 ≤ h225.size := Nat.le_trans ZVW208 (Keep.of_wr W225).1
    refine own_st st225 ?_
    show own_Go p.tables e below _ (T225.setTop (mkF m 66 #[.val (.int count), .val (.int xa), .val (.int xb), .val (.int xc), .val (.int (3 : Int32)), .val (.ref bs1), .val (.ref bs3), .val (.ref bs9), .val (.ref ar), .unset] []))
    refine own_st (fun _ k' => XS.iload X225.here hx rfl (hb hby at_66) rfl k') ?_
    show own_Go p.tables e below _ (T225.setTop (mkF m 68 #[.val (.int count), .val (.int xa), .val (.int xb), .val (.int xc), .val (.int (3 : Int32)), .val (.ref bs1), .val (.ref bs3), .val (.ref bs9), .val (.ref ar), .unset] [(.int (3 : Int32))]))
    refine own_st (fun _ k' => XS.iconst X225.here hx rfl (hb hby at_68) k') ?_
    show own_Go p.tables e below _ (T225.setTop (mkF m 69 #[.val (.int count), .val (.int xa), .val (.int xb), .val (.int xc), .val (.int (3 : Int32)), .val (.ref bs1), .val (.ref bs3), .val (.ref bs9), .val (.ref ar), .unset] [(.int (1 : Int32)), (.int (3 : Int32))]))
    refine own_st (fun _ k' => XS.icmpNo X225.here hx rfl (hb hby at_69) rfl (flt (by decide : ¬ (3 : Int32) < (1 : Int32))).1 k') ?_
    show own_Go p.tables e below _ (T225.setTop (mkF m 72 #[.val (.int count), .val (.int xa), .val (.int xb), .val (.int xc), .val (.int (3 : Int32)), .val (.ref bs1), .val (.ref bs3), .val (.ref bs9), .val (.ref ar), .unset] []))
    refine own_st (fun _ k' => XS.iloadN X225.here hx rfl (hb hby at_72) rfl k') ?_
    show own_Go p.tables e below _ (T225.setTop (mkF m 73 #[.val (.int count), .val (.int xa), .val (.int xb), .val (.int xc), .val (.int (3 : Int32)), .val (.ref bs1), .val (.ref bs3), .val (.ref bs9), .val (.ref ar), .unset] [(.int xa)]))
    obtain ⟨_, _, ⟨T241, L241, k241, n241⟩, -, X241', h2241, gr241, ⟨Lc241, hQ241, l241, y241, z241, CRc241⟩, st241⟩ := callSS X225 hx (y := (⟨"com/example/frozen_thread/frozenthread/cli/FormReporterAsksForJsonPinLaw", "isJson", "(I)Z"⟩ : MethodName)) hown (mvT hZ (hw _ (List.mem_of_getElem? (i := 39) rfl))) (mvT hZ (hw _ (List.mem_of_getElem? (i := 40) rfl))) (mvT hZ (hw _ (List.mem_of_getElem? (i := 2) rfl))) (mvT hZ (hw _ (List.mem_of_getElem? (i := 41) rfl))) (by decide) (backOfSH (W := 0) (rmIs l Z a0 hw [] xa G1 G3 h225 n0 ZVW225 hEL O2 O4 P5 rG3 O__x227) hZ (hw _ (List.mem_of_getElem? (i := 41) rfl)) (hw _ (List.mem_of_getElem? (i := 2) rfl)) (by decide) (by decide) hEL Hc226) (g := (mkF m 73 #[.val (.int count), .val (.int xa), .val (.int xb), .val (.int xc), .val (.int (3 : Int32)), .val (.ref bs1), .val (.ref bs3), .val (.ref bs9), .val (.ref ar), .unset] [(.int xa)])) rfl (by rw [hml]; rfl) (argsL := [(.int xa)]) (rest := []) (lenOf pd__I_Z rfl) rfl (by show 2 * 0 + _ ≤ _; exact Nat.le_of_eq rfl) (hb hby at_73) (fun _ _ => ⟨rfl, e225, (by decide : 22 + 2 ≤ _), (by decide : 75 + 28 ≤ _)⟩)
    dsimp only [Pt.U, Pt.locs, Pt.cells, Pt.slots] at X241' h2241 gr241 l241 y241 z241 st241 hQ241 CRc241
    subst l241 y241 z241
    obtain ⟨X241, hS241, hZ, hown⟩ := rebS hS9 (by rw [e225]; exact hk226) X241' h2241 gr241 hZ hown
    have CR241 := CR226.trans CRc241
    have hk241 : T241.heap.size ≤ T241.heap.size := Nat.le_refl _
    obtain ⟨rfl, Nq241, Kc241⟩ := hQ241
    have N241 := Fr.app N225 Nq241
    have O__x242 := O__x227.keep Kc241 all0
    have Es1_x243 := Es1_x228.keep Kc241
    have Fc1_x244 := Fc1_x229.keep Kc241 nin0
    have Fv1_x245 := Fv1_x230.keep Kc241 nin0
    have Vt1_x246 := Vt1_x231.keep Kc241 nin0
    have Es3_x247 := Es3_x232.keep Kc241
    have Fc3_x248 := Fc3_x233.keep Kc241 nin0
    have Fv3_x249 := Fv3_x234.keep Kc241 nin0
    have Vt3_x250 := Vt3_x235.keep Kc241 nin0
    have Es9_x251 := Es9_x236.keep Kc241
    have Fc9_x252 := Fc9_x237.keep Kc241 nin0
    have Fv9_x253 := Fv9_x238.keep Kc241 nin0
    have Vt9_x254 := Vt9_x239.keep Kc241 nin0
    have Vn225_x255 := Vn225.keep Kc241 nin0
    have Zc241 : n0 ≤ T241.heap.size := Nat.le_trans ZVW225 Kc241.1
    refine own_tr st241 ?_
    show own_Go p.tables e below _ (T241.setTop (mkF m 76 #[.val (.int count), .val (.int xa), .val (.int xb), .val (.int xc), .val (.int (3 : Int32)), .val (.ref bs1), .val (.ref bs3), .val (.ref bs9), .val (.ref ar), .unset] [(.int (own_isj xa))]))
    by_cases hc256 : (own_isj xa) = (0 : Int32)
    ·  -- pc 76, (own_isj xa) = (0 : Int32)
      refine own_st (fun _ k' => XS.ifNo X241.here hx rfl (hb hby at_76) rfl ((if0 _ _).trans (teq hc256).2) k') ?_
      show own_Go p.tables e below _ (T241.setTop (mkF m 79 #[.val (.int count), .val (.int xa), .val (.int xb), .val (.int xc), .val (.int (3 : Int32)), .val (.ref bs1), .val (.ref bs3), .val (.ref bs9), .val (.ref ar), .unset] []))
      refine own_st (fun _ k' => XS.iload X241.here hx rfl (hb hby at_79) rfl k') ?_
      show own_Go p.tables e below _ (T241.setTop (mkF m 81 #[.val (.int count), .val (.int xa), .val (.int xb), .val (.int xc), .val (.int (3 : Int32)), .val (.ref bs1), .val (.ref bs3), .val (.ref bs9), .val (.ref ar), .unset] [(.int (3 : Int32))]))
      refine own_st (fun _ k' => XS.iconst X241.here hx rfl (hb hby at_81) k') ?_
      show own_Go p.tables e below _ (T241.setTop (mkF m 82 #[.val (.int count), .val (.int xa), .val (.int xb), .val (.int xc), .val (.int (3 : Int32)), .val (.ref bs1), .val (.ref bs3), .val (.ref bs9), .val (.ref ar), .unset] [(.int (2 : Int32)), (.int (3 : Int32))]))
      refine own_st (fun _ k' => XS.icmpNo X241.here hx rfl (hb hby at_82) rfl (flt (by decide : ¬ (3 : Int32) < (2 : Int32))).1 k') ?_
      show own_Go p.tables e below _ (T241.setTop (mkF m 85 #[.val (.int count), .val (.int xa), .val (.int xb), .val (.int xc), .val (.int (3 : Int32)), .val (.ref bs1), .val (.ref bs3), .val (.ref bs9), .val (.ref ar), .unset] []))
      refine own_st (fun _ k' => XS.iloadN X241.here hx rfl (hb hby at_85) rfl k') ?_
      show own_Go p.tables e below _ (T241.setTop (mkF m 86 #[.val (.int count), .val (.int xa), .val (.int xb), .val (.int xc), .val (.int (3 : Int32)), .val (.ref bs1), .val (.ref bs3), .val (.ref bs9), .val (.ref ar), .unset] [(.int xb)]))
      obtain ⟨_, _, ⟨T257, L257, k257, n257⟩, -, X257', h2257, gr257, ⟨Lc257, hQ257, l257, y257, z257, CRc257⟩, st257⟩ := callSS X241 hx (y := (⟨"com/example/frozen_thread/frozenthread/cli/FormReporterAsksForJsonPinLaw", "isJson", "(I)Z"⟩ : MethodName)) hown (mvT hZ (hw _ (List.mem_of_getElem? (i := 39) rfl))) (mvT hZ (hw _ (List.mem_of_getElem? (i := 40) rfl))) (mvT hZ (hw _ (List.mem_of_getElem? (i := 2) rfl))) (mvT hZ (hw _ (List.mem_of_getElem? (i := 41) rfl))) (by decide) (backOfSH (W := 0) (rmIs l Z a0 hw [] xb G1 G3 T241.heap n0 Zc241 hEL O2 O4 P5 rG3 O__x242) hZ (hw _ (List.mem_of_getElem? (i := 41) rfl)) (hw _ (List.mem_of_getElem? (i := 2) rfl)) (by decide) (by decide) hEL CRc241.1) (g := (mkF m 86 #[.val (.int count), .val (.int xa), .val (.int xb), .val (.int xc), .val (.int (3 : Int32)), .val (.ref bs1), .val (.ref bs3), .val (.ref bs9), .val (.ref ar), .unset] [(.int xb)])) rfl (by rw [hml]; rfl) (argsL := [(.int xb)]) (rest := []) (lenOf pd__I_Z rfl) rfl (by show 2 * 0 + _ ≤ _; exact Nat.le_of_eq rfl) (hb hby at_86) (fun _ _ => ⟨rfl, rfl, (by decide : 24 + 2 ≤ _), (by decide : 103 + 28 ≤ _)⟩)
      dsimp only [Pt.U, Pt.locs, Pt.cells, Pt.slots] at X257' h2257 gr257 l257 y257 z257 st257 hQ257 CRc257
      subst l257 y257 z257
      obtain ⟨X257, hS257, hZ, hown⟩ := rebS hS241 (by exact hk241) X257' h2257 gr257 hZ hown
      have CR257 := CR241.trans CRc257
      have hk257 : T257.heap.size ≤ T257.heap.size := Nat.le_refl _
      obtain ⟨rfl, Nq257, Kc257⟩ := hQ257
      have N257 := Fr.app N241 Nq257
      have O__x258 := O__x242.keep Kc257 all0
      have Es1_x259 := Es1_x243.keep Kc257
      have Fc1_x260 := Fc1_x244.keep Kc257 nin0
      have Fv1_x261 := Fv1_x245.keep Kc257 nin0
      have Vt1_x262 := Vt1_x246.keep Kc257 nin0
      have Es3_x263 := Es3_x247.keep Kc257
      have Fc3_x264 := Fc3_x248.keep Kc257 nin0
      have Fv3_x265 := Fv3_x249.keep Kc257 nin0
      have Vt3_x266 := Vt3_x250.keep Kc257 nin0
      have Es9_x267 := Es9_x251.keep Kc257
      have Fc9_x268 := Fc9_x252.keep Kc257 nin0
      have Fv9_x269 := Fv9_x253.keep Kc257 nin0
      have Vt9_x270 := Vt9_x254.keep Kc257 nin0
      have Vn225_x271 := Vn225_x255.keep Kc257 nin0
      have Zc257 : n0 ≤ T257.heap.size := Nat.le_trans Zc241 Kc257.1
      refine own_tr st257 ?_
      show own_Go p.tables e below _ (T257.setTop (mkF m 89 #[.val (.int count), .val (.int xa), .val (.int xb), .val (.int xc), .val (.int (3 : Int32)), .val (.ref bs1), .val (.ref bs3), .val (.ref bs9), .val (.ref ar), .unset] [(.int (own_isj xb))]))
      by_cases hc272 : (own_isj xb) = (0 : Int32)
      ·  -- pc 89, (own_isj xb) = (0 : Int32)
        refine own_st (fun _ k' => XS.ifNo X257.here hx rfl (hb hby at_89) rfl ((if0 _ _).trans (teq hc272).2) k') ?_
        show own_Go p.tables e below _ (T257.setTop (mkF m 92 #[.val (.int count), .val (.int xa), .val (.int xb), .val (.int xc), .val (.int (3 : Int32)), .val (.ref bs1), .val (.ref bs3), .val (.ref bs9), .val (.ref ar), .unset] []))
        refine own_st (fun _ k' => XS.iload X257.here hx rfl (hb hby at_92) rfl k') ?_
        show own_Go p.tables e below _ (T257.setTop (mkF m 94 #[.val (.int count), .val (.int xa), .val (.int xb), .val (.int xc), .val (.int (3 : Int32)), .val (.ref bs1), .val (.ref bs3), .val (.ref bs9), .val (.ref ar), .unset] [(.int (3 : Int32))]))
        refine own_st (fun _ k' => XS.iconst X257.here hx rfl (hb hby at_94) k') ?_
        show own_Go p.tables e below _ (T257.setTop (mkF m 95 #[.val (.int count), .val (.int xa), .val (.int xb), .val (.int xc), .val (.int (3 : Int32)), .val (.ref bs1), .val (.ref bs3), .val (.ref bs9), .val (.ref ar), .unset] [(.int (3 : Int32)), (.int (3 : Int32))]))
        refine own_st (fun _ k' => XS.icmpNo X257.here hx rfl (hb hby at_95) rfl (flt (by decide : ¬ (3 : Int32) < (3 : Int32))).1 k') ?_
        show own_Go p.tables e below _ (T257.setTop (mkF m 98 #[.val (.int count), .val (.int xa), .val (.int xb), .val (.int xc), .val (.int (3 : Int32)), .val (.ref bs1), .val (.ref bs3), .val (.ref bs9), .val (.ref ar), .unset] []))
        refine own_st (fun _ k' => XS.iloadN X257.here hx rfl (hb hby at_98) rfl k') ?_
        show own_Go p.tables e below _ (T257.setTop (mkF m 99 #[.val (.int count), .val (.int xa), .val (.int xb), .val (.int xc), .val (.int (3 : Int32)), .val (.ref bs1), .val (.ref bs3), .val (.ref bs9), .val (.ref ar), .unset] [(.int xc)]))
        obtain ⟨_, _, ⟨T273, L273, k273, n273⟩, -, X273', h2273, gr273, ⟨Lc273, hQ273, l273, y273, z273, CRc273⟩, st273⟩ := callSS X257 hx (y := (⟨"com/example/frozen_thread/frozenthread/cli/FormReporterAsksForJsonPinLaw", "isJson", "(I)Z"⟩ : MethodName)) hown (mvT hZ (hw _ (List.mem_of_getElem? (i := 39) rfl))) (mvT hZ (hw _ (List.mem_of_getElem? (i := 40) rfl))) (mvT hZ (hw _ (List.mem_of_getElem? (i := 2) rfl))) (mvT hZ (hw _ (List.mem_of_getElem? (i := 41) rfl))) (by decide) (backOfSH (W := 0) (rmIs l Z a0 hw [] xc G1 G3 T257.heap n0 Zc257 hEL O2 O4 P5 rG3 O__x258) hZ (hw _ (List.mem_of_getElem? (i := 41) rfl)) (hw _ (List.mem_of_getElem? (i := 2) rfl)) (by decide) (by decide) hEL CRc257.1) (g := (mkF m 99 #[.val (.int count), .val (.int xa), .val (.int xb), .val (.int xc), .val (.int (3 : Int32)), .val (.ref bs1), .val (.ref bs3), .val (.ref bs9), .val (.ref ar), .unset] [(.int xc)])) rfl (by rw [hml]; rfl) (argsL := [(.int xc)]) (rest := []) (lenOf pd__I_Z rfl) rfl (by show 2 * 0 + _ ≤ _; exact Nat.le_of_eq rfl) (hb hby at_99) (fun _ _ => ⟨rfl, rfl, (by decide : 26 + 2 ≤ _), (by decide : 131 + 28 ≤ _)⟩)
        dsimp only [Pt.U, Pt.locs, Pt.cells, Pt.slots] at X273' h2273 gr273 l273 y273 z273 st273 hQ273 CRc273
        subst l273 y273 z273
        obtain ⟨X273, hS273, hZ, hown⟩ := rebS hS257 (by exact hk257) X273' h2273 gr273 hZ hown
        have CR273 := CR257.trans CRc273
        have hk273 : T273.heap.size ≤ T273.heap.size := Nat.le_refl _
        obtain ⟨rfl, Nq273, Kc273⟩ := hQ273
        have N273 := Fr.app N257 Nq273
        have O__x274 := O__x258.keep Kc273 all0
        have Es1_x275 := Es1_x259.keep Kc273
        have Fc1_x276 := Fc1_x260.keep Kc273 nin0
        have Fv1_x277 := Fv1_x261.keep Kc273 nin0
        have Vt1_x278 := Vt1_x262.keep Kc273 nin0
        have Es3_x279 := Es3_x263.keep Kc273
        have Fc3_x280 := Fc3_x264.keep Kc273 nin0
        have Fv3_x281 := Fv3_x265.keep Kc273 nin0
        have Vt3_x282 := Vt3_x266.keep Kc273 nin0
        have Es9_x283 := Es9_x267.keep Kc273
        have Fc9_x284 := Fc9_x268.keep Kc273 nin0
        have Fv9_x285 := Fv9_x269.keep Kc273 nin0
        have Vt9_x286 := Vt9_x270.keep Kc273 nin0
        have Vn225_x287 := Vn225_x271.keep Kc273 nin0
        have Zc273 : n0 ≤ T273.heap.size := Nat.le_trans Zc257 Kc273.1
        refine own_tr st273 ?_
        show own_Go p.tables e below _ (T273.setTop (mkF m 102 #[.val (.int count), .val (.int xa), .val (.int xb), .val (.int xc), .val (.int (3 : Int32)), .val (.ref bs1), .val (.ref bs3), .val (.ref bs9), .val (.ref ar), .unset] [(.int (own_isj xc))]))
        by_cases hc288 : (own_isj xc) = (0 : Int32)
        ·  -- pc 102, (own_isj xc) = (0 : Int32)
          refine own_st (fun _ k' => XS.ifYes X273.here hx rfl (pc0 := 102) (pc' := 109) rfl (hb hby at_102) rfl ((if0 _ _).trans (teq hc288).1) (by decide) (by decide) k') ?_
          show own_Go p.tables e below _ (T273.setTop (mkF m 109 #[.val (.int count), .val (.int xa), .val (.int xb), .val (.int xc), .val (.int (3 : Int32)), .val (.ref bs1), .val (.ref bs3), .val (.ref bs9), .val (.ref ar), .unset] []))
          refine own_st (fun _ k' => XS.iconst X273.here hx rfl (hb hby at_109) k') ?_
          show own_Go p.tables e below _ (T273.setTop (mkF m 110 #[.val (.int count), .val (.int xa), .val (.int xb), .val (.int xc), .val (.int (3 : Int32)), .val (.ref bs1), .val (.ref bs3), .val (.ref bs9), .val (.ref ar), .unset] [(.int (0 : Int32))]))
          refine own_st (fun _ k' => XS.istore X273.here hx rfl (hb hby at_110) rfl (l' := #[.val (.int count), .val (.int xa), .val (.int xb), .val (.int xc), .val (.int (3 : Int32)), .val (.ref bs1), .val (.ref bs3), .val (.ref bs9), .val (.ref ar), .val (.int (0 : Int32))]) rfl k') ?_
          show own_Go p.tables e below _ (T273.setTop (mkF m 112 #[.val (.int count), .val (.int xa), .val (.int xb), .val (.int xc), .val (.int (3 : Int32)), .val (.ref bs1), .val (.ref bs3), .val (.ref bs9), .val (.ref ar), .val (.int (0 : Int32))] []))
          refine own_st (fun _ k' => XS.aload X273.here hx rfl (hb hby at_112) rfl rfl k') ?_
          show own_Go p.tables e below _ (T273.setTop (mkF m 114 #[.val (.int count), .val (.int xa), .val (.int xb), .val (.int xc), .val (.int (3 : Int32)), .val (.ref bs1), .val (.ref bs3), .val (.ref bs9), .val (.ref ar), .val (.int (0 : Int32))] [(.ref ar)]))
          obtain ⟨_, _, ⟨T289, L289, k289, n289⟩, -, X289', h2289, gr289, ⟨Lc289, hQ289, l289, y289, z289, CRc289⟩, st289⟩ := callSS X273 hx (y := (⟨"com/example/frozen_thread/frozenthread/cli/FormReporter", "asksForJson", "([Ljava/lang/String;)Z"⟩ : MethodName)) hown (mvT hZ (hw _ (List.mem_of_getElem? (i := 35) rfl))) (mvT hZ (hw _ (List.mem_of_getElem? (i := 36) rfl))) (mvT hZ (hw _ (List.mem_of_getElem? (i := 37) rfl))) (mvT hZ (hw _ (List.mem_of_getElem? (i := 38) rfl))) (by decide) (backOfSH (W := 0) (rmAs3 l Z a0 hw [] ar k175 bs1 ts1 ks1 (own_mk xa) bs3 ts3 ks3 (own_mk xb) bs9 ts9 ks9 (own_mk xc) G1 G3 T273.heap n0 Zc273  Es1_x275 Fc1_x276 Fv1_x277 Vt1_x278 (own_mk_in xa) (own_mk_len xa) Es3_x279 Fc3_x280 Fv3_x281 Vt3_x282 (own_mk_in xb) (own_mk_len xb) Es9_x283 Fc9_x284 Fv9_x285 Vt9_x286 (own_mk_in xc) (own_mk_len xc) Vn225_x287 hEL O2 O4 P5 rG3 O__x274) hZ (hw _ (List.mem_of_getElem? (i := 38) rfl)) (hw _ (List.mem_of_getElem? (i := 37) rfl)) (by decide) (by decide) hEL CRc273.1) (g := (mkF m 114 #[.val (.int count), .val (.int xa), .val (.int xb), .val (.int xc), .val (.int (3 : Int32)), .val (.ref bs1), .val (.ref bs3), .val (.ref bs9), .val (.ref ar), .val (.int (0 : Int32))] [(.ref ar)])) rfl (by rw [hml]; rfl) (argsL := [(.ref ar)]) (rest := []) (lenOf pd___Ljava_lang_String__Z rfl) rfl (by show 2 * 0 + _ ≤ _; exact Nat.le_of_eq rfl) (hb hby at_114) (fun _ _ => ⟨rfl, rfl, (by decide : 28 + 6 ≤ _), (by decide : 159 + 84 ≤ _)⟩)
          dsimp only [Pt.U, Pt.locs, Pt.cells, Pt.slots] at X289' h2289 gr289 l289 y289 z289 st289 hQ289 CRc289
          subst l289 y289 z289
          obtain ⟨X289, hS289, hZ, hown⟩ := rebS hS273 (by exact hk273) X289' h2289 gr289 hZ hown
          have CR289 := CR273.trans CRc289
          have hk289 : T289.heap.size ≤ T289.heap.size := Nat.le_refl _
          obtain ⟨hD289, Nq289, Kc289⟩ := hQ289
          have N289 := Fr.app N273 Nq289
          rcases hD289 with ⟨rfl, hj289⟩ | ⟨rfl, hj289⟩
          ·  -- 1
            refine own_tr st289 ?_
            show own_Go p.tables e below _ (T289.setTop (mkF m 117 #[.val (.int count), .val (.int xa), .val (.int xb), .val (.int xc), .val (.int (3 : Int32)), .val (.ref bs1), .val (.ref bs3), .val (.ref bs9), .val (.ref ar), .val (.int (0 : Int32))] [(.int (1 : Int32))]))
            refine own_st (fun _ k' => XS.iload X289.here hx rfl (hb hby at_117) rfl k') ?_
            show own_Go p.tables e below _ (T289.setTop (mkF m 119 #[.val (.int count), .val (.int xa), .val (.int xb), .val (.int xc), .val (.int (3 : Int32)), .val (.ref bs1), .val (.ref bs3), .val (.ref bs9), .val (.ref ar), .val (.int (0 : Int32))] [(.int (0 : Int32)), (.int (1 : Int32))]))
            exact False.elim (hj289.elim (fun q => absurd (hc256.symm.trans ((own_key xa).1.mp q)) (by decide)) (fun q => q.elim (fun q => absurd (hc272.symm.trans ((own_key xb).1.mp q)) (by decide)) (fun q => absurd (hc288.symm.trans ((own_key xc).1.mp q)) (by decide))))
          ·  -- 0
            refine own_tr st289 ?_
            show own_Go p.tables e below _ (T289.setTop (mkF m 117 #[.val (.int count), .val (.int xa), .val (.int xb), .val (.int xc), .val (.int (3 : Int32)), .val (.ref bs1), .val (.ref bs3), .val (.ref bs9), .val (.ref ar), .val (.int (0 : Int32))] [(.int (0 : Int32))]))
            refine own_st (fun _ k' => XS.iload X289.here hx rfl (hb hby at_117) rfl k') ?_
            show own_Go p.tables e below _ (T289.setTop (mkF m 119 #[.val (.int count), .val (.int xa), .val (.int xb), .val (.int xc), .val (.int (3 : Int32)), .val (.ref bs1), .val (.ref bs3), .val (.ref bs9), .val (.ref ar), .val (.int (0 : Int32))] [(.int (0 : Int32)), (.int (0 : Int32))]))
            refine own_st (fun _ k' => XS.icmpNo X289.here hx rfl (hb hby at_119) rfl (teq (by decide : (0 : Int32) = (0 : Int32))).2 k') ?_
            show own_Go p.tables e below _ (T289.setTop (mkF m 122 #[.val (.int count), .val (.int xa), .val (.int xb), .val (.int xc), .val (.int (3 : Int32)), .val (.ref bs1), .val (.ref bs3), .val (.ref bs9), .val (.ref ar), .val (.int (0 : Int32))] []))
            refine own_st (fun _ k' => XS.iconst X289.here hx rfl (hb hby at_122) k') ?_
            show own_Go p.tables e below _ (T289.setTop (mkF m 123 #[.val (.int count), .val (.int xa), .val (.int xb), .val (.int xc), .val (.int (3 : Int32)), .val (.ref bs1), .val (.ref bs3), .val (.ref bs9), .val (.ref ar), .val (.int (0 : Int32))] [(.int (1 : Int32))]))
            refine own_st (fun _ k' => XS.goto X289.here hx rfl (pc0 := 123) (pc' := 127) rfl (hb hby at_123) (by decide) (by decide) k') ?_
            show own_Go p.tables e below _ (T289.setTop (mkF m 127 #[.val (.int count), .val (.int xa), .val (.int xb), .val (.int xc), .val (.int (3 : Int32)), .val (.ref bs1), .val (.ref bs3), .val (.ref bs9), .val (.ref ar), .val (.int (0 : Int32))] [(.int (1 : Int32))]))
            have cr290 : CHr Z consts_1 s.vm s.heap T289.vm T289.heap := by rw [hh, show T289.heap = T289.heap from rfl]; exact CR289.trans (CHv.at X289 hZ hEL CRc289.1)
            exact own_retWN X289 hS289 (by exact hk289) hx (t := .boolean) Bd.returns (by simp) (hb hby at_127) Bd.notSynchronized ⟨rfl, N289⟩ cr290 (by decide) (by decide)
        ·  -- pc 102, not (own_isj xc) = (0 : Int32)
          refine own_st (fun _ k' => XS.ifNo X273.here hx rfl (hb hby at_102) rfl ((if0 _ _).trans (feq hc288).1) k') ?_
          show own_Go p.tables e below _ (T273.setTop (mkF m 105 #[.val (.int count), .val (.int xa), .val (.int xb), .val (.int xc), .val (.int (3 : Int32)), .val (.ref bs1), .val (.ref bs3), .val (.ref bs9), .val (.ref ar), .unset] []))
          refine own_st (fun _ k' => XS.iconst X273.here hx rfl (hb hby at_105) k') ?_
          show own_Go p.tables e below _ (T273.setTop (mkF m 106 #[.val (.int count), .val (.int xa), .val (.int xb), .val (.int xc), .val (.int (3 : Int32)), .val (.ref bs1), .val (.ref bs3), .val (.ref bs9), .val (.ref ar), .unset] [(.int (1 : Int32))]))
          refine own_st (fun _ k' => XS.goto X273.here hx rfl (pc0 := 106) (pc' := 110) rfl (hb hby at_106) (by decide) (by decide) k') ?_
          show own_Go p.tables e below _ (T273.setTop (mkF m 110 #[.val (.int count), .val (.int xa), .val (.int xb), .val (.int xc), .val (.int (3 : Int32)), .val (.ref bs1), .val (.ref bs3), .val (.ref bs9), .val (.ref ar), .unset] [(.int (1 : Int32))]))
          refine own_st (fun _ k' => XS.istore X273.here hx rfl (hb hby at_110) rfl (l' := #[.val (.int count), .val (.int xa), .val (.int xb), .val (.int xc), .val (.int (3 : Int32)), .val (.ref bs1), .val (.ref bs3), .val (.ref bs9), .val (.ref ar), .val (.int (1 : Int32))]) rfl k') ?_
          show own_Go p.tables e below _ (T273.setTop (mkF m 112 #[.val (.int count), .val (.int xa), .val (.int xb), .val (.int xc), .val (.int (3 : Int32)), .val (.ref bs1), .val (.ref bs3), .val (.ref bs9), .val (.ref ar), .val (.int (1 : Int32))] []))
          refine own_st (fun _ k' => XS.aload X273.here hx rfl (hb hby at_112) rfl rfl k') ?_
          show own_Go p.tables e below _ (T273.setTop (mkF m 114 #[.val (.int count), .val (.int xa), .val (.int xb), .val (.int xc), .val (.int (3 : Int32)), .val (.ref bs1), .val (.ref bs3), .val (.ref bs9), .val (.ref ar), .val (.int (1 : Int32))] [(.ref ar)]))
          obtain ⟨_, _, ⟨T291, L291, k291, n291⟩, -, X291', h2291, gr291, ⟨Lc291, hQ291, l291, y291, z291, CRc291⟩, st291⟩ := callSS X273 hx (y := (⟨"com/example/frozen_thread/frozenthread/cli/FormReporter", "asksForJson", "([Ljava/lang/String;)Z"⟩ : MethodName)) hown (mvT hZ (hw _ (List.mem_of_getElem? (i := 35) rfl))) (mvT hZ (hw _ (List.mem_of_getElem? (i := 36) rfl))) (mvT hZ (hw _ (List.mem_of_getElem? (i := 37) rfl))) (mvT hZ (hw _ (List.mem_of_getElem? (i := 38) rfl))) (by decide) (backOfSH (W := 0) (rmAs3 l Z a0 hw [] ar k175 bs1 ts1 ks1 (own_mk xa) bs3 ts3 ks3 (own_mk xb) bs9 ts9 ks9 (own_mk xc) G1 G3 T273.heap n0 Zc273  Es1_x275 Fc1_x276 Fv1_x277 Vt1_x278 (own_mk_in xa) (own_mk_len xa) Es3_x279 Fc3_x280 Fv3_x281 Vt3_x282 (own_mk_in xb) (own_mk_len xb) Es9_x283 Fc9_x284 Fv9_x285 Vt9_x286 (own_mk_in xc) (own_mk_len xc) Vn225_x287 hEL O2 O4 P5 rG3 O__x274) hZ (hw _ (List.mem_of_getElem? (i := 38) rfl)) (hw _ (List.mem_of_getElem? (i := 37) rfl)) (by decide) (by decide) hEL CRc273.1) (g := (mkF m 114 #[.val (.int count), .val (.int xa), .val (.int xb), .val (.int xc), .val (.int (3 : Int32)), .val (.ref bs1), .val (.ref bs3), .val (.ref bs9), .val (.ref ar), .val (.int (1 : Int32))] [(.ref ar)])) rfl (by rw [hml]; rfl) (argsL := [(.ref ar)]) (rest := []) (lenOf pd___Ljava_lang_String__Z rfl) rfl (by show 2 * 0 + _ ≤ _; exact Nat.le_of_eq rfl) (hb hby at_114) (fun _ _ => ⟨rfl, rfl, (by decide : 28 + 6 ≤ _), (by decide : 159 + 84 ≤ _)⟩)
          dsimp only [Pt.U, Pt.locs, Pt.cells, Pt.slots] at X291' h2291 gr291 l291 y291 z291 st291 hQ291 CRc291
          subst l291 y291 z291
          obtain ⟨X291, hS291, hZ, hown⟩ := rebS hS273 (by exact hk273) X291' h2291 gr291 hZ hown
          have CR291 := CR273.trans CRc291
          have hk291 : T291.heap.size ≤ T291.heap.size := Nat.le_refl _
          obtain ⟨hD291, Nq291, Kc291⟩ := hQ291
          have N291 := Fr.app N273 Nq291
          rcases hD291 with ⟨rfl, hj291⟩ | ⟨rfl, hj291⟩
          ·  -- 1
            refine own_tr st291 ?_
            show own_Go p.tables e below _ (T291.setTop (mkF m 117 #[.val (.int count), .val (.int xa), .val (.int xb), .val (.int xc), .val (.int (3 : Int32)), .val (.ref bs1), .val (.ref bs3), .val (.ref bs9), .val (.ref ar), .val (.int (1 : Int32))] [(.int (1 : Int32))]))
            refine own_st (fun _ k' => XS.iload X291.here hx rfl (hb hby at_117) rfl k') ?_
            show own_Go p.tables e below _ (T291.setTop (mkF m 119 #[.val (.int count), .val (.int xa), .val (.int xb), .val (.int xc), .val (.int (3 : Int32)), .val (.ref bs1), .val (.ref bs3), .val (.ref bs9), .val (.ref ar), .val (.int (1 : Int32))] [(.int (1 : Int32)), (.int (1 : Int32))]))
            refine own_st (fun _ k' => XS.icmpNo X291.here hx rfl (hb hby at_119) rfl (teq (by decide : (1 : Int32) = (1 : Int32))).2 k') ?_
            show own_Go p.tables e below _ (T291.setTop (mkF m 122 #[.val (.int count), .val (.int xa), .val (.int xb), .val (.int xc), .val (.int (3 : Int32)), .val (.ref bs1), .val (.ref bs3), .val (.ref bs9), .val (.ref ar), .val (.int (1 : Int32))] []))
            refine own_st (fun _ k' => XS.iconst X291.here hx rfl (hb hby at_122) k') ?_
            show own_Go p.tables e below _ (T291.setTop (mkF m 123 #[.val (.int count), .val (.int xa), .val (.int xb), .val (.int xc), .val (.int (3 : Int32)), .val (.ref bs1), .val (.ref bs3), .val (.ref bs9), .val (.ref ar), .val (.int (1 : Int32))] [(.int (1 : Int32))]))
            refine own_st (fun _ k' => XS.goto X291.here hx rfl (pc0 := 123) (pc' := 127) rfl (hb hby at_123) (by decide) (by decide) k') ?_
            show own_Go p.tables e below _ (T291.setTop (mkF m 127 #[.val (.int count), .val (.int xa), .val (.int xb), .val (.int xc), .val (.int (3 : Int32)), .val (.ref bs1), .val (.ref bs3), .val (.ref bs9), .val (.ref ar), .val (.int (1 : Int32))] [(.int (1 : Int32))]))
            have cr292 : CHr Z consts_1 s.vm s.heap T291.vm T291.heap := by rw [hh, show T291.heap = T291.heap from rfl]; exact CR291.trans (CHv.at X291 hZ hEL CRc291.1)
            exact own_retWN X291 hS291 (by exact hk291) hx (t := .boolean) Bd.returns (by simp) (hb hby at_127) Bd.notSynchronized ⟨rfl, N291⟩ cr292 (by decide) (by decide)
          ·  -- 0
            refine own_tr st291 ?_
            show own_Go p.tables e below _ (T291.setTop (mkF m 117 #[.val (.int count), .val (.int xa), .val (.int xb), .val (.int xc), .val (.int (3 : Int32)), .val (.ref bs1), .val (.ref bs3), .val (.ref bs9), .val (.ref ar), .val (.int (1 : Int32))] [(.int (0 : Int32))]))
            refine own_st (fun _ k' => XS.iload X291.here hx rfl (hb hby at_117) rfl k') ?_
            show own_Go p.tables e below _ (T291.setTop (mkF m 119 #[.val (.int count), .val (.int xa), .val (.int xb), .val (.int xc), .val (.int (3 : Int32)), .val (.ref bs1), .val (.ref bs3), .val (.ref bs9), .val (.ref ar), .val (.int (1 : Int32))] [(.int (1 : Int32)), (.int (0 : Int32))]))
            exact absurd (Or.inr (Or.inr ((own_key xc).1.mpr ((own_key xc).2.resolve_left hc288)))) hj291
      ·  -- pc 89, not (own_isj xb) = (0 : Int32)
        refine own_st (fun _ k' => XS.ifYes X257.here hx rfl (pc0 := 89) (pc' := 105) rfl (hb hby at_89) rfl ((if0 _ _).trans (feq hc272).2) (by decide) (by decide) k') ?_
        show own_Go p.tables e below _ (T257.setTop (mkF m 105 #[.val (.int count), .val (.int xa), .val (.int xb), .val (.int xc), .val (.int (3 : Int32)), .val (.ref bs1), .val (.ref bs3), .val (.ref bs9), .val (.ref ar), .unset] []))
        refine own_st (fun _ k' => XS.iconst X257.here hx rfl (hb hby at_105) k') ?_
        show own_Go p.tables e below _ (T257.setTop (mkF m 106 #[.val (.int count), .val (.int xa), .val (.int xb), .val (.int xc), .val (.int (3 : Int32)), .val (.ref bs1), .val (.ref bs3), .val (.ref bs9), .val (.ref ar), .unset] [(.int (1 : Int32))]))
        refine own_st (fun _ k' => XS.goto X257.here hx rfl (pc0 := 106) (pc' := 110) rfl (hb hby at_106) (by decide) (by decide) k') ?_
        show own_Go p.tables e below _ (T257.setTop (mkF m 110 #[.val (.int count), .val (.int xa), .val (.int xb), .val (.int xc), .val (.int (3 : Int32)), .val (.ref bs1), .val (.ref bs3), .val (.ref bs9), .val (.ref ar), .unset] [(.int (1 : Int32))]))
        refine own_st (fun _ k' => XS.istore X257.here hx rfl (hb hby at_110) rfl (l' := #[.val (.int count), .val (.int xa), .val (.int xb), .val (.int xc), .val (.int (3 : Int32)), .val (.ref bs1), .val (.ref bs3), .val (.ref bs9), .val (.ref ar), .val (.int (1 : Int32))]) rfl k') ?_
        show own_Go p.tables e below _ (T257.setTop (mkF m 112 #[.val (.int count), .val (.int xa), .val (.int xb), .val (.int xc), .val (.int (3 : Int32)), .val (.ref bs1), .val (.ref bs3), .val (.ref bs9), .val (.ref ar), .val (.int (1 : Int32))] []))
        refine own_st (fun _ k' => XS.aload X257.here hx rfl (hb hby at_112) rfl rfl k') ?_
        show own_Go p.tables e below _ (T257.setTop (mkF m 114 #[.val (.int count), .val (.int xa), .val (.int xb), .val (.int xc), .val (.int (3 : Int32)), .val (.ref bs1), .val (.ref bs3), .val (.ref bs9), .val (.ref ar), .val (.int (1 : Int32))] [(.ref ar)]))
        obtain ⟨_, _, ⟨T293, L293, k293, n293⟩, -, X293', h2293, gr293, ⟨Lc293, hQ293, l293, y293, z293, CRc293⟩, st293⟩ := callSS X257 hx (y := (⟨"com/example/frozen_thread/frozenthread/cli/FormReporter", "asksForJson", "([Ljava/lang/String;)Z"⟩ : MethodName)) hown (mvT hZ (hw _ (List.mem_of_getElem? (i := 35) rfl))) (mvT hZ (hw _ (List.mem_of_getElem? (i := 36) rfl))) (mvT hZ (hw _ (List.mem_of_getElem? (i := 37) rfl))) (mvT hZ (hw _ (List.mem_of_getElem? (i := 38) rfl))) (by decide) (backOfSH (W := 0) (rmAs3 l Z a0 hw [] ar k175 bs1 ts1 ks1 (own_mk xa) bs3 ts3 ks3 (own_mk xb) bs9 ts9 ks9 (own_mk xc) G1 G3 T257.heap n0 Zc257  Es1_x259 Fc1_x260 Fv1_x261 Vt1_x262 (own_mk_in xa) (own_mk_len xa) Es3_x263 Fc3_x264 Fv3_x265 Vt3_x266 (own_mk_in xb) (own_mk_len xb) Es9_x267 Fc9_x268 Fv9_x269 Vt9_x270 (own_mk_in xc) (own_mk_len xc) Vn225_x271 hEL O2 O4 P5 rG3 O__x258) hZ (hw _ (List.mem_of_getElem? (i := 38) rfl)) (hw _ (List.mem_of_getElem? (i := 37) rfl)) (by decide) (by decide) hEL CRc257.1) (g := (mkF m 114 #[.val (.int count), .val (.int xa), .val (.int xb), .val (.int xc), .val (.int (3 : Int32)), .val (.ref bs1), .val (.ref bs3), .val (.ref bs9), .val (.ref ar), .val (.int (1 : Int32))] [(.ref ar)])) rfl (by rw [hml]; rfl) (argsL := [(.ref ar)]) (rest := []) (lenOf pd___Ljava_lang_String__Z rfl) rfl (by show 2 * 0 + _ ≤ _; exact Nat.le_of_eq rfl) (hb hby at_114) (fun _ _ => ⟨rfl, rfl, (by decide : 26 + 6 ≤ _), (by decide : 131 + 84 ≤ _)⟩)
        dsimp only [Pt.U, Pt.locs, Pt.cells, Pt.slots] at X293' h2293 gr293 l293 y293 z293 st293 hQ293 CRc293
        subst l293 y293 z293
        obtain ⟨X293, hS293, hZ, hown⟩ := rebS hS257 (by exact hk257) X293' h2293 gr293 hZ hown
        have CR293 := CR257.trans CRc293
        have hk293 : T293.heap.size ≤ T293.heap.size := Nat.le_refl _
        obtain ⟨hD293, Nq293, Kc293⟩ := hQ293
        have N293 := Fr.app N257 Nq293
        rcases hD293 with ⟨rfl, hj293⟩ | ⟨rfl, hj293⟩
        ·  -- 1
          refine own_tr st293 ?_
          show own_Go p.tables e below _ (T293.setTop (mkF m 117 #[.val (.int count), .val (.int xa), .val (.int xb), .val (.int xc), .val (.int (3 : Int32)), .val (.ref bs1), .val (.ref bs3), .val (.ref bs9), .val (.ref ar), .val (.int (1 : Int32))] [(.int (1 : Int32))]))
          refine own_st (fun _ k' => XS.iload X293.here hx rfl (hb hby at_117) rfl k') ?_
          show own_Go p.tables e below _ (T293.setTop (mkF m 119 #[.val (.int count), .val (.int xa), .val (.int xb), .val (.int xc), .val (.int (3 : Int32)), .val (.ref bs1), .val (.ref bs3), .val (.ref bs9), .val (.ref ar), .val (.int (1 : Int32))] [(.int (1 : Int32)), (.int (1 : Int32))]))
          refine own_st (fun _ k' => XS.icmpNo X293.here hx rfl (hb hby at_119) rfl (teq (by decide : (1 : Int32) = (1 : Int32))).2 k') ?_
          show own_Go p.tables e below _ (T293.setTop (mkF m 122 #[.val (.int count), .val (.int xa), .val (.int xb), .val (.int xc), .val (.int (3 : Int32)), .val (.ref bs1), .val (.ref bs3), .val (.ref bs9), .val (.ref ar), .val (.int (1 : Int32))] []))
          refine own_st (fun _ k' => XS.iconst X293.here hx rfl (hb hby at_122) k') ?_
          show own_Go p.tables e below _ (T293.setTop (mkF m 123 #[.val (.int count), .val (.int xa), .val (.int xb), .val (.int xc), .val (.int (3 : Int32)), .val (.ref bs1), .val (.ref bs3), .val (.ref bs9), .val (.ref ar), .val (.int (1 : Int32))] [(.int (1 : Int32))]))
          refine own_st (fun _ k' => XS.goto X293.here hx rfl (pc0 := 123) (pc' := 127) rfl (hb hby at_123) (by decide) (by decide) k') ?_
          show own_Go p.tables e below _ (T293.setTop (mkF m 127 #[.val (.int count), .val (.int xa), .val (.int xb), .val (.int xc), .val (.int (3 : Int32)), .val (.ref bs1), .val (.ref bs3), .val (.ref bs9), .val (.ref ar), .val (.int (1 : Int32))] [(.int (1 : Int32))]))
          have cr294 : CHr Z consts_1 s.vm s.heap T293.vm T293.heap := by rw [hh, show T293.heap = T293.heap from rfl]; exact CR293.trans (CHv.at X293 hZ hEL CRc293.1)
          exact own_retWN X293 hS293 (by exact hk293) hx (t := .boolean) Bd.returns (by simp) (hb hby at_127) Bd.notSynchronized ⟨rfl, N293⟩ cr294 (by decide) (by decide)
        ·  -- 0
          refine own_tr st293 ?_
          show own_Go p.tables e below _ (T293.setTop (mkF m 117 #[.val (.int count), .val (.int xa), .val (.int xb), .val (.int xc), .val (.int (3 : Int32)), .val (.ref bs1), .val (.ref bs3), .val (.ref bs9), .val (.ref ar), .val (.int (1 : Int32))] [(.int (0 : Int32))]))
          refine own_st (fun _ k' => XS.iload X293.here hx rfl (hb hby at_117) rfl k') ?_
          show own_Go p.tables e below _ (T293.setTop (mkF m 119 #[.val (.int count), .val (.int xa), .val (.int xb), .val (.int xc), .val (.int (3 : Int32)), .val (.ref bs1), .val (.ref bs3), .val (.ref bs9), .val (.ref ar), .val (.int (1 : Int32))] [(.int (1 : Int32)), (.int (0 : Int32))]))
          exact absurd (Or.inr (Or.inl ((own_key xb).1.mpr ((own_key xb).2.resolve_left hc272)))) hj293
    ·  -- pc 76, not (own_isj xa) = (0 : Int32)
      refine own_st (fun _ k' => XS.ifYes X241.here hx rfl (pc0 := 76) (pc' := 105) rfl (hb hby at_76) rfl ((if0 _ _).trans (feq hc256).2) (by decide) (by decide) k') ?_
      show own_Go p.tables e below _ (T241.setTop (mkF m 105 #[.val (.int count), .val (.int xa), .val (.int xb), .val (.int xc), .val (.int (3 : Int32)), .val (.ref bs1), .val (.ref bs3), .val (.ref bs9), .val (.ref ar), .unset] []))
      refine own_st (fun _ k' => XS.iconst X241.here hx rfl (hb hby at_105) k') ?_
      show own_Go p.tables e below _ (T241.setTop (mkF m 106 #[.val (.int count), .val (.int xa), .val (.int xb), .val (.int xc), .val (.int (3 : Int32)), .val (.ref bs1), .val (.ref bs3), .val (.ref bs9), .val (.ref ar), .unset] [(.int (1 : Int32))]))
      refine own_st (fun _ k' => XS.goto X241.here hx rfl (pc0 := 106) (pc' := 110) rfl (hb hby at_106) (by decide) (by decide) k') ?_
      show own_Go p.tables e below _ (T241.setTop (mkF m 110 #[.val (.int count), .val (.int xa), .val (.int xb), .val (.int xc), .val (.int (3 : Int32)), .val (.ref bs1), .val (.ref bs3), .val (.ref bs9), .val (.ref ar), .unset] [(.int (1 : Int32))]))
      refine own_st (fun _ k' => XS.istore X241.here hx rfl (hb hby at_110) rfl (l' := #[.val (.int count), .val (.int xa), .val (.int xb), .val (.int xc), .val (.int (3 : Int32)), .val (.ref bs1), .val (.ref bs3), .val (.ref bs9), .val (.ref ar), .val (.int (1 : Int32))]) rfl k') ?_
      show own_Go p.tables e below _ (T241.setTop (mkF m 112 #[.val (.int count), .val (.int xa), .val (.int xb), .val (.int xc), .val (.int (3 : Int32)), .val (.ref bs1), .val (.ref bs3), .val (.ref bs9), .val (.ref ar), .val (.int (1 : Int32))] []))
      refine own_st (fun _ k' => XS.aload X241.here hx rfl (hb hby at_112) rfl rfl k') ?_
      show own_Go p.tables e below _ (T241.setTop (mkF m 114 #[.val (.int count), .val (.int xa), .val (.int xb), .val (.int xc), .val (.int (3 : Int32)), .val (.ref bs1), .val (.ref bs3), .val (.ref bs9), .val (.ref ar), .val (.int (1 : Int32))] [(.ref ar)]))
      obtain ⟨_, _, ⟨T295, L295, k295, n295⟩, -, X295', h2295, gr295, ⟨Lc295, hQ295, l295, y295, z295, CRc295⟩, st295⟩ := callSS X241 hx (y := (⟨"com/example/frozen_thread/frozenthread/cli/FormReporter", "asksForJson", "([Ljava/lang/String;)Z"⟩ : MethodName)) hown (mvT hZ (hw _ (List.mem_of_getElem? (i := 35) rfl))) (mvT hZ (hw _ (List.mem_of_getElem? (i := 36) rfl))) (mvT hZ (hw _ (List.mem_of_getElem? (i := 37) rfl))) (mvT hZ (hw _ (List.mem_of_getElem? (i := 38) rfl))) (by decide) (backOfSH (W := 0) (rmAs3 l Z a0 hw [] ar k175 bs1 ts1 ks1 (own_mk xa) bs3 ts3 ks3 (own_mk xb) bs9 ts9 ks9 (own_mk xc) G1 G3 T241.heap n0 Zc241  Es1_x243 Fc1_x244 Fv1_x245 Vt1_x246 (own_mk_in xa) (own_mk_len xa) Es3_x247 Fc3_x248 Fv3_x249 Vt3_x250 (own_mk_in xb) (own_mk_len xb) Es9_x251 Fc9_x252 Fv9_x253 Vt9_x254 (own_mk_in xc) (own_mk_len xc) Vn225_x255 hEL O2 O4 P5 rG3 O__x242) hZ (hw _ (List.mem_of_getElem? (i := 38) rfl)) (hw _ (List.mem_of_getElem? (i := 37) rfl)) (by decide) (by decide) hEL CRc241.1) (g := (mkF m 114 #[.val (.int count), .val (.int xa), .val (.int xb), .val (.int xc), .val (.int (3 : Int32)), .val (.ref bs1), .val (.ref bs3), .val (.ref bs9), .val (.ref ar), .val (.int (1 : Int32))] [(.ref ar)])) rfl (by rw [hml]; rfl) (argsL := [(.ref ar)]) (rest := []) (lenOf pd___Ljava_lang_String__Z rfl) rfl (by show 2 * 0 + _ ≤ _; exact Nat.le_of_eq rfl) (hb hby at_114) (fun _ _ => ⟨rfl, rfl, (by decide : 24 + 6 ≤ _), (by decide : 103 + 84 ≤ _)⟩)
      dsimp only [Pt.U, Pt.locs, Pt.cells, Pt.slots] at X295' h2295 gr295 l295 y295 z295 st295 hQ295 CRc295
      subst l295 y295 z295
      obtain ⟨X295, hS295, hZ, hown⟩ := rebS hS241 (by exact hk241) X295' h2295 gr295 hZ hown
      have CR295 := CR241.trans CRc295
      have hk295 : T295.heap.size ≤ T295.heap.size := Nat.le_refl _
      obtain ⟨hD295, Nq295, Kc295⟩ := hQ295
      have N295 := Fr.app N241 Nq295
      rcases hD295 with ⟨rfl, hj295⟩ | ⟨rfl, hj295⟩
      ·  -- 1
        refine own_tr st295 ?_
        show own_Go p.tables e below _ (T295.setTop (mkF m 117 #[.val (.int count), .val (.int xa), .val (.int xb), .val (.int xc), .val (.int (3 : Int32)), .val (.ref bs1), .val (.ref bs3), .val (.ref bs9), .val (.ref ar), .val (.int (1 : Int32))] [(.int (1 : Int32))]))
        refine own_st (fun _ k' => XS.iload X295.here hx rfl (hb hby at_117) rfl k') ?_
        show own_Go p.tables e below _ (T295.setTop (mkF m 119 #[.val (.int count), .val (.int xa), .val (.int xb), .val (.int xc), .val (.int (3 : Int32)), .val (.ref bs1), .val (.ref bs3), .val (.ref bs9), .val (.ref ar), .val (.int (1 : Int32))] [(.int (1 : Int32)), (.int (1 : Int32))]))
        refine own_st (fun _ k' => XS.icmpNo X295.here hx rfl (hb hby at_119) rfl (teq (by decide : (1 : Int32) = (1 : Int32))).2 k') ?_
        show own_Go p.tables e below _ (T295.setTop (mkF m 122 #[.val (.int count), .val (.int xa), .val (.int xb), .val (.int xc), .val (.int (3 : Int32)), .val (.ref bs1), .val (.ref bs3), .val (.ref bs9), .val (.ref ar), .val (.int (1 : Int32))] []))
        refine own_st (fun _ k' => XS.iconst X295.here hx rfl (hb hby at_122) k') ?_
        show own_Go p.tables e below _ (T295.setTop (mkF m 123 #[.val (.int count), .val (.int xa), .val (.int xb), .val (.int xc), .val (.int (3 : Int32)), .val (.ref bs1), .val (.ref bs3), .val (.ref bs9), .val (.ref ar), .val (.int (1 : Int32))] [(.int (1 : Int32))]))
        refine own_st (fun _ k' => XS.goto X295.here hx rfl (pc0 := 123) (pc' := 127) rfl (hb hby at_123) (by decide) (by decide) k') ?_
        show own_Go p.tables e below _ (T295.setTop (mkF m 127 #[.val (.int count), .val (.int xa), .val (.int xb), .val (.int xc), .val (.int (3 : Int32)), .val (.ref bs1), .val (.ref bs3), .val (.ref bs9), .val (.ref ar), .val (.int (1 : Int32))] [(.int (1 : Int32))]))
        have cr296 : CHr Z consts_1 s.vm s.heap T295.vm T295.heap := by rw [hh, show T295.heap = T295.heap from rfl]; exact CR295.trans (CHv.at X295 hZ hEL CRc295.1)
        exact own_retWN X295 hS295 (by exact hk295) hx (t := .boolean) Bd.returns (by simp) (hb hby at_127) Bd.notSynchronized ⟨rfl, N295⟩ cr296 (by decide) (by decide)
      ·  -- 0
        refine own_tr st295 ?_
        show own_Go p.tables e below _ (T295.setTop (mkF m 117 #[.val (.int count), .val (.int xa), .val (.int xb), .val (.int xc), .val (.int (3 : Int32)), .val (.ref bs1), .val (.ref bs3), .val (.ref bs9), .val (.ref ar), .val (.int (1 : Int32))] [(.int (0 : Int32))]))
        refine own_st (fun _ k' => XS.iload X295.here hx rfl (hb hby at_117) rfl k') ?_
        show own_Go p.tables e below _ (T295.setTop (mkF m 119 #[.val (.int count), .val (.int xa), .val (.int xb), .val (.int xc), .val (.int (3 : Int32)), .val (.ref bs1), .val (.ref bs3), .val (.ref bs9), .val (.ref ar), .val (.int (1 : Int32))] [(.int (1 : Int32)), (.int (0 : Int32))]))
        exact absurd (Or.inl ((own_key xa).1.mpr ((own_key xa).2.resolve_left hc256))) hj295

set_option maxRecDepth 65536 in
set_option maxHeartbeats 40000000 in
theorem comes_1 {Post : Tables → Env → Array Value → State → Outcome → State → Prop} (hpost : ∀ tb e args s v u, (limb_1_1.after args s (.returned v) u = true ∧ limb_1_2.after args s (.returned v) u = true ∧ True) → ReturnedEndW s (.returned v) u (Jvm.fieldLocs frame_1_writes args s ++ Jvm.arrayLocs frame_1_arrays args s ++ Jvm.staticLocs frame_1_statics s) 40 3328 → Post tb e args s (.returned v) u) :
    ArmFor flags0 classFile x code maxLocals ret World_1 tables_1 room_1 Calls_1 rest_1 Pre_1 Post := by
  intro l hfl _ _ p e ha hc hk s m args below hf hA hF happ hP
  obtain ⟨hcalls, hrest, hpre⟩ := hP
  obtain ⟨-, -, -, hnamed, -, -, -, hat⟩ := (Spec.applies_iff hf).mp happ
  obtain ⟨hg, hn⟩ := and_e (Cond.before_iff.mp (show (Jvm.Cond.and given_1 narrow_1).before args s = true from hpre))
  obtain ⟨hcnt, hg⟩ := and_e hg
  obtain ⟨w0, w1, w2, w3, rfl⟩ : ∃ w0 w1 w2 w3 : Value, args = #[w0, w1, w2, w3] := by
    have hs : args.size = 4 := by simpa [Cond.value, given_1] using hcnt
    obtain ⟨L⟩ := args
    match L, hs with
    | [w0, w1, w2, w3], _ => exact ⟨w0, w1, w2, w3, rfl⟩
  have hw := fun d (hd : d ∈ tables_1) => atoms_spec (ws := Jvm.Cond.code x code maxLocals ret :: tables_1) hat d (List.mem_cons_of_mem _ hd)
  have hfit : Fit s := fun {y c} hc i hi => by
    obtain ⟨ha, rfl⟩ := Array.getElem?_eq_some_iff.mp hc
    have q := List.all_eq_true.mp ((Array.all_eq_true_iff_forall_mem.mp hF) _ (Array.getElem_mem ha)) i (List.mem_range.mpr hi)
    simpa [Array.getElem?_eq_getElem hi] using q
  obtain ⟨hg0, hg⟩ := and_e hg
  obtain ⟨i0, ei0⟩ := is_v hg0
  obtain rfl : w0 = (.int i0) := Option.some.inj ei0
  obtain ⟨hg1, hg⟩ := and_e hg
  obtain ⟨i1, ei1⟩ := is_v hg1
  obtain rfl : w1 = (.int i1) := Option.some.inj ei1
  obtain ⟨hg2, hg⟩ := and_e hg
  obtain ⟨i2, ei2⟩ := is_v hg2
  obtain rfl : w2 = (.int i2) := Option.some.inj ei2
  have hg3 := hg
  obtain ⟨i3, ei3⟩ := is_v hg3
  obtain rfl : w3 = (.int i3) := Option.some.inj ei3
  obtain ⟨hsets, hown0⟩ := atoms_of _ (rest_1_c_eq ▸ (show rest_1_c.before _ s = true from hrest))
  have n5 := not_v (Cond.before_iff.mp (hsets _ (List.mem_of_getElem? (i := 2) rfl)))
  obtain ⟨i11, e10⟩ := is_v (Cond.before_iff.mp (hsets _ (List.mem_of_getElem? (i := 1) rfl)))
  have S12 : Sta s s.heap "java/lang/String" "COMPACT_STRINGS" "Z" (.int i11) := Sta.start e10 (Or.inl (hsets _ (List.mem_of_getElem? (i := 0) rfl)))
  obtain ⟨v13, e14, r15⟩ := isR_v (Cond.before_iff.mp (hsets _ (List.mem_of_getElem? (i := 8) rfl)))
  have S16 : Sta s s.heap "jdk/internal/util/Preconditions" "SIOOBE_FORMATTER" "Ljava/util/function/BiFunction;" v13 := Sta.start e14 (Or.inl (hsets _ (List.mem_of_getElem? (i := 7) rfl)))
  have c17 : ¬ (i11 = (0 : Int32)) := gotF (Cond.eq_ints e10 (Term.int_eval (0))) n5
  have hEL : EW s #[(.int i0), (.int i1), (.int i2), (.int i3)] consts_1 := EW.cons (hw _ (List.mem_of_getElem? (i := 42) rfl)) (by decide) (EW.cons (hw _ (List.mem_of_getElem? (i := 56) rfl)) (by decide) (EW.cons (hw _ (List.mem_of_getElem? (i := 55) rfl)) (by decide) EW.nil))
  have hC : CHv s consts_1 s.vm s.heap := CHv.start hEL (fun q hq => hcalls.1 q hq) (hsets _ (List.mem_of_getElem? (i := 2) rfl)) (hw _ (List.mem_of_getElem? (i := 23) rfl)) (hw _ (List.mem_of_getElem? (i := 6) rfl))
  obtain ⟨n, o, h1, h2, h3, _, L, rfl, ⟨rfl, N⟩, -, hq⟩ := rm0 l s _ hw tables_1 i0 i1 i2 i3 i11 v13 s.heap s.heap.size (Nat.le_refl _) hEL S12 S16 c17 r15 (Old.start s) p e ha hc hk s m _ below hf ((Spec.applies_iff_loose hf).mp happ).1 ⟨rfl, State.Warmed39.refl s, rfl, hC⟩ trivial
  refine ⟨n, _, h1, h2, h3, hpost _ _ _ _ _ _ ⟨Cond.after_iff.mpr rfl, Cond.after_iff.mpr (eq_i res_at (Term.int_eval (1)) rfl), trivial⟩ ⟨hq.1, hq.2.1, hq.2.2.1, (hq.2.2.2.sift fun y hy => Or.inr (N y hy)).mono (by decide) (by decide)⟩⟩
theorem main_1_1 : Claimed_1_1 := comes_1 fun _ _ _ _ _ _ h hF => ⟨h.1, hF⟩
theorem main_1_2 : Claimed_1_2 := comes_1 fun _ _ _ _ _ _ h hF => ⟨h.2.1, hF⟩

end Jvm.Pilot.@@N@@
namespace Jvm.Pilot.@@N@@
open Jvm Jvm.ClassFile Sem Op Lib Jvm.Free Jvm.Stand Jvm.Pilot.@@N@@.Jvm.D
/-! MADE BY PROGRAM (witnessworld.py) out of the Statement's table words and the real class files: 22 classes; the members and pool entries that the words name. The judged class is class 1, her method 1. -/
namespace start1
open Jvm.ClassFile
def u (s : String) : CpInfo := .utf8 (stringToUtf16 s)
/-- a pool by its gaps: so many unusable entries, then the entry; so many at the end -/
def gap : Nat → List CpInfo → List CpInfo
  | 0, r => r
  | n + 1, r => .unusable :: gap n r
def poolList (es : List (Nat × CpInfo)) (last : Nat) : List CpInfo := es.foldr (fun e r => gap e.1 (e.2 :: r)) (gap last [])
def pool (es : List (Nat × CpInfo)) (last : Nat) : Array CpInfo := ⟨poolList es last⟩
def fileOf (pool : Array CpInfo) (this : Nat) (attrs : Array Attribute := #[]) (ms : Array MethodInfo := #[]) (fl : Nat := 33) (sup : Nat := 0) (ifs : Array Nat := #[]) (fds : Array FieldInfo := #[]) : ClassFile where
  minorVersion := 0
  majorVersion := 65
  constantPool := pool
  accessFlags := fl
  thisClass := this
  superClass := sup
  interfaces := ifs
  fields := fds
  methods := ms
  attributes := attrs
def plain (name : String) (sup : Option ClassId) : Class where
  name := name
  kind := .ordinary
  loader := none
  accessFlags := 33
  super := sup
  interfaces := #[]
  cf := none
  fields := #[]
  methods := #[]
  instanceTypes := #[]
  staticTypes := #[]
  resolved := #[]
  callSites := []
  init := .initialized
  statics := none
  mirror := none

def pool0 : Array CpInfo := pool [(5, u "<init>"), (0, u "()V"), (1, .class_ 10), (1, u "java/lang/Object")] 113

def k0c0 : Code := { maxStack := 0, maxLocals := 1, code := object_method_1_code, exceptionTable := #[], attributes := #[] }
def k0m0 : Method := { name := "<init>", desc := "()V", sig := { parameters := [], returnType := none }, accessFlags := 1, code := some k0c0 }
/-- java/lang/Object -/
def k0 : Class := { plain "java/lang/Object" none with
  accessFlags := 33
  interfaces := #[]
  cf := some (fileOf pool0 8 #[] #[{ accessFlags := 1, nameIndex := 5, descriptorIndex := 6, attributes := #[] }] 33 0 #[] #[])
  fields := #[]
  methods := #[k0m0]
  instanceTypes := #[]
  staticTypes := #[]
  resolved := Array.replicate 124 none
  statics := none }

def pool1 : Array CpInfo := pool [(2, .class_ 4), (1, u "java/lang/Object"), (0, u "<init>"), (0, u "()V"), (0, .methodref 8 9), (0, .class_ 10), (0, .nameAndType 11 12), (0, u "com/example/frozen_thread/frozenthread/cli/FormReporterAsksForJsonPinLaw"), (0, u "make"), (0, u "(I)Ljava/lang/String;"), (0, .class_ 14), (0, u "java/lang/String"), (0, .methodref 8 16), (0, .nameAndType 17 18), (0, u "isJson"), (0, u "(I)Z"), (0, .methodref 20 21), (0, .class_ 22), (0, .nameAndType 23 24), (0, u "com/example/frozen_thread/frozenthread/cli/FormReporter"), (0, u "asksForJson"), (0, u "([Ljava/lang/String;)Z"), (0, .methodref 13 26), (0, .nameAndType 5 27), (0, u "([C)V"), (0, .string 29), (0, u "--json"), (0, .methodref 13 31), (0, .nameAndType 32 33), (0, u "charAt"), (0, u "(I)C"), (2, u "law"), (0, u "(IIII)Z")] 7

def k1m0 : Method := { name := "<init>", desc := "()V", sig := { parameters := [], returnType := none }, accessFlags := 2, code := none }
def k1c1 : Code := { maxStack := 3, maxLocals := 10, code := code, exceptionTable := #[], attributes := #[] }
def k1m1 : Method := { name := "law", desc := "(IIII)Z", sig := { parameters := [.int, .int, .int, .int], returnType := some .boolean }, accessFlags := 9, code := some k1c1 }
def k1c2 : Code := { maxStack := 7, maxLocals := 4, code := method_3_code, exceptionTable := #[], attributes := #[] }
def k1m2 : Method := { name := "make", desc := "(I)Ljava/lang/String;", sig := { parameters := [.int], returnType := some (.object "java/lang/String") }, accessFlags := 10, code := some k1c2 }
def k1c3 : Code := { maxStack := 3, maxLocals := 4, code := method_4_code, exceptionTable := #[], attributes := #[] }
def k1m3 : Method := { name := "isJson", desc := "(I)Z", sig := { parameters := [.int], returnType := some .boolean }, accessFlags := 10, code := some k1c3 }
/-- com/example/frozen_thread/frozenthread/cli/FormReporterAsksForJsonPinLaw -/
def k1 : Class := { plain "com/example/frozen_thread/frozenthread/cli/FormReporterAsksForJsonPinLaw" (some 0) with
  accessFlags := 49
  interfaces := #[]
  cf := some (fileOf pool1 8 #[] #[{ accessFlags := 2, nameIndex := 5, descriptorIndex := 6, attributes := #[] }, { accessFlags := 9, nameIndex := 36, descriptorIndex := 37, attributes := #[] }, { accessFlags := 10, nameIndex := 11, descriptorIndex := 12, attributes := #[] }, { accessFlags := 10, nameIndex := 17, descriptorIndex := 18, attributes := #[] }] 49 2 #[] #[])
  fields := #[]
  methods := #[k1m0, k1m1, k1m2, k1m3]
  instanceTypes := #[]
  staticTypes := #[]
  resolved := Array.replicate 45 none
  statics := none }

def pool2 : Array CpInfo := pool [(1, .class_ 2), (0, u "java/io/Serializable"), (0, .class_ 4), (0, u "java/lang/Object")] 2

/-- java/io/Serializable -/
def k2 : Class := { plain "java/io/Serializable" (some 0) with
  accessFlags := 1537
  interfaces := #[]
  cf := some (fileOf pool2 1 #[] #[] 1537 3 #[] #[])
  fields := #[]
  methods := #[]
  instanceTypes := #[]
  staticTypes := #[]
  resolved := Array.replicate 7 none
  statics := none }

def pool3 : Array CpInfo := pool [(1, .class_ 2), (0, u "java/lang/Comparable"), (0, .class_ 4), (0, u "java/lang/Object")] 7

/-- java/lang/Comparable -/
def k3 : Class := { plain "java/lang/Comparable" (some 0) with
  accessFlags := 1537
  interfaces := #[]
  cf := some (fileOf pool3 1 #[] #[] 1537 3 #[] #[])
  fields := #[]
  methods := #[]
  instanceTypes := #[]
  staticTypes := #[]
  resolved := Array.replicate 12 none
  statics := none }

def pool4 : Array CpInfo := pool [(2, .class_ 4), (1, u "java/lang/CharSequence"), (42, .class_ 48), (0, u "java/lang/CharSequence$1CodePointIterator"), (10, .class_ 60), (0, u "java/lang/CharSequence$1CharIterator"), (5, .class_ 67), (0, u "java/lang/Object")] 63

/-- java/lang/CharSequence -/
def k4 : Class := { plain "java/lang/CharSequence" (some 0) with
  accessFlags := 1537
  interfaces := #[]
  cf := some (fileOf pool4 2 #[.nestMembers #[47, 59]] #[] 1537 66 #[] #[])
  fields := #[]
  methods := #[]
  instanceTypes := #[]
  staticTypes := #[]
  resolved := Array.replicate 131 none
  statics := none }

def pool5 : Array CpInfo := pool [(1, .class_ 2), (0, u "java/lang/constant/Constable"), (0, .class_ 4), (0, u "java/lang/Object")] 6

/-- java/lang/constant/Constable -/
def k5 : Class := { plain "java/lang/constant/Constable" (some 0) with
  accessFlags := 1537
  interfaces := #[]
  cf := some (fileOf pool5 1 #[] #[] 1537 3 #[] #[])
  fields := #[]
  methods := #[]
  instanceTypes := #[]
  staticTypes := #[]
  resolved := Array.replicate 11 none
  statics := none }

def pool6 : Array CpInfo := pool [(1, .class_ 2), (0, u "java/lang/constant/ConstantDesc"), (0, .class_ 4), (0, u "java/lang/Object")] 32

/-- java/lang/constant/ConstantDesc -/
def k6 : Class := { plain "java/lang/constant/ConstantDesc" (some 0) with
  accessFlags := 1537
  interfaces := #[]
  cf := some (fileOf pool6 1 #[] #[] 1537 3 #[] #[])
  fields := #[]
  methods := #[]
  instanceTypes := #[]
  staticTypes := #[]
  resolved := Array.replicate 37 none
  statics := none }

def pool7 : Array CpInfo := pool [(1, .methodref 2 3), (0, .class_ 4), (0, .nameAndType 5 6), (0, u "java/lang/Object"), (0, u "<init>"), (0, u "()V"), (0, .string 8), (0, u ""), (0, .fieldref 10 11), (0, .class_ 12), (0, .nameAndType 13 14), (0, u "java/lang/String"), (0, u "value"), (0, u "[B"), (0, .fieldref 10 16), (0, .nameAndType 17 18), (0, u "coder"), (0, u "B"), (2, u "hash"), (0, u "I"), (2, u "hashIsZero"), (0, u "Z"), (0, .methodref 10 28), (0, .nameAndType 5 29), (0, u "([CIILjava/lang/Void;)V"), (8, .fieldref 10 39), (0, .nameAndType 40 26), (0, u "COMPACT_STRINGS"), (1, .class_ 44), (1, u "java/lang/StringUTF16"), (0, u "compress"), (1, .methodref 42 48), (0, .nameAndType 49 50), (0, u "coderFromArrayLen"), (0, u "([BI)B"), (56, .class_ 109), (1, u "java/lang/StringLatin1"), (32, u "()Z"), (34, .methodref 42 178), (0, .nameAndType 45 179), (0, u "([CII)[B"), (183, u "([BI)C"), (27, u "(II)V"), (35, u "(I)C"), (64, .methodref 10 493), (0, .nameAndType 494 142), (0, u "isLatin1"), (0, .methodref 107 496), (0, .nameAndType 497 363), (0, u "charAt"), (3, u "checkIndex"), (39, .methodref 107 542), (0, .nameAndType 543 544), (0, u "equals"), (0, u "([B[B)Z"), (28, u "(Ljava/lang/Object;)Z"), (1, .class_ 576), (0, u "java/lang/CharSequence"), (22, u "CASE_INSENSITIVE_ORDER"), (0, u "Ljava/util/Comparator;"), (409, u "([C)V"), (42, .fieldref 1054 1055), (0, .class_ 1056), (0, .nameAndType 1057 1058), (0, u "jdk/internal/util/Preconditions"), (0, u "SIOOBE_FORMATTER"), (0, u "Ljava/util/function/BiFunction;"), (0, .methodref 1054 1060), (0, .nameAndType 501 1061), (0, u "(IILjava/util/function/BiFunction;)I"), (39, u "serialPersistentFields"), (0, u "[Ljava/io/ObjectStreamField;"), (0, .class_ 1104), (0, u "java/lang/String$CaseInsensitiveComparator"), (1, .class_ 1107), (0, u "java/io/Serializable"), (0, .class_ 1109), (0, u "java/lang/Comparable"), (0, .class_ 1111), (0, u "java/lang/constant/Constable"), (0, .class_ 1113), (0, u "java/lang/constant/ConstantDesc"), (2, u "serialVersionUID"), (0, u "J"), (3, u "REPL"), (0, u "C"), (2, u "LATIN1"), (1, u "UTF16")] 323

def k7m0 : Method := { name := "<init>", desc := "()V", sig := { parameters := [], returnType := none }, accessFlags := 1, code := none }
def k7c1 : Code := { maxStack := 5, maxLocals := 2, code := jdk_42_method_3_code, exceptionTable := #[], attributes := #[] }
def k7m1 : Method := { name := "<init>", desc := "([C)V", sig := { parameters := [(.array .char)], returnType := none }, accessFlags := 1, code := some k7c1 }
def k7c2 : Code := { maxStack := 2, maxLocals := 2, code := jdk_42_method_56_code, exceptionTable := #[], attributes := #[] }
def k7m2 : Method := { name := "charAt", desc := "(I)C", sig := { parameters := [.int], returnType := some .char }, accessFlags := 1, code := some k7c2 }
def k7c3 : Code := { maxStack := 2, maxLocals := 3, code := jdk_42_method_66_code, exceptionTable := #[], attributes := #[] }
def k7m3 : Method := { name := "equals", desc := "(Ljava/lang/Object;)Z", sig := { parameters := [(.object "java/lang/Object")], returnType := some .boolean }, accessFlags := 1, code := some k7c3 }
def k7c4 : Code := { maxStack := 4, maxLocals := 6, code := jdk_42_method_149_code, exceptionTable := #[], attributes := #[] }
def k7m4 : Method := { name := "<init>", desc := "([CIILjava/lang/Void;)V", sig := { parameters := [(.array .char), .int, .int, (.object "java/lang/Void")], returnType := none }, accessFlags := 2, code := some k7c4 }
def k7c5 : Code := { maxStack := 1, maxLocals := 1, code := jdk_42_method_154_code, exceptionTable := #[], attributes := #[] }
def k7m5 : Method := { name := "isLatin1", desc := "()Z", sig := { parameters := [], returnType := some .boolean }, accessFlags := 0, code := some k7c5 }
def k7c6 : Code := { maxStack := 3, maxLocals := 2, code := jdk_42_method_155_code, exceptionTable := #[], attributes := #[] }
def k7m6 : Method := { name := "checkIndex", desc := "(II)V", sig := { parameters := [.int, .int], returnType := none }, accessFlags := 8, code := some k7c6 }
/-- java/lang/String -/
def k7 : Class := { plain "java/lang/String" (some 0) with
  accessFlags := 49
  interfaces := #[2, 3, 4, 5, 6]
  cf := some (fileOf pool7 10 #[.nestMembers #[1103]] #[{ accessFlags := 1, nameIndex := 5, descriptorIndex := 6, attributes := #[] }, { accessFlags := 1, nameIndex := 5, descriptorIndex := 1010, attributes := #[] }, { accessFlags := 1, nameIndex := 497, descriptorIndex := 427, attributes := #[] }, { accessFlags := 1, nameIndex := 543, descriptorIndex := 573, attributes := #[] }, { accessFlags := 2, nameIndex := 5, descriptorIndex := 29, attributes := #[] }, { accessFlags := 0, nameIndex := 494, descriptorIndex := 142, attributes := #[] }, { accessFlags := 8, nameIndex := 501, descriptorIndex := 391, attributes := #[] }] 49 2 #[1106, 1108, 575, 1110, 1112] #[{ accessFlags := 18, nameIndex := 13, descriptorIndex := 14, attributes := #[] }, { accessFlags := 18, nameIndex := 17, descriptorIndex := 18, attributes := #[] }, { accessFlags := 2, nameIndex := 21, descriptorIndex := 22, attributes := #[] }, { accessFlags := 2, nameIndex := 25, descriptorIndex := 26, attributes := #[] }, { accessFlags := 26, nameIndex := 1116, descriptorIndex := 1117, attributes := #[] }, { accessFlags := 24, nameIndex := 40, descriptorIndex := 26, attributes := #[] }, { accessFlags := 26, nameIndex := 1101, descriptorIndex := 1102, attributes := #[] }, { accessFlags := 26, nameIndex := 1121, descriptorIndex := 1122, attributes := #[] }, { accessFlags := 25, nameIndex := 599, descriptorIndex := 600, attributes := #[] }, { accessFlags := 24, nameIndex := 1125, descriptorIndex := 18, attributes := #[] }, { accessFlags := 24, nameIndex := 1127, descriptorIndex := 18, attributes := #[] }])
  fields := #[{ name := "value", type := (.array .byte), accessFlags := 18, slot := 0, constantValue := 0 }, { name := "coder", type := .byte, accessFlags := 18, slot := 1, constantValue := 0 }, { name := "hash", type := .int, accessFlags := 2, slot := 2, constantValue := 0 }, { name := "hashIsZero", type := .boolean, accessFlags := 2, slot := 3, constantValue := 0 }, { name := "serialVersionUID", type := .long, accessFlags := 26, slot := 0, constantValue := 0 }, { name := "COMPACT_STRINGS", type := .boolean, accessFlags := 24, slot := 1, constantValue := 0 }, { name := "serialPersistentFields", type := (.array (.object "java/io/ObjectStreamField")), accessFlags := 26, slot := 2, constantValue := 0 }, { name := "REPL", type := .char, accessFlags := 26, slot := 3, constantValue := 0 }, { name := "CASE_INSENSITIVE_ORDER", type := (.object "java/util/Comparator"), accessFlags := 25, slot := 4, constantValue := 0 }, { name := "LATIN1", type := .byte, accessFlags := 24, slot := 5, constantValue := 0 }, { name := "UTF16", type := .byte, accessFlags := 24, slot := 6, constantValue := 0 }]
  methods := #[k7m0, k7m1, k7m2, k7m3, k7m4, k7m5, k7m6]
  instanceTypes := #[(.array .byte), .byte, .int, .boolean]
  staticTypes := #[.long, .boolean, (.array (.object "java/io/ObjectStreamField")), .char, (.object "java/util/Comparator"), .byte, .byte]
  resolved := Array.replicate 1451 none
  statics := some 0 }

def pool8 : Array CpInfo := pool [(6, .class_ 8), (1, u "java/lang/Object"), (0, u "<init>"), (0, u "()V"), (1, .class_ 14), (1, u "java/lang/StringUTF16"), (31, u "$assertionsDisabled"), (0, u "Z"), (13, u "HI_BYTE_SHIFT"), (0, u "I"), (2, u "LO_BYTE_SHIFT"), (49, .methodref 12 116), (0, .nameAndType 117 118), (0, u "compress"), (0, u "([CI[BII)I"), (3, u "([CII)[B"), (138, u "coderFromArrayLen"), (0, u "([BI)B"), (106, .class_ 371), (1, u "java/lang/StringUTF16$LinesSpliterator"), (58, u "MAX_LENGTH"), (196, .class_ 628), (0, u "java/lang/StringUTF16$CodePointsSpliterator"), (0, .class_ 630), (0, u "java/lang/StringUTF16$CharsSpliterator")] 4

def k8m0 : Method := { name := "<init>", desc := "()V", sig := { parameters := [], returnType := none }, accessFlags := 0, code := none }
def k8c1 : Code := { maxStack := 2, maxLocals := 2, code := jdk_52_method_15_code, exceptionTable := #[], attributes := #[] }
def k8m1 : Method := { name := "coderFromArrayLen", desc := "([BI)B", sig := { parameters := [(.array .byte), .int], returnType := some .byte }, accessFlags := 8, code := some k8c1 }
def k8c2 : Code := { maxStack := 5, maxLocals := 6, code := jdk_52_method_16_code, exceptionTable := #[], attributes := #[] }
def k8m2 : Method := { name := "compress", desc := "([CII)[B", sig := { parameters := [(.array .char), .int, .int], returnType := some (.array .byte) }, accessFlags := 9, code := some k8c2 }
def k8c3 : Code := { maxStack := 3, maxLocals := 7, code := jdk_52_method_21_code, exceptionTable := #[], attributes := #[] }
def k8m3 : Method := { name := "compress", desc := "([CI[BII)I", sig := { parameters := [(.array .char), .int, (.array .byte), .int, .int], returnType := some .int }, accessFlags := 9, code := some k8c3 }
/-- java/lang/StringUTF16 -/
def k8 : Class := { plain "java/lang/StringUTF16" (some 0) with
  accessFlags := 48
  interfaces := #[]
  cf := some (fileOf pool8 12 #[.nestMembers #[627, 629, 369]] #[{ accessFlags := 0, nameIndex := 9, descriptorIndex := 10, attributes := #[] }, { accessFlags := 8, nameIndex := 261, descriptorIndex := 262, attributes := #[] }, { accessFlags := 9, nameIndex := 117, descriptorIndex := 122, attributes := #[] }, { accessFlags := 9, nameIndex := 117, descriptorIndex := 118, attributes := #[] }] 48 6 #[] #[{ accessFlags := 26, nameIndex := 61, descriptorIndex := 62, attributes := #[] }, { accessFlags := 26, nameIndex := 65, descriptorIndex := 62, attributes := #[] }, { accessFlags := 24, nameIndex := 430, descriptorIndex := 62, attributes := #[] }, { accessFlags := 4120, nameIndex := 46, descriptorIndex := 47, attributes := #[] }])
  fields := #[{ name := "HI_BYTE_SHIFT", type := .int, accessFlags := 26, slot := 0, constantValue := 0 }, { name := "LO_BYTE_SHIFT", type := .int, accessFlags := 26, slot := 1, constantValue := 0 }, { name := "MAX_LENGTH", type := .int, accessFlags := 24, slot := 2, constantValue := 0 }, { name := "$assertionsDisabled", type := .boolean, accessFlags := 4120, slot := 3, constantValue := 0 }]
  methods := #[k8m0, k8m1, k8m2, k8m3]
  instanceTypes := #[]
  staticTypes := #[.int, .int, .int, .boolean]
  resolved := Array.replicate 635 none
  statics := none }

def pool9 : Array CpInfo := pool [(1, .class_ 2), (0, u "com/example/frozen_thread/frozenthread/cli/InputFiles$Reporter"), (0, .class_ 4), (0, u "java/lang/Object"), (5, .class_ 11), (0, u "com/example/frozen_thread/frozenthread/cli/InputFiles")] 2

/-- com/example/frozen_thread/frozenthread/cli/InputFiles$Reporter -/
def k9 : Class := { plain "com/example/frozen_thread/frozenthread/cli/InputFiles$Reporter" (some 0) with
  accessFlags := 1536
  interfaces := #[]
  cf := some (fileOf pool9 1 #[.nestHost 10] #[] 1536 3 #[] #[])
  fields := #[]
  methods := #[]
  instanceTypes := #[]
  staticTypes := #[]
  resolved := Array.replicate 14 none
  statics := none }

def pool10 : Array CpInfo := pool [(2, .class_ 4), (1, u "java/lang/Object"), (3, .class_ 10), (1, u "com/example/frozen_thread/frozenthread/cli/FormReporter"), (0, u "json"), (0, u "Z"), (0, .string 14), (0, u "--json"), (0, .methodref 16 17), (0, .class_ 18), (0, .nameAndType 19 20), (0, u "java/lang/String"), (0, u "equals"), (0, u "(Ljava/lang/Object;)Z"), (26, .class_ 48), (0, u "com/example/frozen_thread/frozenthread/cli/InputFiles$Reporter"), (0, u "JSON_OPTION"), (0, u "Ljava/lang/String;"), (4, u "asksForJson"), (0, u "([Ljava/lang/String;)Z")] 14

def k10c0 : Code := { maxStack := 2, maxLocals := 5, code := prog_35_method_2_code, exceptionTable := #[], attributes := #[] }
def k10m0 : Method := { name := "asksForJson", desc := "([Ljava/lang/String;)Z", sig := { parameters := [(.array (.object "java/lang/String"))], returnType := some .boolean }, accessFlags := 8, code := some k10c0 }
/-- com/example/frozen_thread/frozenthread/cli/FormReporter -/
def k10 : Class := { plain "com/example/frozen_thread/frozenthread/cli/FormReporter" (some 0) with
  accessFlags := 1056
  interfaces := #[9]
  cf := some (fileOf pool10 8 #[] #[{ accessFlags := 8, nameIndex := 55, descriptorIndex := 56, attributes := #[] }] 1056 2 #[47] #[{ accessFlags := 24, nameIndex := 49, descriptorIndex := 50, attributes := #[] }, { accessFlags := 18, nameIndex := 11, descriptorIndex := 12, attributes := #[] }])
  fields := #[{ name := "JSON_OPTION", type := (.object "java/lang/String"), accessFlags := 24, slot := 0, constantValue := 0 }, { name := "json", type := .boolean, accessFlags := 18, slot := 0, constantValue := 0 }]
  methods := #[k10m0]
  instanceTypes := #[.boolean]
  staticTypes := #[(.object "java/lang/String")]
  resolved := Array.replicate 71 none
  statics := none }

def pool11 : Array CpInfo := pool [(1, .class_ 2), (0, u "java/lang/String"), (1, .class_ 6), (1, u "java/lang/Object"), (0, u "<init>"), (0, u "()V"), (0, .methodref 1 10), (0, .nameAndType 11 12), (0, u "checkIndex"), (0, u "(II)V"), (1, .class_ 16), (1, u "java/lang/StringLatin1"), (36, u "([BI)C"), (67, u "$assertionsDisabled"), (0, u "Z"), (98, .class_ 223), (1, u "java/lang/StringLatin1$LinesSpliterator"), (28, u "charAt"), (28, u "equals"), (0, u "([B[B)Z"), (107, .class_ 391), (0, u "java/lang/StringLatin1$CharsSpliterator")] 3

def k11m0 : Method := { name := "<init>", desc := "()V", sig := { parameters := [], returnType := none }, accessFlags := 0, code := none }
def k11c1 : Code := { maxStack := 2, maxLocals := 2, code := jdk_43_method_2_code, exceptionTable := #[], attributes := #[] }
def k11m1 : Method := { name := "charAt", desc := "([BI)C", sig := { parameters := [(.array .byte), .int], returnType := some .char }, accessFlags := 9, code := some k11c1 }
def k11c2 : Code := { maxStack := 3, maxLocals := 3, code := jdk_43_method_13_code, exceptionTable := #[], attributes := #[] }
def k11m2 : Method := { name := "equals", desc := "([B[B)Z", sig := { parameters := [(.array .byte), (.array .byte)], returnType := some .boolean }, accessFlags := 9, code := some k11c2 }
/-- java/lang/StringLatin1 -/
def k11 : Class := { plain "java/lang/StringLatin1" (some 0) with
  accessFlags := 48
  interfaces := #[]
  cf := some (fileOf pool11 14 #[.nestMembers #[390, 221]] #[{ accessFlags := 0, nameIndex := 7, descriptorIndex := 8, attributes := #[] }, { accessFlags := 9, nameIndex := 252, descriptorIndex := 53, attributes := #[] }, { accessFlags := 9, nameIndex := 281, descriptorIndex := 282, attributes := #[] }] 48 4 #[] #[{ accessFlags := 4120, nameIndex := 121, descriptorIndex := 122, attributes := #[] }])
  fields := #[{ name := "$assertionsDisabled", type := .boolean, accessFlags := 4120, slot := 0, constantValue := 0 }]
  methods := #[k11m0, k11m1, k11m2]
  instanceTypes := #[]
  staticTypes := #[.boolean]
  resolved := Array.replicate 395 none
  statics := none }

def pool12 : Array CpInfo := pool [(2, .class_ 4), (1, u "java/lang/Object"), (0, u "<init>"), (0, u "()V"), (17, .class_ 26), (1, u "jdk/internal/util/Preconditions"), (6, u "checkIndex"), (21, .class_ 56), (0, u "jdk/internal/util/Preconditions$4"), (57, .class_ 115), (0, u "jdk/internal/util/Preconditions$1"), (7, u "SIOOBE_FORMATTER"), (0, u "Ljava/util/function/BiFunction;"), (0, .class_ 126), (0, u "jdk/internal/util/Preconditions$2"), (3, u "AIOOBE_FORMATTER"), (0, .class_ 132), (0, u "jdk/internal/util/Preconditions$3"), (3, u "IOOBE_FORMATTER"), (41, u "(IILjava/util/function/BiFunction;)I")] 15

def k12m0 : Method := { name := "<init>", desc := "()V", sig := { parameters := [], returnType := none }, accessFlags := 1, code := none }
def k12c1 : Code := { maxStack := 3, maxLocals := 3, code := jdk_41_method_11_code, exceptionTable := #[], attributes := #[] }
def k12m1 : Method := { name := "checkIndex", desc := "(IILjava/util/function/BiFunction;)I", sig := { parameters := [.int, .int, (.object "java/util/function/BiFunction")], returnType := some .int }, accessFlags := 9, code := some k12c1 }
/-- jdk/internal/util/Preconditions -/
def k12 : Class := { plain "jdk/internal/util/Preconditions" (some 0) with
  accessFlags := 33
  interfaces := #[]
  cf := some (fileOf pool12 24 #[.nestMembers #[55, 131, 125, 114]] #[{ accessFlags := 1, nameIndex := 5, descriptorIndex := 6, attributes := #[] }, { accessFlags := 9, nameIndex := 33, descriptorIndex := 178, attributes := #[] }] 33 2 #[] #[{ accessFlags := 25, nameIndex := 123, descriptorIndex := 124, attributes := #[] }, { accessFlags := 25, nameIndex := 130, descriptorIndex := 124, attributes := #[] }, { accessFlags := 25, nameIndex := 136, descriptorIndex := 124, attributes := #[] }])
  fields := #[{ name := "SIOOBE_FORMATTER", type := (.object "java/util/function/BiFunction"), accessFlags := 25, slot := 0, constantValue := 0 }, { name := "AIOOBE_FORMATTER", type := (.object "java/util/function/BiFunction"), accessFlags := 25, slot := 1, constantValue := 0 }, { name := "IOOBE_FORMATTER", type := (.object "java/util/function/BiFunction"), accessFlags := 25, slot := 2, constantValue := 0 }]
  methods := #[k12m0, k12m1]
  instanceTypes := #[]
  staticTypes := #[(.object "java/util/function/BiFunction"), (.object "java/util/function/BiFunction"), (.object "java/util/function/BiFunction")]
  resolved := Array.replicate 194 none
  statics := some 1 }

def pool13 : Array CpInfo := pool [(9, u "<init>"), (6, .class_ 18), (1, u "java/lang/Object"), (0, u "()V"), (1, .class_ 23), (1, u "jdk/internal/util/ArraysSupport"), (0, u "LOG2_ARRAY_LONG_INDEX_SCALE"), (0, u "I"), (2, u "U"), (0, u "Ljdk/internal/misc/Unsafe;"), (8, u "BIG_ENDIAN"), (0, u "Z"), (8, u "LOG2_BYTE_BIT_SIZE"), (4, u "LOG2_ARRAY_INT_INDEX_SCALE"), (54, u "JLA"), (0, u "Ljdk/internal/access/JavaLangAccess;"), (11, u "LOG2_ARRAY_BOOLEAN_INDEX_SCALE"), (9, u "LOG2_ARRAY_BYTE_INDEX_SCALE"), (5, u "LOG2_ARRAY_CHAR_INDEX_SCALE"), (5, u "LOG2_ARRAY_SHORT_INDEX_SCALE"), (18, u "LOG2_ARRAY_FLOAT_INDEX_SCALE"), (24, u "LOG2_ARRAY_DOUBLE_INDEX_SCALE"), (89, u "T_BOOLEAN"), (2, u "T_CHAR"), (1, u "T_FLOAT"), (1, u "T_DOUBLE"), (1, u "T_BYTE"), (1, u "T_SHORT"), (1, u "T_INT"), (1, u "T_LONG"), (1, u "SOFT_MAX_ARRAY_LENGTH")] 83

def k13m0 : Method := { name := "<init>", desc := "()V", sig := { parameters := [], returnType := none }, accessFlags := 2, code := none }
/-- jdk/internal/util/ArraysSupport -/
def k13 : Class := { plain "jdk/internal/util/ArraysSupport" (some 0) with
  accessFlags := 33
  interfaces := #[]
  cf := some (fileOf pool13 21 #[] #[{ accessFlags := 2, nameIndex := 9, descriptorIndex := 19, attributes := #[] }] 33 16 #[] #[{ accessFlags := 24, nameIndex := 28, descriptorIndex := 29, attributes := #[] }, { accessFlags := 26, nameIndex := 38, descriptorIndex := 39, attributes := #[] }, { accessFlags := 25, nameIndex := 121, descriptorIndex := 25, attributes := #[] }, { accessFlags := 25, nameIndex := 131, descriptorIndex := 25, attributes := #[] }, { accessFlags := 25, nameIndex := 137, descriptorIndex := 25, attributes := #[] }, { accessFlags := 25, nameIndex := 143, descriptorIndex := 25, attributes := #[] }, { accessFlags := 25, nameIndex := 53, descriptorIndex := 25, attributes := #[] }, { accessFlags := 25, nameIndex := 24, descriptorIndex := 25, attributes := #[] }, { accessFlags := 25, nameIndex := 162, descriptorIndex := 25, attributes := #[] }, { accessFlags := 25, nameIndex := 187, descriptorIndex := 25, attributes := #[] }, { accessFlags := 26, nameIndex := 48, descriptorIndex := 25, attributes := #[] }, { accessFlags := 25, nameIndex := 277, descriptorIndex := 25, attributes := #[] }, { accessFlags := 25, nameIndex := 280, descriptorIndex := 25, attributes := #[] }, { accessFlags := 25, nameIndex := 282, descriptorIndex := 25, attributes := #[] }, { accessFlags := 25, nameIndex := 284, descriptorIndex := 25, attributes := #[] }, { accessFlags := 25, nameIndex := 286, descriptorIndex := 25, attributes := #[] }, { accessFlags := 25, nameIndex := 288, descriptorIndex := 25, attributes := #[] }, { accessFlags := 25, nameIndex := 290, descriptorIndex := 25, attributes := #[] }, { accessFlags := 25, nameIndex := 292, descriptorIndex := 25, attributes := #[] }, { accessFlags := 26, nameIndex := 108, descriptorIndex := 109, attributes := #[] }, { accessFlags := 25, nameIndex := 294, descriptorIndex := 25, attributes := #[] }])
  fields := #[{ name := "U", type := (.object "jdk/internal/misc/Unsafe"), accessFlags := 24, slot := 0, constantValue := 0 }, { name := "BIG_ENDIAN", type := .boolean, accessFlags := 26, slot := 1, constantValue := 0 }, { name := "LOG2_ARRAY_BOOLEAN_INDEX_SCALE", type := .int, accessFlags := 25, slot := 2, constantValue := 0 }, { name := "LOG2_ARRAY_BYTE_INDEX_SCALE", type := .int, accessFlags := 25, slot := 3, constantValue := 0 }, { name := "LOG2_ARRAY_CHAR_INDEX_SCALE", type := .int, accessFlags := 25, slot := 4, constantValue := 0 }, { name := "LOG2_ARRAY_SHORT_INDEX_SCALE", type := .int, accessFlags := 25, slot := 5, constantValue := 0 }, { name := "LOG2_ARRAY_INT_INDEX_SCALE", type := .int, accessFlags := 25, slot := 6, constantValue := 0 }, { name := "LOG2_ARRAY_LONG_INDEX_SCALE", type := .int, accessFlags := 25, slot := 7, constantValue := 0 }, { name := "LOG2_ARRAY_FLOAT_INDEX_SCALE", type := .int, accessFlags := 25, slot := 8, constantValue := 0 }, { name := "LOG2_ARRAY_DOUBLE_INDEX_SCALE", type := .int, accessFlags := 25, slot := 9, constantValue := 0 }, { name := "LOG2_BYTE_BIT_SIZE", type := .int, accessFlags := 26, slot := 10, constantValue := 0 }, { name := "T_BOOLEAN", type := .int, accessFlags := 25, slot := 11, constantValue := 0 }, { name := "T_CHAR", type := .int, accessFlags := 25, slot := 12, constantValue := 0 }, { name := "T_FLOAT", type := .int, accessFlags := 25, slot := 13, constantValue := 0 }, { name := "T_DOUBLE", type := .int, accessFlags := 25, slot := 14, constantValue := 0 }, { name := "T_BYTE", type := .int, accessFlags := 25, slot := 15, constantValue := 0 }, { name := "T_SHORT", type := .int, accessFlags := 25, slot := 16, constantValue := 0 }, { name := "T_INT", type := .int, accessFlags := 25, slot := 17, constantValue := 0 }, { name := "T_LONG", type := .int, accessFlags := 25, slot := 18, constantValue := 0 }, { name := "JLA", type := (.object "jdk/internal/access/JavaLangAccess"), accessFlags := 26, slot := 19, constantValue := 0 }, { name := "SOFT_MAX_ARRAY_LENGTH", type := .int, accessFlags := 25, slot := 20, constantValue := 0 }]
  methods := #[k13m0]
  instanceTypes := #[]
  staticTypes := #[(.object "jdk/internal/misc/Unsafe"), .boolean, .int, .int, .int, .int, .int, .int, .int, .int, .int, .int, .int, .int, .int, .int, .int, .int, .int, (.object "jdk/internal/access/JavaLangAccess"), .int]
  resolved := Array.replicate 378 none
  statics := none }

def pool14 : Array CpInfo := pool [(1, u "java/lang/Cloneable"), (0, .class_ 1), (0, u "java/lang/Object"), (0, .class_ 3)] 3

/-- java/lang/Cloneable -/
def k14 : Class := { plain "java/lang/Cloneable" (some 0) with
  accessFlags := 1537
  interfaces := #[]
  cf := some (fileOf pool14 2 #[] #[] 1537 4 #[] #[])
  fields := #[]
  methods := #[]
  instanceTypes := #[]
  staticTypes := #[]
  resolved := Array.replicate 8 none
  statics := none }

/-- the primitive byte -/
def k15 : Class := { plain "byte" none with kind := .primitive 'B', accessFlags := 0x411 }
/-- [B -/
def k16 : Class := { plain "[B" (some 0) with kind := .array 15 .byte, interfaces := #[14, 2], accessFlags := 1041 }

/-- the primitive char -/
def k17 : Class := { plain "char" none with kind := .primitive 'C', accessFlags := 0x411 }
/-- [C -/
def k18 : Class := { plain "[C" (some 0) with kind := .array 17 .char, interfaces := #[14, 2], accessFlags := 1041 }

/-- the primitive int -/
def k19 : Class := { plain "int" none with kind := .primitive 'I', accessFlags := 0x411 }
/-- [I -/
def k20 : Class := { plain "[I" (some 0) with kind := .array 19 .int, interfaces := #[14, 2], accessFlags := 1041 }

/-- [Ljava/lang/String; -/
def k21 : Class := { plain "[Ljava/lang/String;" (some 0) with kind := .array 7 (.object "java/lang/String"), interfaces := #[14, 2], accessFlags := 1041 }

def heap : Heap := #[{ cls := 7, slots := #[.long 0, .int 1, .null, .int 0, .null, .int 0, .int 0], vm := .statics 7 },
  { cls := 12, slots := #[.null, .null, .null], vm := .statics 12 }]
def classes : Array Class := #[k0, k1, k2, k3, k4, k5, k6, k7, k8, k9, k10, k11, k12, k13, k14, k15, k16, k17, k18, k19, k20, k21]
def interned : List (Array UInt16 × Addr) := []
def slotsUsed : Nat := 10
def theMethod : MethodId := ⟨1, 1⟩
def args0 : Array Value := #[.int 2, .int 5, .int 6, .int 7]
def aboutOver (below : List Frame) : State where
  vm := { classes := classes, interned := interned.toArray }
  heap := heap
  slotsUsed := slotsUsed
  threads := #[{ frames := .invoking theMethod args0 :: below }]
def below0 : List Frame := [.native { method := ⟨0, 0⟩, args := #[] }]
def about1 : State := aboutOver below0
def p0 : Program := .bare "" "" ""
def e0 : Env := launch0.env 0 0 0
theorem w_frames : about1.frames = Frame.invoking theMethod args0 :: below0 := rfl
set_option maxRecDepth 65536 in
theorem w_args : argsFit about1.vm theMethod args0 = true := by decide +kernel
set_option maxRecDepth 65536 in
theorem w_heap : heapFits about1 = true := by decide +kernel
set_option maxRecDepth 65536 in
theorem w_runnable : about1.curStatus? = some .runnable := by decide +kernel
set_option maxRecDepth 65536 in
theorem w_alone : about1.alone = true := by decide +kernel
set_option maxRecDepth 65536 in
theorem w_named : about1.methodNamed? x = some theMethod := by decide +kernel
set_option maxRecDepth 65536 in
theorem w_hears : about1.hears theMethod below0 = true := by decide +kernel
set_option maxRecDepth 65536 in
theorem w_ripe : about1.ripe theMethod args0 below0 = true := by decide +kernel
theorem w_running : about1.status = .running := rfl
set_option maxRecDepth 65536 in
theorem w_room : about1.hasRoom e0.platform room_1 = true :=
  launch0.hasRoom_least _ room_1 (by decide +kernel) (by decide +kernel) (by decide +kernel) (by decide +kernel) (by decide +kernel) (by decide +kernel)
theorem allAtoms_all (ts : List Jvm.Cond) (a : Array Jvm.Value) (st : Jvm.State) : (allAtoms ts).before a st = ts.all (fun c => c.before a st) := by
  induction ts with
  | nil => rfl
  | cons c t ih =>
    show (Jvm.Cond.and c (allAtoms t)).before a st = _
    rw [Jvm.Cond.before_and, ih, List.all_cons]
def words1 : List Jvm.Cond := Jvm.Cond.code x code maxLocals ret :: tables_1
/-- a 'code' word, met by the world's own term for the bytes: nothing is compared byte by byte -/
theorem code_word {y : MethodName} {bytes : ByteArray} {mx : Nat} {rt : Option FieldType} {a : Array Value} {s : State} {m : MethodId} {meth : Method} {c : Code} (h1 : s.methodNamed? y = some m) (h2 : s.vm.method? m = some meth) (h3 : meth.code = some c) (h4 : c.code = bytes)
    (h5 : (c.maxLocals == mx && c.exceptionTable.isEmpty && decide (c.maxStack ≤ mostOperands) && decide (meth.sig.returnType = rt) && !meth.locks && decide (parseMethodDescriptor y.desc = some meth.sig)) = true) : (Jvm.Cond.code y bytes mx rt).before a s = true := by
  simp only [Bool.and_eq_true, beq_iff_eq, Bool.not_eq_true', decide_eq_true_eq] at h5
  obtain ⟨⟨⟨⟨⟨g1, g2⟩, g3⟩, g4⟩, g5⟩, g6⟩ := h5
  simp [Cond.before, Cond.holds, Cond.value, h1, h2, h3, h4, g1, g2, g3, g4, g5, g6]
def isCode : Jvm.Cond → Bool
  | .code _ _ _ _ => true
  | _ => false
theorem all_split {L : List Jvm.Cond} {P : Jvm.Cond → Bool} (h1 : L.all (fun c => isCode c || P c) = true) (h2 : ∀ c ∈ L.filter isCode, P c = true) : L.all P = true := by
  refine List.all_eq_true.mpr fun c hc => ?_
  have h := List.all_eq_true.mp h1 c hc
  rcases Bool.eq_false_or_eq_true (isCode c) with hi | hi
  · exact h2 c (List.mem_filter.mpr ⟨hc, hi⟩)
  · simpa [hi] using h
set_option maxRecDepth 65536 in
theorem w_c0 : (Jvm.Cond.code x code maxLocals ret).before args0 about1 = true := code_word (m := ⟨1, 1⟩) (meth := k1m1) (c := k1c1) (by decide +kernel) rfl rfl rfl (by decide +kernel)
set_option maxRecDepth 65536 in
theorem w_c1 : (Jvm.Cond.code ({ cls := "com/example/frozen_thread/frozenthread/cli/FormReporterAsksForJsonPinLaw", name := "make", desc := "(I)Ljava/lang/String;" } : Jvm.MethodName) method_3_code (4 : Nat) (Option.some (Jvm.ClassFile.FieldType.object "java/lang/String"))).before args0 about1 = true := code_word (m := ⟨1, 2⟩) (meth := k1m2) (c := k1c2) (by decide +kernel) rfl rfl rfl (by decide +kernel)
set_option maxRecDepth 65536 in
theorem w_c2 : (Jvm.Cond.code ({ cls := "java/lang/String", name := "<init>", desc := "([C)V" } : Jvm.MethodName) jdk_42_method_3_code (2 : Nat) (Option.none : Option Jvm.ClassFile.FieldType)).before args0 about1 = true := code_word (m := ⟨7, 1⟩) (meth := k7m1) (c := k7c1) (by decide +kernel) rfl rfl rfl (by decide +kernel)
set_option maxRecDepth 65536 in
theorem w_c3 : (Jvm.Cond.code ({ cls := "java/lang/String", name := "<init>", desc := "([CIILjava/lang/Void;)V" } : Jvm.MethodName) jdk_42_method_149_code (6 : Nat) (Option.none : Option Jvm.ClassFile.FieldType)).before args0 about1 = true := code_word (m := ⟨7, 4⟩) (meth := k7m4) (c := k7c4) (by decide +kernel) rfl rfl rfl (by decide +kernel)
set_option maxRecDepth 65536 in
theorem w_c4 : (Jvm.Cond.code ({ cls := "java/lang/Object", name := "<init>", desc := "()V" } : Jvm.MethodName) object_method_1_code (1 : Nat) (Option.none : Option Jvm.ClassFile.FieldType)).before args0 about1 = true := code_word (m := ⟨0, 0⟩) (meth := k0m0) (c := k0c0) (by decide +kernel) rfl rfl rfl (by decide +kernel)
set_option maxRecDepth 65536 in
theorem w_c5 : (Jvm.Cond.code ({ cls := "java/lang/StringUTF16", name := "compress", desc := "([CII)[B" } : Jvm.MethodName) jdk_52_method_16_code (6 : Nat) (Option.some (Jvm.ClassFile.FieldType.array Jvm.ClassFile.FieldType.byte))).before args0 about1 = true := code_word (m := ⟨8, 2⟩) (meth := k8m2) (c := k8c2) (by decide +kernel) rfl rfl rfl (by decide +kernel)
set_option maxRecDepth 65536 in
theorem w_c6 : (Jvm.Cond.code ({ cls := "java/lang/StringUTF16", name := "compress", desc := "([CI[BII)I" } : Jvm.MethodName) jdk_52_method_21_code (7 : Nat) (Option.some Jvm.ClassFile.FieldType.int)).before args0 about1 = true := code_word (m := ⟨8, 3⟩) (meth := k8m3) (c := k8c3) (by decide +kernel) rfl rfl rfl (by decide +kernel)
set_option maxRecDepth 65536 in
theorem w_c7 : (Jvm.Cond.code ({ cls := "java/lang/StringUTF16", name := "coderFromArrayLen", desc := "([BI)B" } : Jvm.MethodName) jdk_52_method_15_code (2 : Nat) (Option.some Jvm.ClassFile.FieldType.byte)).before args0 about1 = true := code_word (m := ⟨8, 1⟩) (meth := k8m1) (c := k8c1) (by decide +kernel) rfl rfl rfl (by decide +kernel)
set_option maxRecDepth 65536 in
theorem w_c8 : (Jvm.Cond.code ({ cls := "com/example/frozen_thread/frozenthread/cli/FormReporter", name := "asksForJson", desc := "([Ljava/lang/String;)Z" } : Jvm.MethodName) prog_35_method_2_code (5 : Nat) (Option.some Jvm.ClassFile.FieldType.boolean)).before args0 about1 = true := code_word (m := ⟨10, 0⟩) (meth := k10m0) (c := k10c0) (by decide +kernel) rfl rfl rfl (by decide +kernel)
set_option maxRecDepth 65536 in
theorem w_c9 : (Jvm.Cond.code ({ cls := "com/example/frozen_thread/frozenthread/cli/FormReporterAsksForJsonPinLaw", name := "isJson", desc := "(I)Z" } : Jvm.MethodName) method_4_code (4 : Nat) (Option.some Jvm.ClassFile.FieldType.boolean)).before args0 about1 = true := code_word (m := ⟨1, 3⟩) (meth := k1m3) (c := k1c3) (by decide +kernel) rfl rfl rfl (by decide +kernel)
set_option maxRecDepth 65536 in
theorem w_c10 : (Jvm.Cond.code ({ cls := "java/lang/String", name := "equals", desc := "(Ljava/lang/Object;)Z" } : Jvm.MethodName) jdk_42_method_66_code (3 : Nat) (Option.some Jvm.ClassFile.FieldType.boolean)).before args0 about1 = true := code_word (m := ⟨7, 3⟩) (meth := k7m3) (c := k7c3) (by decide +kernel) rfl rfl rfl (by decide +kernel)
set_option maxRecDepth 65536 in
theorem w_c11 : (Jvm.Cond.code ({ cls := "java/lang/StringLatin1", name := "equals", desc := "([B[B)Z" } : Jvm.MethodName) jdk_43_method_13_code (3 : Nat) (Option.some Jvm.ClassFile.FieldType.boolean)).before args0 about1 = true := code_word (m := ⟨11, 2⟩) (meth := k11m2) (c := k11c2) (by decide +kernel) rfl rfl rfl (by decide +kernel)
set_option maxRecDepth 65536 in
theorem w_c12 : (Jvm.Cond.code ({ cls := "java/lang/String", name := "charAt", desc := "(I)C" } : Jvm.MethodName) jdk_42_method_56_code (2 : Nat) (Option.some Jvm.ClassFile.FieldType.char)).before args0 about1 = true := code_word (m := ⟨7, 2⟩) (meth := k7m2) (c := k7c2) (by decide +kernel) rfl rfl rfl (by decide +kernel)
set_option maxRecDepth 65536 in
theorem w_c13 : (Jvm.Cond.code ({ cls := "java/lang/String", name := "isLatin1", desc := "()Z" } : Jvm.MethodName) jdk_42_method_154_code (1 : Nat) (Option.some Jvm.ClassFile.FieldType.boolean)).before args0 about1 = true := code_word (m := ⟨7, 5⟩) (meth := k7m5) (c := k7c5) (by decide +kernel) rfl rfl rfl (by decide +kernel)
set_option maxRecDepth 65536 in
theorem w_c14 : (Jvm.Cond.code ({ cls := "java/lang/StringLatin1", name := "charAt", desc := "([BI)C" } : Jvm.MethodName) jdk_43_method_2_code (2 : Nat) (Option.some Jvm.ClassFile.FieldType.char)).before args0 about1 = true := code_word (m := ⟨11, 1⟩) (meth := k11m1) (c := k11c1) (by decide +kernel) rfl rfl rfl (by decide +kernel)
set_option maxRecDepth 65536 in
theorem w_c15 : (Jvm.Cond.code ({ cls := "java/lang/String", name := "checkIndex", desc := "(II)V" } : Jvm.MethodName) jdk_42_method_155_code (2 : Nat) (Option.none : Option Jvm.ClassFile.FieldType)).before args0 about1 = true := code_word (m := ⟨7, 6⟩) (meth := k7m6) (c := k7c6) (by decide +kernel) rfl rfl rfl (by decide +kernel)
set_option maxRecDepth 65536 in
theorem w_c16 : (Jvm.Cond.code ({ cls := "jdk/internal/util/Preconditions", name := "checkIndex", desc := "(IILjava/util/function/BiFunction;)I" } : Jvm.MethodName) jdk_41_method_11_code (3 : Nat) (Option.some Jvm.ClassFile.FieldType.int)).before args0 about1 = true := code_word (m := ⟨12, 1⟩) (meth := k12m1) (c := k12c1) (by decide +kernel) rfl rfl rfl (by decide +kernel)
def codes1 : List Jvm.Cond := [Jvm.Cond.code x code maxLocals ret, Jvm.Cond.code ({ cls := "com/example/frozen_thread/frozenthread/cli/FormReporterAsksForJsonPinLaw", name := "make", desc := "(I)Ljava/lang/String;" } : Jvm.MethodName) method_3_code (4 : Nat) (Option.some (Jvm.ClassFile.FieldType.object "java/lang/String")), Jvm.Cond.code ({ cls := "java/lang/String", name := "<init>", desc := "([C)V" } : Jvm.MethodName) jdk_42_method_3_code (2 : Nat) (Option.none : Option Jvm.ClassFile.FieldType), Jvm.Cond.code ({ cls := "java/lang/String", name := "<init>", desc := "([CIILjava/lang/Void;)V" } : Jvm.MethodName) jdk_42_method_149_code (6 : Nat) (Option.none : Option Jvm.ClassFile.FieldType), Jvm.Cond.code ({ cls := "java/lang/Object", name := "<init>", desc := "()V" } : Jvm.MethodName) object_method_1_code (1 : Nat) (Option.none : Option Jvm.ClassFile.FieldType), Jvm.Cond.code ({ cls := "java/lang/StringUTF16", name := "compress", desc := "([CII)[B" } : Jvm.MethodName) jdk_52_method_16_code (6 : Nat) (Option.some (Jvm.ClassFile.FieldType.array Jvm.ClassFile.FieldType.byte)), Jvm.Cond.code ({ cls := "java/lang/StringUTF16", name := "compress", desc := "([CI[BII)I" } : Jvm.MethodName) jdk_52_method_21_code (7 : Nat) (Option.some Jvm.ClassFile.FieldType.int), Jvm.Cond.code ({ cls := "java/lang/StringUTF16", name := "coderFromArrayLen", desc := "([BI)B" } : Jvm.MethodName) jdk_52_method_15_code (2 : Nat) (Option.some Jvm.ClassFile.FieldType.byte), Jvm.Cond.code ({ cls := "com/example/frozen_thread/frozenthread/cli/FormReporter", name := "asksForJson", desc := "([Ljava/lang/String;)Z" } : Jvm.MethodName) prog_35_method_2_code (5 : Nat) (Option.some Jvm.ClassFile.FieldType.boolean), Jvm.Cond.code ({ cls := "com/example/frozen_thread/frozenthread/cli/FormReporterAsksForJsonPinLaw", name := "isJson", desc := "(I)Z" } : Jvm.MethodName) method_4_code (4 : Nat) (Option.some Jvm.ClassFile.FieldType.boolean), Jvm.Cond.code ({ cls := "java/lang/String", name := "equals", desc := "(Ljava/lang/Object;)Z" } : Jvm.MethodName) jdk_42_method_66_code (3 : Nat) (Option.some Jvm.ClassFile.FieldType.boolean), Jvm.Cond.code ({ cls := "java/lang/StringLatin1", name := "equals", desc := "([B[B)Z" } : Jvm.MethodName) jdk_43_method_13_code (3 : Nat) (Option.some Jvm.ClassFile.FieldType.boolean), Jvm.Cond.code ({ cls := "java/lang/String", name := "charAt", desc := "(I)C" } : Jvm.MethodName) jdk_42_method_56_code (2 : Nat) (Option.some Jvm.ClassFile.FieldType.char), Jvm.Cond.code ({ cls := "java/lang/String", name := "isLatin1", desc := "()Z" } : Jvm.MethodName) jdk_42_method_154_code (1 : Nat) (Option.some Jvm.ClassFile.FieldType.boolean), Jvm.Cond.code ({ cls := "java/lang/StringLatin1", name := "charAt", desc := "([BI)C" } : Jvm.MethodName) jdk_43_method_2_code (2 : Nat) (Option.some Jvm.ClassFile.FieldType.char), Jvm.Cond.code ({ cls := "java/lang/String", name := "checkIndex", desc := "(II)V" } : Jvm.MethodName) jdk_42_method_155_code (2 : Nat) (Option.none : Option Jvm.ClassFile.FieldType), Jvm.Cond.code ({ cls := "jdk/internal/util/Preconditions", name := "checkIndex", desc := "(IILjava/util/function/BiFunction;)I" } : Jvm.MethodName) jdk_41_method_11_code (3 : Nat) (Option.some Jvm.ClassFile.FieldType.int)]
set_option maxRecDepth 65536 in
theorem codes_eq : words1.filter isCode = codes1 := rfl
theorem w_codes : ∀ c ∈ words1.filter isCode, c.before args0 about1 = true := by
  rw [codes_eq]
  intro c hc
  simp only [codes1, List.mem_cons, List.not_mem_nil, or_false] at hc
  rcases hc with rfl | rfl | rfl | rfl | rfl | rfl | rfl | rfl | rfl | rfl | rfl | rfl | rfl | rfl | rfl | rfl | rfl
  · exact w_c0
  · exact w_c1
  · exact w_c2
  · exact w_c3
  · exact w_c4
  · exact w_c5
  · exact w_c6
  · exact w_c7
  · exact w_c8
  · exact w_c9
  · exact w_c10
  · exact w_c11
  · exact w_c12
  · exact w_c13
  · exact w_c14
  · exact w_c15
  · exact w_c16
set_option maxRecDepth 65536 in
theorem w_t1 : (words1.take 24).all (fun c => isCode c || c.before args0 about1) = true := by decide +kernel
set_option maxRecDepth 65536 in
theorem w_t2 : ((words1.drop 24).take 24).all (fun c => isCode c || c.before args0 about1) = true := by decide +kernel
set_option maxRecDepth 65536 in
theorem w_t3 : (((words1.drop 24).drop 24).take 24).all (fun c => isCode c || c.before args0 about1) = true := by decide +kernel
set_option maxRecDepth 65536 in
theorem w_t4 : (((words1.drop 24).drop 24).drop 24).all (fun c => isCode c || c.before args0 about1) = true := by decide +kernel
theorem w_tables : (allAtoms (Jvm.Cond.code x code maxLocals ret :: tables_1)).before args0 about1 = true := by
  rw [allAtoms_all]
  show words1.all (fun c => c.before args0 about1) = true
  refine all_split ?_ w_codes
  rw [← List.take_append_drop 24 words1, List.all_append, w_t1, ← List.take_append_drop 24 (words1.drop 24), List.all_append, w_t2, ← List.take_append_drop 24 ((words1.drop 24).drop 24), List.all_append, w_t3, w_t4]
  rfl
set_option maxRecDepth 65536 in
theorem w_rest : rest_1_c.before args0 about1 = true := by decide +kernel
set_option maxRecDepth 65536 in
theorem w_case : (Jvm.Cond.and given_1 narrow_1).before args0 about1 = true := by decide +kernel
set_option maxRecDepth 65536 in
theorem w_consts : constsHeld consts_1 about1 := Jvm.Lit.constsHeldB_iff.mp (by decide +kernel)
theorem w_applies : (headSpec (Jvm.Cond.code x code maxLocals ret :: tables_1) room_1).applies x e0.platform about1 = true :=
  (Spec.applies_iff w_frames).mpr ⟨w_running, w_runnable, w_alone, w_named, w_hears, w_ripe, w_room, w_tables⟩
theorem atStart : AtStart classFile x code maxLocals ret World_1 tables_1 room_1 Calls_1 rest_1 Pre_1 launch0 p0 e0 about1 theMethod args0 below0 :=
  ⟨lists_1, trivial, launch0.admits_env _ _ _, launch0.least_env, fairChoices_fair.cas, fairChoices_fair.clock, w_frames, w_args, w_heap, w_applies, ⟨w_consts, trivial⟩, w_rest, w_case⟩
end start1
theorem witness_1 : WitnessClaimed_1 := ⟨start1.p0, start1.e0, start1.about1, start1.theMethod, start1.args0, start1.below0, start1.atStart⟩
end Jvm.Pilot.@@N@@
