import JvmDerived
import JvmDerived.Pilot.@@N@@Statement
import JvmDerived.Pilot.@@N@@Code
set_option linter.unusedVariables false
set_option linter.unusedSimpArgs false
/- laws to paste: Road.backV, Road.chN, Road.codOf (cut by pick.py; bodies as the Statement names them) -/
namespace Jvm.Pilot.@@N@@
namespace StrChars
open Jvm Sem ClassFile Op Lib Jvm.Stand Jvm.Free.XT Jvm.Free.ALB Jvm.Free.JM Jvm.Free
open Jvm.Lib.Cold (StaticIs)
/-- a char array whose places are chars -/
def Ch (a : Addr) (A : Cell) (U : State) : Prop := Arr .char a A U ∧ Typed .char A
theorem Ch.mv {a : Addr} {A : Cell} {U U' : State} (h : Ch a A U) (hal : U.vm.Alike U'.vm) (hh : U'.heap = U.heap) : Ch a A U' := ⟨h.1.mv hal hh, h.2⟩
theorem Ch.keep {a : Addr} {A : Cell} {U U' : State} (h : Ch a A U) (hal : U.vm.Alike U'.vm) (hk : U'.heap[a]? = some A) : Ch a A U' := ⟨h.1.keep hal hk, h.2⟩
/-- what place i of a char[]'s cell holds -/
def cv (A : Cell) (i : Nat) : Int32 := match A.slots[i]? with | some (.int x) => x | _ => 0
theorem Ch.get {a : Addr} {A : Cell} {U : State} (h : Ch a A U) {i : Nat} (hi : i < A.slots.size) : A.slots[i]? = some (.int (cv A i)) := by
  have e := Array.getElem?_eq_getElem hi
  have f := h.2 i _ e
  unfold cv; rw [e]
  generalize A.slots[i] = v at f
  cases v <;> simp [fits] at f ⊢
/-- the byte that i2b leaves of a char -/
def lo8 (x : Int32) : Int32 := x.toInt8.toInt32
theorem fits_lo8 (y : Int32) : fits .byte (.int (lo8 y)) = true := by
  have h1 := y.toInt8.le_toInt
  have h2 := y.toInt8.toInt_lt
  simp only [lo8, fits, Bool.and_eq_true, decide_eq_true_eq, Int32.le_iff_toInt_le, Int8.toInt_toInt32, show (-128 : Int32).toInt = -128 from by decide, show (127 : Int32).toInt = 127 from by decide]
  omega
/-- A' is A but that each place j of lo .. hi - 1 holds f j -/
def Laid (A A' : Cell) (lo hi : Nat) (f : Nat → Value) : Prop := A'.cls = A.cls ∧ A'.vm = A.vm ∧ A'.slots.size = A.slots.size ∧ ∀ i, A'.slots[i]? = if lo ≤ i ∧ i < hi then some (f i) else A.slots[i]?
theorem Laid.zero (A : Cell) (lo : Nat) (f : Nat → Value) : Laid A A lo (lo + 0) f := ⟨rfl, rfl, rfl, fun i => by rw [if_neg (by omega)]⟩
theorem Laid.step {A Ak : Cell} {lo k : Nat} {f : Nat → Value} {v : Value} (h : Laid A Ak lo k f) (hlo : lo ≤ k) (hk : k < Ak.slots.size) (hv : v = f k) : Laid A (Ak.setSlot k v) lo (k + 1) f := by
  refine ⟨h.1, h.2.1, by simpa [Cell.setSlot] using h.2.2.1, fun i => ?_⟩
  by_cases e : k = i
  · subst e; rw [Cell.slots_setSlot_self v hk, if_pos (by omega), hv]
  · rw [Cell.slots_setSlot_ne v e, h.2.2.2 i]
    by_cases q : lo ≤ i ∧ i < k
    · rw [if_pos q, if_pos (by omega)]
    · rw [if_neg q, if_neg (by omega)]
def U16 : String := "java/lang/StringUTF16"
namespace Cmp5
def yN : MethodName := ⟨"java/lang/StringUTF16", "compress", "([CI[BII)I"⟩
abbrev yB : ByteArray := jdk_52_method_21_code
theorem d0 : decode yB 0 = .ok (.iconst 0, 1) := by decide +kernel
theorem d1 : decode yB 1 = .ok (.istore 5, 2) := by decide +kernel
theorem d3 : decode yB 3 = .ok (.iload 5, 2) := by decide +kernel
theorem d5 : decode yB 5 = .ok (.iload 4, 2) := by decide +kernel
theorem d7 : decode yB 7 = .ok (.if_icmp (.ge) 37, 3) := by decide +kernel
theorem d10 : decode yB 10 = .ok (.aload_n 0, 1) := by decide +kernel
theorem d11 : decode yB 11 = .ok (.iload_n 1, 1) := by decide +kernel
theorem d12 : decode yB 12 = .ok (.caload, 1) := by decide +kernel
theorem d13 : decode yB 13 = .ok (.istore 6, 2) := by decide +kernel
theorem d15 : decode yB 15 = .ok (.iload 6, 2) := by decide +kernel
theorem d17 : decode yB 17 = .ok (.sipush 255, 3) := by decide +kernel
theorem d20 : decode yB 20 = .ok (.if_icmp (.le) 6, 3) := by decide +kernel
theorem d26 : decode yB 26 = .ok (.aload_n 2, 1) := by decide +kernel
theorem d27 : decode yB 27 = .ok (.iload_n 3, 1) := by decide +kernel
theorem d28 : decode yB 28 = .ok (.iload 6, 2) := by decide +kernel
theorem d30 : decode yB 30 = .ok (.i2b, 1) := by decide +kernel
theorem d31 : decode yB 31 = .ok (.bastore, 1) := by decide +kernel
theorem d32 : decode yB 32 = .ok (.iinc 1 1, 3) := by decide +kernel
theorem d35 : decode yB 35 = .ok (.iinc 3 1, 3) := by decide +kernel
theorem d38 : decode yB 38 = .ok (.iinc 5 1, 3) := by decide +kernel
theorem d41 : decode yB 41 = .ok (.goto (-38), 3) := by decide +kernel
theorem d44 : decode yB 44 = .ok (.iload 4, 2) := by decide +kernel
theorem d46 : decode yB 46 = .ok (.ireturn, 1) := by decide +kernel
def site : List Cond := []
def tab : Cond := tabOf yN yB 7 (some .int) site
def P (b : Addr) (A : Cell) (d : Addr) (B : Cell) (o q len : Nat) (args : Array Value) (s : State) : Prop := args = #[.ref b, .int (Int32.ofNat o), .ref d, .int (Int32.ofNat q), .int (Int32.ofNat len)] ∧ Ch b A s ∧ Arr .byte d B s ∧ b ≠ d ∧ o + len ≤ A.slots.size ∧ q + len ≤ B.slots.size ∧ ∀ i, i < len → ¬ 255 < cv A (o + i)
def E (b : Addr) (A : Cell) (d : Addr) (B : Cell) (o q len : Nat) (r : Option Value) (s u : State) : Prop := r = some (.int (Int32.ofNat len)) ∧ ∃ B', Put d B' s u ∧ Laid B B' q (q + len) (fun j => Value.int (lo8 (cv A (o + (j - q)))))
/-- no char of the range above 255: len; the places written hold each char's low byte -/
theorem law (l : Launch) (b : Addr) (A : Cell) (d : Addr) (B : Cell) (o q len : Nat) : Law l yN 5 5 0 0 yB 7 (some .int) site (P b A d B o q len) (E b A d B o q len) (copyLocs d q len) 0 0 := by
  refine Law.of_walk (plainFor_of_name (by decide +kernel)) (by decide +kernel) (by decide +kernel) (by decide) (fun _ _ h => by rw [h.1]; rfl) (fun _ U U' hal hh h => ⟨h.1, h.2.1.mv hal hh, h.2.2.1.mv hal hh, h.2.2.2⟩) (fun r U U' V V' h1 hal h2 h => ⟨h.1, h.2.elim fun B' q => ⟨B', q.1.mv h1 h2, q.2⟩⟩) ?_
  intro p e s m args below meth c s₁ X0 hexec hbytes hml hret hlk hnm hown hh0 W hP
  obtain ⟨rfl, hA, hB, hne, l1, l2, hp⟩ := hP
  have c1 : Steps p.tables e below (s₁.setTop (entryFrame m #[.ref b, .int (Int32.ofNat o), .ref d, .int (Int32.ofNat q), .int (Int32.ofNat len)] 7)) (s₁.setTop (mkF m 0 #[.val (.ref b), .val (.int (Int32.ofNat o)), .val (.ref d), .val (.int (Int32.ofNat q)), .val (.int (Int32.ofNat len)), .unset, .unset] [])) := entry rfl
  have hA0 := hA.1.mv X0.warmed.alike hh0
  have hB0 := hB.mv X0.warmed.alike hh0
  have a31 := hA.1.2.2.2
  have c2 : Steps p.tables e below (s₁.setTop (entryFrame m #[.ref b, .int (Int32.ofNat o), .ref d, .int (Int32.ofNat q), .int (Int32.ofNat len)] 7)) (s₁.setTop (mkF m 3 #[.val (.ref b), .val (.int (Int32.ofNat o)), .val (.ref d), .val (.int (Int32.ofNat q)), .val (.int (Int32.ofNat len)), .val (.int 0), .unset] [])) := c1.trans (by
    refine iconstV X0.here hexec rfl 0 (hb hbytes d0) (by decide) ?_
    refine XS.istore X0.here hexec rfl (hb hbytes d1) rfl rfl ?_
    exact Steps.refl _)
  have loop : ∀ (r i : Nat), i + r = len → ∀ (z : Slot), (z = .unset ∨ ∃ w, z = .val w ∧ w.category = 1) → ∀ (Tl : State) (Bk : Cell), Stand p l e { frames := 0, locals := 0, cells := 0, slots := 0 } s m #[.ref b, .int (Int32.ofNat o), .ref d, .int (Int32.ofNat q), .int (Int32.ofNat len)] below meth c Tl ([] ++ copyLocs d q i) 0 0 → Put d Bk s₁ Tl → Laid B Bk q (q + i) (fun j => Value.int (lo8 (cv A (o + (j - q))))) →
      Steps p.tables e below (s₁.setTop (entryFrame m #[.ref b, .int (Int32.ofNat o), .ref d, .int (Int32.ofNat q), .int (Int32.ofNat len)] 7)) (Tl.setTop (mkF m 3 #[.val (.ref b), .val (.int (Int32.ofNat (o + i))), .val (.ref d), .val (.int (Int32.ofNat (q + i))), .val (.int (Int32.ofNat len)), .val (.int (Int32.ofNat i)), z] [])) → ∃ (T' : State) (B' : Cell) (z' : Slot), Stand p l e { frames := 0, locals := 0, cells := 0, slots := 0 } s m #[.ref b, .int (Int32.ofNat o), .ref d, .int (Int32.ofNat q), .int (Int32.ofNat len)] below meth c T' ([] ++ copyLocs d q len) 0 0 ∧ Put d B' s₁ T' ∧ Laid B B' q (q + len) (fun j => Value.int (lo8 (cv A (o + (j - q))))) ∧
      Steps p.tables e below (s₁.setTop (entryFrame m #[.ref b, .int (Int32.ofNat o), .ref d, .int (Int32.ofNat q), .int (Int32.ofNat len)] 7)) (T'.setTop (mkF m 3 #[.val (.ref b), .val (.int (Int32.ofNat (o + len))), .val (.ref d), .val (.int (Int32.ofNat (q + len))), .val (.int (Int32.ofNat len)), .val (.int (Int32.ofNat len)), z'] [])) := by
    intro r
    induction r with
    | zero =>
      intro i hi z hz Tl Bk Xl pl fl cl
      have hil : i = len := by omega
      rw [hil] at Xl fl cl
      exact ⟨Tl, Bk, z, Xl, pl, fl, cl⟩
    | succ r ih =>
      intro i hi z hz Tl Bk Xl pl fl cl
      have all := X0.warmed.alike.symm.trans Xl.warmed.alike
      have hAl := hA0.keep all (pl.other hne hA0.1)
      have hBk := hB0.like all pl.1 fl.1 fl.2.1 fl.2.2.1
      have hlt : q + i < Bk.slots.size := by rw [fl.2.2.1]; omega
      have c3 : Steps p.tables e below (s₁.setTop (entryFrame m #[.ref b, .int (Int32.ofNat o), .ref d, .int (Int32.ofNat q), .int (Int32.ofNat len)] 7)) (Tl.setTop (mkF m 12 #[.val (.ref b), .val (.int (Int32.ofNat (o + i))), .val (.ref d), .val (.int (Int32.ofNat (q + i))), .val (.int (Int32.ofNat len)), .val (.int (Int32.ofNat i)), z] [.int (Int32.ofNat (o + i)), .ref b])) := cl.trans (by
        refine XS.iload Xl.here hexec rfl (hb hbytes d3) rfl ?_
        refine XS.iload Xl.here hexec rfl (hb hbytes d5) rfl ?_
        refine XS.icmpNo Xl.here hexec rfl (hb hbytes d7) rfl (ii_ge_f (lt32 (by omega) (by omega))) ?_
        refine XS.aloadN Xl.here hexec rfl (hb hbytes d10) rfl rfl ?_
        refine XS.iloadN Xl.here hexec rfl (hb hbytes d11) rfl ?_
        exact Steps.refl _)
      have c4 : Steps p.tables e below (s₁.setTop (entryFrame m #[.ref b, .int (Int32.ofNat o), .ref d, .int (Int32.ofNat q), .int (Int32.ofNat len)] 7)) (Tl.setTop (mkF m 13 #[.val (.ref b), .val (.int (Int32.ofNat (o + i))), .val (.ref d), .val (.int (Int32.ofNat (q + i))), .val (.int (Int32.ofNat len)), .val (.int (Int32.ofNat i)), z] [.int (cv A (o + i))])) := c3.trans (by
        refine Xl.aget hexec hAl rfl (hA.get (i := o + i) (by omega)) rfl rfl (hb hbytes d12) ?_
        exact Steps.refl _)
      have c5 : Steps p.tables e below (s₁.setTop (entryFrame m #[.ref b, .int (Int32.ofNat o), .ref d, .int (Int32.ofNat q), .int (Int32.ofNat len)] 7)) (Tl.setTop (mkF m 15 #[.val (.ref b), .val (.int (Int32.ofNat (o + i))), .val (.ref d), .val (.int (Int32.ofNat (q + i))), .val (.int (Int32.ofNat len)), .val (.int (Int32.ofNat i)), .val (.int (cv A (o + i)))] [])) := c4.trans (by
        refine XS.istoreS Xl.here hexec rfl (hb hbytes d13) rfl rfl hz ?_
        exact Steps.refl _)
      have c6 : Steps p.tables e below (s₁.setTop (entryFrame m #[.ref b, .int (Int32.ofNat o), .ref d, .int (Int32.ofNat q), .int (Int32.ofNat len)] 7)) (Tl.setTop (mkF m 31 #[.val (.ref b), .val (.int (Int32.ofNat (o + i))), .val (.ref d), .val (.int (Int32.ofNat (q + i))), .val (.int (Int32.ofNat len)), .val (.int (Int32.ofNat i)), .val (.int (cv A (o + i)))] [.int (lo8 (cv A (o + i))), .int (Int32.ofNat (q + i)), .ref d])) := c5.trans (by
        refine XS.iload Xl.here hexec rfl (hb hbytes d15) rfl ?_
        refine sipushV Xl.here hexec rfl 255 (hb hbytes d17) (by decide) ?_
        refine XS.icmpYes Xl.here hexec rfl (pc0 := 20) rfl (hb hbytes d20) rfl (ii_le_t (hp i (by omega))) (by decide) rfl ?_
        refine XS.aloadN Xl.here hexec rfl (hb hbytes d26) rfl rfl ?_
        refine XS.iloadN Xl.here hexec rfl (hb hbytes d27) rfl ?_
        refine XS.iload Xl.here hexec rfl (hb hbytes d28) rfl ?_
        refine i2b Xl.here hexec rfl (hb hbytes d30) rfl ?_
        exact Steps.refl _)
      obtain ⟨T7, X7, p7, st7⟩ := Xl.aput hexec hBk rfl hlt rfl (fits_lo8 (cv A (o + i))) (g := (mkF m 31 #[.val (.ref b), .val (.int (Int32.ofNat (o + i))), .val (.ref d), .val (.int (Int32.ofNat (q + i))), .val (.int (Int32.ofNat len)), .val (.int (Int32.ofNat i)), .val (.int (cv A (o + i)))] [.int (lo8 (cv A (o + i))), .int (Int32.ofNat (q + i)), .ref d])) rfl (rest := []) rfl (hb hbytes d31)
      have c8 : Steps p.tables e below (s₁.setTop (entryFrame m #[.ref b, .int (Int32.ofNat o), .ref d, .int (Int32.ofNat q), .int (Int32.ofNat len)] 7)) (T7.setTop (mkF m 32 #[.val (.ref b), .val (.int (Int32.ofNat (o + i))), .val (.ref d), .val (.int (Int32.ofNat (q + i))), .val (.int (Int32.ofNat len)), .val (.int (Int32.ofNat i)), .val (.int (cv A (o + i)))] [])) := c6.trans (st7 _ (Steps.refl _))
      have c9 : Steps p.tables e below (s₁.setTop (entryFrame m #[.ref b, .int (Int32.ofNat o), .ref d, .int (Int32.ofNat q), .int (Int32.ofNat len)] 7)) (T7.setTop (mkF m 3 #[.val (.ref b), .val (.int (Int32.ofNat (o + i) + 1)), .val (.ref d), .val (.int (Int32.ofNat (q + i) + 1)), .val (.int (Int32.ofNat len)), .val (.int (Int32.ofNat i + 1)), .val (.int (cv A (o + i)))] [])) := c8.trans (by
        refine iincV X7.here hexec rfl 1 (hb hbytes d32) (by decide) rfl rfl ?_
        refine iincV X7.here hexec rfl 1 (hb hbytes d35) (by decide) rfl rfl ?_
        refine iincV X7.here hexec rfl 1 (hb hbytes d38) (by decide) rfl rfl ?_
        refine XS.goto X7.here hexec rfl (pc0 := 41) rfl (hb hbytes d41) (by decide) rfl ?_
        exact Steps.refl _)
      have c10 : Steps p.tables e below (s₁.setTop (entryFrame m #[.ref b, .int (Int32.ofNat o), .ref d, .int (Int32.ofNat q), .int (Int32.ofNat len)] 7)) (T7.setTop (mkF m 3 #[.val (.ref b), .val (.int (Int32.ofNat (o + (i + 1)))), .val (.ref d), .val (.int (Int32.ofNat (q + (i + 1)))), .val (.int (Int32.ofNat len)), .val (.int (Int32.ofNat (i + 1))), .val (.int (cv A (o + i)))] [])) := by
        have := c9
        rw [succ32, succ32, succ32] at this
        exact this
      exact ih (i + 1) (by omega) _ (Or.inr ⟨_, rfl, rfl⟩) T7 _ (by rw [copyLocs_step, ← List.append_assoc]; exact X7) (pl.trans p7) (fl.step (by omega) hlt (by simp)) c10
  obtain ⟨T9, B9, z9, X9, p9, f9, g9⟩ := loop len 0 (by omega) .unset (Or.inl rfl) s₁ B (by simpa [copyLocs] using X0) ⟨hB0.1, fun _ _ => rfl, rfl⟩ (Laid.zero _ _ _) c2
  have c11 : Steps p.tables e below (s₁.setTop (entryFrame m #[.ref b, .int (Int32.ofNat o), .ref d, .int (Int32.ofNat q), .int (Int32.ofNat len)] 7)) (T9.setTop (mkF m 46 #[.val (.ref b), .val (.int (Int32.ofNat (o + len))), .val (.ref d), .val (.int (Int32.ofNat (q + len))), .val (.int (Int32.ofNat len)), .val (.int (Int32.ofNat len)), z9] [.int (Int32.ofNat len)])) := g9.trans (by
    refine XS.iload X9.here hexec rfl (hb hbytes d3) rfl ?_
    refine XS.iload X9.here hexec rfl (hb hbytes d5) rfl ?_
    refine XS.icmpYes X9.here hexec rfl (pc0 := 7) rfl (hb hbytes d7) rfl (ii_ge_t (nlt32 (by omega) (Nat.le_refl _))) (by decide) rfl ?_
    refine XS.iload X9.here hexec rfl (hb hbytes d44) rfl ?_
    exact Steps.refl _)
  exact ⟨T9, some (.int (Int32.ofNat len)), _, _, _, X9, by simp, rfl, rfl, (fun h => by cases h), ⟨rfl, B9, p9.from hh0, f9⟩, fun fs hl => c11.trans (X9.ireturnOut hexec hret rfl (Or.inl rfl) (hb hbytes d46) hl)⟩
end Cmp5
namespace Cmp3
def yN : MethodName := ⟨"java/lang/StringUTF16", "compress", "([CII)[B"⟩
abbrev yB : ByteArray := jdk_52_method_16_code
theorem d0 : decode yB 0 = .ok (.iload_n 2, 1) := by decide +kernel
theorem d1 : decode yB 1 = .ok (.newarray .byte, 2) := by decide +kernel
theorem d3 : decode yB 3 = .ok (.astore_n 3, 1) := by decide +kernel
theorem d4 : decode yB 4 = .ok (.aload_n 0, 1) := by decide +kernel
theorem d5 : decode yB 5 = .ok (.iload_n 1, 1) := by decide +kernel
theorem d6 : decode yB 6 = .ok (.aload_n 3, 1) := by decide +kernel
theorem d7 : decode yB 7 = .ok (.iconst 0, 1) := by decide +kernel
theorem d8 : decode yB 8 = .ok (.iload_n 2, 1) := by decide +kernel
theorem d9 : decode yB 9 = .ok (.invokestatic 115, 3) := by decide +kernel
theorem d12 : decode yB 12 = .ok (.istore 4, 2) := by decide +kernel
theorem d14 : decode yB 14 = .ok (.iload 4, 2) := by decide +kernel
theorem d16 : decode yB 16 = .ok (.iload_n 2, 1) := by decide +kernel
theorem d17 : decode yB 17 = .ok (.if_icmp (.eq) 40, 3) := by decide +kernel
theorem d57 : decode yB 57 = .ok (.aload_n 3, 1) := by decide +kernel
theorem d58 : decode yB 58 = .ok (.areturn, 1) := by decide +kernel
def site : List Cond := [.arrayClass .byte, Cmp5.tab] ++ staticW U16 115 Cmp5.yN
def tab : Cond := tabOf yN yB 6 (some (.array .byte)) site
def P (b : Addr) (A : Cell) (o len : Nat) (args : Array Value) (s : State) : Prop := args = #[.ref b, .int (Int32.ofNat o), .int (Int32.ofNat len)] ∧ Ch b A s ∧ o + len ≤ A.slots.size ∧ len ≤ 536870912 ∧ ∀ i, i < len → ¬ 255 < cv A (o + i)
def E (b : Addr) (A : Cell) (o len : Nat) (r : Option Value) (s u : State) : Prop := NewArr .byte "[B" len (fun j => .int (lo8 (cv A (o + j)))) r s u ∧ u.heap.size = s.heap.size + 1
/-- no char of the range above 255: a new byte[] of their low bytes -/
theorem law (l : Launch) (b : Addr) (A : Cell) (o len : Nat) : Law l yN 3 3 1 18 yB 6 (some (.array .byte)) site (P b A o len) (E b A o len) [] 1 len := by
  refine Law.of_walk (plainFor_of_name (by decide +kernel)) (by decide +kernel) (by decide +kernel) (by decide) (fun _ _ h => by rw [h.1]; rfl) (fun _ U U' hal hh h => ⟨h.1, h.2.1.mv hal hh, h.2.2⟩) (fun r U U' V V' h1 hal h2 h => ⟨NewArr.mv r U U' V V' h1 hal h2 h.1, by rw [h1, h2]; exact h.2⟩) ?_
  intro p e s m args below meth c s₁ X0 hexec hbytes hml hret hlk hnm hown hh0 W hP
  obtain ⟨rfl, hA, l1, l2, hp⟩ := hP
  have a31 := hA.1.2.2.2
  have c1 : Steps p.tables e below (s₁.setTop (entryFrame m #[.ref b, .int (Int32.ofNat o), .int (Int32.ofNat len)] 6)) (s₁.setTop (mkF m 0 #[.val (.ref b), .val (.int (Int32.ofNat o)), .val (.int (Int32.ofNat len)), .unset, .unset, .unset] [])) := entry rfl
  have c2 : Steps p.tables e below (s₁.setTop (entryFrame m #[.ref b, .int (Int32.ofNat o), .int (Int32.ofNat len)] 6)) (s₁.setTop (mkF m 1 #[.val (.ref b), .val (.int (Int32.ofNat o)), .val (.int (Int32.ofNat len)), .unset, .unset, .unset] [.int (Int32.ofNat len)])) := c1.trans (by
    refine XS.iloadN X0.here hexec rfl (hb hbytes d0) rfl ?_
    exact Steps.refl _)
  obtain ⟨T3, B3, X3, ba3, bs3, bv3, bh3, bf3, st3⟩ := X0.anew hexec (atype := .byte) (wk W (.arrayClass .byte)) rfl (by show len * 1 ≤ _; omega) (by omega) (g := (mkF m 1 #[.val (.ref b), .val (.int (Int32.ofNat o)), .val (.int (Int32.ofNat len)), .unset, .unset, .unset] [.int (Int32.ofNat len)])) rfl (hb hbytes d1) (rest := []) rfl (Nat.le_refl _) (by show 0 + len ≤ len; omega)
  rw [hh0] at ba3 st3
  have kp3 : XT.Kept s T3 := (XT.Kept.of_eq hh0).push bh3
  have hA3 := hA.keep X3.warmed.alike (kp3 _ _ hA.1.1)
  have hne : b ≠ s.heap.size := hA.1.ne
  have c4 : Steps p.tables e below (s₁.setTop (entryFrame m #[.ref b, .int (Int32.ofNat o), .int (Int32.ofNat len)] 6)) (T3.setTop (mkF m 3 #[.val (.ref b), .val (.int (Int32.ofNat o)), .val (.int (Int32.ofNat len)), .unset, .unset, .unset] [.ref s.heap.size])) := c2.trans (st3 _ (Steps.refl _))
  have c5 : Steps p.tables e below (s₁.setTop (entryFrame m #[.ref b, .int (Int32.ofNat o), .int (Int32.ofNat len)] 6)) (T3.setTop (mkF m 9 #[.val (.ref b), .val (.int (Int32.ofNat o)), .val (.int (Int32.ofNat len)), .val (.ref s.heap.size), .unset, .unset] [.int (Int32.ofNat len), .int 0, .ref s.heap.size, .int (Int32.ofNat o), .ref b])) := c4.trans (by
    refine XS.astoreN X3.here hexec rfl (hb hbytes d3) rfl rfl rfl ?_
    refine XS.aloadN X3.here hexec rfl (hb hbytes d4) rfl rfl ?_
    refine XS.iloadN X3.here hexec rfl (hb hbytes d5) rfl ?_
    refine XS.aloadN X3.here hexec rfl (hb hbytes d6) rfl rfl ?_
    refine iconstV X3.here hexec rfl 0 (hb hbytes d7) (by decide) ?_
    refine XS.iloadN X3.here hexec rfl (hb hbytes d8) rfl ?_
    exact Steps.refl _)
  obtain ⟨v6, T6, X6, E6, g6⟩ := X3.callS hexec (Cmp5.law l b A s.heap.size B3 o 0 len) hown (wks W (staticW U16 115 Cmp5.yN)) (wk W Cmp5.tab) (W := 0) (Nat.le_of_ble_eq_true rfl) (Nat.le_of_ble_eq_true rfl) (Nat.le_refl _) (by show 0 + len + 0 ≤ len; omega) (g := (mkF m 9 #[.val (.ref b), .val (.int (Int32.ofNat o)), .val (.int (Int32.ofNat len)), .val (.ref s.heap.size), .unset, .unset] [.int (Int32.ofNat len), .int (Int32.ofNat 0), .ref s.heap.size, .int (Int32.ofNat o), .ref b])) rfl (by rw [hml]; rfl) c5 (argsL := [.ref b, .int (Int32.ofNat o), .ref s.heap.size, .int (Int32.ofNat 0), .int (Int32.ofNat len)]) (rest := []) rfl rfl (by show 2 * 0 + 0 ≤ _; decide) (hb hbytes d9) (⟨rfl, hA3, ba3, hne, l1, by rw [bs3]; simp, hp⟩)
  obtain ⟨rfl, B6, p6, f6⟩ := E6
  have c7 : Steps p.tables e below (s₁.setTop (entryFrame m #[.ref b, .int (Int32.ofNat o), .int (Int32.ofNat len)] 6)) (T6.setTop (mkF m 12 #[.val (.ref b), .val (.int (Int32.ofNat o)), .val (.int (Int32.ofNat len)), .val (.ref s.heap.size), .unset, .unset] [.int (Int32.ofNat len)])) := g6
  have c8 : Steps p.tables e below (s₁.setTop (entryFrame m #[.ref b, .int (Int32.ofNat o), .int (Int32.ofNat len)] 6)) (T6.setTop (mkF m 58 #[.val (.ref b), .val (.int (Int32.ofNat o)), .val (.int (Int32.ofNat len)), .val (.ref s.heap.size), .val (.int (Int32.ofNat len)), .unset] [.ref s.heap.size])) := c7.trans (by
    refine XS.istore X6.here hexec rfl (hb hbytes d12) rfl rfl ?_
    refine XS.iload X6.here hexec rfl (hb hbytes d14) rfl ?_
    refine XS.iloadN X6.here hexec rfl (hb hbytes d16) rfl ?_
    refine XS.icmpYes X6.here hexec rfl (pc0 := 17) rfl (hb hbytes d17) rfl (ii_eq_t rfl) (by decide) rfl ?_
    refine XS.aloadN X6.here hexec rfl (hb hbytes d57) rfl rfl ?_
    exact Steps.refl _)
  have X8 := X6.wide (L' := []) (cells' := 1) (slots' := len) (fun x hx hlt => by
    simp only [List.nil_append, copyLocs, List.mem_map, List.mem_range] at hx
    obtain ⟨i, -, rfl⟩ := hx
    exact absurd hlt (Nat.lt_irrefl _)) (Nat.le_refl _) (by omega)
  exact ⟨T6, some (.ref s.heap.size), _, _, _, X8, rfl, rfl, rfl, (fun h => by cases h), ⟨⟨rfl, B6, ba3.like (X3.warmed.alike.symm.trans X6.warmed.alike) p6.1 f6.1 f6.2.1 f6.2.2.1, f6.2.1.trans bv3, by rw [X6.warmed.alike.findClass, f6.1]; exact bf3, by rw [f6.2.2.1, bs3]; simp, fun j hj => by rw [f6.2.2.2 j, if_pos (by omega)]; rfl, kp3.put p6 (Nat.le_refl _)⟩, by rw [p6.2.2, bh3, hh0]; simp⟩, fun fs hl => c8.trans (X8.areturnOut hexec rfl hret rfl (hb hbytes d58) hl)⟩
end Cmp3
namespace CodL
def yN : MethodName := ⟨"java/lang/StringUTF16", "coderFromArrayLen", "([BI)B"⟩
abbrev yB : ByteArray := jdk_52_method_15_code
theorem d0 : decode yB 0 = .ok (.iload_n 1, 1) := by decide +kernel
theorem d1 : decode yB 1 = .ok (.aload_n 0, 1) := by decide +kernel
theorem d2 : decode yB 2 = .ok (.arraylength, 1) := by decide +kernel
theorem d3 : decode yB 3 = .ok (.isub, 1) := by decide +kernel
theorem d4 : decode yB 4 = .ok (.bipush 31, 2) := by decide +kernel
theorem d6 : decode yB 6 = .ok (.iushr, 1) := by decide +kernel
theorem d7 : decode yB 7 = .ok (.i2b, 1) := by decide +kernel
theorem d8 : decode yB 8 = .ok (.ireturn, 1) := by decide +kernel
def site : List Cond := []
def tab : Cond := tabOf yN yB 2 (some .byte) site
def P (d : Addr) (B : Cell) (args : Array Value) (s : State) : Prop := args = #[.ref d, .int (Int32.ofNat B.slots.size)] ∧ Arr .byte d B s
def E (r : Option Value) (s u : State) : Prop := XT.PureE (some (.int 0)) r s u
/-- an array as long as the number of chars: LATIN1 -/
theorem law (l : Launch) (d : Addr) (B : Cell) : Law l yN 2 2 0 0 yB 2 (some .byte) site (P d B) E [] 0 0 := by
  refine Law.of_walk (plainFor_of_name (by decide +kernel)) (by decide +kernel) (by decide +kernel) (by decide) (fun _ _ h => by rw [h.1]; rfl) (fun _ U U' hal hh h => ⟨h.1, h.2.mv hal hh⟩) (fun r U U' V V' h1 hal h2 h => XT.PureE.mv r U U' V V' h1 hal h2 h) ?_
  intro p e s m args below meth c s₁ X0 hexec hbytes hml hret hlk hnm hown hh0 W hP
  obtain ⟨rfl, hB⟩ := hP
  have hB0 := hB.mv X0.warmed.alike hh0
  have c1 : Steps p.tables e below (s₁.setTop (entryFrame m #[.ref d, .int (Int32.ofNat B.slots.size)] 2)) (s₁.setTop (mkF m 0 #[.val (.ref d), .val (.int (Int32.ofNat B.slots.size))] [])) := entry rfl
  have c2 : Steps p.tables e below (s₁.setTop (entryFrame m #[.ref d, .int (Int32.ofNat B.slots.size)] 2)) (s₁.setTop (mkF m 2 #[.val (.ref d), .val (.int (Int32.ofNat B.slots.size))] [.ref d, .int (Int32.ofNat B.slots.size)])) := c1.trans (by
    refine XS.iloadN X0.here hexec rfl (hb hbytes d0) rfl ?_
    refine XS.aloadN X0.here hexec rfl (hb hbytes d1) rfl rfl ?_
    exact Steps.refl _)
  have c3 : Steps p.tables e below (s₁.setTop (entryFrame m #[.ref d, .int (Int32.ofNat B.slots.size)] 2)) (s₁.setTop (mkF m 8 #[.val (.ref d), .val (.int (Int32.ofNat B.slots.size))] [.int (lo8 (ushr (Int32.ofNat B.slots.size - Int32.ofNat B.slots.size) 31))])) := c2.trans (by
    refine X0.alen hexec hB0 rfl rfl (hb hbytes d2) ?_
    refine XS.isub X0.here hexec rfl (hb hbytes d3) rfl ?_
    refine bipushV X0.here hexec rfl 31 (hb hbytes d4) (by decide) ?_
    refine iushr X0.here hexec rfl (hb hbytes d6) rfl ?_
    refine i2b X0.here hexec rfl (hb hbytes d7) rfl ?_
    exact Steps.refl _)
  have e0 : lo8 (ushr (Int32.ofNat B.slots.size - Int32.ofNat B.slots.size) 31) = 0 := by rw [Int32.sub_self]; decide
  rw [e0] at c3
  exact ⟨s₁, some (.int 0), _, _, _, X0, rfl, rfl, rfl, (fun h => by cases h), ⟨rfl, hh0⟩, fun fs hl => c3.trans (X0.ireturnOut hexec hret rfl (Or.inr (Or.inr (Or.inl rfl))) (hb hbytes d8) hl)⟩
end CodL
/-- the String at a is Latin-1 over a new byte[] (the heap's one new cell): the low bytes of the len chars of A from o on; every cell but a is kept -/
def Got (a : Addr) (D : Cell) (fV fC : Field) (A : Cell) (o len : Nat) (r : Option Value) (s u : State) : Prop := r = none ∧ ∃ D' V : Cell, Blank "java/lang/String" a D' u ∧ Same D D' [fV.slot, fC.slot] ∧ D'.slots[fV.slot]? = some (.ref s.heap.size) ∧ D'.slots[fC.slot]? = some (.int 0) ∧ Arr .byte s.heap.size V u ∧ V.vm = .none ∧ u.vm.findClass "[B" = some V.cls ∧ V.slots.size = len ∧ (∀ j, j < len → V.slots[j]? = some (.int (lo8 (cv A (o + j))))) ∧ (∀ (y : Addr) (c : Cell), y ≠ a → s.heap[y]? = some c → u.heap[y]? = some c) ∧ u.heap.size = s.heap.size + 1
theorem Got.mv {a : Addr} {D A : Cell} {fV fC : Field} {o len : Nat} : ∀ r (U U' V V' : State), U'.heap = U.heap → V.vm.Alike V'.vm → V'.heap = V.heap → Got a D fV fC A o len r U V → Got a D fV fC A o len r U' V' :=
  fun r U U' V V' h1 hal h2 ⟨e0, D', X, a1, a2, a3, a4, a5, a6, a7, a8, a9, a10, a11⟩ => ⟨e0, D', X, a1.mv hal h2, a2, by rw [h1]; exact a3, a4, by rw [h1]; exact a5.mv hal h2, a6, by rw [hal.findClass]; exact a7, a8, a9, by rw [h1, h2]; exact a10, by rw [h1, h2]; exact a11⟩
namespace New4
def yN : MethodName := ⟨"java/lang/String", "<init>", "([CIILjava/lang/Void;)V"⟩
abbrev yB : ByteArray := jdk_42_method_149_code
theorem d0 : decode yB 0 = .ok (.aload_n 0, 1) := by decide +kernel
theorem d1 : decode yB 1 = .ok (.invokespecial 1, 3) := by decide +kernel
theorem d4 : decode yB 4 = .ok (.iload_n 3, 1) := by decide +kernel
theorem d5 : decode yB 5 = .ok (.ifCond (.ne) 22, 3) := by decide +kernel
theorem d27 : decode yB 27 = .ok (.getstatic 38, 3) := by decide +kernel
theorem d30 : decode yB 30 = .ok (.ifCond (.eq) 28, 3) := by decide +kernel
theorem d33 : decode yB 33 = .ok (.aload_n 1, 1) := by decide +kernel
theorem d34 : decode yB 34 = .ok (.iload_n 2, 1) := by decide +kernel
theorem d35 : decode yB 35 = .ok (.iload_n 3, 1) := by decide +kernel
theorem d36 : decode yB 36 = .ok (.invokestatic 177, 3) := by decide +kernel
theorem d39 : decode yB 39 = .ok (.astore 5, 2) := by decide +kernel
theorem d41 : decode yB 41 = .ok (.aload_n 0, 1) := by decide +kernel
theorem d42 : decode yB 42 = .ok (.aload 5, 2) := by decide +kernel
theorem d44 : decode yB 44 = .ok (.iload_n 3, 1) := by decide +kernel
theorem d45 : decode yB 45 = .ok (.invokestatic 47, 3) := by decide +kernel
theorem d48 : decode yB 48 = .ok (.putfield 15, 3) := by decide +kernel
theorem d51 : decode yB 51 = .ok (.aload_n 0, 1) := by decide +kernel
theorem d52 : decode yB 52 = .ok (.aload 5, 2) := by decide +kernel
theorem d54 : decode yB 54 = .ok (.putfield 9, 3) := by decide +kernel
theorem d57 : decode yB 57 = .ok (.return_, 1) := by decide +kernel
def site : List Cond := [.fieldLink "java/lang/String" 38 "java/lang/String" "COMPACT_STRINGS" "Z", Cmp3.tab, CodL.tab, .laysFinal "java/lang/String" "java/lang/String" "value" "[B", .fieldLink "java/lang/String" 9 "java/lang/String" "value" "[B", .laysFinal "java/lang/String" "java/lang/String" "coder" "B", .fieldLink "java/lang/String" 15 "java/lang/String" "coder" "B"] ++ objW "java/lang/String" 1 ++ staticW "java/lang/String" 177 Cmp3.yN ++ staticW "java/lang/String" 47 CodL.yN
def tab : Cond := tabOf yN yB 6 none site
def P (a : Addr) (D : Cell) (fV fC : Field) (b : Addr) (A : Cell) (z : Int32) (o len : Nat) (args : Array Value) (s : State) : Prop := args = #[.ref a, .ref b, .int (Int32.ofNat o), .int (Int32.ofNat len), .null] ∧ Blank "java/lang/String" a D s ∧ Found "java/lang/String" "value" "[B" fV s ∧ Found "java/lang/String" "coder" "B" fC s ∧ Ch b A s ∧ StaticIs s "java/lang/String" "COMPACT_STRINGS" "Z" (.int z) ∧ ¬ z = 0 ∧ 0 < len ∧ o + len ≤ A.slots.size ∧ len ≤ 536870912 ∧ ∀ i, i < len → ¬ 255 < cv A (o + i)
def E (a : Addr) (D : Cell) (fV fC : Field) (A : Cell) (o len : Nat) (r : Option Value) (s u : State) : Prop := Got a D fV fC A o len r s u
/-- len > 0, no char of the range above 255: a Latin-1 String of their low bytes -/
theorem law (l : Launch) (a : Addr) (D : Cell) (fV fC : Field) (b : Addr) (A : Cell) (z : Int32) (o len : Nat) : Law l yN 5 4 2 35 yB 6 none site (P a D fV fC b A z o len) (E a D fV fC A o len) [⟨a, fC.slot⟩, ⟨a, fV.slot⟩] 1 len := by
  refine Law.of_walk (plainFor_of_name (by decide +kernel)) (by decide +kernel) (by decide +kernel) (by decide) (fun _ _ h => by rw [h.1]; rfl) (fun _ U U' hal hh h => ⟨h.1, h.2.1.mv hal hh, h.2.2.1.al hal, h.2.2.2.1.al hal, h.2.2.2.2.1.mv hal hh, h.2.2.2.2.2.1.there hal hh, h.2.2.2.2.2.2⟩) (fun r U U' V V' h1 hal h2 h => Got.mv r U U' V V' h1 hal h2 h) ?_
  intro p e s m args below meth c s₁ X0 hexec hbytes hml hret hlk hnm hown hh0 W hP
  obtain ⟨rfl, hB, f1, f2, hA, s1, hz, l0, l1, l2, hp⟩ := hP
  have a31 := hA.1.2.2.2
  have c1 : Steps p.tables e below (s₁.setTop (entryFrame m #[.ref a, .ref b, .int (Int32.ofNat o), .int (Int32.ofNat len), .null] 6)) (s₁.setTop (mkF m 0 #[.val (.ref a), .val (.ref b), .val (.int (Int32.ofNat o)), .val (.int (Int32.ofNat len)), .val .null, .unset] [])) := entry rfl
  have c2 : Steps p.tables e below (s₁.setTop (entryFrame m #[.ref a, .ref b, .int (Int32.ofNat o), .int (Int32.ofNat len), .null] 6)) (s₁.setTop (mkF m 1 #[.val (.ref a), .val (.ref b), .val (.int (Int32.ofNat o)), .val (.int (Int32.ofNat len)), .val .null, .unset] [.ref a])) := c1.trans (by
    refine XS.aloadN X0.here hexec rfl (hb hbytes d0) rfl rfl ?_
    exact Steps.refl _)
  obtain ⟨T3, X3, q3, st3⟩ := X0.oinit hexec hown (wks W (objW "java/lang/String" 1)) (g := (mkF m 1 #[.val (.ref a), .val (.ref b), .val (.int (Int32.ofNat o)), .val (.int (Int32.ofNat len)), .val .null, .unset] [.ref a])) rfl (by rw [hml]; rfl) (rest := []) rfl (hb hbytes d1) (W := 0) (by show 2 * 0 + 0 ≤ _; decide) (Nat.le_of_ble_eq_true rfl) (Nat.le_of_ble_eq_true rfl)
  have hh3 := q3.trans hh0
  have c4 : Steps p.tables e below (s₁.setTop (entryFrame m #[.ref a, .ref b, .int (Int32.ofNat o), .int (Int32.ofNat len), .null] 6)) (T3.setTop (mkF m 27 #[.val (.ref a), .val (.ref b), .val (.int (Int32.ofNat o)), .val (.int (Int32.ofNat len)), .val .null, .unset] [])) := (c2.trans (st3 _ (Steps.refl _))).trans (by
    refine XS.iloadN X3.here hexec rfl (hb hbytes d4) rfl ?_
    refine XS.ifYes X3.here hexec rfl (pc0 := 5) rfl (hb hbytes d5) rfl (i0_ne_t (nz32 (by omega) l0)) (by decide) rfl ?_
    exact Steps.refl _)
  obtain ⟨T5, X5, q5, st5⟩ := X3.sget hexec hown (wk W (.fieldLink "java/lang/String" 38 "java/lang/String" "COMPACT_STRINGS" "Z")) s1 (fun _ _ h => by rw [hh3]; exact h) (g := (mkF m 27 #[.val (.ref a), .val (.ref b), .val (.int (Int32.ofNat o)), .val (.int (Int32.ofNat len)), .val .null, .unset] [])) rfl (hb hbytes d27)
  have hh5 := q5.trans hh3
  have c6 : Steps p.tables e below (s₁.setTop (entryFrame m #[.ref a, .ref b, .int (Int32.ofNat o), .int (Int32.ofNat len), .null] 6)) (T5.setTop (mkF m 30 #[.val (.ref a), .val (.ref b), .val (.int (Int32.ofNat o)), .val (.int (Int32.ofNat len)), .val .null, .unset] [.int z])) := c4.trans (st5 _ (Steps.refl _))
  have c7 : Steps p.tables e below (s₁.setTop (entryFrame m #[.ref a, .ref b, .int (Int32.ofNat o), .int (Int32.ofNat len), .null] 6)) (T5.setTop (mkF m 36 #[.val (.ref a), .val (.ref b), .val (.int (Int32.ofNat o)), .val (.int (Int32.ofNat len)), .val .null, .unset] [.int (Int32.ofNat len), .int (Int32.ofNat o), .ref b])) := c6.trans (by
    refine XS.ifNo X5.here hexec rfl (hb hbytes d30) rfl (i0_eq_f hz) ?_
    refine XS.aloadN X5.here hexec rfl (hb hbytes d33) rfl rfl ?_
    refine XS.iloadN X5.here hexec rfl (hb hbytes d34) rfl ?_
    refine XS.iloadN X5.here hexec rfl (hb hbytes d35) rfl ?_
    exact Steps.refl _)
  obtain ⟨v8, T8, X8, E8, g8⟩ := X5.callS hexec (Cmp3.law l b A o len) hown (wks W (staticW "java/lang/String" 177 Cmp3.yN)) (wk W Cmp3.tab) (W := 0) (Nat.le_of_ble_eq_true rfl) (Nat.le_of_ble_eq_true rfl) (Nat.le_refl _) (by show 0 + len ≤ len; omega) (g := (mkF m 36 #[.val (.ref a), .val (.ref b), .val (.int (Int32.ofNat o)), .val (.int (Int32.ofNat len)), .val .null, .unset] [.int (Int32.ofNat len), .int (Int32.ofNat o), .ref b])) rfl (by rw [hml]; rfl) c7 (argsL := [.ref b, .int (Int32.ofNat o), .int (Int32.ofNat len)]) (rest := []) rfl rfl (by show 2 * 0 + 0 ≤ _; decide) (hb hbytes d36) (⟨rfl, hA.mv X5.warmed.alike hh5, l1, l2, hp⟩)
  obtain ⟨e8, z8⟩ := E8
  obtain ⟨rfl, N, n1, n2, n3, n4, n5, n6⟩ := NewArr.mv _ T5 s _ _ hh5.symm (Vm.Alike.refl _) rfl e8
  rw [hh5] at z8
  have hB1 := hB.keep X8.warmed.alike (n6 _ _ hB.1)
  have hne : s.heap.size ≠ a := (Nat.ne_of_lt (Array.getElem?_eq_some_iff.mp hB.1).1).symm
  have c9 : Steps p.tables e below (s₁.setTop (entryFrame m #[.ref a, .ref b, .int (Int32.ofNat o), .int (Int32.ofNat len), .null] 6)) (T8.setTop (mkF m 39 #[.val (.ref a), .val (.ref b), .val (.int (Int32.ofNat o)), .val (.int (Int32.ofNat len)), .val .null, .unset] [.ref s.heap.size])) := g8
  have c10 : Steps p.tables e below (s₁.setTop (entryFrame m #[.ref a, .ref b, .int (Int32.ofNat o), .int (Int32.ofNat len), .null] 6)) (T8.setTop (mkF m 45 #[.val (.ref a), .val (.ref b), .val (.int (Int32.ofNat o)), .val (.int (Int32.ofNat len)), .val .null, .val (.ref s.heap.size)] [.int (Int32.ofNat N.slots.size), .ref s.heap.size, .ref a])) := by
    have hc : Steps p.tables e below (s₁.setTop (entryFrame m #[.ref a, .ref b, .int (Int32.ofNat o), .int (Int32.ofNat len), .null] 6)) (T8.setTop (mkF m 45 #[.val (.ref a), .val (.ref b), .val (.int (Int32.ofNat o)), .val (.int (Int32.ofNat len)), .val .null, .val (.ref s.heap.size)] [.int (Int32.ofNat len), .ref s.heap.size, .ref a])) := c9.trans (by
      refine XS.astore X8.here hexec rfl (hb hbytes d39) rfl rfl rfl ?_
      refine XS.aloadN X8.here hexec rfl (hb hbytes d41) rfl rfl ?_
      refine XS.aload X8.here hexec rfl (hb hbytes d42) rfl rfl ?_
      refine XS.iloadN X8.here hexec rfl (hb hbytes d44) rfl ?_
      exact Steps.refl _)
    rw [n4]; exact hc
  obtain ⟨v11, T11, X11, E11, g11⟩ := X8.callS hexec (CodL.law l s.heap.size N) hown (wks W (staticW "java/lang/String" 47 CodL.yN)) (wk W CodL.tab) (W := 1) (Nat.le_of_ble_eq_true rfl) (Nat.le_of_ble_eq_true rfl) (Nat.le_refl _) (by show 0 + len + 0 ≤ len; omega) (g := (mkF m 45 #[.val (.ref a), .val (.ref b), .val (.int (Int32.ofNat o)), .val (.int (Int32.ofNat len)), .val .null, .val (.ref s.heap.size)] [.int (Int32.ofNat N.slots.size), .ref s.heap.size, .ref a])) rfl (by rw [hml]; rfl) c10 (argsL := [.ref s.heap.size, .int (Int32.ofNat N.slots.size)]) (rest := [.ref a]) rfl rfl (by show 2 * 0 + (1 + 0) ≤ _; decide) (hb hbytes d45) (⟨rfl, n1⟩)
  obtain ⟨rfl, q11⟩ := E11
  have hB11 := hB1.mv (X8.warmed.alike.symm.trans X11.warmed.alike) q11
  have c12 : Steps p.tables e below (s₁.setTop (entryFrame m #[.ref a, .ref b, .int (Int32.ofNat o), .int (Int32.ofNat len), .null] 6)) (T11.setTop (mkF m 48 #[.val (.ref a), .val (.ref b), .val (.int (Int32.ofNat o)), .val (.int (Int32.ofNat len)), .val .null, .val (.ref s.heap.size)] [.int 0, .ref a])) := g11
  obtain ⟨T13, X13, p13, bl13, sl13, st13⟩ := X11.finit hexec hown (wk W (.fieldLink "java/lang/String" 15 "java/lang/String" "coder" "B")) (Or.inr ⟨_, (wk W (.laysFinal "java/lang/String" "java/lang/String" "coder" "B"))⟩) (Or.inl ⟨rfl, hnm⟩) f2 (Or.inl rfl) hB11 (t := .byte) (by decide +kernel) rfl (g := (mkF m 48 #[.val (.ref a), .val (.ref b), .val (.int (Int32.ofNat o)), .val (.int (Int32.ofNat len)), .val .null, .val (.ref s.heap.size)] [.int 0, .ref a])) rfl (rest := []) rfl (hb hbytes d48)
  have c14 : Steps p.tables e below (s₁.setTop (entryFrame m #[.ref a, .ref b, .int (Int32.ofNat o), .int (Int32.ofNat len), .null] 6)) (T13.setTop (mkF m 54 #[.val (.ref a), .val (.ref b), .val (.int (Int32.ofNat o)), .val (.int (Int32.ofNat len)), .val .null, .val (.ref s.heap.size)] [.ref s.heap.size, .ref a])) := (c12.trans (st13 _ (Steps.refl _))).trans (by
    refine XS.aloadN X13.here hexec rfl (hb hbytes d51) rfl rfl ?_
    refine XS.aload X13.here hexec rfl (hb hbytes d52) rfl rfl ?_
    exact Steps.refl _)
  obtain ⟨T15, X15, p15, bl15, sl15, st15⟩ := X13.finit hexec hown (wk W (.fieldLink "java/lang/String" 9 "java/lang/String" "value" "[B")) (Or.inr ⟨_, (wk W (.laysFinal "java/lang/String" "java/lang/String" "value" "[B"))⟩) (Or.inl ⟨rfl, hnm⟩) f1 (Or.inl rfl) bl13 (t := (.array .byte)) (by decide +kernel) rfl (g := (mkF m 54 #[.val (.ref a), .val (.ref b), .val (.int (Int32.ofNat o)), .val (.int (Int32.ofNat len)), .val .null, .val (.ref s.heap.size)] [.ref s.heap.size, .ref a])) rfl (rest := []) rfl (hb hbytes d54)
  have c16 : Steps p.tables e below (s₁.setTop (entryFrame m #[.ref a, .ref b, .int (Int32.ofNat o), .int (Int32.ofNat len), .null] 6)) (T15.setTop (mkF m 57 #[.val (.ref a), .val (.ref b), .val (.int (Int32.ofNat o)), .val (.int (Int32.ofNat len)), .val .null, .val (.ref s.heap.size)] [])) := c14.trans (st15 _ (Steps.refl _))
  have ap := apart (Or.inr ⟨_, (wk W (.laysFinal "java/lang/String" "java/lang/String" "value" "[B"))⟩) (Or.inr ⟨_, (wk W (.laysFinal "java/lang/String" "java/lang/String" "coder" "B"))⟩) f1 f2 (t₁ := .array .byte) (t₂ := .byte) (by decide +kernel) (by decide +kernel) (by decide)
  have al := X8.warmed.alike.symm.trans X15.warmed.alike
  have n7 : T11.heap[s.heap.size]? = some N := by rw [q11]; exact n1.1
  exact ⟨T15, none, _, _, _, X15, by simp, rfl, by omega, (fun _ => rfl), ⟨rfl, _, N, bl15, ((Same.refl D _).set _ (by simp)).set _ (by simp), sl15, (Cell.slots_setSlot_ne _ ap).trans sl13, n1.keep al (p15.other hne (p13.other hne n7)), n2, by rw [al.findClass]; exact n3, n4, n5, fun y c h1 h2 => p15.other h1 (p13.other h1 (by rw [q11]; exact n6 y c h2)), by rw [p15.2.2, p13.2.2, q11]; exact z8⟩, fun fs hl => c16.trans (X15.returnOut hexec hret (hb hbytes d57) hl)⟩
end New4
namespace New1
def yN : MethodName := ⟨"java/lang/String", "<init>", "([C)V"⟩
abbrev yB : ByteArray := jdk_42_method_3_code
theorem d0 : decode yB 0 = .ok (.aload_n 0, 1) := by decide +kernel
theorem d1 : decode yB 1 = .ok (.aload_n 1, 1) := by decide +kernel
theorem d2 : decode yB 2 = .ok (.iconst 0, 1) := by decide +kernel
theorem d3 : decode yB 3 = .ok (.aload_n 1, 1) := by decide +kernel
theorem d4 : decode yB 4 = .ok (.arraylength, 1) := by decide +kernel
theorem d5 : decode yB 5 = .ok (.aconst_null, 1) := by decide +kernel
theorem d6 : decode yB 6 = .ok (.invokespecial 27, 3) := by decide +kernel
theorem d9 : decode yB 9 = .ok (.return_, 1) := by decide +kernel
def site : List Cond := [New4.tab] ++ initW "java/lang/String" 27 New4.yN
def tab : Cond := tabOf yN yB 2 none site
def P (a : Addr) (D : Cell) (fV fC : Field) (b : Addr) (A : Cell) (z : Int32) (args : Array Value) (s : State) : Prop := args = #[.ref a, .ref b] ∧ Blank "java/lang/String" a D s ∧ Found "java/lang/String" "value" "[B" fV s ∧ Found "java/lang/String" "coder" "B" fC s ∧ Ch b A s ∧ StaticIs s "java/lang/String" "COMPACT_STRINGS" "Z" (.int z) ∧ ¬ z = 0 ∧ 0 < A.slots.size ∧ A.slots.size ≤ 536870912 ∧ ∀ i, i < A.slots.size → ¬ 255 < cv A i
def E (a : Addr) (D : Cell) (fV fC : Field) (A : Cell) (r : Option Value) (s u : State) : Prop := Got a D fV fC A 0 A.slots.size r s u
/-- new String(chars), not empty, no char above 255: a Latin-1 String of their low bytes -/
theorem law (l : Launch) (a : Addr) (D : Cell) (fV fC : Field) (b : Addr) (A : Cell) (z : Int32) : Law l yN 2 1 3 52 yB 2 none site (P a D fV fC b A z) (E a D fV fC A) [⟨a, fC.slot⟩, ⟨a, fV.slot⟩] 1 A.slots.size := by
  refine Law.of_walk (plainFor_of_name (by decide +kernel)) (by decide +kernel) (by decide +kernel) (by decide) (fun _ _ h => by rw [h.1]; rfl) (fun _ U U' hal hh h => ⟨h.1, h.2.1.mv hal hh, h.2.2.1.al hal, h.2.2.2.1.al hal, h.2.2.2.2.1.mv hal hh, h.2.2.2.2.2.1.there hal hh, h.2.2.2.2.2.2⟩) (fun r U U' V V' h1 hal h2 h => Got.mv r U U' V V' h1 hal h2 h) ?_
  intro p e s m args below meth c s₁ X0 hexec hbytes hml hret hlk hnm hown hh0 W hP
  obtain ⟨rfl, hB, f1, f2, hA, s1, hz, l0, l2, hp⟩ := hP
  have c1 : Steps p.tables e below (s₁.setTop (entryFrame m #[.ref a, .ref b] 2)) (s₁.setTop (mkF m 0 #[.val (.ref a), .val (.ref b)] [])) := entry rfl
  have c2 : Steps p.tables e below (s₁.setTop (entryFrame m #[.ref a, .ref b] 2)) (s₁.setTop (mkF m 6 #[.val (.ref a), .val (.ref b)] [.null, .int (Int32.ofNat A.slots.size), .int 0, .ref b, .ref a])) := c1.trans (by
    refine XS.aloadN X0.here hexec rfl (hb hbytes d0) rfl rfl ?_
    refine XS.aloadN X0.here hexec rfl (hb hbytes d1) rfl rfl ?_
    refine iconstV X0.here hexec rfl 0 (hb hbytes d2) (by decide) ?_
    refine XS.aloadN X0.here hexec rfl (hb hbytes d3) rfl rfl ?_
    refine X0.alen hexec (hA.1.mv X0.warmed.alike hh0) rfl rfl (hb hbytes d4) ?_
    refine XS.aconstNull X0.here hexec rfl (hb hbytes d5) ?_
    exact Steps.refl _)
  obtain ⟨v3, T3, X3, E3, g3⟩ := X0.callN hexec (New4.law l a D fV fC b A z 0 A.slots.size) rfl hown (wks W (initW "java/lang/String" 27 New4.yN)) (W New4.tab (by simp only [site, List.mem_cons, List.mem_append, true_or, or_true])) (W := 0) (Nat.le_of_ble_eq_true rfl) (Nat.le_of_ble_eq_true rfl) (Nat.le_refl _) (by show 0 + A.slots.size ≤ A.slots.size; omega) (g := (mkF m 6 #[.val (.ref a), .val (.ref b)] [.null, .int (Int32.ofNat A.slots.size), .int (Int32.ofNat 0), .ref b, .ref a])) rfl (by rw [hml]; rfl) c2 (argsL := [.ref b, .int (Int32.ofNat 0), .int (Int32.ofNat A.slots.size), .null]) (rest := []) rfl rfl (by show 2 * 0 + 0 ≤ _; decide) (hb hbytes d6) (⟨rfl, hB.mv X0.warmed.alike hh0, f1.al X0.warmed.alike, f2.al X0.warmed.alike, hA.mv X0.warmed.alike hh0, s1.there X0.warmed.alike hh0, hz, l0, by omega, l2, fun i hi => by rw [Nat.zero_add]; exact hp i hi⟩)
  have e0 := Got.mv _ s₁ s _ _ hh0.symm (Vm.Alike.refl _) rfl E3
  obtain rfl := e0.1
  have c4 : Steps p.tables e below (s₁.setTop (entryFrame m #[.ref a, .ref b] 2)) (T3.setTop (mkF m 9 #[.val (.ref a), .val (.ref b)] [])) := g3
  exact ⟨T3, none, _, _, _, X3, by simp, rfl, by omega, (fun _ => rfl), e0, fun fs hl => c4.trans (X3.returnOut hexec hret (hb hbytes d9) hl)⟩
theorem pays {l : Launch} {R : Room} {p : Program} {e : Env} {below : List Frame} {s : State} {sargs : Array Value} {len W : Nat} (a : Addr) (D : Cell) (fV fC : Field) (b : Addr) (A : Cell) (z : Int32) (htab : tab.before sargs s = true) (hfr : 4 ≤ R.frames) (hlo : W + 65 ≤ R.locals) :
    Back l R p e below s sargs yN len W (fun A₁ a₁ => A₁.cells + 1 ≤ R.cells ∧ A₁.slots + A.slots.size ≤ R.slots ∧ P a D fV fC b A z a₁ A₁.U) (fun A₁ _ v₁ B₁ => E a D fV fC A v₁ A₁.U B₁.U ∧ B₁.locs = A₁.locs ++ [⟨a, fC.slot⟩, ⟨a, fV.slot⟩] ∧ B₁.cells = A₁.cells + 1 ∧ B₁.slots = A₁.slots + A.slots.size) :=
  (law l a D fV fC b A z).pays htab hfr (by omega)
end New1
/-- the byte, read back as charAt reads it, is the char -/
theorem lo8_mask {x : Int32} (h0 : ¬ x < 0) (h1 : ¬ 255 < x) : lo8 x &&& 255 = x := by
  have t : ∀ k : Fin 256, lo8 (Int32.ofNat k.val) &&& 255 = Int32.ofNat k.val := by decide +kernel
  rw [Int32.lt_iff_toInt_lt] at h0 h1
  have e0 : (0 : Int32).toInt = 0 := rfl
  have e1 : (255 : Int32).toInt = 255 := rfl
  obtain ⟨k, hk⟩ : ∃ k : Nat, x.toInt = k := ⟨x.toInt.toNat, by omega⟩
  have hx : x = Int32.ofNat k := Int32.toInt_inj.mp (by rw [hk, Int32.toInt_ofNat_small (by omega)])
  rw [hx]
  exact t ⟨k, by omega⟩
end StrChars
namespace StrChars.Road
open Jvm Sem ClassFile Op Lib Jvm.Stand Jvm.Free Jvm.Free.XT
open Jvm.Lib.Cold (StaticIs)
abbrev ST : String := "java/lang/String"
/-- every table word that New1's law asks, flat -/
abbrev words : List Jvm.Cond := [.code New1.yN New1.yB 2 none, .initialized ST, .methodLink ST 27 New4.yN, .instanceMethod New4.yN,
  .code New4.yN New4.yB 6 none, .fieldLink ST 38 ST "COMPACT_STRINGS" "Z", .laysFinal ST ST "value" "[B", .fieldLink ST 9 ST "value" "[B", .laysFinal ST ST "coder" "B", .fieldLink ST 15 ST "coder" "B",
  .methodLink ST 1 Lib.objectInit, .instanceMethod Lib.objectInit, .code Lib.objectInit ⟨#[0xb1]⟩ 1 none, .methodLink ST 177 Cmp3.yN, .static Cmp3.yN, .methodLink ST 47 CodL.yN, .static CodL.yN,
  .code Cmp3.yN Cmp3.yB 6 (some (.array .byte)), .initialized U16, .arrayClass .byte, .methodLink U16 115 Cmp5.yN, .static Cmp5.yN, .code Cmp5.yN Cmp5.yB 7 (some .int), .code CodL.yN CodL.yB 2 (some .byte)]
theorem tab_of {a : Array Value} {s : State} (h : ∀ w ∈ words, w.before a s = true) : New1.tab.before a s = true := by
  have h5 : Cmp5.tab.before a s = true := unparts (wk h (.code Cmp5.yN Cmp5.yB 7 (some .int))) (wks h (.initialized Cmp5.yN.cls :: Cmp5.site))
  have hc : CodL.tab.before a s = true := unparts (wk h (.code CodL.yN CodL.yB 2 (some .byte))) (wks h (.initialized CodL.yN.cls :: CodL.site))
  have q5 : ∀ w ∈ Cmp5.tab :: words, w.before a s = true := fun w hw => (List.mem_cons.mp hw).elim (fun e => e ▸ h5) (h w)
  have h3 : Cmp3.tab.before a s = true := unparts (wk q5 (.code Cmp3.yN Cmp3.yB 6 (some (.array .byte)))) (wks q5 (.initialized Cmp3.yN.cls :: Cmp3.site))
  have q3 : ∀ w ∈ Cmp3.tab :: CodL.tab :: words, w.before a s = true := fun w hw => (List.mem_cons.mp hw).elim (fun e => e ▸ h3) fun hw => (List.mem_cons.mp hw).elim (fun e => e ▸ hc) (h w)
  have h4 : New4.tab.before a s = true := unparts (wk q3 (.code New4.yN New4.yB 6 none)) (wks q3 (.initialized New4.yN.cls :: New4.site))
  have q4 : ∀ w ∈ New4.tab :: words, w.before a s = true := fun w hw => (List.mem_cons.mp hw).elim (fun e => e ▸ h4) (h w)
  exact unparts (wk q4 (.code New1.yN New1.yB 2 none)) (wks q4 (.initialized New1.yN.cls :: New1.site))
/-- the words ride from the start Z to the walk's own state -/
theorem moved {Z s : State} {a0 args : Array Value} (hZ : Z.Warmed39 s.vm) (hw : ∀ d ∈ words, d.before a0 Z = true) : ∀ d ∈ words, d.before args s = true := fun d hd => by
  have q := hw d hd
  have t : ∀ d ∈ words, d = .arrayClass .byte ∨ (d.onTables && d.keepsFace) = true := by decide +kernel
  rcases t d hd with rfl | t
  · exact RoadKit.mvA hZ q
  · exact RoadKit.mv hZ q t
/-- WHAT COMES BACK, over the tables of the start Z: h the heap at the call, h' behind it -/
def Q (Z : State) (x : Addr) (A : Cell) (h : Heap) (v : Option Value) (h' : Heap) (L : List Loc) : Prop := v = none ∧ (∀ y ∈ L, y.base = x) ∧ RoadKit.Keep h h' [x] ∧ h'.size = h.size + 1 ∧ RoadKit.Exa Z h' x ST ∧ RoadKit.Fld Z h' x ST "value" "[B" (.ref h.size) ∧ RoadKit.Fld Z h' x ST "coder" "B" (.int 0) ∧
  (∃ V : Cell, RoadKit.Arr Z h' h.size V .byte ∧ V.vm = .none ∧ Z.vm.findClass "[B" = some V.cls ∧ V.slots.size = A.slots.size ∧ ∀ j, j < A.slots.size → V.slots[j]? = some (.int (lo8 (cv A j)))) ∧
  ∀ (O n d : String) (w : Value), RoadKit.Fld Z h x O n d w → RoadKit.slotOf Z O n d ≠ RoadKit.slotOf Z ST "value" "[B" → RoadKit.slotOf Z O n d ≠ RoadKit.slotOf Z ST "coder" "B" → RoadKit.Fld Z h' x O n d w
/-- **new String(chars) AT A CALL, IN THE ROAD'S FORM**: for specialBack behind newO: x the fresh String, b the char[] with the cell A -/
theorem back {p : Program} {l : Launch} {e : Env} {R : Room} {s : State} {args : Array Value} {below : List Frame} {len W : Nat} {Z : State} {a0 : Array Value} {h : Heap} (hZ : Z.Warmed39 s.vm) (hw : ∀ d ∈ words, d.before a0 Z = true) {kI : Nat} (wi : (Jvm.Cond.instantiable ST kI).before a0 Z = true)
    {x b : Addr} {A : Cell} {z : Int32} {v0 c0 : Value} (E : RoadKit.Exa Z h x ST) (V : RoadKit.Fld Z h x ST "value" "[B" v0) (C : RoadKit.Fld Z h x ST "coder" "B" c0) (K : RoadKit.Arr Z h b A .char) (hty : Typed .char A) (S : RoadKit.Sta Z h ST "COMPACT_STRINGS" "Z" (.int z)) (hz : ¬ z = 0)
    (l0 : 0 < A.slots.size) (l2 : A.slots.size ≤ 536870912) (hp : ∀ i, i < A.slots.size → ¬ 255 < cv A i) (hfr : 4 ≤ R.frames) (hlo : W + 65 ≤ R.locals) :
    Back l R p e below s args New1.yN len W (fun P a => a = #[.ref x, .ref b] ∧ P.U.heap = h ∧ P.cells + 1 ≤ R.cells ∧ P.slots + A.slots.size ≤ R.slots)
      (fun P _ v B => ∃ L, Q Z x A h v B.U.heap L ∧ B.locs = P.locs ++ L ∧ B.cells = P.cells + 1 ∧ B.slots = P.slots + A.slots.size) := by
  intro m meth c P g ig mk a X hg hsize hdg hW hn hp'
  obtain ⟨rfl, rfl, r1, r2⟩ := hp'
  have al : Z.vm.Alike P.U.vm := hZ.alike.trans X.warmed.alike
  obtain ⟨D, cfV, kV, iV, fV, hD, gV, stV, knV, obV, asV, slV⟩ := id V
  obtain ⟨D', cfC, kC, iC, fC, hD', gC, stC, -, -, asC, slC⟩ := id C
  cases hD.symm.trans hD'
  obtain ⟨D2, kD, e1, e2, e3, e4, e5⟩ := id E
  cases hD.symm.trans e1
  obtain ⟨c2, k2, i1, i2, i3, -⟩ := Cond.instantiable_spec wi
  cases e2.symm.trans i1
  cases e3.symm.trans i2
  obtain ⟨kU, u1, u2⟩ := al.2.2 _ _ e3
  have hB : Blank ST x D P.U := ⟨hD, ⟨knV, fun q hq => by rw [hq] at obV; cases obV⟩, by rw [al.findClass]; exact e2, kU, u1, by rw [u2]; exact i3, by rw [u2]; exact e5 i3⟩
  have F1 : Found ST "value" "[B" fV P.U := ⟨SBG.found_only al ⟨cfV, kV, iV, gV⟩, stV⟩
  have F2 : Found ST "coder" "B" fC P.U := ⟨SBG.found_only al ⟨cfC, kC, iC, gC⟩, stC⟩
  have hA : Ch b A P.U := ⟨⟨K.1, State.isArrayOf_alike al K.2.1, K.2.2, by omega⟩, hty⟩
  have hS : StaticIs P.U ST "COMPACT_STRINGS" "Z" (.int z) := by
    obtain ⟨cfS, iS, kS, fS, st, cS, t1, t2, t3, t4, t5, t6, t7⟩ := S
    exact StaticIs.there (s := { Z with heap := P.U.heap }) ⟨cfS, iS, kS, fS, st, cS, t1, t2, t3, t4, t5, (fun q => by rw [q] at t6; cases t6), t7⟩ al rfl
  obtain ⟨v, B, X', ⟨⟨hv, E', V', q1, q2, q3, q4, q5, q6, q7, q8, q9, q10, q11⟩, hl, hc, hs⟩, st⟩ := New1.pays x D fV fC b A z (tab_of (moved hZ hw)) hfr hlo m meth c P g ig mk _ X hg hsize hdg hW hn ⟨r1, r2, rfl, hB, F1, F2, hA, hS, hz, l0, l2, hp⟩
  have al' : Z.vm.Alike B.U.vm := hZ.alike.trans X'.warmed.alike
  have hsz : E'.slots.size = D.slots.size := by
    obtain ⟨-, -, -, kB, w1, w2, w3⟩ := q1
    obtain ⟨kB', y1, y2⟩ := al'.2.2 _ _ e3
    rw [q2.2.1] at w1
    cases w1.symm.trans y1
    rw [w3, e5 i3, y2]
  refine ⟨v, B, X', ⟨_, ⟨hv, ?_, ⟨by omega, fun y cy hy hn' => q10 y cy (by simpa using hn') hy, fun y cy hy => ?_⟩, q11, ⟨E', _, q1.1, by rw [q2.2.1]; exact e2, by rw [q2.2.1]; exact e3, by rw [q2.1]; exact obV, fun _ => by rw [hsz]; exact e5 i3⟩,
    ⟨E', cfV, kV, iV, fV, q1.1, gV, stV, by rw [q2.1]; exact knV, by rw [q2.1]; exact obV, by rw [q2.2.1]; exact asV, q3⟩, ⟨E', cfC, kC, iC, fC, q1.1, gC, stC, by rw [q2.1]; exact knV, by rw [q2.1]; exact obV, by rw [q2.2.1]; exact asC, q4⟩,
    ⟨V', ⟨q5.1, State.isArrayOf_alike al'.symm q5.2.1, q5.2.2.1⟩, q6, by rw [← al'.findClass]; exact q7, q8, fun j hj => by have := q9 j hj; rwa [Nat.zero_add] at this⟩, fun O n d w F n1 n2 => ?_⟩, hl, hc, hs⟩, st⟩
  · intro y hy
    simp only [List.mem_cons, List.not_mem_nil, or_false] at hy
    rcases hy with rfl | rfl <;> rfl
  · by_cases q : y = x
    · subst q
      cases hD.symm.trans hy
      exact ⟨E', q1.1, q2.2.1, q2.1, hsz⟩
    · exact ⟨cy, q10 y cy q hy, rfl, rfl, rfl⟩
  · obtain ⟨D3, cf, k, i, f, g1, g2, g3, g4, g5, g6, g7⟩ := F
    cases hD.symm.trans g1
    simp only [RoadKit.slotOf, g2, gV, gC, Option.map_some, Option.getD_some] at n1 n2
    exact ⟨E', cf, k, i, f, q1.1, g2, g3, by rw [q2.1]; exact g4, by rw [q2.1]; exact g5, by rw [q2.2.1]; exact g6, by rw [q2.2.2 f.slot (by simp [n1, n2])]; exact g7⟩
end StrChars.Road
namespace StrChars.Road
open Jvm Sem ClassFile Op Lib Jvm.Stand Jvm.Free Jvm.Free.XT
/-- WHAT COMES BACK, the byte[] as a list of values -/
def QA (Z : State) (x : Addr) (zn : Int32) (cs : List Int32) (h : Heap) (v : Option Value) (h' : Heap) (L : List Loc) : Prop := v = none ∧ (∀ y ∈ L, y.base = x) ∧ RoadKit.Keep h h' [x] ∧ h'.size = h.size + 1 ∧ RoadKit.Exa Z h' x ST ∧ RoadKit.Fld Z h' x ST "value" "[B" (.ref h.size) ∧ RoadKit.Fld Z h' x ST "coder" "B" (.int 0) ∧
  (∃ kb, Z.vm.findClass "[B" = some kb ∧ RoadKit.Arv Z h' h.size kb .byte zn (cs.map fun c => .int (lo8 c)) (.int 0)) ∧
  ∀ (O n d : String) (w : Value), RoadKit.Fld Z h x O n d w → RoadKit.slotOf Z O n d ≠ RoadKit.slotOf Z ST "value" "[B" → RoadKit.slotOf Z O n d ≠ RoadKit.slotOf Z ST "coder" "B" → RoadKit.Fld Z h' x O n d w
/-- **new String(chars) AT A CALL, THE ARRAYS AS LISTS**: the char[] at b holds cs, not empty, no char above 255 -/
theorem backArv {p : Program} {l : Launch} {e : Env} {R : Room} {s : State} {args : Array Value} {below : List Frame} {len W : Nat} {Z : State} {a0 : Array Value} {h : Heap} (hZ : Z.Warmed39 s.vm) (hw : ∀ d ∈ words, d.before a0 Z = true) {kI : Nat} (wi : (Jvm.Cond.instantiable ST kI).before a0 Z = true)
    {x b : Addr} {k : ClassId} {zn z : Int32} {cs : List Int32} {dv v0 c0 : Value} (E : RoadKit.Exa Z h x ST) (V : RoadKit.Fld Z h x ST "value" "[B" v0) (C : RoadKit.Fld Z h x ST "coder" "B" c0) (K : RoadKit.Arv Z h b k .char zn (cs.map Value.int) dv) (S : RoadKit.Sta Z h ST "COMPACT_STRINGS" "Z" (.int z)) (hz : ¬ z = 0)
    (hlen : zn.toNatClampNeg = cs.length) (h0 : 0 < cs.length) (hbig : cs.length ≤ 536870912) (hall : ∀ c ∈ cs, ¬ 255 < c) (hfr : 4 ≤ R.frames) (hlo : W + 65 ≤ R.locals) :
    Back l R p e below s args New1.yN len W (fun P a => a = #[.ref x, .ref b] ∧ P.U.heap = h ∧ P.cells + 1 ≤ R.cells ∧ P.slots + cs.length ≤ R.slots)
      (fun P _ v B => ∃ L, QA Z x zn cs h v B.U.heap L ∧ B.locs = P.locs ++ L ∧ B.cells = P.cells + 1 ∧ B.slots = P.slots + cs.length) := by
  obtain ⟨A, K1, K2, K3, K4, K5, K6⟩ := K
  have e : A.slots.size = cs.length := K3.trans hlen
  have hat : ∀ (i : Nat) (hi : i < cs.length), A.slots[i]? = some (.int cs[i]) := fun i hi => by rw [K5 i (by omega)]; simp [List.getD_eq_getElem?_getD, hi]
  have hcv : ∀ (i : Nat) (hi : i < cs.length), cv A i = cs[i] := fun i hi => by unfold cv; rw [hat i hi]
  have hty : Typed .char A := fun i v hv => by
    have hi : i < A.slots.size := (Array.getElem?_eq_some_iff.mp hv).1
    have q := K5 i hi
    rw [hv] at q
    rw [Option.some.inj q]
    exact K6 i hi
  refine Back.mono (back hZ hw wi E V C K1 hty S hz (by omega) (by omega) (fun i hi => by rw [hcv i (by omega)]; exact hall _ (List.getElem_mem _)) hfr hlo) (fun P a hp => ⟨hp.1, hp.2.1, hp.2.2.1, by rw [e]; exact hp.2.2.2⟩) (fun P a v B hp hq => ?_)
  obtain ⟨L, ⟨q1, q2, q3, q4, q5, q6, q7, ⟨V', v1, v2, v3, v4, v5⟩, q9⟩, hl, hc, hs⟩ := hq
  refine ⟨L, ⟨q1, q2, q3, q4, q5, q6, q7, ⟨V'.cls, v3, V', v1, rfl, by rw [v4, e, hlen], K4, fun i hi => ?_, fun i hi => ?_⟩, q9⟩, hl, hc, by rw [hs, e]⟩
  · have hi' : i < cs.length := by omega
    rw [v5 i (by omega), hcv i hi']; simp [List.getD_eq_getElem?_getD, hi']
  · have hi' : i < cs.length := by omega
    simp only [List.getD_eq_getElem?_getD, List.getElem?_map, List.getElem?_eq_getElem hi', Option.map_some, Option.getD_some]
    exact fits_lo8 _
end StrChars.Road
namespace StrChars.Road
open Jvm Sem ClassFile Op Lib Jvm.Stand Jvm.Free Jvm.Free.XT
/-- WHAT COMES BACK, in the writer's own shape -/
def QV (Z : State) (x : Addr) (N : Int32) (bs : List Int32) (h : Heap) (n0 : Nat) (v : Option Value) (h' : Heap) (L : List Loc) : Prop := v = none ∧ RoadKit.Fr n0 L ∧ RoadKit.Keep h h' [x] ∧ RoadKit.Exa Z h' x ST ∧ RoadKit.Fld Z h' x ST "coder" "B" (.int 0) ∧
  ∃ (t : Addr) (kb : ClassId), n0 ≤ t ∧ h.size ≤ t ∧ ¬ t = x ∧ RoadKit.Fld Z h' x ST "value" "[B" (.ref t) ∧ RoadKit.Arv Z h' t kb .byte N (bs.map Value.int) (.int 0)
/-- **new String(chars) AT A CALL, FOR THE WRITER**: a char[] of n known ints, each 0 to 255 -/
theorem backV {p : Program} {l : Launch} {e : Env} {R : Room} {s : State} {args : Array Value} {below : List Frame} {len W : Nat} {Z : State} {a0 : Array Value} {h : Heap} (hZ : Z.Warmed39 s.vm) (hw : ∀ d ∈ words, d.before a0 Z = true) {kI : Nat} (wi : (Jvm.Cond.instantiable ST kI).before a0 Z = true)
    {x b : Addr} {kC : ClassId} {cs bs : List Int32} {d v0 c0 : Value} {z N : Int32} {n n0 : Nat} (hx0 : n0 ≤ x) (hh0 : n0 ≤ h.size) (E : RoadKit.Exa Z h x ST) (V : RoadKit.Fld Z h x ST "value" "[B" v0) (C : RoadKit.Fld Z h x ST "coder" "B" c0) (K : RoadKit.Arv Z h b kC .char N (cs.map Value.int) d) (S : RoadKit.Sta Z h ST "COMPACT_STRINGS" "Z" (.int z)) (hz : ¬ z = 0)
    (hn : cs.length = n) (hN : N = Int32.ofNat n) (l0 : 0 < n) (l2 : n ≤ 4000) (hp : ∀ c ∈ cs, ¬ c < 0 ∧ ¬ (255 : Int32) < c) (hb : bs = cs.map (fun c => c.toInt8.toInt32)) (hfr : 4 ≤ R.frames) (hlo : W + 65 ≤ R.locals) :
    Back l R p e below s args (⟨"java/lang/String", "<init>", "([C)V"⟩ : MethodName) len W (fun P a => a = #[.ref x, .ref b] ∧ P.U.heap = h ∧ P.cells + 1 ≤ R.cells ∧ P.slots + n ≤ R.slots)
      (fun P _ v B => ∃ L, QV Z x N bs h n0 v B.U.heap L ∧ B.locs = P.locs ++ L ∧ B.cells = P.cells + 1 ∧ B.slots = P.slots + n) := by
  subst hn hN hb
  refine Back.mono (backArv hZ hw wi E V C K S hz (n32 (by omega)) l0 (by omega) (fun c hc => (hp c hc).2) hfr hlo) (fun P a hp => hp) (fun P a v B hp hq => ?_)
  obtain ⟨L, ⟨q1, q2, q3, q4, q5, q6, q7, ⟨kb, v1, v2⟩, q9⟩, hl, hc, hs⟩ := hq
  exact ⟨L, ⟨q1, fun y hy => by rw [q2 y hy]; exact hx0, q3, q5, q7, h.size, kb, hh0, Nat.le_refl _, Nat.ne_of_gt E.lt, q6, by rw [List.map_map]; exact v2⟩, hl, hc, hs⟩
end StrChars.Road
namespace StrChars
open Jvm Sem ClassFile Op Lib Jvm.Stand Jvm.Free.XT Jvm.Free.ALB Jvm.Free.JM Jvm.Free
open Jvm.Lib.Cold (StaticIs)
def hi8 (x : Int32) : Int32 := lo8 (x >>> ((8 : Int32) &&& 31))
/-- what StringUTF16.getChar makes of two bytes -/
def pairCh (u v : Int32) : Int32 := (((u &&& 255) <<< ((0 : Int32) &&& 31)) ||| ((v &&& 255) <<< ((8 : Int32) &&& 31))).toUInt32.toUInt16.toUInt32.toInt32
theorem lo8_and (x : Int32) : (lo8 x &&& 255).toBitVec.toNat = x.toBitVec.toNat % 256 := by
  have h : (lo8 x).toBitVec = (x.toBitVec.signExtend 8).signExtend 32 := by rw [lo8, Int8.toBitVec_toInt32, Int32.toBitVec_toInt8]
  rw [Int32.toBitVec_and, BitVec.toNat_and, h]
  have e : ((x.toBitVec.signExtend 8).signExtend 32).toNat % 256 = x.toBitVec.toNat % 256 := by
    rw [BitVec.toNat_signExtend]
    have hlt := x.toBitVec.isLt
    simp only [BitVec.toNat_setWidth, BitVec.toNat_signExtend]
    split <;> split <;> omega
  rw [← e]
  exact Nat.and_two_pow_sub_one_eq_mod _ 8
theorem pair_says {c : Int32} (h0 : ¬ c < 0) (h1 : ¬ 65535 < c) : pairCh (lo8 c) (hi8 c) = c := by
  rw [Int32.lt_iff_toInt_lt] at h0 h1
  have e0 : (0 : Int32).toInt = 0 := rfl
  have e1 : (65535 : Int32).toInt = 65535 := rfl
  have hc : c.toInt = c.toBitVec.toNat := by
    have := c.toBitVec.isLt
    have e : c.toInt = c.toBitVec.toInt := rfl
    rw [e] at h0 h1
    rw [e]
    rw [BitVec.toInt_eq_toNat_cond] at h0 h1 ⊢
    split at h0 <;> split <;> omega
  have hn : c.toBitVec.toNat < 65536 := by omega
  have a1 := lo8_and c
  have a2 : (hi8 c &&& 255).toBitVec.toNat = c.toBitVec.toNat / 256 := by
    rw [hi8, lo8_and]
    have e : ((8 : Int32) &&& 31) = 8 := by decide
    rw [e, Int32.toBitVec_shiftRight]
    have e2 : ((8 : Int32).toBitVec.smod 32) = 8#32 := by decide
    rw [e2, BitVec.sshiftRight_eq', BitVec.toNat_sshiftRight_of_msb_false (by rw [BitVec.msb_eq_false_iff_two_mul_lt]; omega)]
    show c.toBitVec.toNat >>> 8 % 256 = _
    rw [Nat.shiftRight_eq_div_pow]
    omega
  unfold pairCh
  apply Int32.toBitVec_inj.mp
  apply BitVec.eq_of_toNat_eq
  have f0 : ((0 : Int32) &&& 31) = 0 := by decide
  have f8 : ((8 : Int32) &&& 31) = 8 := by decide
  rw [f0, f8]
  have g : (((lo8 c &&& 255) <<< (0 : Int32)) ||| ((hi8 c &&& 255) <<< (8 : Int32))).toBitVec.toNat = c.toBitVec.toNat := by
    rw [Int32.toBitVec_or, Int32.toBitVec_shiftLeft, Int32.toBitVec_shiftLeft]
    have s0 : ((0 : Int32).toBitVec.smod 32) = 0#32 := by decide
    have s8 : ((8 : Int32).toBitVec.smod 32) = 8#32 := by decide
    rw [s0, s8, BitVec.toNat_or]
    simp only [BitVec.shiftLeft_eq', BitVec.toNat_shiftLeft, a1, a2]
    show (c.toBitVec.toNat % 256) <<< 0 % 2 ^ 32 ||| (c.toBitVec.toNat / 256) <<< 8 % 2 ^ 32 = _
    rw [Nat.shiftLeft_zero, Nat.mod_eq_of_lt (show c.toBitVec.toNat % 256 < 2 ^ 32 by omega), Nat.mod_eq_of_lt (show (c.toBitVec.toNat / 256) <<< 8 < 2 ^ 32 by rw [Nat.shiftLeft_eq]; omega), Nat.or_comm, ← Nat.shiftLeft_add_eq_or_of_lt (by omega), Nat.shiftLeft_eq]
    omega
  show BitVec.toNat (((((lo8 c &&& 255) <<< (0 : Int32)) ||| ((hi8 c &&& 255) <<< (8 : Int32))).toBitVec.setWidth 16).setWidth 32) = _
  rw [BitVec.toNat_setWidth, BitVec.toNat_setWidth, g]
  omega
end StrChars
namespace StrChars
open Jvm Sem ClassFile Op Lib Jvm.Stand Jvm.Free.XT Jvm.Free.ALB Jvm.Free.JM Jvm.Free
open Jvm.Lib.Cold (StaticIs)
/-- charAt's cast of a byte read back -/
def chr8 (u : Int32) : Int32 := (u &&& 255).toUInt32.toUInt16.toUInt32.toInt32
theorem chr8_lo8 {c : Int32} (h0 : ¬ c < 0) (h1 : ¬ 255 < c) : chr8 (lo8 c) = c := by
  have t : ∀ k : Fin 256, (Int32.ofNat k.val).toUInt32.toUInt16.toUInt32.toInt32 = Int32.ofNat k.val := by decide +kernel
  unfold chr8
  rw [lo8_mask h0 h1]
  rw [Int32.lt_iff_toInt_lt] at h0 h1
  have e0 : (0 : Int32).toInt = 0 := rfl
  have e1 : (255 : Int32).toInt = 255 := rfl
  obtain ⟨k, hk⟩ : ∃ k : Nat, c.toInt = k := ⟨c.toInt.toNat, by omega⟩
  have hx : c = Int32.ofNat k := Int32.toInt_inj.mp (by rw [hk, Int32.toInt_ofNat_small (by omega)])
  rw [hx]
  exact t ⟨k, by omega⟩
theorem narrow_ch {c : Int32} (h0 : ¬ c < 0) (h1 : ¬ 65535 < c) : narrow .char (.int c) = .int c := by
  have q : narrow .char (.int (pairCh (lo8 c) (hi8 c))) = .int (pairCh (lo8 c) (hi8 c)) := narrow_c _
  rwa [pair_says h0 h1] at q
/-- the array's cell V codes the n chars f 0 .. f (n - 1) by the coder cd, as the JDK does: coder 1 just where some char is above 255 -/
def Cod (cd : Int32) (n : Nat) (f : Nat → Int32) (V : Cell) : Prop := (cd = 0 ∧ V.slots.size = n ∧ ∀ j, j < n → V.slots[j]? = some (.int (lo8 (f j))) ∧ ¬ 255 < f j) ∨ (cd = 1 ∧ V.slots.size = 2 * n ∧ (∀ j, j < n → V.slots[2 * j]? = some (.int (lo8 (f j))) ∧ V.slots[2 * j + 1]? = some (.int (hi8 (f j)))) ∧ ∃ j, j < n ∧ 255 < f j)
theorem Cod.cd {cd : Int32} {n : Nat} {f : Nat → Int32} {V : Cell} (h : Cod cd n f V) : cd = 0 ∨ cd = 1 := h.imp (fun q => q.1) fun q => q.1
/-- **x is a String of the n chars f 0 .. f (n - 1)**, Latin-1 or UTF-16; its array at t has the cell V -/
def Txt (x t : Addr) (V : Cell) (cd : Int32) (n : Nat) (f : Nat → Int32) (U : State) : Prop := Exact "java/lang/String" x U ∧ Has x "java/lang/String" "value" "[B" (.ref t) U ∧ Has x "java/lang/String" "coder" "B" (.int cd) U ∧ XT.Arr .byte t V U ∧ Cod cd n f V ∧ ∀ j, j < n → ¬ f j < 0 ∧ ¬ 65535 < f j
theorem Txt.mv {x t : Addr} {V : Cell} {cd : Int32} {n : Nat} {f : Nat → Int32} {U U' : State} (h : Txt x t V cd n f U) (hal : U.vm.Alike U'.vm) (hh : U'.heap = U.heap) : Txt x t V cd n f U' := ⟨h.1.mv hal hh, h.2.1.mv hal hh, h.2.2.1.mv hal hh, h.2.2.2.1.mv hal hh, h.2.2.2.2⟩
namespace IsL
def yN : MethodName := ⟨"java/lang/String", "isLatin1", "()Z"⟩
abbrev yB : ByteArray := jdk_42_method_154_code
theorem d0 : decode yB 0 = .ok (.getstatic 38, 3) := by decide +kernel
theorem d3 : decode yB 3 = .ok (.ifCond (.eq) 14, 3) := by decide +kernel
theorem d6 : decode yB 6 = .ok (.aload_n 0, 1) := by decide +kernel
theorem d7 : decode yB 7 = .ok (.getfield 15, 3) := by decide +kernel
theorem d10 : decode yB 10 = .ok (.ifCond (.ne) 7, 3) := by decide +kernel
theorem d13 : decode yB 13 = .ok (.iconst 1, 1) := by decide +kernel
theorem d14 : decode yB 14 = .ok (.goto 4, 3) := by decide +kernel
theorem d17 : decode yB 17 = .ok (.iconst 0, 1) := by decide +kernel
theorem d18 : decode yB 18 = .ok (.ireturn, 1) := by decide +kernel
def site : List Cond := [.fieldLink "java/lang/String" 38 "java/lang/String" "COMPACT_STRINGS" "Z", .fieldLink "java/lang/String" 15 "java/lang/String" "coder" "B"]
def tab : Cond := tabOf yN yB 1 (some .boolean) site
def P (x : Addr) (cd z : Int32) (args : Array Value) (s : State) : Prop := args = #[.ref x] ∧ Has x "java/lang/String" "coder" "B" (.int cd) s ∧ (cd = 0 ∨ cd = 1) ∧ StaticIs s "java/lang/String" "COMPACT_STRINGS" "Z" (.int z) ∧ ¬ z = 0
def E (cd : Int32) (r : Option Value) (s u : State) : Prop := XT.PureE (some (.int (1 - cd))) r s u
theorem law (l : Launch) (x : Addr) (cd z : Int32) : Law l yN 1 0 0 0 yB 1 (some .boolean) site (P x cd z) (E cd) [] 0 0 := by
  refine Law.of_walk (plainFor_of_name (by decide +kernel)) (by decide +kernel) (by decide +kernel) (by decide) (fun _ _ h => by rw [h.1]; rfl) (fun _ U U' hal hh h => ⟨h.1, h.2.1.mv hal hh, h.2.2.1, h.2.2.2.1.there hal hh, h.2.2.2.2⟩) (fun r U U' V V' h1 hal h2 h => XT.PureE.mv r U U' V V' h1 hal h2 h) ?_
  intro p e s m args below meth c s₁ X0 hexec hbytes hml hret hlk hnm hown hh0 W hP
  obtain ⟨rfl, hx, hc, s1, hz⟩ := hP
  have c1 : Steps p.tables e below (s₁.setTop (entryFrame m #[.ref x] 1)) (s₁.setTop (mkF m 0 #[.val (.ref x)] [])) := entry rfl
  obtain ⟨T2, X2, q2, st2⟩ := X0.sget hexec hown (wk W (.fieldLink "java/lang/String" 38 "java/lang/String" "COMPACT_STRINGS" "Z")) s1 (fun _ _ h => by rw [hh0]; exact h) (g := (mkF m 0 #[.val (.ref x)] [])) rfl (hb hbytes d0)
  have hh2 := q2.trans hh0
  have c3 : Steps p.tables e below (s₁.setTop (entryFrame m #[.ref x] 1)) (T2.setTop (mkF m 7 #[.val (.ref x)] [.ref x])) := (c1.trans (st2 _ (Steps.refl _))).trans (by
    refine XS.ifNo X2.here hexec rfl (hb hbytes d3) rfl (i0_eq_f hz) ?_
    refine XS.aloadN X2.here hexec rfl (hb hbytes d6) rfl rfl ?_
    exact Steps.refl _)
  obtain ⟨T4, X4, q4, st4⟩ := X2.hget hexec hown (wk W (.fieldLink "java/lang/String" 15 "java/lang/String" "coder" "B")) (hx.mv X2.warmed.alike hh2) (g := (mkF m 7 #[.val (.ref x)] [.ref x])) rfl (rest := []) rfl (hb hbytes d7)
  have c5 : Steps p.tables e below (s₁.setTop (entryFrame m #[.ref x] 1)) (T4.setTop (mkF m 10 #[.val (.ref x)] [.int cd])) := c3.trans (st4 _ (Steps.refl _))
  have c6 : Steps p.tables e below (s₁.setTop (entryFrame m #[.ref x] 1)) (T4.setTop (mkF m 18 #[.val (.ref x)] [.int (1 - cd)])) := by
    rcases hc with rfl | rfl
    · exact c5.trans (by
        refine XS.ifNo X4.here hexec rfl (hb hbytes d10) rfl (i0_ne_f rfl) ?_
        refine iconstV X4.here hexec rfl 1 (hb hbytes d13) (by decide) ?_
        refine XS.goto X4.here hexec rfl (pc0 := 14) rfl (hb hbytes d14) (by decide) rfl ?_
        exact Steps.refl _)
    · exact c5.trans (by
        refine XS.ifYes X4.here hexec rfl (pc0 := 10) rfl (hb hbytes d10) rfl (i0_ne_t (by decide)) (by decide) rfl ?_
        refine iconstV X4.here hexec rfl 0 (hb hbytes d17) (by decide) ?_
        exact Steps.refl _)
  exact ⟨T4, some (.int (1 - cd)), _, _, _, X4, rfl, rfl, rfl, (fun h => by cases h), ⟨rfl, q4.trans hh2⟩, fun fs hl => c6.trans (X4.ireturnOut hexec hret (by rcases hc with rfl | rfl <;> rfl) (Or.inr (Or.inl rfl)) (hb hbytes d18) hl)⟩
end IsL
namespace LChA
def yN : MethodName := ⟨"java/lang/StringLatin1", "charAt", "([BI)C"⟩
abbrev yB : ByteArray := jdk_43_method_2_code
theorem d0 : decode yB 0 = .ok (.iload_n 1, 1) := by decide +kernel
theorem d1 : decode yB 1 = .ok (.aload_n 0, 1) := by decide +kernel
theorem d2 : decode yB 2 = .ok (.arraylength, 1) := by decide +kernel
theorem d3 : decode yB 3 = .ok (.invokestatic 9, 3) := by decide +kernel
theorem d6 : decode yB 6 = .ok (.aload_n 0, 1) := by decide +kernel
theorem d7 : decode yB 7 = .ok (.iload_n 1, 1) := by decide +kernel
theorem d8 : decode yB 8 = .ok (.baload, 1) := by decide +kernel
theorem d9 : decode yB 9 = .ok (.sipush 255, 3) := by decide +kernel
theorem d12 : decode yB 12 = .ok (.iand, 1) := by decide +kernel
theorem d13 : decode yB 13 = .ok (.i2c, 1) := by decide +kernel
theorem d14 : decode yB 14 = .ok (.ireturn, 1) := by decide +kernel
def site : List Cond := [JO.Str_checkIndex.tab] ++ staticW "java/lang/StringLatin1" 9 JO.Str_checkIndex.yN
def tab : Cond := tabOf yN yB 2 (some .char) site
def P (t : Addr) (V : Cell) (i : Nat) (u : Int32) (fm : Value) (args : Array Value) (s : State) : Prop := args = #[.ref t, .int (Int32.ofNat i)] ∧ XT.Arr .byte t V s ∧ V.slots[i]? = some (.int u) ∧ (StaticIs s "jdk/internal/util/Preconditions" "SIOOBE_FORMATTER" "Ljava/util/function/BiFunction;" fm ∧ fm.isRef = true)
def E (u : Int32) (r : Option Value) (s w : State) : Prop := XT.PureE (some (.int (chr8 u))) r s w
theorem law (l : Launch) (t : Addr) (V : Cell) (i : Nat) (u : Int32) (fm : Value) : Law l yN 2 2 2 27 yB 2 (some .char) site (P t V i u fm) (E u) [] 0 0 := by
  refine Law.of_walk (plainFor_of_name (by decide +kernel)) (by decide +kernel) (by decide +kernel) (by decide) (fun _ _ h => by rw [h.1]; rfl) (fun _ U U' hal hh h => ⟨h.1, h.2.1.mv hal hh, h.2.2.1, h.2.2.2.1.there hal hh, h.2.2.2.2⟩) (fun r U U' V V' h1 hal h2 h => XT.PureE.mv r U U' V V' h1 hal h2 h) ?_
  intro p e s m args below meth c s₁ X0 hexec hbytes hml hret hlk hnm hown hh0 W hP
  obtain ⟨rfl, hV, hu, s1, rf⟩ := hP
  have v31 := hV.2.2.2
  have hi : i < V.slots.size := (Array.getElem?_eq_some_iff.mp hu).1
  have c1 : Steps p.tables e below (s₁.setTop (entryFrame m #[.ref t, .int (Int32.ofNat i)] 2)) (s₁.setTop (mkF m 0 #[.val (.ref t), .val (.int (Int32.ofNat i))] [])) := entry rfl
  have c2 : Steps p.tables e below (s₁.setTop (entryFrame m #[.ref t, .int (Int32.ofNat i)] 2)) (s₁.setTop (mkF m 3 #[.val (.ref t), .val (.int (Int32.ofNat i))] [.int (Int32.ofNat V.slots.size), .int (Int32.ofNat i)])) := c1.trans (by
    refine XS.iloadN X0.here hexec rfl (hb hbytes d0) rfl ?_
    refine XS.aloadN X0.here hexec rfl (hb hbytes d1) rfl rfl ?_
    refine X0.alen hexec (hV.mv X0.warmed.alike hh0) rfl rfl (hb hbytes d2) ?_
    exact Steps.refl _)
  obtain ⟨v3, T3, X3, E3, g3⟩ := X0.callS hexec (JO.Str_checkIndex.law l (Int32.ofNat i) (Int32.ofNat V.slots.size) fm) hown (wks W (staticW "java/lang/StringLatin1" 9 JO.Str_checkIndex.yN)) (wk W JO.Str_checkIndex.tab) (W := 0) (Nat.le_of_ble_eq_true rfl) (Nat.le_of_ble_eq_true rfl) (Nat.le_refl _) (Nat.le_refl _) (g := (mkF m 3 #[.val (.ref t), .val (.int (Int32.ofNat i))] [.int (Int32.ofNat V.slots.size), .int (Int32.ofNat i)])) rfl (by rw [hml]; rfl) c2 (argsL := [.int (Int32.ofNat i), .int (Int32.ofNat V.slots.size)]) (rest := []) rfl rfl (by show 2 * 0 + 0 ≤ _; decide) (hb hbytes d3) (⟨rfl, rf, s1.there X0.warmed.alike hh0, Int32.ofNat_not_neg (by omega), lt32 v31 hi⟩)
  obtain ⟨rfl, q3⟩ := E3
  have hh3 := q3.trans hh0
  have c4 : Steps p.tables e below (s₁.setTop (entryFrame m #[.ref t, .int (Int32.ofNat i)] 2)) (T3.setTop (mkF m 14 #[.val (.ref t), .val (.int (Int32.ofNat i))] [.int (chr8 u)])) := Steps.trans g3 (by
    refine XS.aloadN X3.here hexec rfl (hb hbytes d6) rfl rfl ?_
    refine XS.iloadN X3.here hexec rfl (hb hbytes d7) rfl ?_
    refine X3.aget hexec (hV.mv X3.warmed.alike hh3) rfl hu rfl rfl (hb hbytes d8) ?_
    refine sipushV X3.here hexec rfl 255 (hb hbytes d9) (by decide) ?_
    refine XS.iand X3.here hexec rfl (hb hbytes d12) rfl ?_
    refine i2c X3.here hexec rfl (hb hbytes d13) rfl ?_
    exact Steps.refl _)
  exact ⟨T3, some (.int (chr8 u)), _, _, _, X3, rfl, rfl, rfl, (fun h => by cases h), ⟨rfl, hh3⟩, fun fs hl => c4.trans (X3.ireturnOut hexec hret (narrow_c _) (Or.inr (Or.inr (Or.inr (Or.inl rfl)))) (hb hbytes d14) hl)⟩
end LChA
end StrChars
namespace StrChars.Road
open Jvm Sem ClassFile Op Lib Jvm.Stand Jvm.Free Jvm.Free.XT
open Jvm.Lib.Cold (StaticIs)
theorem consq {a : Array Value} {s : State} {c : Jvm.Cond} {L : List Jvm.Cond} (h0 : c.before a s = true) (h : ∀ w ∈ L, w.before a s = true) : ∀ w ∈ c :: L, w.before a s = true := fun w hw => (List.mem_cons.mp hw).elim (fun e => e ▸ h0) (h w)
/-- the bytes of the chars cs, low before high -/
def wideBytes : List Int32 → List Value
  | [] => []
  | c :: cs => .int (lo8 c) :: .int (hi8 c) :: wideBytes cs
theorem wide_lo (d : Value) : ∀ (cs : List Int32) (j : Nat), j < cs.length → (wideBytes cs).getD (2 * j) d = .int (lo8 (cs.getD j 0))
  | [], j, h => absurd h (Nat.not_lt_zero j)
  | c :: cs, 0, _ => rfl
  | c :: cs, j + 1, h => by
    have q := wide_lo d cs j (by simpa using h)
    rw [show 2 * (j + 1) = 2 * j + 1 + 1 from by omega]
    simpa [wideBytes] using q
theorem wide_hi (d : Value) : ∀ (cs : List Int32) (j : Nat), j < cs.length → (wideBytes cs).getD (2 * j + 1) d = .int (hi8 (cs.getD j 0))
  | [], j, h => absurd h (Nat.not_lt_zero j)
  | c :: cs, 0, _ => rfl
  | c :: cs, j + 1, h => by
    have q := wide_hi d cs j (by simpa using h)
    rw [show 2 * (j + 1) + 1 = 2 * j + 1 + 1 + 1 from by omega]
    simpa [wideBytes] using q
theorem low_at (d : Value) (cs : List Int32) (j : Nat) (h : j < cs.length) : (cs.map fun c => Value.int (lo8 c)).getD j d = .int (lo8 (cs.getD j 0)) := by
  simp [List.getD_eq_getElem?_getD, h]
/-- an array of N2 bytes vs codes the chars cs by the coder cd -/
def CodA (cs : List Int32) (cd N2 : Int32) (vs : List Value) : Prop := (cd = 0 ∧ N2 = Int32.ofNat cs.length ∧ vs = (cs.map fun c => Value.int (lo8 c)) ∧ ∀ c ∈ cs, ¬ 255 < c) ∨ (cd = 1 ∧ N2 = Int32.ofNat (2 * cs.length) ∧ vs = wideBytes cs ∧ ∃ c ∈ cs, 255 < c)
theorem CodA.cod {cs : List Int32} {cd N2 : Int32} {vs : List Value} {V : Cell} (h : CodA cs cd N2 vs) (hn : 2 * cs.length < 2 ^ 31) (hs : V.slots.size = N2.toNatClampNeg) (hv : RoadKit.Has V vs (.int 0)) : Cod cd cs.length (fun j => cs.getD j 0) V := by
  rcases h with ⟨rfl, rfl, rfl, h⟩ | ⟨rfl, rfl, rfl, c, hc, hw⟩
  · rw [n32 (by omega)] at hs
    exact Or.inl ⟨rfl, hs, fun j hj => ⟨by rw [hv j (by omega), low_at _ _ _ hj], by
      have e : cs.getD j 0 = cs[j] := by simp [List.getD_eq_getElem?_getD, hj]
      show ¬ 255 < cs.getD j 0
      rw [e]; exact h _ (List.getElem_mem _)⟩⟩
  · rw [n32 (by omega)] at hs
    obtain ⟨j, hj, rfl⟩ := List.getElem_of_mem hc
    exact Or.inr ⟨rfl, hs, fun j hj => ⟨by rw [hv _ (by omega), wide_lo _ _ _ hj], by rw [hv _ (by omega), wide_hi _ _ _ hj]⟩, j, hj, by
      have e : cs.getD j 0 = cs[j] := by simp [List.getD_eq_getElem?_getD, hj]
      show 255 < cs.getD j 0
      rw [e]; exact hw⟩
/-- an object of exactly java/lang/String, its two fields found: as the laws ask it -/
theorem strObj {Z U : State} {a0 : Array Value} {kI : Nat} (wi : (Jvm.Cond.instantiable ST kI).before a0 Z = true) (al : Z.vm.Alike U.vm) {x : Addr} {v0 c0 : Value} (E : RoadKit.Exa Z U.heap x ST) (V : RoadKit.Fld Z U.heap x ST "value" "[B" v0) (C : RoadKit.Fld Z U.heap x ST "coder" "B" c0) :
    ∃ (D : Cell) (fV fC : Field), Blank ST x D U ∧ Found ST "value" "[B" fV U ∧ Found ST "coder" "B" fC U ∧ D.slots[fV.slot]? = some v0 ∧ D.slots[fC.slot]? = some c0 ∧ RoadKit.slotOf Z ST "value" "[B" = fV.slot ∧ RoadKit.slotOf Z ST "coder" "B" = fC.slot := by
  obtain ⟨D, cfV, kV, iV, fV, hD, gV, stV, knV, obV, asV, slV⟩ := V
  obtain ⟨D', cfC, kC, iC, fC, hD', gC, stC, -, -, asC, slC⟩ := C
  cases hD.symm.trans hD'
  obtain ⟨D2, kD, e1, e2, e3, e4, e5⟩ := E
  cases hD.symm.trans e1
  obtain ⟨c2, k2, i1, i2, i3, -⟩ := Cond.instantiable_spec wi
  cases e2.symm.trans i1
  cases e3.symm.trans i2
  obtain ⟨kU, u1, u2⟩ := al.2.2 _ _ e3
  exact ⟨D, fV, fC, ⟨hD, ⟨knV, fun q hq => by rw [hq] at obV; cases obV⟩, by rw [al.findClass]; exact e2, kU, u1, by rw [u2]; exact i3, by rw [u2]; exact e5 i3⟩, ⟨SBG.found_only al ⟨cfV, kV, iV, gV⟩, stV⟩, ⟨SBG.found_only al ⟨cfC, kC, iC, gC⟩, stC⟩, slV, slC, by simp [RoadKit.slotOf, gV], by simp [RoadKit.slotOf, gC]⟩
theorem sta_is {Z U : State} (al : Z.vm.Alike U.vm) {C n d : String} {v : Value} (S : RoadKit.Sta Z U.heap C n d v) : StaticIs U C n d v := by
  obtain ⟨cfS, iS, kS, fS, st, cS, t1, t2, t3, t4, t5, t6, t7⟩ := S
  exact StaticIs.there (s := { Z with heap := U.heap }) ⟨cfS, iS, kS, fS, st, cS, t1, t2, t3, t4, t5, (fun q => by rw [q] at t6; cases t6), t7⟩ al rfl
end StrChars.Road
namespace StrChars.Road
open Jvm Sem ClassFile Op Lib Jvm.Stand Jvm.Free Jvm.Free.XT
open Jvm.Lib.Cold (StaticIs)
/-- the road's facts of a String, as the laws ask it -/
theorem txt_of {Z U : State} {a0 : Array Value} {kI : Nat} (wi : (Jvm.Cond.instantiable ST kI).before a0 Z = true) (al : Z.vm.Alike U.vm) {x t : Addr} {kb : ClassId} {cs : List Int32} {cd N2 : Int32} {vs : List Value} (E : RoadKit.Exa Z U.heap x ST) (V : RoadKit.Fld Z U.heap x ST "value" "[B" (.ref t)) (C : RoadKit.Fld Z U.heap x ST "coder" "B" (.int cd)) (K : RoadKit.Arv Z U.heap t kb .byte N2 vs (.int 0)) (hc : CodA cs cd N2 vs) (hb : ∀ c ∈ cs, ¬ c < 0 ∧ ¬ (65535 : Int32) < c) (l2 : cs.length ≤ 4000) :
    ∃ A, Txt x t A cd cs.length (fun j => cs.getD j 0) U := by
  obtain ⟨A, K1, K2, K3, K4, K5, K6⟩ := K
  have hcod := hc.cod (by omega) K3 K5
  obtain ⟨D, fV, fC, hB, F1, F2, g1, g2, -, -⟩ := strObj wi al E V C
  exact ⟨A, ⟨_, hB.2.2.1, D, hB.1, rfl, by cases q : D.vm <;> first | rfl | exact absurd q (hB.2.1.2 _)⟩, Has.of hB F1 g1, Has.of hB F2 g2, ⟨K1.1, State.isArrayOf_alike al K1.2.1, K1.2.2, by rcases hcod with ⟨-, q, -⟩ | ⟨-, q, -⟩ <;> omega⟩, hcod, fun j hj => by
    have e : cs.getD j 0 = cs[j] := by simp [List.getD_eq_getElem?_getD, hj]
    show ¬ cs.getD j 0 < 0 ∧ ¬ 65535 < cs.getD j 0
    rw [e]; exact hb _ (List.getElem_mem _)⟩
end StrChars.Road
namespace StrChars
open Jvm Sem ClassFile Op Lib Jvm.Stand Jvm.Free.XT Jvm.Free.ALB Jvm.Free.JM Jvm.Free
open Jvm.Lib.Cold (StaticIs)
namespace ChN
def yN : MethodName := ⟨"java/lang/String", "charAt", "(I)C"⟩
abbrev yB : ByteArray := jdk_42_method_56_code
theorem d0 : decode yB 0 = .ok (.aload_n 0, 1) := by decide +kernel
theorem d1 : decode yB 1 = .ok (.invokevirtual 492, 3) := by decide +kernel
theorem d4 : decode yB 4 = .ok (.ifCond (.eq) 12, 3) := by decide +kernel
theorem d7 : decode yB 7 = .ok (.aload_n 0, 1) := by decide +kernel
theorem d8 : decode yB 8 = .ok (.getfield 9, 3) := by decide +kernel
theorem d11 : decode yB 11 = .ok (.iload_n 1, 1) := by decide +kernel
theorem d12 : decode yB 12 = .ok (.invokestatic 495, 3) := by decide +kernel
theorem d15 : decode yB 15 = .ok (.ireturn, 1) := by decide +kernel
def site : List Cond := [.fieldLink "java/lang/String" 9 "java/lang/String" "value" "[B", IsL.tab, LChA.tab] ++ virtW "java/lang/String" 492 "java/lang/String" IsL.yN IsL.yN ++ staticW "java/lang/String" 495 LChA.yN
def tab : Cond := tabOf yN yB 2 (some .char) site
def P (x t : Addr) (V : Cell) (n : Nat) (f : Nat → Int32) (z : Int32) (fm : Value) (i : Nat) (args : Array Value) (s : State) : Prop := args = #[.ref x, .int (Int32.ofNat i)] ∧ Txt x t V 0 n f s ∧ i < n ∧ StaticIs s "java/lang/String" "COMPACT_STRINGS" "Z" (.int z) ∧ ¬ z = 0 ∧ StaticIs s "jdk/internal/util/Preconditions" "SIOOBE_FORMATTER" "Ljava/util/function/BiFunction;" fm ∧ fm.isRef = true
def E (f : Nat → Int32) (i : Nat) (r : Option Value) (s u : State) : Prop := XT.PureE (some (.int (f i))) r s u
/-- charAt(i) of a Latin-1 String of n chars, i < n: f i -/
theorem law (l : Launch) (x t : Addr) (V : Cell) (n : Nat) (f : Nat → Int32) (z : Int32) (fm : Value) (i : Nat) : Law l yN 2 1 3 40 yB 2 (some .char) site (P x t V n f z fm i) (E f i) [] 0 0 := by
  refine Law.of_walk (plainFor_of_name (by decide +kernel)) (by decide +kernel) (by decide +kernel) (by decide) (fun _ _ h => by rw [h.1]; rfl) (fun _ U U' hal hh h => ⟨h.1, h.2.1.mv hal hh, h.2.2.1, h.2.2.2.1.there hal hh, h.2.2.2.2.1, h.2.2.2.2.2.1.there hal hh, h.2.2.2.2.2.2⟩) (fun r U U' V V' h1 hal h2 h => XT.PureE.mv r U U' V V' h1 hal h2 h) ?_
  intro p e s m args below meth c s₁ X0 hexec hbytes hml hret hlk hnm hown hh0 W hP
  obtain ⟨rfl, hx, hi, s1, hz, s3, rf⟩ := hP
  have v31 := hx.2.2.2.1.2.2.2
  have hr := hx.2.2.2.2.2 i hi
  have hx0 := hx.mv X0.warmed.alike hh0
  have c1 : Steps p.tables e below (s₁.setTop (entryFrame m #[.ref x, .int (Int32.ofNat i)] 2)) (s₁.setTop (mkF m 1 #[.val (.ref x), .val (.int (Int32.ofNat i))] [.ref x])) := Steps.trans (entry rfl) (by
    show Steps p.tables e below (s₁.setTop (mkF m 0 #[.val (.ref x), .val (.int (Int32.ofNat i))] [])) _
    refine XS.aloadN X0.here hexec rfl (hb hbytes d0) rfl rfl ?_
    exact Steps.refl _)
  obtain ⟨v2, T2, X2, E2, g2⟩ := X0.callV hexec (IsL.law l x 0 z) hown (wks W (virtW "java/lang/String" 492 "java/lang/String" IsL.yN IsL.yN)) rfl (by decide) (wk W IsL.tab) (W := 0) (Nat.le_of_ble_eq_true rfl) (Nat.le_of_ble_eq_true rfl) (Nat.le_refl _) (Nat.le_refl _) (hx0.1.fc X0.warmed.alike) hx0.1.is (g := (mkF m 1 #[.val (.ref x), .val (.int (Int32.ofNat i))] [.ref x])) rfl (by rw [hml]; rfl) c1 (argsL := []) (rest := []) rfl rfl (by show 2 * 0 + 0 ≤ _; decide) (hb hbytes d1) (⟨rfl, hx0.2.2.1, hx.2.2.2.2.1.cd, s1.there X0.warmed.alike hh0, hz⟩)
  obtain ⟨rfl, q2⟩ := E2
  have hh2 := q2.trans hh0
  have hx2 := hx.mv X2.warmed.alike hh2
  obtain ⟨-, k1, k2⟩ | ⟨k0, -⟩ := hx.2.2.2.2.1
  · have c3 : Steps p.tables e below (s₁.setTop (entryFrame m #[.ref x, .int (Int32.ofNat i)] 2)) (T2.setTop (mkF m 8 #[.val (.ref x), .val (.int (Int32.ofNat i))] [.ref x])) := Steps.trans g2 (by
      refine XS.ifNo X2.here hexec rfl (hb hbytes d4) rfl (i0_eq_f (by decide)) ?_
      refine XS.aloadN X2.here hexec rfl (hb hbytes d7) rfl rfl ?_
      exact Steps.refl _)
    obtain ⟨T4, X4, q4, st4⟩ := X2.hget hexec hown (wk W (.fieldLink "java/lang/String" 9 "java/lang/String" "value" "[B")) hx2.2.1 (g := (mkF m 8 #[.val (.ref x), .val (.int (Int32.ofNat i))] [.ref x])) rfl (rest := []) rfl (hb hbytes d8)
    have hh4 := q4.trans hh2
    have c5 : Steps p.tables e below (s₁.setTop (entryFrame m #[.ref x, .int (Int32.ofNat i)] 2)) (T4.setTop (mkF m 12 #[.val (.ref x), .val (.int (Int32.ofNat i))] [.int (Int32.ofNat i), .ref t])) := (c3.trans (st4 _ (Steps.refl _))).trans (by
      refine XS.iloadN X4.here hexec rfl (hb hbytes d11) rfl ?_
      exact Steps.refl _)
    obtain ⟨v6, T6, X6, E6, g6⟩ := X4.callS hexec (LChA.law l t V i (lo8 (f i)) fm) hown (wks W (staticW "java/lang/String" 495 LChA.yN)) (wk W LChA.tab) (W := 0) (Nat.le_of_ble_eq_true rfl) (Nat.le_of_ble_eq_true rfl) (Nat.le_refl _) (Nat.le_refl _) (g := (mkF m 12 #[.val (.ref x), .val (.int (Int32.ofNat i))] [.int (Int32.ofNat i), .ref t])) rfl (by rw [hml]; rfl) c5 (argsL := [.ref t, .int (Int32.ofNat i)]) (rest := []) rfl rfl (by show 2 * 0 + 0 ≤ _; decide) (hb hbytes d12) (⟨rfl, hx.2.2.2.1.mv X4.warmed.alike hh4, (k2 i hi).1, s3.there X4.warmed.alike hh4, rf⟩)
    obtain ⟨rfl, q6⟩ := E6
    rw [chr8_lo8 hr.1 (k2 i hi).2] at g6
    exact ⟨T6, some (.int (f i)), _, _, _, X6, rfl, rfl, rfl, (fun h => by cases h), ⟨rfl, q6.trans hh4⟩, fun fs hl => Steps.trans g6 (X6.ireturnOut hexec hret (narrow_ch hr.1 hr.2) (Or.inr (Or.inr (Or.inr (Or.inl rfl)))) (hb hbytes d15) hl)⟩
  · exact absurd k0 (by decide)
theorem pays {l : Launch} {R : Room} {p : Program} {e : Env} {below : List Frame} {s : State} {sargs : Array Value} {len W : Nat} (x t : Addr) (V : Cell) (n : Nat) (f : Nat → Int32) (z : Int32) (fm : Value) (i : Nat) (htab : tab.before sargs s = true) (hfr : 4 ≤ R.frames) (hlo : W + 53 ≤ R.locals) :
    Back l R p e below s sargs yN len W (fun A₁ a₁ => A₁.cells + 0 ≤ R.cells ∧ A₁.slots + 0 ≤ R.slots ∧ P x t V n f z fm i a₁ A₁.U) (fun A₁ _ v₁ B₁ => E f i v₁ A₁.U B₁.U ∧ B₁.locs = A₁.locs ++ [] ∧ B₁.cells = A₁.cells + 0 ∧ B₁.slots = A₁.slots + 0) :=
  (law l x t V n f z fm i).pays htab hfr (by omega)
end ChN
end StrChars
namespace StrChars.Road
open Jvm Sem ClassFile Op Lib Jvm.Stand Jvm.Free Jvm.Free.XT
open Jvm.Lib.Cold (StaticIs)
/-- the words of String.charAt(int), the Latin-1 road alone -/
abbrev wordsChN : List Jvm.Cond := [.code ChN.yN ChN.yB 2 (some .char), .initialized ST, .fieldLink ST 9 ST "value" "[B", .fieldLink ST 38 ST "COMPACT_STRINGS" "Z", .fieldLink ST 15 ST "coder" "B", .code IsL.yN IsL.yB 1 (some .boolean), .methodLink ST 492 IsL.yN, .declares IsL.yN, .selects ST IsL.yN IsL.yN, .instanceMethod IsL.yN,
  .methodLink ST 495 LChA.yN, .static LChA.yN, .code LChA.yN LChA.yB 2 (some .char), .initialized "java/lang/StringLatin1", .methodLink "java/lang/StringLatin1" 9 JO.Str_checkIndex.yN, .static JO.Str_checkIndex.yN, .code JO.Str_checkIndex.yN JO.Str_checkIndex.yB 2 none,
  .fieldLink ST 1053 "jdk/internal/util/Preconditions" "SIOOBE_FORMATTER" "Ljava/util/function/BiFunction;", .methodLink ST 1059 JC.PreCheck.yN, .static JC.PreCheck.yN, .code JC.PreCheck.yN JC.PreCheck.yB 3 (some .int), .initialized "jdk/internal/util/Preconditions"]
theorem tabChN_of {a : Array Value} {s : State} (h : ∀ w ∈ wordsChN, w.before a s = true) : ChN.tab.before a s = true := by
  have hp : JC.PreCheck.tab.before a s = true := unparts (wk h (.code JC.PreCheck.yN JC.PreCheck.yB 3 (some .int))) (wks h (.initialized JC.PreCheck.yN.cls :: JC.PreCheck.site))
  have qk := consq hp h
  have hk : JO.Str_checkIndex.tab.before a s = true := unparts (wk qk (.code JO.Str_checkIndex.yN JO.Str_checkIndex.yB 2 none)) (wks qk (.initialized JO.Str_checkIndex.yN.cls :: JO.Str_checkIndex.site))
  have ql := consq hk h
  have hl : LChA.tab.before a s = true := unparts (wk ql (.code LChA.yN LChA.yB 2 (some .char))) (wks ql (.initialized LChA.yN.cls :: LChA.site))
  have hi : IsL.tab.before a s = true := unparts (wk h (.code IsL.yN IsL.yB 1 (some .boolean))) (wks h (.initialized IsL.yN.cls :: IsL.site))
  have q := consq hi (consq hl h)
  exact unparts (wk q (.code ChN.yN ChN.yB 2 (some .char))) (wks q (.initialized ChN.yN.cls :: ChN.site))
theorem movedChN {Z s : State} {a0 args : Array Value} (hZ : Z.Warmed39 s.vm) (hw : ∀ d ∈ wordsChN, d.before a0 Z = true) : ∀ d ∈ wordsChN, d.before args s = true := fun d hd => by
  have t : ∀ d ∈ wordsChN, (d.onTables && d.keepsFace) = true := by decide +kernel
  exact RoadKit.mv hZ (hw d hd) (t d hd)
/-- **charAt(i) OF A LATIN-1 STRING**, i < n: the char -/
theorem chN {p : Program} {l : Launch} {e : Env} {R : Room} {s : State} {args : Array Value} {below : List Frame} {len W : Nat} {Z : State} {a0 : Array Value} {h : Heap} (hZ : Z.Warmed39 s.vm) (hw : ∀ d ∈ wordsChN, d.before a0 Z = true) {kI : Nat} (wi : (Jvm.Cond.instantiable ST kI).before a0 Z = true)
    {x t : Addr} {kb : ClassId} {cs : List Int32} {N2 z : Int32} {vs : List Value} {fm : Value} {i : Nat} {j : Int32} (E : RoadKit.Exa Z h x ST) (V : RoadKit.Fld Z h x ST "value" "[B" (.ref t)) (C : RoadKit.Fld Z h x ST "coder" "B" (.int 0)) (K : RoadKit.Arv Z h t kb .byte N2 vs (.int 0)) (hc : CodA cs 0 N2 vs) (hb : ∀ c ∈ cs, ¬ c < 0 ∧ ¬ (65535 : Int32) < c)
    (S : RoadKit.Sta Z h ST "COMPACT_STRINGS" "Z" (.int z)) (hz : ¬ z = 0) (F : RoadKit.Sta Z h "jdk/internal/util/Preconditions" "SIOOBE_FORMATTER" "Ljava/util/function/BiFunction;" fm) (rf : fm.isRef = true) (l2 : cs.length ≤ 4000) (hi : i < cs.length) (hj : j = Int32.ofNat i) (hfr : 4 ≤ R.frames) (hlo : W + 53 ≤ R.locals) :
    Back l R p e below s args (⟨"java/lang/String", "charAt", "(I)C"⟩ : MethodName) len W (fun P a => a = #[.ref x, .int j] ∧ P.U.heap = h ∧ P.cells + 0 ≤ R.cells ∧ P.slots + 0 ≤ R.slots)
      (fun P _ v B => ∃ L, (v = some (.int (cs.getD i 0)) ∧ L = [] ∧ B.U.heap = h) ∧ B.locs = P.locs ++ L ∧ B.cells = P.cells + 0 ∧ B.slots = P.slots + 0) := by
  subst hj
  intro m meth c P g ig mk a X hg hsize hdg hW hn hp'
  obtain ⟨rfl, rfl, r1, r2⟩ := hp'
  have al : Z.vm.Alike P.U.vm := hZ.alike.trans X.warmed.alike
  obtain ⟨A, hx⟩ := txt_of wi al E V C K hc hb l2
  obtain ⟨v, B, X', ⟨⟨hv, hh⟩, hl, hk, hs⟩, st⟩ := ChN.pays x t A cs.length (fun j => cs.getD j 0) z fm i (tabChN_of (movedChN hZ hw)) hfr hlo m meth c P g ig mk _ X hg hsize hdg hW hn ⟨r1, r2, rfl, hx, hi, sta_is al S, hz, sta_is al F, rf⟩
  exact ⟨v, B, X', ⟨[], ⟨hv, rfl, hh⟩, hl, hk, hs⟩, st⟩
/-- what backV says of its String, as the contracts of this text ask it: cs's low bytes, coder 0 -/
theorem codOf {cs : List Int32} {n : Nat} (hn : cs.length = n) (hb : ∀ c ∈ cs, ¬ 255 < c) : CodA cs 0 (Int32.ofNat n) ((cs.map lo8).map Value.int) := Or.inl ⟨rfl, by rw [hn], by simp [List.map_map, Function.comp_def], hb⟩
end StrChars.Road
end Jvm.Pilot.@@N@@

namespace Jvm.Pilot.@@N@@
open Jvm Jvm.ClassFile Sem Op Lib Jvm.Free Jvm.Stand Jvm.LawKit Jvm.RoadKit Bundle Jvm.Pilot.@@N@@.Jvm.D
/-- the run from A ends, and its end is as K says -/
def own_Go (tb : Tables) (e : Env) (below : List Frame) (K : Outcome → State → Prop) (A : State) : Prop := ∃ s₂ o, Steps tb e below A s₂ ∧ s₂.status = .running ∧ Ended s₂ below o ∧ K o s₂
theorem own_st {tb : Tables} {e : Env} {below : List Frame} {K : Outcome → State → Prop} {A B : State} (h : ∀ t, Steps tb e below B t → Steps tb e below A t) (g : own_Go tb e below K B) : own_Go tb e below K A := by
  obtain ⟨s₂, o, h1, r⟩ := g
  exact ⟨s₂, o, h _ h1, r⟩
theorem own_tr {tb : Tables} {e : Env} {below : List Frame} {K : Outcome → State → Prop} {A B : State} (h : Steps tb e below A B) (g : own_Go tb e below K B) : own_Go tb e below K A := by
  obtain ⟨s₂, o, h1, r⟩ := g
  exact ⟨s₂, o, h.trans h1, r⟩
section Rets
variable {p : Program} {l : Launch} {e : Env} {R : Room} {s : State} {m : MethodId} {args : Array Value} {below : List Frame} {meth : Method} {c : Code} {T : State} {locs : List Loc} {cells slots : Nat} {Q : Option Value → Heap → List Loc → Prop} {C S : Nat}
theorem own_ret (X : Stand p l e R s m args below meth c T locs cells slots) {v : Option Value} {A : State} (hv : meth.sig.returnType = none → v = none) (hlocks : meth.locks = false)
    (st : ∀ fs, (∀ (f : JFrame) (acts : List Action), f.method = m → f.locked = none → f.entered = [] → (doReturn e (T.setTop f) acts v).1 = T.setFrames fs) → Steps p.tables e below A (T.setFrames fs)) (q : Q v T.heap locs) (hc : cells ≤ C) (hs : slots ≤ S) :
    own_Go p.tables e below (fun o U' => ∃ v L, o = .returned v ∧ Q v U'.heap L ∧ FrameEnd s o U' L C S) A := by
  obtain ⟨fs, hr, hrun, hended, hW, hsame⟩ := X.leave (v := v) hv hlocks
  exact ⟨_, _, st fs hr, hrun, hended, _, _, rfl, q, ⟨_, rfl⟩, hW, hsame.mono hc hs⟩
theorem own_retV (X : Stand p l e R s m args below meth c T locs cells slots) (hx : p.tables.exec = Jvm.exec) {pc : Nat} {Ls : Array Slot} (hret : meth.sig.returnType = none) (hd : decode c.code pc = .ok (.return_, 1)) (hlocks : meth.locks = false) (q : Q none T.heap locs) (hc : cells ≤ C) (hs : slots ≤ S) :
    own_Go p.tables e below (fun o U' => ∃ v L, o = .returned v ∧ Q v U'.heap L ∧ FrameEnd s o U' L C S) (T.setTop (mkF m pc Ls [])) :=
  own_ret X (fun _ => rfl) hlocks (fun _ hr => X.returnOut hx hret hd hr) q hc hs
theorem own_retN (X : Stand p l e R s m args below meth c T locs cells slots) (hx : p.tables.exec = Jvm.exec) {pc : Nat} {Ls : Array Slot} {z : Int32} {t : FieldType} {rest : List Value} (hret : meth.sig.returnType = some t) (ht : t = .boolean ∨ t = .byte ∨ t = .char ∨ t = .short) (hd : decode c.code pc = .ok (.ireturn, 1)) (hlocks : meth.locks = false) (q : Q (some (.int (nar t z))) T.heap locs) (hc : cells ≤ C) (hs : slots ≤ S) :
    own_Go p.tables e below (fun o U' => ∃ v L, o = .returned v ∧ Q v U'.heap L ∧ FrameEnd s o U' L C S) (T.setTop (mkF m pc Ls (.int z :: rest))) :=
  own_ret X (fun h => by rw [hret] at h; cases h) hlocks (fun _ hr => retN X hx hret ht hd hr) q hc hs
theorem own_retI (X : Stand p l e R s m args below meth c T locs cells slots) (hx : p.tables.exec = Jvm.exec) {pc : Nat} {Ls : Array Slot} {z : Int32} {rest : List Value} (hret : meth.sig.returnType = some .int) (hd : decode c.code pc = .ok (.ireturn, 1)) (hlocks : meth.locks = false) (q : Q (some (.int z)) T.heap locs) (hc : cells ≤ C) (hs : slots ≤ S) :
    own_Go p.tables e below (fun o U' => ∃ v L, o = .returned v ∧ Q v U'.heap L ∧ FrameEnd s o U' L C S) (T.setTop (mkF m pc Ls (.int z :: rest))) :=
  own_ret X (fun h => by rw [hret] at h; cases h) hlocks (fun _ hr => retOut X hx hret rfl (Or.inl ⟨rfl, Or.inl rfl, z, rfl⟩) hd hr) q hc hs
theorem own_retJ (X : Stand p l e R s m args below meth c T locs cells slots) (hx : p.tables.exec = Jvm.exec) {pc : Nat} {Ls : Array Slot} {z : Int64} {rest : List Value} (hret : meth.sig.returnType = some .long) (hd : decode c.code pc = .ok (.lreturn, 1)) (hlocks : meth.locks = false) (q : Q (some (.long z)) T.heap locs) (hc : cells ≤ C) (hs : slots ≤ S) :
    own_Go p.tables e below (fun o U' => ∃ v L, o = .returned v ∧ Q v U'.heap L ∧ FrameEnd s o U' L C S) (T.setTop (mkF m pc Ls (.long z :: rest))) :=
  own_ret X (fun h => by rw [hret] at h; cases h) hlocks (fun _ hr => retOut X hx hret rfl (Or.inr (Or.inl ⟨rfl, rfl, z, rfl⟩)) hd hr) q hc hs
theorem own_narrow_ref {t : FieldType} {w : Value} (ht : t.isReference = true) : narrow t w = w := by cases t <;> first | (cases ht; done) | rfl
theorem own_retA (X : Stand p l e R s m args below meth c T locs cells slots) (hx : p.tables.exec = Jvm.exec) {pc : Nat} {Ls : Array Slot} {w : Value} {t : FieldType} {rest : List Value} (hret : meth.sig.returnType = some t) (ht : t.isReference = true) (hw : w.isRef = true) (hd : decode c.code pc = .ok (.areturn, 1)) (hlocks : meth.locks = false) (q : Q (some w) T.heap locs) (hc : cells ≤ C) (hs : slots ≤ S) :
    own_Go p.tables e below (fun o U' => ∃ v L, o = .returned v ∧ Q v U'.heap L ∧ FrameEnd s o U' L C S) (T.setTop (mkF m pc Ls (w :: rest))) :=
  own_ret X (fun h => by rw [hret] at h; cases h) hlocks (fun _ hr => retOut X hx hret (own_narrow_ref ht) (Or.inr (Or.inr (Or.inr (Or.inr ⟨rfl, ht, hw⟩)))) hd hr) q hc hs
end Rets

def own_nib (i : Int32) (a : Int64) : Int32 := ((((a.toUInt64 >>> (((4 : Int32) * i) &&& 0x3f).toInt64.toUInt64).toInt64) &&& (15 : Int64)).toInt32)
def own_dg (i : Int32) (a : Int64) : Int32 := if 9 < own_nib i a then own_nib i a - 6 else own_nib i a
def own_by (i : Int32) (b : Int64) : Int32 := ((((b.toUInt64 >>> (((i &&& (7 : Int32)) * (8 : Int32)) &&& 0x3f).toInt64.toUInt64).toInt64) &&& (255 : Int64)).toInt32)
def own_ch (i fr en : Int32) (a b : Int64) : Int32 := if i < fr then own_by i b else if i < en then 48 + own_dg i a else own_by i b
def own_dv (i fr n : Int32) (a : Int64) : Int32 := if i < n then own_dg (fr + i) a else 0
theorem own_l2i (x : Int64) (k : Nat) (h0 : 0 ≤ x.toInt) (h1 : x.toInt < 256) : x.toInt32.toInt = x.toInt := by
  have h := c_l2i x
  have r := rng32 x.toInt32
  omega
theorem own_nib_le (i : Int32) (a : Int64) : 0 ≤ (own_nib i a).toInt ∧ (own_nib i a).toInt ≤ 15 := by
  unfold own_nib
  generalize (a.toUInt64 >>> (((4 : Int32) * i) &&& 0x3f).toInt64.toUInt64).toInt64 = y
  have h := c_maskL y 15 4 (by decide) (by decide)
  have e := own_l2i (y &&& 15) 0 (by omega) (by omega)
  rw [e]; omega
theorem own_by_le (i : Int32) (b : Int64) : 0 ≤ (own_by i b).toInt ∧ (own_by i b).toInt ≤ 255 := by
  unfold own_by
  generalize (b.toUInt64 >>> (((i &&& (7 : Int32)) * (8 : Int32)) &&& 0x3f).toInt64.toUInt64).toInt64 = y
  have h := c_maskL y 255 8 (by decide) (by decide)
  have e := own_l2i (y &&& 255) 0 (by omega) (by omega)
  rw [e]; omega
theorem own_dg_le (i : Int32) (a : Int64) : 0 ≤ (own_dg i a).toInt ∧ (own_dg i a).toInt ≤ 9 := by
  have h := own_nib_le i a
  unfold own_dg
  have e9 : (9 : Int32).toInt = 9 := rfl
  have e6 : (6 : Int32).toInt = 6 := rfl
  split
  · rename_i q
    rw [Int32.lt_iff_toInt_lt, e9] at q
    have s := c_isub (own_nib i a) 6
    have r := rng32 (own_nib i a - 6)
    omega
  · rename_i q
    rw [Int32.lt_iff_toInt_lt, e9] at q
    omega
theorem own_48 (i : Int32) (a : Int64) : (48 + own_dg i a).toInt = 48 + (own_dg i a).toInt := by
  have h := own_dg_le i a
  have s := c_iadd 48 (own_dg i a)
  have r := rng32 (48 + own_dg i a)
  have e : (48 : Int32).toInt = 48 := rfl
  omega
theorem own_ch_le (i fr en : Int32) (a b : Int64) : 0 ≤ (own_ch i fr en a b).toInt ∧ (own_ch i fr en a b).toInt ≤ 255 := by
  have h1 := own_by_le i b
  have h2 := own_dg_le i a
  have h3 := own_48 i a
  unfold own_ch
  split
  · exact h1
  · split
    · omega
    · exact h1
theorem own_i2c {x : Int32} (h : 0 ≤ x.toInt ∧ x.toInt ≤ 255) : x.toUInt32.toUInt16.toUInt32.toInt32 = x := by
  have q := c_i2c x
  exact Int32.toInt_inj.mp (by omega)
theorem own_c2 {x : Int32} (h : 0 ≤ x.toInt ∧ x.toInt ≤ 255) : nar .char (x.toUInt32.toUInt16.toUInt32.toInt32) = x := by rw [own_i2c h]; exact own_i2c h
theorem own_nc (i fr en : Int32) (a b : Int64) : nar .char (own_ch i fr en a b) = own_ch i fr en a b := own_i2c (own_ch_le i fr en a b)
theorem own_cA {i fr en : Int32} {a b : Int64} (h : i < fr) : nar .char ((own_by i b).toUInt32.toUInt16.toUInt32.toInt32) = own_ch i fr en a b := by rw [own_c2 (own_by_le i b), own_ch, if_pos h]
theorem own_cB {i fr en : Int32} {a b : Int64} (h : ¬ i < fr) (h2 : ¬ i < en) : nar .char ((own_by i b).toUInt32.toUInt16.toUInt32.toInt32) = own_ch i fr en a b := by rw [own_c2 (own_by_le i b), own_ch, if_neg h, if_neg h2]
theorem own_cC {i fr en : Int32} {a b : Int64} (h : ¬ i < fr) (h2 : i < en) : nar .char (((48 : Int32) + own_dg i a).toUInt32.toUInt16.toUInt32.toInt32) = own_ch i fr en a b := by
  have h3 := own_48 i a
  have h4 := own_dg_le i a
  rw [own_c2 (by omega), own_ch, if_neg h, if_pos h2]
def own_cs (fr en : Int32) (a b : Int64) : List Int32 := (List.range 14).map fun k => own_ch (Int32.ofNat k) fr en a b
theorem own_cs_eq (fr en : Int32) (a b : Int64) : own_cs fr en a b = [own_ch 0 fr en a b, own_ch 1 fr en a b, own_ch 2 fr en a b, own_ch 3 fr en a b, own_ch 4 fr en a b, own_ch 5 fr en a b, own_ch 6 fr en a b, own_ch 7 fr en a b, own_ch 8 fr en a b, own_ch 9 fr en a b, own_ch 10 fr en a b, own_ch 11 fr en a b, own_ch 12 fr en a b, own_ch 13 fr en a b] := rfl
theorem own_cs_len (fr en : Int32) (a b : Int64) : (own_cs fr en a b).length = 14 := by simp [own_cs]
theorem own_cs_at (fr en : Int32) (a b : Int64) (k : Nat) (h : k < 14) : (own_cs fr en a b).getD k 0 = own_ch (Int32.ofNat k) fr en a b := by
  simp [own_cs, List.getD_eq_getElem?_getD, h]
theorem own_cs_in (fr en : Int32) (a b : Int64) : ∀ c ∈ own_cs fr en a b, ¬ c < 0 ∧ ¬ (255 : Int32) < c := by
  intro c hc
  simp only [own_cs, List.mem_map] at hc
  obtain ⟨k, -, rfl⟩ := hc
  have h := own_ch_le (Int32.ofNat k) fr en a b
  have e0 : (0 : Int32).toInt = 0 := rfl
  have e1 : (255 : Int32).toInt = 255 := rfl
  rw [Int32.lt_iff_toInt_lt, Int32.lt_iff_toInt_lt, e0, e1]
  omega
theorem own_up (cs : List Int32) (h : ∀ c ∈ cs, ¬ c < 0 ∧ ¬ (255 : Int32) < c) : ∀ c ∈ cs, ¬ c < 0 ∧ ¬ (65535 : Int32) < c := fun c hc => ⟨(h c hc).1, fun q => (h c hc).2 (by rw [Int32.lt_iff_toInt_lt] at q ⊢; have e1 : (65535 : Int32).toInt = 65535 := rfl; have e2 : (255 : Int32).toInt = 255 := rfl; omega)⟩
def own_nan (cs : List Int32) (ne : Nat) : Nat → Nat → Int32 → Int32
  | 0, _, acc => acc
  | k + 1, i, acc => own_nan cs ne k (i + 1) (acc * 10 + (if i < ne then cs.getD i 0 - 48 else 0))
theorem own_small (k : Nat) (h : k < 1000) : (Int32.ofNat k).toInt = k := Int32.toInt_ofNat_of_lt (by omega)
theorem own_lt (i k : Nat) (h : i < 1000) (h2 : k < 1000) : Int32.ofNat i < Int32.ofNat k ↔ i < k := by
  rw [Int32.lt_iff_toInt_lt, own_small i h, own_small k h2]; omega
theorem own_add (i k : Nat) : Int32.ofNat i + Int32.ofNat k = Int32.ofNat (i + k) := (Int32.ofNat_add i k).symm
theorem own_add1 (i : Nat) : Int32.ofNat i + (1 : Int32) = Int32.ofNat (i + 1) := own_add i 1
theorem own_term (a b : Int64) (nf nn j : Nat) (h1 : nf ≤ 3) (h2 : nn ≤ 10) (hj : j < 9) :
    (if nf + j < nf + nn then (own_cs (Int32.ofNat nf) (Int32.ofNat (nf + nn)) a b).getD (nf + j) 0 - 48 else 0) = own_dv (Int32.ofNat j) (Int32.ofNat nf) (Int32.ofNat nn) a := by
  unfold own_dv
  by_cases q : j < nn
  · have e : Int32.ofNat j < Int32.ofNat nn := (own_lt j nn (by omega) (by omega)).mpr q
    rw [if_pos (by omega), if_pos e, own_cs_at _ _ _ _ _ (by omega), own_ch, if_neg (by rw [own_lt _ _ (by omega) (by omega)]; omega), if_pos (by rw [own_lt _ _ (by omega) (by omega)]; omega), own_add]
    have h3 := own_48 (Int32.ofNat (nf + j)) a
    have h4 := own_dg_le (Int32.ofNat (nf + j)) a
    have h5 := c_isub (48 + own_dg (Int32.ofNat (nf + j)) a) 48
    have h6 := rng32 (48 + own_dg (Int32.ofNat (nf + j)) a - 48)
    have e48 : (48 : Int32).toInt = 48 := rfl
    exact Int32.toInt_inj.mp (by omega)
  · have e : ¬ Int32.ofNat j < Int32.ofNat nn := fun z => q ((own_lt j nn (by omega) (by omega)).mp z)
    rw [if_neg (by omega), if_neg e]
theorem own_dv_le (i fr n : Int32) (a : Int64) : 0 ≤ (own_dv i fr n a).toInt ∧ (own_dv i fr n a).toInt ≤ 9 := by
  unfold own_dv
  split
  · exact own_dg_le _ _
  · exact ⟨by decide, by decide⟩
theorem own_st10 {x y : Int32} {X Y B : Int} (hx : x.toInt = X) (hy : y.toInt = Y) (h0 : 0 ≤ X) (hB : X ≤ B) (hb : B ≤ 200000000) (h1 : 0 ≤ Y) (h2 : Y ≤ 9) : (x * 10 + y).toInt = 10 * X + Y := by
  have e : (10 : Int32).toInt = 10 := rfl
  have m := c_imul x 10
  have r := rng32 (x * 10)
  have s := c_iadd (x * 10) y
  have t := rng32 (x * 10 + y)
  rw [e] at m
  omega
theorem own_sc {x k : Int32} {X c : Int} (hx : x.toInt = X) (hk : k.toInt = c) (h0 : 0 ≤ X) (h9 : X ≤ 9) (hc : 0 ≤ c) (hC : c ≤ 100000000) : (x * k).toInt = c * X := by
  have m := c_imul x k
  have r := rng32 (x * k)
  rw [hx, hk] at m
  have b1 : 0 ≤ X * c := Int.mul_nonneg h0 hc
  have b2 : X * c ≤ 9 * 100000000 := Int.mul_le_mul h9 hC hc (by decide)
  rw [Int.mul_comm c X]
  omega
theorem own_ad {x y : Int32} {X Y : Int} (hx : x.toInt = X) (hy : y.toInt = Y) (h0 : 0 ≤ X) (h1 : 0 ≤ Y) (h2 : X + Y ≤ 1000000000) : (x + y).toInt = X + Y := by
  have s := c_iadd x y
  have t := rng32 (x + y)
  omega
theorem own_horner (d0 d1 d2 d3 d4 d5 d6 d7 d8 : Int32) (b0 : 0 ≤ d0.toInt ∧ d0.toInt ≤ 9) (b1 : 0 ≤ d1.toInt ∧ d1.toInt ≤ 9) (b2 : 0 ≤ d2.toInt ∧ d2.toInt ≤ 9) (b3 : 0 ≤ d3.toInt ∧ d3.toInt ≤ 9) (b4 : 0 ≤ d4.toInt ∧ d4.toInt ≤ 9) (b5 : 0 ≤ d5.toInt ∧ d5.toInt ≤ 9) (b6 : 0 ≤ d6.toInt ∧ d6.toInt ≤ 9) (b7 : 0 ≤ d7.toInt ∧ d7.toInt ≤ 9) (b8 : 0 ≤ d8.toInt ∧ d8.toInt ≤ 9) :
    ((((((((((0 : Int32) * 10 + d0) * 10 + d1) * 10 + d2) * 10 + d3) * 10 + d4) * 10 + d5) * 10 + d6) * 10 + d7) * 10 + d8) = ((((((((d0 * 100000000 + d1 * 10000000) + d2 * 1000000) + d3 * 100000) + d4 * 10000) + d5 * 1000) + d6 * 100) + d7 * 10) + d8) := by
  have t0 := own_st10 (x := 0) (y := d0) (X := 0) (B := 0) rfl rfl (by omega) (by omega) (by omega) b0.1 b0.2
  have t1 := own_st10 (B := 9) t0 rfl (by omega) (by omega) (by omega) b1.1 b1.2
  have t2 := own_st10 (B := 99) t1 rfl (by omega) (by omega) (by omega) b2.1 b2.2
  have t3 := own_st10 (B := 999) t2 rfl (by omega) (by omega) (by omega) b3.1 b3.2
  have t4 := own_st10 (B := 9999) t3 rfl (by omega) (by omega) (by omega) b4.1 b4.2
  have t5 := own_st10 (B := 99999) t4 rfl (by omega) (by omega) (by omega) b5.1 b5.2
  have t6 := own_st10 (B := 999999) t5 rfl (by omega) (by omega) (by omega) b6.1 b6.2
  have t7 := own_st10 (B := 9999999) t6 rfl (by omega) (by omega) (by omega) b7.1 b7.2
  have t8 := own_st10 (B := 99999999) t7 rfl (by omega) (by omega) (by omega) b8.1 b8.2
  have u0 := own_sc (x := d0) (k := 100000000) (c := 100000000) rfl rfl b0.1 b0.2 (by omega) (by omega)
  have u1 := own_ad u0 (own_sc (x := d1) (k := 10000000) (c := 10000000) rfl rfl b1.1 b1.2 (by omega) (by omega)) (by omega) (by omega) (by omega)
  have u2 := own_ad u1 (own_sc (x := d2) (k := 1000000) (c := 1000000) rfl rfl b2.1 b2.2 (by omega) (by omega)) (by omega) (by omega) (by omega)
  have u3 := own_ad u2 (own_sc (x := d3) (k := 100000) (c := 100000) rfl rfl b3.1 b3.2 (by omega) (by omega)) (by omega) (by omega) (by omega)
  have u4 := own_ad u3 (own_sc (x := d4) (k := 10000) (c := 10000) rfl rfl b4.1 b4.2 (by omega) (by omega)) (by omega) (by omega) (by omega)
  have u5 := own_ad u4 (own_sc (x := d5) (k := 1000) (c := 1000) rfl rfl b5.1 b5.2 (by omega) (by omega)) (by omega) (by omega) (by omega)
  have u6 := own_ad u5 (own_sc (x := d6) (k := 100) (c := 100) rfl rfl b6.1 b6.2 (by omega) (by omega)) (by omega) (by omega) (by omega)
  have u7 := own_ad u6 (own_sc (x := d7) (k := 10) (c := 10) rfl rfl b7.1 b7.2 (by omega) (by omega)) (by omega) (by omega) (by omega)
  have u8 := own_ad (y := d8) u7 rfl (by omega) (by omega) (by omega)
  apply Int32.toInt_inj.mp
  rw [t8, u8]
  omega
theorem own_law (a b : Int64) (nf nn : Nat) (h1 : nf ≤ 3) (h2 : nn ≤ 10) :
    own_nan (own_cs (Int32.ofNat nf) (Int32.ofNat (nf + nn)) a b) (nf + nn) 9 nf 0 = ((((((((own_dv 0 (Int32.ofNat nf) (Int32.ofNat nn) a * 100000000 + own_dv 1 (Int32.ofNat nf) (Int32.ofNat nn) a * 10000000) + own_dv 2 (Int32.ofNat nf) (Int32.ofNat nn) a * 1000000) + own_dv 3 (Int32.ofNat nf) (Int32.ofNat nn) a * 100000) + own_dv 4 (Int32.ofNat nf) (Int32.ofNat nn) a * 10000) + own_dv 5 (Int32.ofNat nf) (Int32.ofNat nn) a * 1000) + own_dv 6 (Int32.ofNat nf) (Int32.ofNat nn) a * 100) + own_dv 7 (Int32.ofNat nf) (Int32.ofNat nn) a * 10) + own_dv 8 (Int32.ofNat nf) (Int32.ofNat nn) a) := by
  have t := fun j hj => own_term a b nf nn j h1 h2 hj
  have t0 := t 0 (by omega)
  simp only [own_nan, Nat.add_assoc, Nat.reduceAdd]
  rw [t 1 (by omega), t 2 (by omega), t 3 (by omega), t 4 (by omega), t 5 (by omega), t 6 (by omega), t 7 (by omega), t 8 (by omega)]
  rw [Nat.add_zero] at t0
  rw [t0]
  exact own_horner _ _ _ _ _ _ _ _ _ (own_dv_le _ _ _ _) (own_dv_le _ _ _ _) (own_dv_le _ _ _ _) (own_dv_le _ _ _ _) (own_dv_le _ _ _ _) (own_dv_le _ _ _ _) (own_dv_le _ _ _ _) (own_dv_le _ _ _ _) (own_dv_le _ _ _ _)
theorem own_fr (f : Int32) : ∃ nf : Nat, nf ≤ 3 ∧ (f &&& 3) = Int32.ofNat nf := by
  have h := c_mask f 3 2 (by decide) (by decide)
  refine ⟨(f &&& 3).toInt.toNat, by omega, Int32.toInt_inj.mp ?_⟩
  rw [own_small _ (by omega)]; omega
theorem own_nn (m : Int32) : ∃ nn : Nat, nn ≤ 10 ∧ (m &&& 2147483647) % 11 = Int32.ofNat nn := by
  have h1 := c_mask m 2147483647 31 (by decide) (by decide)
  have h2 := (c_irem (m &&& 2147483647) 11 11 rfl).1 (by rw [h1]; omega)
  refine ⟨((m &&& 2147483647) % 11).toInt.toNat, by omega, Int32.toInt_inj.mp ?_⟩
  rw [own_small _ (by omega)]; omega

theorem d2_0 : decode method_3_code 0 = .ok (.lload_n 1, 1) := by decide +kernel
theorem d2_1 : decode method_3_code 1 = .ok (.iconst 4, 1) := by decide +kernel
theorem d2_2 : decode method_3_code 2 = .ok (.iload_n 0, 1) := by decide +kernel
theorem d2_3 : decode method_3_code 3 = .ok (.imul, 1) := by decide +kernel
theorem d2_4 : decode method_3_code 4 = .ok (.lushr, 1) := by decide +kernel
theorem d2_5 : decode method_3_code 5 = .ok (.ldc2_w 33, 3) := by decide +kernel
theorem d2_8 : decode method_3_code 8 = .ok (.land, 1) := by decide +kernel
theorem d2_9 : decode method_3_code 9 = .ok (.l2i, 1) := by decide +kernel
theorem d2_10 : decode method_3_code 10 = .ok (.istore_n 3, 1) := by decide +kernel
theorem d2_11 : decode method_3_code 11 = .ok (.iload_n 3, 1) := by decide +kernel
theorem d2_12 : decode method_3_code 12 = .ok (.bipush 9, 2) := by decide +kernel
theorem d2_14 : decode method_3_code 14 = .ok (.if_icmp .le 10, 3) := by decide +kernel
theorem d2_17 : decode method_3_code 17 = .ok (.iload_n 3, 1) := by decide +kernel
theorem d2_18 : decode method_3_code 18 = .ok (.bipush 6, 2) := by decide +kernel
theorem d2_20 : decode method_3_code 20 = .ok (.isub, 1) := by decide +kernel
theorem d2_21 : decode method_3_code 21 = .ok (.goto 4, 3) := by decide +kernel
theorem d2_24 : decode method_3_code 24 = .ok (.iload_n 3, 1) := by decide +kernel
theorem d2_25 : decode method_3_code 25 = .ok (.ireturn, 1) := by decide +kernel
theorem pn_com_example_frozen_thread_frozenthread_text_DigitsNanosPinLaw : plainName "com/example/frozen_thread/frozenthread/text/DigitsNanosPinLaw" = true := by first | (simp [plainName, overriddenIn]; done) | decide +kernel
theorem ef_rmDg (m : MethodId) (x0 : Int32) (x1 : Int64) : entryFrame m #[(.int x0), (.long x1)] 4 = mkF m 0 #[.val (.int x0), .val (.long x1), .second, .unset] [] := by first | (simp [entryFrame, mkF, argsToLocals, Value.category]; done) | rfl
def Q_rmDg (Z : State) (i : Int32) (a : Int64) (h0 : Heap) (n0 : Nat) (v : Option Value) (h : Heap) (L : List Loc) : Prop := v = some (.int (own_dg i a)) ∧ Fr n0 L ∧ h = h0
def K_rmDg (Z : State) (i : Int32) (a : Int64) (h0 : Heap) (n0 : Nat) (s : State) : Outcome → State → Prop := fun oo U' => ∃ v L, oo = .returned v ∧ Q_rmDg Z i a h0 n0 v U'.heap L ∧ FrameEnd s oo U' L ({ frames := 0, cells := 0, slots := 0, locals := 0 } : Room).cells ({ frames := 0, cells := 0, slots := 0, locals := 0 } : Room).slots
set_option maxRecDepth 65536 in
set_option maxHeartbeats 40000000 in
theorem rmDg (l : Launch) (Z : State) (a0 : Array Value) (hw : ∀ d ∈ tables_1, d.before a0 Z = true) (ws : List Jvm.Cond) (i : Int32) (a : Int64) (h0 : Heap) (n0 : Nat) (Z0 : n0 ≤ h0.size)  :
    MetFree l (⟨"com/example/frozen_thread/frozenthread/text/DigitsNanosPinLaw", "digit", "(IJ)I"⟩ : MethodName) (head1 (Jvm.Cond.code (⟨"com/example/frozen_thread/frozenthread/text/DigitsNanosPinLaw", "digit", "(IJ)I"⟩ : MethodName) method_3_code 4 (some .int) :: ws) ({ frames := 0, cells := 0, slots := 0, locals := 0 } : Room)) (fun as_ U => as_ = #[(.int i), (.long a)] ∧ Z.Warmed39 U.vm ∧ U.heap = h0) (fun _ _ _ _ _ => True) (fun _ U oo U' => ∃ v L, oo = .returned v ∧ Q_rmDg Z i a h0 n0 v U'.heap L ∧ FrameEnd U oo U' L ({ frames := 0, cells := 0, slots := 0, locals := 0 } : Room).cells ({ frames := 0, cells := 0, slots := 0, locals := 0 } : Room).slots) := by
  refine MetFree.of_bodySF (plainFor_of_name pn_com_example_frozen_thread_frozenthread_text_DigitsNanosPinLaw) hisR ?_
  intro p e s m args below meth c s₁ Bd hml0 hP hK
  obtain ⟨rfl, hZ, hh⟩ := hP
  have hx := Bd.exec
  have hby := Bd.bytes
  have hml : c.maxLocals = 4 := hml0
  have hown : s.vm.findClass "com/example/frozen_thread/frozenthread/text/DigitsNanosPinLaw" = some m.cls := findClass_of_methodNamed Bd.named
  have hnm := (name_of_methodNamed Bd.named Bd.method).1
  have X0 : Stand p l e ({ frames := 0, cells := 0, slots := 0, locals := 0 } : Room) s m #[(.int i), (.long a)] below meth c s₁ [] 0 0 := Stand.of_body Bd
  have e0 : s₁.heap = h0 := by rw [← hh, Bd.state]; rfl
  have N0 := Fr.nil n0
  refine own_st (K := (K_rmDg Z i a h0 n0 s)) (fun t' k' => castTop (ef_rmDg m i a) k') ?_
  show own_Go p.tables e below _ (s₁.setTop (mkF m 0 #[.val (.int i), .val (.long a), .second, .unset] []))
  refine own_st (fun _ k' => XS.lloadN X0.here hx rfl (hb hby d2_0) rfl k') ?_
  show own_Go p.tables e below _ (s₁.setTop (mkF m 1 #[.val (.int i), .val (.long a), .second, .unset] [(.long a)]))
  refine own_st (fun _ k' => XS.iconst X0.here hx rfl (hb hby d2_1) k') ?_
  show own_Go p.tables e below _ (s₁.setTop (mkF m 2 #[.val (.int i), .val (.long a), .second, .unset] [(.int (4 : Int32)), (.long a)]))
  refine own_st (fun _ k' => XS.iloadN X0.here hx rfl (hb hby d2_2) rfl k') ?_
  show own_Go p.tables e below _ (s₁.setTop (mkF m 3 #[.val (.int i), .val (.long a), .second, .unset] [(.int i), (.int (4 : Int32)), (.long a)]))
  refine own_st (fun _ k' => XS.imul X0.here hx rfl (hb hby d2_3) rfl k') ?_
  show own_Go p.tables e below _ (s₁.setTop (mkF m 4 #[.val (.int i), .val (.long a), .second, .unset] [(.int ((4 : Int32) * i)), (.long a)]))
  refine own_st (fun _ k' => XS.lushr X0.here hx rfl (hb hby d2_4) rfl k') ?_
  show own_Go p.tables e below _ (s₁.setTop (mkF m 5 #[.val (.int i), .val (.long a), .second, .unset] [(.long ((a.toUInt64 >>> (((4 : Int32) * i) &&& 0x3f).toInt64.toUInt64).toInt64))]))
  refine own_st (fun t' k' => X0.ldc2Long hx hown (mvT hZ (hw _ (List.mem_of_getElem? (i := 9) rfl))) (g := (mkF m 5 #[.val (.int i), .val (.long a), .second, .unset] [(.long ((a.toUInt64 >>> (((4 : Int32) * i) &&& 0x3f).toInt64.toUInt64).toInt64))])) rfl (hb hby d2_5) t' k') ?_
  show own_Go p.tables e below _ (s₁.setTop (mkF m 8 #[.val (.int i), .val (.long a), .second, .unset] [(.long (15 : Int64)), (.long ((a.toUInt64 >>> (((4 : Int32) * i) &&& 0x3f).toInt64.toUInt64).toInt64))]))
  refine own_st (fun _ k' => XS.land X0.here hx rfl (hb hby d2_8) rfl k') ?_
  show own_Go p.tables e below _ (s₁.setTop (mkF m 9 #[.val (.int i), .val (.long a), .second, .unset] [(.long (((a.toUInt64 >>> (((4 : Int32) * i) &&& 0x3f).toInt64.toUInt64).toInt64) &&& (15 : Int64)))]))
  refine own_st (fun _ k' => XS.l2i X0.here hx rfl (hb hby d2_9) rfl k') ?_
  show own_Go p.tables e below _ (s₁.setTop (mkF m 10 #[.val (.int i), .val (.long a), .second, .unset] [(.int ((((a.toUInt64 >>> (((4 : Int32) * i) &&& 0x3f).toInt64.toUInt64).toInt64) &&& (15 : Int64)).toInt32))]))
  refine own_st (fun _ k' => XS.istoreN X0.here hx rfl (hb hby d2_10) rfl (l' := #[.val (.int i), .val (.long a), .second, .val (.int ((((a.toUInt64 >>> (((4 : Int32) * i) &&& 0x3f).toInt64.toUInt64).toInt64) &&& (15 : Int64)).toInt32))]) rfl k') ?_
  show own_Go p.tables e below _ (s₁.setTop (mkF m 11 #[.val (.int i), .val (.long a), .second, .val (.int ((((a.toUInt64 >>> (((4 : Int32) * i) &&& 0x3f).toInt64.toUInt64).toInt64) &&& (15 : Int64)).toInt32))] []))
  refine own_st (fun _ k' => XS.iloadN X0.here hx rfl (hb hby d2_11) rfl k') ?_
  show own_Go p.tables e below _ (s₁.setTop (mkF m 12 #[.val (.int i), .val (.long a), .second, .val (.int ((((a.toUInt64 >>> (((4 : Int32) * i) &&& 0x3f).toInt64.toUInt64).toInt64) &&& (15 : Int64)).toInt32))] [(.int ((((a.toUInt64 >>> (((4 : Int32) * i) &&& 0x3f).toInt64.toUInt64).toInt64) &&& (15 : Int64)).toInt32))]))
  refine own_st (fun _ k' => XS.bipush X0.here hx rfl (hb hby d2_12) k') ?_
  show own_Go p.tables e below _ (s₁.setTop (mkF m 14 #[.val (.int i), .val (.long a), .second, .val (.int ((((a.toUInt64 >>> (((4 : Int32) * i) &&& 0x3f).toInt64.toUInt64).toInt64) &&& (15 : Int64)).toInt32))] [(.int (9 : Int32)), (.int ((((a.toUInt64 >>> (((4 : Int32) * i) &&& 0x3f).toInt64.toUInt64).toInt64) &&& (15 : Int64)).toInt32))]))
  by_cases hc1 : (9 : Int32) < ((((a.toUInt64 >>> (((4 : Int32) * i) &&& 0x3f).toInt64.toUInt64).toInt64) &&& (15 : Int64)).toInt32)
  ·  -- pc 14, (9 : Int32) < ((((a.toUInt64 >>> (((4 : Int32) * i) &&& 0x3f).toInt64.toUInt64).toInt64) &&& (15 : Int64)).toInt32)
    refine own_st (fun _ k' => XS.icmpNo X0.here hx rfl (hb hby d2_14) rfl (tlt hc1).2.2.2 k') ?_
    show own_Go p.tables e below _ (s₁.setTop (mkF m 17 #[.val (.int i), .val (.long a), .second, .val (.int ((((a.toUInt64 >>> (((4 : Int32) * i) &&& 0x3f).toInt64.toUInt64).toInt64) &&& (15 : Int64)).toInt32))] []))
    refine own_st (fun _ k' => XS.iloadN X0.here hx rfl (hb hby d2_17) rfl k') ?_
    show own_Go p.tables e below _ (s₁.setTop (mkF m 18 #[.val (.int i), .val (.long a), .second, .val (.int ((((a.toUInt64 >>> (((4 : Int32) * i) &&& 0x3f).toInt64.toUInt64).toInt64) &&& (15 : Int64)).toInt32))] [(.int ((((a.toUInt64 >>> (((4 : Int32) * i) &&& 0x3f).toInt64.toUInt64).toInt64) &&& (15 : Int64)).toInt32))]))
    refine own_st (fun _ k' => XS.bipush X0.here hx rfl (hb hby d2_18) k') ?_
    show own_Go p.tables e below _ (s₁.setTop (mkF m 20 #[.val (.int i), .val (.long a), .second, .val (.int ((((a.toUInt64 >>> (((4 : Int32) * i) &&& 0x3f).toInt64.toUInt64).toInt64) &&& (15 : Int64)).toInt32))] [(.int (6 : Int32)), (.int ((((a.toUInt64 >>> (((4 : Int32) * i) &&& 0x3f).toInt64.toUInt64).toInt64) &&& (15 : Int64)).toInt32))]))
    refine own_st (fun _ k' => XS.isub X0.here hx rfl (hb hby d2_20) rfl k') ?_
    show own_Go p.tables e below _ (s₁.setTop (mkF m 21 #[.val (.int i), .val (.long a), .second, .val (.int ((((a.toUInt64 >>> (((4 : Int32) * i) &&& 0x3f).toInt64.toUInt64).toInt64) &&& (15 : Int64)).toInt32))] [(.int (((((a.toUInt64 >>> (((4 : Int32) * i) &&& 0x3f).toInt64.toUInt64).toInt64) &&& (15 : Int64)).toInt32) - (6 : Int32)))]))
    refine own_st (fun _ k' => XS.goto X0.here hx rfl (pc0 := 21) (pc' := 25) rfl (hb hby d2_21) (by decide) (by decide) k') ?_
    show own_Go p.tables e below _ (s₁.setTop (mkF m 25 #[.val (.int i), .val (.long a), .second, .val (.int ((((a.toUInt64 >>> (((4 : Int32) * i) &&& 0x3f).toInt64.toUInt64).toInt64) &&& (15 : Int64)).toInt32))] [(.int (((((a.toUInt64 >>> (((4 : Int32) * i) &&& 0x3f).toInt64.toUInt64).toInt64) &&& (15 : Int64)).toInt32) - (6 : Int32)))]))
    exact own_retI X0 hx Bd.returns (hb hby d2_25) Bd.notSynchronized ⟨congrArg (fun z => some (Value.int z)) ((if_pos hc1).symm : _ = own_dg i a), N0, e0⟩ (by decide) (by decide)
  ·  -- pc 14, not (9 : Int32) < ((((a.toUInt64 >>> (((4 : Int32) * i) &&& 0x3f).toInt64.toUInt64).toInt64) &&& (15 : Int64)).toInt32)
    refine own_st (fun _ k' => XS.icmpYes X0.here hx rfl (pc0 := 14) (pc' := 24) rfl (hb hby d2_14) rfl (flt hc1).2.2.2 (by decide) (by decide) k') ?_
    show own_Go p.tables e below _ (s₁.setTop (mkF m 24 #[.val (.int i), .val (.long a), .second, .val (.int ((((a.toUInt64 >>> (((4 : Int32) * i) &&& 0x3f).toInt64.toUInt64).toInt64) &&& (15 : Int64)).toInt32))] []))
    refine own_st (fun _ k' => XS.iloadN X0.here hx rfl (hb hby d2_24) rfl k') ?_
    show own_Go p.tables e below _ (s₁.setTop (mkF m 25 #[.val (.int i), .val (.long a), .second, .val (.int ((((a.toUInt64 >>> (((4 : Int32) * i) &&& 0x3f).toInt64.toUInt64).toInt64) &&& (15 : Int64)).toInt32))] [(.int ((((a.toUInt64 >>> (((4 : Int32) * i) &&& 0x3f).toInt64.toUInt64).toInt64) &&& (15 : Int64)).toInt32))]))
    exact own_retI X0 hx Bd.returns (hb hby d2_25) Bd.notSynchronized ⟨congrArg (fun z => some (Value.int z)) ((if_neg hc1).symm : _ = own_dg i a), N0, e0⟩ (by decide) (by decide)

theorem d1_0 : decode method_4_code 0 = .ok (.iload_n 0, 1) := by decide +kernel
theorem d1_1 : decode method_4_code 1 = .ok (.iload_n 1, 1) := by decide +kernel
theorem d1_2 : decode method_4_code 2 = .ok (.if_icmp .lt 18, 3) := by decide +kernel
theorem d1_5 : decode method_4_code 5 = .ok (.iload_n 0, 1) := by decide +kernel
theorem d1_6 : decode method_4_code 6 = .ok (.iload_n 2, 1) := by decide +kernel
theorem d1_7 : decode method_4_code 7 = .ok (.if_icmp .ge 13, 3) := by decide +kernel
theorem d1_10 : decode method_4_code 10 = .ok (.bipush 48, 2) := by decide +kernel
theorem d1_12 : decode method_4_code 12 = .ok (.iload_n 0, 1) := by decide +kernel
theorem d1_13 : decode method_4_code 13 = .ok (.lload_n 3, 1) := by decide +kernel
theorem d1_14 : decode method_4_code 14 = .ok (.invokestatic 35, 3) := by decide +kernel
theorem d1_17 : decode method_4_code 17 = .ok (.iadd, 1) := by decide +kernel
theorem d1_18 : decode method_4_code 18 = .ok (.i2c, 1) := by decide +kernel
theorem d1_19 : decode method_4_code 19 = .ok (.ireturn, 1) := by decide +kernel
theorem d1_20 : decode method_4_code 20 = .ok (.lload 5, 2) := by decide +kernel
theorem d1_22 : decode method_4_code 22 = .ok (.iload_n 0, 1) := by decide +kernel
theorem d1_23 : decode method_4_code 23 = .ok (.bipush 7, 2) := by decide +kernel
theorem d1_25 : decode method_4_code 25 = .ok (.iand, 1) := by decide +kernel
theorem d1_26 : decode method_4_code 26 = .ok (.bipush 8, 2) := by decide +kernel
theorem d1_28 : decode method_4_code 28 = .ok (.imul, 1) := by decide +kernel
theorem d1_29 : decode method_4_code 29 = .ok (.lushr, 1) := by decide +kernel
theorem d1_30 : decode method_4_code 30 = .ok (.ldc2_w 39, 3) := by decide +kernel
theorem d1_33 : decode method_4_code 33 = .ok (.land, 1) := by decide +kernel
theorem d1_34 : decode method_4_code 34 = .ok (.l2i, 1) := by decide +kernel
theorem d1_35 : decode method_4_code 35 = .ok (.i2c, 1) := by decide +kernel
theorem d1_36 : decode method_4_code 36 = .ok (.ireturn, 1) := by decide +kernel
theorem pd__IJ_I : parseMethodDescriptor "(IJ)I" = some ⟨[.int, .long], some .int⟩ := by decide +kernel
theorem ef_rmCh (m : MethodId) (x0 : Int32) (x1 : Int32) (x2 : Int32) (x3 : Int64) (x4 : Int64) : entryFrame m #[(.int x0), (.int x1), (.int x2), (.long x3), (.long x4)] 7 = mkF m 0 #[.val (.int x0), .val (.int x1), .val (.int x2), .val (.long x3), .second, .val (.long x4), .second] [] := by first | (simp [entryFrame, mkF, argsToLocals, Value.category]; done) | rfl
def Q_rmCh (Z : State) (i fr en : Int32) (a b : Int64) (h0 : Heap) (n0 : Nat) (v : Option Value) (h : Heap) (L : List Loc) : Prop := v = some (.int (own_ch i fr en a b)) ∧ Fr n0 L ∧ h = h0
def K_rmCh (Z : State) (i fr en : Int32) (a b : Int64) (h0 : Heap) (n0 : Nat) (s : State) : Outcome → State → Prop := fun oo U' => ∃ v L, oo = .returned v ∧ Q_rmCh Z i fr en a b h0 n0 v U'.heap L ∧ FrameEnd s oo U' L ({ frames := 1, cells := 0, slots := 0, locals := 16 } : Room).cells ({ frames := 1, cells := 0, slots := 0, locals := 16 } : Room).slots
set_option maxRecDepth 65536 in
set_option maxHeartbeats 40000000 in
theorem rmCh (l : Launch) (Z : State) (a0 : Array Value) (hw : ∀ d ∈ tables_1, d.before a0 Z = true) (ws : List Jvm.Cond) (i fr en : Int32) (a b : Int64) (h0 : Heap) (n0 : Nat) (Z0 : n0 ≤ h0.size)  :
    MetFree l (⟨"com/example/frozen_thread/frozenthread/text/DigitsNanosPinLaw", "ch", "(IIIJJ)C"⟩ : MethodName) (head1 (Jvm.Cond.code (⟨"com/example/frozen_thread/frozenthread/text/DigitsNanosPinLaw", "ch", "(IIIJJ)C"⟩ : MethodName) method_4_code 7 (some .char) :: ws) ({ frames := 1, cells := 0, slots := 0, locals := 16 } : Room)) (fun as_ U => as_ = #[(.int i), (.int fr), (.int en), (.long a), (.long b)] ∧ Z.Warmed39 U.vm ∧ U.heap = h0) (fun _ _ _ _ _ => True) (fun _ U oo U' => ∃ v L, oo = .returned v ∧ Q_rmCh Z i fr en a b h0 n0 v U'.heap L ∧ FrameEnd U oo U' L ({ frames := 1, cells := 0, slots := 0, locals := 16 } : Room).cells ({ frames := 1, cells := 0, slots := 0, locals := 16 } : Room).slots) := by
  refine MetFree.of_bodySF (plainFor_of_name pn_com_example_frozen_thread_frozenthread_text_DigitsNanosPinLaw) hisR ?_
  intro p e s m args below meth c s₁ Bd hml0 hP hK
  obtain ⟨rfl, hZ, hh⟩ := hP
  have hx := Bd.exec
  have hby := Bd.bytes
  have hml : c.maxLocals = 7 := hml0
  have hown : s.vm.findClass "com/example/frozen_thread/frozenthread/text/DigitsNanosPinLaw" = some m.cls := findClass_of_methodNamed Bd.named
  have hnm := (name_of_methodNamed Bd.named Bd.method).1
  have X0 : Stand p l e ({ frames := 1, cells := 0, slots := 0, locals := 16 } : Room) s m #[(.int i), (.int fr), (.int en), (.long a), (.long b)] below meth c s₁ [] 0 0 := Stand.of_body Bd
  have e0 : s₁.heap = h0 := by rw [← hh, Bd.state]; rfl
  have N0 := Fr.nil n0
  refine own_st (K := (K_rmCh Z i fr en a b h0 n0 s)) (fun t' k' => castTop (ef_rmCh m i fr en a b) k') ?_
  show own_Go p.tables e below _ (s₁.setTop (mkF m 0 #[.val (.int i), .val (.int fr), .val (.int en), .val (.long a), .second, .val (.long b), .second] []))
  refine own_st (fun _ k' => XS.iloadN X0.here hx rfl (hb hby d1_0) rfl k') ?_
  show own_Go p.tables e below _ (s₁.setTop (mkF m 1 #[.val (.int i), .val (.int fr), .val (.int en), .val (.long a), .second, .val (.long b), .second] [(.int i)]))
  refine own_st (fun _ k' => XS.iloadN X0.here hx rfl (hb hby d1_1) rfl k') ?_
  show own_Go p.tables e below _ (s₁.setTop (mkF m 2 #[.val (.int i), .val (.int fr), .val (.int en), .val (.long a), .second, .val (.long b), .second] [(.int fr), (.int i)]))
  by_cases hc1 : i < fr
  ·  -- pc 2, i < fr
    refine own_st (fun _ k' => XS.icmpYes X0.here hx rfl (pc0 := 2) (pc' := 20) rfl (hb hby d1_2) rfl (tlt hc1).1 (by decide) (by decide) k') ?_
    show own_Go p.tables e below _ (s₁.setTop (mkF m 20 #[.val (.int i), .val (.int fr), .val (.int en), .val (.long a), .second, .val (.long b), .second] []))
    refine own_st (fun _ k' => XS.lload X0.here hx rfl (hb hby d1_20) rfl k') ?_
    show own_Go p.tables e below _ (s₁.setTop (mkF m 22 #[.val (.int i), .val (.int fr), .val (.int en), .val (.long a), .second, .val (.long b), .second] [(.long b)]))
    refine own_st (fun _ k' => XS.iloadN X0.here hx rfl (hb hby d1_22) rfl k') ?_
    show own_Go p.tables e below _ (s₁.setTop (mkF m 23 #[.val (.int i), .val (.int fr), .val (.int en), .val (.long a), .second, .val (.long b), .second] [(.int i), (.long b)]))
    refine own_st (fun _ k' => XS.bipush X0.here hx rfl (hb hby d1_23) k') ?_
    show own_Go p.tables e below _ (s₁.setTop (mkF m 25 #[.val (.int i), .val (.int fr), .val (.int en), .val (.long a), .second, .val (.long b), .second] [(.int (7 : Int32)), (.int i), (.long b)]))
    refine own_st (fun _ k' => XS.iand X0.here hx rfl (hb hby d1_25) rfl k') ?_
    show own_Go p.tables e below _ (s₁.setTop (mkF m 26 #[.val (.int i), .val (.int fr), .val (.int en), .val (.long a), .second, .val (.long b), .second] [(.int (i &&& (7 : Int32))), (.long b)]))
    refine own_st (fun _ k' => XS.bipush X0.here hx rfl (hb hby d1_26) k') ?_
    show own_Go p.tables e below _ (s₁.setTop (mkF m 28 #[.val (.int i), .val (.int fr), .val (.int en), .val (.long a), .second, .val (.long b), .second] [(.int (8 : Int32)), (.int (i &&& (7 : Int32))), (.long b)]))
    refine own_st (fun _ k' => XS.imul X0.here hx rfl (hb hby d1_28) rfl k') ?_
    show own_Go p.tables e below _ (s₁.setTop (mkF m 29 #[.val (.int i), .val (.int fr), .val (.int en), .val (.long a), .second, .val (.long b), .second] [(.int ((i &&& (7 : Int32)) * (8 : Int32))), (.long b)]))
    refine own_st (fun _ k' => XS.lushr X0.here hx rfl (hb hby d1_29) rfl k') ?_
    show own_Go p.tables e below _ (s₁.setTop (mkF m 30 #[.val (.int i), .val (.int fr), .val (.int en), .val (.long a), .second, .val (.long b), .second] [(.long ((b.toUInt64 >>> (((i &&& (7 : Int32)) * (8 : Int32)) &&& 0x3f).toInt64.toUInt64).toInt64))]))
    refine own_st (fun t' k' => X0.ldc2Long hx hown (mvT hZ (hw _ (List.mem_of_getElem? (i := 10) rfl))) (g := (mkF m 30 #[.val (.int i), .val (.int fr), .val (.int en), .val (.long a), .second, .val (.long b), .second] [(.long ((b.toUInt64 >>> (((i &&& (7 : Int32)) * (8 : Int32)) &&& 0x3f).toInt64.toUInt64).toInt64))])) rfl (hb hby d1_30) t' k') ?_
    show own_Go p.tables e below _ (s₁.setTop (mkF m 33 #[.val (.int i), .val (.int fr), .val (.int en), .val (.long a), .second, .val (.long b), .second] [(.long (255 : Int64)), (.long ((b.toUInt64 >>> (((i &&& (7 : Int32)) * (8 : Int32)) &&& 0x3f).toInt64.toUInt64).toInt64))]))
    refine own_st (fun _ k' => XS.land X0.here hx rfl (hb hby d1_33) rfl k') ?_
    show own_Go p.tables e below _ (s₁.setTop (mkF m 34 #[.val (.int i), .val (.int fr), .val (.int en), .val (.long a), .second, .val (.long b), .second] [(.long (((b.toUInt64 >>> (((i &&& (7 : Int32)) * (8 : Int32)) &&& 0x3f).toInt64.toUInt64).toInt64) &&& (255 : Int64)))]))
    refine own_st (fun _ k' => XS.l2i X0.here hx rfl (hb hby d1_34) rfl k') ?_
    show own_Go p.tables e below _ (s₁.setTop (mkF m 35 #[.val (.int i), .val (.int fr), .val (.int en), .val (.long a), .second, .val (.long b), .second] [(.int ((((b.toUInt64 >>> (((i &&& (7 : Int32)) * (8 : Int32)) &&& 0x3f).toInt64.toUInt64).toInt64) &&& (255 : Int64)).toInt32))]))
    refine own_st (fun _ k' => XS.i2c X0.here hx rfl (hb hby d1_35) rfl k') ?_
    show own_Go p.tables e below _ (s₁.setTop (mkF m 36 #[.val (.int i), .val (.int fr), .val (.int en), .val (.long a), .second, .val (.long b), .second] [(.int (((((b.toUInt64 >>> (((i &&& (7 : Int32)) * (8 : Int32)) &&& 0x3f).toInt64.toUInt64).toInt64) &&& (255 : Int64)).toInt32).toUInt32.toUInt16.toUInt32.toInt32))]))
    exact own_retN X0 hx (t := .char) Bd.returns (by simp) (hb hby d1_36) Bd.notSynchronized ⟨congrArg (fun z => some (Value.int z)) (own_cA hc1), N0, e0⟩ (by decide) (by decide)
  ·  -- pc 2, not i < fr
    refine own_st (fun _ k' => XS.icmpNo X0.here hx rfl (hb hby d1_2) rfl (flt hc1).1 k') ?_
    show own_Go p.tables e below _ (s₁.setTop (mkF m 5 #[.val (.int i), .val (.int fr), .val (.int en), .val (.long a), .second, .val (.long b), .second] []))
    refine own_st (fun _ k' => XS.iloadN X0.here hx rfl (hb hby d1_5) rfl k') ?_
    show own_Go p.tables e below _ (s₁.setTop (mkF m 6 #[.val (.int i), .val (.int fr), .val (.int en), .val (.long a), .second, .val (.long b), .second] [(.int i)]))
    refine own_st (fun _ k' => XS.iloadN X0.here hx rfl (hb hby d1_6) rfl k') ?_
    show own_Go p.tables e below _ (s₁.setTop (mkF m 7 #[.val (.int i), .val (.int fr), .val (.int en), .val (.long a), .second, .val (.long b), .second] [(.int en), (.int i)]))
    by_cases hc2 : i < en
    ·  -- pc 7, i < en
      refine own_st (fun _ k' => XS.icmpNo X0.here hx rfl (hb hby d1_7) rfl (tlt hc2).2.1 k') ?_
      show own_Go p.tables e below _ (s₁.setTop (mkF m 10 #[.val (.int i), .val (.int fr), .val (.int en), .val (.long a), .second, .val (.long b), .second] []))
      refine own_st (fun _ k' => XS.bipush X0.here hx rfl (hb hby d1_10) k') ?_
      show own_Go p.tables e below _ (s₁.setTop (mkF m 12 #[.val (.int i), .val (.int fr), .val (.int en), .val (.long a), .second, .val (.long b), .second] [(.int (48 : Int32))]))
      refine own_st (fun _ k' => XS.iloadN X0.here hx rfl (hb hby d1_12) rfl k') ?_
      show own_Go p.tables e below _ (s₁.setTop (mkF m 13 #[.val (.int i), .val (.int fr), .val (.int en), .val (.long a), .second, .val (.long b), .second] [(.int i), (.int (48 : Int32))]))
      refine own_st (fun _ k' => XS.lloadN X0.here hx rfl (hb hby d1_13) rfl k') ?_
      show own_Go p.tables e below _ (s₁.setTop (mkF m 14 #[.val (.int i), .val (.int fr), .val (.int en), .val (.long a), .second, .val (.long b), .second] [(.long a), (.int i), (.int (48 : Int32))]))
      obtain ⟨_, _, ⟨T3, L3, k3, n3⟩, -, X3, ⟨Lc3, hQ3, l3, y3, z3⟩, st3⟩ := Jvm.LawKit.callS X0 hx (y := (⟨"com/example/frozen_thread/frozenthread/text/DigitsNanosPinLaw", "digit", "(IJ)I"⟩ : MethodName)) hown (mvT hZ (hw _ (List.mem_of_getElem? (i := 6) rfl))) (mvT hZ (hw _ (List.mem_of_getElem? (i := 7) rfl))) (mvT hZ (hw _ (List.mem_of_getElem? (i := 4) rfl))) (mvT hZ (hw _ (List.mem_of_getElem? (i := 8) rfl))) (by decide) (backOf (W := 1) (rmDg l Z a0 hw [] i a h0 n0 Z0 ) hZ (hw _ (List.mem_of_getElem? (i := 8) rfl)) (hw _ (List.mem_of_getElem? (i := 4) rfl)) (by decide) (by decide)) (g := (mkF m 14 #[.val (.int i), .val (.int fr), .val (.int en), .val (.long a), .second, .val (.long b), .second] [(.long a), (.int i), (.int (48 : Int32))])) rfl (by rw [hml]; rfl) (argsL := [(.int i), (.long a)]) (rest := [(.int (48 : Int32))]) (lenOf pd__IJ_I rfl) rfl (by show 2 * 0 + _ ≤ _; exact Nat.le_of_eq rfl) (hb hby d1_14) (fun _ _ => ⟨rfl, e0, (by decide : 0 + 0 ≤ _), (by decide : 0 + 0 ≤ _)⟩)
      dsimp only [Pt.U, Pt.locs, Pt.cells, Pt.slots] at X3 l3 y3 z3 st3 hQ3
      have y3 : k3 = 0 := y3
      have z3 : n3 = 0 := z3
      subst y3 z3
      obtain ⟨rfl, Nq3, e3⟩ := hQ3
      have N3 : Fr n0 L3 := by rw [l3]; exact Fr.app N0 Nq3
      refine own_st st3 ?_
      show own_Go p.tables e below _ (T3.setTop (mkF m 17 #[.val (.int i), .val (.int fr), .val (.int en), .val (.long a), .second, .val (.long b), .second] [(.int (own_dg i a)), (.int (48 : Int32))]))
      refine own_st (fun _ k' => XS.iadd X3.here hx rfl (hb hby d1_17) rfl k') ?_
      show own_Go p.tables e below _ (T3.setTop (mkF m 18 #[.val (.int i), .val (.int fr), .val (.int en), .val (.long a), .second, .val (.long b), .second] [(.int ((48 : Int32) + (own_dg i a)))]))
      refine own_st (fun _ k' => XS.i2c X3.here hx rfl (hb hby d1_18) rfl k') ?_
      show own_Go p.tables e below _ (T3.setTop (mkF m 19 #[.val (.int i), .val (.int fr), .val (.int en), .val (.long a), .second, .val (.long b), .second] [(.int (((48 : Int32) + (own_dg i a)).toUInt32.toUInt16.toUInt32.toInt32))]))
      exact own_retN X3 hx (t := .char) Bd.returns (by simp) (hb hby d1_19) Bd.notSynchronized ⟨congrArg (fun z => some (Value.int z)) (own_cC hc1 hc2), N3, e3⟩ (by decide) (by decide)
    ·  -- pc 7, not i < en
      refine own_st (fun _ k' => XS.icmpYes X0.here hx rfl (pc0 := 7) (pc' := 20) rfl (hb hby d1_7) rfl (flt hc2).2.1 (by decide) (by decide) k') ?_
      show own_Go p.tables e below _ (s₁.setTop (mkF m 20 #[.val (.int i), .val (.int fr), .val (.int en), .val (.long a), .second, .val (.long b), .second] []))
      refine own_st (fun _ k' => XS.lload X0.here hx rfl (hb hby d1_20) rfl k') ?_
      show own_Go p.tables e below _ (s₁.setTop (mkF m 22 #[.val (.int i), .val (.int fr), .val (.int en), .val (.long a), .second, .val (.long b), .second] [(.long b)]))
      refine own_st (fun _ k' => XS.iloadN X0.here hx rfl (hb hby d1_22) rfl k') ?_
      show own_Go p.tables e below _ (s₁.setTop (mkF m 23 #[.val (.int i), .val (.int fr), .val (.int en), .val (.long a), .second, .val (.long b), .second] [(.int i), (.long b)]))
      refine own_st (fun _ k' => XS.bipush X0.here hx rfl (hb hby d1_23) k') ?_
      show own_Go p.tables e below _ (s₁.setTop (mkF m 25 #[.val (.int i), .val (.int fr), .val (.int en), .val (.long a), .second, .val (.long b), .second] [(.int (7 : Int32)), (.int i), (.long b)]))
      refine own_st (fun _ k' => XS.iand X0.here hx rfl (hb hby d1_25) rfl k') ?_
      show own_Go p.tables e below _ (s₁.setTop (mkF m 26 #[.val (.int i), .val (.int fr), .val (.int en), .val (.long a), .second, .val (.long b), .second] [(.int (i &&& (7 : Int32))), (.long b)]))
      refine own_st (fun _ k' => XS.bipush X0.here hx rfl (hb hby d1_26) k') ?_
      show own_Go p.tables e below _ (s₁.setTop (mkF m 28 #[.val (.int i), .val (.int fr), .val (.int en), .val (.long a), .second, .val (.long b), .second] [(.int (8 : Int32)), (.int (i &&& (7 : Int32))), (.long b)]))
      refine own_st (fun _ k' => XS.imul X0.here hx rfl (hb hby d1_28) rfl k') ?_
      show own_Go p.tables e below _ (s₁.setTop (mkF m 29 #[.val (.int i), .val (.int fr), .val (.int en), .val (.long a), .second, .val (.long b), .second] [(.int ((i &&& (7 : Int32)) * (8 : Int32))), (.long b)]))
      refine own_st (fun _ k' => XS.lushr X0.here hx rfl (hb hby d1_29) rfl k') ?_
      show own_Go p.tables e below _ (s₁.setTop (mkF m 30 #[.val (.int i), .val (.int fr), .val (.int en), .val (.long a), .second, .val (.long b), .second] [(.long ((b.toUInt64 >>> (((i &&& (7 : Int32)) * (8 : Int32)) &&& 0x3f).toInt64.toUInt64).toInt64))]))
      refine own_st (fun t' k' => X0.ldc2Long hx hown (mvT hZ (hw _ (List.mem_of_getElem? (i := 10) rfl))) (g := (mkF m 30 #[.val (.int i), .val (.int fr), .val (.int en), .val (.long a), .second, .val (.long b), .second] [(.long ((b.toUInt64 >>> (((i &&& (7 : Int32)) * (8 : Int32)) &&& 0x3f).toInt64.toUInt64).toInt64))])) rfl (hb hby d1_30) t' k') ?_
      show own_Go p.tables e below _ (s₁.setTop (mkF m 33 #[.val (.int i), .val (.int fr), .val (.int en), .val (.long a), .second, .val (.long b), .second] [(.long (255 : Int64)), (.long ((b.toUInt64 >>> (((i &&& (7 : Int32)) * (8 : Int32)) &&& 0x3f).toInt64.toUInt64).toInt64))]))
      refine own_st (fun _ k' => XS.land X0.here hx rfl (hb hby d1_33) rfl k') ?_
      show own_Go p.tables e below _ (s₁.setTop (mkF m 34 #[.val (.int i), .val (.int fr), .val (.int en), .val (.long a), .second, .val (.long b), .second] [(.long (((b.toUInt64 >>> (((i &&& (7 : Int32)) * (8 : Int32)) &&& 0x3f).toInt64.toUInt64).toInt64) &&& (255 : Int64)))]))
      refine own_st (fun _ k' => XS.l2i X0.here hx rfl (hb hby d1_34) rfl k') ?_
      show own_Go p.tables e below _ (s₁.setTop (mkF m 35 #[.val (.int i), .val (.int fr), .val (.int en), .val (.long a), .second, .val (.long b), .second] [(.int ((((b.toUInt64 >>> (((i &&& (7 : Int32)) * (8 : Int32)) &&& 0x3f).toInt64.toUInt64).toInt64) &&& (255 : Int64)).toInt32))]))
      refine own_st (fun _ k' => XS.i2c X0.here hx rfl (hb hby d1_35) rfl k') ?_
      show own_Go p.tables e below _ (s₁.setTop (mkF m 36 #[.val (.int i), .val (.int fr), .val (.int en), .val (.long a), .second, .val (.long b), .second] [(.int (((((b.toUInt64 >>> (((i &&& (7 : Int32)) * (8 : Int32)) &&& 0x3f).toInt64.toUInt64).toInt64) &&& (255 : Int64)).toInt32).toUInt32.toUInt16.toUInt32.toInt32))]))
      exact own_retN X0 hx (t := .char) Bd.returns (by simp) (hb hby d1_36) Bd.notSynchronized ⟨congrArg (fun z => some (Value.int z)) (own_cB hc1 hc2), N0, e0⟩ (by decide) (by decide)

theorem d9_0 : decode method_5_code 0 = .ok (.iload_n 0, 1) := by decide +kernel
theorem d9_1 : decode method_5_code 1 = .ok (.iload_n 2, 1) := by decide +kernel
theorem d9_2 : decode method_5_code 2 = .ok (.if_icmp .ge 13, 3) := by decide +kernel
theorem d9_5 : decode method_5_code 5 = .ok (.iload_n 1, 1) := by decide +kernel
theorem d9_6 : decode method_5_code 6 = .ok (.iload_n 0, 1) := by decide +kernel
theorem d9_7 : decode method_5_code 7 = .ok (.iadd, 1) := by decide +kernel
theorem d9_8 : decode method_5_code 8 = .ok (.lload_n 3, 1) := by decide +kernel
theorem d9_9 : decode method_5_code 9 = .ok (.invokestatic 35, 3) := by decide +kernel
theorem d9_12 : decode method_5_code 12 = .ok (.goto 4, 3) := by decide +kernel
theorem d9_15 : decode method_5_code 15 = .ok (.iconst 0, 1) := by decide +kernel
theorem d9_16 : decode method_5_code 16 = .ok (.ireturn, 1) := by decide +kernel
theorem ef_rmDv (m : MethodId) (x0 : Int32) (x1 : Int32) (x2 : Int32) (x3 : Int64) : entryFrame m #[(.int x0), (.int x1), (.int x2), (.long x3)] 5 = mkF m 0 #[.val (.int x0), .val (.int x1), .val (.int x2), .val (.long x3), .second] [] := by first | (simp [entryFrame, mkF, argsToLocals, Value.category]; done) | rfl
def Q_rmDv (Z : State) (i fr n : Int32) (a : Int64) (h0 : Heap) (n0 : Nat) (v : Option Value) (h : Heap) (L : List Loc) : Prop := v = some (.int (own_dv i fr n a)) ∧ Fr n0 L ∧ h = h0
def K_rmDv (Z : State) (i fr n : Int32) (a : Int64) (h0 : Heap) (n0 : Nat) (s : State) : Outcome → State → Prop := fun oo U' => ∃ v L, oo = .returned v ∧ Q_rmDv Z i fr n a h0 n0 v U'.heap L ∧ FrameEnd s oo U' L ({ frames := 1, cells := 0, slots := 0, locals := 15 } : Room).cells ({ frames := 1, cells := 0, slots := 0, locals := 15 } : Room).slots
set_option maxRecDepth 65536 in
set_option maxHeartbeats 40000000 in
theorem rmDv (l : Launch) (Z : State) (a0 : Array Value) (hw : ∀ d ∈ tables_1, d.before a0 Z = true) (ws : List Jvm.Cond) (i fr n : Int32) (a : Int64) (h0 : Heap) (n0 : Nat) (Z0 : n0 ≤ h0.size)  :
    MetFree l (⟨"com/example/frozen_thread/frozenthread/text/DigitsNanosPinLaw", "dv", "(IIIJ)I"⟩ : MethodName) (head1 (Jvm.Cond.code (⟨"com/example/frozen_thread/frozenthread/text/DigitsNanosPinLaw", "dv", "(IIIJ)I"⟩ : MethodName) method_5_code 5 (some .int) :: ws) ({ frames := 1, cells := 0, slots := 0, locals := 15 } : Room)) (fun as_ U => as_ = #[(.int i), (.int fr), (.int n), (.long a)] ∧ Z.Warmed39 U.vm ∧ U.heap = h0) (fun _ _ _ _ _ => True) (fun _ U oo U' => ∃ v L, oo = .returned v ∧ Q_rmDv Z i fr n a h0 n0 v U'.heap L ∧ FrameEnd U oo U' L ({ frames := 1, cells := 0, slots := 0, locals := 15 } : Room).cells ({ frames := 1, cells := 0, slots := 0, locals := 15 } : Room).slots) := by
  refine MetFree.of_bodySF (plainFor_of_name pn_com_example_frozen_thread_frozenthread_text_DigitsNanosPinLaw) hisR ?_
  intro p e s m args below meth c s₁ Bd hml0 hP hK
  obtain ⟨rfl, hZ, hh⟩ := hP
  have hx := Bd.exec
  have hby := Bd.bytes
  have hml : c.maxLocals = 5 := hml0
  have hown : s.vm.findClass "com/example/frozen_thread/frozenthread/text/DigitsNanosPinLaw" = some m.cls := findClass_of_methodNamed Bd.named
  have hnm := (name_of_methodNamed Bd.named Bd.method).1
  have X0 : Stand p l e ({ frames := 1, cells := 0, slots := 0, locals := 15 } : Room) s m #[(.int i), (.int fr), (.int n), (.long a)] below meth c s₁ [] 0 0 := Stand.of_body Bd
  have e0 : s₁.heap = h0 := by rw [← hh, Bd.state]; rfl
  have N0 := Fr.nil n0
  refine own_st (K := (K_rmDv Z i fr n a h0 n0 s)) (fun t' k' => castTop (ef_rmDv m i fr n a) k') ?_
  show own_Go p.tables e below _ (s₁.setTop (mkF m 0 #[.val (.int i), .val (.int fr), .val (.int n), .val (.long a), .second] []))
  refine own_st (fun _ k' => XS.iloadN X0.here hx rfl (hb hby d9_0) rfl k') ?_
  show own_Go p.tables e below _ (s₁.setTop (mkF m 1 #[.val (.int i), .val (.int fr), .val (.int n), .val (.long a), .second] [(.int i)]))
  refine own_st (fun _ k' => XS.iloadN X0.here hx rfl (hb hby d9_1) rfl k') ?_
  show own_Go p.tables e below _ (s₁.setTop (mkF m 2 #[.val (.int i), .val (.int fr), .val (.int n), .val (.long a), .second] [(.int n), (.int i)]))
  by_cases hc1 : i < n
  ·  -- pc 2, i < n
    refine own_st (fun _ k' => XS.icmpNo X0.here hx rfl (hb hby d9_2) rfl (tlt hc1).2.1 k') ?_
    show own_Go p.tables e below _ (s₁.setTop (mkF m 5 #[.val (.int i), .val (.int fr), .val (.int n), .val (.long a), .second] []))
    refine own_st (fun _ k' => XS.iloadN X0.here hx rfl (hb hby d9_5) rfl k') ?_
    show own_Go p.tables e below _ (s₁.setTop (mkF m 6 #[.val (.int i), .val (.int fr), .val (.int n), .val (.long a), .second] [(.int fr)]))
    refine own_st (fun _ k' => XS.iloadN X0.here hx rfl (hb hby d9_6) rfl k') ?_
    show own_Go p.tables e below _ (s₁.setTop (mkF m 7 #[.val (.int i), .val (.int fr), .val (.int n), .val (.long a), .second] [(.int i), (.int fr)]))
    refine own_st (fun _ k' => XS.iadd X0.here hx rfl (hb hby d9_7) rfl k') ?_
    show own_Go p.tables e below _ (s₁.setTop (mkF m 8 #[.val (.int i), .val (.int fr), .val (.int n), .val (.long a), .second] [(.int (fr + i))]))
    refine own_st (fun _ k' => XS.lloadN X0.here hx rfl (hb hby d9_8) rfl k') ?_
    show own_Go p.tables e below _ (s₁.setTop (mkF m 9 #[.val (.int i), .val (.int fr), .val (.int n), .val (.long a), .second] [(.long a), (.int (fr + i))]))
    obtain ⟨_, _, ⟨T2, L2, k2, n2⟩, -, X2, ⟨Lc2, hQ2, l2, y2, z2⟩, st2⟩ := Jvm.LawKit.callS X0 hx (y := (⟨"com/example/frozen_thread/frozenthread/text/DigitsNanosPinLaw", "digit", "(IJ)I"⟩ : MethodName)) hown (mvT hZ (hw _ (List.mem_of_getElem? (i := 6) rfl))) (mvT hZ (hw _ (List.mem_of_getElem? (i := 7) rfl))) (mvT hZ (hw _ (List.mem_of_getElem? (i := 4) rfl))) (mvT hZ (hw _ (List.mem_of_getElem? (i := 8) rfl))) (by decide) (backOf (W := 0) (rmDg l Z a0 hw [] (fr + i) a h0 n0 Z0 ) hZ (hw _ (List.mem_of_getElem? (i := 8) rfl)) (hw _ (List.mem_of_getElem? (i := 4) rfl)) (by decide) (by decide)) (g := (mkF m 9 #[.val (.int i), .val (.int fr), .val (.int n), .val (.long a), .second] [(.long a), (.int (fr + i))])) rfl (by rw [hml]; rfl) (argsL := [(.int (fr + i)), (.long a)]) (rest := []) (lenOf pd__IJ_I rfl) rfl (by show 2 * 0 + _ ≤ _; exact Nat.le_of_eq rfl) (hb hby d9_9) (fun _ _ => ⟨rfl, e0, (by decide : 0 + 0 ≤ _), (by decide : 0 + 0 ≤ _)⟩)
    dsimp only [Pt.U, Pt.locs, Pt.cells, Pt.slots] at X2 l2 y2 z2 st2 hQ2
    have y2 : k2 = 0 := y2
    have z2 : n2 = 0 := z2
    subst y2 z2
    obtain ⟨rfl, Nq2, e2⟩ := hQ2
    have N2 : Fr n0 L2 := by rw [l2]; exact Fr.app N0 Nq2
    refine own_st st2 ?_
    show own_Go p.tables e below _ (T2.setTop (mkF m 12 #[.val (.int i), .val (.int fr), .val (.int n), .val (.long a), .second] [(.int (own_dg (fr + i) a))]))
    refine own_st (fun _ k' => XS.goto X2.here hx rfl (pc0 := 12) (pc' := 16) rfl (hb hby d9_12) (by decide) (by decide) k') ?_
    show own_Go p.tables e below _ (T2.setTop (mkF m 16 #[.val (.int i), .val (.int fr), .val (.int n), .val (.long a), .second] [(.int (own_dg (fr + i) a))]))
    exact own_retI X2 hx Bd.returns (hb hby d9_16) Bd.notSynchronized ⟨congrArg (fun z => some (Value.int z)) ((if_pos hc1).symm : _ = own_dv i fr n a), N2, e2⟩ (by decide) (by decide)
  ·  -- pc 2, not i < n
    refine own_st (fun _ k' => XS.icmpYes X0.here hx rfl (pc0 := 2) (pc' := 15) rfl (hb hby d9_2) rfl (flt hc1).2.1 (by decide) (by decide) k') ?_
    show own_Go p.tables e below _ (s₁.setTop (mkF m 15 #[.val (.int i), .val (.int fr), .val (.int n), .val (.long a), .second] []))
    refine own_st (fun _ k' => XS.iconst X0.here hx rfl (hb hby d9_15) k') ?_
    show own_Go p.tables e below _ (s₁.setTop (mkF m 16 #[.val (.int i), .val (.int fr), .val (.int n), .val (.long a), .second] [(.int (0 : Int32))]))
    exact own_retI X0 hx Bd.returns (hb hby d9_16) Bd.notSynchronized ⟨congrArg (fun z => some (Value.int z)) ((if_neg hc1).symm : _ = own_dv i fr n a), N0, e0⟩ (by decide) (by decide)

theorem d10_0 : decode prog_95_method_11_code 0 = .ok (.iconst 0, 1) := by decide +kernel
theorem d10_1 : decode prog_95_method_11_code 1 = .ok (.istore_n 3, 1) := by decide +kernel
theorem d10_2 : decode prog_95_method_11_code 2 = .ok (.iload_n 1, 1) := by decide +kernel
theorem d10_3 : decode prog_95_method_11_code 3 = .ok (.istore 4, 2) := by decide +kernel
theorem d10_5 : decode prog_95_method_11_code 5 = .ok (.iload 4, 2) := by decide +kernel
theorem d10_7 : decode prog_95_method_11_code 7 = .ok (.iload_n 1, 1) := by decide +kernel
theorem d10_8 : decode prog_95_method_11_code 8 = .ok (.bipush 9, 2) := by decide +kernel
theorem d10_10 : decode prog_95_method_11_code 10 = .ok (.iadd, 1) := by decide +kernel
theorem d10_11 : decode prog_95_method_11_code 11 = .ok (.if_icmp .ge 34, 3) := by decide +kernel
theorem d10_14 : decode prog_95_method_11_code 14 = .ok (.iload_n 3, 1) := by decide +kernel
theorem d10_15 : decode prog_95_method_11_code 15 = .ok (.bipush 10, 2) := by decide +kernel
theorem d10_17 : decode prog_95_method_11_code 17 = .ok (.imul, 1) := by decide +kernel
theorem d10_18 : decode prog_95_method_11_code 18 = .ok (.iload 4, 2) := by decide +kernel
theorem d10_20 : decode prog_95_method_11_code 20 = .ok (.iload_n 2, 1) := by decide +kernel
theorem d10_21 : decode prog_95_method_11_code 21 = .ok (.if_icmp .ge 15, 3) := by decide +kernel
theorem d10_24 : decode prog_95_method_11_code 24 = .ok (.aload_n 0, 1) := by decide +kernel
theorem d10_25 : decode prog_95_method_11_code 25 = .ok (.iload 4, 2) := by decide +kernel
theorem d10_27 : decode prog_95_method_11_code 27 = .ok (.invokevirtual 13, 3) := by decide +kernel
theorem d10_30 : decode prog_95_method_11_code 30 = .ok (.bipush 48, 2) := by decide +kernel
theorem d10_32 : decode prog_95_method_11_code 32 = .ok (.isub, 1) := by decide +kernel
theorem d10_33 : decode prog_95_method_11_code 33 = .ok (.goto 4, 3) := by decide +kernel
theorem d10_36 : decode prog_95_method_11_code 36 = .ok (.iconst 0, 1) := by decide +kernel
theorem d10_37 : decode prog_95_method_11_code 37 = .ok (.iadd, 1) := by decide +kernel
theorem d10_38 : decode prog_95_method_11_code 38 = .ok (.istore_n 3, 1) := by decide +kernel
theorem d10_39 : decode prog_95_method_11_code 39 = .ok (.iinc 4 1, 3) := by decide +kernel
theorem d10_42 : decode prog_95_method_11_code 42 = .ok (.goto (-37), 3) := by decide +kernel
theorem d10_45 : decode prog_95_method_11_code 45 = .ok (.iload_n 3, 1) := by decide +kernel
theorem d10_46 : decode prog_95_method_11_code 46 = .ok (.ireturn, 1) := by decide +kernel
theorem pd__I_C : parseMethodDescriptor "(I)C" = some ⟨[.int], some .char⟩ := by decide +kernel
theorem pn_com_example_frozen_thread_frozenthread_text_Digits : plainName "com/example/frozen_thread/frozenthread/text/Digits" = true := by first | (simp [plainName, overriddenIn]; done) | decide +kernel
theorem ef_rmNN (m : MethodId) (x0 : Addr) (x1 : Int32) (x2 : Int32) : entryFrame m #[(.ref x0), (.int x1), (.int x2)] 5 = mkF m 0 #[.val (.ref x0), .val (.int x1), .val (.int x2), .unset, .unset] [] := by first | (simp [entryFrame, mkF, argsToLocals, Value.category]; done) | rfl
def Q_rmNN (Z : State) (x t : Addr) (kb : ClassId) (cs : List Int32) (nf ne : Nat) (G1 : Int32) (G3 : Value) (h0 : Heap) (n0 : Nat) (v : Option Value) (h : Heap) (L : List Loc) : Prop := v = some (.int (own_nan cs ne 9 nf 0)) ∧ Fr n0 L ∧ h = h0
def K_rmNN (Z : State) (x t : Addr) (kb : ClassId) (cs : List Int32) (nf ne : Nat) (G1 : Int32) (G3 : Value) (h0 : Heap) (n0 : Nat) (s : State) : Outcome → State → Prop := fun oo U' => ∃ v L, oo = .returned v ∧ Q_rmNN Z x t kb cs nf ne G1 G3 h0 n0 v U'.heap L ∧ FrameEnd s oo U' L ({ frames := 4, cells := 0, slots := 0, locals := 54 } : Room).cells ({ frames := 4, cells := 0, slots := 0, locals := 54 } : Room).slots
set_option maxRecDepth 65536 in
set_option maxHeartbeats 40000000 in
theorem rmNN (l : Launch) (Z : State) (a0 : Array Value) (hw : ∀ d ∈ tables_1, d.before a0 Z = true) (ws : List Jvm.Cond) (x t : Addr) (kb : ClassId) (cs : List Int32) (nf ne : Nat) (G1 : Int32) (G3 : Value) (h0 : Heap) (n0 : Nat) (Z0 : n0 ≤ h0.size) (E_x : Exa Z h0 x "java/lang/String") (F_v : Fld Z h0 x "java/lang/String" "value" "[B" (.ref t)) (F_c : Fld Z h0 x "java/lang/String" "coder" "B" (.int (0 : Int32))) (V_t : Arv Z h0 t kb .byte (14 : Int32) ((cs.map (fun c => c.toInt8.toInt32)).map Value.int) (.int (0 : Int32))) (hlen : cs.length = 14) (hp : ∀ c ∈ cs, ¬ c < 0 ∧ ¬ (255 : Int32) < c) (h1 : nf ≤ 3) (h2 : ne ≤ 13) (O2 : Sta Z Z.heap "java/lang/String" "COMPACT_STRINGS" "Z" (.int G1)) (O4 : Sta Z Z.heap "jdk/internal/util/Preconditions" "SIOOBE_FORMATTER" "Ljava/util/function/BiFunction;" G3) (P5 : ¬ (G1 = (0 : Int32))) (rG3 : G3.isRef = true) (O_ : Old Z n0 h0) :
    MetFree l (⟨"com/example/frozen_thread/frozenthread/text/Digits", "nanos", "(Ljava/lang/String;II)I"⟩ : MethodName) (head1 (Jvm.Cond.code (⟨"com/example/frozen_thread/frozenthread/text/Digits", "nanos", "(Ljava/lang/String;II)I"⟩ : MethodName) prog_95_method_11_code 5 (some .int) :: ws) ({ frames := 4, cells := 0, slots := 0, locals := 54 } : Room)) (fun as_ U => as_ = #[(.ref x), (.int (Int32.ofNat nf)), (.int (Int32.ofNat ne))] ∧ Z.Warmed39 U.vm ∧ U.heap = h0) (fun _ _ _ _ _ => True) (fun _ U oo U' => ∃ v L, oo = .returned v ∧ Q_rmNN Z x t kb cs nf ne G1 G3 h0 n0 v U'.heap L ∧ FrameEnd U oo U' L ({ frames := 4, cells := 0, slots := 0, locals := 54 } : Room).cells ({ frames := 4, cells := 0, slots := 0, locals := 54 } : Room).slots) := by
  refine MetFree.of_bodySF (plainFor_of_name pn_com_example_frozen_thread_frozenthread_text_Digits) hisR ?_
  intro p e s m args below meth c s₁ Bd hml0 hP hK
  obtain ⟨rfl, hZ, hh⟩ := hP
  have hx := Bd.exec
  have hby := Bd.bytes
  have hml : c.maxLocals = 5 := hml0
  have hown : s.vm.findClass "com/example/frozen_thread/frozenthread/text/Digits" = some m.cls := findClass_of_methodNamed Bd.named
  have hnm := (name_of_methodNamed Bd.named Bd.method).1
  have X0 : Stand p l e ({ frames := 4, cells := 0, slots := 0, locals := 54 } : Room) s m #[(.ref x), (.int (Int32.ofNat nf)), (.int (Int32.ofNat ne))] below meth c s₁ [] 0 0 := Stand.of_body Bd
  have e0 : s₁.heap = h0 := by rw [← hh, Bd.state]; rfl
  have N0 := Fr.nil n0
  refine own_st (K := (K_rmNN Z x t kb cs nf ne G1 G3 h0 n0 s)) (fun t' k' => castTop (ef_rmNN m x (Int32.ofNat nf) (Int32.ofNat ne)) k') ?_
  have hch : ∀ d ∈ StrChars.Road.wordsChN, d.before a0 Z = true := fun d hd => hw d ((by decide +kernel : ∀ d ∈ StrChars.Road.wordsChN, d ∈ tables_1) d hd)
  have hcd : StrChars.Road.CodA cs 0 (14 : Int32) ((cs.map (fun c => c.toInt8.toInt32)).map Value.int) := StrChars.Road.codOf (n := 14) hlen (fun x hx => (hp x hx).2)
  have hbd := own_up cs hp
  show own_Go p.tables e below _ (s₁.setTop (mkF m 0 #[.val (.ref x), .val (.int (Int32.ofNat nf)), .val (.int (Int32.ofNat ne)), .unset, .unset] []))
  refine own_st (fun _ k' => XS.iconst X0.here hx rfl (hb hby d10_0) k') ?_
  show own_Go p.tables e below _ (s₁.setTop (mkF m 1 #[.val (.ref x), .val (.int (Int32.ofNat nf)), .val (.int (Int32.ofNat ne)), .unset, .unset] [(.int (0 : Int32))]))
  refine own_st (fun _ k' => XS.istoreN X0.here hx rfl (hb hby d10_1) rfl (l' := #[.val (.ref x), .val (.int (Int32.ofNat nf)), .val (.int (Int32.ofNat ne)), .val (.int (0 : Int32)), .unset]) rfl k') ?_
  show own_Go p.tables e below _ (s₁.setTop (mkF m 2 #[.val (.ref x), .val (.int (Int32.ofNat nf)), .val (.int (Int32.ofNat ne)), .val (.int (0 : Int32)), .unset] []))
  refine own_st (fun _ k' => XS.iloadN X0.here hx rfl (hb hby d10_2) rfl k') ?_
  show own_Go p.tables e below _ (s₁.setTop (mkF m 3 #[.val (.ref x), .val (.int (Int32.ofNat nf)), .val (.int (Int32.ofNat ne)), .val (.int (0 : Int32)), .unset] [(.int (Int32.ofNat nf))]))
  refine own_st (fun _ k' => XS.istore X0.here hx rfl (hb hby d10_3) rfl (l' := #[.val (.ref x), .val (.int (Int32.ofNat nf)), .val (.int (Int32.ofNat ne)), .val (.int (0 : Int32)), .val (.int (Int32.ofNat nf))]) rfl k') ?_
  show own_Go p.tables e below _ (s₁.setTop (mkF m 5 #[.val (.ref x), .val (.int (Int32.ofNat nf)), .val (.int (Int32.ofNat ne)), .val (.int (0 : Int32)), .val (.int (Int32.ofNat nf))] []))
  have loop : ∀ (k : Nat) (ni : Nat) (acc : Int32) (T : State) (locs : List Loc), ni + k = nf + 9 → nf ≤ ni → Stand p l e ({ frames := 4, cells := 0, slots := 0, locals := 54 } : Room) s m #[(.ref x), (.int (Int32.ofNat nf)), (.int (Int32.ofNat ne))] below meth c T locs 0 0 → T.heap = h0 → Fr n0 locs → own_nan cs ne k ni acc = own_nan cs ne 9 nf 0 → own_Go p.tables e below (K_rmNN Z x t kb cs nf ne G1 G3 h0 n0 s) (T.setTop (mkF m 5 #[.val (.ref x), .val (.int (Int32.ofNat nf)), .val (.int (Int32.ofNat ne)), .val (.int acc), .val (.int (Int32.ofNat ni))] [])) := by
    have e9 : Int32.ofNat nf + (9 : Int32) = Int32.ofNat (nf + 9) := own_add nf 9
    intro k
    induction k with
    | zero =>
      intro ni acc T locs hk hni X eT N hr
      have hlt : ¬ (Int32.ofNat ni) < ((Int32.ofNat nf) + (9 : Int32)) := by rw [e9, own_lt _ _ (by omega) (by omega)]; omega
      refine own_st (fun _ k' => XS.iload X.here hx rfl (hb hby d10_5) rfl k') ?_
      show own_Go p.tables e below _ (T.setTop (mkF m 7 #[.val (.ref x), .val (.int (Int32.ofNat nf)), .val (.int (Int32.ofNat ne)), .val (.int acc), .val (.int (Int32.ofNat ni))] [(.int (Int32.ofNat ni))]))
      refine own_st (fun _ k' => XS.iloadN X.here hx rfl (hb hby d10_7) rfl k') ?_
      show own_Go p.tables e below _ (T.setTop (mkF m 8 #[.val (.ref x), .val (.int (Int32.ofNat nf)), .val (.int (Int32.ofNat ne)), .val (.int acc), .val (.int (Int32.ofNat ni))] [(.int (Int32.ofNat nf)), (.int (Int32.ofNat ni))]))
      refine own_st (fun _ k' => XS.bipush X.here hx rfl (hb hby d10_8) k') ?_
      show own_Go p.tables e below _ (T.setTop (mkF m 10 #[.val (.ref x), .val (.int (Int32.ofNat nf)), .val (.int (Int32.ofNat ne)), .val (.int acc), .val (.int (Int32.ofNat ni))] [(.int (9 : Int32)), (.int (Int32.ofNat nf)), (.int (Int32.ofNat ni))]))
      refine own_st (fun _ k' => XS.iadd X.here hx rfl (hb hby d10_10) rfl k') ?_
      show own_Go p.tables e below _ (T.setTop (mkF m 11 #[.val (.ref x), .val (.int (Int32.ofNat nf)), .val (.int (Int32.ofNat ne)), .val (.int acc), .val (.int (Int32.ofNat ni))] [(.int ((Int32.ofNat nf) + (9 : Int32))), (.int (Int32.ofNat ni))]))
      refine own_st (fun _ k' => XS.icmpYes X.here hx rfl (pc0 := 11) (pc' := 45) rfl (hb hby d10_11) rfl (flt hlt).2.1 (by decide) (by decide) k') ?_
      show own_Go p.tables e below _ (T.setTop (mkF m 45 #[.val (.ref x), .val (.int (Int32.ofNat nf)), .val (.int (Int32.ofNat ne)), .val (.int acc), .val (.int (Int32.ofNat ni))] []))
      refine own_st (fun _ k' => XS.iloadN X.here hx rfl (hb hby d10_45) rfl k') ?_
      show own_Go p.tables e below _ (T.setTop (mkF m 46 #[.val (.ref x), .val (.int (Int32.ofNat nf)), .val (.int (Int32.ofNat ne)), .val (.int acc), .val (.int (Int32.ofNat ni))] [(.int acc)]))
      exact own_retI X hx Bd.returns (hb hby d10_46) Bd.notSynchronized ⟨congrArg (fun z => some (Value.int z)) hr, N, eT⟩ (by decide) (by decide)
    | succ k ih =>
      intro ni acc T locs hk hni X eT N hr
      have hlt : (Int32.ofNat ni) < ((Int32.ofNat nf) + (9 : Int32)) := by rw [e9, own_lt _ _ (by omega) (by omega)]; omega
      refine own_st (fun _ k' => XS.iload X.here hx rfl (hb hby d10_5) rfl k') ?_
      show own_Go p.tables e below _ (T.setTop (mkF m 7 #[.val (.ref x), .val (.int (Int32.ofNat nf)), .val (.int (Int32.ofNat ne)), .val (.int acc), .val (.int (Int32.ofNat ni))] [(.int (Int32.ofNat ni))]))
      refine own_st (fun _ k' => XS.iloadN X.here hx rfl (hb hby d10_7) rfl k') ?_
      show own_Go p.tables e below _ (T.setTop (mkF m 8 #[.val (.ref x), .val (.int (Int32.ofNat nf)), .val (.int (Int32.ofNat ne)), .val (.int acc), .val (.int (Int32.ofNat ni))] [(.int (Int32.ofNat nf)), (.int (Int32.ofNat ni))]))
      refine own_st (fun _ k' => XS.bipush X.here hx rfl (hb hby d10_8) k') ?_
      show own_Go p.tables e below _ (T.setTop (mkF m 10 #[.val (.ref x), .val (.int (Int32.ofNat nf)), .val (.int (Int32.ofNat ne)), .val (.int acc), .val (.int (Int32.ofNat ni))] [(.int (9 : Int32)), (.int (Int32.ofNat nf)), (.int (Int32.ofNat ni))]))
      refine own_st (fun _ k' => XS.iadd X.here hx rfl (hb hby d10_10) rfl k') ?_
      show own_Go p.tables e below _ (T.setTop (mkF m 11 #[.val (.ref x), .val (.int (Int32.ofNat nf)), .val (.int (Int32.ofNat ne)), .val (.int acc), .val (.int (Int32.ofNat ni))] [(.int ((Int32.ofNat nf) + (9 : Int32))), (.int (Int32.ofNat ni))]))
      refine own_st (fun _ k' => XS.icmpNo X.here hx rfl (hb hby d10_11) rfl (tlt hlt).2.1 k') ?_
      show own_Go p.tables e below _ (T.setTop (mkF m 14 #[.val (.ref x), .val (.int (Int32.ofNat nf)), .val (.int (Int32.ofNat ne)), .val (.int acc), .val (.int (Int32.ofNat ni))] []))
      refine own_st (fun _ k' => XS.iloadN X.here hx rfl (hb hby d10_14) rfl k') ?_
      show own_Go p.tables e below _ (T.setTop (mkF m 15 #[.val (.ref x), .val (.int (Int32.ofNat nf)), .val (.int (Int32.ofNat ne)), .val (.int acc), .val (.int (Int32.ofNat ni))] [(.int acc)]))
      refine own_st (fun _ k' => XS.bipush X.here hx rfl (hb hby d10_15) k') ?_
      show own_Go p.tables e below _ (T.setTop (mkF m 17 #[.val (.ref x), .val (.int (Int32.ofNat nf)), .val (.int (Int32.ofNat ne)), .val (.int acc), .val (.int (Int32.ofNat ni))] [(.int (10 : Int32)), (.int acc)]))
      refine own_st (fun _ k' => XS.imul X.here hx rfl (hb hby d10_17) rfl k') ?_
      show own_Go p.tables e below _ (T.setTop (mkF m 18 #[.val (.ref x), .val (.int (Int32.ofNat nf)), .val (.int (Int32.ofNat ne)), .val (.int acc), .val (.int (Int32.ofNat ni))] [(.int (acc * (10 : Int32)))]))
      refine own_st (fun _ k' => XS.iload X.here hx rfl (hb hby d10_18) rfl k') ?_
      show own_Go p.tables e below _ (T.setTop (mkF m 20 #[.val (.ref x), .val (.int (Int32.ofNat nf)), .val (.int (Int32.ofNat ne)), .val (.int acc), .val (.int (Int32.ofNat ni))] [(.int (Int32.ofNat ni)), (.int (acc * (10 : Int32)))]))
      refine own_st (fun _ k' => XS.iloadN X.here hx rfl (hb hby d10_20) rfl k') ?_
      show own_Go p.tables e below _ (T.setTop (mkF m 21 #[.val (.ref x), .val (.int (Int32.ofNat nf)), .val (.int (Int32.ofNat ne)), .val (.int acc), .val (.int (Int32.ofNat ni))] [(.int (Int32.ofNat ne)), (.int (Int32.ofNat ni)), (.int (acc * (10 : Int32)))]))
      by_cases hc1 : (Int32.ofNat ni) < (Int32.ofNat ne)
      ·  -- pc 21, (Int32.ofNat ni) < (Int32.ofNat ne)
        refine own_st (fun _ k' => XS.icmpNo X.here hx rfl (hb hby d10_21) rfl (tlt hc1).2.1 k') ?_
        show own_Go p.tables e below _ (T.setTop (mkF m 24 #[.val (.ref x), .val (.int (Int32.ofNat nf)), .val (.int (Int32.ofNat ne)), .val (.int acc), .val (.int (Int32.ofNat ni))] [(.int (acc * (10 : Int32)))]))
        refine own_st (fun _ k' => XS.aloadN X.here hx rfl (hb hby d10_24) rfl rfl k') ?_
        show own_Go p.tables e below _ (T.setTop (mkF m 25 #[.val (.ref x), .val (.int (Int32.ofNat nf)), .val (.int (Int32.ofNat ne)), .val (.int acc), .val (.int (Int32.ofNat ni))] [(.ref x), (.int (acc * (10 : Int32)))]))
        refine own_st (fun _ k' => XS.iload X.here hx rfl (hb hby d10_25) rfl k') ?_
        show own_Go p.tables e below _ (T.setTop (mkF m 27 #[.val (.ref x), .val (.int (Int32.ofNat nf)), .val (.int (Int32.ofNat ne)), .val (.int acc), .val (.int (Int32.ofNat ni))] [(.int (Int32.ofNat ni)), (.ref x), (.int (acc * (10 : Int32)))]))
        obtain ⟨cq2, kq2, q2a, q2b, q2c⟩ := isOf hZ eT E_x
        obtain ⟨_, _, ⟨T2, L2, k2, n2⟩, -, X2, ⟨Lc2, hQ2, l2, y2, z2⟩, st2⟩ := X.virtualBack hx (y := (⟨"java/lang/String", "charAt", "(I)C"⟩ : MethodName)) (z := (⟨"java/lang/String", "charAt", "(I)C"⟩ : MethodName)) hown (mvT hZ (hw _ (List.mem_of_getElem? (i := 51) rfl))) (mvT hZ (hw _ (List.mem_of_getElem? (i := 52) rfl))) (notFace_of_selects (args := #[]) (mvT hZ (hw _ (List.mem_of_getElem? (i := 54) rfl)))) (mvT hZ (hw _ (List.mem_of_getElem? (i := 54) rfl))) (mvT hZ (hw _ (List.mem_of_getElem? (i := 53) rfl))) (by decide) (StrChars.Road.chN (W := 1) hZ hch (kI := 4) (hw _ (List.mem_of_getElem? (i := 12) rfl)) E_x F_v F_c V_t hcd hbd (O2.ext O_.2) P5 (O4.ext O_.2) rG3 (by rw [hlen]; decide) (i := ni) (by rw [hlen]; omega) (j := (Int32.ofNat ni)) rfl (by decide) (by decide)) q2a q2c (g := (mkF m 27 #[.val (.ref x), .val (.int (Int32.ofNat nf)), .val (.int (Int32.ofNat ne)), .val (.int acc), .val (.int (Int32.ofNat ni))] [(.int (Int32.ofNat ni)), (.ref x), (.int (acc * (10 : Int32)))])) rfl (by rw [hml]; rfl) (Steps.refl _) (argsL := [(.int (Int32.ofNat ni))]) (rest := [(.int (acc * (10 : Int32)))]) (lenOf pd__I_C rfl) rfl (by show 2 * 0 + _ ≤ _; exact Nat.le_of_eq rfl) (hb hby d10_27) (fun _ _ => ⟨rfl, eT, (by decide : 0 + 0 ≤ _), (by decide : 0 + 0 ≤ _)⟩)
        dsimp only [Pt.U, Pt.locs, Pt.cells, Pt.slots] at X2 l2 y2 z2 st2 hQ2
        subst l2 y2 z2
        obtain ⟨rfl, rfl, e2⟩ := hQ2
        have N2 := Fr.app N (Fr.nil n0)
        refine own_tr st2 ?_
        show own_Go p.tables e below _ (T2.setTop (mkF m 30 #[.val (.ref x), .val (.int (Int32.ofNat nf)), .val (.int (Int32.ofNat ne)), .val (.int acc), .val (.int (Int32.ofNat ni))] [(.int (cs.getD ni 0)), (.int (acc * (10 : Int32)))]))
        refine own_st (fun _ k' => XS.bipush X2.here hx rfl (hb hby d10_30) k') ?_
        show own_Go p.tables e below _ (T2.setTop (mkF m 32 #[.val (.ref x), .val (.int (Int32.ofNat nf)), .val (.int (Int32.ofNat ne)), .val (.int acc), .val (.int (Int32.ofNat ni))] [(.int (48 : Int32)), (.int (cs.getD ni 0)), (.int (acc * (10 : Int32)))]))
        refine own_st (fun _ k' => XS.isub X2.here hx rfl (hb hby d10_32) rfl k') ?_
        show own_Go p.tables e below _ (T2.setTop (mkF m 33 #[.val (.ref x), .val (.int (Int32.ofNat nf)), .val (.int (Int32.ofNat ne)), .val (.int acc), .val (.int (Int32.ofNat ni))] [(.int ((cs.getD ni 0) - (48 : Int32))), (.int (acc * (10 : Int32)))]))
        refine own_st (fun _ k' => XS.goto X2.here hx rfl (pc0 := 33) (pc' := 37) rfl (hb hby d10_33) (by decide) (by decide) k') ?_
        show own_Go p.tables e below _ (T2.setTop (mkF m 37 #[.val (.ref x), .val (.int (Int32.ofNat nf)), .val (.int (Int32.ofNat ne)), .val (.int acc), .val (.int (Int32.ofNat ni))] [(.int ((cs.getD ni 0) - (48 : Int32))), (.int (acc * (10 : Int32)))]))
        refine own_st (fun _ k' => XS.iadd X2.here hx rfl (hb hby d10_37) rfl k') ?_
        show own_Go p.tables e below _ (T2.setTop (mkF m 38 #[.val (.ref x), .val (.int (Int32.ofNat nf)), .val (.int (Int32.ofNat ne)), .val (.int acc), .val (.int (Int32.ofNat ni))] [(.int ((acc * (10 : Int32)) + ((cs.getD ni 0) - (48 : Int32))))]))
        refine own_st (fun _ k' => XS.istoreN X2.here hx rfl (hb hby d10_38) rfl (l' := #[.val (.ref x), .val (.int (Int32.ofNat nf)), .val (.int (Int32.ofNat ne)), .val (.int ((acc * (10 : Int32)) + ((cs.getD ni 0) - (48 : Int32)))), .val (.int (Int32.ofNat ni))]) rfl k') ?_
        show own_Go p.tables e below _ (T2.setTop (mkF m 39 #[.val (.ref x), .val (.int (Int32.ofNat nf)), .val (.int (Int32.ofNat ne)), .val (.int ((acc * (10 : Int32)) + ((cs.getD ni 0) - (48 : Int32)))), .val (.int (Int32.ofNat ni))] []))
        refine own_st (fun _ k' => XS.iinc X2.here hx rfl (hb hby d10_39) rfl (l' := #[.val (.ref x), .val (.int (Int32.ofNat nf)), .val (.int (Int32.ofNat ne)), .val (.int ((acc * (10 : Int32)) + ((cs.getD ni 0) - (48 : Int32)))), .val (.int ((Int32.ofNat ni) + (1 : Int32)))]) rfl k') ?_
        show own_Go p.tables e below _ (T2.setTop (mkF m 42 #[.val (.ref x), .val (.int (Int32.ofNat nf)), .val (.int (Int32.ofNat ne)), .val (.int ((acc * (10 : Int32)) + ((cs.getD ni 0) - (48 : Int32)))), .val (.int ((Int32.ofNat ni) + (1 : Int32)))] []))
        refine own_st (fun _ k' => XS.goto X2.here hx rfl (pc0 := 42) (pc' := 5) rfl (hb hby d10_42) (by decide) (by decide) k') ?_
        show own_Go p.tables e below _ (T2.setTop (mkF m 5 #[.val (.ref x), .val (.int (Int32.ofNat nf)), .val (.int (Int32.ofNat ne)), .val (.int ((acc * (10 : Int32)) + ((cs.getD ni 0) - (48 : Int32)))), .val (.int ((Int32.ofNat ni) + (1 : Int32)))] []))
        rw [own_add1]
        exact ih (ni + 1) _ T2 _ (by omega) (by omega) X2 e2 N2 (by rw [← hr, own_nan, if_pos ((own_lt _ _ (by omega) (by omega)).mp hc1)])
      ·  -- pc 21, not (Int32.ofNat ni) < (Int32.ofNat ne)
        refine own_st (fun _ k' => XS.icmpYes X.here hx rfl (pc0 := 21) (pc' := 36) rfl (hb hby d10_21) rfl (flt hc1).2.1 (by decide) (by decide) k') ?_
        show own_Go p.tables e below _ (T.setTop (mkF m 36 #[.val (.ref x), .val (.int (Int32.ofNat nf)), .val (.int (Int32.ofNat ne)), .val (.int acc), .val (.int (Int32.ofNat ni))] [(.int (acc * (10 : Int32)))]))
        refine own_st (fun _ k' => XS.iconst X.here hx rfl (hb hby d10_36) k') ?_
        show own_Go p.tables e below _ (T.setTop (mkF m 37 #[.val (.ref x), .val (.int (Int32.ofNat nf)), .val (.int (Int32.ofNat ne)), .val (.int acc), .val (.int (Int32.ofNat ni))] [(.int (0 : Int32)), (.int (acc * (10 : Int32)))]))
        refine own_st (fun _ k' => XS.iadd X.here hx rfl (hb hby d10_37) rfl k') ?_
        show own_Go p.tables e below _ (T.setTop (mkF m 38 #[.val (.ref x), .val (.int (Int32.ofNat nf)), .val (.int (Int32.ofNat ne)), .val (.int acc), .val (.int (Int32.ofNat ni))] [(.int ((acc * (10 : Int32)) + (0 : Int32)))]))
        refine own_st (fun _ k' => XS.istoreN X.here hx rfl (hb hby d10_38) rfl (l' := #[.val (.ref x), .val (.int (Int32.ofNat nf)), .val (.int (Int32.ofNat ne)), .val (.int ((acc * (10 : Int32)) + (0 : Int32))), .val (.int (Int32.ofNat ni))]) rfl k') ?_
        show own_Go p.tables e below _ (T.setTop (mkF m 39 #[.val (.ref x), .val (.int (Int32.ofNat nf)), .val (.int (Int32.ofNat ne)), .val (.int ((acc * (10 : Int32)) + (0 : Int32))), .val (.int (Int32.ofNat ni))] []))
        refine own_st (fun _ k' => XS.iinc X.here hx rfl (hb hby d10_39) rfl (l' := #[.val (.ref x), .val (.int (Int32.ofNat nf)), .val (.int (Int32.ofNat ne)), .val (.int ((acc * (10 : Int32)) + (0 : Int32))), .val (.int ((Int32.ofNat ni) + (1 : Int32)))]) rfl k') ?_
        show own_Go p.tables e below _ (T.setTop (mkF m 42 #[.val (.ref x), .val (.int (Int32.ofNat nf)), .val (.int (Int32.ofNat ne)), .val (.int ((acc * (10 : Int32)) + (0 : Int32))), .val (.int ((Int32.ofNat ni) + (1 : Int32)))] []))
        refine own_st (fun _ k' => XS.goto X.here hx rfl (pc0 := 42) (pc' := 5) rfl (hb hby d10_42) (by decide) (by decide) k') ?_
        show own_Go p.tables e below _ (T.setTop (mkF m 5 #[.val (.ref x), .val (.int (Int32.ofNat nf)), .val (.int (Int32.ofNat ne)), .val (.int ((acc * (10 : Int32)) + (0 : Int32))), .val (.int ((Int32.ofNat ni) + (1 : Int32)))] []))
        rw [own_add1]
        exact ih (ni + 1) _ T _ (by omega) (by omega) X eT N (by rw [← hr, own_nan, if_neg (fun q => hc1 ((own_lt _ _ (by omega) (by omega)).mpr q))])
  exact loop 9 nf _ _ _ rfl (Nat.le_refl _) X0 e0 N0 rfl

theorem pd__IIIJJ_C : parseMethodDescriptor "(IIIJJ)C" = some ⟨[.int, .int, .int, .long, .long], some .char⟩ := by decide +kernel
theorem pd___C_V : parseMethodDescriptor "([C)V" = some ⟨[(.array .char)], none⟩ := by decide +kernel
theorem pd__IIIJ_I : parseMethodDescriptor "(IIIJ)I" = some ⟨[.int, .int, .int, .long], some .int⟩ := by decide +kernel
theorem pd__Ljava_lang_String_II_I : parseMethodDescriptor "(Ljava/lang/String;II)I" = some ⟨[(.object "java/lang/String"), .int, .int], some .int⟩ := by decide +kernel
theorem ef_rm0 (m : MethodId) (x0 : Int64) (x1 : Int64) (x2 : Int32) (x3 : Int32) : entryFrame m #[(.long x0), (.long x1), (.int x2), (.int x3)] maxLocals = mkF m 0 #[.val (.long x0), .second, .val (.long x1), .second, .val (.int x2), .val (.int x3), .unset, .unset, .unset, .unset, .unset, .unset] [] := by first | (simp [entryFrame, mkF, argsToLocals, Value.category, maxLocals]; done) | rfl
def Q_rm0 (Z : State) (a b : Int64) (f mm : Int32) (G1 : Int32) (G3 : Value) (h0 : Heap) (n0 : Nat) (v : Option Value) (h : Heap) (L : List Loc) : Prop := v = some (.int 1) ∧ Fr n0 L
def K_rm0 (Z : State) (a b : Int64) (f mm : Int32) (G1 : Int32) (G3 : Value) (h0 : Heap) (n0 : Nat) (s : State) : Outcome → State → Prop := fun oo U' => ∃ v L, oo = .returned v ∧ Q_rm0 Z a b f mm G1 G3 h0 n0 v U'.heap L ∧ FrameEnd s oo U' L 3 32
set_option maxRecDepth 65536 in
set_option maxHeartbeats 40000000 in
theorem rm0 (l : Launch) (Z : State) (a0 : Array Value) (hw : ∀ d ∈ tables_1, d.before a0 Z = true) (ws : List Jvm.Cond) (a b : Int64) (f mm : Int32) (G1 : Int32) (G3 : Value) (h0 : Heap) (n0 : Nat) (Z0 : n0 ≤ h0.size) (O2 : Sta Z Z.heap "java/lang/String" "COMPACT_STRINGS" "Z" (.int G1)) (O4 : Sta Z Z.heap "jdk/internal/util/Preconditions" "SIOOBE_FORMATTER" "Ljava/util/function/BiFunction;" G3) (P5 : ¬ (G1 = (0 : Int32))) (rG3 : G3.isRef = true) (O_ : Old Z n0 h0) :
    MetFree l x (head1 (Jvm.Cond.code x code maxLocals ret :: ws) room_1) (fun as_ U => as_ = #[(.long a), (.long b), (.int f), (.int mm)] ∧ Z.Warmed39 U.vm ∧ U.heap = h0) (fun _ _ _ _ _ => True) (fun _ U oo U' => ∃ v L, oo = .returned v ∧ Q_rm0 Z a b f mm G1 G3 h0 n0 v U'.heap L ∧ FrameEnd U oo U' L 3 32) := by
  refine MetFree.of_bodySF (plainFor_of_name pn_com_example_frozen_thread_frozenthread_text_DigitsNanosPinLaw) hisR ?_
  intro p e s m args below meth c s₁ Bd hml0 hP hK
  obtain ⟨rfl, hZ, hh⟩ := hP
  have hx := Bd.exec
  have hby := Bd.bytes
  have hml : c.maxLocals = 12 := hml0
  have hown : s.vm.findClass "com/example/frozen_thread/frozenthread/text/DigitsNanosPinLaw" = some m.cls := findClass_of_methodNamed Bd.named
  have hnm := (name_of_methodNamed Bd.named Bd.method).1
  have X0 : Stand p l e room_1 s m #[(.long a), (.long b), (.int f), (.int mm)] below meth c s₁ [] 0 0 := Stand.of_body Bd
  have e0 : s₁.heap = h0 := by rw [← hh, Bd.state]; rfl
  have N0 := Fr.nil n0
  refine own_st (K := (K_rm0 Z a b f mm G1 G3 h0 n0 s)) (fun t' k' => castTop (ef_rm0 m a b f mm) k') ?_
  show own_Go p.tables e below _ (s₁.setTop (mkF m 0 #[.val (.long a), .second, .val (.long b), .second, .val (.int f), .val (.int mm), .unset, .unset, .unset, .unset, .unset, .unset] []))
  refine own_st (fun _ k' => XS.iload X0.here hx rfl (hb hby at_0) rfl k') ?_
  show own_Go p.tables e below _ (s₁.setTop (mkF m 2 #[.val (.long a), .second, .val (.long b), .second, .val (.int f), .val (.int mm), .unset, .unset, .unset, .unset, .unset, .unset] [(.int f)]))
  refine own_st (fun _ k' => XS.iconst X0.here hx rfl (hb hby at_2) k') ?_
  show own_Go p.tables e below _ (s₁.setTop (mkF m 3 #[.val (.long a), .second, .val (.long b), .second, .val (.int f), .val (.int mm), .unset, .unset, .unset, .unset, .unset, .unset] [(.int (3 : Int32)), (.int f)]))
  refine own_st (fun _ k' => XS.iand X0.here hx rfl (hb hby at_3) rfl k') ?_
  show own_Go p.tables e below _ (s₁.setTop (mkF m 4 #[.val (.long a), .second, .val (.long b), .second, .val (.int f), .val (.int mm), .unset, .unset, .unset, .unset, .unset, .unset] [(.int (f &&& (3 : Int32)))]))
  obtain ⟨nf, hf1, hf2⟩ := own_fr f
  rw [hf2]
  show own_Go p.tables e below _ (s₁.setTop (mkF m 4 #[.val (.long a), .second, .val (.long b), .second, .val (.int f), .val (.int mm), .unset, .unset, .unset, .unset, .unset, .unset] [(.int (Int32.ofNat nf))]))
  refine own_st (fun _ k' => XS.istore X0.here hx rfl (hb hby at_4) rfl (l' := #[.val (.long a), .second, .val (.long b), .second, .val (.int f), .val (.int mm), .val (.int (Int32.ofNat nf)), .unset, .unset, .unset, .unset, .unset]) rfl k') ?_
  show own_Go p.tables e below _ (s₁.setTop (mkF m 6 #[.val (.long a), .second, .val (.long b), .second, .val (.int f), .val (.int mm), .val (.int (Int32.ofNat nf)), .unset, .unset, .unset, .unset, .unset] []))
  refine own_st (fun _ k' => XS.iload X0.here hx rfl (hb hby at_6) rfl k') ?_
  show own_Go p.tables e below _ (s₁.setTop (mkF m 8 #[.val (.long a), .second, .val (.long b), .second, .val (.int f), .val (.int mm), .val (.int (Int32.ofNat nf)), .unset, .unset, .unset, .unset, .unset] [(.int mm)]))
  refine own_st (fun t' k' => X0.ldcInt hx hown (mvT hZ (hw _ (List.mem_of_getElem? (i := 0) rfl))) (g := (mkF m 8 #[.val (.long a), .second, .val (.long b), .second, .val (.int f), .val (.int mm), .val (.int (Int32.ofNat nf)), .unset, .unset, .unset, .unset, .unset] [(.int mm)])) rfl (hb hby at_8) t' k') ?_
  show own_Go p.tables e below _ (s₁.setTop (mkF m 10 #[.val (.long a), .second, .val (.long b), .second, .val (.int f), .val (.int mm), .val (.int (Int32.ofNat nf)), .unset, .unset, .unset, .unset, .unset] [(.int (2147483647 : Int32)), (.int mm)]))
  refine own_st (fun _ k' => XS.iand X0.here hx rfl (hb hby at_10) rfl k') ?_
  show own_Go p.tables e below _ (s₁.setTop (mkF m 11 #[.val (.long a), .second, .val (.long b), .second, .val (.int f), .val (.int mm), .val (.int (Int32.ofNat nf)), .unset, .unset, .unset, .unset, .unset] [(.int (mm &&& (2147483647 : Int32)))]))
  refine own_st (fun _ k' => XS.bipush X0.here hx rfl (hb hby at_11) k') ?_
  show own_Go p.tables e below _ (s₁.setTop (mkF m 13 #[.val (.long a), .second, .val (.long b), .second, .val (.int f), .val (.int mm), .val (.int (Int32.ofNat nf)), .unset, .unset, .unset, .unset, .unset] [(.int (11 : Int32)), (.int (mm &&& (2147483647 : Int32)))]))
  refine own_st (fun _ k' => iremM X0 hx rfl (hb hby at_13) rfl (by decide) k') ?_
  show own_Go p.tables e below _ (s₁.setTop (mkF m 14 #[.val (.long a), .second, .val (.long b), .second, .val (.int f), .val (.int mm), .val (.int (Int32.ofNat nf)), .unset, .unset, .unset, .unset, .unset] [(.int ((mm &&& (2147483647 : Int32)) % (11 : Int32)))]))
  obtain ⟨nn, hn1, hn2⟩ := own_nn mm
  rw [hn2]
  show own_Go p.tables e below _ (s₁.setTop (mkF m 14 #[.val (.long a), .second, .val (.long b), .second, .val (.int f), .val (.int mm), .val (.int (Int32.ofNat nf)), .unset, .unset, .unset, .unset, .unset] [(.int (Int32.ofNat nn))]))
  refine own_st (fun _ k' => XS.istore X0.here hx rfl (hb hby at_14) rfl (l' := #[.val (.long a), .second, .val (.long b), .second, .val (.int f), .val (.int mm), .val (.int (Int32.ofNat nf)), .val (.int (Int32.ofNat nn)), .unset, .unset, .unset, .unset]) rfl k') ?_
  show own_Go p.tables e below _ (s₁.setTop (mkF m 16 #[.val (.long a), .second, .val (.long b), .second, .val (.int f), .val (.int mm), .val (.int (Int32.ofNat nf)), .val (.int (Int32.ofNat nn)), .unset, .unset, .unset, .unset] []))
  refine own_st (fun _ k' => XS.iload X0.here hx rfl (hb hby at_16) rfl k') ?_
  show own_Go p.tables e below _ (s₁.setTop (mkF m 18 #[.val (.long a), .second, .val (.long b), .second, .val (.int f), .val (.int mm), .val (.int (Int32.ofNat nf)), .val (.int (Int32.ofNat nn)), .unset, .unset, .unset, .unset] [(.int (Int32.ofNat nf))]))
  refine own_st (fun _ k' => XS.iload X0.here hx rfl (hb hby at_18) rfl k') ?_
  show own_Go p.tables e below _ (s₁.setTop (mkF m 20 #[.val (.long a), .second, .val (.long b), .second, .val (.int f), .val (.int mm), .val (.int (Int32.ofNat nf)), .val (.int (Int32.ofNat nn)), .unset, .unset, .unset, .unset] [(.int (Int32.ofNat nn)), (.int (Int32.ofNat nf))]))
  refine own_st (fun _ k' => XS.iadd X0.here hx rfl (hb hby at_20) rfl k') ?_
  show own_Go p.tables e below _ (s₁.setTop (mkF m 21 #[.val (.long a), .second, .val (.long b), .second, .val (.int f), .val (.int mm), .val (.int (Int32.ofNat nf)), .val (.int (Int32.ofNat nn)), .unset, .unset, .unset, .unset] [(.int ((Int32.ofNat nf) + (Int32.ofNat nn)))]))
  rw [own_add nf nn]
  show own_Go p.tables e below _ (s₁.setTop (mkF m 21 #[.val (.long a), .second, .val (.long b), .second, .val (.int f), .val (.int mm), .val (.int (Int32.ofNat nf)), .val (.int (Int32.ofNat nn)), .unset, .unset, .unset, .unset] [(.int (Int32.ofNat (nf + nn)))]))
  refine own_st (fun _ k' => XS.istore X0.here hx rfl (hb hby at_21) rfl (l' := #[.val (.long a), .second, .val (.long b), .second, .val (.int f), .val (.int mm), .val (.int (Int32.ofNat nf)), .val (.int (Int32.ofNat nn)), .val (.int (Int32.ofNat (nf + nn))), .unset, .unset, .unset]) rfl k') ?_
  show own_Go p.tables e below _ (s₁.setTop (mkF m 23 #[.val (.long a), .second, .val (.long b), .second, .val (.int f), .val (.int mm), .val (.int (Int32.ofNat nf)), .val (.int (Int32.ofNat nn)), .val (.int (Int32.ofNat (nf + nn))), .unset, .unset, .unset] []))
  refine own_st (fun _ k' => XS.bipush X0.here hx rfl (hb hby at_23) k') ?_
  show own_Go p.tables e below _ (s₁.setTop (mkF m 25 #[.val (.long a), .second, .val (.long b), .second, .val (.int f), .val (.int mm), .val (.int (Int32.ofNat nf)), .val (.int (Int32.ofNat nn)), .val (.int (Int32.ofNat (nf + nn))), .unset, .unset, .unset] [(.int (14 : Int32))]))
  obtain ⟨T1, h1, k1, X1, e1, E1, A1, st1⟩ := newP X0 hx hZ (hw _ (List.mem_of_getElem? (i := 1) rfl)) e0 (g := (mkF m 25 #[.val (.long a), .second, .val (.long b), .second, .val (.int f), .val (.int mm), .val (.int (Int32.ofNat nf)), .val (.int (Int32.ofNat nn)), .val (.int (Int32.ofNat (nf + nn))), .unset, .unset, .unset] [(.int (14 : Int32))])) rfl (hb hby at_25) rfl (by decide) (cap := 14) (by decide) (by decide) (by decide) (by decide)
  obtain ⟨ca, g1⟩ : ∃ z, z = h0.size := ⟨_, rfl⟩
  rw [← g1] at A1 st1
  have g_ca : n0 ≤ ca := Nat.le_trans Z0 (Nat.le_of_eq g1.symm)
  have O__x2 := O_.ext E1
  have ZE1 : n0 ≤ h1.size := Nat.le_trans Z0 E1.1
  have V_ca : Arv Z h1 ca k1 .char (14 : Int32) [(.int (0 : Int32)), (.int (0 : Int32)), (.int (0 : Int32)), (.int (0 : Int32)), (.int (0 : Int32)), (.int (0 : Int32)), (.int (0 : Int32)), (.int (0 : Int32)), (.int (0 : Int32)), (.int (0 : Int32)), (.int (0 : Int32)), (.int (0 : Int32)), (.int (0 : Int32)), (.int (0 : Int32))] (.int (0 : Int32)) := (Arv.new A1 (by decide)).pad (pad_rep [] (.int (0 : Int32)) 14)
  refine own_st st1 ?_
  show own_Go p.tables e below _ (T1.setTop (mkF m 27 #[.val (.long a), .second, .val (.long b), .second, .val (.int f), .val (.int mm), .val (.int (Int32.ofNat nf)), .val (.int (Int32.ofNat nn)), .val (.int (Int32.ofNat (nf + nn))), .unset, .unset, .unset] [(.ref ca)]))
  refine own_st (fun _ k' => XS.dup X1.here hx rfl (hb hby at_27) rfl rfl k') ?_
  show own_Go p.tables e below _ (T1.setTop (mkF m 28 #[.val (.long a), .second, .val (.long b), .second, .val (.int f), .val (.int mm), .val (.int (Int32.ofNat nf)), .val (.int (Int32.ofNat nn)), .val (.int (Int32.ofNat (nf + nn))), .unset, .unset, .unset] [(.ref ca), (.ref ca)]))
  refine own_st (fun _ k' => XS.iconst X1.here hx rfl (hb hby at_28) k') ?_
  show own_Go p.tables e below _ (T1.setTop (mkF m 29 #[.val (.long a), .second, .val (.long b), .second, .val (.int f), .val (.int mm), .val (.int (Int32.ofNat nf)), .val (.int (Int32.ofNat nn)), .val (.int (Int32.ofNat (nf + nn))), .unset, .unset, .unset] [(.int (0 : Int32)), (.ref ca), (.ref ca)]))
  refine own_st (fun _ k' => XS.iconst X1.here hx rfl (hb hby at_29) k') ?_
  show own_Go p.tables e below _ (T1.setTop (mkF m 30 #[.val (.long a), .second, .val (.long b), .second, .val (.int f), .val (.int mm), .val (.int (Int32.ofNat nf)), .val (.int (Int32.ofNat nn)), .val (.int (Int32.ofNat (nf + nn))), .unset, .unset, .unset] [(.int (0 : Int32)), (.int (0 : Int32)), (.ref ca), (.ref ca)]))
  refine own_st (fun _ k' => XS.iload X1.here hx rfl (hb hby at_30) rfl k') ?_
  show own_Go p.tables e below _ (T1.setTop (mkF m 32 #[.val (.long a), .second, .val (.long b), .second, .val (.int f), .val (.int mm), .val (.int (Int32.ofNat nf)), .val (.int (Int32.ofNat nn)), .val (.int (Int32.ofNat (nf + nn))), .unset, .unset, .unset] [(.int (Int32.ofNat nf)), (.int (0 : Int32)), (.int (0 : Int32)), (.ref ca), (.ref ca)]))
  refine own_st (fun _ k' => XS.iload X1.here hx rfl (hb hby at_32) rfl k') ?_
  show own_Go p.tables e below _ (T1.setTop (mkF m 34 #[.val (.long a), .second, .val (.long b), .second, .val (.int f), .val (.int mm), .val (.int (Int32.ofNat nf)), .val (.int (Int32.ofNat nn)), .val (.int (Int32.ofNat (nf + nn))), .unset, .unset, .unset] [(.int (Int32.ofNat (nf + nn))), (.int (Int32.ofNat nf)), (.int (0 : Int32)), (.int (0 : Int32)), (.ref ca), (.ref ca)]))
  refine own_st (fun _ k' => XS.lloadN X1.here hx rfl (hb hby at_34) rfl k') ?_
  show own_Go p.tables e below _ (T1.setTop (mkF m 35 #[.val (.long a), .second, .val (.long b), .second, .val (.int f), .val (.int mm), .val (.int (Int32.ofNat nf)), .val (.int (Int32.ofNat nn)), .val (.int (Int32.ofNat (nf + nn))), .unset, .unset, .unset] [(.long a), (.int (Int32.ofNat (nf + nn))), (.int (Int32.ofNat nf)), (.int (0 : Int32)), (.int (0 : Int32)), (.ref ca), (.ref ca)]))
  refine own_st (fun _ k' => XS.lloadN X1.here hx rfl (hb hby at_35) rfl k') ?_
  show own_Go p.tables e below _ (T1.setTop (mkF m 36 #[.val (.long a), .second, .val (.long b), .second, .val (.int f), .val (.int mm), .val (.int (Int32.ofNat nf)), .val (.int (Int32.ofNat nn)), .val (.int (Int32.ofNat (nf + nn))), .unset, .unset, .unset] [(.long b), (.long a), (.int (Int32.ofNat (nf + nn))), (.int (Int32.ofNat nf)), (.int (0 : Int32)), (.int (0 : Int32)), (.ref ca), (.ref ca)]))
  obtain ⟨_, _, ⟨T3, L3, k3, n3⟩, -, X3, ⟨Lc3, hQ3, l3, y3, z3⟩, st3⟩ := Jvm.LawKit.callS X1 hx (y := (⟨"com/example/frozen_thread/frozenthread/text/DigitsNanosPinLaw", "ch", "(IIIJJ)C"⟩ : MethodName)) hown (mvT hZ (hw _ (List.mem_of_getElem? (i := 2) rfl))) (mvT hZ (hw _ (List.mem_of_getElem? (i := 3) rfl))) (mvT hZ (hw _ (List.mem_of_getElem? (i := 4) rfl))) (mvT hZ (hw _ (List.mem_of_getElem? (i := 5) rfl))) (by decide) (backOf (W := 3) (rmCh l Z a0 hw [] (0 : Int32) (Int32.ofNat nf) (Int32.ofNat (nf + nn)) a b h1 n0 ZE1 ) hZ (hw _ (List.mem_of_getElem? (i := 5) rfl)) (hw _ (List.mem_of_getElem? (i := 4) rfl)) (by decide) (by decide)) (g := (mkF m 36 #[.val (.long a), .second, .val (.long b), .second, .val (.int f), .val (.int mm), .val (.int (Int32.ofNat nf)), .val (.int (Int32.ofNat nn)), .val (.int (Int32.ofNat (nf + nn))), .unset, .unset, .unset] [(.long b), (.long a), (.int (Int32.ofNat (nf + nn))), (.int (Int32.ofNat nf)), (.int (0 : Int32)), (.int (0 : Int32)), (.ref ca), (.ref ca)])) rfl (by rw [hml]; rfl) (argsL := [(.int (0 : Int32)), (.int (Int32.ofNat nf)), (.int (Int32.ofNat (nf + nn))), (.long a), (.long b)]) (rest := [(.int (0 : Int32)), (.ref ca), (.ref ca)]) (lenOf pd__IIIJJ_C rfl) rfl (by show 2 * 0 + _ ≤ _; exact Nat.le_of_eq rfl) (hb hby at_36) (fun _ _ => ⟨rfl, e1, (by decide : 1 + 0 ≤ _), (by decide : 14 + 0 ≤ _)⟩)
  dsimp only [Pt.U, Pt.locs, Pt.cells, Pt.slots] at X3 l3 y3 z3 st3 hQ3
  have y3 : k3 = 1 := y3
  have z3 : n3 = 14 := z3
  subst y3 z3
  obtain ⟨rfl, Nq3, e3⟩ := hQ3
  have N3 : Fr n0 L3 := by rw [l3]; exact Fr.app N0 Nq3
  refine own_st st3 ?_
  show own_Go p.tables e below _ (T3.setTop (mkF m 39 #[.val (.long a), .second, .val (.long b), .second, .val (.int f), .val (.int mm), .val (.int (Int32.ofNat nf)), .val (.int (Int32.ofNat nn)), .val (.int (Int32.ofNat (nf + nn))), .unset, .unset, .unset] [(.int (own_ch (0 : Int32) (Int32.ofNat nf) (Int32.ofNat (nf + nn)) a b)), (.int (0 : Int32)), (.ref ca), (.ref ca)]))
  obtain ⟨cl4, Ar4, qc4, Sz4, Nn4, Hs4, Gs4⟩ := id V_ca
  obtain ⟨T5, h5, X5, e5, W5, st5⟩ := stC X3 hx hZ e3 Ar4 (j := (0 : Int32)) (inb_of Sz4 ⟨by decide, by decide⟩) (g := (mkF m 39 #[.val (.long a), .second, .val (.long b), .second, .val (.int f), .val (.int mm), .val (.int (Int32.ofNat nf)), .val (.int (Int32.ofNat nn)), .val (.int (Int32.ofNat (nf + nn))), .unset, .unset, .unset] [(.int (own_ch (0 : Int32) (Int32.ofNat nf) (Int32.ofNat (nf + nn)) a b)), (.int (0 : Int32)), (.ref ca), (.ref ca)])) rfl rfl (hb hby at_39)
  have N5 := Fr.snoc X5 N3 g_ca
  have Vn5 := Arv.set Ar4 qc4 Sz4 Nn4 Hs4 Gs4 (fits_nar_char _) W5 0 rfl (Nat.le_of_ble_eq_true rfl)
  rw [own_nc] at Vn5
  have O__x6 := O__x2.wr W5 g_ca
  have Vm5 : Arv Z h5 ca k1 .char (14 : Int32) [(.int (own_ch (0 : Int32) (Int32.ofNat nf) (Int32.ofNat (nf + nn)) a b)), (.int (0 : Int32)), (.int (0 : Int32)), (.int (0 : Int32)), (.int (0 : Int32)), (.int (0 : Int32)), (.int (0 : Int32)), (.int (0 : Int32)), (.int (0 : Int32)), (.int (0 : Int32)), (.int (0 : Int32)), (.int (0 : Int32)), (.int (0 : Int32)), (.int (0 : Int32))] (.int (0 : Int32)) := Vn5
  have ZW5 : n0 ≤ h5.size := Nat.le_trans ZE1 (Keep.of_wr W5).1
  refine own_st st5 ?_
  show own_Go p.tables e below _ (T5.setTop (mkF m 40 #[.val (.long a), .second, .val (.long b), .second, .val (.int f), .val (.int mm), .val (.int (Int32.ofNat nf)), .val (.int (Int32.ofNat nn)), .val (.int (Int32.ofNat (nf + nn))), .unset, .unset, .unset] [(.ref ca)]))
  refine own_st (fun _ k' => XS.dup X5.here hx rfl (hb hby at_40) rfl rfl k') ?_
  show own_Go p.tables e below _ (T5.setTop (mkF m 41 #[.val (.long a), .second, .val (.long b), .second, .val (.int f), .val (.int mm), .val (.int (Int32.ofNat nf)), .val (.int (Int32.ofNat nn)), .val (.int (Int32.ofNat (nf + nn))), .unset, .unset, .unset] [(.ref ca), (.ref ca)]))
  refine own_st (fun _ k' => XS.iconst X5.here hx rfl (hb hby at_41) k') ?_
  show own_Go p.tables e below _ (T5.setTop (mkF m 42 #[.val (.long a), .second, .val (.long b), .second, .val (.int f), .val (.int mm), .val (.int (Int32.ofNat nf)), .val (.int (Int32.ofNat nn)), .val (.int (Int32.ofNat (nf + nn))), .unset, .unset, .unset] [(.int (1 : Int32)), (.ref ca), (.ref ca)]))
  refine own_st (fun _ k' => XS.iconst X5.here hx rfl (hb hby at_42) k') ?_
  show own_Go p.tables e below _ (T5.setTop (mkF m 43 #[.val (.long a), .second, .val (.long b), .second, .val (.int f), .val (.int mm), .val (.int (Int32.ofNat nf)), .val (.int (Int32.ofNat nn)), .val (.int (Int32.ofNat (nf + nn))), .unset, .unset, .unset] [(.int (1 : Int32)), (.int (1 : Int32)), (.ref ca), (.ref ca)]))
  refine own_st (fun _ k' => XS.iload X5.here hx rfl (hb hby at_43) rfl k') ?_
  show own_Go p.tables e below _ (T5.setTop (mkF m 45 #[.val (.long a), .second, .val (.long b), .second, .val (.int f), .val (.int mm), .val (.int (Int32.ofNat nf)), .val (.int (Int32.ofNat nn)), .val (.int (Int32.ofNat (nf + nn))), .unset, .unset, .unset] [(.int (Int32.ofNat nf)), (.int (1 : Int32)), (.int (1 : Int32)), (.ref ca), (.ref ca)]))
  refine own_st (fun _ k' => XS.iload X5.here hx rfl (hb hby at_45) rfl k') ?_
  show own_Go p.tables e below _ (T5.setTop (mkF m 47 #[.val (.long a), .second, .val (.long b), .second, .val (.int f), .val (.int mm), .val (.int (Int32.ofNat nf)), .val (.int (Int32.ofNat nn)), .val (.int (Int32.ofNat (nf + nn))), .unset, .unset, .unset] [(.int (Int32.ofNat (nf + nn))), (.int (Int32.ofNat nf)), (.int (1 : Int32)), (.int (1 : Int32)), (.ref ca), (.ref ca)]))
  refine own_st (fun _ k' => XS.lloadN X5.here hx rfl (hb hby at_47) rfl k') ?_
  show own_Go p.tables e below _ (T5.setTop (mkF m 48 #[.val (.long a), .second, .val (.long b), .second, .val (.int f), .val (.int mm), .val (.int (Int32.ofNat nf)), .val (.int (Int32.ofNat nn)), .val (.int (Int32.ofNat (nf + nn))), .unset, .unset, .unset] [(.long a), (.int (Int32.ofNat (nf + nn))), (.int (Int32.ofNat nf)), (.int (1 : Int32)), (.int (1 : Int32)), (.ref ca), (.ref ca)]))
  refine own_st (fun _ k' => XS.lloadN X5.here hx rfl (hb hby at_48) rfl k') ?_
  show own_Go p.tables e below _ (T5.setTop (mkF m 49 #[.val (.long a), .second, .val (.long b), .second, .val (.int f), .val (.int mm), .val (.int (Int32.ofNat nf)), .val (.int (Int32.ofNat nn)), .val (.int (Int32.ofNat (nf + nn))), .unset, .unset, .unset] [(.long b), (.long a), (.int (Int32.ofNat (nf + nn))), (.int (Int32.ofNat nf)), (.int (1 : Int32)), (.int (1 : Int32)), (.ref ca), (.ref ca)]))
  obtain ⟨_, _, ⟨T8, L8, k8, n8⟩, -, X8, ⟨Lc8, hQ8, l8, y8, z8⟩, st8⟩ := Jvm.LawKit.callS X5 hx (y := (⟨"com/example/frozen_thread/frozenthread/text/DigitsNanosPinLaw", "ch", "(IIIJJ)C"⟩ : MethodName)) hown (mvT hZ (hw _ (List.mem_of_getElem? (i := 2) rfl))) (mvT hZ (hw _ (List.mem_of_getElem? (i := 3) rfl))) (mvT hZ (hw _ (List.mem_of_getElem? (i := 4) rfl))) (mvT hZ (hw _ (List.mem_of_getElem? (i := 5) rfl))) (by decide) (backOf (W := 3) (rmCh l Z a0 hw [] (1 : Int32) (Int32.ofNat nf) (Int32.ofNat (nf + nn)) a b h5 n0 ZW5 ) hZ (hw _ (List.mem_of_getElem? (i := 5) rfl)) (hw _ (List.mem_of_getElem? (i := 4) rfl)) (by decide) (by decide)) (g := (mkF m 49 #[.val (.long a), .second, .val (.long b), .second, .val (.int f), .val (.int mm), .val (.int (Int32.ofNat nf)), .val (.int (Int32.ofNat nn)), .val (.int (Int32.ofNat (nf + nn))), .unset, .unset, .unset] [(.long b), (.long a), (.int (Int32.ofNat (nf + nn))), (.int (Int32.ofNat nf)), (.int (1 : Int32)), (.int (1 : Int32)), (.ref ca), (.ref ca)])) rfl (by rw [hml]; rfl) (argsL := [(.int (1 : Int32)), (.int (Int32.ofNat nf)), (.int (Int32.ofNat (nf + nn))), (.long a), (.long b)]) (rest := [(.int (1 : Int32)), (.ref ca), (.ref ca)]) (lenOf pd__IIIJJ_C rfl) rfl (by show 2 * 0 + _ ≤ _; exact Nat.le_of_eq rfl) (hb hby at_49) (fun _ _ => ⟨rfl, e5, (by decide : 1 + 0 ≤ _), (by decide : 14 + 0 ≤ _)⟩)
  dsimp only [Pt.U, Pt.locs, Pt.cells, Pt.slots] at X8 l8 y8 z8 st8 hQ8
  have y8 : k8 = 1 := y8
  have z8 : n8 = 14 := z8
  subst y8 z8
  obtain ⟨rfl, Nq8, e8⟩ := hQ8
  have N8 : Fr n0 L8 := by rw [l8]; exact Fr.app N5 Nq8
  refine own_st st8 ?_
  show own_Go p.tables e below _ (T8.setTop (mkF m 52 #[.val (.long a), .second, .val (.long b), .second, .val (.int f), .val (.int mm), .val (.int (Int32.ofNat nf)), .val (.int (Int32.ofNat nn)), .val (.int (Int32.ofNat (nf + nn))), .unset, .unset, .unset] [(.int (own_ch (1 : Int32) (Int32.ofNat nf) (Int32.ofNat (nf + nn)) a b)), (.int (1 : Int32)), (.ref ca), (.ref ca)]))
  obtain ⟨cl9, Ar9, qc9, Sz9, Nn9, Hs9, Gs9⟩ := id Vm5
  obtain ⟨T10, h10, X10, e10, W10, st10⟩ := stC X8 hx hZ e8 Ar9 (j := (1 : Int32)) (inb_of Sz9 ⟨by decide, by decide⟩) (g := (mkF m 52 #[.val (.long a), .second, .val (.long b), .second, .val (.int f), .val (.int mm), .val (.int (Int32.ofNat nf)), .val (.int (Int32.ofNat nn)), .val (.int (Int32.ofNat (nf + nn))), .unset, .unset, .unset] [(.int (own_ch (1 : Int32) (Int32.ofNat nf) (Int32.ofNat (nf + nn)) a b)), (.int (1 : Int32)), (.ref ca), (.ref ca)])) rfl rfl (hb hby at_52)
  have N10 := Fr.snoc X10 N8 g_ca
  have Vn10 := Arv.set Ar9 qc9 Sz9 Nn9 Hs9 Gs9 (fits_nar_char _) W10 1 rfl (Nat.le_of_ble_eq_true rfl)
  rw [own_nc] at Vn10
  have O__x11 := O__x6.wr W10 g_ca
  have Vm10 : Arv Z h10 ca k1 .char (14 : Int32) [(.int (own_ch (0 : Int32) (Int32.ofNat nf) (Int32.ofNat (nf + nn)) a b)), (.int (own_ch (1 : Int32) (Int32.ofNat nf) (Int32.ofNat (nf + nn)) a b)), (.int (0 : Int32)), (.int (0 : Int32)), (.int (0 : Int32)), (.int (0 : Int32)), (.int (0 : Int32)), (.int (0 : Int32)), (.int (0 : Int32)), (.int (0 : Int32)), (.int (0 : Int32)), (.int (0 : Int32)), (.int (0 : Int32)), (.int (0 : Int32))] (.int (0 : Int32)) := Vn10
  have ZW10 : n0 ≤ h10.size := Nat.le_trans ZW5 (Keep.of_wr W10).1
  refine own_st st10 ?_
  show own_Go p.tables e below _ (T10.setTop (mkF m 53 #[.val (.long a), .second, .val (.long b), .second, .val (.int f), .val (.int mm), .val (.int (Int32.ofNat nf)), .val (.int (Int32.ofNat nn)), .val (.int (Int32.ofNat (nf + nn))), .unset, .unset, .unset] [(.ref ca)]))
  refine own_st (fun _ k' => XS.dup X10.here hx rfl (hb hby at_53) rfl rfl k') ?_
  show own_Go p.tables e below _ (T10.setTop (mkF m 54 #[.val (.long a), .second, .val (.long b), .second, .val (.int f), .val (.int mm), .val (.int (Int32.ofNat nf)), .val (.int (Int32.ofNat nn)), .val (.int (Int32.ofNat (nf + nn))), .unset, .unset, .unset] [(.ref ca), (.ref ca)]))
  refine own_st (fun _ k' => XS.iconst X10.here hx rfl (hb hby at_54) k') ?_
  show own_Go p.tables e below _ (T10.setTop (mkF m 55 #[.val (.long a), .second, .val (.long b), .second, .val (.int f), .val (.int mm), .val (.int (Int32.ofNat nf)), .val (.int (Int32.ofNat nn)), .val (.int (Int32.ofNat (nf + nn))), .unset, .unset, .unset] [(.int (2 : Int32)), (.ref ca), (.ref ca)]))
  refine own_st (fun _ k' => XS.iconst X10.here hx rfl (hb hby at_55) k') ?_
  show own_Go p.tables e below _ (T10.setTop (mkF m 56 #[.val (.long a), .second, .val (.long b), .second, .val (.int f), .val (.int mm), .val (.int (Int32.ofNat nf)), .val (.int (Int32.ofNat nn)), .val (.int (Int32.ofNat (nf + nn))), .unset, .unset, .unset] [(.int (2 : Int32)), (.int (2 : Int32)), (.ref ca), (.ref ca)]))
  refine own_st (fun _ k' => XS.iload X10.here hx rfl (hb hby at_56) rfl k') ?_
  show own_Go p.tables e below _ (T10.setTop (mkF m 58 #[.val (.long a), .second, .val (.long b), .second, .val (.int f), .val (.int mm), .val (.int (Int32.ofNat nf)), .val (.int (Int32.ofNat nn)), .val (.int (Int32.ofNat (nf + nn))), .unset, .unset, .unset] [(.int (Int32.ofNat nf)), (.int (2 : Int32)), (.int (2 : Int32)), (.ref ca), (.ref ca)]))
  refine own_st (fun _ k' => XS.iload X10.here hx rfl (hb hby at_58) rfl k') ?_
  show own_Go p.tables e below _ (T10.setTop (mkF m 60 #[.val (.long a), .second, .val (.long b), .second, .val (.int f), .val (.int mm), .val (.int (Int32.ofNat nf)), .val (.int (Int32.ofNat nn)), .val (.int (Int32.ofNat (nf + nn))), .unset, .unset, .unset] [(.int (Int32.ofNat (nf + nn))), (.int (Int32.ofNat nf)), (.int (2 : Int32)), (.int (2 : Int32)), (.ref ca), (.ref ca)]))
  refine own_st (fun _ k' => XS.lloadN X10.here hx rfl (hb hby at_60) rfl k') ?_
  show own_Go p.tables e below _ (T10.setTop (mkF m 61 #[.val (.long a), .second, .val (.long b), .second, .val (.int f), .val (.int mm), .val (.int (Int32.ofNat nf)), .val (.int (Int32.ofNat nn)), .val (.int (Int32.ofNat (nf + nn))), .unset, .unset, .unset] [(.long a), (.int (Int32.ofNat (nf + nn))), (.int (Int32.ofNat nf)), (.int (2 : Int32)), (.int (2 : Int32)), (.ref ca), (.ref ca)]))
  refine own_st (fun _ k' => XS.lloadN X10.here hx rfl (hb hby at_61) rfl k') ?_
  show own_Go p.tables e below _ (T10.setTop (mkF m 62 #[.val (.long a), .second, .val (.long b), .second, .val (.int f), .val (.int mm), .val (.int (Int32.ofNat nf)), .val (.int (Int32.ofNat nn)), .val (.int (Int32.ofNat (nf + nn))), .unset, .unset, .unset] [(.long b), (.long a), (.int (Int32.ofNat (nf + nn))), (.int (Int32.ofNat nf)), (.int (2 : Int32)), (.int (2 : Int32)), (.ref ca), (.ref ca)]))
  obtain ⟨_, _, ⟨T13, L13, k13, n13⟩, -, X13, ⟨Lc13, hQ13, l13, y13, z13⟩, st13⟩ := Jvm.LawKit.callS X10 hx (y := (⟨"com/example/frozen_thread/frozenthread/text/DigitsNanosPinLaw", "ch", "(IIIJJ)C"⟩ : MethodName)) hown (mvT hZ (hw _ (List.mem_of_getElem? (i := 2) rfl))) (mvT hZ (hw _ (List.mem_of_getElem? (i := 3) rfl))) (mvT hZ (hw _ (List.mem_of_getElem? (i := 4) rfl))) (mvT hZ (hw _ (List.mem_of_getElem? (i := 5) rfl))) (by decide) (backOf (W := 3) (rmCh l Z a0 hw [] (2 : Int32) (Int32.ofNat nf) (Int32.ofNat (nf + nn)) a b h10 n0 ZW10 ) hZ (hw _ (List.mem_of_getElem? (i := 5) rfl)) (hw _ (List.mem_of_getElem? (i := 4) rfl)) (by decide) (by decide)) (g := (mkF m 62 #[.val (.long a), .second, .val (.long b), .second, .val (.int f), .val (.int mm), .val (.int (Int32.ofNat nf)), .val (.int (Int32.ofNat nn)), .val (.int (Int32.ofNat (nf + nn))), .unset, .unset, .unset] [(.long b), (.long a), (.int (Int32.ofNat (nf + nn))), (.int (Int32.ofNat nf)), (.int (2 : Int32)), (.int (2 : Int32)), (.ref ca), (.ref ca)])) rfl (by rw [hml]; rfl) (argsL := [(.int (2 : Int32)), (.int (Int32.ofNat nf)), (.int (Int32.ofNat (nf + nn))), (.long a), (.long b)]) (rest := [(.int (2 : Int32)), (.ref ca), (.ref ca)]) (lenOf pd__IIIJJ_C rfl) rfl (by show 2 * 0 + _ ≤ _; exact Nat.le_of_eq rfl) (hb hby at_62) (fun _ _ => ⟨rfl, e10, (by decide : 1 + 0 ≤ _), (by decide : 14 + 0 ≤ _)⟩)
  dsimp only [Pt.U, Pt.locs, Pt.cells, Pt.slots] at X13 l13 y13 z13 st13 hQ13
  have y13 : k13 = 1 := y13
  have z13 : n13 = 14 := z13
  subst y13 z13
  obtain ⟨rfl, Nq13, e13⟩ := hQ13
  have N13 : Fr n0 L13 := by rw [l13]; exact Fr.app N10 Nq13
  refine own_st st13 ?_
  show own_Go p.tables e below _ (T13.setTop (mkF m 65 #[.val (.long a), .second, .val (.long b), .second, .val (.int f), .val (.int mm), .val (.int (Int32.ofNat nf)), .val (.int (Int32.ofNat nn)), .val (.int (Int32.ofNat (nf + nn))), .unset, .unset, .unset] [(.int (own_ch (2 : Int32) (Int32.ofNat nf) (Int32.ofNat (nf + nn)) a b)), (.int (2 : Int32)), (.ref ca), (.ref ca)]))
  obtain ⟨cl14, Ar14, qc14, Sz14, Nn14, Hs14, Gs14⟩ := id Vm10
  obtain ⟨T15, h15, X15, e15, W15, st15⟩ := stC X13 hx hZ e13 Ar14 (j := (2 : Int32)) (inb_of Sz14 ⟨by decide, by decide⟩) (g := (mkF m 65 #[.val (.long a), .second, .val (.long b), .second, .val (.int f), .val (.int mm), .val (.int (Int32.ofNat nf)), .val (.int (Int32.ofNat nn)), .val (.int (Int32.ofNat (nf + nn))), .unset, .unset, .unset] [(.int (own_ch (2 : Int32) (Int32.ofNat nf) (Int32.ofNat (nf + nn)) a b)), (.int (2 : Int32)), (.ref ca), (.ref ca)])) rfl rfl (hb hby at_65)
  have N15 := Fr.snoc X15 N13 g_ca
  have Vn15 := Arv.set Ar14 qc14 Sz14 Nn14 Hs14 Gs14 (fits_nar_char _) W15 2 rfl (Nat.le_of_ble_eq_true rfl)
  rw [own_nc] at Vn15
  have O__x16 := O__x11.wr W15 g_ca
  have Vm15 : Arv Z h15 ca k1 .char (14 : Int32) [(.int (own_ch (0 : Int32) (Int32.ofNat nf) (Int32.ofNat (nf + nn)) a b)), (.int (own_ch (1 : Int32) (Int32.ofNat nf) (Int32.ofNat (nf + nn)) a b)), (.int (own_ch (2 : Int32) (Int32.ofNat nf) (Int32.ofNat (nf + nn)) a b)), (.int (0 : Int32)), (.int (0 : Int32)), (.int (0 : Int32)), (.int (0 : Int32)), (.int (0 : Int32)), (.int (0 : Int32)), (.int (0 : Int32)), (.int (0 : Int32)), (.int (0 : Int32)), (.int (0 : Int32)), (.int (0 : Int32))] (.int (0 : Int32)) := Vn15
  have ZW15 : n0 ≤ h15.size := Nat.le_trans ZW10 (Keep.of_wr W15).1
  refine own_st st15 ?_
  show own_Go p.tables e below _ (T15.setTop (mkF m 66 #[.val (.long a), .second, .val (.long b), .second, .val (.int f), .val (.int mm), .val (.int (Int32.ofNat nf)), .val (.int (Int32.ofNat nn)), .val (.int (Int32.ofNat (nf + nn))), .unset, .unset, .unset] [(.ref ca)]))
  refine own_st (fun _ k' => XS.dup X15.here hx rfl (hb hby at_66) rfl rfl k') ?_
  show own_Go p.tables e below _ (T15.setTop (mkF m 67 #[.val (.long a), .second, .val (.long b), .second, .val (.int f), .val (.int mm), .val (.int (Int32.ofNat nf)), .val (.int (Int32.ofNat nn)), .val (.int (Int32.ofNat (nf + nn))), .unset, .unset, .unset] [(.ref ca), (.ref ca)]))
  refine own_st (fun _ k' => XS.iconst X15.here hx rfl (hb hby at_67) k') ?_
  show own_Go p.tables e below _ (T15.setTop (mkF m 68 #[.val (.long a), .second, .val (.long b), .second, .val (.int f), .val (.int mm), .val (.int (Int32.ofNat nf)), .val (.int (Int32.ofNat nn)), .val (.int (Int32.ofNat (nf + nn))), .unset, .unset, .unset] [(.int (3 : Int32)), (.ref ca), (.ref ca)]))
  refine own_st (fun _ k' => XS.iconst X15.here hx rfl (hb hby at_68) k') ?_
  show own_Go p.tables e below _ (T15.setTop (mkF m 69 #[.val (.long a), .second, .val (.long b), .second, .val (.int f), .val (.int mm), .val (.int (Int32.ofNat nf)), .val (.int (Int32.ofNat nn)), .val (.int (Int32.ofNat (nf + nn))), .unset, .unset, .unset] [(.int (3 : Int32)), (.int (3 : Int32)), (.ref ca), (.ref ca)]))
  refine own_st (fun _ k' => XS.iload X15.here hx rfl (hb hby at_69) rfl k') ?_
  show own_Go p.tables e below _ (T15.setTop (mkF m 71 #[.val (.long a), .second, .val (.long b), .second, .val (.int f), .val (.int mm), .val (.int (Int32.ofNat nf)), .val (.int (Int32.ofNat nn)), .val (.int (Int32.ofNat (nf + nn))), .unset, .unset, .unset] [(.int (Int32.ofNat nf)), (.int (3 : Int32)), (.int (3 : Int32)), (.ref ca), (.ref ca)]))
  refine own_st (fun _ k' => XS.iload X15.here hx rfl (hb hby at_71) rfl k') ?_
  show own_Go p.tables e below _ (T15.setTop (mkF m 73 #[.val (.long a), .second, .val (.long b), .second, .val (.int f), .val (.int mm), .val (.int (Int32.ofNat nf)), .val (.int (Int32.ofNat nn)), .val (.int (Int32.ofNat (nf + nn))), .unset, .unset, .unset] [(.int (Int32.ofNat (nf + nn))), (.int (Int32.ofNat nf)), (.int (3 : Int32)), (.int (3 : Int32)), (.ref ca), (.ref ca)]))
  refine own_st (fun _ k' => XS.lloadN X15.here hx rfl (hb hby at_73) rfl k') ?_
  show own_Go p.tables e below _ (T15.setTop (mkF m 74 #[.val (.long a), .second, .val (.long b), .second, .val (.int f), .val (.int mm), .val (.int (Int32.ofNat nf)), .val (.int (Int32.ofNat nn)), .val (.int (Int32.ofNat (nf + nn))), .unset, .unset, .unset] [(.long a), (.int (Int32.ofNat (nf + nn))), (.int (Int32.ofNat nf)), (.int (3 : Int32)), (.int (3 : Int32)), (.ref ca), (.ref ca)]))
  refine own_st (fun _ k' => XS.lloadN X15.here hx rfl (hb hby at_74) rfl k') ?_
  show own_Go p.tables e below _ (T15.setTop (mkF m 75 #[.val (.long a), .second, .val (.long b), .second, .val (.int f), .val (.int mm), .val (.int (Int32.ofNat nf)), .val (.int (Int32.ofNat nn)), .val (.int (Int32.ofNat (nf + nn))), .unset, .unset, .unset] [(.long b), (.long a), (.int (Int32.ofNat (nf + nn))), (.int (Int32.ofNat nf)), (.int (3 : Int32)), (.int (3 : Int32)), (.ref ca), (.ref ca)]))
  obtain ⟨_, _, ⟨T18, L18, k18, n18⟩, -, X18, ⟨Lc18, hQ18, l18, y18, z18⟩, st18⟩ := Jvm.LawKit.callS X15 hx (y := (⟨"com/example/frozen_thread/frozenthread/text/DigitsNanosPinLaw", "ch", "(IIIJJ)C"⟩ : MethodName)) hown (mvT hZ (hw _ (List.mem_of_getElem? (i := 2) rfl))) (mvT hZ (hw _ (List.mem_of_getElem? (i := 3) rfl))) (mvT hZ (hw _ (List.mem_of_getElem? (i := 4) rfl))) (mvT hZ (hw _ (List.mem_of_getElem? (i := 5) rfl))) (by decide) (backOf (W := 3) (rmCh l Z a0 hw [] (3 : Int32) (Int32.ofNat nf) (Int32.ofNat (nf + nn)) a b h15 n0 ZW15 ) hZ (hw _ (List.mem_of_getElem? (i := 5) rfl)) (hw _ (List.mem_of_getElem? (i := 4) rfl)) (by decide) (by decide)) (g := (mkF m 75 #[.val (.long a), .second, .val (.long b), .second, .val (.int f), .val (.int mm), .val (.int (Int32.ofNat nf)), .val (.int (Int32.ofNat nn)), .val (.int (Int32.ofNat (nf + nn))), .unset, .unset, .unset] [(.long b), (.long a), (.int (Int32.ofNat (nf + nn))), (.int (Int32.ofNat nf)), (.int (3 : Int32)), (.int (3 : Int32)), (.ref ca), (.ref ca)])) rfl (by rw [hml]; rfl) (argsL := [(.int (3 : Int32)), (.int (Int32.ofNat nf)), (.int (Int32.ofNat (nf + nn))), (.long a), (.long b)]) (rest := [(.int (3 : Int32)), (.ref ca), (.ref ca)]) (lenOf pd__IIIJJ_C rfl) rfl (by show 2 * 0 + _ ≤ _; exact Nat.le_of_eq rfl) (hb hby at_75) (fun _ _ => ⟨rfl, e15, (by decide : 1 + 0 ≤ _), (by decide : 14 + 0 ≤ _)⟩)
  dsimp only [Pt.U, Pt.locs, Pt.cells, Pt.slots] at X18 l18 y18 z18 st18 hQ18
  have y18 : k18 = 1 := y18
  have z18 : n18 = 14 := z18
  subst y18 z18
  obtain ⟨rfl, Nq18, e18⟩ := hQ18
  have N18 : Fr n0 L18 := by rw [l18]; exact Fr.app N15 Nq18
  refine own_st st18 ?_
  show own_Go p.tables e below _ (T18.setTop (mkF m 78 #[.val (.long a), .second, .val (.long b), .second, .val (.int f), .val (.int mm), .val (.int (Int32.ofNat nf)), .val (.int (Int32.ofNat nn)), .val (.int (Int32.ofNat (nf + nn))), .unset, .unset, .unset] [(.int (own_ch (3 : Int32) (Int32.ofNat nf) (Int32.ofNat (nf + nn)) a b)), (.int (3 : Int32)), (.ref ca), (.ref ca)]))
  obtain ⟨cl19, Ar19, qc19, Sz19, Nn19, Hs19, Gs19⟩ := id Vm15
  obtain ⟨T20, h20, X20, e20, W20, st20⟩ := stC X18 hx hZ e18 Ar19 (j := (3 : Int32)) (inb_of Sz19 ⟨by decide, by decide⟩) (g := (mkF m 78 #[.val (.long a), .second, .val (.long b), .second, .val (.int f), .val (.int mm), .val (.int (Int32.ofNat nf)), .val (.int (Int32.ofNat nn)), .val (.int (Int32.ofNat (nf + nn))), .unset, .unset, .unset] [(.int (own_ch (3 : Int32) (Int32.ofNat nf) (Int32.ofNat (nf + nn)) a b)), (.int (3 : Int32)), (.ref ca), (.ref ca)])) rfl rfl (hb hby at_78)
  have N20 := Fr.snoc X20 N18 g_ca
  have Vn20 := Arv.set Ar19 qc19 Sz19 Nn19 Hs19 Gs19 (fits_nar_char _) W20 3 rfl (Nat.le_of_ble_eq_true rfl)
  rw [own_nc] at Vn20
  have O__x21 := O__x16.wr W20 g_ca
  have Vm20 : Arv Z h20 ca k1 .char (14 : Int32) [(.int (own_ch (0 : Int32) (Int32.ofNat nf) (Int32.ofNat (nf + nn)) a b)), (.int (own_ch (1 : Int32) (Int32.ofNat nf) (Int32.ofNat (nf + nn)) a b)), (.int (own_ch (2 : Int32) (Int32.ofNat nf) (Int32.ofNat (nf + nn)) a b)), (.int (own_ch (3 : Int32) (Int32.ofNat nf) (Int32.ofNat (nf + nn)) a b)), (.int (0 : Int32)), (.int (0 : Int32)), (.int (0 : Int32)), (.int (0 : Int32)), (.int (0 : Int32)), (.int (0 : Int32)), (.int (0 : Int32)), (.int (0 : Int32)), (.int (0 : Int32)), (.int (0 : Int32))] (.int (0 : Int32)) := Vn20
  have ZW20 : n0 ≤ h20.size := Nat.le_trans ZW15 (Keep.of_wr W20).1
  refine own_st st20 ?_
  show own_Go p.tables e below _ (T20.setTop (mkF m 79 #[.val (.long a), .second, .val (.long b), .second, .val (.int f), .val (.int mm), .val (.int (Int32.ofNat nf)), .val (.int (Int32.ofNat nn)), .val (.int (Int32.ofNat (nf + nn))), .unset, .unset, .unset] [(.ref ca)]))
  refine own_st (fun _ k' => XS.dup X20.here hx rfl (hb hby at_79) rfl rfl k') ?_
  show own_Go p.tables e below _ (T20.setTop (mkF m 80 #[.val (.long a), .second, .val (.long b), .second, .val (.int f), .val (.int mm), .val (.int (Int32.ofNat nf)), .val (.int (Int32.ofNat nn)), .val (.int (Int32.ofNat (nf + nn))), .unset, .unset, .unset] [(.ref ca), (.ref ca)]))
  refine own_st (fun _ k' => XS.iconst X20.here hx rfl (hb hby at_80) k') ?_
  show own_Go p.tables e below _ (T20.setTop (mkF m 81 #[.val (.long a), .second, .val (.long b), .second, .val (.int f), .val (.int mm), .val (.int (Int32.ofNat nf)), .val (.int (Int32.ofNat nn)), .val (.int (Int32.ofNat (nf + nn))), .unset, .unset, .unset] [(.int (4 : Int32)), (.ref ca), (.ref ca)]))
  refine own_st (fun _ k' => XS.iconst X20.here hx rfl (hb hby at_81) k') ?_
  show own_Go p.tables e below _ (T20.setTop (mkF m 82 #[.val (.long a), .second, .val (.long b), .second, .val (.int f), .val (.int mm), .val (.int (Int32.ofNat nf)), .val (.int (Int32.ofNat nn)), .val (.int (Int32.ofNat (nf + nn))), .unset, .unset, .unset] [(.int (4 : Int32)), (.int (4 : Int32)), (.ref ca), (.ref ca)]))
  refine own_st (fun _ k' => XS.iload X20.here hx rfl (hb hby at_82) rfl k') ?_
  show own_Go p.tables e below _ (T20.setTop (mkF m 84 #[.val (.long a), .second, .val (.long b), .second, .val (.int f), .val (.int mm), .val (.int (Int32.ofNat nf)), .val (.int (Int32.ofNat nn)), .val (.int (Int32.ofNat (nf + nn))), .unset, .unset, .unset] [(.int (Int32.ofNat nf)), (.int (4 : Int32)), (.int (4 : Int32)), (.ref ca), (.ref ca)]))
  refine own_st (fun _ k' => XS.iload X20.here hx rfl (hb hby at_84) rfl k') ?_
  show own_Go p.tables e below _ (T20.setTop (mkF m 86 #[.val (.long a), .second, .val (.long b), .second, .val (.int f), .val (.int mm), .val (.int (Int32.ofNat nf)), .val (.int (Int32.ofNat nn)), .val (.int (Int32.ofNat (nf + nn))), .unset, .unset, .unset] [(.int (Int32.ofNat (nf + nn))), (.int (Int32.ofNat nf)), (.int (4 : Int32)), (.int (4 : Int32)), (.ref ca), (.ref ca)]))
  refine own_st (fun _ k' => XS.lloadN X20.here hx rfl (hb hby at_86) rfl k') ?_
  show own_Go p.tables e below _ (T20.setTop (mkF m 87 #[.val (.long a), .second, .val (.long b), .second, .val (.int f), .val (.int mm), .val (.int (Int32.ofNat nf)), .val (.int (Int32.ofNat nn)), .val (.int (Int32.ofNat (nf + nn))), .unset, .unset, .unset] [(.long a), (.int (Int32.ofNat (nf + nn))), (.int (Int32.ofNat nf)), (.int (4 : Int32)), (.int (4 : Int32)), (.ref ca), (.ref ca)]))
  refine own_st (fun _ k' => XS.lloadN X20.here hx rfl (hb hby at_87) rfl k') ?_
  show own_Go p.tables e below _ (T20.setTop (mkF m 88 #[.val (.long a), .second, .val (.long b), .second, .val (.int f), .val (.int mm), .val (.int (Int32.ofNat nf)), .val (.int (Int32.ofNat nn)), .val (.int (Int32.ofNat (nf + nn))), .unset, .unset, .unset] [(.long b), (.long a), (.int (Int32.ofNat (nf + nn))), (.int (Int32.ofNat nf)), (.int (4 : Int32)), (.int (4 : Int32)), (.ref ca), (.ref ca)]))
  obtain ⟨_, _, ⟨T23, L23, k23, n23⟩, -, X23, ⟨Lc23, hQ23, l23, y23, z23⟩, st23⟩ := Jvm.LawKit.callS X20 hx (y := (⟨"com/example/frozen_thread/frozenthread/text/DigitsNanosPinLaw", "ch", "(IIIJJ)C"⟩ : MethodName)) hown (mvT hZ (hw _ (List.mem_of_getElem? (i := 2) rfl))) (mvT hZ (hw _ (List.mem_of_getElem? (i := 3) rfl))) (mvT hZ (hw _ (List.mem_of_getElem? (i := 4) rfl))) (mvT hZ (hw _ (List.mem_of_getElem? (i := 5) rfl))) (by decide) (backOf (W := 3) (rmCh l Z a0 hw [] (4 : Int32) (Int32.ofNat nf) (Int32.ofNat (nf + nn)) a b h20 n0 ZW20 ) hZ (hw _ (List.mem_of_getElem? (i := 5) rfl)) (hw _ (List.mem_of_getElem? (i := 4) rfl)) (by decide) (by decide)) (g := (mkF m 88 #[.val (.long a), .second, .val (.long b), .second, .val (.int f), .val (.int mm), .val (.int (Int32.ofNat nf)), .val (.int (Int32.ofNat nn)), .val (.int (Int32.ofNat (nf + nn))), .unset, .unset, .unset] [(.long b), (.long a), (.int (Int32.ofNat (nf + nn))), (.int (Int32.ofNat nf)), (.int (4 : Int32)), (.int (4 : Int32)), (.ref ca), (.ref ca)])) rfl (by rw [hml]; rfl) (argsL := [(.int (4 : Int32)), (.int (Int32.ofNat nf)), (.int (Int32.ofNat (nf + nn))), (.long a), (.long b)]) (rest := [(.int (4 : Int32)), (.ref ca), (.ref ca)]) (lenOf pd__IIIJJ_C rfl) rfl (by show 2 * 0 + _ ≤ _; exact Nat.le_of_eq rfl) (hb hby at_88) (fun _ _ => ⟨rfl, e20, (by decide : 1 + 0 ≤ _), (by decide : 14 + 0 ≤ _)⟩)
  dsimp only [Pt.U, Pt.locs, Pt.cells, Pt.slots] at X23 l23 y23 z23 st23 hQ23
  have y23 : k23 = 1 := y23
  have z23 : n23 = 14 := z23
  subst y23 z23
  obtain ⟨rfl, Nq23, e23⟩ := hQ23
  have N23 : Fr n0 L23 := by rw [l23]; exact Fr.app N20 Nq23
  refine own_st st23 ?_
  show own_Go p.tables e below _ (T23.setTop (mkF m 91 #[.val (.long a), .second, .val (.long b), .second, .val (.int f), .val (.int mm), .val (.int (Int32.ofNat nf)), .val (.int (Int32.ofNat nn)), .val (.int (Int32.ofNat (nf + nn))), .unset, .unset, .unset] [(.int (own_ch (4 : Int32) (Int32.ofNat nf) (Int32.ofNat (nf + nn)) a b)), (.int (4 : Int32)), (.ref ca), (.ref ca)]))
  obtain ⟨cl24, Ar24, qc24, Sz24, Nn24, Hs24, Gs24⟩ := id Vm20
  obtain ⟨T25, h25, X25, e25, W25, st25⟩ := stC X23 hx hZ e23 Ar24 (j := (4 : Int32)) (inb_of Sz24 ⟨by decide, by decide⟩) (g := (mkF m 91 #[.val (.long a), .second, .val (.long b), .second, .val (.int f), .val (.int mm), .val (.int (Int32.ofNat nf)), .val (.int (Int32.ofNat nn)), .val (.int (Int32.ofNat (nf + nn))), .unset, .unset, .unset] [(.int (own_ch (4 : Int32) (Int32.ofNat nf) (Int32.ofNat (nf + nn)) a b)), (.int (4 : Int32)), (.ref ca), (.ref ca)])) rfl rfl (hb hby at_91)
  have N25 := Fr.snoc X25 N23 g_ca
  have Vn25 := Arv.set Ar24 qc24 Sz24 Nn24 Hs24 Gs24 (fits_nar_char _) W25 4 rfl (Nat.le_of_ble_eq_true rfl)
  rw [own_nc] at Vn25
  have O__x26 := O__x21.wr W25 g_ca
  have Vm25 : Arv Z h25 ca k1 .char (14 : Int32) [(.int (own_ch (0 : Int32) (Int32.ofNat nf) (Int32.ofNat (nf + nn)) a b)), (.int (own_ch (1 : Int32) (Int32.ofNat nf) (Int32.ofNat (nf + nn)) a b)), (.int (own_ch (2 : Int32) (Int32.ofNat nf) (Int32.ofNat (nf + nn)) a b)), (.int (own_ch (3 : Int32) (Int32.ofNat nf) (Int32.ofNat (nf + nn)) a b)), (.int (own_ch (4 : Int32) (Int32.ofNat nf) (Int32.ofNat (nf + nn)) a b)), (.int (0 : Int32)), (.int (0 : Int32)), (.int (0 : Int32)), (.int (0 : Int32)), (.int (0 : Int32)), (.int (0 : Int32)), (.int (0 : Int32)), (.int (0 : Int32)), (.int (0 : Int32))] (.int (0 : Int32)) := Vn25
  have ZW25 : n0 ≤ h25.size := Nat.le_trans ZW20 (Keep.of_wr W25).1
  refine own_st st25 ?_
  show own_Go p.tables e below _ (T25.setTop (mkF m 92 #[.val (.long a), .second, .val (.long b), .second, .val (.int f), .val (.int mm), .val (.int (Int32.ofNat nf)), .val (.int (Int32.ofNat nn)), .val (.int (Int32.ofNat (nf + nn))), .unset, .unset, .unset] [(.ref ca)]))
  refine own_st (fun _ k' => XS.dup X25.here hx rfl (hb hby at_92) rfl rfl k') ?_
  show own_Go p.tables e below _ (T25.setTop (mkF m 93 #[.val (.long a), .second, .val (.long b), .second, .val (.int f), .val (.int mm), .val (.int (Int32.ofNat nf)), .val (.int (Int32.ofNat nn)), .val (.int (Int32.ofNat (nf + nn))), .unset, .unset, .unset] [(.ref ca), (.ref ca)]))
  refine own_st (fun _ k' => XS.iconst X25.here hx rfl (hb hby at_93) k') ?_
  show own_Go p.tables e below _ (T25.setTop (mkF m 94 #[.val (.long a), .second, .val (.long b), .second, .val (.int f), .val (.int mm), .val (.int (Int32.ofNat nf)), .val (.int (Int32.ofNat nn)), .val (.int (Int32.ofNat (nf + nn))), .unset, .unset, .unset] [(.int (5 : Int32)), (.ref ca), (.ref ca)]))
  refine own_st (fun _ k' => XS.iconst X25.here hx rfl (hb hby at_94) k') ?_
  show own_Go p.tables e below _ (T25.setTop (mkF m 95 #[.val (.long a), .second, .val (.long b), .second, .val (.int f), .val (.int mm), .val (.int (Int32.ofNat nf)), .val (.int (Int32.ofNat nn)), .val (.int (Int32.ofNat (nf + nn))), .unset, .unset, .unset] [(.int (5 : Int32)), (.int (5 : Int32)), (.ref ca), (.ref ca)]))
  refine own_st (fun _ k' => XS.iload X25.here hx rfl (hb hby at_95) rfl k') ?_
  show own_Go p.tables e below _ (T25.setTop (mkF m 97 #[.val (.long a), .second, .val (.long b), .second, .val (.int f), .val (.int mm), .val (.int (Int32.ofNat nf)), .val (.int (Int32.ofNat nn)), .val (.int (Int32.ofNat (nf + nn))), .unset, .unset, .unset] [(.int (Int32.ofNat nf)), (.int (5 : Int32)), (.int (5 : Int32)), (.ref ca), (.ref ca)]))
  refine own_st (fun _ k' => XS.iload X25.here hx rfl (hb hby at_97) rfl k') ?_
  show own_Go p.tables e below _ (T25.setTop (mkF m 99 #[.val (.long a), .second, .val (.long b), .second, .val (.int f), .val (.int mm), .val (.int (Int32.ofNat nf)), .val (.int (Int32.ofNat nn)), .val (.int (Int32.ofNat (nf + nn))), .unset, .unset, .unset] [(.int (Int32.ofNat (nf + nn))), (.int (Int32.ofNat nf)), (.int (5 : Int32)), (.int (5 : Int32)), (.ref ca), (.ref ca)]))
  refine own_st (fun _ k' => XS.lloadN X25.here hx rfl (hb hby at_99) rfl k') ?_
  show own_Go p.tables e below _ (T25.setTop (mkF m 100 #[.val (.long a), .second, .val (.long b), .second, .val (.int f), .val (.int mm), .val (.int (Int32.ofNat nf)), .val (.int (Int32.ofNat nn)), .val (.int (Int32.ofNat (nf + nn))), .unset, .unset, .unset] [(.long a), (.int (Int32.ofNat (nf + nn))), (.int (Int32.ofNat nf)), (.int (5 : Int32)), (.int (5 : Int32)), (.ref ca), (.ref ca)]))
  refine own_st (fun _ k' => XS.lloadN X25.here hx rfl (hb hby at_100) rfl k') ?_
  show own_Go p.tables e below _ (T25.setTop (mkF m 101 #[.val (.long a), .second, .val (.long b), .second, .val (.int f), .val (.int mm), .val (.int (Int32.ofNat nf)), .val (.int (Int32.ofNat nn)), .val (.int (Int32.ofNat (nf + nn))), .unset, .unset, .unset] [(.long b), (.long a), (.int (Int32.ofNat (nf + nn))), (.int (Int32.ofNat nf)), (.int (5 : Int32)), (.int (5 : Int32)), (.ref ca), (.ref ca)]))
  obtain ⟨_, _, ⟨T28, L28, k28, n28⟩, -, X28, ⟨Lc28, hQ28, l28, y28, z28⟩, st28⟩ := Jvm.LawKit.callS X25 hx (y := (⟨"com/example/frozen_thread/frozenthread/text/DigitsNanosPinLaw", "ch", "(IIIJJ)C"⟩ : MethodName)) hown (mvT hZ (hw _ (List.mem_of_getElem? (i := 2) rfl))) (mvT hZ (hw _ (List.mem_of_getElem? (i := 3) rfl))) (mvT hZ (hw _ (List.mem_of_getElem? (i := 4) rfl))) (mvT hZ (hw _ (List.mem_of_getElem? (i := 5) rfl))) (by decide) (backOf (W := 3) (rmCh l Z a0 hw [] (5 : Int32) (Int32.ofNat nf) (Int32.ofNat (nf + nn)) a b h25 n0 ZW25 ) hZ (hw _ (List.mem_of_getElem? (i := 5) rfl)) (hw _ (List.mem_of_getElem? (i := 4) rfl)) (by decide) (by decide)) (g := (mkF m 101 #[.val (.long a), .second, .val (.long b), .second, .val (.int f), .val (.int mm), .val (.int (Int32.ofNat nf)), .val (.int (Int32.ofNat nn)), .val (.int (Int32.ofNat (nf + nn))), .unset, .unset, .unset] [(.long b), (.long a), (.int (Int32.ofNat (nf + nn))), (.int (Int32.ofNat nf)), (.int (5 : Int32)), (.int (5 : Int32)), (.ref ca), (.ref ca)])) rfl (by rw [hml]; rfl) (argsL := [(.int (5 : Int32)), (.int (Int32.ofNat nf)), (.int (Int32.ofNat (nf + nn))), (.long a), (.long b)]) (rest := [(.int (5 : Int32)), (.ref ca), (.ref ca)]) (lenOf pd__IIIJJ_C rfl) rfl (by show 2 * 0 + _ ≤ _; exact Nat.le_of_eq rfl) (hb hby at_101) (fun _ _ => ⟨rfl, e25, (by decide : 1 + 0 ≤ _), (by decide : 14 + 0 ≤ _)⟩)
  dsimp only [Pt.U, Pt.locs, Pt.cells, Pt.slots] at X28 l28 y28 z28 st28 hQ28
  have y28 : k28 = 1 := y28
  have z28 : n28 = 14 := z28
  subst y28 z28
  obtain ⟨rfl, Nq28, e28⟩ := hQ28
  have N28 : Fr n0 L28 := by rw [l28]; exact Fr.app N25 Nq28
  refine own_st st28 ?_
  show own_Go p.tables e below _ (T28.setTop (mkF m 104 #[.val (.long a), .second, .val (.long b), .second, .val (.int f), .val (.int mm), .val (.int (Int32.ofNat nf)), .val (.int (Int32.ofNat nn)), .val (.int (Int32.ofNat (nf + nn))), .unset, .unset, .unset] [(.int (own_ch (5 : Int32) (Int32.ofNat nf) (Int32.ofNat (nf + nn)) a b)), (.int (5 : Int32)), (.ref ca), (.ref ca)]))
  obtain ⟨cl29, Ar29, qc29, Sz29, Nn29, Hs29, Gs29⟩ := id Vm25
  obtain ⟨T30, h30, X30, e30, W30, st30⟩ := stC X28 hx hZ e28 Ar29 (j := (5 : Int32)) (inb_of Sz29 ⟨by decide, by decide⟩) (g := (mkF m 104 #[.val (.long a), .second, .val (.long b), .second, .val (.int f), .val (.int mm), .val (.int (Int32.ofNat nf)), .val (.int (Int32.ofNat nn)), .val (.int (Int32.ofNat (nf + nn))), .unset, .unset, .unset] [(.int (own_ch (5 : Int32) (Int32.ofNat nf) (Int32.ofNat (nf + nn)) a b)), (.int (5 : Int32)), (.ref ca), (.ref ca)])) rfl rfl (hb hby at_104)
  have N30 := Fr.snoc X30 N28 g_ca
  have Vn30 := Arv.set Ar29 qc29 Sz29 Nn29 Hs29 Gs29 (fits_nar_char _) W30 5 rfl (Nat.le_of_ble_eq_true rfl)
  rw [own_nc] at Vn30
  have O__x31 := O__x26.wr W30 g_ca
  have Vm30 : Arv Z h30 ca k1 .char (14 : Int32) [(.int (own_ch (0 : Int32) (Int32.ofNat nf) (Int32.ofNat (nf + nn)) a b)), (.int (own_ch (1 : Int32) (Int32.ofNat nf) (Int32.ofNat (nf + nn)) a b)), (.int (own_ch (2 : Int32) (Int32.ofNat nf) (Int32.ofNat (nf + nn)) a b)), (.int (own_ch (3 : Int32) (Int32.ofNat nf) (Int32.ofNat (nf + nn)) a b)), (.int (own_ch (4 : Int32) (Int32.ofNat nf) (Int32.ofNat (nf + nn)) a b)), (.int (own_ch (5 : Int32) (Int32.ofNat nf) (Int32.ofNat (nf + nn)) a b)), (.int (0 : Int32)), (.int (0 : Int32)), (.int (0 : Int32)), (.int (0 : Int32)), (.int (0 : Int32)), (.int (0 : Int32)), (.int (0 : Int32)), (.int (0 : Int32))] (.int (0 : Int32)) := Vn30
  have ZW30 : n0 ≤ h30.size := Nat.le_trans ZW25 (Keep.of_wr W30).1
  refine own_st st30 ?_
  show own_Go p.tables e below _ (T30.setTop (mkF m 105 #[.val (.long a), .second, .val (.long b), .second, .val (.int f), .val (.int mm), .val (.int (Int32.ofNat nf)), .val (.int (Int32.ofNat nn)), .val (.int (Int32.ofNat (nf + nn))), .unset, .unset, .unset] [(.ref ca)]))
  refine own_st (fun _ k' => XS.dup X30.here hx rfl (hb hby at_105) rfl rfl k') ?_
  show own_Go p.tables e below _ (T30.setTop (mkF m 106 #[.val (.long a), .second, .val (.long b), .second, .val (.int f), .val (.int mm), .val (.int (Int32.ofNat nf)), .val (.int (Int32.ofNat nn)), .val (.int (Int32.ofNat (nf + nn))), .unset, .unset, .unset] [(.ref ca), (.ref ca)]))
  refine own_st (fun _ k' => XS.bipush X30.here hx rfl (hb hby at_106) k') ?_
  show own_Go p.tables e below _ (T30.setTop (mkF m 108 #[.val (.long a), .second, .val (.long b), .second, .val (.int f), .val (.int mm), .val (.int (Int32.ofNat nf)), .val (.int (Int32.ofNat nn)), .val (.int (Int32.ofNat (nf + nn))), .unset, .unset, .unset] [(.int (6 : Int32)), (.ref ca), (.ref ca)]))
  refine own_st (fun _ k' => XS.bipush X30.here hx rfl (hb hby at_108) k') ?_
  show own_Go p.tables e below _ (T30.setTop (mkF m 110 #[.val (.long a), .second, .val (.long b), .second, .val (.int f), .val (.int mm), .val (.int (Int32.ofNat nf)), .val (.int (Int32.ofNat nn)), .val (.int (Int32.ofNat (nf + nn))), .unset, .unset, .unset] [(.int (6 : Int32)), (.int (6 : Int32)), (.ref ca), (.ref ca)]))
  refine own_st (fun _ k' => XS.iload X30.here hx rfl (hb hby at_110) rfl k') ?_
  show own_Go p.tables e below _ (T30.setTop (mkF m 112 #[.val (.long a), .second, .val (.long b), .second, .val (.int f), .val (.int mm), .val (.int (Int32.ofNat nf)), .val (.int (Int32.ofNat nn)), .val (.int (Int32.ofNat (nf + nn))), .unset, .unset, .unset] [(.int (Int32.ofNat nf)), (.int (6 : Int32)), (.int (6 : Int32)), (.ref ca), (.ref ca)]))
  refine own_st (fun _ k' => XS.iload X30.here hx rfl (hb hby at_112) rfl k') ?_
  show own_Go p.tables e below _ (T30.setTop (mkF m 114 #[.val (.long a), .second, .val (.long b), .second, .val (.int f), .val (.int mm), .val (.int (Int32.ofNat nf)), .val (.int (Int32.ofNat nn)), .val (.int (Int32.ofNat (nf + nn))), .unset, .unset, .unset] [(.int (Int32.ofNat (nf + nn))), (.int (Int32.ofNat nf)), (.int (6 : Int32)), (.int (6 : Int32)), (.ref ca), (.ref ca)]))
  refine own_st (fun _ k' => XS.lloadN X30.here hx rfl (hb hby at_114) rfl k') ?_
  show own_Go p.tables e below _ (T30.setTop (mkF m 115 #[.val (.long a), .second, .val (.long b), .second, .val (.int f), .val (.int mm), .val (.int (Int32.ofNat nf)), .val (.int (Int32.ofNat nn)), .val (.int (Int32.ofNat (nf + nn))), .unset, .unset, .unset] [(.long a), (.int (Int32.ofNat (nf + nn))), (.int (Int32.ofNat nf)), (.int (6 : Int32)), (.int (6 : Int32)), (.ref ca), (.ref ca)]))
  refine own_st (fun _ k' => XS.lloadN X30.here hx rfl (hb hby at_115) rfl k') ?_
  show own_Go p.tables e below _ (T30.setTop (mkF m 116 #[.val (.long a), .second, .val (.long b), .second, .val (.int f), .val (.int mm), .val (.int (Int32.ofNat nf)), .val (.int (Int32.ofNat nn)), .val (.int (Int32.ofNat (nf + nn))), .unset, .unset, .unset] [(.long b), (.long a), (.int (Int32.ofNat (nf + nn))), (.int (Int32.ofNat nf)), (.int (6 : Int32)), (.int (6 : Int32)), (.ref ca), (.ref ca)]))
  obtain ⟨_, _, ⟨T33, L33, k33, n33⟩, -, X33, ⟨Lc33, hQ33, l33, y33, z33⟩, st33⟩ := Jvm.LawKit.callS X30 hx (y := (⟨"com/example/frozen_thread/frozenthread/text/DigitsNanosPinLaw", "ch", "(IIIJJ)C"⟩ : MethodName)) hown (mvT hZ (hw _ (List.mem_of_getElem? (i := 2) rfl))) (mvT hZ (hw _ (List.mem_of_getElem? (i := 3) rfl))) (mvT hZ (hw _ (List.mem_of_getElem? (i := 4) rfl))) (mvT hZ (hw _ (List.mem_of_getElem? (i := 5) rfl))) (by decide) (backOf (W := 3) (rmCh l Z a0 hw [] (6 : Int32) (Int32.ofNat nf) (Int32.ofNat (nf + nn)) a b h30 n0 ZW30 ) hZ (hw _ (List.mem_of_getElem? (i := 5) rfl)) (hw _ (List.mem_of_getElem? (i := 4) rfl)) (by decide) (by decide)) (g := (mkF m 116 #[.val (.long a), .second, .val (.long b), .second, .val (.int f), .val (.int mm), .val (.int (Int32.ofNat nf)), .val (.int (Int32.ofNat nn)), .val (.int (Int32.ofNat (nf + nn))), .unset, .unset, .unset] [(.long b), (.long a), (.int (Int32.ofNat (nf + nn))), (.int (Int32.ofNat nf)), (.int (6 : Int32)), (.int (6 : Int32)), (.ref ca), (.ref ca)])) rfl (by rw [hml]; rfl) (argsL := [(.int (6 : Int32)), (.int (Int32.ofNat nf)), (.int (Int32.ofNat (nf + nn))), (.long a), (.long b)]) (rest := [(.int (6 : Int32)), (.ref ca), (.ref ca)]) (lenOf pd__IIIJJ_C rfl) rfl (by show 2 * 0 + _ ≤ _; exact Nat.le_of_eq rfl) (hb hby at_116) (fun _ _ => ⟨rfl, e30, (by decide : 1 + 0 ≤ _), (by decide : 14 + 0 ≤ _)⟩)
  dsimp only [Pt.U, Pt.locs, Pt.cells, Pt.slots] at X33 l33 y33 z33 st33 hQ33
  have y33 : k33 = 1 := y33
  have z33 : n33 = 14 := z33
  subst y33 z33
  obtain ⟨rfl, Nq33, e33⟩ := hQ33
  have N33 : Fr n0 L33 := by rw [l33]; exact Fr.app N30 Nq33
  refine own_st st33 ?_
  show own_Go p.tables e below _ (T33.setTop (mkF m 119 #[.val (.long a), .second, .val (.long b), .second, .val (.int f), .val (.int mm), .val (.int (Int32.ofNat nf)), .val (.int (Int32.ofNat nn)), .val (.int (Int32.ofNat (nf + nn))), .unset, .unset, .unset] [(.int (own_ch (6 : Int32) (Int32.ofNat nf) (Int32.ofNat (nf + nn)) a b)), (.int (6 : Int32)), (.ref ca), (.ref ca)]))
  obtain ⟨cl34, Ar34, qc34, Sz34, Nn34, Hs34, Gs34⟩ := id Vm30
  obtain ⟨T35, h35, X35, e35, W35, st35⟩ := stC X33 hx hZ e33 Ar34 (j := (6 : Int32)) (inb_of Sz34 ⟨by decide, by decide⟩) (g := (mkF m 119 #[.val (.long a), .second, .val (.long b), .second, .val (.int f), .val (.int mm), .val (.int (Int32.ofNat nf)), .val (.int (Int32.ofNat nn)), .val (.int (Int32.ofNat (nf + nn))), .unset, .unset, .unset] [(.int (own_ch (6 : Int32) (Int32.ofNat nf) (Int32.ofNat (nf + nn)) a b)), (.int (6 : Int32)), (.ref ca), (.ref ca)])) rfl rfl (hb hby at_119)
  have N35 := Fr.snoc X35 N33 g_ca
  have Vn35 := Arv.set Ar34 qc34 Sz34 Nn34 Hs34 Gs34 (fits_nar_char _) W35 6 rfl (Nat.le_of_ble_eq_true rfl)
  rw [own_nc] at Vn35
  have O__x36 := O__x31.wr W35 g_ca
  have Vm35 : Arv Z h35 ca k1 .char (14 : Int32) [(.int (own_ch (0 : Int32) (Int32.ofNat nf) (Int32.ofNat (nf + nn)) a b)), (.int (own_ch (1 : Int32) (Int32.ofNat nf) (Int32.ofNat (nf + nn)) a b)), (.int (own_ch (2 : Int32) (Int32.ofNat nf) (Int32.ofNat (nf + nn)) a b)), (.int (own_ch (3 : Int32) (Int32.ofNat nf) (Int32.ofNat (nf + nn)) a b)), (.int (own_ch (4 : Int32) (Int32.ofNat nf) (Int32.ofNat (nf + nn)) a b)), (.int (own_ch (5 : Int32) (Int32.ofNat nf) (Int32.ofNat (nf + nn)) a b)), (.int (own_ch (6 : Int32) (Int32.ofNat nf) (Int32.ofNat (nf + nn)) a b)), (.int (0 : Int32)), (.int (0 : Int32)), (.int (0 : Int32)), (.int (0 : Int32)), (.int (0 : Int32)), (.int (0 : Int32)), (.int (0 : Int32))] (.int (0 : Int32)) := Vn35
  have ZW35 : n0 ≤ h35.size := Nat.le_trans ZW30 (Keep.of_wr W35).1
  refine own_st st35 ?_
  show own_Go p.tables e below _ (T35.setTop (mkF m 120 #[.val (.long a), .second, .val (.long b), .second, .val (.int f), .val (.int mm), .val (.int (Int32.ofNat nf)), .val (.int (Int32.ofNat nn)), .val (.int (Int32.ofNat (nf + nn))), .unset, .unset, .unset] [(.ref ca)]))
  refine own_st (fun _ k' => XS.dup X35.here hx rfl (hb hby at_120) rfl rfl k') ?_
  show own_Go p.tables e below _ (T35.setTop (mkF m 121 #[.val (.long a), .second, .val (.long b), .second, .val (.int f), .val (.int mm), .val (.int (Int32.ofNat nf)), .val (.int (Int32.ofNat nn)), .val (.int (Int32.ofNat (nf + nn))), .unset, .unset, .unset] [(.ref ca), (.ref ca)]))
  refine own_st (fun _ k' => XS.bipush X35.here hx rfl (hb hby at_121) k') ?_
  show own_Go p.tables e below _ (T35.setTop (mkF m 123 #[.val (.long a), .second, .val (.long b), .second, .val (.int f), .val (.int mm), .val (.int (Int32.ofNat nf)), .val (.int (Int32.ofNat nn)), .val (.int (Int32.ofNat (nf + nn))), .unset, .unset, .unset] [(.int (7 : Int32)), (.ref ca), (.ref ca)]))
  refine own_st (fun _ k' => XS.bipush X35.here hx rfl (hb hby at_123) k') ?_
  show own_Go p.tables e below _ (T35.setTop (mkF m 125 #[.val (.long a), .second, .val (.long b), .second, .val (.int f), .val (.int mm), .val (.int (Int32.ofNat nf)), .val (.int (Int32.ofNat nn)), .val (.int (Int32.ofNat (nf + nn))), .unset, .unset, .unset] [(.int (7 : Int32)), (.int (7 : Int32)), (.ref ca), (.ref ca)]))
  refine own_st (fun _ k' => XS.iload X35.here hx rfl (hb hby at_125) rfl k') ?_
  show own_Go p.tables e below _ (T35.setTop (mkF m 127 #[.val (.long a), .second, .val (.long b), .second, .val (.int f), .val (.int mm), .val (.int (Int32.ofNat nf)), .val (.int (Int32.ofNat nn)), .val (.int (Int32.ofNat (nf + nn))), .unset, .unset, .unset] [(.int (Int32.ofNat nf)), (.int (7 : Int32)), (.int (7 : Int32)), (.ref ca), (.ref ca)]))
  refine own_st (fun _ k' => XS.iload X35.here hx rfl (hb hby at_127) rfl k') ?_
  show own_Go p.tables e below _ (T35.setTop (mkF m 129 #[.val (.long a), .second, .val (.long b), .second, .val (.int f), .val (.int mm), .val (.int (Int32.ofNat nf)), .val (.int (Int32.ofNat nn)), .val (.int (Int32.ofNat (nf + nn))), .unset, .unset, .unset] [(.int (Int32.ofNat (nf + nn))), (.int (Int32.ofNat nf)), (.int (7 : Int32)), (.int (7 : Int32)), (.ref ca), (.ref ca)]))
  refine own_st (fun _ k' => XS.lloadN X35.here hx rfl (hb hby at_129) rfl k') ?_
  show own_Go p.tables e below _ (T35.setTop (mkF m 130 #[.val (.long a), .second, .val (.long b), .second, .val (.int f), .val (.int mm), .val (.int (Int32.ofNat nf)), .val (.int (Int32.ofNat nn)), .val (.int (Int32.ofNat (nf + nn))), .unset, .unset, .unset] [(.long a), (.int (Int32.ofNat (nf + nn))), (.int (Int32.ofNat nf)), (.int (7 : Int32)), (.int (7 : Int32)), (.ref ca), (.ref ca)]))
  refine own_st (fun _ k' => XS.lloadN X35.here hx rfl (hb hby at_130) rfl k') ?_
  show own_Go p.tables e below _ (T35.setTop (mkF m 131 #[.val (.long a), .second, .val (.long b), .second, .val (.int f), .val (.int mm), .val (.int (Int32.ofNat nf)), .val (.int (Int32.ofNat nn)), .val (.int (Int32.ofNat (nf + nn))), .unset, .unset, .unset] [(.long b), (.long a), (.int (Int32.ofNat (nf + nn))), (.int (Int32.ofNat nf)), (.int (7 : Int32)), (.int (7 : Int32)), (.ref ca), (.ref ca)]))
  obtain ⟨_, _, ⟨T38, L38, k38, n38⟩, -, X38, ⟨Lc38, hQ38, l38, y38, z38⟩, st38⟩ := Jvm.LawKit.callS X35 hx (y := (⟨"com/example/frozen_thread/frozenthread/text/DigitsNanosPinLaw", "ch", "(IIIJJ)C"⟩ : MethodName)) hown (mvT hZ (hw _ (List.mem_of_getElem? (i := 2) rfl))) (mvT hZ (hw _ (List.mem_of_getElem? (i := 3) rfl))) (mvT hZ (hw _ (List.mem_of_getElem? (i := 4) rfl))) (mvT hZ (hw _ (List.mem_of_getElem? (i := 5) rfl))) (by decide) (backOf (W := 3) (rmCh l Z a0 hw [] (7 : Int32) (Int32.ofNat nf) (Int32.ofNat (nf + nn)) a b h35 n0 ZW35 ) hZ (hw _ (List.mem_of_getElem? (i := 5) rfl)) (hw _ (List.mem_of_getElem? (i := 4) rfl)) (by decide) (by decide)) (g := (mkF m 131 #[.val (.long a), .second, .val (.long b), .second, .val (.int f), .val (.int mm), .val (.int (Int32.ofNat nf)), .val (.int (Int32.ofNat nn)), .val (.int (Int32.ofNat (nf + nn))), .unset, .unset, .unset] [(.long b), (.long a), (.int (Int32.ofNat (nf + nn))), (.int (Int32.ofNat nf)), (.int (7 : Int32)), (.int (7 : Int32)), (.ref ca), (.ref ca)])) rfl (by rw [hml]; rfl) (argsL := [(.int (7 : Int32)), (.int (Int32.ofNat nf)), (.int (Int32.ofNat (nf + nn))), (.long a), (.long b)]) (rest := [(.int (7 : Int32)), (.ref ca), (.ref ca)]) (lenOf pd__IIIJJ_C rfl) rfl (by show 2 * 0 + _ ≤ _; exact Nat.le_of_eq rfl) (hb hby at_131) (fun _ _ => ⟨rfl, e35, (by decide : 1 + 0 ≤ _), (by decide : 14 + 0 ≤ _)⟩)
  dsimp only [Pt.U, Pt.locs, Pt.cells, Pt.slots] at X38 l38 y38 z38 st38 hQ38
  have y38 : k38 = 1 := y38
  have z38 : n38 = 14 := z38
  subst y38 z38
  obtain ⟨rfl, Nq38, e38⟩ := hQ38
  have N38 : Fr n0 L38 := by rw [l38]; exact Fr.app N35 Nq38
  refine own_st st38 ?_
  show own_Go p.tables e below _ (T38.setTop (mkF m 134 #[.val (.long a), .second, .val (.long b), .second, .val (.int f), .val (.int mm), .val (.int (Int32.ofNat nf)), .val (.int (Int32.ofNat nn)), .val (.int (Int32.ofNat (nf + nn))), .unset, .unset, .unset] [(.int (own_ch (7 : Int32) (Int32.ofNat nf) (Int32.ofNat (nf + nn)) a b)), (.int (7 : Int32)), (.ref ca), (.ref ca)]))
  obtain ⟨cl39, Ar39, qc39, Sz39, Nn39, Hs39, Gs39⟩ := id Vm35
  obtain ⟨T40, h40, X40, e40, W40, st40⟩ := stC X38 hx hZ e38 Ar39 (j := (7 : Int32)) (inb_of Sz39 ⟨by decide, by decide⟩) (g := (mkF m 134 #[.val (.long a), .second, .val (.long b), .second, .val (.int f), .val (.int mm), .val (.int (Int32.ofNat nf)), .val (.int (Int32.ofNat nn)), .val (.int (Int32.ofNat (nf + nn))), .unset, .unset, .unset] [(.int (own_ch (7 : Int32) (Int32.ofNat nf) (Int32.ofNat (nf + nn)) a b)), (.int (7 : Int32)), (.ref ca), (.ref ca)])) rfl rfl (hb hby at_134)
  have N40 := Fr.snoc X40 N38 g_ca
  have Vn40 := Arv.set Ar39 qc39 Sz39 Nn39 Hs39 Gs39 (fits_nar_char _) W40 7 rfl (Nat.le_of_ble_eq_true rfl)
  rw [own_nc] at Vn40
  have O__x41 := O__x36.wr W40 g_ca
  have Vm40 : Arv Z h40 ca k1 .char (14 : Int32) [(.int (own_ch (0 : Int32) (Int32.ofNat nf) (Int32.ofNat (nf + nn)) a b)), (.int (own_ch (1 : Int32) (Int32.ofNat nf) (Int32.ofNat (nf + nn)) a b)), (.int (own_ch (2 : Int32) (Int32.ofNat nf) (Int32.ofNat (nf + nn)) a b)), (.int (own_ch (3 : Int32) (Int32.ofNat nf) (Int32.ofNat (nf + nn)) a b)), (.int (own_ch (4 : Int32) (Int32.ofNat nf) (Int32.ofNat (nf + nn)) a b)), (.int (own_ch (5 : Int32) (Int32.ofNat nf) (Int32.ofNat (nf + nn)) a b)), (.int (own_ch (6 : Int32) (Int32.ofNat nf) (Int32.ofNat (nf + nn)) a b)), (.int (own_ch (7 : Int32) (Int32.ofNat nf) (Int32.ofNat (nf + nn)) a b)), (.int (0 : Int32)), (.int (0 : Int32)), (.int (0 : Int32)), (.int (0 : Int32)), (.int (0 : Int32)), (.int (0 : Int32))] (.int (0 : Int32)) := Vn40
  have ZW40 : n0 ≤ h40.size := Nat.le_trans ZW35 (Keep.of_wr W40).1
  refine own_st st40 ?_
  show own_Go p.tables e below _ (T40.setTop (mkF m 135 #[.val (.long a), .second, .val (.long b), .second, .val (.int f), .val (.int mm), .val (.int (Int32.ofNat nf)), .val (.int (Int32.ofNat nn)), .val (.int (Int32.ofNat (nf + nn))), .unset, .unset, .unset] [(.ref ca)]))
  refine own_st (fun _ k' => XS.dup X40.here hx rfl (hb hby at_135) rfl rfl k') ?_
  show own_Go p.tables e below _ (T40.setTop (mkF m 136 #[.val (.long a), .second, .val (.long b), .second, .val (.int f), .val (.int mm), .val (.int (Int32.ofNat nf)), .val (.int (Int32.ofNat nn)), .val (.int (Int32.ofNat (nf + nn))), .unset, .unset, .unset] [(.ref ca), (.ref ca)]))
  refine own_st (fun _ k' => XS.bipush X40.here hx rfl (hb hby at_136) k') ?_
  show own_Go p.tables e below _ (T40.setTop (mkF m 138 #[.val (.long a), .second, .val (.long b), .second, .val (.int f), .val (.int mm), .val (.int (Int32.ofNat nf)), .val (.int (Int32.ofNat nn)), .val (.int (Int32.ofNat (nf + nn))), .unset, .unset, .unset] [(.int (8 : Int32)), (.ref ca), (.ref ca)]))
  refine own_st (fun _ k' => XS.bipush X40.here hx rfl (hb hby at_138) k') ?_
  show own_Go p.tables e below _ (T40.setTop (mkF m 140 #[.val (.long a), .second, .val (.long b), .second, .val (.int f), .val (.int mm), .val (.int (Int32.ofNat nf)), .val (.int (Int32.ofNat nn)), .val (.int (Int32.ofNat (nf + nn))), .unset, .unset, .unset] [(.int (8 : Int32)), (.int (8 : Int32)), (.ref ca), (.ref ca)]))
  refine own_st (fun _ k' => XS.iload X40.here hx rfl (hb hby at_140) rfl k') ?_
  show own_Go p.tables e below _ (T40.setTop (mkF m 142 #[.val (.long a), .second, .val (.long b), .second, .val (.int f), .val (.int mm), .val (.int (Int32.ofNat nf)), .val (.int (Int32.ofNat nn)), .val (.int (Int32.ofNat (nf + nn))), .unset, .unset, .unset] [(.int (Int32.ofNat nf)), (.int (8 : Int32)), (.int (8 : Int32)), (.ref ca), (.ref ca)]))
  refine own_st (fun _ k' => XS.iload X40.here hx rfl (hb hby at_142) rfl k') ?_
  show own_Go p.tables e below _ (T40.setTop (mkF m 144 #[.val (.long a), .second, .val (.long b), .second, .val (.int f), .val (.int mm), .val (.int (Int32.ofNat nf)), .val (.int (Int32.ofNat nn)), .val (.int (Int32.ofNat (nf + nn))), .unset, .unset, .unset] [(.int (Int32.ofNat (nf + nn))), (.int (Int32.ofNat nf)), (.int (8 : Int32)), (.int (8 : Int32)), (.ref ca), (.ref ca)]))
  refine own_st (fun _ k' => XS.lloadN X40.here hx rfl (hb hby at_144) rfl k') ?_
  show own_Go p.tables e below _ (T40.setTop (mkF m 145 #[.val (.long a), .second, .val (.long b), .second, .val (.int f), .val (.int mm), .val (.int (Int32.ofNat nf)), .val (.int (Int32.ofNat nn)), .val (.int (Int32.ofNat (nf + nn))), .unset, .unset, .unset] [(.long a), (.int (Int32.ofNat (nf + nn))), (.int (Int32.ofNat nf)), (.int (8 : Int32)), (.int (8 : Int32)), (.ref ca), (.ref ca)]))
  refine own_st (fun _ k' => XS.lloadN X40.here hx rfl (hb hby at_145) rfl k') ?_
  show own_Go p.tables e below _ (T40.setTop (mkF m 146 #[.val (.long a), .second, .val (.long b), .second, .val (.int f), .val (.int mm), .val (.int (Int32.ofNat nf)), .val (.int (Int32.ofNat nn)), .val (.int (Int32.ofNat (nf + nn))), .unset, .unset, .unset] [(.long b), (.long a), (.int (Int32.ofNat (nf + nn))), (.int (Int32.ofNat nf)), (.int (8 : Int32)), (.int (8 : Int32)), (.ref ca), (.ref ca)]))
  obtain ⟨_, _, ⟨T43, L43, k43, n43⟩, -, X43, ⟨Lc43, hQ43, l43, y43, z43⟩, st43⟩ := Jvm.LawKit.callS X40 hx (y := (⟨"com/example/frozen_thread/frozenthread/text/DigitsNanosPinLaw", "ch", "(IIIJJ)C"⟩ : MethodName)) hown (mvT hZ (hw _ (List.mem_of_getElem? (i := 2) rfl))) (mvT hZ (hw _ (List.mem_of_getElem? (i := 3) rfl))) (mvT hZ (hw _ (List.mem_of_getElem? (i := 4) rfl))) (mvT hZ (hw _ (List.mem_of_getElem? (i := 5) rfl))) (by decide) (backOf (W := 3) (rmCh l Z a0 hw [] (8 : Int32) (Int32.ofNat nf) (Int32.ofNat (nf + nn)) a b h40 n0 ZW40 ) hZ (hw _ (List.mem_of_getElem? (i := 5) rfl)) (hw _ (List.mem_of_getElem? (i := 4) rfl)) (by decide) (by decide)) (g := (mkF m 146 #[.val (.long a), .second, .val (.long b), .second, .val (.int f), .val (.int mm), .val (.int (Int32.ofNat nf)), .val (.int (Int32.ofNat nn)), .val (.int (Int32.ofNat (nf + nn))), .unset, .unset, .unset] [(.long b), (.long a), (.int (Int32.ofNat (nf + nn))), (.int (Int32.ofNat nf)), (.int (8 : Int32)), (.int (8 : Int32)), (.ref ca), (.ref ca)])) rfl (by rw [hml]; rfl) (argsL := [(.int (8 : Int32)), (.int (Int32.ofNat nf)), (.int (Int32.ofNat (nf + nn))), (.long a), (.long b)]) (rest := [(.int (8 : Int32)), (.ref ca), (.ref ca)]) (lenOf pd__IIIJJ_C rfl) rfl (by show 2 * 0 + _ ≤ _; exact Nat.le_of_eq rfl) (hb hby at_146) (fun _ _ => ⟨rfl, e40, (by decide : 1 + 0 ≤ _), (by decide : 14 + 0 ≤ _)⟩)
  dsimp only [Pt.U, Pt.locs, Pt.cells, Pt.slots] at X43 l43 y43 z43 st43 hQ43
  have y43 : k43 = 1 := y43
  have z43 : n43 = 14 := z43
  subst y43 z43
  obtain ⟨rfl, Nq43, e43⟩ := hQ43
  have N43 : Fr n0 L43 := by rw [l43]; exact Fr.app N40 Nq43
  refine own_st st43 ?_
  show own_Go p.tables e below _ (T43.setTop (mkF m 149 #[.val (.long a), .second, .val (.long b), .second, .val (.int f), .val (.int mm), .val (.int (Int32.ofNat nf)), .val (.int (Int32.ofNat nn)), .val (.int (Int32.ofNat (nf + nn))), .unset, .unset, .unset] [(.int (own_ch (8 : Int32) (Int32.ofNat nf) (Int32.ofNat (nf + nn)) a b)), (.int (8 : Int32)), (.ref ca), (.ref ca)]))
  obtain ⟨cl44, Ar44, qc44, Sz44, Nn44, Hs44, Gs44⟩ := id Vm40
  obtain ⟨T45, h45, X45, e45, W45, st45⟩ := stC X43 hx hZ e43 Ar44 (j := (8 : Int32)) (inb_of Sz44 ⟨by decide, by decide⟩) (g := (mkF m 149 #[.val (.long a), .second, .val (.long b), .second, .val (.int f), .val (.int mm), .val (.int (Int32.ofNat nf)), .val (.int (Int32.ofNat nn)), .val (.int (Int32.ofNat (nf + nn))), .unset, .unset, .unset] [(.int (own_ch (8 : Int32) (Int32.ofNat nf) (Int32.ofNat (nf + nn)) a b)), (.int (8 : Int32)), (.ref ca), (.ref ca)])) rfl rfl (hb hby at_149)
  have N45 := Fr.snoc X45 N43 g_ca
  have Vn45 := Arv.set Ar44 qc44 Sz44 Nn44 Hs44 Gs44 (fits_nar_char _) W45 8 rfl (Nat.le_of_ble_eq_true rfl)
  rw [own_nc] at Vn45
  have O__x46 := O__x41.wr W45 g_ca
  have Vm45 : Arv Z h45 ca k1 .char (14 : Int32) [(.int (own_ch (0 : Int32) (Int32.ofNat nf) (Int32.ofNat (nf + nn)) a b)), (.int (own_ch (1 : Int32) (Int32.ofNat nf) (Int32.ofNat (nf + nn)) a b)), (.int (own_ch (2 : Int32) (Int32.ofNat nf) (Int32.ofNat (nf + nn)) a b)), (.int (own_ch (3 : Int32) (Int32.ofNat nf) (Int32.ofNat (nf + nn)) a b)), (.int (own_ch (4 : Int32) (Int32.ofNat nf) (Int32.ofNat (nf + nn)) a b)), (.int (own_ch (5 : Int32) (Int32.ofNat nf) (Int32.ofNat (nf + nn)) a b)), (.int (own_ch (6 : Int32) (Int32.ofNat nf) (Int32.ofNat (nf + nn)) a b)), (.int (own_ch (7 : Int32) (Int32.ofNat nf) (Int32.ofNat (nf + nn)) a b)), (.int (own_ch (8 : Int32) (Int32.ofNat nf) (Int32.ofNat (nf + nn)) a b)), (.int (0 : Int32)), (.int (0 : Int32)), (.int (0 : Int32)), (.int (0 : Int32)), (.int (0 : Int32))] (.int (0 : Int32)) := Vn45
  have ZW45 : n0 ≤ h45.size := Nat.le_trans ZW40 (Keep.of_wr W45).1
  refine own_st st45 ?_
  show own_Go p.tables e below _ (T45.setTop (mkF m 150 #[.val (.long a), .second, .val (.long b), .second, .val (.int f), .val (.int mm), .val (.int (Int32.ofNat nf)), .val (.int (Int32.ofNat nn)), .val (.int (Int32.ofNat (nf + nn))), .unset, .unset, .unset] [(.ref ca)]))
  refine own_st (fun _ k' => XS.dup X45.here hx rfl (hb hby at_150) rfl rfl k') ?_
  show own_Go p.tables e below _ (T45.setTop (mkF m 151 #[.val (.long a), .second, .val (.long b), .second, .val (.int f), .val (.int mm), .val (.int (Int32.ofNat nf)), .val (.int (Int32.ofNat nn)), .val (.int (Int32.ofNat (nf + nn))), .unset, .unset, .unset] [(.ref ca), (.ref ca)]))
  refine own_st (fun _ k' => XS.bipush X45.here hx rfl (hb hby at_151) k') ?_
  show own_Go p.tables e below _ (T45.setTop (mkF m 153 #[.val (.long a), .second, .val (.long b), .second, .val (.int f), .val (.int mm), .val (.int (Int32.ofNat nf)), .val (.int (Int32.ofNat nn)), .val (.int (Int32.ofNat (nf + nn))), .unset, .unset, .unset] [(.int (9 : Int32)), (.ref ca), (.ref ca)]))
  refine own_st (fun _ k' => XS.bipush X45.here hx rfl (hb hby at_153) k') ?_
  show own_Go p.tables e below _ (T45.setTop (mkF m 155 #[.val (.long a), .second, .val (.long b), .second, .val (.int f), .val (.int mm), .val (.int (Int32.ofNat nf)), .val (.int (Int32.ofNat nn)), .val (.int (Int32.ofNat (nf + nn))), .unset, .unset, .unset] [(.int (9 : Int32)), (.int (9 : Int32)), (.ref ca), (.ref ca)]))
  refine own_st (fun _ k' => XS.iload X45.here hx rfl (hb hby at_155) rfl k') ?_
  show own_Go p.tables e below _ (T45.setTop (mkF m 157 #[.val (.long a), .second, .val (.long b), .second, .val (.int f), .val (.int mm), .val (.int (Int32.ofNat nf)), .val (.int (Int32.ofNat nn)), .val (.int (Int32.ofNat (nf + nn))), .unset, .unset, .unset] [(.int (Int32.ofNat nf)), (.int (9 : Int32)), (.int (9 : Int32)), (.ref ca), (.ref ca)]))
  refine own_st (fun _ k' => XS.iload X45.here hx rfl (hb hby at_157) rfl k') ?_
  show own_Go p.tables e below _ (T45.setTop (mkF m 159 #[.val (.long a), .second, .val (.long b), .second, .val (.int f), .val (.int mm), .val (.int (Int32.ofNat nf)), .val (.int (Int32.ofNat nn)), .val (.int (Int32.ofNat (nf + nn))), .unset, .unset, .unset] [(.int (Int32.ofNat (nf + nn))), (.int (Int32.ofNat nf)), (.int (9 : Int32)), (.int (9 : Int32)), (.ref ca), (.ref ca)]))
  refine own_st (fun _ k' => XS.lloadN X45.here hx rfl (hb hby at_159) rfl k') ?_
  show own_Go p.tables e below _ (T45.setTop (mkF m 160 #[.val (.long a), .second, .val (.long b), .second, .val (.int f), .val (.int mm), .val (.int (Int32.ofNat nf)), .val (.int (Int32.ofNat nn)), .val (.int (Int32.ofNat (nf + nn))), .unset, .unset, .unset] [(.long a), (.int (Int32.ofNat (nf + nn))), (.int (Int32.ofNat nf)), (.int (9 : Int32)), (.int (9 : Int32)), (.ref ca), (.ref ca)]))
  refine own_st (fun _ k' => XS.lloadN X45.here hx rfl (hb hby at_160) rfl k') ?_
  show own_Go p.tables e below _ (T45.setTop (mkF m 161 #[.val (.long a), .second, .val (.long b), .second, .val (.int f), .val (.int mm), .val (.int (Int32.ofNat nf)), .val (.int (Int32.ofNat nn)), .val (.int (Int32.ofNat (nf + nn))), .unset, .unset, .unset] [(.long b), (.long a), (.int (Int32.ofNat (nf + nn))), (.int (Int32.ofNat nf)), (.int (9 : Int32)), (.int (9 : Int32)), (.ref ca), (.ref ca)]))
  obtain ⟨_, _, ⟨T48, L48, k48, n48⟩, -, X48, ⟨Lc48, hQ48, l48, y48, z48⟩, st48⟩ := Jvm.LawKit.callS X45 hx (y := (⟨"com/example/frozen_thread/frozenthread/text/DigitsNanosPinLaw", "ch", "(IIIJJ)C"⟩ : MethodName)) hown (mvT hZ (hw _ (List.mem_of_getElem? (i := 2) rfl))) (mvT hZ (hw _ (List.mem_of_getElem? (i := 3) rfl))) (mvT hZ (hw _ (List.mem_of_getElem? (i := 4) rfl))) (mvT hZ (hw _ (List.mem_of_getElem? (i := 5) rfl))) (by decide) (backOf (W := 3) (rmCh l Z a0 hw [] (9 : Int32) (Int32.ofNat nf) (Int32.ofNat (nf + nn)) a b h45 n0 ZW45 ) hZ (hw _ (List.mem_of_getElem? (i := 5) rfl)) (hw _ (List.mem_of_getElem? (i := 4) rfl)) (by decide) (by decide)) (g := (mkF m 161 #[.val (.long a), .second, .val (.long b), .second, .val (.int f), .val (.int mm), .val (.int (Int32.ofNat nf)), .val (.int (Int32.ofNat nn)), .val (.int (Int32.ofNat (nf + nn))), .unset, .unset, .unset] [(.long b), (.long a), (.int (Int32.ofNat (nf + nn))), (.int (Int32.ofNat nf)), (.int (9 : Int32)), (.int (9 : Int32)), (.ref ca), (.ref ca)])) rfl (by rw [hml]; rfl) (argsL := [(.int (9 : Int32)), (.int (Int32.ofNat nf)), (.int (Int32.ofNat (nf + nn))), (.long a), (.long b)]) (rest := [(.int (9 : Int32)), (.ref ca), (.ref ca)]) (lenOf pd__IIIJJ_C rfl) rfl (by show 2 * 0 + _ ≤ _; exact Nat.le_of_eq rfl) (hb hby at_161) (fun _ _ => ⟨rfl, e45, (by decide : 1 + 0 ≤ _), (by decide : 14 + 0 ≤ _)⟩)
  dsimp only [Pt.U, Pt.locs, Pt.cells, Pt.slots] at X48 l48 y48 z48 st48 hQ48
  have y48 : k48 = 1 := y48
  have z48 : n48 = 14 := z48
  subst y48 z48
  obtain ⟨rfl, Nq48, e48⟩ := hQ48
  have N48 : Fr n0 L48 := by rw [l48]; exact Fr.app N45 Nq48
  refine own_st st48 ?_
  show own_Go p.tables e below _ (T48.setTop (mkF m 164 #[.val (.long a), .second, .val (.long b), .second, .val (.int f), .val (.int mm), .val (.int (Int32.ofNat nf)), .val (.int (Int32.ofNat nn)), .val (.int (Int32.ofNat (nf + nn))), .unset, .unset, .unset] [(.int (own_ch (9 : Int32) (Int32.ofNat nf) (Int32.ofNat (nf + nn)) a b)), (.int (9 : Int32)), (.ref ca), (.ref ca)]))
  obtain ⟨cl49, Ar49, qc49, Sz49, Nn49, Hs49, Gs49⟩ := id Vm45
  obtain ⟨T50, h50, X50, e50, W50, st50⟩ := stC X48 hx hZ e48 Ar49 (j := (9 : Int32)) (inb_of Sz49 ⟨by decide, by decide⟩) (g := (mkF m 164 #[.val (.long a), .second, .val (.long b), .second, .val (.int f), .val (.int mm), .val (.int (Int32.ofNat nf)), .val (.int (Int32.ofNat nn)), .val (.int (Int32.ofNat (nf + nn))), .unset, .unset, .unset] [(.int (own_ch (9 : Int32) (Int32.ofNat nf) (Int32.ofNat (nf + nn)) a b)), (.int (9 : Int32)), (.ref ca), (.ref ca)])) rfl rfl (hb hby at_164)
  have N50 := Fr.snoc X50 N48 g_ca
  have Vn50 := Arv.set Ar49 qc49 Sz49 Nn49 Hs49 Gs49 (fits_nar_char _) W50 9 rfl (Nat.le_of_ble_eq_true rfl)
  rw [own_nc] at Vn50
  have O__x51 := O__x46.wr W50 g_ca
  have Vm50 : Arv Z h50 ca k1 .char (14 : Int32) [(.int (own_ch (0 : Int32) (Int32.ofNat nf) (Int32.ofNat (nf + nn)) a b)), (.int (own_ch (1 : Int32) (Int32.ofNat nf) (Int32.ofNat (nf + nn)) a b)), (.int (own_ch (2 : Int32) (Int32.ofNat nf) (Int32.ofNat (nf + nn)) a b)), (.int (own_ch (3 : Int32) (Int32.ofNat nf) (Int32.ofNat (nf + nn)) a b)), (.int (own_ch (4 : Int32) (Int32.ofNat nf) (Int32.ofNat (nf + nn)) a b)), (.int (own_ch (5 : Int32) (Int32.ofNat nf) (Int32.ofNat (nf + nn)) a b)), (.int (own_ch (6 : Int32) (Int32.ofNat nf) (Int32.ofNat (nf + nn)) a b)), (.int (own_ch (7 : Int32) (Int32.ofNat nf) (Int32.ofNat (nf + nn)) a b)), (.int (own_ch (8 : Int32) (Int32.ofNat nf) (Int32.ofNat (nf + nn)) a b)), (.int (own_ch (9 : Int32) (Int32.ofNat nf) (Int32.ofNat (nf + nn)) a b)), (.int (0 : Int32)), (.int (0 : Int32)), (.int (0 : Int32)), (.int (0 : Int32))] (.int (0 : Int32)) := Vn50
  have ZW50 : n0 ≤ h50.size := Nat.le_trans ZW45 (Keep.of_wr W50).1
  refine own_st st50 ?_
  show own_Go p.tables e below _ (T50.setTop (mkF m 165 #[.val (.long a), .second, .val (.long b), .second, .val (.int f), .val (.int mm), .val (.int (Int32.ofNat nf)), .val (.int (Int32.ofNat nn)), .val (.int (Int32.ofNat (nf + nn))), .unset, .unset, .unset] [(.ref ca)]))
  refine own_st (fun _ k' => XS.dup X50.here hx rfl (hb hby at_165) rfl rfl k') ?_
  show own_Go p.tables e below _ (T50.setTop (mkF m 166 #[.val (.long a), .second, .val (.long b), .second, .val (.int f), .val (.int mm), .val (.int (Int32.ofNat nf)), .val (.int (Int32.ofNat nn)), .val (.int (Int32.ofNat (nf + nn))), .unset, .unset, .unset] [(.ref ca), (.ref ca)]))
  refine own_st (fun _ k' => XS.bipush X50.here hx rfl (hb hby at_166) k') ?_
  show own_Go p.tables e below _ (T50.setTop (mkF m 168 #[.val (.long a), .second, .val (.long b), .second, .val (.int f), .val (.int mm), .val (.int (Int32.ofNat nf)), .val (.int (Int32.ofNat nn)), .val (.int (Int32.ofNat (nf + nn))), .unset, .unset, .unset] [(.int (10 : Int32)), (.ref ca), (.ref ca)]))
  refine own_st (fun _ k' => XS.bipush X50.here hx rfl (hb hby at_168) k') ?_
  show own_Go p.tables e below _ (T50.setTop (mkF m 170 #[.val (.long a), .second, .val (.long b), .second, .val (.int f), .val (.int mm), .val (.int (Int32.ofNat nf)), .val (.int (Int32.ofNat nn)), .val (.int (Int32.ofNat (nf + nn))), .unset, .unset, .unset] [(.int (10 : Int32)), (.int (10 : Int32)), (.ref ca), (.ref ca)]))
  refine own_st (fun _ k' => XS.iload X50.here hx rfl (hb hby at_170) rfl k') ?_
  show own_Go p.tables e below _ (T50.setTop (mkF m 172 #[.val (.long a), .second, .val (.long b), .second, .val (.int f), .val (.int mm), .val (.int (Int32.ofNat nf)), .val (.int (Int32.ofNat nn)), .val (.int (Int32.ofNat (nf + nn))), .unset, .unset, .unset] [(.int (Int32.ofNat nf)), (.int (10 : Int32)), (.int (10 : Int32)), (.ref ca), (.ref ca)]))
  refine own_st (fun _ k' => XS.iload X50.here hx rfl (hb hby at_172) rfl k') ?_
  show own_Go p.tables e below _ (T50.setTop (mkF m 174 #[.val (.long a), .second, .val (.long b), .second, .val (.int f), .val (.int mm), .val (.int (Int32.ofNat nf)), .val (.int (Int32.ofNat nn)), .val (.int (Int32.ofNat (nf + nn))), .unset, .unset, .unset] [(.int (Int32.ofNat (nf + nn))), (.int (Int32.ofNat nf)), (.int (10 : Int32)), (.int (10 : Int32)), (.ref ca), (.ref ca)]))
  refine own_st (fun _ k' => XS.lloadN X50.here hx rfl (hb hby at_174) rfl k') ?_
  show own_Go p.tables e below _ (T50.setTop (mkF m 175 #[.val (.long a), .second, .val (.long b), .second, .val (.int f), .val (.int mm), .val (.int (Int32.ofNat nf)), .val (.int (Int32.ofNat nn)), .val (.int (Int32.ofNat (nf + nn))), .unset, .unset, .unset] [(.long a), (.int (Int32.ofNat (nf + nn))), (.int (Int32.ofNat nf)), (.int (10 : Int32)), (.int (10 : Int32)), (.ref ca), (.ref ca)]))
  refine own_st (fun _ k' => XS.lloadN X50.here hx rfl (hb hby at_175) rfl k') ?_
  show own_Go p.tables e below _ (T50.setTop (mkF m 176 #[.val (.long a), .second, .val (.long b), .second, .val (.int f), .val (.int mm), .val (.int (Int32.ofNat nf)), .val (.int (Int32.ofNat nn)), .val (.int (Int32.ofNat (nf + nn))), .unset, .unset, .unset] [(.long b), (.long a), (.int (Int32.ofNat (nf + nn))), (.int (Int32.ofNat nf)), (.int (10 : Int32)), (.int (10 : Int32)), (.ref ca), (.ref ca)]))
  obtain ⟨_, _, ⟨T53, L53, k53, n53⟩, -, X53, ⟨Lc53, hQ53, l53, y53, z53⟩, st53⟩ := Jvm.LawKit.callS X50 hx (y := (⟨"com/example/frozen_thread/frozenthread/text/DigitsNanosPinLaw", "ch", "(IIIJJ)C"⟩ : MethodName)) hown (mvT hZ (hw _ (List.mem_of_getElem? (i := 2) rfl))) (mvT hZ (hw _ (List.mem_of_getElem? (i := 3) rfl))) (mvT hZ (hw _ (List.mem_of_getElem? (i := 4) rfl))) (mvT hZ (hw _ (List.mem_of_getElem? (i := 5) rfl))) (by decide) (backOf (W := 3) (rmCh l Z a0 hw [] (10 : Int32) (Int32.ofNat nf) (Int32.ofNat (nf + nn)) a b h50 n0 ZW50 ) hZ (hw _ (List.mem_of_getElem? (i := 5) rfl)) (hw _ (List.mem_of_getElem? (i := 4) rfl)) (by decide) (by decide)) (g := (mkF m 176 #[.val (.long a), .second, .val (.long b), .second, .val (.int f), .val (.int mm), .val (.int (Int32.ofNat nf)), .val (.int (Int32.ofNat nn)), .val (.int (Int32.ofNat (nf + nn))), .unset, .unset, .unset] [(.long b), (.long a), (.int (Int32.ofNat (nf + nn))), (.int (Int32.ofNat nf)), (.int (10 : Int32)), (.int (10 : Int32)), (.ref ca), (.ref ca)])) rfl (by rw [hml]; rfl) (argsL := [(.int (10 : Int32)), (.int (Int32.ofNat nf)), (.int (Int32.ofNat (nf + nn))), (.long a), (.long b)]) (rest := [(.int (10 : Int32)), (.ref ca), (.ref ca)]) (lenOf pd__IIIJJ_C rfl) rfl (by show 2 * 0 + _ ≤ _; exact Nat.le_of_eq rfl) (hb hby at_176) (fun _ _ => ⟨rfl, e50, (by decide : 1 + 0 ≤ _), (by decide : 14 + 0 ≤ _)⟩)
  dsimp only [Pt.U, Pt.locs, Pt.cells, Pt.slots] at X53 l53 y53 z53 st53 hQ53
  have y53 : k53 = 1 := y53
  have z53 : n53 = 14 := z53
  subst y53 z53
  obtain ⟨rfl, Nq53, e53⟩ := hQ53
  have N53 : Fr n0 L53 := by rw [l53]; exact Fr.app N50 Nq53
  refine own_st st53 ?_
  show own_Go p.tables e below _ (T53.setTop (mkF m 179 #[.val (.long a), .second, .val (.long b), .second, .val (.int f), .val (.int mm), .val (.int (Int32.ofNat nf)), .val (.int (Int32.ofNat nn)), .val (.int (Int32.ofNat (nf + nn))), .unset, .unset, .unset] [(.int (own_ch (10 : Int32) (Int32.ofNat nf) (Int32.ofNat (nf + nn)) a b)), (.int (10 : Int32)), (.ref ca), (.ref ca)]))
  obtain ⟨cl54, Ar54, qc54, Sz54, Nn54, Hs54, Gs54⟩ := id Vm50
  obtain ⟨T55, h55, X55, e55, W55, st55⟩ := stC X53 hx hZ e53 Ar54 (j := (10 : Int32)) (inb_of Sz54 ⟨by decide, by decide⟩) (g := (mkF m 179 #[.val (.long a), .second, .val (.long b), .second, .val (.int f), .val (.int mm), .val (.int (Int32.ofNat nf)), .val (.int (Int32.ofNat nn)), .val (.int (Int32.ofNat (nf + nn))), .unset, .unset, .unset] [(.int (own_ch (10 : Int32) (Int32.ofNat nf) (Int32.ofNat (nf + nn)) a b)), (.int (10 : Int32)), (.ref ca), (.ref ca)])) rfl rfl (hb hby at_179)
  have N55 := Fr.snoc X55 N53 g_ca
  have Vn55 := Arv.set Ar54 qc54 Sz54 Nn54 Hs54 Gs54 (fits_nar_char _) W55 10 rfl (Nat.le_of_ble_eq_true rfl)
  rw [own_nc] at Vn55
  have O__x56 := O__x51.wr W55 g_ca
  have Vm55 : Arv Z h55 ca k1 .char (14 : Int32) [(.int (own_ch (0 : Int32) (Int32.ofNat nf) (Int32.ofNat (nf + nn)) a b)), (.int (own_ch (1 : Int32) (Int32.ofNat nf) (Int32.ofNat (nf + nn)) a b)), (.int (own_ch (2 : Int32) (Int32.ofNat nf) (Int32.ofNat (nf + nn)) a b)), (.int (own_ch (3 : Int32) (Int32.ofNat nf) (Int32.ofNat (nf + nn)) a b)), (.int (own_ch (4 : Int32) (Int32.ofNat nf) (Int32.ofNat (nf + nn)) a b)), (.int (own_ch (5 : Int32) (Int32.ofNat nf) (Int32.ofNat (nf + nn)) a b)), (.int (own_ch (6 : Int32) (Int32.ofNat nf) (Int32.ofNat (nf + nn)) a b)), (.int (own_ch (7 : Int32) (Int32.ofNat nf) (Int32.ofNat (nf + nn)) a b)), (.int (own_ch (8 : Int32) (Int32.ofNat nf) (Int32.ofNat (nf + nn)) a b)), (.int (own_ch (9 : Int32) (Int32.ofNat nf) (Int32.ofNat (nf + nn)) a b)), (.int (own_ch (10 : Int32) (Int32.ofNat nf) (Int32.ofNat (nf + nn)) a b)), (.int (0 : Int32)), (.int (0 : Int32)), (.int (0 : Int32))] (.int (0 : Int32)) := Vn55
  have ZW55 : n0 ≤ h55.size := Nat.le_trans ZW50 (Keep.of_wr W55).1
  refine own_st st55 ?_
  show own_Go p.tables e below _ (T55.setTop (mkF m 180 #[.val (.long a), .second, .val (.long b), .second, .val (.int f), .val (.int mm), .val (.int (Int32.ofNat nf)), .val (.int (Int32.ofNat nn)), .val (.int (Int32.ofNat (nf + nn))), .unset, .unset, .unset] [(.ref ca)]))
  refine own_st (fun _ k' => XS.dup X55.here hx rfl (hb hby at_180) rfl rfl k') ?_
  show own_Go p.tables e below _ (T55.setTop (mkF m 181 #[.val (.long a), .second, .val (.long b), .second, .val (.int f), .val (.int mm), .val (.int (Int32.ofNat nf)), .val (.int (Int32.ofNat nn)), .val (.int (Int32.ofNat (nf + nn))), .unset, .unset, .unset] [(.ref ca), (.ref ca)]))
  refine own_st (fun _ k' => XS.bipush X55.here hx rfl (hb hby at_181) k') ?_
  show own_Go p.tables e below _ (T55.setTop (mkF m 183 #[.val (.long a), .second, .val (.long b), .second, .val (.int f), .val (.int mm), .val (.int (Int32.ofNat nf)), .val (.int (Int32.ofNat nn)), .val (.int (Int32.ofNat (nf + nn))), .unset, .unset, .unset] [(.int (11 : Int32)), (.ref ca), (.ref ca)]))
  refine own_st (fun _ k' => XS.bipush X55.here hx rfl (hb hby at_183) k') ?_
  show own_Go p.tables e below _ (T55.setTop (mkF m 185 #[.val (.long a), .second, .val (.long b), .second, .val (.int f), .val (.int mm), .val (.int (Int32.ofNat nf)), .val (.int (Int32.ofNat nn)), .val (.int (Int32.ofNat (nf + nn))), .unset, .unset, .unset] [(.int (11 : Int32)), (.int (11 : Int32)), (.ref ca), (.ref ca)]))
  refine own_st (fun _ k' => XS.iload X55.here hx rfl (hb hby at_185) rfl k') ?_
  show own_Go p.tables e below _ (T55.setTop (mkF m 187 #[.val (.long a), .second, .val (.long b), .second, .val (.int f), .val (.int mm), .val (.int (Int32.ofNat nf)), .val (.int (Int32.ofNat nn)), .val (.int (Int32.ofNat (nf + nn))), .unset, .unset, .unset] [(.int (Int32.ofNat nf)), (.int (11 : Int32)), (.int (11 : Int32)), (.ref ca), (.ref ca)]))
  refine own_st (fun _ k' => XS.iload X55.here hx rfl (hb hby at_187) rfl k') ?_
  show own_Go p.tables e below _ (T55.setTop (mkF m 189 #[.val (.long a), .second, .val (.long b), .second, .val (.int f), .val (.int mm), .val (.int (Int32.ofNat nf)), .val (.int (Int32.ofNat nn)), .val (.int (Int32.ofNat (nf + nn))), .unset, .unset, .unset] [(.int (Int32.ofNat (nf + nn))), (.int (Int32.ofNat nf)), (.int (11 : Int32)), (.int (11 : Int32)), (.ref ca), (.ref ca)]))
  refine own_st (fun _ k' => XS.lloadN X55.here hx rfl (hb hby at_189) rfl k') ?_
  show own_Go p.tables e below _ (T55.setTop (mkF m 190 #[.val (.long a), .second, .val (.long b), .second, .val (.int f), .val (.int mm), .val (.int (Int32.ofNat nf)), .val (.int (Int32.ofNat nn)), .val (.int (Int32.ofNat (nf + nn))), .unset, .unset, .unset] [(.long a), (.int (Int32.ofNat (nf + nn))), (.int (Int32.ofNat nf)), (.int (11 : Int32)), (.int (11 : Int32)), (.ref ca), (.ref ca)]))
  refine own_st (fun _ k' => XS.lloadN X55.here hx rfl (hb hby at_190) rfl k') ?_
  show own_Go p.tables e below _ (T55.setTop (mkF m 191 #[.val (.long a), .second, .val (.long b), .second, .val (.int f), .val (.int mm), .val (.int (Int32.ofNat nf)), .val (.int (Int32.ofNat nn)), .val (.int (Int32.ofNat (nf + nn))), .unset, .unset, .unset] [(.long b), (.long a), (.int (Int32.ofNat (nf + nn))), (.int (Int32.ofNat nf)), (.int (11 : Int32)), (.int (11 : Int32)), (.ref ca), (.ref ca)]))
  obtain ⟨_, _, ⟨T58, L58, k58, n58⟩, -, X58, ⟨Lc58, hQ58, l58, y58, z58⟩, st58⟩ := Jvm.LawKit.callS X55 hx (y := (⟨"com/example/frozen_thread/frozenthread/text/DigitsNanosPinLaw", "ch", "(IIIJJ)C"⟩ : MethodName)) hown (mvT hZ (hw _ (List.mem_of_getElem? (i := 2) rfl))) (mvT hZ (hw _ (List.mem_of_getElem? (i := 3) rfl))) (mvT hZ (hw _ (List.mem_of_getElem? (i := 4) rfl))) (mvT hZ (hw _ (List.mem_of_getElem? (i := 5) rfl))) (by decide) (backOf (W := 3) (rmCh l Z a0 hw [] (11 : Int32) (Int32.ofNat nf) (Int32.ofNat (nf + nn)) a b h55 n0 ZW55 ) hZ (hw _ (List.mem_of_getElem? (i := 5) rfl)) (hw _ (List.mem_of_getElem? (i := 4) rfl)) (by decide) (by decide)) (g := (mkF m 191 #[.val (.long a), .second, .val (.long b), .second, .val (.int f), .val (.int mm), .val (.int (Int32.ofNat nf)), .val (.int (Int32.ofNat nn)), .val (.int (Int32.ofNat (nf + nn))), .unset, .unset, .unset] [(.long b), (.long a), (.int (Int32.ofNat (nf + nn))), (.int (Int32.ofNat nf)), (.int (11 : Int32)), (.int (11 : Int32)), (.ref ca), (.ref ca)])) rfl (by rw [hml]; rfl) (argsL := [(.int (11 : Int32)), (.int (Int32.ofNat nf)), (.int (Int32.ofNat (nf + nn))), (.long a), (.long b)]) (rest := [(.int (11 : Int32)), (.ref ca), (.ref ca)]) (lenOf pd__IIIJJ_C rfl) rfl (by show 2 * 0 + _ ≤ _; exact Nat.le_of_eq rfl) (hb hby at_191) (fun _ _ => ⟨rfl, e55, (by decide : 1 + 0 ≤ _), (by decide : 14 + 0 ≤ _)⟩)
  dsimp only [Pt.U, Pt.locs, Pt.cells, Pt.slots] at X58 l58 y58 z58 st58 hQ58
  have y58 : k58 = 1 := y58
  have z58 : n58 = 14 := z58
  subst y58 z58
  obtain ⟨rfl, Nq58, e58⟩ := hQ58
  have N58 : Fr n0 L58 := by rw [l58]; exact Fr.app N55 Nq58
  refine own_st st58 ?_
  show own_Go p.tables e below _ (T58.setTop (mkF m 194 #[.val (.long a), .second, .val (.long b), .second, .val (.int f), .val (.int mm), .val (.int (Int32.ofNat nf)), .val (.int (Int32.ofNat nn)), .val (.int (Int32.ofNat (nf + nn))), .unset, .unset, .unset] [(.int (own_ch (11 : Int32) (Int32.ofNat nf) (Int32.ofNat (nf + nn)) a b)), (.int (11 : Int32)), (.ref ca), (.ref ca)]))
  obtain ⟨cl59, Ar59, qc59, Sz59, Nn59, Hs59, Gs59⟩ := id Vm55
  obtain ⟨T60, h60, X60, e60, W60, st60⟩ := stC X58 hx hZ e58 Ar59 (j := (11 : Int32)) (inb_of Sz59 ⟨by decide, by decide⟩) (g := (mkF m 194 #[.val (.long a), .second, .val (.long b), .second, .val (.int f), .val (.int mm), .val (.int (Int32.ofNat nf)), .val (.int (Int32.ofNat nn)), .val (.int (Int32.ofNat (nf + nn))), .unset, .unset, .unset] [(.int (own_ch (11 : Int32) (Int32.ofNat nf) (Int32.ofNat (nf + nn)) a b)), (.int (11 : Int32)), (.ref ca), (.ref ca)])) rfl rfl (hb hby at_194)
  have N60 := Fr.snoc X60 N58 g_ca
  have Vn60 := Arv.set Ar59 qc59 Sz59 Nn59 Hs59 Gs59 (fits_nar_char _) W60 11 rfl (Nat.le_of_ble_eq_true rfl)
  rw [own_nc] at Vn60
  have O__x61 := O__x56.wr W60 g_ca
  have Vm60 : Arv Z h60 ca k1 .char (14 : Int32) [(.int (own_ch (0 : Int32) (Int32.ofNat nf) (Int32.ofNat (nf + nn)) a b)), (.int (own_ch (1 : Int32) (Int32.ofNat nf) (Int32.ofNat (nf + nn)) a b)), (.int (own_ch (2 : Int32) (Int32.ofNat nf) (Int32.ofNat (nf + nn)) a b)), (.int (own_ch (3 : Int32) (Int32.ofNat nf) (Int32.ofNat (nf + nn)) a b)), (.int (own_ch (4 : Int32) (Int32.ofNat nf) (Int32.ofNat (nf + nn)) a b)), (.int (own_ch (5 : Int32) (Int32.ofNat nf) (Int32.ofNat (nf + nn)) a b)), (.int (own_ch (6 : Int32) (Int32.ofNat nf) (Int32.ofNat (nf + nn)) a b)), (.int (own_ch (7 : Int32) (Int32.ofNat nf) (Int32.ofNat (nf + nn)) a b)), (.int (own_ch (8 : Int32) (Int32.ofNat nf) (Int32.ofNat (nf + nn)) a b)), (.int (own_ch (9 : Int32) (Int32.ofNat nf) (Int32.ofNat (nf + nn)) a b)), (.int (own_ch (10 : Int32) (Int32.ofNat nf) (Int32.ofNat (nf + nn)) a b)), (.int (own_ch (11 : Int32) (Int32.ofNat nf) (Int32.ofNat (nf + nn)) a b)), (.int (0 : Int32)), (.int (0 : Int32))] (.int (0 : Int32)) := Vn60
  have ZW60 : n0 ≤ h60.size := Nat.le_trans ZW55 (Keep.of_wr W60).1
  refine own_st st60 ?_
  show own_Go p.tables e below _ (T60.setTop (mkF m 195 #[.val (.long a), .second, .val (.long b), .second, .val (.int f), .val (.int mm), .val (.int (Int32.ofNat nf)), .val (.int (Int32.ofNat nn)), .val (.int (Int32.ofNat (nf + nn))), .unset, .unset, .unset] [(.ref ca)]))
  refine own_st (fun _ k' => XS.dup X60.here hx rfl (hb hby at_195) rfl rfl k') ?_
  show own_Go p.tables e below _ (T60.setTop (mkF m 196 #[.val (.long a), .second, .val (.long b), .second, .val (.int f), .val (.int mm), .val (.int (Int32.ofNat nf)), .val (.int (Int32.ofNat nn)), .val (.int (Int32.ofNat (nf + nn))), .unset, .unset, .unset] [(.ref ca), (.ref ca)]))
  refine own_st (fun _ k' => XS.bipush X60.here hx rfl (hb hby at_196) k') ?_
  show own_Go p.tables e below _ (T60.setTop (mkF m 198 #[.val (.long a), .second, .val (.long b), .second, .val (.int f), .val (.int mm), .val (.int (Int32.ofNat nf)), .val (.int (Int32.ofNat nn)), .val (.int (Int32.ofNat (nf + nn))), .unset, .unset, .unset] [(.int (12 : Int32)), (.ref ca), (.ref ca)]))
  refine own_st (fun _ k' => XS.bipush X60.here hx rfl (hb hby at_198) k') ?_
  show own_Go p.tables e below _ (T60.setTop (mkF m 200 #[.val (.long a), .second, .val (.long b), .second, .val (.int f), .val (.int mm), .val (.int (Int32.ofNat nf)), .val (.int (Int32.ofNat nn)), .val (.int (Int32.ofNat (nf + nn))), .unset, .unset, .unset] [(.int (12 : Int32)), (.int (12 : Int32)), (.ref ca), (.ref ca)]))
  refine own_st (fun _ k' => XS.iload X60.here hx rfl (hb hby at_200) rfl k') ?_
  show own_Go p.tables e below _ (T60.setTop (mkF m 202 #[.val (.long a), .second, .val (.long b), .second, .val (.int f), .val (.int mm), .val (.int (Int32.ofNat nf)), .val (.int (Int32.ofNat nn)), .val (.int (Int32.ofNat (nf + nn))), .unset, .unset, .unset] [(.int (Int32.ofNat nf)), (.int (12 : Int32)), (.int (12 : Int32)), (.ref ca), (.ref ca)]))
  refine own_st (fun _ k' => XS.iload X60.here hx rfl (hb hby at_202) rfl k') ?_
  show own_Go p.tables e below _ (T60.setTop (mkF m 204 #[.val (.long a), .second, .val (.long b), .second, .val (.int f), .val (.int mm), .val (.int (Int32.ofNat nf)), .val (.int (Int32.ofNat nn)), .val (.int (Int32.ofNat (nf + nn))), .unset, .unset, .unset] [(.int (Int32.ofNat (nf + nn))), (.int (Int32.ofNat nf)), (.int (12 : Int32)), (.int (12 : Int32)), (.ref ca), (.ref ca)]))
  refine own_st (fun _ k' => XS.lloadN X60.here hx rfl (hb hby at_204) rfl k') ?_
  show own_Go p.tables e below _ (T60.setTop (mkF m 205 #[.val (.long a), .second, .val (.long b), .second, .val (.int f), .val (.int mm), .val (.int (Int32.ofNat nf)), .val (.int (Int32.ofNat nn)), .val (.int (Int32.ofNat (nf + nn))), .unset, .unset, .unset] [(.long a), (.int (Int32.ofNat (nf + nn))), (.int (Int32.ofNat nf)), (.int (12 : Int32)), (.int (12 : Int32)), (.ref ca), (.ref ca)]))
  refine own_st (fun _ k' => XS.lloadN X60.here hx rfl (hb hby at_205) rfl k') ?_
  show own_Go p.tables e below _ (T60.setTop (mkF m 206 #[.val (.long a), .second, .val (.long b), .second, .val (.int f), .val (.int mm), .val (.int (Int32.ofNat nf)), .val (.int (Int32.ofNat nn)), .val (.int (Int32.ofNat (nf + nn))), .unset, .unset, .unset] [(.long b), (.long a), (.int (Int32.ofNat (nf + nn))), (.int (Int32.ofNat nf)), (.int (12 : Int32)), (.int (12 : Int32)), (.ref ca), (.ref ca)]))
  obtain ⟨_, _, ⟨T63, L63, k63, n63⟩, -, X63, ⟨Lc63, hQ63, l63, y63, z63⟩, st63⟩ := Jvm.LawKit.callS X60 hx (y := (⟨"com/example/frozen_thread/frozenthread/text/DigitsNanosPinLaw", "ch", "(IIIJJ)C"⟩ : MethodName)) hown (mvT hZ (hw _ (List.mem_of_getElem? (i := 2) rfl))) (mvT hZ (hw _ (List.mem_of_getElem? (i := 3) rfl))) (mvT hZ (hw _ (List.mem_of_getElem? (i := 4) rfl))) (mvT hZ (hw _ (List.mem_of_getElem? (i := 5) rfl))) (by decide) (backOf (W := 3) (rmCh l Z a0 hw [] (12 : Int32) (Int32.ofNat nf) (Int32.ofNat (nf + nn)) a b h60 n0 ZW60 ) hZ (hw _ (List.mem_of_getElem? (i := 5) rfl)) (hw _ (List.mem_of_getElem? (i := 4) rfl)) (by decide) (by decide)) (g := (mkF m 206 #[.val (.long a), .second, .val (.long b), .second, .val (.int f), .val (.int mm), .val (.int (Int32.ofNat nf)), .val (.int (Int32.ofNat nn)), .val (.int (Int32.ofNat (nf + nn))), .unset, .unset, .unset] [(.long b), (.long a), (.int (Int32.ofNat (nf + nn))), (.int (Int32.ofNat nf)), (.int (12 : Int32)), (.int (12 : Int32)), (.ref ca), (.ref ca)])) rfl (by rw [hml]; rfl) (argsL := [(.int (12 : Int32)), (.int (Int32.ofNat nf)), (.int (Int32.ofNat (nf + nn))), (.long a), (.long b)]) (rest := [(.int (12 : Int32)), (.ref ca), (.ref ca)]) (lenOf pd__IIIJJ_C rfl) rfl (by show 2 * 0 + _ ≤ _; exact Nat.le_of_eq rfl) (hb hby at_206) (fun _ _ => ⟨rfl, e60, (by decide : 1 + 0 ≤ _), (by decide : 14 + 0 ≤ _)⟩)
  dsimp only [Pt.U, Pt.locs, Pt.cells, Pt.slots] at X63 l63 y63 z63 st63 hQ63
  have y63 : k63 = 1 := y63
  have z63 : n63 = 14 := z63
  subst y63 z63
  obtain ⟨rfl, Nq63, e63⟩ := hQ63
  have N63 : Fr n0 L63 := by rw [l63]; exact Fr.app N60 Nq63
  refine own_st st63 ?_
  show own_Go p.tables e below _ (T63.setTop (mkF m 209 #[.val (.long a), .second, .val (.long b), .second, .val (.int f), .val (.int mm), .val (.int (Int32.ofNat nf)), .val (.int (Int32.ofNat nn)), .val (.int (Int32.ofNat (nf + nn))), .unset, .unset, .unset] [(.int (own_ch (12 : Int32) (Int32.ofNat nf) (Int32.ofNat (nf + nn)) a b)), (.int (12 : Int32)), (.ref ca), (.ref ca)]))
  obtain ⟨cl64, Ar64, qc64, Sz64, Nn64, Hs64, Gs64⟩ := id Vm60
  obtain ⟨T65, h65, X65, e65, W65, st65⟩ := stC X63 hx hZ e63 Ar64 (j := (12 : Int32)) (inb_of Sz64 ⟨by decide, by decide⟩) (g := (mkF m 209 #[.val (.long a), .second, .val (.long b), .second, .val (.int f), .val (.int mm), .val (.int (Int32.ofNat nf)), .val (.int (Int32.ofNat nn)), .val (.int (Int32.ofNat (nf + nn))), .unset, .unset, .unset] [(.int (own_ch (12 : Int32) (Int32.ofNat nf) (Int32.ofNat (nf + nn)) a b)), (.int (12 : Int32)), (.ref ca), (.ref ca)])) rfl rfl (hb hby at_209)
  have N65 := Fr.snoc X65 N63 g_ca
  have Vn65 := Arv.set Ar64 qc64 Sz64 Nn64 Hs64 Gs64 (fits_nar_char _) W65 12 rfl (Nat.le_of_ble_eq_true rfl)
  rw [own_nc] at Vn65
  have O__x66 := O__x61.wr W65 g_ca
  have Vm65 : Arv Z h65 ca k1 .char (14 : Int32) [(.int (own_ch (0 : Int32) (Int32.ofNat nf) (Int32.ofNat (nf + nn)) a b)), (.int (own_ch (1 : Int32) (Int32.ofNat nf) (Int32.ofNat (nf + nn)) a b)), (.int (own_ch (2 : Int32) (Int32.ofNat nf) (Int32.ofNat (nf + nn)) a b)), (.int (own_ch (3 : Int32) (Int32.ofNat nf) (Int32.ofNat (nf + nn)) a b)), (.int (own_ch (4 : Int32) (Int32.ofNat nf) (Int32.ofNat (nf + nn)) a b)), (.int (own_ch (5 : Int32) (Int32.ofNat nf) (Int32.ofNat (nf + nn)) a b)), (.int (own_ch (6 : Int32) (Int32.ofNat nf) (Int32.ofNat (nf + nn)) a b)), (.int (own_ch (7 : Int32) (Int32.ofNat nf) (Int32.ofNat (nf + nn)) a b)), (.int (own_ch (8 : Int32) (Int32.ofNat nf) (Int32.ofNat (nf + nn)) a b)), (.int (own_ch (9 : Int32) (Int32.ofNat nf) (Int32.ofNat (nf + nn)) a b)), (.int (own_ch (10 : Int32) (Int32.ofNat nf) (Int32.ofNat (nf + nn)) a b)), (.int (own_ch (11 : Int32) (Int32.ofNat nf) (Int32.ofNat (nf + nn)) a b)), (.int (own_ch (12 : Int32) (Int32.ofNat nf) (Int32.ofNat (nf + nn)) a b)), (.int (0 : Int32))] (.int (0 : Int32)) := Vn65
  have ZW65 : n0 ≤ h65.size := Nat.le_trans ZW60 (Keep.of_wr W65).1
  refine own_st st65 ?_
  show own_Go p.tables e below _ (T65.setTop (mkF m 210 #[.val (.long a), .second, .val (.long b), .second, .val (.int f), .val (.int mm), .val (.int (Int32.ofNat nf)), .val (.int (Int32.ofNat nn)), .val (.int (Int32.ofNat (nf + nn))), .unset, .unset, .unset] [(.ref ca)]))
  refine own_st (fun _ k' => XS.dup X65.here hx rfl (hb hby at_210) rfl rfl k') ?_
  show own_Go p.tables e below _ (T65.setTop (mkF m 211 #[.val (.long a), .second, .val (.long b), .second, .val (.int f), .val (.int mm), .val (.int (Int32.ofNat nf)), .val (.int (Int32.ofNat nn)), .val (.int (Int32.ofNat (nf + nn))), .unset, .unset, .unset] [(.ref ca), (.ref ca)]))
  refine own_st (fun _ k' => XS.bipush X65.here hx rfl (hb hby at_211) k') ?_
  show own_Go p.tables e below _ (T65.setTop (mkF m 213 #[.val (.long a), .second, .val (.long b), .second, .val (.int f), .val (.int mm), .val (.int (Int32.ofNat nf)), .val (.int (Int32.ofNat nn)), .val (.int (Int32.ofNat (nf + nn))), .unset, .unset, .unset] [(.int (13 : Int32)), (.ref ca), (.ref ca)]))
  refine own_st (fun _ k' => XS.bipush X65.here hx rfl (hb hby at_213) k') ?_
  show own_Go p.tables e below _ (T65.setTop (mkF m 215 #[.val (.long a), .second, .val (.long b), .second, .val (.int f), .val (.int mm), .val (.int (Int32.ofNat nf)), .val (.int (Int32.ofNat nn)), .val (.int (Int32.ofNat (nf + nn))), .unset, .unset, .unset] [(.int (13 : Int32)), (.int (13 : Int32)), (.ref ca), (.ref ca)]))
  refine own_st (fun _ k' => XS.iload X65.here hx rfl (hb hby at_215) rfl k') ?_
  show own_Go p.tables e below _ (T65.setTop (mkF m 217 #[.val (.long a), .second, .val (.long b), .second, .val (.int f), .val (.int mm), .val (.int (Int32.ofNat nf)), .val (.int (Int32.ofNat nn)), .val (.int (Int32.ofNat (nf + nn))), .unset, .unset, .unset] [(.int (Int32.ofNat nf)), (.int (13 : Int32)), (.int (13 : Int32)), (.ref ca), (.ref ca)]))
  refine own_st (fun _ k' => XS.iload X65.here hx rfl (hb hby at_217) rfl k') ?_
  show own_Go p.tables e below _ (T65.setTop (mkF m 219 #[.val (.long a), .second, .val (.long b), .second, .val (.int f), .val (.int mm), .val (.int (Int32.ofNat nf)), .val (.int (Int32.ofNat nn)), .val (.int (Int32.ofNat (nf + nn))), .unset, .unset, .unset] [(.int (Int32.ofNat (nf + nn))), (.int (Int32.ofNat nf)), (.int (13 : Int32)), (.int (13 : Int32)), (.ref ca), (.ref ca)]))
  refine own_st (fun _ k' => XS.lloadN X65.here hx rfl (hb hby at_219) rfl k') ?_
  show own_Go p.tables e below _ (T65.setTop (mkF m 220 #[.val (.long a), .second, .val (.long b), .second, .val (.int f), .val (.int mm), .val (.int (Int32.ofNat nf)), .val (.int (Int32.ofNat nn)), .val (.int (Int32.ofNat (nf + nn))), .unset, .unset, .unset] [(.long a), (.int (Int32.ofNat (nf + nn))), (.int (Int32.ofNat nf)), (.int (13 : Int32)), (.int (13 : Int32)), (.ref ca), (.ref ca)]))
  refine own_st (fun _ k' => XS.lloadN X65.here hx rfl (hb hby at_220) rfl k') ?_
  show own_Go p.tables e below _ (T65.setTop (mkF m 221 #[.val (.long a), .second, .val (.long b), .second, .val (.int f), .val (.int mm), .val (.int (Int32.ofNat nf)), .val (.int (Int32.ofNat nn)), .val (.int (Int32.ofNat (nf + nn))), .unset, .unset, .unset] [(.long b), (.long a), (.int (Int32.ofNat (nf + nn))), (.int (Int32.ofNat nf)), (.int (13 : Int32)), (.int (13 : Int32)), (.ref ca), (.ref ca)]))
  obtain ⟨_, _, ⟨T68, L68, k68, n68⟩, -, X68, ⟨Lc68, hQ68, l68, y68, z68⟩, st68⟩ := Jvm.LawKit.callS X65 hx (y := (⟨"com/example/frozen_thread/frozenthread/text/DigitsNanosPinLaw", "ch", "(IIIJJ)C"⟩ : MethodName)) hown (mvT hZ (hw _ (List.mem_of_getElem? (i := 2) rfl))) (mvT hZ (hw _ (List.mem_of_getElem? (i := 3) rfl))) (mvT hZ (hw _ (List.mem_of_getElem? (i := 4) rfl))) (mvT hZ (hw _ (List.mem_of_getElem? (i := 5) rfl))) (by decide) (backOf (W := 3) (rmCh l Z a0 hw [] (13 : Int32) (Int32.ofNat nf) (Int32.ofNat (nf + nn)) a b h65 n0 ZW65 ) hZ (hw _ (List.mem_of_getElem? (i := 5) rfl)) (hw _ (List.mem_of_getElem? (i := 4) rfl)) (by decide) (by decide)) (g := (mkF m 221 #[.val (.long a), .second, .val (.long b), .second, .val (.int f), .val (.int mm), .val (.int (Int32.ofNat nf)), .val (.int (Int32.ofNat nn)), .val (.int (Int32.ofNat (nf + nn))), .unset, .unset, .unset] [(.long b), (.long a), (.int (Int32.ofNat (nf + nn))), (.int (Int32.ofNat nf)), (.int (13 : Int32)), (.int (13 : Int32)), (.ref ca), (.ref ca)])) rfl (by rw [hml]; rfl) (argsL := [(.int (13 : Int32)), (.int (Int32.ofNat nf)), (.int (Int32.ofNat (nf + nn))), (.long a), (.long b)]) (rest := [(.int (13 : Int32)), (.ref ca), (.ref ca)]) (lenOf pd__IIIJJ_C rfl) rfl (by show 2 * 0 + _ ≤ _; exact Nat.le_of_eq rfl) (hb hby at_221) (fun _ _ => ⟨rfl, e65, (by decide : 1 + 0 ≤ _), (by decide : 14 + 0 ≤ _)⟩)
  dsimp only [Pt.U, Pt.locs, Pt.cells, Pt.slots] at X68 l68 y68 z68 st68 hQ68
  have y68 : k68 = 1 := y68
  have z68 : n68 = 14 := z68
  subst y68 z68
  obtain ⟨rfl, Nq68, e68⟩ := hQ68
  have N68 : Fr n0 L68 := by rw [l68]; exact Fr.app N65 Nq68
  refine own_st st68 ?_
  show own_Go p.tables e below _ (T68.setTop (mkF m 224 #[.val (.long a), .second, .val (.long b), .second, .val (.int f), .val (.int mm), .val (.int (Int32.ofNat nf)), .val (.int (Int32.ofNat nn)), .val (.int (Int32.ofNat (nf + nn))), .unset, .unset, .unset] [(.int (own_ch (13 : Int32) (Int32.ofNat nf) (Int32.ofNat (nf + nn)) a b)), (.int (13 : Int32)), (.ref ca), (.ref ca)]))
  obtain ⟨cl69, Ar69, qc69, Sz69, Nn69, Hs69, Gs69⟩ := id Vm65
  obtain ⟨T70, h70, X70, e70, W70, st70⟩ := stC X68 hx hZ e68 Ar69 (j := (13 : Int32)) (inb_of Sz69 ⟨by decide, by decide⟩) (g := (mkF m 224 #[.val (.long a), .second, .val (.long b), .second, .val (.int f), .val (.int mm), .val (.int (Int32.ofNat nf)), .val (.int (Int32.ofNat nn)), .val (.int (Int32.ofNat (nf + nn))), .unset, .unset, .unset] [(.int (own_ch (13 : Int32) (Int32.ofNat nf) (Int32.ofNat (nf + nn)) a b)), (.int (13 : Int32)), (.ref ca), (.ref ca)])) rfl rfl (hb hby at_224)
  have N70 := Fr.snoc X70 N68 g_ca
  have Vn70 := Arv.set Ar69 qc69 Sz69 Nn69 Hs69 Gs69 (fits_nar_char _) W70 13 rfl (Nat.le_of_ble_eq_true rfl)
  rw [own_nc] at Vn70
  have O__x71 := O__x66.wr W70 g_ca
  have Vm70 : Arv Z h70 ca k1 .char (14 : Int32) [(.int (own_ch (0 : Int32) (Int32.ofNat nf) (Int32.ofNat (nf + nn)) a b)), (.int (own_ch (1 : Int32) (Int32.ofNat nf) (Int32.ofNat (nf + nn)) a b)), (.int (own_ch (2 : Int32) (Int32.ofNat nf) (Int32.ofNat (nf + nn)) a b)), (.int (own_ch (3 : Int32) (Int32.ofNat nf) (Int32.ofNat (nf + nn)) a b)), (.int (own_ch (4 : Int32) (Int32.ofNat nf) (Int32.ofNat (nf + nn)) a b)), (.int (own_ch (5 : Int32) (Int32.ofNat nf) (Int32.ofNat (nf + nn)) a b)), (.int (own_ch (6 : Int32) (Int32.ofNat nf) (Int32.ofNat (nf + nn)) a b)), (.int (own_ch (7 : Int32) (Int32.ofNat nf) (Int32.ofNat (nf + nn)) a b)), (.int (own_ch (8 : Int32) (Int32.ofNat nf) (Int32.ofNat (nf + nn)) a b)), (.int (own_ch (9 : Int32) (Int32.ofNat nf) (Int32.ofNat (nf + nn)) a b)), (.int (own_ch (10 : Int32) (Int32.ofNat nf) (Int32.ofNat (nf + nn)) a b)), (.int (own_ch (11 : Int32) (Int32.ofNat nf) (Int32.ofNat (nf + nn)) a b)), (.int (own_ch (12 : Int32) (Int32.ofNat nf) (Int32.ofNat (nf + nn)) a b)), (.int (own_ch (13 : Int32) (Int32.ofNat nf) (Int32.ofNat (nf + nn)) a b))] (.int (0 : Int32)) := Vn70
  have ZW70 : n0 ≤ h70.size := Nat.le_trans ZW65 (Keep.of_wr W70).1
  refine own_st st70 ?_
  show own_Go p.tables e below _ (T70.setTop (mkF m 225 #[.val (.long a), .second, .val (.long b), .second, .val (.int f), .val (.int mm), .val (.int (Int32.ofNat nf)), .val (.int (Int32.ofNat nn)), .val (.int (Int32.ofNat (nf + nn))), .unset, .unset, .unset] [(.ref ca)]))
  refine own_st (fun _ k' => XS.astore X70.here hx rfl (hb hby at_225) rfl rfl (l' := #[.val (.long a), .second, .val (.long b), .second, .val (.int f), .val (.int mm), .val (.int (Int32.ofNat nf)), .val (.int (Int32.ofNat nn)), .val (.int (Int32.ofNat (nf + nn))), .val (.ref ca), .unset, .unset]) rfl k') ?_
  show own_Go p.tables e below _ (T70.setTop (mkF m 227 #[.val (.long a), .second, .val (.long b), .second, .val (.int f), .val (.int mm), .val (.int (Int32.ofNat nf)), .val (.int (Int32.ofNat nn)), .val (.int (Int32.ofNat (nf + nn))), .val (.ref ca), .unset, .unset] []))
  obtain ⟨T73, h73, X73, e73, E73, A73, D73, -, st73⟩ := newO X70 hx hZ hown (hw _ (List.mem_of_getElem? (i := 11) rfl)) (hw _ (List.mem_of_getElem? (i := 12) rfl)) (hw _ (List.mem_of_getElem? (i := 13) rfl)) e70 (g := (mkF m 227 #[.val (.long a), .second, .val (.long b), .second, .val (.int f), .val (.int mm), .val (.int (Int32.ofNat nf)), .val (.int (Int32.ofNat nn)), .val (.int (Int32.ofNat (nf + nn))), .val (.ref ca), .unset, .unset] [])) rfl (hb hby at_227) (by decide) (by decide)
  obtain ⟨b73, g73⟩ : ∃ z, z = h70.size := ⟨_, rfl⟩
  rw [← g73] at A73 D73 st73
  have g_b73 : n0 ≤ b73 := Nat.le_trans ZW70 (Nat.le_of_eq g73.symm)
  have ne_ca_b73 : ca ≠ b73 := Nat.ne_of_lt (Nat.lt_of_lt_of_le Vm70.lt (Nat.le_of_eq g73.symm))
  have O__x74 := O__x71.ext E73
  have Vm70_x75 := Vm70.ext E73
  have ZE73 : n0 ≤ h73.size := Nat.le_trans ZW70 E73.1
  have F_coder_b73 : Fld Z h73 b73 "java/lang/String" "coder" "B" (.int (0 : Int32)) := D73 (Or.inr (hw _ (List.mem_of_getElem? (i := 37) rfl))) (ty := .byte) (by decide)
  have F_value_b73 : Fld Z h73 b73 "java/lang/String" "value" "[B" .null := D73 (Or.inr (hw _ (List.mem_of_getElem? (i := 39) rfl))) (ty := (.array .byte)) (by decide)
  refine own_st st73 ?_
  show own_Go p.tables e below _ (T73.setTop (mkF m 230 #[.val (.long a), .second, .val (.long b), .second, .val (.int f), .val (.int mm), .val (.int (Int32.ofNat nf)), .val (.int (Int32.ofNat nn)), .val (.int (Int32.ofNat (nf + nn))), .val (.ref ca), .unset, .unset] [(.ref b73)]))
  refine own_st (fun _ k' => XS.dup X73.here hx rfl (hb hby at_230) rfl rfl k') ?_
  show own_Go p.tables e below _ (T73.setTop (mkF m 231 #[.val (.long a), .second, .val (.long b), .second, .val (.int f), .val (.int mm), .val (.int (Int32.ofNat nf)), .val (.int (Int32.ofNat nn)), .val (.int (Int32.ofNat (nf + nn))), .val (.ref ca), .unset, .unset] [(.ref b73), (.ref b73)]))
  refine own_st (fun _ k' => XS.aload X73.here hx rfl (hb hby at_231) rfl rfl k') ?_
  show own_Go p.tables e below _ (T73.setTop (mkF m 233 #[.val (.long a), .second, .val (.long b), .second, .val (.int f), .val (.int mm), .val (.int (Int32.ofNat nf)), .val (.int (Int32.ofNat nn)), .val (.int (Int32.ofNat (nf + nn))), .val (.ref ca), .unset, .unset] [(.ref ca), (.ref b73), (.ref b73)]))
  have hws : ∀ d ∈ StrChars.Road.words, d.before a0 Z = true := fun d hd => hw d ((by decide +kernel : ∀ d ∈ StrChars.Road.words, d ∈ tables_1) d hd)
  have hp := own_cs_in (Int32.ofNat nf) (Int32.ofNat (nf + nn)) a b
  have Vc : Arv Z h73 ca k1 .char (14 : Int32) ((own_cs (Int32.ofNat nf) (Int32.ofNat (nf + nn)) a b).map Value.int) (.int (0 : Int32)) := by rw [own_cs_eq]; exact Vm70_x75
  obtain ⟨_, _, ⟨T76, L76, k76, n76⟩, -, X76, ⟨Lc76, hQ76, l76, y76, z76⟩, st76⟩ := X73.specialBack hx (y := (⟨"java/lang/String", "<init>", "([C)V"⟩ : MethodName)) rfl hown (mvT hZ (hw _ (List.mem_of_getElem? (i := 14) rfl))) (mvT hZ (hw _ (List.mem_of_getElem? (i := 15) rfl))) (mvT hZ (hw _ (List.mem_of_getElem? (i := 16) rfl))) (by decide) (StrChars.Road.backV (W := 1) hZ hws (kI := 4) (hw _ (List.mem_of_getElem? (i := 12) rfl)) (cs := (own_cs (Int32.ofNat nf) (Int32.ofNat (nf + nn)) a b)) (bs := (own_cs (Int32.ofNat nf) (Int32.ofNat (nf + nn)) a b).map (fun c => c.toInt8.toInt32)) (n := 14) g_b73 ZE73 A73 F_value_b73 F_coder_b73 Vc (O2.ext O__x74.2) P5 (own_cs_len _ _ _ _) rfl (by decide) (by decide) hp rfl (by decide) (by decide)) (g := (mkF m 233 #[.val (.long a), .second, .val (.long b), .second, .val (.int f), .val (.int mm), .val (.int (Int32.ofNat nf)), .val (.int (Int32.ofNat nn)), .val (.int (Int32.ofNat (nf + nn))), .val (.ref ca), .unset, .unset] [(.ref ca), (.ref b73), (.ref b73)])) rfl (by rw [hml]; rfl) (Steps.refl _) (a := b73) (argsL := [(.ref ca)]) (rest := [(.ref b73)]) (lenOf pd___C_V rfl) rfl (by show 2 * 0 + _ ≤ _; exact Nat.le_of_eq rfl) (hb hby at_233) (fun _ _ => ⟨rfl, e73, (by decide : 2 + 1 ≤ _), (by decide : 18 + 14 ≤ _)⟩)
  dsimp only [Pt.U, Pt.locs, Pt.cells, Pt.slots] at X76 l76 y76 z76 st76 hQ76
  have y76 : k76 = 3 := y76
  have z76 : n76 = 32 := z76
  subst l76 y76 z76
  obtain ⟨rfl, Nq76, Kc76, Es, Fc, t, kb, ut, vt, wt, Fv, Vt⟩ := hQ76
  have N76 := Fr.app N70 Nq76
  have O__x77 := O__x74.keep Kc76 (allS g_b73 all0)
  have Zc76 : n0 ≤ T76.heap.size := Nat.le_trans ZE73 Kc76.1
  refine own_tr st76 ?_
  show own_Go p.tables e below _ (T76.setTop (mkF m 236 #[.val (.long a), .second, .val (.long b), .second, .val (.int f), .val (.int mm), .val (.int (Int32.ofNat nf)), .val (.int (Int32.ofNat nn)), .val (.int (Int32.ofNat (nf + nn))), .val (.ref ca), .unset, .unset] [(.ref b73)]))
  refine own_st (fun _ k' => XS.astore X76.here hx rfl (hb hby at_236) rfl rfl (l' := #[.val (.long a), .second, .val (.long b), .second, .val (.int f), .val (.int mm), .val (.int (Int32.ofNat nf)), .val (.int (Int32.ofNat nn)), .val (.int (Int32.ofNat (nf + nn))), .val (.ref ca), .val (.ref b73), .unset]) rfl k') ?_
  show own_Go p.tables e below _ (T76.setTop (mkF m 238 #[.val (.long a), .second, .val (.long b), .second, .val (.int f), .val (.int mm), .val (.int (Int32.ofNat nf)), .val (.int (Int32.ofNat nn)), .val (.int (Int32.ofNat (nf + nn))), .val (.ref ca), .val (.ref b73), .unset] []))
  refine own_st (fun _ k' => XS.iconst X76.here hx rfl (hb hby at_238) k') ?_
  show own_Go p.tables e below _ (T76.setTop (mkF m 239 #[.val (.long a), .second, .val (.long b), .second, .val (.int f), .val (.int mm), .val (.int (Int32.ofNat nf)), .val (.int (Int32.ofNat nn)), .val (.int (Int32.ofNat (nf + nn))), .val (.ref ca), .val (.ref b73), .unset] [(.int (0 : Int32))]))
  refine own_st (fun _ k' => XS.iload X76.here hx rfl (hb hby at_239) rfl k') ?_
  show own_Go p.tables e below _ (T76.setTop (mkF m 241 #[.val (.long a), .second, .val (.long b), .second, .val (.int f), .val (.int mm), .val (.int (Int32.ofNat nf)), .val (.int (Int32.ofNat nn)), .val (.int (Int32.ofNat (nf + nn))), .val (.ref ca), .val (.ref b73), .unset] [(.int (Int32.ofNat nf)), (.int (0 : Int32))]))
  refine own_st (fun _ k' => XS.iload X76.here hx rfl (hb hby at_241) rfl k') ?_
  show own_Go p.tables e below _ (T76.setTop (mkF m 243 #[.val (.long a), .second, .val (.long b), .second, .val (.int f), .val (.int mm), .val (.int (Int32.ofNat nf)), .val (.int (Int32.ofNat nn)), .val (.int (Int32.ofNat (nf + nn))), .val (.ref ca), .val (.ref b73), .unset] [(.int (Int32.ofNat nn)), (.int (Int32.ofNat nf)), (.int (0 : Int32))]))
  refine own_st (fun _ k' => XS.lloadN X76.here hx rfl (hb hby at_243) rfl k') ?_
  show own_Go p.tables e below _ (T76.setTop (mkF m 244 #[.val (.long a), .second, .val (.long b), .second, .val (.int f), .val (.int mm), .val (.int (Int32.ofNat nf)), .val (.int (Int32.ofNat nn)), .val (.int (Int32.ofNat (nf + nn))), .val (.ref ca), .val (.ref b73), .unset] [(.long a), (.int (Int32.ofNat nn)), (.int (Int32.ofNat nf)), (.int (0 : Int32))]))
  obtain ⟨_, _, ⟨T78, L78, k78, n78⟩, -, X78, ⟨Lc78, hQ78, l78, y78, z78⟩, st78⟩ := Jvm.LawKit.callS X76 hx (y := (⟨"com/example/frozen_thread/frozenthread/text/DigitsNanosPinLaw", "dv", "(IIIJ)I"⟩ : MethodName)) hown (mvT hZ (hw _ (List.mem_of_getElem? (i := 40) rfl))) (mvT hZ (hw _ (List.mem_of_getElem? (i := 41) rfl))) (mvT hZ (hw _ (List.mem_of_getElem? (i := 4) rfl))) (mvT hZ (hw _ (List.mem_of_getElem? (i := 42) rfl))) (by decide) (backOf (W := 0) (rmDv l Z a0 hw [] (0 : Int32) (Int32.ofNat nf) (Int32.ofNat nn) a T76.heap n0 Zc76 ) hZ (hw _ (List.mem_of_getElem? (i := 42) rfl)) (hw _ (List.mem_of_getElem? (i := 4) rfl)) (by decide) (by decide)) (g := (mkF m 244 #[.val (.long a), .second, .val (.long b), .second, .val (.int f), .val (.int mm), .val (.int (Int32.ofNat nf)), .val (.int (Int32.ofNat nn)), .val (.int (Int32.ofNat (nf + nn))), .val (.ref ca), .val (.ref b73), .unset] [(.long a), (.int (Int32.ofNat nn)), (.int (Int32.ofNat nf)), (.int (0 : Int32))])) rfl (by rw [hml]; rfl) (argsL := [(.int (0 : Int32)), (.int (Int32.ofNat nf)), (.int (Int32.ofNat nn)), (.long a)]) (rest := []) (lenOf pd__IIIJ_I rfl) rfl (by show 2 * 0 + _ ≤ _; exact Nat.le_of_eq rfl) (hb hby at_244) (fun _ _ => ⟨rfl, rfl, (by decide : 3 + 0 ≤ _), (by decide : 32 + 0 ≤ _)⟩)
  dsimp only [Pt.U, Pt.locs, Pt.cells, Pt.slots] at X78 l78 y78 z78 st78 hQ78
  have y78 : k78 = 3 := y78
  have z78 : n78 = 32 := z78
  subst y78 z78
  obtain ⟨rfl, Nq78, e78⟩ := hQ78
  have N78 : Fr n0 L78 := by rw [l78]; exact Fr.app N76 Nq78
  refine own_st st78 ?_
  show own_Go p.tables e below _ (T78.setTop (mkF m 247 #[.val (.long a), .second, .val (.long b), .second, .val (.int f), .val (.int mm), .val (.int (Int32.ofNat nf)), .val (.int (Int32.ofNat nn)), .val (.int (Int32.ofNat (nf + nn))), .val (.ref ca), .val (.ref b73), .unset] [(.int (own_dv (0 : Int32) (Int32.ofNat nf) (Int32.ofNat nn) a))]))
  refine own_st (fun t' k' => X78.ldcInt hx hown (mvT hZ (hw _ (List.mem_of_getElem? (i := 43) rfl))) (g := (mkF m 247 #[.val (.long a), .second, .val (.long b), .second, .val (.int f), .val (.int mm), .val (.int (Int32.ofNat nf)), .val (.int (Int32.ofNat nn)), .val (.int (Int32.ofNat (nf + nn))), .val (.ref ca), .val (.ref b73), .unset] [(.int (own_dv (0 : Int32) (Int32.ofNat nf) (Int32.ofNat nn) a))])) rfl (hb hby at_247) t' k') ?_
  show own_Go p.tables e below _ (T78.setTop (mkF m 249 #[.val (.long a), .second, .val (.long b), .second, .val (.int f), .val (.int mm), .val (.int (Int32.ofNat nf)), .val (.int (Int32.ofNat nn)), .val (.int (Int32.ofNat (nf + nn))), .val (.ref ca), .val (.ref b73), .unset] [(.int (100000000 : Int32)), (.int (own_dv (0 : Int32) (Int32.ofNat nf) (Int32.ofNat nn) a))]))
  refine own_st (fun _ k' => XS.imul X78.here hx rfl (hb hby at_249) rfl k') ?_
  show own_Go p.tables e below _ (T78.setTop (mkF m 250 #[.val (.long a), .second, .val (.long b), .second, .val (.int f), .val (.int mm), .val (.int (Int32.ofNat nf)), .val (.int (Int32.ofNat nn)), .val (.int (Int32.ofNat (nf + nn))), .val (.ref ca), .val (.ref b73), .unset] [(.int ((own_dv (0 : Int32) (Int32.ofNat nf) (Int32.ofNat nn) a) * (100000000 : Int32)))]))
  refine own_st (fun _ k' => XS.iconst X78.here hx rfl (hb hby at_250) k') ?_
  show own_Go p.tables e below _ (T78.setTop (mkF m 251 #[.val (.long a), .second, .val (.long b), .second, .val (.int f), .val (.int mm), .val (.int (Int32.ofNat nf)), .val (.int (Int32.ofNat nn)), .val (.int (Int32.ofNat (nf + nn))), .val (.ref ca), .val (.ref b73), .unset] [(.int (1 : Int32)), (.int ((own_dv (0 : Int32) (Int32.ofNat nf) (Int32.ofNat nn) a) * (100000000 : Int32)))]))
  refine own_st (fun _ k' => XS.iload X78.here hx rfl (hb hby at_251) rfl k') ?_
  show own_Go p.tables e below _ (T78.setTop (mkF m 253 #[.val (.long a), .second, .val (.long b), .second, .val (.int f), .val (.int mm), .val (.int (Int32.ofNat nf)), .val (.int (Int32.ofNat nn)), .val (.int (Int32.ofNat (nf + nn))), .val (.ref ca), .val (.ref b73), .unset] [(.int (Int32.ofNat nf)), (.int (1 : Int32)), (.int ((own_dv (0 : Int32) (Int32.ofNat nf) (Int32.ofNat nn) a) * (100000000 : Int32)))]))
  refine own_st (fun _ k' => XS.iload X78.here hx rfl (hb hby at_253) rfl k') ?_
  show own_Go p.tables e below _ (T78.setTop (mkF m 255 #[.val (.long a), .second, .val (.long b), .second, .val (.int f), .val (.int mm), .val (.int (Int32.ofNat nf)), .val (.int (Int32.ofNat nn)), .val (.int (Int32.ofNat (nf + nn))), .val (.ref ca), .val (.ref b73), .unset] [(.int (Int32.ofNat nn)), (.int (Int32.ofNat nf)), (.int (1 : Int32)), (.int ((own_dv (0 : Int32) (Int32.ofNat nf) (Int32.ofNat nn) a) * (100000000 : Int32)))]))
  refine own_st (fun _ k' => XS.lloadN X78.here hx rfl (hb hby at_255) rfl k') ?_
  show own_Go p.tables e below _ (T78.setTop (mkF m 256 #[.val (.long a), .second, .val (.long b), .second, .val (.int f), .val (.int mm), .val (.int (Int32.ofNat nf)), .val (.int (Int32.ofNat nn)), .val (.int (Int32.ofNat (nf + nn))), .val (.ref ca), .val (.ref b73), .unset] [(.long a), (.int (Int32.ofNat nn)), (.int (Int32.ofNat nf)), (.int (1 : Int32)), (.int ((own_dv (0 : Int32) (Int32.ofNat nf) (Int32.ofNat nn) a) * (100000000 : Int32)))]))
  obtain ⟨_, _, ⟨T79, L79, k79, n79⟩, -, X79, ⟨Lc79, hQ79, l79, y79, z79⟩, st79⟩ := Jvm.LawKit.callS X78 hx (y := (⟨"com/example/frozen_thread/frozenthread/text/DigitsNanosPinLaw", "dv", "(IIIJ)I"⟩ : MethodName)) hown (mvT hZ (hw _ (List.mem_of_getElem? (i := 40) rfl))) (mvT hZ (hw _ (List.mem_of_getElem? (i := 41) rfl))) (mvT hZ (hw _ (List.mem_of_getElem? (i := 4) rfl))) (mvT hZ (hw _ (List.mem_of_getElem? (i := 42) rfl))) (by decide) (backOf (W := 1) (rmDv l Z a0 hw [] (1 : Int32) (Int32.ofNat nf) (Int32.ofNat nn) a T76.heap n0 Zc76 ) hZ (hw _ (List.mem_of_getElem? (i := 42) rfl)) (hw _ (List.mem_of_getElem? (i := 4) rfl)) (by decide) (by decide)) (g := (mkF m 256 #[.val (.long a), .second, .val (.long b), .second, .val (.int f), .val (.int mm), .val (.int (Int32.ofNat nf)), .val (.int (Int32.ofNat nn)), .val (.int (Int32.ofNat (nf + nn))), .val (.ref ca), .val (.ref b73), .unset] [(.long a), (.int (Int32.ofNat nn)), (.int (Int32.ofNat nf)), (.int (1 : Int32)), (.int ((own_dv (0 : Int32) (Int32.ofNat nf) (Int32.ofNat nn) a) * (100000000 : Int32)))])) rfl (by rw [hml]; rfl) (argsL := [(.int (1 : Int32)), (.int (Int32.ofNat nf)), (.int (Int32.ofNat nn)), (.long a)]) (rest := [(.int ((own_dv (0 : Int32) (Int32.ofNat nf) (Int32.ofNat nn) a) * (100000000 : Int32)))]) (lenOf pd__IIIJ_I rfl) rfl (by show 2 * 0 + _ ≤ _; exact Nat.le_of_eq rfl) (hb hby at_256) (fun _ _ => ⟨rfl, e78, (by decide : 3 + 0 ≤ _), (by decide : 32 + 0 ≤ _)⟩)
  dsimp only [Pt.U, Pt.locs, Pt.cells, Pt.slots] at X79 l79 y79 z79 st79 hQ79
  have y79 : k79 = 3 := y79
  have z79 : n79 = 32 := z79
  subst y79 z79
  obtain ⟨rfl, Nq79, e79⟩ := hQ79
  have N79 : Fr n0 L79 := by rw [l79]; exact Fr.app N78 Nq79
  refine own_st st79 ?_
  show own_Go p.tables e below _ (T79.setTop (mkF m 259 #[.val (.long a), .second, .val (.long b), .second, .val (.int f), .val (.int mm), .val (.int (Int32.ofNat nf)), .val (.int (Int32.ofNat nn)), .val (.int (Int32.ofNat (nf + nn))), .val (.ref ca), .val (.ref b73), .unset] [(.int (own_dv (1 : Int32) (Int32.ofNat nf) (Int32.ofNat nn) a)), (.int ((own_dv (0 : Int32) (Int32.ofNat nf) (Int32.ofNat nn) a) * (100000000 : Int32)))]))
  refine own_st (fun t' k' => X79.ldcInt hx hown (mvT hZ (hw _ (List.mem_of_getElem? (i := 44) rfl))) (g := (mkF m 259 #[.val (.long a), .second, .val (.long b), .second, .val (.int f), .val (.int mm), .val (.int (Int32.ofNat nf)), .val (.int (Int32.ofNat nn)), .val (.int (Int32.ofNat (nf + nn))), .val (.ref ca), .val (.ref b73), .unset] [(.int (own_dv (1 : Int32) (Int32.ofNat nf) (Int32.ofNat nn) a)), (.int ((own_dv (0 : Int32) (Int32.ofNat nf) (Int32.ofNat nn) a) * (100000000 : Int32)))])) rfl (hb hby at_259) t' k') ?_
  show own_Go p.tables e below _ (T79.setTop (mkF m 261 #[.val (.long a), .second, .val (.long b), .second, .val (.int f), .val (.int mm), .val (.int (Int32.ofNat nf)), .val (.int (Int32.ofNat nn)), .val (.int (Int32.ofNat (nf + nn))), .val (.ref ca), .val (.ref b73), .unset] [(.int (10000000 : Int32)), (.int (own_dv (1 : Int32) (Int32.ofNat nf) (Int32.ofNat nn) a)), (.int ((own_dv (0 : Int32) (Int32.ofNat nf) (Int32.ofNat nn) a) * (100000000 : Int32)))]))
  refine own_st (fun _ k' => XS.imul X79.here hx rfl (hb hby at_261) rfl k') ?_
  show own_Go p.tables e below _ (T79.setTop (mkF m 262 #[.val (.long a), .second, .val (.long b), .second, .val (.int f), .val (.int mm), .val (.int (Int32.ofNat nf)), .val (.int (Int32.ofNat nn)), .val (.int (Int32.ofNat (nf + nn))), .val (.ref ca), .val (.ref b73), .unset] [(.int ((own_dv (1 : Int32) (Int32.ofNat nf) (Int32.ofNat nn) a) * (10000000 : Int32))), (.int ((own_dv (0 : Int32) (Int32.ofNat nf) (Int32.ofNat nn) a) * (100000000 : Int32)))]))
  refine own_st (fun _ k' => XS.iadd X79.here hx rfl (hb hby at_262) rfl k') ?_
  show own_Go p.tables e below _ (T79.setTop (mkF m 263 #[.val (.long a), .second, .val (.long b), .second, .val (.int f), .val (.int mm), .val (.int (Int32.ofNat nf)), .val (.int (Int32.ofNat nn)), .val (.int (Int32.ofNat (nf + nn))), .val (.ref ca), .val (.ref b73), .unset] [(.int (((own_dv (0 : Int32) (Int32.ofNat nf) (Int32.ofNat nn) a) * (100000000 : Int32)) + ((own_dv (1 : Int32) (Int32.ofNat nf) (Int32.ofNat nn) a) * (10000000 : Int32))))]))
  refine own_st (fun _ k' => XS.iconst X79.here hx rfl (hb hby at_263) k') ?_
  show own_Go p.tables e below _ (T79.setTop (mkF m 264 #[.val (.long a), .second, .val (.long b), .second, .val (.int f), .val (.int mm), .val (.int (Int32.ofNat nf)), .val (.int (Int32.ofNat nn)), .val (.int (Int32.ofNat (nf + nn))), .val (.ref ca), .val (.ref b73), .unset] [(.int (2 : Int32)), (.int (((own_dv (0 : Int32) (Int32.ofNat nf) (Int32.ofNat nn) a) * (100000000 : Int32)) + ((own_dv (1 : Int32) (Int32.ofNat nf) (Int32.ofNat nn) a) * (10000000 : Int32))))]))
  refine own_st (fun _ k' => XS.iload X79.here hx rfl (hb hby at_264) rfl k') ?_
  show own_Go p.tables e below _ (T79.setTop (mkF m 266 #[.val (.long a), .second, .val (.long b), .second, .val (.int f), .val (.int mm), .val (.int (Int32.ofNat nf)), .val (.int (Int32.ofNat nn)), .val (.int (Int32.ofNat (nf + nn))), .val (.ref ca), .val (.ref b73), .unset] [(.int (Int32.ofNat nf)), (.int (2 : Int32)), (.int (((own_dv (0 : Int32) (Int32.ofNat nf) (Int32.ofNat nn) a) * (100000000 : Int32)) + ((own_dv (1 : Int32) (Int32.ofNat nf) (Int32.ofNat nn) a) * (10000000 : Int32))))]))
  refine own_st (fun _ k' => XS.iload X79.here hx rfl (hb hby at_266) rfl k') ?_
  show own_Go p.tables e below _ (T79.setTop (mkF m 268 #[.val (.long a), .second, .val (.long b), .second, .val (.int f), .val (.int mm), .val (.int (Int32.ofNat nf)), .val (.int (Int32.ofNat nn)), .val (.int (Int32.ofNat (nf + nn))), .val (.ref ca), .val (.ref b73), .unset] [(.int (Int32.ofNat nn)), (.int (Int32.ofNat nf)), (.int (2 : Int32)), (.int (((own_dv (0 : Int32) (Int32.ofNat nf) (Int32.ofNat nn) a) * (100000000 : Int32)) + ((own_dv (1 : Int32) (Int32.ofNat nf) (Int32.ofNat nn) a) * (10000000 : Int32))))]))
  refine own_st (fun _ k' => XS.lloadN X79.here hx rfl (hb hby at_268) rfl k') ?_
  show own_Go p.tables e below _ (T79.setTop (mkF m 269 #[.val (.long a), .second, .val (.long b), .second, .val (.int f), .val (.int mm), .val (.int (Int32.ofNat nf)), .val (.int (Int32.ofNat nn)), .val (.int (Int32.ofNat (nf + nn))), .val (.ref ca), .val (.ref b73), .unset] [(.long a), (.int (Int32.ofNat nn)), (.int (Int32.ofNat nf)), (.int (2 : Int32)), (.int (((own_dv (0 : Int32) (Int32.ofNat nf) (Int32.ofNat nn) a) * (100000000 : Int32)) + ((own_dv (1 : Int32) (Int32.ofNat nf) (Int32.ofNat nn) a) * (10000000 : Int32))))]))
  obtain ⟨_, _, ⟨T80, L80, k80, n80⟩, -, X80, ⟨Lc80, hQ80, l80, y80, z80⟩, st80⟩ := Jvm.LawKit.callS X79 hx (y := (⟨"com/example/frozen_thread/frozenthread/text/DigitsNanosPinLaw", "dv", "(IIIJ)I"⟩ : MethodName)) hown (mvT hZ (hw _ (List.mem_of_getElem? (i := 40) rfl))) (mvT hZ (hw _ (List.mem_of_getElem? (i := 41) rfl))) (mvT hZ (hw _ (List.mem_of_getElem? (i := 4) rfl))) (mvT hZ (hw _ (List.mem_of_getElem? (i := 42) rfl))) (by decide) (backOf (W := 1) (rmDv l Z a0 hw [] (2 : Int32) (Int32.ofNat nf) (Int32.ofNat nn) a T76.heap n0 Zc76 ) hZ (hw _ (List.mem_of_getElem? (i := 42) rfl)) (hw _ (List.mem_of_getElem? (i := 4) rfl)) (by decide) (by decide)) (g := (mkF m 269 #[.val (.long a), .second, .val (.long b), .second, .val (.int f), .val (.int mm), .val (.int (Int32.ofNat nf)), .val (.int (Int32.ofNat nn)), .val (.int (Int32.ofNat (nf + nn))), .val (.ref ca), .val (.ref b73), .unset] [(.long a), (.int (Int32.ofNat nn)), (.int (Int32.ofNat nf)), (.int (2 : Int32)), (.int (((own_dv (0 : Int32) (Int32.ofNat nf) (Int32.ofNat nn) a) * (100000000 : Int32)) + ((own_dv (1 : Int32) (Int32.ofNat nf) (Int32.ofNat nn) a) * (10000000 : Int32))))])) rfl (by rw [hml]; rfl) (argsL := [(.int (2 : Int32)), (.int (Int32.ofNat nf)), (.int (Int32.ofNat nn)), (.long a)]) (rest := [(.int (((own_dv (0 : Int32) (Int32.ofNat nf) (Int32.ofNat nn) a) * (100000000 : Int32)) + ((own_dv (1 : Int32) (Int32.ofNat nf) (Int32.ofNat nn) a) * (10000000 : Int32))))]) (lenOf pd__IIIJ_I rfl) rfl (by show 2 * 0 + _ ≤ _; exact Nat.le_of_eq rfl) (hb hby at_269) (fun _ _ => ⟨rfl, e79, (by decide : 3 + 0 ≤ _), (by decide : 32 + 0 ≤ _)⟩)
  dsimp only [Pt.U, Pt.locs, Pt.cells, Pt.slots] at X80 l80 y80 z80 st80 hQ80
  have y80 : k80 = 3 := y80
  have z80 : n80 = 32 := z80
  subst y80 z80
  obtain ⟨rfl, Nq80, e80⟩ := hQ80
  have N80 : Fr n0 L80 := by rw [l80]; exact Fr.app N79 Nq80
  refine own_st st80 ?_
  show own_Go p.tables e below _ (T80.setTop (mkF m 272 #[.val (.long a), .second, .val (.long b), .second, .val (.int f), .val (.int mm), .val (.int (Int32.ofNat nf)), .val (.int (Int32.ofNat nn)), .val (.int (Int32.ofNat (nf + nn))), .val (.ref ca), .val (.ref b73), .unset] [(.int (own_dv (2 : Int32) (Int32.ofNat nf) (Int32.ofNat nn) a)), (.int (((own_dv (0 : Int32) (Int32.ofNat nf) (Int32.ofNat nn) a) * (100000000 : Int32)) + ((own_dv (1 : Int32) (Int32.ofNat nf) (Int32.ofNat nn) a) * (10000000 : Int32))))]))
  refine own_st (fun t' k' => X80.ldcInt hx hown (mvT hZ (hw _ (List.mem_of_getElem? (i := 45) rfl))) (g := (mkF m 272 #[.val (.long a), .second, .val (.long b), .second, .val (.int f), .val (.int mm), .val (.int (Int32.ofNat nf)), .val (.int (Int32.ofNat nn)), .val (.int (Int32.ofNat (nf + nn))), .val (.ref ca), .val (.ref b73), .unset] [(.int (own_dv (2 : Int32) (Int32.ofNat nf) (Int32.ofNat nn) a)), (.int (((own_dv (0 : Int32) (Int32.ofNat nf) (Int32.ofNat nn) a) * (100000000 : Int32)) + ((own_dv (1 : Int32) (Int32.ofNat nf) (Int32.ofNat nn) a) * (10000000 : Int32))))])) rfl (hb hby at_272) t' k') ?_
  show own_Go p.tables e below _ (T80.setTop (mkF m 274 #[.val (.long a), .second, .val (.long b), .second, .val (.int f), .val (.int mm), .val (.int (Int32.ofNat nf)), .val (.int (Int32.ofNat nn)), .val (.int (Int32.ofNat (nf + nn))), .val (.ref ca), .val (.ref b73), .unset] [(.int (1000000 : Int32)), (.int (own_dv (2 : Int32) (Int32.ofNat nf) (Int32.ofNat nn) a)), (.int (((own_dv (0 : Int32) (Int32.ofNat nf) (Int32.ofNat nn) a) * (100000000 : Int32)) + ((own_dv (1 : Int32) (Int32.ofNat nf) (Int32.ofNat nn) a) * (10000000 : Int32))))]))
  refine own_st (fun _ k' => XS.imul X80.here hx rfl (hb hby at_274) rfl k') ?_
  show own_Go p.tables e below _ (T80.setTop (mkF m 275 #[.val (.long a), .second, .val (.long b), .second, .val (.int f), .val (.int mm), .val (.int (Int32.ofNat nf)), .val (.int (Int32.ofNat nn)), .val (.int (Int32.ofNat (nf + nn))), .val (.ref ca), .val (.ref b73), .unset] [(.int ((own_dv (2 : Int32) (Int32.ofNat nf) (Int32.ofNat nn) a) * (1000000 : Int32))), (.int (((own_dv (0 : Int32) (Int32.ofNat nf) (Int32.ofNat nn) a) * (100000000 : Int32)) + ((own_dv (1 : Int32) (Int32.ofNat nf) (Int32.ofNat nn) a) * (10000000 : Int32))))]))
  refine own_st (fun _ k' => XS.iadd X80.here hx rfl (hb hby at_275) rfl k') ?_
  show own_Go p.tables e below _ (T80.setTop (mkF m 276 #[.val (.long a), .second, .val (.long b), .second, .val (.int f), .val (.int mm), .val (.int (Int32.ofNat nf)), .val (.int (Int32.ofNat nn)), .val (.int (Int32.ofNat (nf + nn))), .val (.ref ca), .val (.ref b73), .unset] [(.int ((((own_dv (0 : Int32) (Int32.ofNat nf) (Int32.ofNat nn) a) * (100000000 : Int32)) + ((own_dv (1 : Int32) (Int32.ofNat nf) (Int32.ofNat nn) a) * (10000000 : Int32))) + ((own_dv (2 : Int32) (Int32.ofNat nf) (Int32.ofNat nn) a) * (1000000 : Int32))))]))
  refine own_st (fun _ k' => XS.iconst X80.here hx rfl (hb hby at_276) k') ?_
  show own_Go p.tables e below _ (T80.setTop (mkF m 277 #[.val (.long a), .second, .val (.long b), .second, .val (.int f), .val (.int mm), .val (.int (Int32.ofNat nf)), .val (.int (Int32.ofNat nn)), .val (.int (Int32.ofNat (nf + nn))), .val (.ref ca), .val (.ref b73), .unset] [(.int (3 : Int32)), (.int ((((own_dv (0 : Int32) (Int32.ofNat nf) (Int32.ofNat nn) a) * (100000000 : Int32)) + ((own_dv (1 : Int32) (Int32.ofNat nf) (Int32.ofNat nn) a) * (10000000 : Int32))) + ((own_dv (2 : Int32) (Int32.ofNat nf) (Int32.ofNat nn) a) * (1000000 : Int32))))]))
  refine own_st (fun _ k' => XS.iload X80.here hx rfl (hb hby at_277) rfl k') ?_
  show own_Go p.tables e below _ (T80.setTop (mkF m 279 #[.val (.long a), .second, .val (.long b), .second, .val (.int f), .val (.int mm), .val (.int (Int32.ofNat nf)), .val (.int (Int32.ofNat nn)), .val (.int (Int32.ofNat (nf + nn))), .val (.ref ca), .val (.ref b73), .unset] [(.int (Int32.ofNat nf)), (.int (3 : Int32)), (.int ((((own_dv (0 : Int32) (Int32.ofNat nf) (Int32.ofNat nn) a) * (100000000 : Int32)) + ((own_dv (1 : Int32) (Int32.ofNat nf) (Int32.ofNat nn) a) * (10000000 : Int32))) + ((own_dv (2 : Int32) (Int32.ofNat nf) (Int32.ofNat nn) a) * (1000000 : Int32))))]))
  refine own_st (fun _ k' => XS.iload X80.here hx rfl (hb hby at_279) rfl k') ?_
  show own_Go p.tables e below _ (T80.setTop (mkF m 281 #[.val (.long a), .second, .val (.long b), .second, .val (.int f), .val (.int mm), .val (.int (Int32.ofNat nf)), .val (.int (Int32.ofNat nn)), .val (.int (Int32.ofNat (nf + nn))), .val (.ref ca), .val (.ref b73), .unset] [(.int (Int32.ofNat nn)), (.int (Int32.ofNat nf)), (.int (3 : Int32)), (.int ((((own_dv (0 : Int32) (Int32.ofNat nf) (Int32.ofNat nn) a) * (100000000 : Int32)) + ((own_dv (1 : Int32) (Int32.ofNat nf) (Int32.ofNat nn) a) * (10000000 : Int32))) + ((own_dv (2 : Int32) (Int32.ofNat nf) (Int32.ofNat nn) a) * (1000000 : Int32))))]))
  refine own_st (fun _ k' => XS.lloadN X80.here hx rfl (hb hby at_281) rfl k') ?_
  show own_Go p.tables e below _ (T80.setTop (mkF m 282 #[.val (.long a), .second, .val (.long b), .second, .val (.int f), .val (.int mm), .val (.int (Int32.ofNat nf)), .val (.int (Int32.ofNat nn)), .val (.int (Int32.ofNat (nf + nn))), .val (.ref ca), .val (.ref b73), .unset] [(.long a), (.int (Int32.ofNat nn)), (.int (Int32.ofNat nf)), (.int (3 : Int32)), (.int ((((own_dv (0 : Int32) (Int32.ofNat nf) (Int32.ofNat nn) a) * (100000000 : Int32)) + ((own_dv (1 : Int32) (Int32.ofNat nf) (Int32.ofNat nn) a) * (10000000 : Int32))) + ((own_dv (2 : Int32) (Int32.ofNat nf) (Int32.ofNat nn) a) * (1000000 : Int32))))]))
  obtain ⟨_, _, ⟨T81, L81, k81, n81⟩, -, X81, ⟨Lc81, hQ81, l81, y81, z81⟩, st81⟩ := Jvm.LawKit.callS X80 hx (y := (⟨"com/example/frozen_thread/frozenthread/text/DigitsNanosPinLaw", "dv", "(IIIJ)I"⟩ : MethodName)) hown (mvT hZ (hw _ (List.mem_of_getElem? (i := 40) rfl))) (mvT hZ (hw _ (List.mem_of_getElem? (i := 41) rfl))) (mvT hZ (hw _ (List.mem_of_getElem? (i := 4) rfl))) (mvT hZ (hw _ (List.mem_of_getElem? (i := 42) rfl))) (by decide) (backOf (W := 1) (rmDv l Z a0 hw [] (3 : Int32) (Int32.ofNat nf) (Int32.ofNat nn) a T76.heap n0 Zc76 ) hZ (hw _ (List.mem_of_getElem? (i := 42) rfl)) (hw _ (List.mem_of_getElem? (i := 4) rfl)) (by decide) (by decide)) (g := (mkF m 282 #[.val (.long a), .second, .val (.long b), .second, .val (.int f), .val (.int mm), .val (.int (Int32.ofNat nf)), .val (.int (Int32.ofNat nn)), .val (.int (Int32.ofNat (nf + nn))), .val (.ref ca), .val (.ref b73), .unset] [(.long a), (.int (Int32.ofNat nn)), (.int (Int32.ofNat nf)), (.int (3 : Int32)), (.int ((((own_dv (0 : Int32) (Int32.ofNat nf) (Int32.ofNat nn) a) * (100000000 : Int32)) + ((own_dv (1 : Int32) (Int32.ofNat nf) (Int32.ofNat nn) a) * (10000000 : Int32))) + ((own_dv (2 : Int32) (Int32.ofNat nf) (Int32.ofNat nn) a) * (1000000 : Int32))))])) rfl (by rw [hml]; rfl) (argsL := [(.int (3 : Int32)), (.int (Int32.ofNat nf)), (.int (Int32.ofNat nn)), (.long a)]) (rest := [(.int ((((own_dv (0 : Int32) (Int32.ofNat nf) (Int32.ofNat nn) a) * (100000000 : Int32)) + ((own_dv (1 : Int32) (Int32.ofNat nf) (Int32.ofNat nn) a) * (10000000 : Int32))) + ((own_dv (2 : Int32) (Int32.ofNat nf) (Int32.ofNat nn) a) * (1000000 : Int32))))]) (lenOf pd__IIIJ_I rfl) rfl (by show 2 * 0 + _ ≤ _; exact Nat.le_of_eq rfl) (hb hby at_282) (fun _ _ => ⟨rfl, e80, (by decide : 3 + 0 ≤ _), (by decide : 32 + 0 ≤ _)⟩)
  dsimp only [Pt.U, Pt.locs, Pt.cells, Pt.slots] at X81 l81 y81 z81 st81 hQ81
  have y81 : k81 = 3 := y81
  have z81 : n81 = 32 := z81
  subst y81 z81
  obtain ⟨rfl, Nq81, e81⟩ := hQ81
  have N81 : Fr n0 L81 := by rw [l81]; exact Fr.app N80 Nq81
  refine own_st st81 ?_
  show own_Go p.tables e below _ (T81.setTop (mkF m 285 #[.val (.long a), .second, .val (.long b), .second, .val (.int f), .val (.int mm), .val (.int (Int32.ofNat nf)), .val (.int (Int32.ofNat nn)), .val (.int (Int32.ofNat (nf + nn))), .val (.ref ca), .val (.ref b73), .unset] [(.int (own_dv (3 : Int32) (Int32.ofNat nf) (Int32.ofNat nn) a)), (.int ((((own_dv (0 : Int32) (Int32.ofNat nf) (Int32.ofNat nn) a) * (100000000 : Int32)) + ((own_dv (1 : Int32) (Int32.ofNat nf) (Int32.ofNat nn) a) * (10000000 : Int32))) + ((own_dv (2 : Int32) (Int32.ofNat nf) (Int32.ofNat nn) a) * (1000000 : Int32))))]))
  refine own_st (fun t' k' => X81.ldcInt hx hown (mvT hZ (hw _ (List.mem_of_getElem? (i := 46) rfl))) (g := (mkF m 285 #[.val (.long a), .second, .val (.long b), .second, .val (.int f), .val (.int mm), .val (.int (Int32.ofNat nf)), .val (.int (Int32.ofNat nn)), .val (.int (Int32.ofNat (nf + nn))), .val (.ref ca), .val (.ref b73), .unset] [(.int (own_dv (3 : Int32) (Int32.ofNat nf) (Int32.ofNat nn) a)), (.int ((((own_dv (0 : Int32) (Int32.ofNat nf) (Int32.ofNat nn) a) * (100000000 : Int32)) + ((own_dv (1 : Int32) (Int32.ofNat nf) (Int32.ofNat nn) a) * (10000000 : Int32))) + ((own_dv (2 : Int32) (Int32.ofNat nf) (Int32.ofNat nn) a) * (1000000 : Int32))))])) rfl (hb hby at_285) t' k') ?_
  show own_Go p.tables e below _ (T81.setTop (mkF m 287 #[.val (.long a), .second, .val (.long b), .second, .val (.int f), .val (.int mm), .val (.int (Int32.ofNat nf)), .val (.int (Int32.ofNat nn)), .val (.int (Int32.ofNat (nf + nn))), .val (.ref ca), .val (.ref b73), .unset] [(.int (100000 : Int32)), (.int (own_dv (3 : Int32) (Int32.ofNat nf) (Int32.ofNat nn) a)), (.int ((((own_dv (0 : Int32) (Int32.ofNat nf) (Int32.ofNat nn) a) * (100000000 : Int32)) + ((own_dv (1 : Int32) (Int32.ofNat nf) (Int32.ofNat nn) a) * (10000000 : Int32))) + ((own_dv (2 : Int32) (Int32.ofNat nf) (Int32.ofNat nn) a) * (1000000 : Int32))))]))
  refine own_st (fun _ k' => XS.imul X81.here hx rfl (hb hby at_287) rfl k') ?_
  show own_Go p.tables e below _ (T81.setTop (mkF m 288 #[.val (.long a), .second, .val (.long b), .second, .val (.int f), .val (.int mm), .val (.int (Int32.ofNat nf)), .val (.int (Int32.ofNat nn)), .val (.int (Int32.ofNat (nf + nn))), .val (.ref ca), .val (.ref b73), .unset] [(.int ((own_dv (3 : Int32) (Int32.ofNat nf) (Int32.ofNat nn) a) * (100000 : Int32))), (.int ((((own_dv (0 : Int32) (Int32.ofNat nf) (Int32.ofNat nn) a) * (100000000 : Int32)) + ((own_dv (1 : Int32) (Int32.ofNat nf) (Int32.ofNat nn) a) * (10000000 : Int32))) + ((own_dv (2 : Int32) (Int32.ofNat nf) (Int32.ofNat nn) a) * (1000000 : Int32))))]))
  refine own_st (fun _ k' => XS.iadd X81.here hx rfl (hb hby at_288) rfl k') ?_
  show own_Go p.tables e below _ (T81.setTop (mkF m 289 #[.val (.long a), .second, .val (.long b), .second, .val (.int f), .val (.int mm), .val (.int (Int32.ofNat nf)), .val (.int (Int32.ofNat nn)), .val (.int (Int32.ofNat (nf + nn))), .val (.ref ca), .val (.ref b73), .unset] [(.int (((((own_dv (0 : Int32) (Int32.ofNat nf) (Int32.ofNat nn) a) * (100000000 : Int32)) + ((own_dv (1 : Int32) (Int32.ofNat nf) (Int32.ofNat nn) a) * (10000000 : Int32))) + ((own_dv (2 : Int32) (Int32.ofNat nf) (Int32.ofNat nn) a) * (1000000 : Int32))) + ((own_dv (3 : Int32) (Int32.ofNat nf) (Int32.ofNat nn) a) * (100000 : Int32))))]))
  refine own_st (fun _ k' => XS.iconst X81.here hx rfl (hb hby at_289) k') ?_
  show own_Go p.tables e below _ (T81.setTop (mkF m 290 #[.val (.long a), .second, .val (.long b), .second, .val (.int f), .val (.int mm), .val (.int (Int32.ofNat nf)), .val (.int (Int32.ofNat nn)), .val (.int (Int32.ofNat (nf + nn))), .val (.ref ca), .val (.ref b73), .unset] [(.int (4 : Int32)), (.int (((((own_dv (0 : Int32) (Int32.ofNat nf) (Int32.ofNat nn) a) * (100000000 : Int32)) + ((own_dv (1 : Int32) (Int32.ofNat nf) (Int32.ofNat nn) a) * (10000000 : Int32))) + ((own_dv (2 : Int32) (Int32.ofNat nf) (Int32.ofNat nn) a) * (1000000 : Int32))) + ((own_dv (3 : Int32) (Int32.ofNat nf) (Int32.ofNat nn) a) * (100000 : Int32))))]))
  refine own_st (fun _ k' => XS.iload X81.here hx rfl (hb hby at_290) rfl k') ?_
  show own_Go p.tables e below _ (T81.setTop (mkF m 292 #[.val (.long a), .second, .val (.long b), .second, .val (.int f), .val (.int mm), .val (.int (Int32.ofNat nf)), .val (.int (Int32.ofNat nn)), .val (.int (Int32.ofNat (nf + nn))), .val (.ref ca), .val (.ref b73), .unset] [(.int (Int32.ofNat nf)), (.int (4 : Int32)), (.int (((((own_dv (0 : Int32) (Int32.ofNat nf) (Int32.ofNat nn) a) * (100000000 : Int32)) + ((own_dv (1 : Int32) (Int32.ofNat nf) (Int32.ofNat nn) a) * (10000000 : Int32))) + ((own_dv (2 : Int32) (Int32.ofNat nf) (Int32.ofNat nn) a) * (1000000 : Int32))) + ((own_dv (3 : Int32) (Int32.ofNat nf) (Int32.ofNat nn) a) * (100000 : Int32))))]))
  refine own_st (fun _ k' => XS.iload X81.here hx rfl (hb hby at_292) rfl k') ?_
  show own_Go p.tables e below _ (T81.setTop (mkF m 294 #[.val (.long a), .second, .val (.long b), .second, .val (.int f), .val (.int mm), .val (.int (Int32.ofNat nf)), .val (.int (Int32.ofNat nn)), .val (.int (Int32.ofNat (nf + nn))), .val (.ref ca), .val (.ref b73), .unset] [(.int (Int32.ofNat nn)), (.int (Int32.ofNat nf)), (.int (4 : Int32)), (.int (((((own_dv (0 : Int32) (Int32.ofNat nf) (Int32.ofNat nn) a) * (100000000 : Int32)) + ((own_dv (1 : Int32) (Int32.ofNat nf) (Int32.ofNat nn) a) * (10000000 : Int32))) + ((own_dv (2 : Int32) (Int32.ofNat nf) (Int32.ofNat nn) a) * (1000000 : Int32))) + ((own_dv (3 : Int32) (Int32.ofNat nf) (Int32.ofNat nn) a) * (100000 : Int32))))]))
  refine own_st (fun _ k' => XS.lloadN X81.here hx rfl (hb hby at_294) rfl k') ?_
  show own_Go p.tables e below _ (T81.setTop (mkF m 295 #[.val (.long a), .second, .val (.long b), .second, .val (.int f), .val (.int mm), .val (.int (Int32.ofNat nf)), .val (.int (Int32.ofNat nn)), .val (.int (Int32.ofNat (nf + nn))), .val (.ref ca), .val (.ref b73), .unset] [(.long a), (.int (Int32.ofNat nn)), (.int (Int32.ofNat nf)), (.int (4 : Int32)), (.int (((((own_dv (0 : Int32) (Int32.ofNat nf) (Int32.ofNat nn) a) * (100000000 : Int32)) + ((own_dv (1 : Int32) (Int32.ofNat nf) (Int32.ofNat nn) a) * (10000000 : Int32))) + ((own_dv (2 : Int32) (Int32.ofNat nf) (Int32.ofNat nn) a) * (1000000 : Int32))) + ((own_dv (3 : Int32) (Int32.ofNat nf) (Int32.ofNat nn) a) * (100000 : Int32))))]))
  obtain ⟨_, _, ⟨T82, L82, k82, n82⟩, -, X82, ⟨Lc82, hQ82, l82, y82, z82⟩, st82⟩ := Jvm.LawKit.callS X81 hx (y := (⟨"com/example/frozen_thread/frozenthread/text/DigitsNanosPinLaw", "dv", "(IIIJ)I"⟩ : MethodName)) hown (mvT hZ (hw _ (List.mem_of_getElem? (i := 40) rfl))) (mvT hZ (hw _ (List.mem_of_getElem? (i := 41) rfl))) (mvT hZ (hw _ (List.mem_of_getElem? (i := 4) rfl))) (mvT hZ (hw _ (List.mem_of_getElem? (i := 42) rfl))) (by decide) (backOf (W := 1) (rmDv l Z a0 hw [] (4 : Int32) (Int32.ofNat nf) (Int32.ofNat nn) a T76.heap n0 Zc76 ) hZ (hw _ (List.mem_of_getElem? (i := 42) rfl)) (hw _ (List.mem_of_getElem? (i := 4) rfl)) (by decide) (by decide)) (g := (mkF m 295 #[.val (.long a), .second, .val (.long b), .second, .val (.int f), .val (.int mm), .val (.int (Int32.ofNat nf)), .val (.int (Int32.ofNat nn)), .val (.int (Int32.ofNat (nf + nn))), .val (.ref ca), .val (.ref b73), .unset] [(.long a), (.int (Int32.ofNat nn)), (.int (Int32.ofNat nf)), (.int (4 : Int32)), (.int (((((own_dv (0 : Int32) (Int32.ofNat nf) (Int32.ofNat nn) a) * (100000000 : Int32)) + ((own_dv (1 : Int32) (Int32.ofNat nf) (Int32.ofNat nn) a) * (10000000 : Int32))) + ((own_dv (2 : Int32) (Int32.ofNat nf) (Int32.ofNat nn) a) * (1000000 : Int32))) + ((own_dv (3 : Int32) (Int32.ofNat nf) (Int32.ofNat nn) a) * (100000 : Int32))))])) rfl (by rw [hml]; rfl) (argsL := [(.int (4 : Int32)), (.int (Int32.ofNat nf)), (.int (Int32.ofNat nn)), (.long a)]) (rest := [(.int (((((own_dv (0 : Int32) (Int32.ofNat nf) (Int32.ofNat nn) a) * (100000000 : Int32)) + ((own_dv (1 : Int32) (Int32.ofNat nf) (Int32.ofNat nn) a) * (10000000 : Int32))) + ((own_dv (2 : Int32) (Int32.ofNat nf) (Int32.ofNat nn) a) * (1000000 : Int32))) + ((own_dv (3 : Int32) (Int32.ofNat nf) (Int32.ofNat nn) a) * (100000 : Int32))))]) (lenOf pd__IIIJ_I rfl) rfl (by show 2 * 0 + _ ≤ _; exact Nat.le_of_eq rfl) (hb hby at_295) (fun _ _ => ⟨rfl, e81, (by decide : 3 + 0 ≤ _), (by decide : 32 + 0 ≤ _)⟩)
  dsimp only [Pt.U, Pt.locs, Pt.cells, Pt.slots] at X82 l82 y82 z82 st82 hQ82
  have y82 : k82 = 3 := y82
  have z82 : n82 = 32 := z82
  subst y82 z82
  obtain ⟨rfl, Nq82, e82⟩ := hQ82
  have N82 : Fr n0 L82 := by rw [l82]; exact Fr.app N81 Nq82
  refine own_st st82 ?_
  show own_Go p.tables e below _ (T82.setTop (mkF m 298 #[.val (.long a), .second, .val (.long b), .second, .val (.int f), .val (.int mm), .val (.int (Int32.ofNat nf)), .val (.int (Int32.ofNat nn)), .val (.int (Int32.ofNat (nf + nn))), .val (.ref ca), .val (.ref b73), .unset] [(.int (own_dv (4 : Int32) (Int32.ofNat nf) (Int32.ofNat nn) a)), (.int (((((own_dv (0 : Int32) (Int32.ofNat nf) (Int32.ofNat nn) a) * (100000000 : Int32)) + ((own_dv (1 : Int32) (Int32.ofNat nf) (Int32.ofNat nn) a) * (10000000 : Int32))) + ((own_dv (2 : Int32) (Int32.ofNat nf) (Int32.ofNat nn) a) * (1000000 : Int32))) + ((own_dv (3 : Int32) (Int32.ofNat nf) (Int32.ofNat nn) a) * (100000 : Int32))))]))
  refine own_st (fun _ k' => XS.sipush X82.here hx rfl (hb hby at_298) k') ?_
  show own_Go p.tables e below _ (T82.setTop (mkF m 301 #[.val (.long a), .second, .val (.long b), .second, .val (.int f), .val (.int mm), .val (.int (Int32.ofNat nf)), .val (.int (Int32.ofNat nn)), .val (.int (Int32.ofNat (nf + nn))), .val (.ref ca), .val (.ref b73), .unset] [(.int (10000 : Int32)), (.int (own_dv (4 : Int32) (Int32.ofNat nf) (Int32.ofNat nn) a)), (.int (((((own_dv (0 : Int32) (Int32.ofNat nf) (Int32.ofNat nn) a) * (100000000 : Int32)) + ((own_dv (1 : Int32) (Int32.ofNat nf) (Int32.ofNat nn) a) * (10000000 : Int32))) + ((own_dv (2 : Int32) (Int32.ofNat nf) (Int32.ofNat nn) a) * (1000000 : Int32))) + ((own_dv (3 : Int32) (Int32.ofNat nf) (Int32.ofNat nn) a) * (100000 : Int32))))]))
  refine own_st (fun _ k' => XS.imul X82.here hx rfl (hb hby at_301) rfl k') ?_
  show own_Go p.tables e below _ (T82.setTop (mkF m 302 #[.val (.long a), .second, .val (.long b), .second, .val (.int f), .val (.int mm), .val (.int (Int32.ofNat nf)), .val (.int (Int32.ofNat nn)), .val (.int (Int32.ofNat (nf + nn))), .val (.ref ca), .val (.ref b73), .unset] [(.int ((own_dv (4 : Int32) (Int32.ofNat nf) (Int32.ofNat nn) a) * (10000 : Int32))), (.int (((((own_dv (0 : Int32) (Int32.ofNat nf) (Int32.ofNat nn) a) * (100000000 : Int32)) + ((own_dv (1 : Int32) (Int32.ofNat nf) (Int32.ofNat nn) a) * (10000000 : Int32))) + ((own_dv (2 : Int32) (Int32.ofNat nf) (Int32.ofNat nn) a) * (1000000 : Int32))) + ((own_dv (3 : Int32) (Int32.ofNat nf) (Int32.ofNat nn) a) * (100000 : Int32))))]))
  refine own_st (fun _ k' => XS.iadd X82.here hx rfl (hb hby at_302) rfl k') ?_
  show own_Go p.tables e below _ (T82.setTop (mkF m 303 #[.val (.long a), .second, .val (.long b), .second, .val (.int f), .val (.int mm), .val (.int (Int32.ofNat nf)), .val (.int (Int32.ofNat nn)), .val (.int (Int32.ofNat (nf + nn))), .val (.ref ca), .val (.ref b73), .unset] [(.int ((((((own_dv (0 : Int32) (Int32.ofNat nf) (Int32.ofNat nn) a) * (100000000 : Int32)) + ((own_dv (1 : Int32) (Int32.ofNat nf) (Int32.ofNat nn) a) * (10000000 : Int32))) + ((own_dv (2 : Int32) (Int32.ofNat nf) (Int32.ofNat nn) a) * (1000000 : Int32))) + ((own_dv (3 : Int32) (Int32.ofNat nf) (Int32.ofNat nn) a) * (100000 : Int32))) + ((own_dv (4 : Int32) (Int32.ofNat nf) (Int32.ofNat nn) a) * (10000 : Int32))))]))
  refine own_st (fun _ k' => XS.iconst X82.here hx rfl (hb hby at_303) k') ?_
  show own_Go p.tables e below _ (T82.setTop (mkF m 304 #[.val (.long a), .second, .val (.long b), .second, .val (.int f), .val (.int mm), .val (.int (Int32.ofNat nf)), .val (.int (Int32.ofNat nn)), .val (.int (Int32.ofNat (nf + nn))), .val (.ref ca), .val (.ref b73), .unset] [(.int (5 : Int32)), (.int ((((((own_dv (0 : Int32) (Int32.ofNat nf) (Int32.ofNat nn) a) * (100000000 : Int32)) + ((own_dv (1 : Int32) (Int32.ofNat nf) (Int32.ofNat nn) a) * (10000000 : Int32))) + ((own_dv (2 : Int32) (Int32.ofNat nf) (Int32.ofNat nn) a) * (1000000 : Int32))) + ((own_dv (3 : Int32) (Int32.ofNat nf) (Int32.ofNat nn) a) * (100000 : Int32))) + ((own_dv (4 : Int32) (Int32.ofNat nf) (Int32.ofNat nn) a) * (10000 : Int32))))]))
  refine own_st (fun _ k' => XS.iload X82.here hx rfl (hb hby at_304) rfl k') ?_
  show own_Go p.tables e below _ (T82.setTop (mkF m 306 #[.val (.long a), .second, .val (.long b), .second, .val (.int f), .val (.int mm), .val (.int (Int32.ofNat nf)), .val (.int (Int32.ofNat nn)), .val (.int (Int32.ofNat (nf + nn))), .val (.ref ca), .val (.ref b73), .unset] [(.int (Int32.ofNat nf)), (.int (5 : Int32)), (.int ((((((own_dv (0 : Int32) (Int32.ofNat nf) (Int32.ofNat nn) a) * (100000000 : Int32)) + ((own_dv (1 : Int32) (Int32.ofNat nf) (Int32.ofNat nn) a) * (10000000 : Int32))) + ((own_dv (2 : Int32) (Int32.ofNat nf) (Int32.ofNat nn) a) * (1000000 : Int32))) + ((own_dv (3 : Int32) (Int32.ofNat nf) (Int32.ofNat nn) a) * (100000 : Int32))) + ((own_dv (4 : Int32) (Int32.ofNat nf) (Int32.ofNat nn) a) * (10000 : Int32))))]))
  refine own_st (fun _ k' => XS.iload X82.here hx rfl (hb hby at_306) rfl k') ?_
  show own_Go p.tables e below _ (T82.setTop (mkF m 308 #[.val (.long a), .second, .val (.long b), .second, .val (.int f), .val (.int mm), .val (.int (Int32.ofNat nf)), .val (.int (Int32.ofNat nn)), .val (.int (Int32.ofNat (nf + nn))), .val (.ref ca), .val (.ref b73), .unset] [(.int (Int32.ofNat nn)), (.int (Int32.ofNat nf)), (.int (5 : Int32)), (.int ((((((own_dv (0 : Int32) (Int32.ofNat nf) (Int32.ofNat nn) a) * (100000000 : Int32)) + ((own_dv (1 : Int32) (Int32.ofNat nf) (Int32.ofNat nn) a) * (10000000 : Int32))) + ((own_dv (2 : Int32) (Int32.ofNat nf) (Int32.ofNat nn) a) * (1000000 : Int32))) + ((own_dv (3 : Int32) (Int32.ofNat nf) (Int32.ofNat nn) a) * (100000 : Int32))) + ((own_dv (4 : Int32) (Int32.ofNat nf) (Int32.ofNat nn) a) * (10000 : Int32))))]))
  refine own_st (fun _ k' => XS.lloadN X82.here hx rfl (hb hby at_308) rfl k') ?_
  show own_Go p.tables e below _ (T82.setTop (mkF m 309 #[.val (.long a), .second, .val (.long b), .second, .val (.int f), .val (.int mm), .val (.int (Int32.ofNat nf)), .val (.int (Int32.ofNat nn)), .val (.int (Int32.ofNat (nf + nn))), .val (.ref ca), .val (.ref b73), .unset] [(.long a), (.int (Int32.ofNat nn)), (.int (Int32.ofNat nf)), (.int (5 : Int32)), (.int ((((((own_dv (0 : Int32) (Int32.ofNat nf) (Int32.ofNat nn) a) * (100000000 : Int32)) + ((own_dv (1 : Int32) (Int32.ofNat nf) (Int32.ofNat nn) a) * (10000000 : Int32))) + ((own_dv (2 : Int32) (Int32.ofNat nf) (Int32.ofNat nn) a) * (1000000 : Int32))) + ((own_dv (3 : Int32) (Int32.ofNat nf) (Int32.ofNat nn) a) * (100000 : Int32))) + ((own_dv (4 : Int32) (Int32.ofNat nf) (Int32.ofNat nn) a) * (10000 : Int32))))]))
  obtain ⟨_, _, ⟨T83, L83, k83, n83⟩, -, X83, ⟨Lc83, hQ83, l83, y83, z83⟩, st83⟩ := Jvm.LawKit.callS X82 hx (y := (⟨"com/example/frozen_thread/frozenthread/text/DigitsNanosPinLaw", "dv", "(IIIJ)I"⟩ : MethodName)) hown (mvT hZ (hw _ (List.mem_of_getElem? (i := 40) rfl))) (mvT hZ (hw _ (List.mem_of_getElem? (i := 41) rfl))) (mvT hZ (hw _ (List.mem_of_getElem? (i := 4) rfl))) (mvT hZ (hw _ (List.mem_of_getElem? (i := 42) rfl))) (by decide) (backOf (W := 1) (rmDv l Z a0 hw [] (5 : Int32) (Int32.ofNat nf) (Int32.ofNat nn) a T76.heap n0 Zc76 ) hZ (hw _ (List.mem_of_getElem? (i := 42) rfl)) (hw _ (List.mem_of_getElem? (i := 4) rfl)) (by decide) (by decide)) (g := (mkF m 309 #[.val (.long a), .second, .val (.long b), .second, .val (.int f), .val (.int mm), .val (.int (Int32.ofNat nf)), .val (.int (Int32.ofNat nn)), .val (.int (Int32.ofNat (nf + nn))), .val (.ref ca), .val (.ref b73), .unset] [(.long a), (.int (Int32.ofNat nn)), (.int (Int32.ofNat nf)), (.int (5 : Int32)), (.int ((((((own_dv (0 : Int32) (Int32.ofNat nf) (Int32.ofNat nn) a) * (100000000 : Int32)) + ((own_dv (1 : Int32) (Int32.ofNat nf) (Int32.ofNat nn) a) * (10000000 : Int32))) + ((own_dv (2 : Int32) (Int32.ofNat nf) (Int32.ofNat nn) a) * (1000000 : Int32))) + ((own_dv (3 : Int32) (Int32.ofNat nf) (Int32.ofNat nn) a) * (100000 : Int32))) + ((own_dv (4 : Int32) (Int32.ofNat nf) (Int32.ofNat nn) a) * (10000 : Int32))))])) rfl (by rw [hml]; rfl) (argsL := [(.int (5 : Int32)), (.int (Int32.ofNat nf)), (.int (Int32.ofNat nn)), (.long a)]) (rest := [(.int ((((((own_dv (0 : Int32) (Int32.ofNat nf) (Int32.ofNat nn) a) * (100000000 : Int32)) + ((own_dv (1 : Int32) (Int32.ofNat nf) (Int32.ofNat nn) a) * (10000000 : Int32))) + ((own_dv (2 : Int32) (Int32.ofNat nf) (Int32.ofNat nn) a) * (1000000 : Int32))) + ((own_dv (3 : Int32) (Int32.ofNat nf) (Int32.ofNat nn) a) * (100000 : Int32))) + ((own_dv (4 : Int32) (Int32.ofNat nf) (Int32.ofNat nn) a) * (10000 : Int32))))]) (lenOf pd__IIIJ_I rfl) rfl (by show 2 * 0 + _ ≤ _; exact Nat.le_of_eq rfl) (hb hby at_309) (fun _ _ => ⟨rfl, e82, (by decide : 3 + 0 ≤ _), (by decide : 32 + 0 ≤ _)⟩)
  dsimp only [Pt.U, Pt.locs, Pt.cells, Pt.slots] at X83 l83 y83 z83 st83 hQ83
  have y83 : k83 = 3 := y83
  have z83 : n83 = 32 := z83
  subst y83 z83
  obtain ⟨rfl, Nq83, e83⟩ := hQ83
  have N83 : Fr n0 L83 := by rw [l83]; exact Fr.app N82 Nq83
  refine own_st st83 ?_
  show own_Go p.tables e below _ (T83.setTop (mkF m 312 #[.val (.long a), .second, .val (.long b), .second, .val (.int f), .val (.int mm), .val (.int (Int32.ofNat nf)), .val (.int (Int32.ofNat nn)), .val (.int (Int32.ofNat (nf + nn))), .val (.ref ca), .val (.ref b73), .unset] [(.int (own_dv (5 : Int32) (Int32.ofNat nf) (Int32.ofNat nn) a)), (.int ((((((own_dv (0 : Int32) (Int32.ofNat nf) (Int32.ofNat nn) a) * (100000000 : Int32)) + ((own_dv (1 : Int32) (Int32.ofNat nf) (Int32.ofNat nn) a) * (10000000 : Int32))) + ((own_dv (2 : Int32) (Int32.ofNat nf) (Int32.ofNat nn) a) * (1000000 : Int32))) + ((own_dv (3 : Int32) (Int32.ofNat nf) (Int32.ofNat nn) a) * (100000 : Int32))) + ((own_dv (4 : Int32) (Int32.ofNat nf) (Int32.ofNat nn) a) * (10000 : Int32))))]))
  refine own_st (fun _ k' => XS.sipush X83.here hx rfl (hb hby at_312) k') ?_
  show own_Go p.tables e below _ (T83.setTop (mkF m 315 #[.val (.long a), .second, .val (.long b), .second, .val (.int f), .val (.int mm), .val (.int (Int32.ofNat nf)), .val (.int (Int32.ofNat nn)), .val (.int (Int32.ofNat (nf + nn))), .val (.ref ca), .val (.ref b73), .unset] [(.int (1000 : Int32)), (.int (own_dv (5 : Int32) (Int32.ofNat nf) (Int32.ofNat nn) a)), (.int ((((((own_dv (0 : Int32) (Int32.ofNat nf) (Int32.ofNat nn) a) * (100000000 : Int32)) + ((own_dv (1 : Int32) (Int32.ofNat nf) (Int32.ofNat nn) a) * (10000000 : Int32))) + ((own_dv (2 : Int32) (Int32.ofNat nf) (Int32.ofNat nn) a) * (1000000 : Int32))) + ((own_dv (3 : Int32) (Int32.ofNat nf) (Int32.ofNat nn) a) * (100000 : Int32))) + ((own_dv (4 : Int32) (Int32.ofNat nf) (Int32.ofNat nn) a) * (10000 : Int32))))]))
  refine own_st (fun _ k' => XS.imul X83.here hx rfl (hb hby at_315) rfl k') ?_
  show own_Go p.tables e below _ (T83.setTop (mkF m 316 #[.val (.long a), .second, .val (.long b), .second, .val (.int f), .val (.int mm), .val (.int (Int32.ofNat nf)), .val (.int (Int32.ofNat nn)), .val (.int (Int32.ofNat (nf + nn))), .val (.ref ca), .val (.ref b73), .unset] [(.int ((own_dv (5 : Int32) (Int32.ofNat nf) (Int32.ofNat nn) a) * (1000 : Int32))), (.int ((((((own_dv (0 : Int32) (Int32.ofNat nf) (Int32.ofNat nn) a) * (100000000 : Int32)) + ((own_dv (1 : Int32) (Int32.ofNat nf) (Int32.ofNat nn) a) * (10000000 : Int32))) + ((own_dv (2 : Int32) (Int32.ofNat nf) (Int32.ofNat nn) a) * (1000000 : Int32))) + ((own_dv (3 : Int32) (Int32.ofNat nf) (Int32.ofNat nn) a) * (100000 : Int32))) + ((own_dv (4 : Int32) (Int32.ofNat nf) (Int32.ofNat nn) a) * (10000 : Int32))))]))
  refine own_st (fun _ k' => XS.iadd X83.here hx rfl (hb hby at_316) rfl k') ?_
  show own_Go p.tables e below _ (T83.setTop (mkF m 317 #[.val (.long a), .second, .val (.long b), .second, .val (.int f), .val (.int mm), .val (.int (Int32.ofNat nf)), .val (.int (Int32.ofNat nn)), .val (.int (Int32.ofNat (nf + nn))), .val (.ref ca), .val (.ref b73), .unset] [(.int (((((((own_dv (0 : Int32) (Int32.ofNat nf) (Int32.ofNat nn) a) * (100000000 : Int32)) + ((own_dv (1 : Int32) (Int32.ofNat nf) (Int32.ofNat nn) a) * (10000000 : Int32))) + ((own_dv (2 : Int32) (Int32.ofNat nf) (Int32.ofNat nn) a) * (1000000 : Int32))) + ((own_dv (3 : Int32) (Int32.ofNat nf) (Int32.ofNat nn) a) * (100000 : Int32))) + ((own_dv (4 : Int32) (Int32.ofNat nf) (Int32.ofNat nn) a) * (10000 : Int32))) + ((own_dv (5 : Int32) (Int32.ofNat nf) (Int32.ofNat nn) a) * (1000 : Int32))))]))
  refine own_st (fun _ k' => XS.bipush X83.here hx rfl (hb hby at_317) k') ?_
  show own_Go p.tables e below _ (T83.setTop (mkF m 319 #[.val (.long a), .second, .val (.long b), .second, .val (.int f), .val (.int mm), .val (.int (Int32.ofNat nf)), .val (.int (Int32.ofNat nn)), .val (.int (Int32.ofNat (nf + nn))), .val (.ref ca), .val (.ref b73), .unset] [(.int (6 : Int32)), (.int (((((((own_dv (0 : Int32) (Int32.ofNat nf) (Int32.ofNat nn) a) * (100000000 : Int32)) + ((own_dv (1 : Int32) (Int32.ofNat nf) (Int32.ofNat nn) a) * (10000000 : Int32))) + ((own_dv (2 : Int32) (Int32.ofNat nf) (Int32.ofNat nn) a) * (1000000 : Int32))) + ((own_dv (3 : Int32) (Int32.ofNat nf) (Int32.ofNat nn) a) * (100000 : Int32))) + ((own_dv (4 : Int32) (Int32.ofNat nf) (Int32.ofNat nn) a) * (10000 : Int32))) + ((own_dv (5 : Int32) (Int32.ofNat nf) (Int32.ofNat nn) a) * (1000 : Int32))))]))
  refine own_st (fun _ k' => XS.iload X83.here hx rfl (hb hby at_319) rfl k') ?_
  show own_Go p.tables e below _ (T83.setTop (mkF m 321 #[.val (.long a), .second, .val (.long b), .second, .val (.int f), .val (.int mm), .val (.int (Int32.ofNat nf)), .val (.int (Int32.ofNat nn)), .val (.int (Int32.ofNat (nf + nn))), .val (.ref ca), .val (.ref b73), .unset] [(.int (Int32.ofNat nf)), (.int (6 : Int32)), (.int (((((((own_dv (0 : Int32) (Int32.ofNat nf) (Int32.ofNat nn) a) * (100000000 : Int32)) + ((own_dv (1 : Int32) (Int32.ofNat nf) (Int32.ofNat nn) a) * (10000000 : Int32))) + ((own_dv (2 : Int32) (Int32.ofNat nf) (Int32.ofNat nn) a) * (1000000 : Int32))) + ((own_dv (3 : Int32) (Int32.ofNat nf) (Int32.ofNat nn) a) * (100000 : Int32))) + ((own_dv (4 : Int32) (Int32.ofNat nf) (Int32.ofNat nn) a) * (10000 : Int32))) + ((own_dv (5 : Int32) (Int32.ofNat nf) (Int32.ofNat nn) a) * (1000 : Int32))))]))
  refine own_st (fun _ k' => XS.iload X83.here hx rfl (hb hby at_321) rfl k') ?_
  show own_Go p.tables e below _ (T83.setTop (mkF m 323 #[.val (.long a), .second, .val (.long b), .second, .val (.int f), .val (.int mm), .val (.int (Int32.ofNat nf)), .val (.int (Int32.ofNat nn)), .val (.int (Int32.ofNat (nf + nn))), .val (.ref ca), .val (.ref b73), .unset] [(.int (Int32.ofNat nn)), (.int (Int32.ofNat nf)), (.int (6 : Int32)), (.int (((((((own_dv (0 : Int32) (Int32.ofNat nf) (Int32.ofNat nn) a) * (100000000 : Int32)) + ((own_dv (1 : Int32) (Int32.ofNat nf) (Int32.ofNat nn) a) * (10000000 : Int32))) + ((own_dv (2 : Int32) (Int32.ofNat nf) (Int32.ofNat nn) a) * (1000000 : Int32))) + ((own_dv (3 : Int32) (Int32.ofNat nf) (Int32.ofNat nn) a) * (100000 : Int32))) + ((own_dv (4 : Int32) (Int32.ofNat nf) (Int32.ofNat nn) a) * (10000 : Int32))) + ((own_dv (5 : Int32) (Int32.ofNat nf) (Int32.ofNat nn) a) * (1000 : Int32))))]))
  refine own_st (fun _ k' => XS.lloadN X83.here hx rfl (hb hby at_323) rfl k') ?_
  show own_Go p.tables e below _ (T83.setTop (mkF m 324 #[.val (.long a), .second, .val (.long b), .second, .val (.int f), .val (.int mm), .val (.int (Int32.ofNat nf)), .val (.int (Int32.ofNat nn)), .val (.int (Int32.ofNat (nf + nn))), .val (.ref ca), .val (.ref b73), .unset] [(.long a), (.int (Int32.ofNat nn)), (.int (Int32.ofNat nf)), (.int (6 : Int32)), (.int (((((((own_dv (0 : Int32) (Int32.ofNat nf) (Int32.ofNat nn) a) * (100000000 : Int32)) + ((own_dv (1 : Int32) (Int32.ofNat nf) (Int32.ofNat nn) a) * (10000000 : Int32))) + ((own_dv (2 : Int32) (Int32.ofNat nf) (Int32.ofNat nn) a) * (1000000 : Int32))) + ((own_dv (3 : Int32) (Int32.ofNat nf) (Int32.ofNat nn) a) * (100000 : Int32))) + ((own_dv (4 : Int32) (Int32.ofNat nf) (Int32.ofNat nn) a) * (10000 : Int32))) + ((own_dv (5 : Int32) (Int32.ofNat nf) (Int32.ofNat nn) a) * (1000 : Int32))))]))
  obtain ⟨_, _, ⟨T84, L84, k84, n84⟩, -, X84, ⟨Lc84, hQ84, l84, y84, z84⟩, st84⟩ := Jvm.LawKit.callS X83 hx (y := (⟨"com/example/frozen_thread/frozenthread/text/DigitsNanosPinLaw", "dv", "(IIIJ)I"⟩ : MethodName)) hown (mvT hZ (hw _ (List.mem_of_getElem? (i := 40) rfl))) (mvT hZ (hw _ (List.mem_of_getElem? (i := 41) rfl))) (mvT hZ (hw _ (List.mem_of_getElem? (i := 4) rfl))) (mvT hZ (hw _ (List.mem_of_getElem? (i := 42) rfl))) (by decide) (backOf (W := 1) (rmDv l Z a0 hw [] (6 : Int32) (Int32.ofNat nf) (Int32.ofNat nn) a T76.heap n0 Zc76 ) hZ (hw _ (List.mem_of_getElem? (i := 42) rfl)) (hw _ (List.mem_of_getElem? (i := 4) rfl)) (by decide) (by decide)) (g := (mkF m 324 #[.val (.long a), .second, .val (.long b), .second, .val (.int f), .val (.int mm), .val (.int (Int32.ofNat nf)), .val (.int (Int32.ofNat nn)), .val (.int (Int32.ofNat (nf + nn))), .val (.ref ca), .val (.ref b73), .unset] [(.long a), (.int (Int32.ofNat nn)), (.int (Int32.ofNat nf)), (.int (6 : Int32)), (.int (((((((own_dv (0 : Int32) (Int32.ofNat nf) (Int32.ofNat nn) a) * (100000000 : Int32)) + ((own_dv (1 : Int32) (Int32.ofNat nf) (Int32.ofNat nn) a) * (10000000 : Int32))) + ((own_dv (2 : Int32) (Int32.ofNat nf) (Int32.ofNat nn) a) * (1000000 : Int32))) + ((own_dv (3 : Int32) (Int32.ofNat nf) (Int32.ofNat nn) a) * (100000 : Int32))) + ((own_dv (4 : Int32) (Int32.ofNat nf) (Int32.ofNat nn) a) * (10000 : Int32))) + ((own_dv (5 : Int32) (Int32.ofNat nf) (Int32.ofNat nn) a) * (1000 : Int32))))])) rfl (by rw [hml]; rfl) (argsL := [(.int (6 : Int32)), (.int (Int32.ofNat nf)), (.int (Int32.ofNat nn)), (.long a)]) (rest := [(.int (((((((own_dv (0 : Int32) (Int32.ofNat nf) (Int32.ofNat nn) a) * (100000000 : Int32)) + ((own_dv (1 : Int32) (Int32.ofNat nf) (Int32.ofNat nn) a) * (10000000 : Int32))) + ((own_dv (2 : Int32) (Int32.ofNat nf) (Int32.ofNat nn) a) * (1000000 : Int32))) + ((own_dv (3 : Int32) (Int32.ofNat nf) (Int32.ofNat nn) a) * (100000 : Int32))) + ((own_dv (4 : Int32) (Int32.ofNat nf) (Int32.ofNat nn) a) * (10000 : Int32))) + ((own_dv (5 : Int32) (Int32.ofNat nf) (Int32.ofNat nn) a) * (1000 : Int32))))]) (lenOf pd__IIIJ_I rfl) rfl (by show 2 * 0 + _ ≤ _; exact Nat.le_of_eq rfl) (hb hby at_324) (fun _ _ => ⟨rfl, e83, (by decide : 3 + 0 ≤ _), (by decide : 32 + 0 ≤ _)⟩)
  dsimp only [Pt.U, Pt.locs, Pt.cells, Pt.slots] at X84 l84 y84 z84 st84 hQ84
  have y84 : k84 = 3 := y84
  have z84 : n84 = 32 := z84
  subst y84 z84
  obtain ⟨rfl, Nq84, e84⟩ := hQ84
  have N84 : Fr n0 L84 := by rw [l84]; exact Fr.app N83 Nq84
  refine own_st st84 ?_
  show own_Go p.tables e below _ (T84.setTop (mkF m 327 #[.val (.long a), .second, .val (.long b), .second, .val (.int f), .val (.int mm), .val (.int (Int32.ofNat nf)), .val (.int (Int32.ofNat nn)), .val (.int (Int32.ofNat (nf + nn))), .val (.ref ca), .val (.ref b73), .unset] [(.int (own_dv (6 : Int32) (Int32.ofNat nf) (Int32.ofNat nn) a)), (.int (((((((own_dv (0 : Int32) (Int32.ofNat nf) (Int32.ofNat nn) a) * (100000000 : Int32)) + ((own_dv (1 : Int32) (Int32.ofNat nf) (Int32.ofNat nn) a) * (10000000 : Int32))) + ((own_dv (2 : Int32) (Int32.ofNat nf) (Int32.ofNat nn) a) * (1000000 : Int32))) + ((own_dv (3 : Int32) (Int32.ofNat nf) (Int32.ofNat nn) a) * (100000 : Int32))) + ((own_dv (4 : Int32) (Int32.ofNat nf) (Int32.ofNat nn) a) * (10000 : Int32))) + ((own_dv (5 : Int32) (Int32.ofNat nf) (Int32.ofNat nn) a) * (1000 : Int32))))]))
  refine own_st (fun _ k' => XS.bipush X84.here hx rfl (hb hby at_327) k') ?_
  show own_Go p.tables e below _ (T84.setTop (mkF m 329 #[.val (.long a), .second, .val (.long b), .second, .val (.int f), .val (.int mm), .val (.int (Int32.ofNat nf)), .val (.int (Int32.ofNat nn)), .val (.int (Int32.ofNat (nf + nn))), .val (.ref ca), .val (.ref b73), .unset] [(.int (100 : Int32)), (.int (own_dv (6 : Int32) (Int32.ofNat nf) (Int32.ofNat nn) a)), (.int (((((((own_dv (0 : Int32) (Int32.ofNat nf) (Int32.ofNat nn) a) * (100000000 : Int32)) + ((own_dv (1 : Int32) (Int32.ofNat nf) (Int32.ofNat nn) a) * (10000000 : Int32))) + ((own_dv (2 : Int32) (Int32.ofNat nf) (Int32.ofNat nn) a) * (1000000 : Int32))) + ((own_dv (3 : Int32) (Int32.ofNat nf) (Int32.ofNat nn) a) * (100000 : Int32))) + ((own_dv (4 : Int32) (Int32.ofNat nf) (Int32.ofNat nn) a) * (10000 : Int32))) + ((own_dv (5 : Int32) (Int32.ofNat nf) (Int32.ofNat nn) a) * (1000 : Int32))))]))
  refine own_st (fun _ k' => XS.imul X84.here hx rfl (hb hby at_329) rfl k') ?_
  show own_Go p.tables e below _ (T84.setTop (mkF m 330 #[.val (.long a), .second, .val (.long b), .second, .val (.int f), .val (.int mm), .val (.int (Int32.ofNat nf)), .val (.int (Int32.ofNat nn)), .val (.int (Int32.ofNat (nf + nn))), .val (.ref ca), .val (.ref b73), .unset] [(.int ((own_dv (6 : Int32) (Int32.ofNat nf) (Int32.ofNat nn) a) * (100 : Int32))), (.int (((((((own_dv (0 : Int32) (Int32.ofNat nf) (Int32.ofNat nn) a) * (100000000 : Int32)) + ((own_dv (1 : Int32) (Int32.ofNat nf) (Int32.ofNat nn) a) * (10000000 : Int32))) + ((own_dv (2 : Int32) (Int32.ofNat nf) (Int32.ofNat nn) a) * (1000000 : Int32))) + ((own_dv (3 : Int32) (Int32.ofNat nf) (Int32.ofNat nn) a) * (100000 : Int32))) + ((own_dv (4 : Int32) (Int32.ofNat nf) (Int32.ofNat nn) a) * (10000 : Int32))) + ((own_dv (5 : Int32) (Int32.ofNat nf) (Int32.ofNat nn) a) * (1000 : Int32))))]))
  refine own_st (fun _ k' => XS.iadd X84.here hx rfl (hb hby at_330) rfl k') ?_
  show own_Go p.tables e below _ (T84.setTop (mkF m 331 #[.val (.long a), .second, .val (.long b), .second, .val (.int f), .val (.int mm), .val (.int (Int32.ofNat nf)), .val (.int (Int32.ofNat nn)), .val (.int (Int32.ofNat (nf + nn))), .val (.ref ca), .val (.ref b73), .unset] [(.int ((((((((own_dv (0 : Int32) (Int32.ofNat nf) (Int32.ofNat nn) a) * (100000000 : Int32)) + ((own_dv (1 : Int32) (Int32.ofNat nf) (Int32.ofNat nn) a) * (10000000 : Int32))) + ((own_dv (2 : Int32) (Int32.ofNat nf) (Int32.ofNat nn) a) * (1000000 : Int32))) + ((own_dv (3 : Int32) (Int32.ofNat nf) (Int32.ofNat nn) a) * (100000 : Int32))) + ((own_dv (4 : Int32) (Int32.ofNat nf) (Int32.ofNat nn) a) * (10000 : Int32))) + ((own_dv (5 : Int32) (Int32.ofNat nf) (Int32.ofNat nn) a) * (1000 : Int32))) + ((own_dv (6 : Int32) (Int32.ofNat nf) (Int32.ofNat nn) a) * (100 : Int32))))]))
  refine own_st (fun _ k' => XS.bipush X84.here hx rfl (hb hby at_331) k') ?_
  show own_Go p.tables e below _ (T84.setTop (mkF m 333 #[.val (.long a), .second, .val (.long b), .second, .val (.int f), .val (.int mm), .val (.int (Int32.ofNat nf)), .val (.int (Int32.ofNat nn)), .val (.int (Int32.ofNat (nf + nn))), .val (.ref ca), .val (.ref b73), .unset] [(.int (7 : Int32)), (.int ((((((((own_dv (0 : Int32) (Int32.ofNat nf) (Int32.ofNat nn) a) * (100000000 : Int32)) + ((own_dv (1 : Int32) (Int32.ofNat nf) (Int32.ofNat nn) a) * (10000000 : Int32))) + ((own_dv (2 : Int32) (Int32.ofNat nf) (Int32.ofNat nn) a) * (1000000 : Int32))) + ((own_dv (3 : Int32) (Int32.ofNat nf) (Int32.ofNat nn) a) * (100000 : Int32))) + ((own_dv (4 : Int32) (Int32.ofNat nf) (Int32.ofNat nn) a) * (10000 : Int32))) + ((own_dv (5 : Int32) (Int32.ofNat nf) (Int32.ofNat nn) a) * (1000 : Int32))) + ((own_dv (6 : Int32) (Int32.ofNat nf) (Int32.ofNat nn) a) * (100 : Int32))))]))
  refine own_st (fun _ k' => XS.iload X84.here hx rfl (hb hby at_333) rfl k') ?_
  show own_Go p.tables e below _ (T84.setTop (mkF m 335 #[.val (.long a), .second, .val (.long b), .second, .val (.int f), .val (.int mm), .val (.int (Int32.ofNat nf)), .val (.int (Int32.ofNat nn)), .val (.int (Int32.ofNat (nf + nn))), .val (.ref ca), .val (.ref b73), .unset] [(.int (Int32.ofNat nf)), (.int (7 : Int32)), (.int ((((((((own_dv (0 : Int32) (Int32.ofNat nf) (Int32.ofNat nn) a) * (100000000 : Int32)) + ((own_dv (1 : Int32) (Int32.ofNat nf) (Int32.ofNat nn) a) * (10000000 : Int32))) + ((own_dv (2 : Int32) (Int32.ofNat nf) (Int32.ofNat nn) a) * (1000000 : Int32))) + ((own_dv (3 : Int32) (Int32.ofNat nf) (Int32.ofNat nn) a) * (100000 : Int32))) + ((own_dv (4 : Int32) (Int32.ofNat nf) (Int32.ofNat nn) a) * (10000 : Int32))) + ((own_dv (5 : Int32) (Int32.ofNat nf) (Int32.ofNat nn) a) * (1000 : Int32))) + ((own_dv (6 : Int32) (Int32.ofNat nf) (Int32.ofNat nn) a) * (100 : Int32))))]))
  refine own_st (fun _ k' => XS.iload X84.here hx rfl (hb hby at_335) rfl k') ?_
  show own_Go p.tables e below _ (T84.setTop (mkF m 337 #[.val (.long a), .second, .val (.long b), .second, .val (.int f), .val (.int mm), .val (.int (Int32.ofNat nf)), .val (.int (Int32.ofNat nn)), .val (.int (Int32.ofNat (nf + nn))), .val (.ref ca), .val (.ref b73), .unset] [(.int (Int32.ofNat nn)), (.int (Int32.ofNat nf)), (.int (7 : Int32)), (.int ((((((((own_dv (0 : Int32) (Int32.ofNat nf) (Int32.ofNat nn) a) * (100000000 : Int32)) + ((own_dv (1 : Int32) (Int32.ofNat nf) (Int32.ofNat nn) a) * (10000000 : Int32))) + ((own_dv (2 : Int32) (Int32.ofNat nf) (Int32.ofNat nn) a) * (1000000 : Int32))) + ((own_dv (3 : Int32) (Int32.ofNat nf) (Int32.ofNat nn) a) * (100000 : Int32))) + ((own_dv (4 : Int32) (Int32.ofNat nf) (Int32.ofNat nn) a) * (10000 : Int32))) + ((own_dv (5 : Int32) (Int32.ofNat nf) (Int32.ofNat nn) a) * (1000 : Int32))) + ((own_dv (6 : Int32) (Int32.ofNat nf) (Int32.ofNat nn) a) * (100 : Int32))))]))
  refine own_st (fun _ k' => XS.lloadN X84.here hx rfl (hb hby at_337) rfl k') ?_
  show own_Go p.tables e below _ (T84.setTop (mkF m 338 #[.val (.long a), .second, .val (.long b), .second, .val (.int f), .val (.int mm), .val (.int (Int32.ofNat nf)), .val (.int (Int32.ofNat nn)), .val (.int (Int32.ofNat (nf + nn))), .val (.ref ca), .val (.ref b73), .unset] [(.long a), (.int (Int32.ofNat nn)), (.int (Int32.ofNat nf)), (.int (7 : Int32)), (.int ((((((((own_dv (0 : Int32) (Int32.ofNat nf) (Int32.ofNat nn) a) * (100000000 : Int32)) + ((own_dv (1 : Int32) (Int32.ofNat nf) (Int32.ofNat nn) a) * (10000000 : Int32))) + ((own_dv (2 : Int32) (Int32.ofNat nf) (Int32.ofNat nn) a) * (1000000 : Int32))) + ((own_dv (3 : Int32) (Int32.ofNat nf) (Int32.ofNat nn) a) * (100000 : Int32))) + ((own_dv (4 : Int32) (Int32.ofNat nf) (Int32.ofNat nn) a) * (10000 : Int32))) + ((own_dv (5 : Int32) (Int32.ofNat nf) (Int32.ofNat nn) a) * (1000 : Int32))) + ((own_dv (6 : Int32) (Int32.ofNat nf) (Int32.ofNat nn) a) * (100 : Int32))))]))
  obtain ⟨_, _, ⟨T85, L85, k85, n85⟩, -, X85, ⟨Lc85, hQ85, l85, y85, z85⟩, st85⟩ := Jvm.LawKit.callS X84 hx (y := (⟨"com/example/frozen_thread/frozenthread/text/DigitsNanosPinLaw", "dv", "(IIIJ)I"⟩ : MethodName)) hown (mvT hZ (hw _ (List.mem_of_getElem? (i := 40) rfl))) (mvT hZ (hw _ (List.mem_of_getElem? (i := 41) rfl))) (mvT hZ (hw _ (List.mem_of_getElem? (i := 4) rfl))) (mvT hZ (hw _ (List.mem_of_getElem? (i := 42) rfl))) (by decide) (backOf (W := 1) (rmDv l Z a0 hw [] (7 : Int32) (Int32.ofNat nf) (Int32.ofNat nn) a T76.heap n0 Zc76 ) hZ (hw _ (List.mem_of_getElem? (i := 42) rfl)) (hw _ (List.mem_of_getElem? (i := 4) rfl)) (by decide) (by decide)) (g := (mkF m 338 #[.val (.long a), .second, .val (.long b), .second, .val (.int f), .val (.int mm), .val (.int (Int32.ofNat nf)), .val (.int (Int32.ofNat nn)), .val (.int (Int32.ofNat (nf + nn))), .val (.ref ca), .val (.ref b73), .unset] [(.long a), (.int (Int32.ofNat nn)), (.int (Int32.ofNat nf)), (.int (7 : Int32)), (.int ((((((((own_dv (0 : Int32) (Int32.ofNat nf) (Int32.ofNat nn) a) * (100000000 : Int32)) + ((own_dv (1 : Int32) (Int32.ofNat nf) (Int32.ofNat nn) a) * (10000000 : Int32))) + ((own_dv (2 : Int32) (Int32.ofNat nf) (Int32.ofNat nn) a) * (1000000 : Int32))) + ((own_dv (3 : Int32) (Int32.ofNat nf) (Int32.ofNat nn) a) * (100000 : Int32))) + ((own_dv (4 : Int32) (Int32.ofNat nf) (Int32.ofNat nn) a) * (10000 : Int32))) + ((own_dv (5 : Int32) (Int32.ofNat nf) (Int32.ofNat nn) a) * (1000 : Int32))) + ((own_dv (6 : Int32) (Int32.ofNat nf) (Int32.ofNat nn) a) * (100 : Int32))))])) rfl (by rw [hml]; rfl) (argsL := [(.int (7 : Int32)), (.int (Int32.ofNat nf)), (.int (Int32.ofNat nn)), (.long a)]) (rest := [(.int ((((((((own_dv (0 : Int32) (Int32.ofNat nf) (Int32.ofNat nn) a) * (100000000 : Int32)) + ((own_dv (1 : Int32) (Int32.ofNat nf) (Int32.ofNat nn) a) * (10000000 : Int32))) + ((own_dv (2 : Int32) (Int32.ofNat nf) (Int32.ofNat nn) a) * (1000000 : Int32))) + ((own_dv (3 : Int32) (Int32.ofNat nf) (Int32.ofNat nn) a) * (100000 : Int32))) + ((own_dv (4 : Int32) (Int32.ofNat nf) (Int32.ofNat nn) a) * (10000 : Int32))) + ((own_dv (5 : Int32) (Int32.ofNat nf) (Int32.ofNat nn) a) * (1000 : Int32))) + ((own_dv (6 : Int32) (Int32.ofNat nf) (Int32.ofNat nn) a) * (100 : Int32))))]) (lenOf pd__IIIJ_I rfl) rfl (by show 2 * 0 + _ ≤ _; exact Nat.le_of_eq rfl) (hb hby at_338) (fun _ _ => ⟨rfl, e84, (by decide : 3 + 0 ≤ _), (by decide : 32 + 0 ≤ _)⟩)
  dsimp only [Pt.U, Pt.locs, Pt.cells, Pt.slots] at X85 l85 y85 z85 st85 hQ85
  have y85 : k85 = 3 := y85
  have z85 : n85 = 32 := z85
  subst y85 z85
  obtain ⟨rfl, Nq85, e85⟩ := hQ85
  have N85 : Fr n0 L85 := by rw [l85]; exact Fr.app N84 Nq85
  refine own_st st85 ?_
  show own_Go p.tables e below _ (T85.setTop (mkF m 341 #[.val (.long a), .second, .val (.long b), .second, .val (.int f), .val (.int mm), .val (.int (Int32.ofNat nf)), .val (.int (Int32.ofNat nn)), .val (.int (Int32.ofNat (nf + nn))), .val (.ref ca), .val (.ref b73), .unset] [(.int (own_dv (7 : Int32) (Int32.ofNat nf) (Int32.ofNat nn) a)), (.int ((((((((own_dv (0 : Int32) (Int32.ofNat nf) (Int32.ofNat nn) a) * (100000000 : Int32)) + ((own_dv (1 : Int32) (Int32.ofNat nf) (Int32.ofNat nn) a) * (10000000 : Int32))) + ((own_dv (2 : Int32) (Int32.ofNat nf) (Int32.ofNat nn) a) * (1000000 : Int32))) + ((own_dv (3 : Int32) (Int32.ofNat nf) (Int32.ofNat nn) a) * (100000 : Int32))) + ((own_dv (4 : Int32) (Int32.ofNat nf) (Int32.ofNat nn) a) * (10000 : Int32))) + ((own_dv (5 : Int32) (Int32.ofNat nf) (Int32.ofNat nn) a) * (1000 : Int32))) + ((own_dv (6 : Int32) (Int32.ofNat nf) (Int32.ofNat nn) a) * (100 : Int32))))]))
  refine own_st (fun _ k' => XS.bipush X85.here hx rfl (hb hby at_341) k') ?_
  show own_Go p.tables e below _ (T85.setTop (mkF m 343 #[.val (.long a), .second, .val (.long b), .second, .val (.int f), .val (.int mm), .val (.int (Int32.ofNat nf)), .val (.int (Int32.ofNat nn)), .val (.int (Int32.ofNat (nf + nn))), .val (.ref ca), .val (.ref b73), .unset] [(.int (10 : Int32)), (.int (own_dv (7 : Int32) (Int32.ofNat nf) (Int32.ofNat nn) a)), (.int ((((((((own_dv (0 : Int32) (Int32.ofNat nf) (Int32.ofNat nn) a) * (100000000 : Int32)) + ((own_dv (1 : Int32) (Int32.ofNat nf) (Int32.ofNat nn) a) * (10000000 : Int32))) + ((own_dv (2 : Int32) (Int32.ofNat nf) (Int32.ofNat nn) a) * (1000000 : Int32))) + ((own_dv (3 : Int32) (Int32.ofNat nf) (Int32.ofNat nn) a) * (100000 : Int32))) + ((own_dv (4 : Int32) (Int32.ofNat nf) (Int32.ofNat nn) a) * (10000 : Int32))) + ((own_dv (5 : Int32) (Int32.ofNat nf) (Int32.ofNat nn) a) * (1000 : Int32))) + ((own_dv (6 : Int32) (Int32.ofNat nf) (Int32.ofNat nn) a) * (100 : Int32))))]))
  refine own_st (fun _ k' => XS.imul X85.here hx rfl (hb hby at_343) rfl k') ?_
  show own_Go p.tables e below _ (T85.setTop (mkF m 344 #[.val (.long a), .second, .val (.long b), .second, .val (.int f), .val (.int mm), .val (.int (Int32.ofNat nf)), .val (.int (Int32.ofNat nn)), .val (.int (Int32.ofNat (nf + nn))), .val (.ref ca), .val (.ref b73), .unset] [(.int ((own_dv (7 : Int32) (Int32.ofNat nf) (Int32.ofNat nn) a) * (10 : Int32))), (.int ((((((((own_dv (0 : Int32) (Int32.ofNat nf) (Int32.ofNat nn) a) * (100000000 : Int32)) + ((own_dv (1 : Int32) (Int32.ofNat nf) (Int32.ofNat nn) a) * (10000000 : Int32))) + ((own_dv (2 : Int32) (Int32.ofNat nf) (Int32.ofNat nn) a) * (1000000 : Int32))) + ((own_dv (3 : Int32) (Int32.ofNat nf) (Int32.ofNat nn) a) * (100000 : Int32))) + ((own_dv (4 : Int32) (Int32.ofNat nf) (Int32.ofNat nn) a) * (10000 : Int32))) + ((own_dv (5 : Int32) (Int32.ofNat nf) (Int32.ofNat nn) a) * (1000 : Int32))) + ((own_dv (6 : Int32) (Int32.ofNat nf) (Int32.ofNat nn) a) * (100 : Int32))))]))
  refine own_st (fun _ k' => XS.iadd X85.here hx rfl (hb hby at_344) rfl k') ?_
  show own_Go p.tables e below _ (T85.setTop (mkF m 345 #[.val (.long a), .second, .val (.long b), .second, .val (.int f), .val (.int mm), .val (.int (Int32.ofNat nf)), .val (.int (Int32.ofNat nn)), .val (.int (Int32.ofNat (nf + nn))), .val (.ref ca), .val (.ref b73), .unset] [(.int (((((((((own_dv (0 : Int32) (Int32.ofNat nf) (Int32.ofNat nn) a) * (100000000 : Int32)) + ((own_dv (1 : Int32) (Int32.ofNat nf) (Int32.ofNat nn) a) * (10000000 : Int32))) + ((own_dv (2 : Int32) (Int32.ofNat nf) (Int32.ofNat nn) a) * (1000000 : Int32))) + ((own_dv (3 : Int32) (Int32.ofNat nf) (Int32.ofNat nn) a) * (100000 : Int32))) + ((own_dv (4 : Int32) (Int32.ofNat nf) (Int32.ofNat nn) a) * (10000 : Int32))) + ((own_dv (5 : Int32) (Int32.ofNat nf) (Int32.ofNat nn) a) * (1000 : Int32))) + ((own_dv (6 : Int32) (Int32.ofNat nf) (Int32.ofNat nn) a) * (100 : Int32))) + ((own_dv (7 : Int32) (Int32.ofNat nf) (Int32.ofNat nn) a) * (10 : Int32))))]))
  refine own_st (fun _ k' => XS.bipush X85.here hx rfl (hb hby at_345) k') ?_
  show own_Go p.tables e below _ (T85.setTop (mkF m 347 #[.val (.long a), .second, .val (.long b), .second, .val (.int f), .val (.int mm), .val (.int (Int32.ofNat nf)), .val (.int (Int32.ofNat nn)), .val (.int (Int32.ofNat (nf + nn))), .val (.ref ca), .val (.ref b73), .unset] [(.int (8 : Int32)), (.int (((((((((own_dv (0 : Int32) (Int32.ofNat nf) (Int32.ofNat nn) a) * (100000000 : Int32)) + ((own_dv (1 : Int32) (Int32.ofNat nf) (Int32.ofNat nn) a) * (10000000 : Int32))) + ((own_dv (2 : Int32) (Int32.ofNat nf) (Int32.ofNat nn) a) * (1000000 : Int32))) + ((own_dv (3 : Int32) (Int32.ofNat nf) (Int32.ofNat nn) a) * (100000 : Int32))) + ((own_dv (4 : Int32) (Int32.ofNat nf) (Int32.ofNat nn) a) * (10000 : Int32))) + ((own_dv (5 : Int32) (Int32.ofNat nf) (Int32.ofNat nn) a) * (1000 : Int32))) + ((own_dv (6 : Int32) (Int32.ofNat nf) (Int32.ofNat nn) a) * (100 : Int32))) + ((own_dv (7 : Int32) (Int32.ofNat nf) (Int32.ofNat nn) a) * (10 : Int32))))]))
  refine own_st (fun _ k' => XS.iload X85.here hx rfl (hb hby at_347) rfl k') ?_
  show own_Go p.tables e below _ (T85.setTop (mkF m 349 #[.val (.long a), .second, .val (.long b), .second, .val (.int f), .val (.int mm), .val (.int (Int32.ofNat nf)), .val (.int (Int32.ofNat nn)), .val (.int (Int32.ofNat (nf + nn))), .val (.ref ca), .val (.ref b73), .unset] [(.int (Int32.ofNat nf)), (.int (8 : Int32)), (.int (((((((((own_dv (0 : Int32) (Int32.ofNat nf) (Int32.ofNat nn) a) * (100000000 : Int32)) + ((own_dv (1 : Int32) (Int32.ofNat nf) (Int32.ofNat nn) a) * (10000000 : Int32))) + ((own_dv (2 : Int32) (Int32.ofNat nf) (Int32.ofNat nn) a) * (1000000 : Int32))) + ((own_dv (3 : Int32) (Int32.ofNat nf) (Int32.ofNat nn) a) * (100000 : Int32))) + ((own_dv (4 : Int32) (Int32.ofNat nf) (Int32.ofNat nn) a) * (10000 : Int32))) + ((own_dv (5 : Int32) (Int32.ofNat nf) (Int32.ofNat nn) a) * (1000 : Int32))) + ((own_dv (6 : Int32) (Int32.ofNat nf) (Int32.ofNat nn) a) * (100 : Int32))) + ((own_dv (7 : Int32) (Int32.ofNat nf) (Int32.ofNat nn) a) * (10 : Int32))))]))
  refine own_st (fun _ k' => XS.iload X85.here hx rfl (hb hby at_349) rfl k') ?_
  show own_Go p.tables e below _ (T85.setTop (mkF m 351 #[.val (.long a), .second, .val (.long b), .second, .val (.int f), .val (.int mm), .val (.int (Int32.ofNat nf)), .val (.int (Int32.ofNat nn)), .val (.int (Int32.ofNat (nf + nn))), .val (.ref ca), .val (.ref b73), .unset] [(.int (Int32.ofNat nn)), (.int (Int32.ofNat nf)), (.int (8 : Int32)), (.int (((((((((own_dv (0 : Int32) (Int32.ofNat nf) (Int32.ofNat nn) a) * (100000000 : Int32)) + ((own_dv (1 : Int32) (Int32.ofNat nf) (Int32.ofNat nn) a) * (10000000 : Int32))) + ((own_dv (2 : Int32) (Int32.ofNat nf) (Int32.ofNat nn) a) * (1000000 : Int32))) + ((own_dv (3 : Int32) (Int32.ofNat nf) (Int32.ofNat nn) a) * (100000 : Int32))) + ((own_dv (4 : Int32) (Int32.ofNat nf) (Int32.ofNat nn) a) * (10000 : Int32))) + ((own_dv (5 : Int32) (Int32.ofNat nf) (Int32.ofNat nn) a) * (1000 : Int32))) + ((own_dv (6 : Int32) (Int32.ofNat nf) (Int32.ofNat nn) a) * (100 : Int32))) + ((own_dv (7 : Int32) (Int32.ofNat nf) (Int32.ofNat nn) a) * (10 : Int32))))]))
  refine own_st (fun _ k' => XS.lloadN X85.here hx rfl (hb hby at_351) rfl k') ?_
  show own_Go p.tables e below _ (T85.setTop (mkF m 352 #[.val (.long a), .second, .val (.long b), .second, .val (.int f), .val (.int mm), .val (.int (Int32.ofNat nf)), .val (.int (Int32.ofNat nn)), .val (.int (Int32.ofNat (nf + nn))), .val (.ref ca), .val (.ref b73), .unset] [(.long a), (.int (Int32.ofNat nn)), (.int (Int32.ofNat nf)), (.int (8 : Int32)), (.int (((((((((own_dv (0 : Int32) (Int32.ofNat nf) (Int32.ofNat nn) a) * (100000000 : Int32)) + ((own_dv (1 : Int32) (Int32.ofNat nf) (Int32.ofNat nn) a) * (10000000 : Int32))) + ((own_dv (2 : Int32) (Int32.ofNat nf) (Int32.ofNat nn) a) * (1000000 : Int32))) + ((own_dv (3 : Int32) (Int32.ofNat nf) (Int32.ofNat nn) a) * (100000 : Int32))) + ((own_dv (4 : Int32) (Int32.ofNat nf) (Int32.ofNat nn) a) * (10000 : Int32))) + ((own_dv (5 : Int32) (Int32.ofNat nf) (Int32.ofNat nn) a) * (1000 : Int32))) + ((own_dv (6 : Int32) (Int32.ofNat nf) (Int32.ofNat nn) a) * (100 : Int32))) + ((own_dv (7 : Int32) (Int32.ofNat nf) (Int32.ofNat nn) a) * (10 : Int32))))]))
  obtain ⟨_, _, ⟨T86, L86, k86, n86⟩, -, X86, ⟨Lc86, hQ86, l86, y86, z86⟩, st86⟩ := Jvm.LawKit.callS X85 hx (y := (⟨"com/example/frozen_thread/frozenthread/text/DigitsNanosPinLaw", "dv", "(IIIJ)I"⟩ : MethodName)) hown (mvT hZ (hw _ (List.mem_of_getElem? (i := 40) rfl))) (mvT hZ (hw _ (List.mem_of_getElem? (i := 41) rfl))) (mvT hZ (hw _ (List.mem_of_getElem? (i := 4) rfl))) (mvT hZ (hw _ (List.mem_of_getElem? (i := 42) rfl))) (by decide) (backOf (W := 1) (rmDv l Z a0 hw [] (8 : Int32) (Int32.ofNat nf) (Int32.ofNat nn) a T76.heap n0 Zc76 ) hZ (hw _ (List.mem_of_getElem? (i := 42) rfl)) (hw _ (List.mem_of_getElem? (i := 4) rfl)) (by decide) (by decide)) (g := (mkF m 352 #[.val (.long a), .second, .val (.long b), .second, .val (.int f), .val (.int mm), .val (.int (Int32.ofNat nf)), .val (.int (Int32.ofNat nn)), .val (.int (Int32.ofNat (nf + nn))), .val (.ref ca), .val (.ref b73), .unset] [(.long a), (.int (Int32.ofNat nn)), (.int (Int32.ofNat nf)), (.int (8 : Int32)), (.int (((((((((own_dv (0 : Int32) (Int32.ofNat nf) (Int32.ofNat nn) a) * (100000000 : Int32)) + ((own_dv (1 : Int32) (Int32.ofNat nf) (Int32.ofNat nn) a) * (10000000 : Int32))) + ((own_dv (2 : Int32) (Int32.ofNat nf) (Int32.ofNat nn) a) * (1000000 : Int32))) + ((own_dv (3 : Int32) (Int32.ofNat nf) (Int32.ofNat nn) a) * (100000 : Int32))) + ((own_dv (4 : Int32) (Int32.ofNat nf) (Int32.ofNat nn) a) * (10000 : Int32))) + ((own_dv (5 : Int32) (Int32.ofNat nf) (Int32.ofNat nn) a) * (1000 : Int32))) + ((own_dv (6 : Int32) (Int32.ofNat nf) (Int32.ofNat nn) a) * (100 : Int32))) + ((own_dv (7 : Int32) (Int32.ofNat nf) (Int32.ofNat nn) a) * (10 : Int32))))])) rfl (by rw [hml]; rfl) (argsL := [(.int (8 : Int32)), (.int (Int32.ofNat nf)), (.int (Int32.ofNat nn)), (.long a)]) (rest := [(.int (((((((((own_dv (0 : Int32) (Int32.ofNat nf) (Int32.ofNat nn) a) * (100000000 : Int32)) + ((own_dv (1 : Int32) (Int32.ofNat nf) (Int32.ofNat nn) a) * (10000000 : Int32))) + ((own_dv (2 : Int32) (Int32.ofNat nf) (Int32.ofNat nn) a) * (1000000 : Int32))) + ((own_dv (3 : Int32) (Int32.ofNat nf) (Int32.ofNat nn) a) * (100000 : Int32))) + ((own_dv (4 : Int32) (Int32.ofNat nf) (Int32.ofNat nn) a) * (10000 : Int32))) + ((own_dv (5 : Int32) (Int32.ofNat nf) (Int32.ofNat nn) a) * (1000 : Int32))) + ((own_dv (6 : Int32) (Int32.ofNat nf) (Int32.ofNat nn) a) * (100 : Int32))) + ((own_dv (7 : Int32) (Int32.ofNat nf) (Int32.ofNat nn) a) * (10 : Int32))))]) (lenOf pd__IIIJ_I rfl) rfl (by show 2 * 0 + _ ≤ _; exact Nat.le_of_eq rfl) (hb hby at_352) (fun _ _ => ⟨rfl, e85, (by decide : 3 + 0 ≤ _), (by decide : 32 + 0 ≤ _)⟩)
  dsimp only [Pt.U, Pt.locs, Pt.cells, Pt.slots] at X86 l86 y86 z86 st86 hQ86
  have y86 : k86 = 3 := y86
  have z86 : n86 = 32 := z86
  subst y86 z86
  obtain ⟨rfl, Nq86, e86⟩ := hQ86
  have N86 : Fr n0 L86 := by rw [l86]; exact Fr.app N85 Nq86
  refine own_st st86 ?_
  show own_Go p.tables e below _ (T86.setTop (mkF m 355 #[.val (.long a), .second, .val (.long b), .second, .val (.int f), .val (.int mm), .val (.int (Int32.ofNat nf)), .val (.int (Int32.ofNat nn)), .val (.int (Int32.ofNat (nf + nn))), .val (.ref ca), .val (.ref b73), .unset] [(.int (own_dv (8 : Int32) (Int32.ofNat nf) (Int32.ofNat nn) a)), (.int (((((((((own_dv (0 : Int32) (Int32.ofNat nf) (Int32.ofNat nn) a) * (100000000 : Int32)) + ((own_dv (1 : Int32) (Int32.ofNat nf) (Int32.ofNat nn) a) * (10000000 : Int32))) + ((own_dv (2 : Int32) (Int32.ofNat nf) (Int32.ofNat nn) a) * (1000000 : Int32))) + ((own_dv (3 : Int32) (Int32.ofNat nf) (Int32.ofNat nn) a) * (100000 : Int32))) + ((own_dv (4 : Int32) (Int32.ofNat nf) (Int32.ofNat nn) a) * (10000 : Int32))) + ((own_dv (5 : Int32) (Int32.ofNat nf) (Int32.ofNat nn) a) * (1000 : Int32))) + ((own_dv (6 : Int32) (Int32.ofNat nf) (Int32.ofNat nn) a) * (100 : Int32))) + ((own_dv (7 : Int32) (Int32.ofNat nf) (Int32.ofNat nn) a) * (10 : Int32))))]))
  refine own_st (fun _ k' => XS.iadd X86.here hx rfl (hb hby at_355) rfl k') ?_
  show own_Go p.tables e below _ (T86.setTop (mkF m 356 #[.val (.long a), .second, .val (.long b), .second, .val (.int f), .val (.int mm), .val (.int (Int32.ofNat nf)), .val (.int (Int32.ofNat nn)), .val (.int (Int32.ofNat (nf + nn))), .val (.ref ca), .val (.ref b73), .unset] [(.int ((((((((((own_dv (0 : Int32) (Int32.ofNat nf) (Int32.ofNat nn) a) * (100000000 : Int32)) + ((own_dv (1 : Int32) (Int32.ofNat nf) (Int32.ofNat nn) a) * (10000000 : Int32))) + ((own_dv (2 : Int32) (Int32.ofNat nf) (Int32.ofNat nn) a) * (1000000 : Int32))) + ((own_dv (3 : Int32) (Int32.ofNat nf) (Int32.ofNat nn) a) * (100000 : Int32))) + ((own_dv (4 : Int32) (Int32.ofNat nf) (Int32.ofNat nn) a) * (10000 : Int32))) + ((own_dv (5 : Int32) (Int32.ofNat nf) (Int32.ofNat nn) a) * (1000 : Int32))) + ((own_dv (6 : Int32) (Int32.ofNat nf) (Int32.ofNat nn) a) * (100 : Int32))) + ((own_dv (7 : Int32) (Int32.ofNat nf) (Int32.ofNat nn) a) * (10 : Int32))) + (own_dv (8 : Int32) (Int32.ofNat nf) (Int32.ofNat nn) a)))]))
  refine own_st (fun _ k' => XS.istore X86.here hx rfl (hb hby at_356) rfl (l' := #[.val (.long a), .second, .val (.long b), .second, .val (.int f), .val (.int mm), .val (.int (Int32.ofNat nf)), .val (.int (Int32.ofNat nn)), .val (.int (Int32.ofNat (nf + nn))), .val (.ref ca), .val (.ref b73), .val (.int ((((((((((own_dv (0 : Int32) (Int32.ofNat nf) (Int32.ofNat nn) a) * (100000000 : Int32)) + ((own_dv (1 : Int32) (Int32.ofNat nf) (Int32.ofNat nn) a) * (10000000 : Int32))) + ((own_dv (2 : Int32) (Int32.ofNat nf) (Int32.ofNat nn) a) * (1000000 : Int32))) + ((own_dv (3 : Int32) (Int32.ofNat nf) (Int32.ofNat nn) a) * (100000 : Int32))) + ((own_dv (4 : Int32) (Int32.ofNat nf) (Int32.ofNat nn) a) * (10000 : Int32))) + ((own_dv (5 : Int32) (Int32.ofNat nf) (Int32.ofNat nn) a) * (1000 : Int32))) + ((own_dv (6 : Int32) (Int32.ofNat nf) (Int32.ofNat nn) a) * (100 : Int32))) + ((own_dv (7 : Int32) (Int32.ofNat nf) (Int32.ofNat nn) a) * (10 : Int32))) + (own_dv (8 : Int32) (Int32.ofNat nf) (Int32.ofNat nn) a)))]) rfl k') ?_
  show own_Go p.tables e below _ (T86.setTop (mkF m 358 #[.val (.long a), .second, .val (.long b), .second, .val (.int f), .val (.int mm), .val (.int (Int32.ofNat nf)), .val (.int (Int32.ofNat nn)), .val (.int (Int32.ofNat (nf + nn))), .val (.ref ca), .val (.ref b73), .val (.int ((((((((((own_dv (0 : Int32) (Int32.ofNat nf) (Int32.ofNat nn) a) * (100000000 : Int32)) + ((own_dv (1 : Int32) (Int32.ofNat nf) (Int32.ofNat nn) a) * (10000000 : Int32))) + ((own_dv (2 : Int32) (Int32.ofNat nf) (Int32.ofNat nn) a) * (1000000 : Int32))) + ((own_dv (3 : Int32) (Int32.ofNat nf) (Int32.ofNat nn) a) * (100000 : Int32))) + ((own_dv (4 : Int32) (Int32.ofNat nf) (Int32.ofNat nn) a) * (10000 : Int32))) + ((own_dv (5 : Int32) (Int32.ofNat nf) (Int32.ofNat nn) a) * (1000 : Int32))) + ((own_dv (6 : Int32) (Int32.ofNat nf) (Int32.ofNat nn) a) * (100 : Int32))) + ((own_dv (7 : Int32) (Int32.ofNat nf) (Int32.ofNat nn) a) * (10 : Int32))) + (own_dv (8 : Int32) (Int32.ofNat nf) (Int32.ofNat nn) a)))] []))
  refine own_st (fun _ k' => XS.aload X86.here hx rfl (hb hby at_358) rfl rfl k') ?_
  show own_Go p.tables e below _ (T86.setTop (mkF m 360 #[.val (.long a), .second, .val (.long b), .second, .val (.int f), .val (.int mm), .val (.int (Int32.ofNat nf)), .val (.int (Int32.ofNat nn)), .val (.int (Int32.ofNat (nf + nn))), .val (.ref ca), .val (.ref b73), .val (.int ((((((((((own_dv (0 : Int32) (Int32.ofNat nf) (Int32.ofNat nn) a) * (100000000 : Int32)) + ((own_dv (1 : Int32) (Int32.ofNat nf) (Int32.ofNat nn) a) * (10000000 : Int32))) + ((own_dv (2 : Int32) (Int32.ofNat nf) (Int32.ofNat nn) a) * (1000000 : Int32))) + ((own_dv (3 : Int32) (Int32.ofNat nf) (Int32.ofNat nn) a) * (100000 : Int32))) + ((own_dv (4 : Int32) (Int32.ofNat nf) (Int32.ofNat nn) a) * (10000 : Int32))) + ((own_dv (5 : Int32) (Int32.ofNat nf) (Int32.ofNat nn) a) * (1000 : Int32))) + ((own_dv (6 : Int32) (Int32.ofNat nf) (Int32.ofNat nn) a) * (100 : Int32))) + ((own_dv (7 : Int32) (Int32.ofNat nf) (Int32.ofNat nn) a) * (10 : Int32))) + (own_dv (8 : Int32) (Int32.ofNat nf) (Int32.ofNat nn) a)))] [(.ref b73)]))
  refine own_st (fun _ k' => XS.iload X86.here hx rfl (hb hby at_360) rfl k') ?_
  show own_Go p.tables e below _ (T86.setTop (mkF m 362 #[.val (.long a), .second, .val (.long b), .second, .val (.int f), .val (.int mm), .val (.int (Int32.ofNat nf)), .val (.int (Int32.ofNat nn)), .val (.int (Int32.ofNat (nf + nn))), .val (.ref ca), .val (.ref b73), .val (.int ((((((((((own_dv (0 : Int32) (Int32.ofNat nf) (Int32.ofNat nn) a) * (100000000 : Int32)) + ((own_dv (1 : Int32) (Int32.ofNat nf) (Int32.ofNat nn) a) * (10000000 : Int32))) + ((own_dv (2 : Int32) (Int32.ofNat nf) (Int32.ofNat nn) a) * (1000000 : Int32))) + ((own_dv (3 : Int32) (Int32.ofNat nf) (Int32.ofNat nn) a) * (100000 : Int32))) + ((own_dv (4 : Int32) (Int32.ofNat nf) (Int32.ofNat nn) a) * (10000 : Int32))) + ((own_dv (5 : Int32) (Int32.ofNat nf) (Int32.ofNat nn) a) * (1000 : Int32))) + ((own_dv (6 : Int32) (Int32.ofNat nf) (Int32.ofNat nn) a) * (100 : Int32))) + ((own_dv (7 : Int32) (Int32.ofNat nf) (Int32.ofNat nn) a) * (10 : Int32))) + (own_dv (8 : Int32) (Int32.ofNat nf) (Int32.ofNat nn) a)))] [(.int (Int32.ofNat nf)), (.ref b73)]))
  refine own_st (fun _ k' => XS.iload X86.here hx rfl (hb hby at_362) rfl k') ?_
  show own_Go p.tables e below _ (T86.setTop (mkF m 364 #[.val (.long a), .second, .val (.long b), .second, .val (.int f), .val (.int mm), .val (.int (Int32.ofNat nf)), .val (.int (Int32.ofNat nn)), .val (.int (Int32.ofNat (nf + nn))), .val (.ref ca), .val (.ref b73), .val (.int ((((((((((own_dv (0 : Int32) (Int32.ofNat nf) (Int32.ofNat nn) a) * (100000000 : Int32)) + ((own_dv (1 : Int32) (Int32.ofNat nf) (Int32.ofNat nn) a) * (10000000 : Int32))) + ((own_dv (2 : Int32) (Int32.ofNat nf) (Int32.ofNat nn) a) * (1000000 : Int32))) + ((own_dv (3 : Int32) (Int32.ofNat nf) (Int32.ofNat nn) a) * (100000 : Int32))) + ((own_dv (4 : Int32) (Int32.ofNat nf) (Int32.ofNat nn) a) * (10000 : Int32))) + ((own_dv (5 : Int32) (Int32.ofNat nf) (Int32.ofNat nn) a) * (1000 : Int32))) + ((own_dv (6 : Int32) (Int32.ofNat nf) (Int32.ofNat nn) a) * (100 : Int32))) + ((own_dv (7 : Int32) (Int32.ofNat nf) (Int32.ofNat nn) a) * (10 : Int32))) + (own_dv (8 : Int32) (Int32.ofNat nf) (Int32.ofNat nn) a)))] [(.int (Int32.ofNat (nf + nn))), (.int (Int32.ofNat nf)), (.ref b73)]))
  obtain ⟨_, _, ⟨T87, L87, k87, n87⟩, -, X87, ⟨Lc87, hQ87, l87, y87, z87⟩, st87⟩ := Jvm.LawKit.callS X86 hx (y := (⟨"com/example/frozen_thread/frozenthread/text/Digits", "nanos", "(Ljava/lang/String;II)I"⟩ : MethodName)) hown (mvT hZ (hw _ (List.mem_of_getElem? (i := 47) rfl))) (mvT hZ (hw _ (List.mem_of_getElem? (i := 48) rfl))) (mvT hZ (hw _ (List.mem_of_getElem? (i := 49) rfl))) (mvT hZ (hw _ (List.mem_of_getElem? (i := 50) rfl))) (by decide) (backOf (W := 0) (rmNN l Z a0 hw [] b73 t kb (own_cs (Int32.ofNat nf) (Int32.ofNat (nf + nn)) a b) nf (nf + nn) G1 G3 T76.heap n0 Zc76 Es Fv Fc Vt (own_cs_len _ _ _ _) hp hf1 (by omega) O2 O4 P5 rG3 O__x77) hZ (hw _ (List.mem_of_getElem? (i := 50) rfl)) (hw _ (List.mem_of_getElem? (i := 49) rfl)) (by decide) (by decide)) (g := (mkF m 364 #[.val (.long a), .second, .val (.long b), .second, .val (.int f), .val (.int mm), .val (.int (Int32.ofNat nf)), .val (.int (Int32.ofNat nn)), .val (.int (Int32.ofNat (nf + nn))), .val (.ref ca), .val (.ref b73), .val (.int ((((((((((own_dv (0 : Int32) (Int32.ofNat nf) (Int32.ofNat nn) a) * (100000000 : Int32)) + ((own_dv (1 : Int32) (Int32.ofNat nf) (Int32.ofNat nn) a) * (10000000 : Int32))) + ((own_dv (2 : Int32) (Int32.ofNat nf) (Int32.ofNat nn) a) * (1000000 : Int32))) + ((own_dv (3 : Int32) (Int32.ofNat nf) (Int32.ofNat nn) a) * (100000 : Int32))) + ((own_dv (4 : Int32) (Int32.ofNat nf) (Int32.ofNat nn) a) * (10000 : Int32))) + ((own_dv (5 : Int32) (Int32.ofNat nf) (Int32.ofNat nn) a) * (1000 : Int32))) + ((own_dv (6 : Int32) (Int32.ofNat nf) (Int32.ofNat nn) a) * (100 : Int32))) + ((own_dv (7 : Int32) (Int32.ofNat nf) (Int32.ofNat nn) a) * (10 : Int32))) + (own_dv (8 : Int32) (Int32.ofNat nf) (Int32.ofNat nn) a)))] [(.int (Int32.ofNat (nf + nn))), (.int (Int32.ofNat nf)), (.ref b73)])) rfl (by rw [hml]; rfl) (argsL := [(.ref b73), (.int (Int32.ofNat nf)), (.int (Int32.ofNat (nf + nn)))]) (rest := []) (lenOf pd__Ljava_lang_String_II_I rfl) rfl (by show 2 * 0 + _ ≤ _; exact Nat.le_of_eq rfl) (hb hby at_364) (fun _ _ => ⟨rfl, e86, (by decide : 3 + 0 ≤ _), (by decide : 32 + 0 ≤ _)⟩)
  dsimp only [Pt.U, Pt.locs, Pt.cells, Pt.slots] at X87 l87 y87 z87 st87 hQ87
  have y87 : k87 = 3 := y87
  have z87 : n87 = 32 := z87
  subst y87 z87
  obtain ⟨rfl, Nq87, e87⟩ := hQ87
  have N87 : Fr n0 L87 := by rw [l87]; exact Fr.app N86 Nq87
  refine own_st st87 ?_
  show own_Go p.tables e below _ (T87.setTop (mkF m 367 #[.val (.long a), .second, .val (.long b), .second, .val (.int f), .val (.int mm), .val (.int (Int32.ofNat nf)), .val (.int (Int32.ofNat nn)), .val (.int (Int32.ofNat (nf + nn))), .val (.ref ca), .val (.ref b73), .val (.int ((((((((((own_dv (0 : Int32) (Int32.ofNat nf) (Int32.ofNat nn) a) * (100000000 : Int32)) + ((own_dv (1 : Int32) (Int32.ofNat nf) (Int32.ofNat nn) a) * (10000000 : Int32))) + ((own_dv (2 : Int32) (Int32.ofNat nf) (Int32.ofNat nn) a) * (1000000 : Int32))) + ((own_dv (3 : Int32) (Int32.ofNat nf) (Int32.ofNat nn) a) * (100000 : Int32))) + ((own_dv (4 : Int32) (Int32.ofNat nf) (Int32.ofNat nn) a) * (10000 : Int32))) + ((own_dv (5 : Int32) (Int32.ofNat nf) (Int32.ofNat nn) a) * (1000 : Int32))) + ((own_dv (6 : Int32) (Int32.ofNat nf) (Int32.ofNat nn) a) * (100 : Int32))) + ((own_dv (7 : Int32) (Int32.ofNat nf) (Int32.ofNat nn) a) * (10 : Int32))) + (own_dv (8 : Int32) (Int32.ofNat nf) (Int32.ofNat nn) a)))] [(.int (own_nan (own_cs (Int32.ofNat nf) (Int32.ofNat (nf + nn)) a b) (nf + nn) 9 nf 0))]))
  refine own_st (fun _ k' => XS.iload X87.here hx rfl (hb hby at_367) rfl k') ?_
  show own_Go p.tables e below _ (T87.setTop (mkF m 369 #[.val (.long a), .second, .val (.long b), .second, .val (.int f), .val (.int mm), .val (.int (Int32.ofNat nf)), .val (.int (Int32.ofNat nn)), .val (.int (Int32.ofNat (nf + nn))), .val (.ref ca), .val (.ref b73), .val (.int ((((((((((own_dv (0 : Int32) (Int32.ofNat nf) (Int32.ofNat nn) a) * (100000000 : Int32)) + ((own_dv (1 : Int32) (Int32.ofNat nf) (Int32.ofNat nn) a) * (10000000 : Int32))) + ((own_dv (2 : Int32) (Int32.ofNat nf) (Int32.ofNat nn) a) * (1000000 : Int32))) + ((own_dv (3 : Int32) (Int32.ofNat nf) (Int32.ofNat nn) a) * (100000 : Int32))) + ((own_dv (4 : Int32) (Int32.ofNat nf) (Int32.ofNat nn) a) * (10000 : Int32))) + ((own_dv (5 : Int32) (Int32.ofNat nf) (Int32.ofNat nn) a) * (1000 : Int32))) + ((own_dv (6 : Int32) (Int32.ofNat nf) (Int32.ofNat nn) a) * (100 : Int32))) + ((own_dv (7 : Int32) (Int32.ofNat nf) (Int32.ofNat nn) a) * (10 : Int32))) + (own_dv (8 : Int32) (Int32.ofNat nf) (Int32.ofNat nn) a)))] [(.int ((((((((((own_dv (0 : Int32) (Int32.ofNat nf) (Int32.ofNat nn) a) * (100000000 : Int32)) + ((own_dv (1 : Int32) (Int32.ofNat nf) (Int32.ofNat nn) a) * (10000000 : Int32))) + ((own_dv (2 : Int32) (Int32.ofNat nf) (Int32.ofNat nn) a) * (1000000 : Int32))) + ((own_dv (3 : Int32) (Int32.ofNat nf) (Int32.ofNat nn) a) * (100000 : Int32))) + ((own_dv (4 : Int32) (Int32.ofNat nf) (Int32.ofNat nn) a) * (10000 : Int32))) + ((own_dv (5 : Int32) (Int32.ofNat nf) (Int32.ofNat nn) a) * (1000 : Int32))) + ((own_dv (6 : Int32) (Int32.ofNat nf) (Int32.ofNat nn) a) * (100 : Int32))) + ((own_dv (7 : Int32) (Int32.ofNat nf) (Int32.ofNat nn) a) * (10 : Int32))) + (own_dv (8 : Int32) (Int32.ofNat nf) (Int32.ofNat nn) a))), (.int (own_nan (own_cs (Int32.ofNat nf) (Int32.ofNat (nf + nn)) a b) (nf + nn) 9 nf 0))]))
  refine own_st (fun _ k' => XS.icmpNo X87.here hx rfl (hb hby at_369) rfl (teq (own_law a b nf nn hf1 hn1)).2 k') ?_
  show own_Go p.tables e below _ (T87.setTop (mkF m 372 #[.val (.long a), .second, .val (.long b), .second, .val (.int f), .val (.int mm), .val (.int (Int32.ofNat nf)), .val (.int (Int32.ofNat nn)), .val (.int (Int32.ofNat (nf + nn))), .val (.ref ca), .val (.ref b73), .val (.int ((((((((((own_dv (0 : Int32) (Int32.ofNat nf) (Int32.ofNat nn) a) * (100000000 : Int32)) + ((own_dv (1 : Int32) (Int32.ofNat nf) (Int32.ofNat nn) a) * (10000000 : Int32))) + ((own_dv (2 : Int32) (Int32.ofNat nf) (Int32.ofNat nn) a) * (1000000 : Int32))) + ((own_dv (3 : Int32) (Int32.ofNat nf) (Int32.ofNat nn) a) * (100000 : Int32))) + ((own_dv (4 : Int32) (Int32.ofNat nf) (Int32.ofNat nn) a) * (10000 : Int32))) + ((own_dv (5 : Int32) (Int32.ofNat nf) (Int32.ofNat nn) a) * (1000 : Int32))) + ((own_dv (6 : Int32) (Int32.ofNat nf) (Int32.ofNat nn) a) * (100 : Int32))) + ((own_dv (7 : Int32) (Int32.ofNat nf) (Int32.ofNat nn) a) * (10 : Int32))) + (own_dv (8 : Int32) (Int32.ofNat nf) (Int32.ofNat nn) a)))] []))
  refine own_st (fun _ k' => XS.iconst X87.here hx rfl (hb hby at_372) k') ?_
  show own_Go p.tables e below _ (T87.setTop (mkF m 373 #[.val (.long a), .second, .val (.long b), .second, .val (.int f), .val (.int mm), .val (.int (Int32.ofNat nf)), .val (.int (Int32.ofNat nn)), .val (.int (Int32.ofNat (nf + nn))), .val (.ref ca), .val (.ref b73), .val (.int ((((((((((own_dv (0 : Int32) (Int32.ofNat nf) (Int32.ofNat nn) a) * (100000000 : Int32)) + ((own_dv (1 : Int32) (Int32.ofNat nf) (Int32.ofNat nn) a) * (10000000 : Int32))) + ((own_dv (2 : Int32) (Int32.ofNat nf) (Int32.ofNat nn) a) * (1000000 : Int32))) + ((own_dv (3 : Int32) (Int32.ofNat nf) (Int32.ofNat nn) a) * (100000 : Int32))) + ((own_dv (4 : Int32) (Int32.ofNat nf) (Int32.ofNat nn) a) * (10000 : Int32))) + ((own_dv (5 : Int32) (Int32.ofNat nf) (Int32.ofNat nn) a) * (1000 : Int32))) + ((own_dv (6 : Int32) (Int32.ofNat nf) (Int32.ofNat nn) a) * (100 : Int32))) + ((own_dv (7 : Int32) (Int32.ofNat nf) (Int32.ofNat nn) a) * (10 : Int32))) + (own_dv (8 : Int32) (Int32.ofNat nf) (Int32.ofNat nn) a)))] [(.int (1 : Int32))]))
  refine own_st (fun _ k' => XS.goto X87.here hx rfl (pc0 := 373) (pc' := 377) rfl (hb hby at_373) (by decide) (by decide) k') ?_
  show own_Go p.tables e below _ (T87.setTop (mkF m 377 #[.val (.long a), .second, .val (.long b), .second, .val (.int f), .val (.int mm), .val (.int (Int32.ofNat nf)), .val (.int (Int32.ofNat nn)), .val (.int (Int32.ofNat (nf + nn))), .val (.ref ca), .val (.ref b73), .val (.int ((((((((((own_dv (0 : Int32) (Int32.ofNat nf) (Int32.ofNat nn) a) * (100000000 : Int32)) + ((own_dv (1 : Int32) (Int32.ofNat nf) (Int32.ofNat nn) a) * (10000000 : Int32))) + ((own_dv (2 : Int32) (Int32.ofNat nf) (Int32.ofNat nn) a) * (1000000 : Int32))) + ((own_dv (3 : Int32) (Int32.ofNat nf) (Int32.ofNat nn) a) * (100000 : Int32))) + ((own_dv (4 : Int32) (Int32.ofNat nf) (Int32.ofNat nn) a) * (10000 : Int32))) + ((own_dv (5 : Int32) (Int32.ofNat nf) (Int32.ofNat nn) a) * (1000 : Int32))) + ((own_dv (6 : Int32) (Int32.ofNat nf) (Int32.ofNat nn) a) * (100 : Int32))) + ((own_dv (7 : Int32) (Int32.ofNat nf) (Int32.ofNat nn) a) * (10 : Int32))) + (own_dv (8 : Int32) (Int32.ofNat nf) (Int32.ofNat nn) a)))] [(.int (1 : Int32))]))
  exact own_retN X87 hx (t := .boolean) Bd.returns (by simp) (hb hby at_377) Bd.notSynchronized ⟨rfl, N87⟩ (by decide) (by decide)

set_option maxRecDepth 65536 in
set_option maxHeartbeats 40000000 in
theorem comes_1 {Post : Tables → Env → Array Value → State → Outcome → State → Prop} (hpost : ∀ tb e args s v u, (limb_1_1.after args s (.returned v) u = true ∧ limb_1_2.after args s (.returned v) u = true ∧ True) → FrameEnd s (.returned v) u (Jvm.fieldLocs frame_1_writes args s ++ Jvm.arrayLocs frame_1_arrays args s ++ Jvm.staticLocs frame_1_statics s) 16 128 → Post tb e args s (.returned v) u) :
    ArmFor flags0 classFile x code maxLocals ret World_1 tables_1 room_1 Calls_1 rest_1 Pre_1 Post := by
  intro l hfl _ _ p e ha hc hk s m args below hf hA hF happ hP
  obtain ⟨hcalls, hrest, hpre⟩ := hP
  obtain ⟨-, -, -, hnamed, -, -, -, hat⟩ := (Spec.applies_iff hf).mp happ
  obtain ⟨hg, hn⟩ := and_e (Cond.before_iff.mp (show (Jvm.Cond.and given_1 narrow_1).before args s = true from hpre))
  obtain ⟨hcnt, hg⟩ := and_e hg
  obtain ⟨w0, w1, w2, w3, rfl⟩ : ∃ w0 w1 w2 w3 : Value, args = #[w0, w1, w2, w3] := by
    have hs : args.size = 4 := by simpa [Cond.value, given_1] using hcnt
    obtain ⟨L⟩ := args
    match L, hs with
    | [w0, w1, w2, w3], _ => exact ⟨w0, w1, w2, w3, rfl⟩
  have hw := fun d (hd : d ∈ tables_1) => atoms_spec (ws := Jvm.Cond.code x code maxLocals ret :: tables_1) hat d (List.mem_cons_of_mem _ hd)
  have hfit : Fit s := fun {y c} hc i hi => by
    obtain ⟨ha, rfl⟩ := Array.getElem?_eq_some_iff.mp hc
    have q := List.all_eq_true.mp ((Array.all_eq_true_iff_forall_mem.mp hF) _ (Array.getElem_mem ha)) i (List.mem_range.mpr hi)
    simpa [Array.getElem?_eq_getElem hi] using q
  obtain ⟨hg0, hg⟩ := and_e hg
  obtain ⟨i0, ei0⟩ := isL_v hg0
  obtain rfl : w0 = (.long i0) := Option.some.inj ei0
  obtain ⟨hg1, hg⟩ := and_e hg
  obtain ⟨i1, ei1⟩ := isL_v hg1
  obtain rfl : w1 = (.long i1) := Option.some.inj ei1
  obtain ⟨hg2, hg⟩ := and_e hg
  obtain ⟨i2, ei2⟩ := is_v hg2
  obtain rfl : w2 = (.int i2) := Option.some.inj ei2
  have hg3 := hg
  obtain ⟨i3, ei3⟩ := is_v hg3
  obtain rfl : w3 = (.int i3) := Option.some.inj ei3
  obtain ⟨hsets, hown0⟩ := atoms_of _ (rest_1_c_eq ▸ (show rest_1_c.before _ s = true from hrest))
  have n5 := not_v (Cond.before_iff.mp (hsets _ (List.mem_of_getElem? (i := 2) rfl)))
  obtain ⟨i11, e10⟩ := is_v (Cond.before_iff.mp (hsets _ (List.mem_of_getElem? (i := 1) rfl)))
  have S12 : Sta s s.heap "java/lang/String" "COMPACT_STRINGS" "Z" (.int i11) := Sta.start e10 (Or.inl (hsets _ (List.mem_of_getElem? (i := 0) rfl)))
  obtain ⟨v13, e14, r15⟩ := isR_v (Cond.before_iff.mp (hsets _ (List.mem_of_getElem? (i := 8) rfl)))
  have S16 : Sta s s.heap "jdk/internal/util/Preconditions" "SIOOBE_FORMATTER" "Ljava/util/function/BiFunction;" v13 := Sta.start e14 (Or.inl (hsets _ (List.mem_of_getElem? (i := 7) rfl)))
  have c17 : ¬ (i11 = (0 : Int32)) := gotF (Cond.eq_ints e10 (Term.int_eval (0))) n5
  obtain ⟨n, o, h1, h2, h3, _, L, rfl, ⟨rfl, N⟩, hq⟩ := rm0 l s _ hw tables_1 i0 i1 i2 i3 i11 v13 s.heap s.heap.size (Nat.le_refl _) S12 S16 c17 r15 (Old.start s) p e ha hc hk s m _ below hf ((Spec.applies_iff_loose hf).mp happ).1 ⟨rfl, State.Warmed39.refl s, rfl⟩ trivial
  refine ⟨n, _, h1, h2, h3, hpost _ _ _ _ _ _ ⟨Cond.after_iff.mpr rfl, Cond.after_iff.mpr (eq_i res_at (Term.int_eval (1)) rfl), trivial⟩ ⟨hq.1, hq.2.1, (hq.2.2.sift fun y hy => Or.inr (N y hy)).mono (by decide) (by decide)⟩⟩
theorem main_1_1 : Claimed_1_1 := comes_1 fun _ _ _ _ _ _ h hF => ⟨h.1, hF⟩
theorem main_1_2 : Claimed_1_2 := comes_1 fun _ _ _ _ _ _ h hF => ⟨h.2.1, hF⟩

end Jvm.Pilot.@@N@@
namespace Jvm.Pilot.@@N@@
open Jvm Jvm.ClassFile Sem Op Lib Jvm.Free Jvm.Stand Jvm.Pilot.@@N@@.Jvm.D
/-! MADE BY PROGRAM (witnessworld.py) out of the Statement's table words and the real class files: 20 classes; the members and pool entries that the words name. The judged class is class 1, her method 1. -/
namespace start1
open Jvm.ClassFile
def u (s : String) : CpInfo := .utf8 (stringToUtf16 s)
/-- a pool by its gaps: so many unusable entries, then the entry; so many at the end -/
def gap : Nat → List CpInfo → List CpInfo
  | 0, r => r
  | n + 1, r => .unusable :: gap n r
def poolList (es : List (Nat × CpInfo)) (last : Nat) : List CpInfo := es.foldr (fun e r => gap e.1 (e.2 :: r)) (gap last [])
def pool (es : List (Nat × CpInfo)) (last : Nat) : Array CpInfo := ⟨poolList es last⟩
def fileOf (pool : Array CpInfo) (this : Nat) (attrs : Array Attribute := #[]) (ms : Array MethodInfo := #[]) (fl : Nat := 33) (sup : Nat := 0) (ifs : Array Nat := #[]) (fds : Array FieldInfo := #[]) : ClassFile where
  minorVersion := 0
  majorVersion := 65
  constantPool := pool
  accessFlags := fl
  thisClass := this
  superClass := sup
  interfaces := ifs
  fields := fds
  methods := ms
  attributes := attrs
def plain (name : String) (sup : Option ClassId) : Class where
  name := name
  kind := .ordinary
  loader := none
  accessFlags := 33
  super := sup
  interfaces := #[]
  cf := none
  fields := #[]
  methods := #[]
  instanceTypes := #[]
  staticTypes := #[]
  resolved := #[]
  callSites := []
  init := .initialized
  statics := none
  mirror := none

def pool0 : Array CpInfo := pool [(5, u "<init>"), (0, u "()V"), (1, .class_ 10), (1, u "java/lang/Object")] 113

def k0c0 : Code := { maxStack := 0, maxLocals := 1, code := object_method_1_code, exceptionTable := #[], attributes := #[] }
def k0m0 : Method := { name := "<init>", desc := "()V", sig := { parameters := [], returnType := none }, accessFlags := 1, code := some k0c0 }
/-- java/lang/Object -/
def k0 : Class := { plain "java/lang/Object" none with
  accessFlags := 33
  interfaces := #[]
  cf := some (fileOf pool0 8 #[] #[{ accessFlags := 1, nameIndex := 5, descriptorIndex := 6, attributes := #[] }] 33 0 #[] #[])
  fields := #[]
  methods := #[k0m0]
  instanceTypes := #[]
  staticTypes := #[]
  resolved := Array.replicate 124 none
  statics := none }

def pool1 : Array CpInfo := pool [(2, .class_ 4), (1, u "java/lang/Object"), (0, u "<init>"), (0, u "()V"), (0, .integer 2147483647), (0, .methodref 9 10), (0, .class_ 11), (0, .nameAndType 12 13), (0, u "com/example/frozen_thread/frozenthread/text/DigitsNanosPinLaw"), (0, u "ch"), (0, u "(IIIJJ)C"), (0, .class_ 15), (0, u "java/lang/String"), (0, .methodref 14 17), (0, .nameAndType 5 18), (0, u "([C)V"), (0, .methodref 9 20), (0, .nameAndType 21 22), (0, u "dv"), (0, u "(IIIJ)I"), (0, .integer 100000000), (0, .integer 10000000), (0, .integer 1000000), (0, .integer 100000), (0, .methodref 28 29), (0, .class_ 30), (0, .nameAndType 31 32), (0, u "com/example/frozen_thread/frozenthread/text/Digits"), (0, u "nanos"), (0, u "(Ljava/lang/String;II)I"), (0, .long 15), (1, .methodref 9 36), (0, .nameAndType 37 38), (0, u "digit"), (0, u "(IJ)I"), (0, .long 255), (3, u "law"), (0, u "(JJII)Z")] 5

def k1m0 : Method := { name := "<init>", desc := "()V", sig := { parameters := [], returnType := none }, accessFlags := 1, code := none }
def k1c1 : Code := { maxStack := 10, maxLocals := 12, code := code, exceptionTable := #[], attributes := #[] }
def k1m1 : Method := { name := "law", desc := "(JJII)Z", sig := { parameters := [.long, .long, .int, .int], returnType := some .boolean }, accessFlags := 9, code := some k1c1 }
def k1c2 : Code := { maxStack := 4, maxLocals := 4, code := method_3_code, exceptionTable := #[], attributes := #[] }
def k1m2 : Method := { name := "digit", desc := "(IJ)I", sig := { parameters := [.int, .long], returnType := some .int }, accessFlags := 10, code := some k1c2 }
def k1c3 : Code := { maxStack := 4, maxLocals := 7, code := method_4_code, exceptionTable := #[], attributes := #[] }
def k1m3 : Method := { name := "ch", desc := "(IIIJJ)C", sig := { parameters := [.int, .int, .int, .long, .long], returnType := some .char }, accessFlags := 10, code := some k1c3 }
def k1c4 : Code := { maxStack := 3, maxLocals := 5, code := method_5_code, exceptionTable := #[], attributes := #[] }
def k1m4 : Method := { name := "dv", desc := "(IIIJ)I", sig := { parameters := [.int, .int, .int, .long], returnType := some .int }, accessFlags := 10, code := some k1c4 }
/-- com/example/frozen_thread/frozenthread/text/DigitsNanosPinLaw -/
def k1 : Class := { plain "com/example/frozen_thread/frozenthread/text/DigitsNanosPinLaw" (some 0) with
  accessFlags := 49
  interfaces := #[]
  cf := some (fileOf pool1 9 #[] #[{ accessFlags := 1, nameIndex := 5, descriptorIndex := 6, attributes := #[] }, { accessFlags := 9, nameIndex := 43, descriptorIndex := 44, attributes := #[] }, { accessFlags := 10, nameIndex := 37, descriptorIndex := 38, attributes := #[] }, { accessFlags := 10, nameIndex := 12, descriptorIndex := 13, attributes := #[] }, { accessFlags := 10, nameIndex := 21, descriptorIndex := 22, attributes := #[] }] 49 2 #[] #[])
  fields := #[]
  methods := #[k1m0, k1m1, k1m2, k1m3, k1m4]
  instanceTypes := #[]
  staticTypes := #[]
  resolved := Array.replicate 50 none
  statics := none }

def pool2 : Array CpInfo := pool [(1, .class_ 2), (0, u "java/io/Serializable"), (0, .class_ 4), (0, u "java/lang/Object")] 2

/-- java/io/Serializable -/
def k2 : Class := { plain "java/io/Serializable" (some 0) with
  accessFlags := 1537
  interfaces := #[]
  cf := some (fileOf pool2 1 #[] #[] 1537 3 #[] #[])
  fields := #[]
  methods := #[]
  instanceTypes := #[]
  staticTypes := #[]
  resolved := Array.replicate 7 none
  statics := none }

def pool3 : Array CpInfo := pool [(1, .class_ 2), (0, u "java/lang/Comparable"), (0, .class_ 4), (0, u "java/lang/Object")] 7

/-- java/lang/Comparable -/
def k3 : Class := { plain "java/lang/Comparable" (some 0) with
  accessFlags := 1537
  interfaces := #[]
  cf := some (fileOf pool3 1 #[] #[] 1537 3 #[] #[])
  fields := #[]
  methods := #[]
  instanceTypes := #[]
  staticTypes := #[]
  resolved := Array.replicate 12 none
  statics := none }

def pool4 : Array CpInfo := pool [(2, .class_ 4), (1, u "java/lang/CharSequence"), (42, .class_ 48), (0, u "java/lang/CharSequence$1CodePointIterator"), (10, .class_ 60), (0, u "java/lang/CharSequence$1CharIterator"), (5, .class_ 67), (0, u "java/lang/Object")] 63

/-- java/lang/CharSequence -/
def k4 : Class := { plain "java/lang/CharSequence" (some 0) with
  accessFlags := 1537
  interfaces := #[]
  cf := some (fileOf pool4 2 #[.nestMembers #[47, 59]] #[] 1537 66 #[] #[])
  fields := #[]
  methods := #[]
  instanceTypes := #[]
  staticTypes := #[]
  resolved := Array.replicate 131 none
  statics := none }

def pool5 : Array CpInfo := pool [(1, .class_ 2), (0, u "java/lang/constant/Constable"), (0, .class_ 4), (0, u "java/lang/Object")] 6

/-- java/lang/constant/Constable -/
def k5 : Class := { plain "java/lang/constant/Constable" (some 0) with
  accessFlags := 1537
  interfaces := #[]
  cf := some (fileOf pool5 1 #[] #[] 1537 3 #[] #[])
  fields := #[]
  methods := #[]
  instanceTypes := #[]
  staticTypes := #[]
  resolved := Array.replicate 11 none
  statics := none }

def pool6 : Array CpInfo := pool [(1, .class_ 2), (0, u "java/lang/constant/ConstantDesc"), (0, .class_ 4), (0, u "java/lang/Object")] 32

/-- java/lang/constant/ConstantDesc -/
def k6 : Class := { plain "java/lang/constant/ConstantDesc" (some 0) with
  accessFlags := 1537
  interfaces := #[]
  cf := some (fileOf pool6 1 #[] #[] 1537 3 #[] #[])
  fields := #[]
  methods := #[]
  instanceTypes := #[]
  staticTypes := #[]
  resolved := Array.replicate 37 none
  statics := none }

def pool7 : Array CpInfo := pool [(1, .methodref 2 3), (0, .class_ 4), (0, .nameAndType 5 6), (0, u "java/lang/Object"), (0, u "<init>"), (0, u "()V"), (2, .fieldref 10 11), (0, .class_ 12), (0, .nameAndType 13 14), (0, u "java/lang/String"), (0, u "value"), (0, u "[B"), (0, .fieldref 10 16), (0, .nameAndType 17 18), (0, u "coder"), (0, u "B"), (2, u "hash"), (0, u "I"), (2, u "hashIsZero"), (0, u "Z"), (0, .methodref 10 28), (0, .nameAndType 5 29), (0, u "([CIILjava/lang/Void;)V"), (8, .fieldref 10 39), (0, .nameAndType 40 26), (0, u "COMPACT_STRINGS"), (1, .class_ 44), (1, u "java/lang/StringUTF16"), (0, u "compress"), (1, .methodref 42 48), (0, .nameAndType 49 50), (0, u "coderFromArrayLen"), (0, u "([BI)B"), (56, .class_ 109), (1, u "java/lang/StringLatin1"), (32, u "()Z"), (34, .methodref 42 178), (0, .nameAndType 45 179), (0, u "([CII)[B"), (183, u "([BI)C"), (27, u "(II)V"), (35, u "(I)C"), (64, .methodref 10 493), (0, .nameAndType 494 142), (0, u "isLatin1"), (0, .methodref 107 496), (0, .nameAndType 497 363), (0, u "charAt"), (3, u "checkIndex"), (73, .class_ 576), (0, u "java/lang/CharSequence"), (22, u "CASE_INSENSITIVE_ORDER"), (0, u "Ljava/util/Comparator;"), (409, u "([C)V"), (42, .fieldref 1054 1055), (0, .class_ 1056), (0, .nameAndType 1057 1058), (0, u "jdk/internal/util/Preconditions"), (0, u "SIOOBE_FORMATTER"), (0, u "Ljava/util/function/BiFunction;"), (0, .methodref 1054 1060), (0, .nameAndType 501 1061), (0, u "(IILjava/util/function/BiFunction;)I"), (39, u "serialPersistentFields"), (0, u "[Ljava/io/ObjectStreamField;"), (0, .class_ 1104), (0, u "java/lang/String$CaseInsensitiveComparator"), (1, .class_ 1107), (0, u "java/io/Serializable"), (0, .class_ 1109), (0, u "java/lang/Comparable"), (0, .class_ 1111), (0, u "java/lang/constant/Constable"), (0, .class_ 1113), (0, u "java/lang/constant/ConstantDesc"), (2, u "serialVersionUID"), (0, u "J"), (3, u "REPL"), (0, u "C"), (2, u "LATIN1"), (1, u "UTF16")] 323

def k7m0 : Method := { name := "<init>", desc := "()V", sig := { parameters := [], returnType := none }, accessFlags := 1, code := none }
def k7c1 : Code := { maxStack := 5, maxLocals := 2, code := jdk_42_method_3_code, exceptionTable := #[], attributes := #[] }
def k7m1 : Method := { name := "<init>", desc := "([C)V", sig := { parameters := [(.array .char)], returnType := none }, accessFlags := 1, code := some k7c1 }
def k7c2 : Code := { maxStack := 2, maxLocals := 2, code := jdk_42_method_56_code, exceptionTable := #[], attributes := #[] }
def k7m2 : Method := { name := "charAt", desc := "(I)C", sig := { parameters := [.int], returnType := some .char }, accessFlags := 1, code := some k7c2 }
def k7c3 : Code := { maxStack := 4, maxLocals := 6, code := jdk_42_method_149_code, exceptionTable := #[], attributes := #[] }
def k7m3 : Method := { name := "<init>", desc := "([CIILjava/lang/Void;)V", sig := { parameters := [(.array .char), .int, .int, (.object "java/lang/Void")], returnType := none }, accessFlags := 2, code := some k7c3 }
def k7c4 : Code := { maxStack := 1, maxLocals := 1, code := jdk_42_method_154_code, exceptionTable := #[], attributes := #[] }
def k7m4 : Method := { name := "isLatin1", desc := "()Z", sig := { parameters := [], returnType := some .boolean }, accessFlags := 0, code := some k7c4 }
def k7c5 : Code := { maxStack := 3, maxLocals := 2, code := jdk_42_method_155_code, exceptionTable := #[], attributes := #[] }
def k7m5 : Method := { name := "checkIndex", desc := "(II)V", sig := { parameters := [.int, .int], returnType := none }, accessFlags := 8, code := some k7c5 }
/-- java/lang/String -/
def k7 : Class := { plain "java/lang/String" (some 0) with
  accessFlags := 49
  interfaces := #[2, 3, 4, 5, 6]
  cf := some (fileOf pool7 10 #[.nestMembers #[1103]] #[{ accessFlags := 1, nameIndex := 5, descriptorIndex := 6, attributes := #[] }, { accessFlags := 1, nameIndex := 5, descriptorIndex := 1010, attributes := #[] }, { accessFlags := 1, nameIndex := 497, descriptorIndex := 427, attributes := #[] }, { accessFlags := 2, nameIndex := 5, descriptorIndex := 29, attributes := #[] }, { accessFlags := 0, nameIndex := 494, descriptorIndex := 142, attributes := #[] }, { accessFlags := 8, nameIndex := 501, descriptorIndex := 391, attributes := #[] }] 49 2 #[1106, 1108, 575, 1110, 1112] #[{ accessFlags := 18, nameIndex := 13, descriptorIndex := 14, attributes := #[] }, { accessFlags := 18, nameIndex := 17, descriptorIndex := 18, attributes := #[] }, { accessFlags := 2, nameIndex := 21, descriptorIndex := 22, attributes := #[] }, { accessFlags := 2, nameIndex := 25, descriptorIndex := 26, attributes := #[] }, { accessFlags := 26, nameIndex := 1116, descriptorIndex := 1117, attributes := #[] }, { accessFlags := 24, nameIndex := 40, descriptorIndex := 26, attributes := #[] }, { accessFlags := 26, nameIndex := 1101, descriptorIndex := 1102, attributes := #[] }, { accessFlags := 26, nameIndex := 1121, descriptorIndex := 1122, attributes := #[] }, { accessFlags := 25, nameIndex := 599, descriptorIndex := 600, attributes := #[] }, { accessFlags := 24, nameIndex := 1125, descriptorIndex := 18, attributes := #[] }, { accessFlags := 24, nameIndex := 1127, descriptorIndex := 18, attributes := #[] }])
  fields := #[{ name := "value", type := (.array .byte), accessFlags := 18, slot := 0, constantValue := 0 }, { name := "coder", type := .byte, accessFlags := 18, slot := 1, constantValue := 0 }, { name := "hash", type := .int, accessFlags := 2, slot := 2, constantValue := 0 }, { name := "hashIsZero", type := .boolean, accessFlags := 2, slot := 3, constantValue := 0 }, { name := "serialVersionUID", type := .long, accessFlags := 26, slot := 0, constantValue := 0 }, { name := "COMPACT_STRINGS", type := .boolean, accessFlags := 24, slot := 1, constantValue := 0 }, { name := "serialPersistentFields", type := (.array (.object "java/io/ObjectStreamField")), accessFlags := 26, slot := 2, constantValue := 0 }, { name := "REPL", type := .char, accessFlags := 26, slot := 3, constantValue := 0 }, { name := "CASE_INSENSITIVE_ORDER", type := (.object "java/util/Comparator"), accessFlags := 25, slot := 4, constantValue := 0 }, { name := "LATIN1", type := .byte, accessFlags := 24, slot := 5, constantValue := 0 }, { name := "UTF16", type := .byte, accessFlags := 24, slot := 6, constantValue := 0 }]
  methods := #[k7m0, k7m1, k7m2, k7m3, k7m4, k7m5]
  instanceTypes := #[(.array .byte), .byte, .int, .boolean]
  staticTypes := #[.long, .boolean, (.array (.object "java/io/ObjectStreamField")), .char, (.object "java/util/Comparator"), .byte, .byte]
  resolved := Array.replicate 1451 none
  statics := some 0 }

def pool8 : Array CpInfo := pool [(6, .class_ 8), (1, u "java/lang/Object"), (0, u "<init>"), (0, u "()V"), (1, .class_ 14), (1, u "java/lang/StringUTF16"), (31, u "$assertionsDisabled"), (0, u "Z"), (13, u "HI_BYTE_SHIFT"), (0, u "I"), (2, u "LO_BYTE_SHIFT"), (49, .methodref 12 116), (0, .nameAndType 117 118), (0, u "compress"), (0, u "([CI[BII)I"), (3, u "([CII)[B"), (138, u "coderFromArrayLen"), (0, u "([BI)B"), (106, .class_ 371), (1, u "java/lang/StringUTF16$LinesSpliterator"), (58, u "MAX_LENGTH"), (196, .class_ 628), (0, u "java/lang/StringUTF16$CodePointsSpliterator"), (0, .class_ 630), (0, u "java/lang/StringUTF16$CharsSpliterator")] 4

def k8m0 : Method := { name := "<init>", desc := "()V", sig := { parameters := [], returnType := none }, accessFlags := 0, code := none }
def k8c1 : Code := { maxStack := 2, maxLocals := 2, code := jdk_52_method_15_code, exceptionTable := #[], attributes := #[] }
def k8m1 : Method := { name := "coderFromArrayLen", desc := "([BI)B", sig := { parameters := [(.array .byte), .int], returnType := some .byte }, accessFlags := 8, code := some k8c1 }
def k8c2 : Code := { maxStack := 5, maxLocals := 6, code := jdk_52_method_16_code, exceptionTable := #[], attributes := #[] }
def k8m2 : Method := { name := "compress", desc := "([CII)[B", sig := { parameters := [(.array .char), .int, .int], returnType := some (.array .byte) }, accessFlags := 9, code := some k8c2 }
def k8c3 : Code := { maxStack := 3, maxLocals := 7, code := jdk_52_method_21_code, exceptionTable := #[], attributes := #[] }
def k8m3 : Method := { name := "compress", desc := "([CI[BII)I", sig := { parameters := [(.array .char), .int, (.array .byte), .int, .int], returnType := some .int }, accessFlags := 9, code := some k8c3 }
/-- java/lang/StringUTF16 -/
def k8 : Class := { plain "java/lang/StringUTF16" (some 0) with
  accessFlags := 48
  interfaces := #[]
  cf := some (fileOf pool8 12 #[.nestMembers #[627, 629, 369]] #[{ accessFlags := 0, nameIndex := 9, descriptorIndex := 10, attributes := #[] }, { accessFlags := 8, nameIndex := 261, descriptorIndex := 262, attributes := #[] }, { accessFlags := 9, nameIndex := 117, descriptorIndex := 122, attributes := #[] }, { accessFlags := 9, nameIndex := 117, descriptorIndex := 118, attributes := #[] }] 48 6 #[] #[{ accessFlags := 26, nameIndex := 61, descriptorIndex := 62, attributes := #[] }, { accessFlags := 26, nameIndex := 65, descriptorIndex := 62, attributes := #[] }, { accessFlags := 24, nameIndex := 430, descriptorIndex := 62, attributes := #[] }, { accessFlags := 4120, nameIndex := 46, descriptorIndex := 47, attributes := #[] }])
  fields := #[{ name := "HI_BYTE_SHIFT", type := .int, accessFlags := 26, slot := 0, constantValue := 0 }, { name := "LO_BYTE_SHIFT", type := .int, accessFlags := 26, slot := 1, constantValue := 0 }, { name := "MAX_LENGTH", type := .int, accessFlags := 24, slot := 2, constantValue := 0 }, { name := "$assertionsDisabled", type := .boolean, accessFlags := 4120, slot := 3, constantValue := 0 }]
  methods := #[k8m0, k8m1, k8m2, k8m3]
  instanceTypes := #[]
  staticTypes := #[.int, .int, .int, .boolean]
  resolved := Array.replicate 635 none
  statics := none }

def pool9 : Array CpInfo := pool [(2, .class_ 4), (1, u "java/lang/Object"), (0, u "<init>"), (0, u "()V"), (1, .class_ 10), (1, u "java/lang/String"), (2, .methodref 8 14), (0, .nameAndType 15 16), (0, u "charAt"), (0, u "(I)C"), (1, .class_ 20), (1, u "com/example/frozen_thread/frozenthread/text/Digits"), (46, u "NANO_DIGITS"), (0, u "I"), (2, u "LONG_DECIMAL_CHARACTERS"), (1, u "ZONE_OFFSET_DIGITS"), (14, u "nanos"), (0, u "(Ljava/lang/String;II)I")] 2

def k9m0 : Method := { name := "<init>", desc := "()V", sig := { parameters := [], returnType := none }, accessFlags := 2, code := none }
def k9c1 : Code := { maxStack := 3, maxLocals := 5, code := prog_95_method_11_code, exceptionTable := #[], attributes := #[] }
def k9m1 : Method := { name := "nanos", desc := "(Ljava/lang/String;II)I", sig := { parameters := [(.object "java/lang/String"), .int, .int], returnType := some .int }, accessFlags := 9, code := some k9c1 }
/-- com/example/frozen_thread/frozenthread/text/Digits -/
def k9 : Class := { plain "com/example/frozen_thread/frozenthread/text/Digits" (some 0) with
  accessFlags := 33
  interfaces := #[]
  cf := some (fileOf pool9 18 #[] #[{ accessFlags := 2, nameIndex := 5, descriptorIndex := 6, attributes := #[] }, { accessFlags := 9, nameIndex := 88, descriptorIndex := 89, attributes := #[] }] 33 2 #[] #[{ accessFlags := 26, nameIndex := 67, descriptorIndex := 68, attributes := #[] }, { accessFlags := 26, nameIndex := 71, descriptorIndex := 68, attributes := #[] }, { accessFlags := 26, nameIndex := 73, descriptorIndex := 68, attributes := #[] }])
  fields := #[{ name := "NANO_DIGITS", type := .int, accessFlags := 26, slot := 0, constantValue := 0 }, { name := "LONG_DECIMAL_CHARACTERS", type := .int, accessFlags := 26, slot := 1, constantValue := 0 }, { name := "ZONE_OFFSET_DIGITS", type := .int, accessFlags := 26, slot := 2, constantValue := 0 }]
  methods := #[k9m0, k9m1]
  instanceTypes := #[]
  staticTypes := #[.int, .int, .int]
  resolved := Array.replicate 92 none
  statics := none }

def pool10 : Array CpInfo := pool [(1, .class_ 2), (0, u "java/lang/String"), (1, .class_ 6), (1, u "java/lang/Object"), (0, u "<init>"), (0, u "()V"), (0, .methodref 1 10), (0, .nameAndType 11 12), (0, u "checkIndex"), (0, u "(II)V"), (1, .class_ 16), (1, u "java/lang/StringLatin1"), (36, u "([BI)C"), (67, u "$assertionsDisabled"), (0, u "Z"), (98, .class_ 223), (1, u "java/lang/StringLatin1$LinesSpliterator"), (28, u "charAt"), (137, .class_ 391), (0, u "java/lang/StringLatin1$CharsSpliterator")] 3

def k10m0 : Method := { name := "<init>", desc := "()V", sig := { parameters := [], returnType := none }, accessFlags := 0, code := none }
def k10c1 : Code := { maxStack := 2, maxLocals := 2, code := jdk_43_method_2_code, exceptionTable := #[], attributes := #[] }
def k10m1 : Method := { name := "charAt", desc := "([BI)C", sig := { parameters := [(.array .byte), .int], returnType := some .char }, accessFlags := 9, code := some k10c1 }
/-- java/lang/StringLatin1 -/
def k10 : Class := { plain "java/lang/StringLatin1" (some 0) with
  accessFlags := 48
  interfaces := #[]
  cf := some (fileOf pool10 14 #[.nestMembers #[390, 221]] #[{ accessFlags := 0, nameIndex := 7, descriptorIndex := 8, attributes := #[] }, { accessFlags := 9, nameIndex := 252, descriptorIndex := 53, attributes := #[] }] 48 4 #[] #[{ accessFlags := 4120, nameIndex := 121, descriptorIndex := 122, attributes := #[] }])
  fields := #[{ name := "$assertionsDisabled", type := .boolean, accessFlags := 4120, slot := 0, constantValue := 0 }]
  methods := #[k10m0, k10m1]
  instanceTypes := #[]
  staticTypes := #[.boolean]
  resolved := Array.replicate 395 none
  statics := none }

def pool11 : Array CpInfo := pool [(2, .class_ 4), (1, u "java/lang/Object"), (0, u "<init>"), (0, u "()V"), (17, .class_ 26), (1, u "jdk/internal/util/Preconditions"), (6, u "checkIndex"), (21, .class_ 56), (0, u "jdk/internal/util/Preconditions$4"), (57, .class_ 115), (0, u "jdk/internal/util/Preconditions$1"), (7, u "SIOOBE_FORMATTER"), (0, u "Ljava/util/function/BiFunction;"), (0, .class_ 126), (0, u "jdk/internal/util/Preconditions$2"), (3, u "AIOOBE_FORMATTER"), (0, .class_ 132), (0, u "jdk/internal/util/Preconditions$3"), (3, u "IOOBE_FORMATTER"), (41, u "(IILjava/util/function/BiFunction;)I")] 15

def k11m0 : Method := { name := "<init>", desc := "()V", sig := { parameters := [], returnType := none }, accessFlags := 1, code := none }
def k11c1 : Code := { maxStack := 3, maxLocals := 3, code := jdk_41_method_11_code, exceptionTable := #[], attributes := #[] }
def k11m1 : Method := { name := "checkIndex", desc := "(IILjava/util/function/BiFunction;)I", sig := { parameters := [.int, .int, (.object "java/util/function/BiFunction")], returnType := some .int }, accessFlags := 9, code := some k11c1 }
/-- jdk/internal/util/Preconditions -/
def k11 : Class := { plain "jdk/internal/util/Preconditions" (some 0) with
  accessFlags := 33
  interfaces := #[]
  cf := some (fileOf pool11 24 #[.nestMembers #[55, 131, 125, 114]] #[{ accessFlags := 1, nameIndex := 5, descriptorIndex := 6, attributes := #[] }, { accessFlags := 9, nameIndex := 33, descriptorIndex := 178, attributes := #[] }] 33 2 #[] #[{ accessFlags := 25, nameIndex := 123, descriptorIndex := 124, attributes := #[] }, { accessFlags := 25, nameIndex := 130, descriptorIndex := 124, attributes := #[] }, { accessFlags := 25, nameIndex := 136, descriptorIndex := 124, attributes := #[] }])
  fields := #[{ name := "SIOOBE_FORMATTER", type := (.object "java/util/function/BiFunction"), accessFlags := 25, slot := 0, constantValue := 0 }, { name := "AIOOBE_FORMATTER", type := (.object "java/util/function/BiFunction"), accessFlags := 25, slot := 1, constantValue := 0 }, { name := "IOOBE_FORMATTER", type := (.object "java/util/function/BiFunction"), accessFlags := 25, slot := 2, constantValue := 0 }]
  methods := #[k11m0, k11m1]
  instanceTypes := #[]
  staticTypes := #[(.object "java/util/function/BiFunction"), (.object "java/util/function/BiFunction"), (.object "java/util/function/BiFunction")]
  resolved := Array.replicate 194 none
  statics := some 1 }

def pool12 : Array CpInfo := pool [(9, u "<init>"), (6, .class_ 18), (1, u "java/lang/Object"), (0, u "()V"), (1, .class_ 23), (1, u "jdk/internal/util/ArraysSupport"), (0, u "LOG2_ARRAY_LONG_INDEX_SCALE"), (0, u "I"), (2, u "U"), (0, u "Ljdk/internal/misc/Unsafe;"), (8, u "BIG_ENDIAN"), (0, u "Z"), (8, u "LOG2_BYTE_BIT_SIZE"), (4, u "LOG2_ARRAY_INT_INDEX_SCALE"), (54, u "JLA"), (0, u "Ljdk/internal/access/JavaLangAccess;"), (11, u "LOG2_ARRAY_BOOLEAN_INDEX_SCALE"), (9, u "LOG2_ARRAY_BYTE_INDEX_SCALE"), (5, u "LOG2_ARRAY_CHAR_INDEX_SCALE"), (5, u "LOG2_ARRAY_SHORT_INDEX_SCALE"), (18, u "LOG2_ARRAY_FLOAT_INDEX_SCALE"), (24, u "LOG2_ARRAY_DOUBLE_INDEX_SCALE"), (89, u "T_BOOLEAN"), (2, u "T_CHAR"), (1, u "T_FLOAT"), (1, u "T_DOUBLE"), (1, u "T_BYTE"), (1, u "T_SHORT"), (1, u "T_INT"), (1, u "T_LONG"), (1, u "SOFT_MAX_ARRAY_LENGTH")] 83

def k12m0 : Method := { name := "<init>", desc := "()V", sig := { parameters := [], returnType := none }, accessFlags := 2, code := none }
/-- jdk/internal/util/ArraysSupport -/
def k12 : Class := { plain "jdk/internal/util/ArraysSupport" (some 0) with
  accessFlags := 33
  interfaces := #[]
  cf := some (fileOf pool12 21 #[] #[{ accessFlags := 2, nameIndex := 9, descriptorIndex := 19, attributes := #[] }] 33 16 #[] #[{ accessFlags := 24, nameIndex := 28, descriptorIndex := 29, attributes := #[] }, { accessFlags := 26, nameIndex := 38, descriptorIndex := 39, attributes := #[] }, { accessFlags := 25, nameIndex := 121, descriptorIndex := 25, attributes := #[] }, { accessFlags := 25, nameIndex := 131, descriptorIndex := 25, attributes := #[] }, { accessFlags := 25, nameIndex := 137, descriptorIndex := 25, attributes := #[] }, { accessFlags := 25, nameIndex := 143, descriptorIndex := 25, attributes := #[] }, { accessFlags := 25, nameIndex := 53, descriptorIndex := 25, attributes := #[] }, { accessFlags := 25, nameIndex := 24, descriptorIndex := 25, attributes := #[] }, { accessFlags := 25, nameIndex := 162, descriptorIndex := 25, attributes := #[] }, { accessFlags := 25, nameIndex := 187, descriptorIndex := 25, attributes := #[] }, { accessFlags := 26, nameIndex := 48, descriptorIndex := 25, attributes := #[] }, { accessFlags := 25, nameIndex := 277, descriptorIndex := 25, attributes := #[] }, { accessFlags := 25, nameIndex := 280, descriptorIndex := 25, attributes := #[] }, { accessFlags := 25, nameIndex := 282, descriptorIndex := 25, attributes := #[] }, { accessFlags := 25, nameIndex := 284, descriptorIndex := 25, attributes := #[] }, { accessFlags := 25, nameIndex := 286, descriptorIndex := 25, attributes := #[] }, { accessFlags := 25, nameIndex := 288, descriptorIndex := 25, attributes := #[] }, { accessFlags := 25, nameIndex := 290, descriptorIndex := 25, attributes := #[] }, { accessFlags := 25, nameIndex := 292, descriptorIndex := 25, attributes := #[] }, { accessFlags := 26, nameIndex := 108, descriptorIndex := 109, attributes := #[] }, { accessFlags := 25, nameIndex := 294, descriptorIndex := 25, attributes := #[] }])
  fields := #[{ name := "U", type := (.object "jdk/internal/misc/Unsafe"), accessFlags := 24, slot := 0, constantValue := 0 }, { name := "BIG_ENDIAN", type := .boolean, accessFlags := 26, slot := 1, constantValue := 0 }, { name := "LOG2_ARRAY_BOOLEAN_INDEX_SCALE", type := .int, accessFlags := 25, slot := 2, constantValue := 0 }, { name := "LOG2_ARRAY_BYTE_INDEX_SCALE", type := .int, accessFlags := 25, slot := 3, constantValue := 0 }, { name := "LOG2_ARRAY_CHAR_INDEX_SCALE", type := .int, accessFlags := 25, slot := 4, constantValue := 0 }, { name := "LOG2_ARRAY_SHORT_INDEX_SCALE", type := .int, accessFlags := 25, slot := 5, constantValue := 0 }, { name := "LOG2_ARRAY_INT_INDEX_SCALE", type := .int, accessFlags := 25, slot := 6, constantValue := 0 }, { name := "LOG2_ARRAY_LONG_INDEX_SCALE", type := .int, accessFlags := 25, slot := 7, constantValue := 0 }, { name := "LOG2_ARRAY_FLOAT_INDEX_SCALE", type := .int, accessFlags := 25, slot := 8, constantValue := 0 }, { name := "LOG2_ARRAY_DOUBLE_INDEX_SCALE", type := .int, accessFlags := 25, slot := 9, constantValue := 0 }, { name := "LOG2_BYTE_BIT_SIZE", type := .int, accessFlags := 26, slot := 10, constantValue := 0 }, { name := "T_BOOLEAN", type := .int, accessFlags := 25, slot := 11, constantValue := 0 }, { name := "T_CHAR", type := .int, accessFlags := 25, slot := 12, constantValue := 0 }, { name := "T_FLOAT", type := .int, accessFlags := 25, slot := 13, constantValue := 0 }, { name := "T_DOUBLE", type := .int, accessFlags := 25, slot := 14, constantValue := 0 }, { name := "T_BYTE", type := .int, accessFlags := 25, slot := 15, constantValue := 0 }, { name := "T_SHORT", type := .int, accessFlags := 25, slot := 16, constantValue := 0 }, { name := "T_INT", type := .int, accessFlags := 25, slot := 17, constantValue := 0 }, { name := "T_LONG", type := .int, accessFlags := 25, slot := 18, constantValue := 0 }, { name := "JLA", type := (.object "jdk/internal/access/JavaLangAccess"), accessFlags := 26, slot := 19, constantValue := 0 }, { name := "SOFT_MAX_ARRAY_LENGTH", type := .int, accessFlags := 25, slot := 20, constantValue := 0 }]
  methods := #[k12m0]
  instanceTypes := #[]
  staticTypes := #[(.object "jdk/internal/misc/Unsafe"), .boolean, .int, .int, .int, .int, .int, .int, .int, .int, .int, .int, .int, .int, .int, .int, .int, .int, .int, (.object "jdk/internal/access/JavaLangAccess"), .int]
  resolved := Array.replicate 378 none
  statics := none }

def pool13 : Array CpInfo := pool [(1, u "java/lang/Cloneable"), (0, .class_ 1), (0, u "java/lang/Object"), (0, .class_ 3)] 3

/-- java/lang/Cloneable -/
def k13 : Class := { plain "java/lang/Cloneable" (some 0) with
  accessFlags := 1537
  interfaces := #[]
  cf := some (fileOf pool13 2 #[] #[] 1537 4 #[] #[])
  fields := #[]
  methods := #[]
  instanceTypes := #[]
  staticTypes := #[]
  resolved := Array.replicate 8 none
  statics := none }

/-- the primitive byte -/
def k14 : Class := { plain "byte" none with kind := .primitive 'B', accessFlags := 0x411 }
/-- [B -/
def k15 : Class := { plain "[B" (some 0) with kind := .array 14 .byte, interfaces := #[13, 2], accessFlags := 1041 }

/-- the primitive char -/
def k16 : Class := { plain "char" none with kind := .primitive 'C', accessFlags := 0x411 }
/-- [C -/
def k17 : Class := { plain "[C" (some 0) with kind := .array 16 .char, interfaces := #[13, 2], accessFlags := 1041 }

/-- the primitive int -/
def k18 : Class := { plain "int" none with kind := .primitive 'I', accessFlags := 0x411 }
/-- [I -/
def k19 : Class := { plain "[I" (some 0) with kind := .array 18 .int, interfaces := #[13, 2], accessFlags := 1041 }

def heap : Heap := #[{ cls := 7, slots := #[.long 0, .int 1, .null, .int 0, .null, .int 0, .int 0], vm := .statics 7 },
  { cls := 11, slots := #[.null, .null, .null], vm := .statics 11 }]
def classes : Array Class := #[k0, k1, k2, k3, k4, k5, k6, k7, k8, k9, k10, k11, k12, k13, k14, k15, k16, k17, k18, k19]
def interned : List (Array UInt16 × Addr) := []
def slotsUsed : Nat := 10
def theMethod : MethodId := ⟨1, 1⟩
def args0 : Array Value := #[.long 1234567, .long 77, .int 2, .int 8]
def aboutOver (below : List Frame) : State where
  vm := { classes := classes, interned := interned.toArray }
  heap := heap
  slotsUsed := slotsUsed
  threads := #[{ frames := .invoking theMethod args0 :: below }]
def below0 : List Frame := [.native { method := ⟨0, 0⟩, args := #[] }]
def about1 : State := aboutOver below0
def p0 : Program := .bare "" "" ""
def e0 : Env := launch0.env 0 0 0
theorem w_frames : about1.frames = Frame.invoking theMethod args0 :: below0 := rfl
set_option maxRecDepth 65536 in
theorem w_args : argsFit about1.vm theMethod args0 = true := by decide +kernel
set_option maxRecDepth 65536 in
theorem w_heap : heapFits about1 = true := by decide +kernel
set_option maxRecDepth 65536 in
theorem w_runnable : about1.curStatus? = some .runnable := by decide +kernel
set_option maxRecDepth 65536 in
theorem w_alone : about1.alone = true := by decide +kernel
set_option maxRecDepth 65536 in
theorem w_named : about1.methodNamed? x = some theMethod := by decide +kernel
set_option maxRecDepth 65536 in
theorem w_hears : about1.hears theMethod below0 = true := by decide +kernel
set_option maxRecDepth 65536 in
theorem w_ripe : about1.ripe theMethod args0 below0 = true := by decide +kernel
theorem w_running : about1.status = .running := rfl
set_option maxRecDepth 65536 in
theorem w_room : about1.hasRoom e0.platform room_1 = true :=
  launch0.hasRoom_least _ room_1 (by decide +kernel) (by decide +kernel) (by decide +kernel) (by decide +kernel) (by decide +kernel) (by decide +kernel)
theorem allAtoms_all (ts : List Jvm.Cond) (a : Array Jvm.Value) (st : Jvm.State) : (allAtoms ts).before a st = ts.all (fun c => c.before a st) := by
  induction ts with
  | nil => rfl
  | cons c t ih =>
    show (Jvm.Cond.and c (allAtoms t)).before a st = _
    rw [Jvm.Cond.before_and, ih, List.all_cons]
def words1 : List Jvm.Cond := Jvm.Cond.code x code maxLocals ret :: tables_1
/-- a 'code' word, met by the world's own term for the bytes: nothing is compared byte by byte -/
theorem code_word {y : MethodName} {bytes : ByteArray} {mx : Nat} {rt : Option FieldType} {a : Array Value} {s : State} {m : MethodId} {meth : Method} {c : Code} (h1 : s.methodNamed? y = some m) (h2 : s.vm.method? m = some meth) (h3 : meth.code = some c) (h4 : c.code = bytes)
    (h5 : (c.maxLocals == mx && c.exceptionTable.isEmpty && decide (c.maxStack ≤ mostOperands) && decide (meth.sig.returnType = rt) && !meth.locks && decide (parseMethodDescriptor y.desc = some meth.sig)) = true) : (Jvm.Cond.code y bytes mx rt).before a s = true := by
  simp only [Bool.and_eq_true, beq_iff_eq, Bool.not_eq_true', decide_eq_true_eq] at h5
  obtain ⟨⟨⟨⟨⟨g1, g2⟩, g3⟩, g4⟩, g5⟩, g6⟩ := h5
  simp [Cond.before, Cond.holds, Cond.value, h1, h2, h3, h4, g1, g2, g3, g4, g5, g6]
def isCode : Jvm.Cond → Bool
  | .code _ _ _ _ => true
  | _ => false
theorem all_split {L : List Jvm.Cond} {P : Jvm.Cond → Bool} (h1 : L.all (fun c => isCode c || P c) = true) (h2 : ∀ c ∈ L.filter isCode, P c = true) : L.all P = true := by
  refine List.all_eq_true.mpr fun c hc => ?_
  have h := List.all_eq_true.mp h1 c hc
  rcases Bool.eq_false_or_eq_true (isCode c) with hi | hi
  · exact h2 c (List.mem_filter.mpr ⟨hc, hi⟩)
  · simpa [hi] using h
set_option maxRecDepth 65536 in
theorem w_c0 : (Jvm.Cond.code x code maxLocals ret).before args0 about1 = true := code_word (m := ⟨1, 1⟩) (meth := k1m1) (c := k1c1) (by decide +kernel) rfl rfl rfl (by decide +kernel)
set_option maxRecDepth 65536 in
theorem w_c1 : (Jvm.Cond.code ({ cls := "com/example/frozen_thread/frozenthread/text/DigitsNanosPinLaw", name := "ch", desc := "(IIIJJ)C" } : Jvm.MethodName) method_4_code (7 : Nat) (Option.some Jvm.ClassFile.FieldType.char)).before args0 about1 = true := code_word (m := ⟨1, 3⟩) (meth := k1m3) (c := k1c3) (by decide +kernel) rfl rfl rfl (by decide +kernel)
set_option maxRecDepth 65536 in
theorem w_c2 : (Jvm.Cond.code ({ cls := "com/example/frozen_thread/frozenthread/text/DigitsNanosPinLaw", name := "digit", desc := "(IJ)I" } : Jvm.MethodName) method_3_code (4 : Nat) (Option.some Jvm.ClassFile.FieldType.int)).before args0 about1 = true := code_word (m := ⟨1, 2⟩) (meth := k1m2) (c := k1c2) (by decide +kernel) rfl rfl rfl (by decide +kernel)
set_option maxRecDepth 65536 in
theorem w_c3 : (Jvm.Cond.code ({ cls := "java/lang/String", name := "<init>", desc := "([C)V" } : Jvm.MethodName) jdk_42_method_3_code (2 : Nat) (Option.none : Option Jvm.ClassFile.FieldType)).before args0 about1 = true := code_word (m := ⟨7, 1⟩) (meth := k7m1) (c := k7c1) (by decide +kernel) rfl rfl rfl (by decide +kernel)
set_option maxRecDepth 65536 in
theorem w_c4 : (Jvm.Cond.code ({ cls := "java/lang/String", name := "<init>", desc := "([CIILjava/lang/Void;)V" } : Jvm.MethodName) jdk_42_method_149_code (6 : Nat) (Option.none : Option Jvm.ClassFile.FieldType)).before args0 about1 = true := code_word (m := ⟨7, 3⟩) (meth := k7m3) (c := k7c3) (by decide +kernel) rfl rfl rfl (by decide +kernel)
set_option maxRecDepth 65536 in
theorem w_c5 : (Jvm.Cond.code ({ cls := "java/lang/Object", name := "<init>", desc := "()V" } : Jvm.MethodName) object_method_1_code (1 : Nat) (Option.none : Option Jvm.ClassFile.FieldType)).before args0 about1 = true := code_word (m := ⟨0, 0⟩) (meth := k0m0) (c := k0c0) (by decide +kernel) rfl rfl rfl (by decide +kernel)
set_option maxRecDepth 65536 in
theorem w_c6 : (Jvm.Cond.code ({ cls := "java/lang/StringUTF16", name := "compress", desc := "([CII)[B" } : Jvm.MethodName) jdk_52_method_16_code (6 : Nat) (Option.some (Jvm.ClassFile.FieldType.array Jvm.ClassFile.FieldType.byte))).before args0 about1 = true := code_word (m := ⟨8, 2⟩) (meth := k8m2) (c := k8c2) (by decide +kernel) rfl rfl rfl (by decide +kernel)
set_option maxRecDepth 65536 in
theorem w_c7 : (Jvm.Cond.code ({ cls := "java/lang/StringUTF16", name := "compress", desc := "([CI[BII)I" } : Jvm.MethodName) jdk_52_method_21_code (7 : Nat) (Option.some Jvm.ClassFile.FieldType.int)).before args0 about1 = true := code_word (m := ⟨8, 3⟩) (meth := k8m3) (c := k8c3) (by decide +kernel) rfl rfl rfl (by decide +kernel)
set_option maxRecDepth 65536 in
theorem w_c8 : (Jvm.Cond.code ({ cls := "java/lang/StringUTF16", name := "coderFromArrayLen", desc := "([BI)B" } : Jvm.MethodName) jdk_52_method_15_code (2 : Nat) (Option.some Jvm.ClassFile.FieldType.byte)).before args0 about1 = true := code_word (m := ⟨8, 1⟩) (meth := k8m1) (c := k8c1) (by decide +kernel) rfl rfl rfl (by decide +kernel)
set_option maxRecDepth 65536 in
theorem w_c9 : (Jvm.Cond.code ({ cls := "com/example/frozen_thread/frozenthread/text/DigitsNanosPinLaw", name := "dv", desc := "(IIIJ)I" } : Jvm.MethodName) method_5_code (5 : Nat) (Option.some Jvm.ClassFile.FieldType.int)).before args0 about1 = true := code_word (m := ⟨1, 4⟩) (meth := k1m4) (c := k1c4) (by decide +kernel) rfl rfl rfl (by decide +kernel)
set_option maxRecDepth 65536 in
theorem w_c10 : (Jvm.Cond.code ({ cls := "com/example/frozen_thread/frozenthread/text/Digits", name := "nanos", desc := "(Ljava/lang/String;II)I" } : Jvm.MethodName) prog_95_method_11_code (5 : Nat) (Option.some Jvm.ClassFile.FieldType.int)).before args0 about1 = true := code_word (m := ⟨9, 1⟩) (meth := k9m1) (c := k9c1) (by decide +kernel) rfl rfl rfl (by decide +kernel)
set_option maxRecDepth 65536 in
theorem w_c11 : (Jvm.Cond.code ({ cls := "java/lang/String", name := "charAt", desc := "(I)C" } : Jvm.MethodName) jdk_42_method_56_code (2 : Nat) (Option.some Jvm.ClassFile.FieldType.char)).before args0 about1 = true := code_word (m := ⟨7, 2⟩) (meth := k7m2) (c := k7c2) (by decide +kernel) rfl rfl rfl (by decide +kernel)
set_option maxRecDepth 65536 in
theorem w_c12 : (Jvm.Cond.code ({ cls := "java/lang/String", name := "isLatin1", desc := "()Z" } : Jvm.MethodName) jdk_42_method_154_code (1 : Nat) (Option.some Jvm.ClassFile.FieldType.boolean)).before args0 about1 = true := code_word (m := ⟨7, 4⟩) (meth := k7m4) (c := k7c4) (by decide +kernel) rfl rfl rfl (by decide +kernel)
set_option maxRecDepth 65536 in
theorem w_c13 : (Jvm.Cond.code ({ cls := "java/lang/StringLatin1", name := "charAt", desc := "([BI)C" } : Jvm.MethodName) jdk_43_method_2_code (2 : Nat) (Option.some Jvm.ClassFile.FieldType.char)).before args0 about1 = true := code_word (m := ⟨10, 1⟩) (meth := k10m1) (c := k10c1) (by decide +kernel) rfl rfl rfl (by decide +kernel)
set_option maxRecDepth 65536 in
theorem w_c14 : (Jvm.Cond.code ({ cls := "java/lang/String", name := "checkIndex", desc := "(II)V" } : Jvm.MethodName) jdk_42_method_155_code (2 : Nat) (Option.none : Option Jvm.ClassFile.FieldType)).before args0 about1 = true := code_word (m := ⟨7, 5⟩) (meth := k7m5) (c := k7c5) (by decide +kernel) rfl rfl rfl (by decide +kernel)
set_option maxRecDepth 65536 in
theorem w_c15 : (Jvm.Cond.code ({ cls := "jdk/internal/util/Preconditions", name := "checkIndex", desc := "(IILjava/util/function/BiFunction;)I" } : Jvm.MethodName) jdk_41_method_11_code (3 : Nat) (Option.some Jvm.ClassFile.FieldType.int)).before args0 about1 = true := code_word (m := ⟨11, 1⟩) (meth := k11m1) (c := k11c1) (by decide +kernel) rfl rfl rfl (by decide +kernel)
def codes1 : List Jvm.Cond := [Jvm.Cond.code x code maxLocals ret, Jvm.Cond.code ({ cls := "com/example/frozen_thread/frozenthread/text/DigitsNanosPinLaw", name := "ch", desc := "(IIIJJ)C" } : Jvm.MethodName) method_4_code (7 : Nat) (Option.some Jvm.ClassFile.FieldType.char), Jvm.Cond.code ({ cls := "com/example/frozen_thread/frozenthread/text/DigitsNanosPinLaw", name := "digit", desc := "(IJ)I" } : Jvm.MethodName) method_3_code (4 : Nat) (Option.some Jvm.ClassFile.FieldType.int), Jvm.Cond.code ({ cls := "java/lang/String", name := "<init>", desc := "([C)V" } : Jvm.MethodName) jdk_42_method_3_code (2 : Nat) (Option.none : Option Jvm.ClassFile.FieldType), Jvm.Cond.code ({ cls := "java/lang/String", name := "<init>", desc := "([CIILjava/lang/Void;)V" } : Jvm.MethodName) jdk_42_method_149_code (6 : Nat) (Option.none : Option Jvm.ClassFile.FieldType), Jvm.Cond.code ({ cls := "java/lang/Object", name := "<init>", desc := "()V" } : Jvm.MethodName) object_method_1_code (1 : Nat) (Option.none : Option Jvm.ClassFile.FieldType), Jvm.Cond.code ({ cls := "java/lang/StringUTF16", name := "compress", desc := "([CII)[B" } : Jvm.MethodName) jdk_52_method_16_code (6 : Nat) (Option.some (Jvm.ClassFile.FieldType.array Jvm.ClassFile.FieldType.byte)), Jvm.Cond.code ({ cls := "java/lang/StringUTF16", name := "compress", desc := "([CI[BII)I" } : Jvm.MethodName) jdk_52_method_21_code (7 : Nat) (Option.some Jvm.ClassFile.FieldType.int), Jvm.Cond.code ({ cls := "java/lang/StringUTF16", name := "coderFromArrayLen", desc := "([BI)B" } : Jvm.MethodName) jdk_52_method_15_code (2 : Nat) (Option.some Jvm.ClassFile.FieldType.byte), Jvm.Cond.code ({ cls := "com/example/frozen_thread/frozenthread/text/DigitsNanosPinLaw", name := "dv", desc := "(IIIJ)I" } : Jvm.MethodName) method_5_code (5 : Nat) (Option.some Jvm.ClassFile.FieldType.int), Jvm.Cond.code ({ cls := "com/example/frozen_thread/frozenthread/text/Digits", name := "nanos", desc := "(Ljava/lang/String;II)I" } : Jvm.MethodName) prog_95_method_11_code (5 : Nat) (Option.some Jvm.ClassFile.FieldType.int), Jvm.Cond.code ({ cls := "java/lang/String", name := "charAt", desc := "(I)C" } : Jvm.MethodName) jdk_42_method_56_code (2 : Nat) (Option.some Jvm.ClassFile.FieldType.char), Jvm.Cond.code ({ cls := "java/lang/String", name := "isLatin1", desc := "()Z" } : Jvm.MethodName) jdk_42_method_154_code (1 : Nat) (Option.some Jvm.ClassFile.FieldType.boolean), Jvm.Cond.code ({ cls := "java/lang/StringLatin1", name := "charAt", desc := "([BI)C" } : Jvm.MethodName) jdk_43_method_2_code (2 : Nat) (Option.some Jvm.ClassFile.FieldType.char), Jvm.Cond.code ({ cls := "java/lang/String", name := "checkIndex", desc := "(II)V" } : Jvm.MethodName) jdk_42_method_155_code (2 : Nat) (Option.none : Option Jvm.ClassFile.FieldType), Jvm.Cond.code ({ cls := "jdk/internal/util/Preconditions", name := "checkIndex", desc := "(IILjava/util/function/BiFunction;)I" } : Jvm.MethodName) jdk_41_method_11_code (3 : Nat) (Option.some Jvm.ClassFile.FieldType.int)]
set_option maxRecDepth 65536 in
theorem codes_eq : words1.filter isCode = codes1 := rfl
theorem w_codes : ∀ c ∈ words1.filter isCode, c.before args0 about1 = true := by
  rw [codes_eq]
  intro c hc
  simp only [codes1, List.mem_cons, List.not_mem_nil, or_false] at hc
  rcases hc with rfl | rfl | rfl | rfl | rfl | rfl | rfl | rfl | rfl | rfl | rfl | rfl | rfl | rfl | rfl | rfl
  · exact w_c0
  · exact w_c1
  · exact w_c2
  · exact w_c3
  · exact w_c4
  · exact w_c5
  · exact w_c6
  · exact w_c7
  · exact w_c8
  · exact w_c9
  · exact w_c10
  · exact w_c11
  · exact w_c12
  · exact w_c13
  · exact w_c14
  · exact w_c15
set_option maxRecDepth 65536 in
theorem w_t1 : (words1.take 24).all (fun c => isCode c || c.before args0 about1) = true := by decide +kernel
set_option maxRecDepth 65536 in
theorem w_t2 : ((words1.drop 24).take 24).all (fun c => isCode c || c.before args0 about1) = true := by decide +kernel
set_option maxRecDepth 65536 in
theorem w_t3 : (((words1.drop 24).drop 24).take 24).all (fun c => isCode c || c.before args0 about1) = true := by decide +kernel
set_option maxRecDepth 65536 in
theorem w_t4 : (((words1.drop 24).drop 24).drop 24).all (fun c => isCode c || c.before args0 about1) = true := by decide +kernel
theorem w_tables : (allAtoms (Jvm.Cond.code x code maxLocals ret :: tables_1)).before args0 about1 = true := by
  rw [allAtoms_all]
  show words1.all (fun c => c.before args0 about1) = true
  refine all_split ?_ w_codes
  rw [← List.take_append_drop 24 words1, List.all_append, w_t1, ← List.take_append_drop 24 (words1.drop 24), List.all_append, w_t2, ← List.take_append_drop 24 ((words1.drop 24).drop 24), List.all_append, w_t3, w_t4]
  rfl
set_option maxRecDepth 65536 in
theorem w_rest : rest_1_c.before args0 about1 = true := by decide +kernel
set_option maxRecDepth 65536 in
theorem w_case : (Jvm.Cond.and given_1 narrow_1).before args0 about1 = true := by decide +kernel
theorem w_applies : (headSpec (Jvm.Cond.code x code maxLocals ret :: tables_1) room_1).applies x e0.platform about1 = true :=
  (Spec.applies_iff w_frames).mpr ⟨w_running, w_runnable, w_alone, w_named, w_hears, w_ripe, w_room, w_tables⟩
theorem atStart : AtStart classFile x code maxLocals ret World_1 tables_1 room_1 Calls_1 rest_1 Pre_1 launch0 p0 e0 about1 theMethod args0 below0 :=
  ⟨lists_1, trivial, launch0.admits_env _ _ _, launch0.least_env, fairChoices_fair.cas, fairChoices_fair.clock, w_frames, w_args, w_heap, w_applies, trivial, w_rest, w_case⟩
end start1
theorem witness_1 : WitnessClaimed_1 := ⟨start1.p0, start1.e0, start1.about1, start1.theMethod, start1.args0, start1.below0, start1.atStart⟩
end Jvm.Pilot.@@N@@
