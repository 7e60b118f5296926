import JvmDerived
import JvmDerived.Pilot.@@N@@Statement
import JvmDerived.Pilot.@@N@@Code
set_option linter.unusedVariables false
set_option linter.unusedSimpArgs false

/- laws to paste: Road.backV, Road.lenW, Road.codOf, pair_says, lo8_mask, lo8_inj (cut by pick.py; bodies as the Statement names them) -/
namespace Jvm.Pilot.@@N@@
namespace StrChars
open Jvm Sem ClassFile Op Lib Jvm.Stand Jvm.Free.XT Jvm.Free.ALB Jvm.Free.JM Jvm.Free
open Jvm.Lib.Cold (StaticIs)
/-- a char array whose places are chars -/
def Ch (a : Addr) (A : Cell) (U : State) : Prop := Arr .char a A U ∧ Typed .char A
theorem Ch.mv {a : Addr} {A : Cell} {U U' : State} (h : Ch a A U) (hal : U.vm.Alike U'.vm) (hh : U'.heap = U.heap) : Ch a A U' := ⟨h.1.mv hal hh, h.2⟩
theorem Ch.keep {a : Addr} {A : Cell} {U U' : State} (h : Ch a A U) (hal : U.vm.Alike U'.vm) (hk : U'.heap[a]? = some A) : Ch a A U' := ⟨h.1.keep hal hk, h.2⟩
/-- what place i of a char[]'s cell holds -/
def cv (A : Cell) (i : Nat) : Int32 := match A.slots[i]? with | some (.int x) => x | _ => 0
theorem Ch.get {a : Addr} {A : Cell} {U : State} (h : Ch a A U) {i : Nat} (hi : i < A.slots.size) : A.slots[i]? = some (.int (cv A i)) := by
  have e := Array.getElem?_eq_getElem hi
  have f := h.2 i _ e
  unfold cv; rw [e]
  generalize A.slots[i] = v at f
  cases v <;> simp [fits] at f ⊢
/-- the byte that i2b leaves of a char -/
def lo8 (x : Int32) : Int32 := x.toInt8.toInt32
theorem fits_lo8 (y : Int32) : fits .byte (.int (lo8 y)) = true := by
  have h1 := y.toInt8.le_toInt
  have h2 := y.toInt8.toInt_lt
  simp only [lo8, fits, Bool.and_eq_true, decide_eq_true_eq, Int32.le_iff_toInt_le, Int8.toInt_toInt32, show (-128 : Int32).toInt = -128 from by decide, show (127 : Int32).toInt = 127 from by decide]
  omega
/-- A' is A but that each place j of lo .. hi - 1 holds f j -/
def Laid (A A' : Cell) (lo hi : Nat) (f : Nat → Value) : Prop := A'.cls = A.cls ∧ A'.vm = A.vm ∧ A'.slots.size = A.slots.size ∧ ∀ i, A'.slots[i]? = if lo ≤ i ∧ i < hi then some (f i) else A.slots[i]?
theorem Laid.zero (A : Cell) (lo : Nat) (f : Nat → Value) : Laid A A lo (lo + 0) f := ⟨rfl, rfl, rfl, fun i => by rw [if_neg (by omega)]⟩
theorem Laid.step {A Ak : Cell} {lo k : Nat} {f : Nat → Value} {v : Value} (h : Laid A Ak lo k f) (hlo : lo ≤ k) (hk : k < Ak.slots.size) (hv : v = f k) : Laid A (Ak.setSlot k v) lo (k + 1) f := by
  refine ⟨h.1, h.2.1, by simpa [Cell.setSlot] using h.2.2.1, fun i => ?_⟩
  by_cases e : k = i
  · subst e; rw [Cell.slots_setSlot_self v hk, if_pos (by omega), hv]
  · rw [Cell.slots_setSlot_ne v e, h.2.2.2 i]
    by_cases q : lo ≤ i ∧ i < k
    · rw [if_pos q, if_pos (by omega)]
    · rw [if_neg q, if_neg (by omega)]
def U16 : String := "java/lang/StringUTF16"
namespace Cmp5
def yN : MethodName := ⟨"java/lang/StringUTF16", "compress", "([CI[BII)I"⟩
abbrev yB : ByteArray := jdk_52_method_21_code
theorem d0 : decode yB 0 = .ok (.iconst 0, 1) := by decide +kernel
theorem d1 : decode yB 1 = .ok (.istore 5, 2) := by decide +kernel
theorem d3 : decode yB 3 = .ok (.iload 5, 2) := by decide +kernel
theorem d5 : decode yB 5 = .ok (.iload 4, 2) := by decide +kernel
theorem d7 : decode yB 7 = .ok (.if_icmp (.ge) 37, 3) := by decide +kernel
theorem d10 : decode yB 10 = .ok (.aload_n 0, 1) := by decide +kernel
theorem d11 : decode yB 11 = .ok (.iload_n 1, 1) := by decide +kernel
theorem d12 : decode yB 12 = .ok (.caload, 1) := by decide +kernel
theorem d13 : decode yB 13 = .ok (.istore 6, 2) := by decide +kernel
theorem d15 : decode yB 15 = .ok (.iload 6, 2) := by decide +kernel
theorem d17 : decode yB 17 = .ok (.sipush 255, 3) := by decide +kernel
theorem d20 : decode yB 20 = .ok (.if_icmp (.le) 6, 3) := by decide +kernel
theorem d26 : decode yB 26 = .ok (.aload_n 2, 1) := by decide +kernel
theorem d27 : decode yB 27 = .ok (.iload_n 3, 1) := by decide +kernel
theorem d28 : decode yB 28 = .ok (.iload 6, 2) := by decide +kernel
theorem d30 : decode yB 30 = .ok (.i2b, 1) := by decide +kernel
theorem d31 : decode yB 31 = .ok (.bastore, 1) := by decide +kernel
theorem d32 : decode yB 32 = .ok (.iinc 1 1, 3) := by decide +kernel
theorem d35 : decode yB 35 = .ok (.iinc 3 1, 3) := by decide +kernel
theorem d38 : decode yB 38 = .ok (.iinc 5 1, 3) := by decide +kernel
theorem d41 : decode yB 41 = .ok (.goto (-38), 3) := by decide +kernel
theorem d44 : decode yB 44 = .ok (.iload 4, 2) := by decide +kernel
theorem d46 : decode yB 46 = .ok (.ireturn, 1) := by decide +kernel
def site : List Cond := []
def tab : Cond := tabOf yN yB 7 (some .int) site
def P (b : Addr) (A : Cell) (d : Addr) (B : Cell) (o q len : Nat) (args : Array Value) (s : State) : Prop := args = #[.ref b, .int (Int32.ofNat o), .ref d, .int (Int32.ofNat q), .int (Int32.ofNat len)] ∧ Ch b A s ∧ Arr .byte d B s ∧ b ≠ d ∧ o + len ≤ A.slots.size ∧ q + len ≤ B.slots.size ∧ ∀ i, i < len → ¬ 255 < cv A (o + i)
def E (b : Addr) (A : Cell) (d : Addr) (B : Cell) (o q len : Nat) (r : Option Value) (s u : State) : Prop := r = some (.int (Int32.ofNat len)) ∧ ∃ B', Put d B' s u ∧ Laid B B' q (q + len) (fun j => Value.int (lo8 (cv A (o + (j - q)))))
/-- no char of the range above 255: len; the places written hold each char's low byte -/
theorem law (l : Launch) (b : Addr) (A : Cell) (d : Addr) (B : Cell) (o q len : Nat) : Law l yN 5 5 0 0 yB 7 (some .int) site (P b A d B o q len) (E b A d B o q len) (copyLocs d q len) 0 0 := by
  refine Law.of_walk (plainFor_of_name (by decide +kernel)) (by decide +kernel) (by decide +kernel) (by decide) (fun _ _ h => by rw [h.1]; rfl) (fun _ U U' hal hh h => ⟨h.1, h.2.1.mv hal hh, h.2.2.1.mv hal hh, h.2.2.2⟩) (fun r U U' V V' h1 hal h2 h => ⟨h.1, h.2.elim fun B' q => ⟨B', q.1.mv h1 h2, q.2⟩⟩) ?_
  intro p e s m args below meth c s₁ X0 hexec hbytes hml hret hlk hnm hown hh0 W hP
  obtain ⟨rfl, hA, hB, hne, l1, l2, hp⟩ := hP
  have c1 : Steps p.tables e below (s₁.setTop (entryFrame m #[.ref b, .int (Int32.ofNat o), .ref d, .int (Int32.ofNat q), .int (Int32.ofNat len)] 7)) (s₁.setTop (mkF m 0 #[.val (.ref b), .val (.int (Int32.ofNat o)), .val (.ref d), .val (.int (Int32.ofNat q)), .val (.int (Int32.ofNat len)), .unset, .unset] [])) := entry rfl
  have hA0 := hA.1.mv X0.warmed.alike hh0
  have hB0 := hB.mv X0.warmed.alike hh0
  have a31 := hA.1.2.2.2
  have c2 : Steps p.tables e below (s₁.setTop (entryFrame m #[.ref b, .int (Int32.ofNat o), .ref d, .int (Int32.ofNat q), .int (Int32.ofNat len)] 7)) (s₁.setTop (mkF m 3 #[.val (.ref b), .val (.int (Int32.ofNat o)), .val (.ref d), .val (.int (Int32.ofNat q)), .val (.int (Int32.ofNat len)), .val (.int 0), .unset] [])) := c1.trans (by
    refine iconstV X0.here hexec rfl 0 (hb hbytes d0) (by decide) ?_
    refine XS.istore X0.here hexec rfl (hb hbytes d1) rfl rfl ?_
    exact Steps.refl _)
  have loop : ∀ (r i : Nat), i + r = len → ∀ (z : Slot), (z = .unset ∨ ∃ w, z = .val w ∧ w.category = 1) → ∀ (Tl : State) (Bk : Cell), Stand p l e { frames := 0, locals := 0, cells := 0, slots := 0 } s m #[.ref b, .int (Int32.ofNat o), .ref d, .int (Int32.ofNat q), .int (Int32.ofNat len)] below meth c Tl ([] ++ copyLocs d q i) 0 0 → Put d Bk s₁ Tl → Laid B Bk q (q + i) (fun j => Value.int (lo8 (cv A (o + (j - q))))) →
      Steps p.tables e below (s₁.setTop (entryFrame m #[.ref b, .int (Int32.ofNat o), .ref d, .int (Int32.ofNat q), .int (Int32.ofNat len)] 7)) (Tl.setTop (mkF m 3 #[.val (.ref b), .val (.int (Int32.ofNat (o + i))), .val (.ref d), .val (.int (Int32.ofNat (q + i))), .val (.int (Int32.ofNat len)), .val (.int (Int32.ofNat i)), z] [])) → ∃ (T' : State) (B' : Cell) (z' : Slot), Stand p l e { frames := 0, locals := 0, cells := 0, slots := 0 } s m #[.ref b, .int (Int32.ofNat o), .ref d, .int (Int32.ofNat q), .int (Int32.ofNat len)] below meth c T' ([] ++ copyLocs d q len) 0 0 ∧ Put d B' s₁ T' ∧ Laid B B' q (q + len) (fun j => Value.int (lo8 (cv A (o + (j - q))))) ∧
      Steps p.tables e below (s₁.setTop (entryFrame m #[.ref b, .int (Int32.ofNat o), .ref d, .int (Int32.ofNat q), .int (Int32.ofNat len)] 7)) (T'.setTop (mkF m 3 #[.val (.ref b), .val (.int (Int32.ofNat (o + len))), .val (.ref d), .val (.int (Int32.ofNat (q + len))), .val (.int (Int32.ofNat len)), .val (.int (Int32.ofNat len)), z'] [])) := by
    intro r
    induction r with
    | zero =>
      intro i hi z hz Tl Bk Xl pl fl cl
      have hil : i = len := by omega
      rw [hil] at Xl fl cl
      exact ⟨Tl, Bk, z, Xl, pl, fl, cl⟩
    | succ r ih =>
      intro i hi z hz Tl Bk Xl pl fl cl
      have all := X0.warmed.alike.symm.trans Xl.warmed.alike
      have hAl := hA0.keep all (pl.other hne hA0.1)
      have hBk := hB0.like all pl.1 fl.1 fl.2.1 fl.2.2.1
      have hlt : q + i < Bk.slots.size := by rw [fl.2.2.1]; omega
      have c3 : Steps p.tables e below (s₁.setTop (entryFrame m #[.ref b, .int (Int32.ofNat o), .ref d, .int (Int32.ofNat q), .int (Int32.ofNat len)] 7)) (Tl.setTop (mkF m 12 #[.val (.ref b), .val (.int (Int32.ofNat (o + i))), .val (.ref d), .val (.int (Int32.ofNat (q + i))), .val (.int (Int32.ofNat len)), .val (.int (Int32.ofNat i)), z] [.int (Int32.ofNat (o + i)), .ref b])) := cl.trans (by
        refine XS.iload Xl.here hexec rfl (hb hbytes d3) rfl ?_
        refine XS.iload Xl.here hexec rfl (hb hbytes d5) rfl ?_
        refine XS.icmpNo Xl.here hexec rfl (hb hbytes d7) rfl (ii_ge_f (lt32 (by omega) (by omega))) ?_
        refine XS.aloadN Xl.here hexec rfl (hb hbytes d10) rfl rfl ?_
        refine XS.iloadN Xl.here hexec rfl (hb hbytes d11) rfl ?_
        exact Steps.refl _)
      have c4 : Steps p.tables e below (s₁.setTop (entryFrame m #[.ref b, .int (Int32.ofNat o), .ref d, .int (Int32.ofNat q), .int (Int32.ofNat len)] 7)) (Tl.setTop (mkF m 13 #[.val (.ref b), .val (.int (Int32.ofNat (o + i))), .val (.ref d), .val (.int (Int32.ofNat (q + i))), .val (.int (Int32.ofNat len)), .val (.int (Int32.ofNat i)), z] [.int (cv A (o + i))])) := c3.trans (by
        refine Xl.aget hexec hAl rfl (hA.get (i := o + i) (by omega)) rfl rfl (hb hbytes d12) ?_
        exact Steps.refl _)
      have c5 : Steps p.tables e below (s₁.setTop (entryFrame m #[.ref b, .int (Int32.ofNat o), .ref d, .int (Int32.ofNat q), .int (Int32.ofNat len)] 7)) (Tl.setTop (mkF m 15 #[.val (.ref b), .val (.int (Int32.ofNat (o + i))), .val (.ref d), .val (.int (Int32.ofNat (q + i))), .val (.int (Int32.ofNat len)), .val (.int (Int32.ofNat i)), .val (.int (cv A (o + i)))] [])) := c4.trans (by
        refine XS.istoreS Xl.here hexec rfl (hb hbytes d13) rfl rfl hz ?_
        exact Steps.refl _)
      have c6 : Steps p.tables e below (s₁.setTop (entryFrame m #[.ref b, .int (Int32.ofNat o), .ref d, .int (Int32.ofNat q), .int (Int32.ofNat len)] 7)) (Tl.setTop (mkF m 31 #[.val (.ref b), .val (.int (Int32.ofNat (o + i))), .val (.ref d), .val (.int (Int32.ofNat (q + i))), .val (.int (Int32.ofNat len)), .val (.int (Int32.ofNat i)), .val (.int (cv A (o + i)))] [.int (lo8 (cv A (o + i))), .int (Int32.ofNat (q + i)), .ref d])) := c5.trans (by
        refine XS.iload Xl.here hexec rfl (hb hbytes d15) rfl ?_
        refine sipushV Xl.here hexec rfl 255 (hb hbytes d17) (by decide) ?_
        refine XS.icmpYes Xl.here hexec rfl (pc0 := 20) rfl (hb hbytes d20) rfl (ii_le_t (hp i (by omega))) (by decide) rfl ?_
        refine XS.aloadN Xl.here hexec rfl (hb hbytes d26) rfl rfl ?_
        refine XS.iloadN Xl.here hexec rfl (hb hbytes d27) rfl ?_
        refine XS.iload Xl.here hexec rfl (hb hbytes d28) rfl ?_
        refine i2b Xl.here hexec rfl (hb hbytes d30) rfl ?_
        exact Steps.refl _)
      obtain ⟨T7, X7, p7, st7⟩ := Xl.aput hexec hBk rfl hlt rfl (fits_lo8 (cv A (o + i))) (g := (mkF m 31 #[.val (.ref b), .val (.int (Int32.ofNat (o + i))), .val (.ref d), .val (.int (Int32.ofNat (q + i))), .val (.int (Int32.ofNat len)), .val (.int (Int32.ofNat i)), .val (.int (cv A (o + i)))] [.int (lo8 (cv A (o + i))), .int (Int32.ofNat (q + i)), .ref d])) rfl (rest := []) rfl (hb hbytes d31)
      have c8 : Steps p.tables e below (s₁.setTop (entryFrame m #[.ref b, .int (Int32.ofNat o), .ref d, .int (Int32.ofNat q), .int (Int32.ofNat len)] 7)) (T7.setTop (mkF m 32 #[.val (.ref b), .val (.int (Int32.ofNat (o + i))), .val (.ref d), .val (.int (Int32.ofNat (q + i))), .val (.int (Int32.ofNat len)), .val (.int (Int32.ofNat i)), .val (.int (cv A (o + i)))] [])) := c6.trans (st7 _ (Steps.refl _))
      have c9 : Steps p.tables e below (s₁.setTop (entryFrame m #[.ref b, .int (Int32.ofNat o), .ref d, .int (Int32.ofNat q), .int (Int32.ofNat len)] 7)) (T7.setTop (mkF m 3 #[.val (.ref b), .val (.int (Int32.ofNat (o + i) + 1)), .val (.ref d), .val (.int (Int32.ofNat (q + i) + 1)), .val (.int (Int32.ofNat len)), .val (.int (Int32.ofNat i + 1)), .val (.int (cv A (o + i)))] [])) := c8.trans (by
        refine iincV X7.here hexec rfl 1 (hb hbytes d32) (by decide) rfl rfl ?_
        refine iincV X7.here hexec rfl 1 (hb hbytes d35) (by decide) rfl rfl ?_
        refine iincV X7.here hexec rfl 1 (hb hbytes d38) (by decide) rfl rfl ?_
        refine XS.goto X7.here hexec rfl (pc0 := 41) rfl (hb hbytes d41) (by decide) rfl ?_
        exact Steps.refl _)
      have c10 : Steps p.tables e below (s₁.setTop (entryFrame m #[.ref b, .int (Int32.ofNat o), .ref d, .int (Int32.ofNat q), .int (Int32.ofNat len)] 7)) (T7.setTop (mkF m 3 #[.val (.ref b), .val (.int (Int32.ofNat (o + (i + 1)))), .val (.ref d), .val (.int (Int32.ofNat (q + (i + 1)))), .val (.int (Int32.ofNat len)), .val (.int (Int32.ofNat (i + 1))), .val (.int (cv A (o + i)))] [])) := by
        have := c9
        rw [succ32, succ32, succ32] at this
        exact this
      exact ih (i + 1) (by omega) _ (Or.inr ⟨_, rfl, rfl⟩) T7 _ (by rw [copyLocs_step, ← List.append_assoc]; exact X7) (pl.trans p7) (fl.step (by omega) hlt (by simp)) c10
  obtain ⟨T9, B9, z9, X9, p9, f9, g9⟩ := loop len 0 (by omega) .unset (Or.inl rfl) s₁ B (by simpa [copyLocs] using X0) ⟨hB0.1, fun _ _ => rfl, rfl⟩ (Laid.zero _ _ _) c2
  have c11 : Steps p.tables e below (s₁.setTop (entryFrame m #[.ref b, .int (Int32.ofNat o), .ref d, .int (Int32.ofNat q), .int (Int32.ofNat len)] 7)) (T9.setTop (mkF m 46 #[.val (.ref b), .val (.int (Int32.ofNat (o + len))), .val (.ref d), .val (.int (Int32.ofNat (q + len))), .val (.int (Int32.ofNat len)), .val (.int (Int32.ofNat len)), z9] [.int (Int32.ofNat len)])) := g9.trans (by
    refine XS.iload X9.here hexec rfl (hb hbytes d3) rfl ?_
    refine XS.iload X9.here hexec rfl (hb hbytes d5) rfl ?_
    refine XS.icmpYes X9.here hexec rfl (pc0 := 7) rfl (hb hbytes d7) rfl (ii_ge_t (nlt32 (by omega) (Nat.le_refl _))) (by decide) rfl ?_
    refine XS.iload X9.here hexec rfl (hb hbytes d44) rfl ?_
    exact Steps.refl _)
  exact ⟨T9, some (.int (Int32.ofNat len)), _, _, _, X9, by simp, rfl, rfl, (fun h => by cases h), ⟨rfl, B9, p9.from hh0, f9⟩, fun fs hl => c11.trans (X9.ireturnOut hexec hret rfl (Or.inl rfl) (hb hbytes d46) hl)⟩
end Cmp5
namespace Cmp3
def yN : MethodName := ⟨"java/lang/StringUTF16", "compress", "([CII)[B"⟩
abbrev yB : ByteArray := jdk_52_method_16_code
theorem d0 : decode yB 0 = .ok (.iload_n 2, 1) := by decide +kernel
theorem d1 : decode yB 1 = .ok (.newarray .byte, 2) := by decide +kernel
theorem d3 : decode yB 3 = .ok (.astore_n 3, 1) := by decide +kernel
theorem d4 : decode yB 4 = .ok (.aload_n 0, 1) := by decide +kernel
theorem d5 : decode yB 5 = .ok (.iload_n 1, 1) := by decide +kernel
theorem d6 : decode yB 6 = .ok (.aload_n 3, 1) := by decide +kernel
theorem d7 : decode yB 7 = .ok (.iconst 0, 1) := by decide +kernel
theorem d8 : decode yB 8 = .ok (.iload_n 2, 1) := by decide +kernel
theorem d9 : decode yB 9 = .ok (.invokestatic 115, 3) := by decide +kernel
theorem d12 : decode yB 12 = .ok (.istore 4, 2) := by decide +kernel
theorem d14 : decode yB 14 = .ok (.iload 4, 2) := by decide +kernel
theorem d16 : decode yB 16 = .ok (.iload_n 2, 1) := by decide +kernel
theorem d17 : decode yB 17 = .ok (.if_icmp (.eq) 40, 3) := by decide +kernel
theorem d57 : decode yB 57 = .ok (.aload_n 3, 1) := by decide +kernel
theorem d58 : decode yB 58 = .ok (.areturn, 1) := by decide +kernel
def site : List Cond := [.arrayClass .byte, Cmp5.tab] ++ staticW U16 115 Cmp5.yN
def tab : Cond := tabOf yN yB 6 (some (.array .byte)) site
def P (b : Addr) (A : Cell) (o len : Nat) (args : Array Value) (s : State) : Prop := args = #[.ref b, .int (Int32.ofNat o), .int (Int32.ofNat len)] ∧ Ch b A s ∧ o + len ≤ A.slots.size ∧ len ≤ 536870912 ∧ ∀ i, i < len → ¬ 255 < cv A (o + i)
def E (b : Addr) (A : Cell) (o len : Nat) (r : Option Value) (s u : State) : Prop := NewArr .byte "[B" len (fun j => .int (lo8 (cv A (o + j)))) r s u ∧ u.heap.size = s.heap.size + 1
/-- no char of the range above 255: a new byte[] of their low bytes -/
theorem law (l : Launch) (b : Addr) (A : Cell) (o len : Nat) : Law l yN 3 3 1 18 yB 6 (some (.array .byte)) site (P b A o len) (E b A o len) [] 1 len := by
  refine Law.of_walk (plainFor_of_name (by decide +kernel)) (by decide +kernel) (by decide +kernel) (by decide) (fun _ _ h => by rw [h.1]; rfl) (fun _ U U' hal hh h => ⟨h.1, h.2.1.mv hal hh, h.2.2⟩) (fun r U U' V V' h1 hal h2 h => ⟨NewArr.mv r U U' V V' h1 hal h2 h.1, by rw [h1, h2]; exact h.2⟩) ?_
  intro p e s m args below meth c s₁ X0 hexec hbytes hml hret hlk hnm hown hh0 W hP
  obtain ⟨rfl, hA, l1, l2, hp⟩ := hP
  have a31 := hA.1.2.2.2
  have c1 : Steps p.tables e below (s₁.setTop (entryFrame m #[.ref b, .int (Int32.ofNat o), .int (Int32.ofNat len)] 6)) (s₁.setTop (mkF m 0 #[.val (.ref b), .val (.int (Int32.ofNat o)), .val (.int (Int32.ofNat len)), .unset, .unset, .unset] [])) := entry rfl
  have c2 : Steps p.tables e below (s₁.setTop (entryFrame m #[.ref b, .int (Int32.ofNat o), .int (Int32.ofNat len)] 6)) (s₁.setTop (mkF m 1 #[.val (.ref b), .val (.int (Int32.ofNat o)), .val (.int (Int32.ofNat len)), .unset, .unset, .unset] [.int (Int32.ofNat len)])) := c1.trans (by
    refine XS.iloadN X0.here hexec rfl (hb hbytes d0) rfl ?_
    exact Steps.refl _)
  obtain ⟨T3, B3, X3, ba3, bs3, bv3, bh3, bf3, st3⟩ := X0.anew hexec (atype := .byte) (wk W (.arrayClass .byte)) rfl (by show len * 1 ≤ _; omega) (by omega) (g := (mkF m 1 #[.val (.ref b), .val (.int (Int32.ofNat o)), .val (.int (Int32.ofNat len)), .unset, .unset, .unset] [.int (Int32.ofNat len)])) rfl (hb hbytes d1) (rest := []) rfl (Nat.le_refl _) (by show 0 + len ≤ len; omega)
  rw [hh0] at ba3 st3
  have kp3 : XT.Kept s T3 := (XT.Kept.of_eq hh0).push bh3
  have hA3 := hA.keep X3.warmed.alike (kp3 _ _ hA.1.1)
  have hne : b ≠ s.heap.size := hA.1.ne
  have c4 : Steps p.tables e below (s₁.setTop (entryFrame m #[.ref b, .int (Int32.ofNat o), .int (Int32.ofNat len)] 6)) (T3.setTop (mkF m 3 #[.val (.ref b), .val (.int (Int32.ofNat o)), .val (.int (Int32.ofNat len)), .unset, .unset, .unset] [.ref s.heap.size])) := c2.trans (st3 _ (Steps.refl _))
  have c5 : Steps p.tables e below (s₁.setTop (entryFrame m #[.ref b, .int (Int32.ofNat o), .int (Int32.ofNat len)] 6)) (T3.setTop (mkF m 9 #[.val (.ref b), .val (.int (Int32.ofNat o)), .val (.int (Int32.ofNat len)), .val (.ref s.heap.size), .unset, .unset] [.int (Int32.ofNat len), .int 0, .ref s.heap.size, .int (Int32.ofNat o), .ref b])) := c4.trans (by
    refine XS.astoreN X3.here hexec rfl (hb hbytes d3) rfl rfl rfl ?_
    refine XS.aloadN X3.here hexec rfl (hb hbytes d4) rfl rfl ?_
    refine XS.iloadN X3.here hexec rfl (hb hbytes d5) rfl ?_
    refine XS.aloadN X3.here hexec rfl (hb hbytes d6) rfl rfl ?_
    refine iconstV X3.here hexec rfl 0 (hb hbytes d7) (by decide) ?_
    refine XS.iloadN X3.here hexec rfl (hb hbytes d8) rfl ?_
    exact Steps.refl _)
  obtain ⟨v6, T6, X6, E6, g6⟩ := X3.callS hexec (Cmp5.law l b A s.heap.size B3 o 0 len) hown (wks W (staticW U16 115 Cmp5.yN)) (wk W Cmp5.tab) (W := 0) (Nat.le_of_ble_eq_true rfl) (Nat.le_of_ble_eq_true rfl) (Nat.le_refl _) (by show 0 + len + 0 ≤ len; omega) (g := (mkF m 9 #[.val (.ref b), .val (.int (Int32.ofNat o)), .val (.int (Int32.ofNat len)), .val (.ref s.heap.size), .unset, .unset] [.int (Int32.ofNat len), .int (Int32.ofNat 0), .ref s.heap.size, .int (Int32.ofNat o), .ref b])) rfl (by rw [hml]; rfl) c5 (argsL := [.ref b, .int (Int32.ofNat o), .ref s.heap.size, .int (Int32.ofNat 0), .int (Int32.ofNat len)]) (rest := []) rfl rfl (by show 2 * 0 + 0 ≤ _; decide) (hb hbytes d9) (⟨rfl, hA3, ba3, hne, l1, by rw [bs3]; simp, hp⟩)
  obtain ⟨rfl, B6, p6, f6⟩ := E6
  have c7 : Steps p.tables e below (s₁.setTop (entryFrame m #[.ref b, .int (Int32.ofNat o), .int (Int32.ofNat len)] 6)) (T6.setTop (mkF m 12 #[.val (.ref b), .val (.int (Int32.ofNat o)), .val (.int (Int32.ofNat len)), .val (.ref s.heap.size), .unset, .unset] [.int (Int32.ofNat len)])) := g6
  have c8 : Steps p.tables e below (s₁.setTop (entryFrame m #[.ref b, .int (Int32.ofNat o), .int (Int32.ofNat len)] 6)) (T6.setTop (mkF m 58 #[.val (.ref b), .val (.int (Int32.ofNat o)), .val (.int (Int32.ofNat len)), .val (.ref s.heap.size), .val (.int (Int32.ofNat len)), .unset] [.ref s.heap.size])) := c7.trans (by
    refine XS.istore X6.here hexec rfl (hb hbytes d12) rfl rfl ?_
    refine XS.iload X6.here hexec rfl (hb hbytes d14) rfl ?_
    refine XS.iloadN X6.here hexec rfl (hb hbytes d16) rfl ?_
    refine XS.icmpYes X6.here hexec rfl (pc0 := 17) rfl (hb hbytes d17) rfl (ii_eq_t rfl) (by decide) rfl ?_
    refine XS.aloadN X6.here hexec rfl (hb hbytes d57) rfl rfl ?_
    exact Steps.refl _)
  have X8 := X6.wide (L' := []) (cells' := 1) (slots' := len) (fun x hx hlt => by
    simp only [List.nil_append, copyLocs, List.mem_map, List.mem_range] at hx
    obtain ⟨i, -, rfl⟩ := hx
    exact absurd hlt (Nat.lt_irrefl _)) (Nat.le_refl _) (by omega)
  exact ⟨T6, some (.ref s.heap.size), _, _, _, X8, rfl, rfl, rfl, (fun h => by cases h), ⟨⟨rfl, B6, ba3.like (X3.warmed.alike.symm.trans X6.warmed.alike) p6.1 f6.1 f6.2.1 f6.2.2.1, f6.2.1.trans bv3, by rw [X6.warmed.alike.findClass, f6.1]; exact bf3, by rw [f6.2.2.1, bs3]; simp, fun j hj => by rw [f6.2.2.2 j, if_pos (by omega)]; rfl, kp3.put p6 (Nat.le_refl _)⟩, by rw [p6.2.2, bh3, hh0]; simp⟩, fun fs hl => c8.trans (X8.areturnOut hexec rfl hret rfl (hb hbytes d58) hl)⟩
end Cmp3
namespace CodL
def yN : MethodName := ⟨"java/lang/StringUTF16", "coderFromArrayLen", "([BI)B"⟩
abbrev yB : ByteArray := jdk_52_method_15_code
theorem d0 : decode yB 0 = .ok (.iload_n 1, 1) := by decide +kernel
theorem d1 : decode yB 1 = .ok (.aload_n 0, 1) := by decide +kernel
theorem d2 : decode yB 2 = .ok (.arraylength, 1) := by decide +kernel
theorem d3 : decode yB 3 = .ok (.isub, 1) := by decide +kernel
theorem d4 : decode yB 4 = .ok (.bipush 31, 2) := by decide +kernel
theorem d6 : decode yB 6 = .ok (.iushr, 1) := by decide +kernel
theorem d7 : decode yB 7 = .ok (.i2b, 1) := by decide +kernel
theorem d8 : decode yB 8 = .ok (.ireturn, 1) := by decide +kernel
def site : List Cond := []
def tab : Cond := tabOf yN yB 2 (some .byte) site
def P (d : Addr) (B : Cell) (args : Array Value) (s : State) : Prop := args = #[.ref d, .int (Int32.ofNat B.slots.size)] ∧ Arr .byte d B s
def E (r : Option Value) (s u : State) : Prop := XT.PureE (some (.int 0)) r s u
/-- an array as long as the number of chars: LATIN1 -/
theorem law (l : Launch) (d : Addr) (B : Cell) : Law l yN 2 2 0 0 yB 2 (some .byte) site (P d B) E [] 0 0 := by
  refine Law.of_walk (plainFor_of_name (by decide +kernel)) (by decide +kernel) (by decide +kernel) (by decide) (fun _ _ h => by rw [h.1]; rfl) (fun _ U U' hal hh h => ⟨h.1, h.2.mv hal hh⟩) (fun r U U' V V' h1 hal h2 h => XT.PureE.mv r U U' V V' h1 hal h2 h) ?_
  intro p e s m args below meth c s₁ X0 hexec hbytes hml hret hlk hnm hown hh0 W hP
  obtain ⟨rfl, hB⟩ := hP
  have hB0 := hB.mv X0.warmed.alike hh0
  have c1 : Steps p.tables e below (s₁.setTop (entryFrame m #[.ref d, .int (Int32.ofNat B.slots.size)] 2)) (s₁.setTop (mkF m 0 #[.val (.ref d), .val (.int (Int32.ofNat B.slots.size))] [])) := entry rfl
  have c2 : Steps p.tables e below (s₁.setTop (entryFrame m #[.ref d, .int (Int32.ofNat B.slots.size)] 2)) (s₁.setTop (mkF m 2 #[.val (.ref d), .val (.int (Int32.ofNat B.slots.size))] [.ref d, .int (Int32.ofNat B.slots.size)])) := c1.trans (by
    refine XS.iloadN X0.here hexec rfl (hb hbytes d0) rfl ?_
    refine XS.aloadN X0.here hexec rfl (hb hbytes d1) rfl rfl ?_
    exact Steps.refl _)
  have c3 : Steps p.tables e below (s₁.setTop (entryFrame m #[.ref d, .int (Int32.ofNat B.slots.size)] 2)) (s₁.setTop (mkF m 8 #[.val (.ref d), .val (.int (Int32.ofNat B.slots.size))] [.int (lo8 (ushr (Int32.ofNat B.slots.size - Int32.ofNat B.slots.size) 31))])) := c2.trans (by
    refine X0.alen hexec hB0 rfl rfl (hb hbytes d2) ?_
    refine XS.isub X0.here hexec rfl (hb hbytes d3) rfl ?_
    refine bipushV X0.here hexec rfl 31 (hb hbytes d4) (by decide) ?_
    refine iushr X0.here hexec rfl (hb hbytes d6) rfl ?_
    refine i2b X0.here hexec rfl (hb hbytes d7) rfl ?_
    exact Steps.refl _)
  have e0 : lo8 (ushr (Int32.ofNat B.slots.size - Int32.ofNat B.slots.size) 31) = 0 := by rw [Int32.sub_self]; decide
  rw [e0] at c3
  exact ⟨s₁, some (.int 0), _, _, _, X0, rfl, rfl, rfl, (fun h => by cases h), ⟨rfl, hh0⟩, fun fs hl => c3.trans (X0.ireturnOut hexec hret rfl (Or.inr (Or.inr (Or.inl rfl))) (hb hbytes d8) hl)⟩
end CodL
/-- the String at a is Latin-1 over a new byte[] (the heap's one new cell): the low bytes of the len chars of A from o on; every cell but a is kept -/
def Got (a : Addr) (D : Cell) (fV fC : Field) (A : Cell) (o len : Nat) (r : Option Value) (s u : State) : Prop := r = none ∧ ∃ D' V : Cell, Blank "java/lang/String" a D' u ∧ Same D D' [fV.slot, fC.slot] ∧ D'.slots[fV.slot]? = some (.ref s.heap.size) ∧ D'.slots[fC.slot]? = some (.int 0) ∧ Arr .byte s.heap.size V u ∧ V.vm = .none ∧ u.vm.findClass "[B" = some V.cls ∧ V.slots.size = len ∧ (∀ j, j < len → V.slots[j]? = some (.int (lo8 (cv A (o + j))))) ∧ (∀ (y : Addr) (c : Cell), y ≠ a → s.heap[y]? = some c → u.heap[y]? = some c) ∧ u.heap.size = s.heap.size + 1
theorem Got.mv {a : Addr} {D A : Cell} {fV fC : Field} {o len : Nat} : ∀ r (U U' V V' : State), U'.heap = U.heap → V.vm.Alike V'.vm → V'.heap = V.heap → Got a D fV fC A o len r U V → Got a D fV fC A o len r U' V' :=
  fun r U U' V V' h1 hal h2 ⟨e0, D', X, a1, a2, a3, a4, a5, a6, a7, a8, a9, a10, a11⟩ => ⟨e0, D', X, a1.mv hal h2, a2, by rw [h1]; exact a3, a4, by rw [h1]; exact a5.mv hal h2, a6, by rw [hal.findClass]; exact a7, a8, a9, by rw [h1, h2]; exact a10, by rw [h1, h2]; exact a11⟩
namespace New4
def yN : MethodName := ⟨"java/lang/String", "<init>", "([CIILjava/lang/Void;)V"⟩
abbrev yB : ByteArray := jdk_42_method_149_code
theorem d0 : decode yB 0 = .ok (.aload_n 0, 1) := by decide +kernel
theorem d1 : decode yB 1 = .ok (.invokespecial 1, 3) := by decide +kernel
theorem d4 : decode yB 4 = .ok (.iload_n 3, 1) := by decide +kernel
theorem d5 : decode yB 5 = .ok (.ifCond (.ne) 22, 3) := by decide +kernel
theorem d27 : decode yB 27 = .ok (.getstatic 38, 3) := by decide +kernel
theorem d30 : decode yB 30 = .ok (.ifCond (.eq) 28, 3) := by decide +kernel
theorem d33 : decode yB 33 = .ok (.aload_n 1, 1) := by decide +kernel
theorem d34 : decode yB 34 = .ok (.iload_n 2, 1) := by decide +kernel
theorem d35 : decode yB 35 = .ok (.iload_n 3, 1) := by decide +kernel
theorem d36 : decode yB 36 = .ok (.invokestatic 177, 3) := by decide +kernel
theorem d39 : decode yB 39 = .ok (.astore 5, 2) := by decide +kernel
theorem d41 : decode yB 41 = .ok (.aload_n 0, 1) := by decide +kernel
theorem d42 : decode yB 42 = .ok (.aload 5, 2) := by decide +kernel
theorem d44 : decode yB 44 = .ok (.iload_n 3, 1) := by decide +kernel
theorem d45 : decode yB 45 = .ok (.invokestatic 47, 3) := by decide +kernel
theorem d48 : decode yB 48 = .ok (.putfield 15, 3) := by decide +kernel
theorem d51 : decode yB 51 = .ok (.aload_n 0, 1) := by decide +kernel
theorem d52 : decode yB 52 = .ok (.aload 5, 2) := by decide +kernel
theorem d54 : decode yB 54 = .ok (.putfield 9, 3) := by decide +kernel
theorem d57 : decode yB 57 = .ok (.return_, 1) := by decide +kernel
def site : List Cond := [.fieldLink "java/lang/String" 38 "java/lang/String" "COMPACT_STRINGS" "Z", Cmp3.tab, CodL.tab, .laysFinal "java/lang/String" "java/lang/String" "value" "[B", .fieldLink "java/lang/String" 9 "java/lang/String" "value" "[B", .laysFinal "java/lang/String" "java/lang/String" "coder" "B", .fieldLink "java/lang/String" 15 "java/lang/String" "coder" "B"] ++ objW "java/lang/String" 1 ++ staticW "java/lang/String" 177 Cmp3.yN ++ staticW "java/lang/String" 47 CodL.yN
def tab : Cond := tabOf yN yB 6 none site
def P (a : Addr) (D : Cell) (fV fC : Field) (b : Addr) (A : Cell) (z : Int32) (o len : Nat) (args : Array Value) (s : State) : Prop := args = #[.ref a, .ref b, .int (Int32.ofNat o), .int (Int32.ofNat len), .null] ∧ Blank "java/lang/String" a D s ∧ Found "java/lang/String" "value" "[B" fV s ∧ Found "java/lang/String" "coder" "B" fC s ∧ Ch b A s ∧ StaticIs s "java/lang/String" "COMPACT_STRINGS" "Z" (.int z) ∧ ¬ z = 0 ∧ 0 < len ∧ o + len ≤ A.slots.size ∧ len ≤ 536870912 ∧ ∀ i, i < len → ¬ 255 < cv A (o + i)
def E (a : Addr) (D : Cell) (fV fC : Field) (A : Cell) (o len : Nat) (r : Option Value) (s u : State) : Prop := Got a D fV fC A o len r s u
/-- len > 0, no char of the range above 255: a Latin-1 String of their low bytes -/
theorem law (l : Launch) (a : Addr) (D : Cell) (fV fC : Field) (b : Addr) (A : Cell) (z : Int32) (o len : Nat) : Law l yN 5 4 2 35 yB 6 none site (P a D fV fC b A z o len) (E a D fV fC A o len) [⟨a, fC.slot⟩, ⟨a, fV.slot⟩] 1 len := by
  refine Law.of_walk (plainFor_of_name (by decide +kernel)) (by decide +kernel) (by decide +kernel) (by decide) (fun _ _ h => by rw [h.1]; rfl) (fun _ U U' hal hh h => ⟨h.1, h.2.1.mv hal hh, h.2.2.1.al hal, h.2.2.2.1.al hal, h.2.2.2.2.1.mv hal hh, h.2.2.2.2.2.1.there hal hh, h.2.2.2.2.2.2⟩) (fun r U U' V V' h1 hal h2 h => Got.mv r U U' V V' h1 hal h2 h) ?_
  intro p e s m args below meth c s₁ X0 hexec hbytes hml hret hlk hnm hown hh0 W hP
  obtain ⟨rfl, hB, f1, f2, hA, s1, hz, l0, l1, l2, hp⟩ := hP
  have a31 := hA.1.2.2.2
  have c1 : Steps p.tables e below (s₁.setTop (entryFrame m #[.ref a, .ref b, .int (Int32.ofNat o), .int (Int32.ofNat len), .null] 6)) (s₁.setTop (mkF m 0 #[.val (.ref a), .val (.ref b), .val (.int (Int32.ofNat o)), .val (.int (Int32.ofNat len)), .val .null, .unset] [])) := entry rfl
  have c2 : Steps p.tables e below (s₁.setTop (entryFrame m #[.ref a, .ref b, .int (Int32.ofNat o), .int (Int32.ofNat len), .null] 6)) (s₁.setTop (mkF m 1 #[.val (.ref a), .val (.ref b), .val (.int (Int32.ofNat o)), .val (.int (Int32.ofNat len)), .val .null, .unset] [.ref a])) := c1.trans (by
    refine XS.aloadN X0.here hexec rfl (hb hbytes d0) rfl rfl ?_
    exact Steps.refl _)
  obtain ⟨T3, X3, q3, st3⟩ := X0.oinit hexec hown (wks W (objW "java/lang/String" 1)) (g := (mkF m 1 #[.val (.ref a), .val (.ref b), .val (.int (Int32.ofNat o)), .val (.int (Int32.ofNat len)), .val .null, .unset] [.ref a])) rfl (by rw [hml]; rfl) (rest := []) rfl (hb hbytes d1) (W := 0) (by show 2 * 0 + 0 ≤ _; decide) (Nat.le_of_ble_eq_true rfl) (Nat.le_of_ble_eq_true rfl)
  have hh3 := q3.trans hh0
  have c4 : Steps p.tables e below (s₁.setTop (entryFrame m #[.ref a, .ref b, .int (Int32.ofNat o), .int (Int32.ofNat len), .null] 6)) (T3.setTop (mkF m 27 #[.val (.ref a), .val (.ref b), .val (.int (Int32.ofNat o)), .val (.int (Int32.ofNat len)), .val .null, .unset] [])) := (c2.trans (st3 _ (Steps.refl _))).trans (by
    refine XS.iloadN X3.here hexec rfl (hb hbytes d4) rfl ?_
    refine XS.ifYes X3.here hexec rfl (pc0 := 5) rfl (hb hbytes d5) rfl (i0_ne_t (nz32 (by omega) l0)) (by decide) rfl ?_
    exact Steps.refl _)
  obtain ⟨T5, X5, q5, st5⟩ := X3.sget hexec hown (wk W (.fieldLink "java/lang/String" 38 "java/lang/String" "COMPACT_STRINGS" "Z")) s1 (fun _ _ h => by rw [hh3]; exact h) (g := (mkF m 27 #[.val (.ref a), .val (.ref b), .val (.int (Int32.ofNat o)), .val (.int (Int32.ofNat len)), .val .null, .unset] [])) rfl (hb hbytes d27)
  have hh5 := q5.trans hh3
  have c6 : Steps p.tables e below (s₁.setTop (entryFrame m #[.ref a, .ref b, .int (Int32.ofNat o), .int (Int32.ofNat len), .null] 6)) (T5.setTop (mkF m 30 #[.val (.ref a), .val (.ref b), .val (.int (Int32.ofNat o)), .val (.int (Int32.ofNat len)), .val .null, .unset] [.int z])) := c4.trans (st5 _ (Steps.refl _))
  have c7 : Steps p.tables e below (s₁.setTop (entryFrame m #[.ref a, .ref b, .int (Int32.ofNat o), .int (Int32.ofNat len), .null] 6)) (T5.setTop (mkF m 36 #[.val (.ref a), .val (.ref b), .val (.int (Int32.ofNat o)), .val (.int (Int32.ofNat len)), .val .null, .unset] [.int (Int32.ofNat len), .int (Int32.ofNat o), .ref b])) := c6.trans (by
    refine XS.ifNo X5.here hexec rfl (hb hbytes d30) rfl (i0_eq_f hz) ?_
    refine XS.aloadN X5.here hexec rfl (hb hbytes d33) rfl rfl ?_
    refine XS.iloadN X5.here hexec rfl (hb hbytes d34) rfl ?_
    refine XS.iloadN X5.here hexec rfl (hb hbytes d35) rfl ?_
    exact Steps.refl _)
  obtain ⟨v8, T8, X8, E8, g8⟩ := X5.callS hexec (Cmp3.law l b A o len) hown (wks W (staticW "java/lang/String" 177 Cmp3.yN)) (wk W Cmp3.tab) (W := 0) (Nat.le_of_ble_eq_true rfl) (Nat.le_of_ble_eq_true rfl) (Nat.le_refl _) (by show 0 + len ≤ len; omega) (g := (mkF m 36 #[.val (.ref a), .val (.ref b), .val (.int (Int32.ofNat o)), .val (.int (Int32.ofNat len)), .val .null, .unset] [.int (Int32.ofNat len), .int (Int32.ofNat o), .ref b])) rfl (by rw [hml]; rfl) c7 (argsL := [.ref b, .int (Int32.ofNat o), .int (Int32.ofNat len)]) (rest := []) rfl rfl (by show 2 * 0 + 0 ≤ _; decide) (hb hbytes d36) (⟨rfl, hA.mv X5.warmed.alike hh5, l1, l2, hp⟩)
  obtain ⟨e8, z8⟩ := E8
  obtain ⟨rfl, N, n1, n2, n3, n4, n5, n6⟩ := NewArr.mv _ T5 s _ _ hh5.symm (Vm.Alike.refl _) rfl e8
  rw [hh5] at z8
  have hB1 := hB.keep X8.warmed.alike (n6 _ _ hB.1)
  have hne : s.heap.size ≠ a := (Nat.ne_of_lt (Array.getElem?_eq_some_iff.mp hB.1).1).symm
  have c9 : Steps p.tables e below (s₁.setTop (entryFrame m #[.ref a, .ref b, .int (Int32.ofNat o), .int (Int32.ofNat len), .null] 6)) (T8.setTop (mkF m 39 #[.val (.ref a), .val (.ref b), .val (.int (Int32.ofNat o)), .val (.int (Int32.ofNat len)), .val .null, .unset] [.ref s.heap.size])) := g8
  have c10 : Steps p.tables e below (s₁.setTop (entryFrame m #[.ref a, .ref b, .int (Int32.ofNat o), .int (Int32.ofNat len), .null] 6)) (T8.setTop (mkF m 45 #[.val (.ref a), .val (.ref b), .val (.int (Int32.ofNat o)), .val (.int (Int32.ofNat len)), .val .null, .val (.ref s.heap.size)] [.int (Int32.ofNat N.slots.size), .ref s.heap.size, .ref a])) := by
    have hc : Steps p.tables e below (s₁.setTop (entryFrame m #[.ref a, .ref b, .int (Int32.ofNat o), .int (Int32.ofNat len), .null] 6)) (T8.setTop (mkF m 45 #[.val (.ref a), .val (.ref b), .val (.int (Int32.ofNat o)), .val (.int (Int32.ofNat len)), .val .null, .val (.ref s.heap.size)] [.int (Int32.ofNat len), .ref s.heap.size, .ref a])) := c9.trans (by
      refine XS.astore X8.here hexec rfl (hb hbytes d39) rfl rfl rfl ?_
      refine XS.aloadN X8.here hexec rfl (hb hbytes d41) rfl rfl ?_
      refine XS.aload X8.here hexec rfl (hb hbytes d42) rfl rfl ?_
      refine XS.iloadN X8.here hexec rfl (hb hbytes d44) rfl ?_
      exact Steps.refl _)
    rw [n4]; exact hc
  obtain ⟨v11, T11, X11, E11, g11⟩ := X8.callS hexec (CodL.law l s.heap.size N) hown (wks W (staticW "java/lang/String" 47 CodL.yN)) (wk W CodL.tab) (W := 1) (Nat.le_of_ble_eq_true rfl) (Nat.le_of_ble_eq_true rfl) (Nat.le_refl _) (by show 0 + len + 0 ≤ len; omega) (g := (mkF m 45 #[.val (.ref a), .val (.ref b), .val (.int (Int32.ofNat o)), .val (.int (Int32.ofNat len)), .val .null, .val (.ref s.heap.size)] [.int (Int32.ofNat N.slots.size), .ref s.heap.size, .ref a])) rfl (by rw [hml]; rfl) c10 (argsL := [.ref s.heap.size, .int (Int32.ofNat N.slots.size)]) (rest := [.ref a]) rfl rfl (by show 2 * 0 + (1 + 0) ≤ _; decide) (hb hbytes d45) (⟨rfl, n1⟩)
  obtain ⟨rfl, q11⟩ := E11
  have hB11 := hB1.mv (X8.warmed.alike.symm.trans X11.warmed.alike) q11
  have c12 : Steps p.tables e below (s₁.setTop (entryFrame m #[.ref a, .ref b, .int (Int32.ofNat o), .int (Int32.ofNat len), .null] 6)) (T11.setTop (mkF m 48 #[.val (.ref a), .val (.ref b), .val (.int (Int32.ofNat o)), .val (.int (Int32.ofNat len)), .val .null, .val (.ref s.heap.size)] [.int 0, .ref a])) := g11
  obtain ⟨T13, X13, p13, bl13, sl13, st13⟩ := X11.finit hexec hown (wk W (.fieldLink "java/lang/String" 15 "java/lang/String" "coder" "B")) (Or.inr ⟨_, (wk W (.laysFinal "java/lang/String" "java/lang/String" "coder" "B"))⟩) (Or.inl ⟨rfl, hnm⟩) f2 (Or.inl rfl) hB11 (t := .byte) (by decide +kernel) rfl (g := (mkF m 48 #[.val (.ref a), .val (.ref b), .val (.int (Int32.ofNat o)), .val (.int (Int32.ofNat len)), .val .null, .val (.ref s.heap.size)] [.int 0, .ref a])) rfl (rest := []) rfl (hb hbytes d48)
  have c14 : Steps p.tables e below (s₁.setTop (entryFrame m #[.ref a, .ref b, .int (Int32.ofNat o), .int (Int32.ofNat len), .null] 6)) (T13.setTop (mkF m 54 #[.val (.ref a), .val (.ref b), .val (.int (Int32.ofNat o)), .val (.int (Int32.ofNat len)), .val .null, .val (.ref s.heap.size)] [.ref s.heap.size, .ref a])) := (c12.trans (st13 _ (Steps.refl _))).trans (by
    refine XS.aloadN X13.here hexec rfl (hb hbytes d51) rfl rfl ?_
    refine XS.aload X13.here hexec rfl (hb hbytes d52) rfl rfl ?_
    exact Steps.refl _)
  obtain ⟨T15, X15, p15, bl15, sl15, st15⟩ := X13.finit hexec hown (wk W (.fieldLink "java/lang/String" 9 "java/lang/String" "value" "[B")) (Or.inr ⟨_, (wk W (.laysFinal "java/lang/String" "java/lang/String" "value" "[B"))⟩) (Or.inl ⟨rfl, hnm⟩) f1 (Or.inl rfl) bl13 (t := (.array .byte)) (by decide +kernel) rfl (g := (mkF m 54 #[.val (.ref a), .val (.ref b), .val (.int (Int32.ofNat o)), .val (.int (Int32.ofNat len)), .val .null, .val (.ref s.heap.size)] [.ref s.heap.size, .ref a])) rfl (rest := []) rfl (hb hbytes d54)
  have c16 : Steps p.tables e below (s₁.setTop (entryFrame m #[.ref a, .ref b, .int (Int32.ofNat o), .int (Int32.ofNat len), .null] 6)) (T15.setTop (mkF m 57 #[.val (.ref a), .val (.ref b), .val (.int (Int32.ofNat o)), .val (.int (Int32.ofNat len)), .val .null, .val (.ref s.heap.size)] [])) := c14.trans (st15 _ (Steps.refl _))
  have ap := apart (Or.inr ⟨_, (wk W (.laysFinal "java/lang/String" "java/lang/String" "value" "[B"))⟩) (Or.inr ⟨_, (wk W (.laysFinal "java/lang/String" "java/lang/String" "coder" "B"))⟩) f1 f2 (t₁ := .array .byte) (t₂ := .byte) (by decide +kernel) (by decide +kernel) (by decide)
  have al := X8.warmed.alike.symm.trans X15.warmed.alike
  have n7 : T11.heap[s.heap.size]? = some N := by rw [q11]; exact n1.1
  exact ⟨T15, none, _, _, _, X15, by simp, rfl, by omega, (fun _ => rfl), ⟨rfl, _, N, bl15, ((Same.refl D _).set _ (by simp)).set _ (by simp), sl15, (Cell.slots_setSlot_ne _ ap).trans sl13, n1.keep al (p15.other hne (p13.other hne n7)), n2, by rw [al.findClass]; exact n3, n4, n5, fun y c h1 h2 => p15.other h1 (p13.other h1 (by rw [q11]; exact n6 y c h2)), by rw [p15.2.2, p13.2.2, q11]; exact z8⟩, fun fs hl => c16.trans (X15.returnOut hexec hret (hb hbytes d57) hl)⟩
end New4
namespace New1
def yN : MethodName := ⟨"java/lang/String", "<init>", "([C)V"⟩
abbrev yB : ByteArray := jdk_42_method_3_code
theorem d0 : decode yB 0 = .ok (.aload_n 0, 1) := by decide +kernel
theorem d1 : decode yB 1 = .ok (.aload_n 1, 1) := by decide +kernel
theorem d2 : decode yB 2 = .ok (.iconst 0, 1) := by decide +kernel
theorem d3 : decode yB 3 = .ok (.aload_n 1, 1) := by decide +kernel
theorem d4 : decode yB 4 = .ok (.arraylength, 1) := by decide +kernel
theorem d5 : decode yB 5 = .ok (.aconst_null, 1) := by decide +kernel
theorem d6 : decode yB 6 = .ok (.invokespecial 27, 3) := by decide +kernel
theorem d9 : decode yB 9 = .ok (.return_, 1) := by decide +kernel
def site : List Cond := [New4.tab] ++ initW "java/lang/String" 27 New4.yN
def tab : Cond := tabOf yN yB 2 none site
def P (a : Addr) (D : Cell) (fV fC : Field) (b : Addr) (A : Cell) (z : Int32) (args : Array Value) (s : State) : Prop := args = #[.ref a, .ref b] ∧ Blank "java/lang/String" a D s ∧ Found "java/lang/String" "value" "[B" fV s ∧ Found "java/lang/String" "coder" "B" fC s ∧ Ch b A s ∧ StaticIs s "java/lang/String" "COMPACT_STRINGS" "Z" (.int z) ∧ ¬ z = 0 ∧ 0 < A.slots.size ∧ A.slots.size ≤ 536870912 ∧ ∀ i, i < A.slots.size → ¬ 255 < cv A i
def E (a : Addr) (D : Cell) (fV fC : Field) (A : Cell) (r : Option Value) (s u : State) : Prop := Got a D fV fC A 0 A.slots.size r s u
/-- new String(chars), not empty, no char above 255: a Latin-1 String of their low bytes -/
theorem law (l : Launch) (a : Addr) (D : Cell) (fV fC : Field) (b : Addr) (A : Cell) (z : Int32) : Law l yN 2 1 3 52 yB 2 none site (P a D fV fC b A z) (E a D fV fC A) [⟨a, fC.slot⟩, ⟨a, fV.slot⟩] 1 A.slots.size := by
  refine Law.of_walk (plainFor_of_name (by decide +kernel)) (by decide +kernel) (by decide +kernel) (by decide) (fun _ _ h => by rw [h.1]; rfl) (fun _ U U' hal hh h => ⟨h.1, h.2.1.mv hal hh, h.2.2.1.al hal, h.2.2.2.1.al hal, h.2.2.2.2.1.mv hal hh, h.2.2.2.2.2.1.there hal hh, h.2.2.2.2.2.2⟩) (fun r U U' V V' h1 hal h2 h => Got.mv r U U' V V' h1 hal h2 h) ?_
  intro p e s m args below meth c s₁ X0 hexec hbytes hml hret hlk hnm hown hh0 W hP
  obtain ⟨rfl, hB, f1, f2, hA, s1, hz, l0, l2, hp⟩ := hP
  have c1 : Steps p.tables e below (s₁.setTop (entryFrame m #[.ref a, .ref b] 2)) (s₁.setTop (mkF m 0 #[.val (.ref a), .val (.ref b)] [])) := entry rfl
  have c2 : Steps p.tables e below (s₁.setTop (entryFrame m #[.ref a, .ref b] 2)) (s₁.setTop (mkF m 6 #[.val (.ref a), .val (.ref b)] [.null, .int (Int32.ofNat A.slots.size), .int 0, .ref b, .ref a])) := c1.trans (by
    refine XS.aloadN X0.here hexec rfl (hb hbytes d0) rfl rfl ?_
    refine XS.aloadN X0.here hexec rfl (hb hbytes d1) rfl rfl ?_
    refine iconstV X0.here hexec rfl 0 (hb hbytes d2) (by decide) ?_
    refine XS.aloadN X0.here hexec rfl (hb hbytes d3) rfl rfl ?_
    refine X0.alen hexec (hA.1.mv X0.warmed.alike hh0) rfl rfl (hb hbytes d4) ?_
    refine XS.aconstNull X0.here hexec rfl (hb hbytes d5) ?_
    exact Steps.refl _)
  obtain ⟨v3, T3, X3, E3, g3⟩ := X0.callN hexec (New4.law l a D fV fC b A z 0 A.slots.size) rfl hown (wks W (initW "java/lang/String" 27 New4.yN)) (W New4.tab (by simp only [site, List.mem_cons, List.mem_append, true_or, or_true])) (W := 0) (Nat.le_of_ble_eq_true rfl) (Nat.le_of_ble_eq_true rfl) (Nat.le_refl _) (by show 0 + A.slots.size ≤ A.slots.size; omega) (g := (mkF m 6 #[.val (.ref a), .val (.ref b)] [.null, .int (Int32.ofNat A.slots.size), .int (Int32.ofNat 0), .ref b, .ref a])) rfl (by rw [hml]; rfl) c2 (argsL := [.ref b, .int (Int32.ofNat 0), .int (Int32.ofNat A.slots.size), .null]) (rest := []) rfl rfl (by show 2 * 0 + 0 ≤ _; decide) (hb hbytes d6) (⟨rfl, hB.mv X0.warmed.alike hh0, f1.al X0.warmed.alike, f2.al X0.warmed.alike, hA.mv X0.warmed.alike hh0, s1.there X0.warmed.alike hh0, hz, l0, by omega, l2, fun i hi => by rw [Nat.zero_add]; exact hp i hi⟩)
  have e0 := Got.mv _ s₁ s _ _ hh0.symm (Vm.Alike.refl _) rfl E3
  obtain rfl := e0.1
  have c4 : Steps p.tables e below (s₁.setTop (entryFrame m #[.ref a, .ref b] 2)) (T3.setTop (mkF m 9 #[.val (.ref a), .val (.ref b)] [])) := g3
  exact ⟨T3, none, _, _, _, X3, by simp, rfl, by omega, (fun _ => rfl), e0, fun fs hl => c4.trans (X3.returnOut hexec hret (hb hbytes d9) hl)⟩
theorem pays {l : Launch} {R : Room} {p : Program} {e : Env} {below : List Frame} {s : State} {sargs : Array Value} {len W : Nat} (a : Addr) (D : Cell) (fV fC : Field) (b : Addr) (A : Cell) (z : Int32) (htab : tab.before sargs s = true) (hfr : 4 ≤ R.frames) (hlo : W + 65 ≤ R.locals) :
    Back l R p e below s sargs yN len W (fun A₁ a₁ => A₁.cells + 1 ≤ R.cells ∧ A₁.slots + A.slots.size ≤ R.slots ∧ P a D fV fC b A z a₁ A₁.U) (fun A₁ _ v₁ B₁ => E a D fV fC A v₁ A₁.U B₁.U ∧ B₁.locs = A₁.locs ++ [⟨a, fC.slot⟩, ⟨a, fV.slot⟩] ∧ B₁.cells = A₁.cells + 1 ∧ B₁.slots = A₁.slots + A.slots.size) :=
  (law l a D fV fC b A z).pays htab hfr (by omega)
end New1
/-- the byte, read back as charAt reads it, is the char -/
theorem lo8_mask {x : Int32} (h0 : ¬ x < 0) (h1 : ¬ 255 < x) : lo8 x &&& 255 = x := by
  have t : ∀ k : Fin 256, lo8 (Int32.ofNat k.val) &&& 255 = Int32.ofNat k.val := by decide +kernel
  rw [Int32.lt_iff_toInt_lt] at h0 h1
  have e0 : (0 : Int32).toInt = 0 := rfl
  have e1 : (255 : Int32).toInt = 255 := rfl
  obtain ⟨k, hk⟩ : ∃ k : Nat, x.toInt = k := ⟨x.toInt.toNat, by omega⟩
  have hx : x = Int32.ofNat k := Int32.toInt_inj.mp (by rw [hk, Int32.toInt_ofNat_small (by omega)])
  rw [hx]
  exact t ⟨k, by omega⟩
end StrChars
namespace StrChars.Road
open Jvm Sem ClassFile Op Lib Jvm.Stand Jvm.Free Jvm.Free.XT
open Jvm.Lib.Cold (StaticIs)
abbrev ST : String := "java/lang/String"
/-- every table word that New1's law asks, flat -/
abbrev words : List Jvm.Cond := [.code New1.yN New1.yB 2 none, .initialized ST, .methodLink ST 27 New4.yN, .instanceMethod New4.yN,
  .code New4.yN New4.yB 6 none, .fieldLink ST 38 ST "COMPACT_STRINGS" "Z", .laysFinal ST ST "value" "[B", .fieldLink ST 9 ST "value" "[B", .laysFinal ST ST "coder" "B", .fieldLink ST 15 ST "coder" "B",
  .methodLink ST 1 Lib.objectInit, .instanceMethod Lib.objectInit, .code Lib.objectInit ⟨#[0xb1]⟩ 1 none, .methodLink ST 177 Cmp3.yN, .static Cmp3.yN, .methodLink ST 47 CodL.yN, .static CodL.yN,
  .code Cmp3.yN Cmp3.yB 6 (some (.array .byte)), .initialized U16, .arrayClass .byte, .methodLink U16 115 Cmp5.yN, .static Cmp5.yN, .code Cmp5.yN Cmp5.yB 7 (some .int), .code CodL.yN CodL.yB 2 (some .byte)]
theorem tab_of {a : Array Value} {s : State} (h : ∀ w ∈ words, w.before a s = true) : New1.tab.before a s = true := by
  have h5 : Cmp5.tab.before a s = true := unparts (wk h (.code Cmp5.yN Cmp5.yB 7 (some .int))) (wks h (.initialized Cmp5.yN.cls :: Cmp5.site))
  have hc : CodL.tab.before a s = true := unparts (wk h (.code CodL.yN CodL.yB 2 (some .byte))) (wks h (.initialized CodL.yN.cls :: CodL.site))
  have q5 : ∀ w ∈ Cmp5.tab :: words, w.before a s = true := fun w hw => (List.mem_cons.mp hw).elim (fun e => e ▸ h5) (h w)
  have h3 : Cmp3.tab.before a s = true := unparts (wk q5 (.code Cmp3.yN Cmp3.yB 6 (some (.array .byte)))) (wks q5 (.initialized Cmp3.yN.cls :: Cmp3.site))
  have q3 : ∀ w ∈ Cmp3.tab :: CodL.tab :: words, w.before a s = true := fun w hw => (List.mem_cons.mp hw).elim (fun e => e ▸ h3) fun hw => (List.mem_cons.mp hw).elim (fun e => e ▸ hc) (h w)
  have h4 : New4.tab.before a s = true := unparts (wk q3 (.code New4.yN New4.yB 6 none)) (wks q3 (.initialized New4.yN.cls :: New4.site))
  have q4 : ∀ w ∈ New4.tab :: words, w.before a s = true := fun w hw => (List.mem_cons.mp hw).elim (fun e => e ▸ h4) (h w)
  exact unparts (wk q4 (.code New1.yN New1.yB 2 none)) (wks q4 (.initialized New1.yN.cls :: New1.site))
/-- the words ride from the start Z to the walk's own state -/
theorem moved {Z s : State} {a0 args : Array Value} (hZ : Z.Warmed39 s.vm) (hw : ∀ d ∈ words, d.before a0 Z = true) : ∀ d ∈ words, d.before args s = true := fun d hd => by
  have q := hw d hd
  have t : ∀ d ∈ words, d = .arrayClass .byte ∨ (d.onTables && d.keepsFace) = true := by decide +kernel
  rcases t d hd with rfl | t
  · exact RoadKit.mvA hZ q
  · exact RoadKit.mv hZ q t
/-- WHAT COMES BACK, over the tables of the start Z: h the heap at the call, h' behind it -/
def Q (Z : State) (x : Addr) (A : Cell) (h : Heap) (v : Option Value) (h' : Heap) (L : List Loc) : Prop := v = none ∧ (∀ y ∈ L, y.base = x) ∧ RoadKit.Keep h h' [x] ∧ h'.size = h.size + 1 ∧ RoadKit.Exa Z h' x ST ∧ RoadKit.Fld Z h' x ST "value" "[B" (.ref h.size) ∧ RoadKit.Fld Z h' x ST "coder" "B" (.int 0) ∧
  (∃ V : Cell, RoadKit.Arr Z h' h.size V .byte ∧ V.vm = .none ∧ Z.vm.findClass "[B" = some V.cls ∧ V.slots.size = A.slots.size ∧ ∀ j, j < A.slots.size → V.slots[j]? = some (.int (lo8 (cv A j)))) ∧
  ∀ (O n d : String) (w : Value), RoadKit.Fld Z h x O n d w → RoadKit.slotOf Z O n d ≠ RoadKit.slotOf Z ST "value" "[B" → RoadKit.slotOf Z O n d ≠ RoadKit.slotOf Z ST "coder" "B" → RoadKit.Fld Z h' x O n d w
/-- **new String(chars) AT A CALL, IN THE ROAD'S FORM**: for specialBack behind newO: x the fresh String, b the char[] with the cell A -/
theorem back {p : Program} {l : Launch} {e : Env} {R : Room} {s : State} {args : Array Value} {below : List Frame} {len W : Nat} {Z : State} {a0 : Array Value} {h : Heap} (hZ : Z.Warmed39 s.vm) (hw : ∀ d ∈ words, d.before a0 Z = true) {kI : Nat} (wi : (Jvm.Cond.instantiable ST kI).before a0 Z = true)
    {x b : Addr} {A : Cell} {z : Int32} {v0 c0 : Value} (E : RoadKit.Exa Z h x ST) (V : RoadKit.Fld Z h x ST "value" "[B" v0) (C : RoadKit.Fld Z h x ST "coder" "B" c0) (K : RoadKit.Arr Z h b A .char) (hty : Typed .char A) (S : RoadKit.Sta Z h ST "COMPACT_STRINGS" "Z" (.int z)) (hz : ¬ z = 0)
    (l0 : 0 < A.slots.size) (l2 : A.slots.size ≤ 536870912) (hp : ∀ i, i < A.slots.size → ¬ 255 < cv A i) (hfr : 4 ≤ R.frames) (hlo : W + 65 ≤ R.locals) :
    Back l R p e below s args New1.yN len W (fun P a => a = #[.ref x, .ref b] ∧ P.U.heap = h ∧ P.cells + 1 ≤ R.cells ∧ P.slots + A.slots.size ≤ R.slots)
      (fun P _ v B => ∃ L, Q Z x A h v B.U.heap L ∧ B.locs = P.locs ++ L ∧ B.cells = P.cells + 1 ∧ B.slots = P.slots + A.slots.size) := by
  intro m meth c P g ig mk a X hg hsize hdg hW hn hp'
  obtain ⟨rfl, rfl, r1, r2⟩ := hp'
  have al : Z.vm.Alike P.U.vm := hZ.alike.trans X.warmed.alike
  obtain ⟨D, cfV, kV, iV, fV, hD, gV, stV, knV, obV, asV, slV⟩ := id V
  obtain ⟨D', cfC, kC, iC, fC, hD', gC, stC, -, -, asC, slC⟩ := id C
  cases hD.symm.trans hD'
  obtain ⟨D2, kD, e1, e2, e3, e4, e5⟩ := id E
  cases hD.symm.trans e1
  obtain ⟨c2, k2, i1, i2, i3, -⟩ := Cond.instantiable_spec wi
  cases e2.symm.trans i1
  cases e3.symm.trans i2
  obtain ⟨kU, u1, u2⟩ := al.2.2 _ _ e3
  have hB : Blank ST x D P.U := ⟨hD, ⟨knV, fun q hq => by rw [hq] at obV; cases obV⟩, by rw [al.findClass]; exact e2, kU, u1, by rw [u2]; exact i3, by rw [u2]; exact e5 i3⟩
  have F1 : Found ST "value" "[B" fV P.U := ⟨SBG.found_only al ⟨cfV, kV, iV, gV⟩, stV⟩
  have F2 : Found ST "coder" "B" fC P.U := ⟨SBG.found_only al ⟨cfC, kC, iC, gC⟩, stC⟩
  have hA : Ch b A P.U := ⟨⟨K.1, State.isArrayOf_alike al K.2.1, K.2.2, by omega⟩, hty⟩
  have hS : StaticIs P.U ST "COMPACT_STRINGS" "Z" (.int z) := by
    obtain ⟨cfS, iS, kS, fS, st, cS, t1, t2, t3, t4, t5, t6, t7⟩ := S
    exact StaticIs.there (s := { Z with heap := P.U.heap }) ⟨cfS, iS, kS, fS, st, cS, t1, t2, t3, t4, t5, (fun q => by rw [q] at t6; cases t6), t7⟩ al rfl
  obtain ⟨v, B, X', ⟨⟨hv, E', V', q1, q2, q3, q4, q5, q6, q7, q8, q9, q10, q11⟩, hl, hc, hs⟩, st⟩ := New1.pays x D fV fC b A z (tab_of (moved hZ hw)) hfr hlo m meth c P g ig mk _ X hg hsize hdg hW hn ⟨r1, r2, rfl, hB, F1, F2, hA, hS, hz, l0, l2, hp⟩
  have al' : Z.vm.Alike B.U.vm := hZ.alike.trans X'.warmed.alike
  have hsz : E'.slots.size = D.slots.size := by
    obtain ⟨-, -, -, kB, w1, w2, w3⟩ := q1
    obtain ⟨kB', y1, y2⟩ := al'.2.2 _ _ e3
    rw [q2.2.1] at w1
    cases w1.symm.trans y1
    rw [w3, e5 i3, y2]
  refine ⟨v, B, X', ⟨_, ⟨hv, ?_, ⟨by omega, fun y cy hy hn' => q10 y cy (by simpa using hn') hy, fun y cy hy => ?_⟩, q11, ⟨E', _, q1.1, by rw [q2.2.1]; exact e2, by rw [q2.2.1]; exact e3, by rw [q2.1]; exact obV, fun _ => by rw [hsz]; exact e5 i3⟩,
    ⟨E', cfV, kV, iV, fV, q1.1, gV, stV, by rw [q2.1]; exact knV, by rw [q2.1]; exact obV, by rw [q2.2.1]; exact asV, q3⟩, ⟨E', cfC, kC, iC, fC, q1.1, gC, stC, by rw [q2.1]; exact knV, by rw [q2.1]; exact obV, by rw [q2.2.1]; exact asC, q4⟩,
    ⟨V', ⟨q5.1, State.isArrayOf_alike al'.symm q5.2.1, q5.2.2.1⟩, q6, by rw [← al'.findClass]; exact q7, q8, fun j hj => by have := q9 j hj; rwa [Nat.zero_add] at this⟩, fun O n d w F n1 n2 => ?_⟩, hl, hc, hs⟩, st⟩
  · intro y hy
    simp only [List.mem_cons, List.not_mem_nil, or_false] at hy
    rcases hy with rfl | rfl <;> rfl
  · by_cases q : y = x
    · subst q
      cases hD.symm.trans hy
      exact ⟨E', q1.1, q2.2.1, q2.1, hsz⟩
    · exact ⟨cy, q10 y cy q hy, rfl, rfl, rfl⟩
  · obtain ⟨D3, cf, k, i, f, g1, g2, g3, g4, g5, g6, g7⟩ := F
    cases hD.symm.trans g1
    simp only [RoadKit.slotOf, g2, gV, gC, Option.map_some, Option.getD_some] at n1 n2
    exact ⟨E', cf, k, i, f, q1.1, g2, g3, by rw [q2.1]; exact g4, by rw [q2.1]; exact g5, by rw [q2.2.1]; exact g6, by rw [q2.2.2 f.slot (by simp [n1, n2])]; exact g7⟩
end StrChars.Road
namespace StrChars.Road
open Jvm Sem ClassFile Op Lib Jvm.Stand Jvm.Free Jvm.Free.XT
/-- WHAT COMES BACK, the byte[] as a list of values -/
def QA (Z : State) (x : Addr) (zn : Int32) (cs : List Int32) (h : Heap) (v : Option Value) (h' : Heap) (L : List Loc) : Prop := v = none ∧ (∀ y ∈ L, y.base = x) ∧ RoadKit.Keep h h' [x] ∧ h'.size = h.size + 1 ∧ RoadKit.Exa Z h' x ST ∧ RoadKit.Fld Z h' x ST "value" "[B" (.ref h.size) ∧ RoadKit.Fld Z h' x ST "coder" "B" (.int 0) ∧
  (∃ kb, Z.vm.findClass "[B" = some kb ∧ RoadKit.Arv Z h' h.size kb .byte zn (cs.map fun c => .int (lo8 c)) (.int 0)) ∧
  ∀ (O n d : String) (w : Value), RoadKit.Fld Z h x O n d w → RoadKit.slotOf Z O n d ≠ RoadKit.slotOf Z ST "value" "[B" → RoadKit.slotOf Z O n d ≠ RoadKit.slotOf Z ST "coder" "B" → RoadKit.Fld Z h' x O n d w
/-- **new String(chars) AT A CALL, THE ARRAYS AS LISTS**: the char[] at b holds cs, not empty, no char above 255 -/
theorem backArv {p : Program} {l : Launch} {e : Env} {R : Room} {s : State} {args : Array Value} {below : List Frame} {len W : Nat} {Z : State} {a0 : Array Value} {h : Heap} (hZ : Z.Warmed39 s.vm) (hw : ∀ d ∈ words, d.before a0 Z = true) {kI : Nat} (wi : (Jvm.Cond.instantiable ST kI).before a0 Z = true)
    {x b : Addr} {k : ClassId} {zn z : Int32} {cs : List Int32} {dv v0 c0 : Value} (E : RoadKit.Exa Z h x ST) (V : RoadKit.Fld Z h x ST "value" "[B" v0) (C : RoadKit.Fld Z h x ST "coder" "B" c0) (K : RoadKit.Arv Z h b k .char zn (cs.map Value.int) dv) (S : RoadKit.Sta Z h ST "COMPACT_STRINGS" "Z" (.int z)) (hz : ¬ z = 0)
    (hlen : zn.toNatClampNeg = cs.length) (h0 : 0 < cs.length) (hbig : cs.length ≤ 536870912) (hall : ∀ c ∈ cs, ¬ 255 < c) (hfr : 4 ≤ R.frames) (hlo : W + 65 ≤ R.locals) :
    Back l R p e below s args New1.yN len W (fun P a => a = #[.ref x, .ref b] ∧ P.U.heap = h ∧ P.cells + 1 ≤ R.cells ∧ P.slots + cs.length ≤ R.slots)
      (fun P _ v B => ∃ L, QA Z x zn cs h v B.U.heap L ∧ B.locs = P.locs ++ L ∧ B.cells = P.cells + 1 ∧ B.slots = P.slots + cs.length) := by
  obtain ⟨A, K1, K2, K3, K4, K5, K6⟩ := K
  have e : A.slots.size = cs.length := K3.trans hlen
  have hat : ∀ (i : Nat) (hi : i < cs.length), A.slots[i]? = some (.int cs[i]) := fun i hi => by rw [K5 i (by omega)]; simp [List.getD_eq_getElem?_getD, hi]
  have hcv : ∀ (i : Nat) (hi : i < cs.length), cv A i = cs[i] := fun i hi => by unfold cv; rw [hat i hi]
  have hty : Typed .char A := fun i v hv => by
    have hi : i < A.slots.size := (Array.getElem?_eq_some_iff.mp hv).1
    have q := K5 i hi
    rw [hv] at q
    rw [Option.some.inj q]
    exact K6 i hi
  refine Back.mono (back hZ hw wi E V C K1 hty S hz (by omega) (by omega) (fun i hi => by rw [hcv i (by omega)]; exact hall _ (List.getElem_mem _)) hfr hlo) (fun P a hp => ⟨hp.1, hp.2.1, hp.2.2.1, by rw [e]; exact hp.2.2.2⟩) (fun P a v B hp hq => ?_)
  obtain ⟨L, ⟨q1, q2, q3, q4, q5, q6, q7, ⟨V', v1, v2, v3, v4, v5⟩, q9⟩, hl, hc, hs⟩ := hq
  refine ⟨L, ⟨q1, q2, q3, q4, q5, q6, q7, ⟨V'.cls, v3, V', v1, rfl, by rw [v4, e, hlen], K4, fun i hi => ?_, fun i hi => ?_⟩, q9⟩, hl, hc, by rw [hs, e]⟩
  · have hi' : i < cs.length := by omega
    rw [v5 i (by omega), hcv i hi']; simp [List.getD_eq_getElem?_getD, hi']
  · have hi' : i < cs.length := by omega
    simp only [List.getD_eq_getElem?_getD, List.getElem?_map, List.getElem?_eq_getElem hi', Option.map_some, Option.getD_some]
    exact fits_lo8 _
end StrChars.Road
namespace StrChars.Road
open Jvm Sem ClassFile Op Lib Jvm.Stand Jvm.Free Jvm.Free.XT
/-- WHAT COMES BACK, in the writer's own shape -/
def QV (Z : State) (x : Addr) (N : Int32) (bs : List Int32) (h : Heap) (n0 : Nat) (v : Option Value) (h' : Heap) (L : List Loc) : Prop := v = none ∧ RoadKit.Fr n0 L ∧ RoadKit.Keep h h' [x] ∧ RoadKit.Exa Z h' x ST ∧ RoadKit.Fld Z h' x ST "coder" "B" (.int 0) ∧
  ∃ (t : Addr) (kb : ClassId), n0 ≤ t ∧ h.size ≤ t ∧ ¬ t = x ∧ RoadKit.Fld Z h' x ST "value" "[B" (.ref t) ∧ RoadKit.Arv Z h' t kb .byte N (bs.map Value.int) (.int 0)
/-- **new String(chars) AT A CALL, FOR THE WRITER**: a char[] of n known ints, each 0 to 255 -/
theorem backV {p : Program} {l : Launch} {e : Env} {R : Room} {s : State} {args : Array Value} {below : List Frame} {len W : Nat} {Z : State} {a0 : Array Value} {h : Heap} (hZ : Z.Warmed39 s.vm) (hw : ∀ d ∈ words, d.before a0 Z = true) {kI : Nat} (wi : (Jvm.Cond.instantiable ST kI).before a0 Z = true)
    {x b : Addr} {kC : ClassId} {cs bs : List Int32} {d v0 c0 : Value} {z N : Int32} {n n0 : Nat} (hx0 : n0 ≤ x) (hh0 : n0 ≤ h.size) (E : RoadKit.Exa Z h x ST) (V : RoadKit.Fld Z h x ST "value" "[B" v0) (C : RoadKit.Fld Z h x ST "coder" "B" c0) (K : RoadKit.Arv Z h b kC .char N (cs.map Value.int) d) (S : RoadKit.Sta Z h ST "COMPACT_STRINGS" "Z" (.int z)) (hz : ¬ z = 0)
    (hn : cs.length = n) (hN : N = Int32.ofNat n) (l0 : 0 < n) (l2 : n ≤ 4000) (hp : ∀ c ∈ cs, ¬ c < 0 ∧ ¬ (255 : Int32) < c) (hb : bs = cs.map (fun c => c.toInt8.toInt32)) (hfr : 4 ≤ R.frames) (hlo : W + 65 ≤ R.locals) :
    Back l R p e below s args (⟨"java/lang/String", "<init>", "([C)V"⟩ : MethodName) len W (fun P a => a = #[.ref x, .ref b] ∧ P.U.heap = h ∧ P.cells + 1 ≤ R.cells ∧ P.slots + n ≤ R.slots)
      (fun P _ v B => ∃ L, QV Z x N bs h n0 v B.U.heap L ∧ B.locs = P.locs ++ L ∧ B.cells = P.cells + 1 ∧ B.slots = P.slots + n) := by
  subst hn hN hb
  refine Back.mono (backArv hZ hw wi E V C K S hz (n32 (by omega)) l0 (by omega) (fun c hc => (hp c hc).2) hfr hlo) (fun P a hp => hp) (fun P a v B hp hq => ?_)
  obtain ⟨L, ⟨q1, q2, q3, q4, q5, q6, q7, ⟨kb, v1, v2⟩, q9⟩, hl, hc, hs⟩ := hq
  exact ⟨L, ⟨q1, fun y hy => by rw [q2 y hy]; exact hx0, q3, q5, q7, h.size, kb, hh0, Nat.le_refl _, Nat.ne_of_gt E.lt, q6, by rw [List.map_map]; exact v2⟩, hl, hc, hs⟩
end StrChars.Road
namespace StrChars
open Jvm Sem ClassFile Op Lib Jvm.Stand Jvm.Free.XT Jvm.Free.ALB Jvm.Free.JM Jvm.Free
open Jvm.Lib.Cold (StaticIs)
def hi8 (x : Int32) : Int32 := lo8 (x >>> ((8 : Int32) &&& 31))
/-- what StringUTF16.getChar makes of two bytes -/
def pairCh (u v : Int32) : Int32 := (((u &&& 255) <<< ((0 : Int32) &&& 31)) ||| ((v &&& 255) <<< ((8 : Int32) &&& 31))).toUInt32.toUInt16.toUInt32.toInt32
theorem shr0 (c : Int32) : c >>> ((0 : Int32) &&& 31) = c := by
  have e : ((0 : Int32) &&& 31) = 0 := by decide
  rw [e]
  apply Int32.toBitVec_inj.mp
  rw [Int32.toBitVec_shiftRight]
  have e1 : ((0 : Int32).toBitVec.smod 32) = 0#32 := by decide
  rw [e1, BitVec.sshiftRight_eq']
  exact BitVec.sshiftRight_zero
theorem lo8_and (x : Int32) : (lo8 x &&& 255).toBitVec.toNat = x.toBitVec.toNat % 256 := by
  have h : (lo8 x).toBitVec = (x.toBitVec.signExtend 8).signExtend 32 := by rw [lo8, Int8.toBitVec_toInt32, Int32.toBitVec_toInt8]
  rw [Int32.toBitVec_and, BitVec.toNat_and, h]
  have e : ((x.toBitVec.signExtend 8).signExtend 32).toNat % 256 = x.toBitVec.toNat % 256 := by
    rw [BitVec.toNat_signExtend]
    have hlt := x.toBitVec.isLt
    simp only [BitVec.toNat_setWidth, BitVec.toNat_signExtend]
    split <;> split <;> omega
  rw [← e]
  exact Nat.and_two_pow_sub_one_eq_mod _ 8
theorem pair_says {c : Int32} (h0 : ¬ c < 0) (h1 : ¬ 65535 < c) : pairCh (lo8 c) (hi8 c) = c := by
  rw [Int32.lt_iff_toInt_lt] at h0 h1
  have e0 : (0 : Int32).toInt = 0 := rfl
  have e1 : (65535 : Int32).toInt = 65535 := rfl
  have hc : c.toInt = c.toBitVec.toNat := by
    have := c.toBitVec.isLt
    have e : c.toInt = c.toBitVec.toInt := rfl
    rw [e] at h0 h1
    rw [e]
    rw [BitVec.toInt_eq_toNat_cond] at h0 h1 ⊢
    split at h0 <;> split <;> omega
  have hn : c.toBitVec.toNat < 65536 := by omega
  have a1 := lo8_and c
  have a2 : (hi8 c &&& 255).toBitVec.toNat = c.toBitVec.toNat / 256 := by
    rw [hi8, lo8_and]
    have e : ((8 : Int32) &&& 31) = 8 := by decide
    rw [e, Int32.toBitVec_shiftRight]
    have e2 : ((8 : Int32).toBitVec.smod 32) = 8#32 := by decide
    rw [e2, BitVec.sshiftRight_eq', BitVec.toNat_sshiftRight_of_msb_false (by rw [BitVec.msb_eq_false_iff_two_mul_lt]; omega)]
    show c.toBitVec.toNat >>> 8 % 256 = _
    rw [Nat.shiftRight_eq_div_pow]
    omega
  unfold pairCh
  apply Int32.toBitVec_inj.mp
  apply BitVec.eq_of_toNat_eq
  have f0 : ((0 : Int32) &&& 31) = 0 := by decide
  have f8 : ((8 : Int32) &&& 31) = 8 := by decide
  rw [f0, f8]
  have g : (((lo8 c &&& 255) <<< (0 : Int32)) ||| ((hi8 c &&& 255) <<< (8 : Int32))).toBitVec.toNat = c.toBitVec.toNat := by
    rw [Int32.toBitVec_or, Int32.toBitVec_shiftLeft, Int32.toBitVec_shiftLeft]
    have s0 : ((0 : Int32).toBitVec.smod 32) = 0#32 := by decide
    have s8 : ((8 : Int32).toBitVec.smod 32) = 8#32 := by decide
    rw [s0, s8, BitVec.toNat_or]
    simp only [BitVec.shiftLeft_eq', BitVec.toNat_shiftLeft, a1, a2]
    show (c.toBitVec.toNat % 256) <<< 0 % 2 ^ 32 ||| (c.toBitVec.toNat / 256) <<< 8 % 2 ^ 32 = _
    rw [Nat.shiftLeft_zero, Nat.mod_eq_of_lt (show c.toBitVec.toNat % 256 < 2 ^ 32 by omega), Nat.mod_eq_of_lt (show (c.toBitVec.toNat / 256) <<< 8 < 2 ^ 32 by rw [Nat.shiftLeft_eq]; omega), Nat.or_comm, ← Nat.shiftLeft_add_eq_or_of_lt (by omega), Nat.shiftLeft_eq]
    omega
  show BitVec.toNat (((((lo8 c &&& 255) <<< (0 : Int32)) ||| ((hi8 c &&& 255) <<< (8 : Int32))).toBitVec.setWidth 16).setWidth 32) = _
  rw [BitVec.toNat_setWidth, BitVec.toNat_setWidth, g]
  omega
end StrChars
namespace StrChars
open Jvm Sem ClassFile Op Lib Jvm.Stand Jvm.Free.XT Jvm.Free.ALB Jvm.Free.JM Jvm.Free
open Jvm.Lib.Cold (StaticIs)
theorem shr1 {n : Nat} (h : 2 * n < 2 ^ 31) : Int32.ofNat (2 * n) >>> ((1 : Int32) &&& 31) = Int32.ofNat n := by
  have e : ((1 : Int32) &&& 31) = 1 := by decide
  rw [e]
  apply Int32.toBitVec_inj.mp
  rw [Int32.toBitVec_shiftRight]
  have e1 : ((1 : Int32).toBitVec.smod 32) = 1#32 := by decide
  have hm : (BitVec.ofNat 32 (2 * n)).toNat = 2 * n := by rw [BitVec.toNat_ofNat, Nat.mod_eq_of_lt (by omega)]
  rw [e1, BitVec.sshiftRight_eq']
  apply BitVec.eq_of_toNat_eq
  show ((BitVec.ofNat 32 (2 * n)).sshiftRight 1).toNat = (BitVec.ofNat 32 n).toNat
  rw [BitVec.toNat_sshiftRight_of_msb_false (by rw [BitVec.msb_eq_false_iff_two_mul_lt, hm]; omega), hm, BitVec.toNat_ofNat, Nat.shiftRight_eq_div_pow]
  omega
/-- the array's cell V codes the n chars f 0 .. f (n - 1) by the coder cd, as the JDK does: coder 1 just where some char is above 255 -/
def Cod (cd : Int32) (n : Nat) (f : Nat → Int32) (V : Cell) : Prop := (cd = 0 ∧ V.slots.size = n ∧ ∀ j, j < n → V.slots[j]? = some (.int (lo8 (f j))) ∧ ¬ 255 < f j) ∨ (cd = 1 ∧ V.slots.size = 2 * n ∧ (∀ j, j < n → V.slots[2 * j]? = some (.int (lo8 (f j))) ∧ V.slots[2 * j + 1]? = some (.int (hi8 (f j)))) ∧ ∃ j, j < n ∧ 255 < f j)
theorem Cod.cd {cd : Int32} {n : Nat} {f : Nat → Int32} {V : Cell} (h : Cod cd n f V) : cd = 0 ∨ cd = 1 := h.imp (fun q => q.1) fun q => q.1
theorem Cod.len {cd : Int32} {n : Nat} {f : Nat → Int32} {V : Cell} (h : Cod cd n f V) (hs : V.slots.size < 2 ^ 31) : Int32.ofNat V.slots.size >>> (cd &&& 31) = Int32.ofNat n := by
  rcases h with ⟨rfl, h, -⟩ | ⟨rfl, h, -⟩
  · rw [shr0, h]
  · rw [h, shr1 (by omega)]
/-- **x is a String of the n chars f 0 .. f (n - 1)**, Latin-1 or UTF-16; its array at t has the cell V -/
def Txt (x t : Addr) (V : Cell) (cd : Int32) (n : Nat) (f : Nat → Int32) (U : State) : Prop := Exact "java/lang/String" x U ∧ Has x "java/lang/String" "value" "[B" (.ref t) U ∧ Has x "java/lang/String" "coder" "B" (.int cd) U ∧ XT.Arr .byte t V U ∧ Cod cd n f V ∧ ∀ j, j < n → ¬ f j < 0 ∧ ¬ 65535 < f j
theorem Txt.mv {x t : Addr} {V : Cell} {cd : Int32} {n : Nat} {f : Nat → Int32} {U U' : State} (h : Txt x t V cd n f U) (hal : U.vm.Alike U'.vm) (hh : U'.heap = U.heap) : Txt x t V cd n f U' := ⟨h.1.mv hal hh, h.2.1.mv hal hh, h.2.2.1.mv hal hh, h.2.2.2.1.mv hal hh, h.2.2.2.2⟩
namespace Cdr
def yN : MethodName := ⟨"java/lang/String", "coder", "()B"⟩
abbrev yB : ByteArray := jdk_42_method_152_code
theorem d0 : decode yB 0 = .ok (.getstatic 38, 3) := by decide +kernel
theorem d3 : decode yB 3 = .ok (.ifCond (.eq) 10, 3) := by decide +kernel
theorem d6 : decode yB 6 = .ok (.aload_n 0, 1) := by decide +kernel
theorem d7 : decode yB 7 = .ok (.getfield 15, 3) := by decide +kernel
theorem d10 : decode yB 10 = .ok (.goto 4, 3) := by decide +kernel
theorem d14 : decode yB 14 = .ok (.ireturn, 1) := by decide +kernel
def site : List Cond := [.fieldLink "java/lang/String" 38 "java/lang/String" "COMPACT_STRINGS" "Z", .fieldLink "java/lang/String" 15 "java/lang/String" "coder" "B"]
def tab : Cond := tabOf yN yB 1 (some .byte) site
def P (x : Addr) (cd z : Int32) (args : Array Value) (s : State) : Prop := args = #[.ref x] ∧ Has x "java/lang/String" "coder" "B" (.int cd) s ∧ (cd = 0 ∨ cd = 1) ∧ StaticIs s "java/lang/String" "COMPACT_STRINGS" "Z" (.int z) ∧ ¬ z = 0
def E (cd : Int32) (r : Option Value) (s u : State) : Prop := XT.PureE (some (.int cd)) r s u
theorem law (l : Launch) (x : Addr) (cd z : Int32) : Law l yN 1 0 0 0 yB 1 (some .byte) site (P x cd z) (E cd) [] 0 0 := by
  refine Law.of_walk (plainFor_of_name (by decide +kernel)) (by decide +kernel) (by decide +kernel) (by decide) (fun _ _ h => by rw [h.1]; rfl) (fun _ U U' hal hh h => ⟨h.1, h.2.1.mv hal hh, h.2.2.1, h.2.2.2.1.there hal hh, h.2.2.2.2⟩) (fun r U U' V V' h1 hal h2 h => XT.PureE.mv r U U' V V' h1 hal h2 h) ?_
  intro p e s m args below meth c s₁ X0 hexec hbytes hml hret hlk hnm hown hh0 W hP
  obtain ⟨rfl, hx, hc, s1, hz⟩ := hP
  have c1 : Steps p.tables e below (s₁.setTop (entryFrame m #[.ref x] 1)) (s₁.setTop (mkF m 0 #[.val (.ref x)] [])) := entry rfl
  obtain ⟨T2, X2, q2, st2⟩ := X0.sget hexec hown (wk W (.fieldLink "java/lang/String" 38 "java/lang/String" "COMPACT_STRINGS" "Z")) s1 (fun _ _ h => by rw [hh0]; exact h) (g := (mkF m 0 #[.val (.ref x)] [])) rfl (hb hbytes d0)
  have hh2 := q2.trans hh0
  have c3 : Steps p.tables e below (s₁.setTop (entryFrame m #[.ref x] 1)) (T2.setTop (mkF m 7 #[.val (.ref x)] [.ref x])) := (c1.trans (st2 _ (Steps.refl _))).trans (by
    refine XS.ifNo X2.here hexec rfl (hb hbytes d3) rfl (i0_eq_f hz) ?_
    refine XS.aloadN X2.here hexec rfl (hb hbytes d6) rfl rfl ?_
    exact Steps.refl _)
  obtain ⟨T4, X4, q4, st4⟩ := X2.hget hexec hown (wk W (.fieldLink "java/lang/String" 15 "java/lang/String" "coder" "B")) (hx.mv X2.warmed.alike hh2) (g := (mkF m 7 #[.val (.ref x)] [.ref x])) rfl (rest := []) rfl (hb hbytes d7)
  have c5 : Steps p.tables e below (s₁.setTop (entryFrame m #[.ref x] 1)) (T4.setTop (mkF m 14 #[.val (.ref x)] [.int cd])) := (c3.trans (st4 _ (Steps.refl _))).trans (by
    refine XS.goto X4.here hexec rfl (pc0 := 10) rfl (hb hbytes d10) (by decide) rfl ?_
    exact Steps.refl _)
  exact ⟨T4, some (.int cd), _, _, _, X4, rfl, rfl, rfl, (fun h => by cases h), ⟨rfl, q4.trans hh2⟩, fun fs hl => c5.trans (X4.ireturnOut hexec hret (by rcases hc with rfl | rfl <;> rfl) (Or.inr (Or.inr (Or.inl rfl))) (hb hbytes d14) hl)⟩
end Cdr
namespace Len
def yN : MethodName := ⟨"java/lang/String", "length", "()I"⟩
abbrev yB : ByteArray := jdk_42_method_54_code
theorem d0 : decode yB 0 = .ok (.aload_n 0, 1) := by decide +kernel
theorem d1 : decode yB 1 = .ok (.getfield 9, 3) := by decide +kernel
theorem d4 : decode yB 4 = .ok (.arraylength, 1) := by decide +kernel
theorem d5 : decode yB 5 = .ok (.aload_n 0, 1) := by decide +kernel
theorem d6 : decode yB 6 = .ok (.invokevirtual 335, 3) := by decide +kernel
theorem d9 : decode yB 9 = .ok (.ishr, 1) := by decide +kernel
theorem d10 : decode yB 10 = .ok (.ireturn, 1) := by decide +kernel
def site : List Cond := [.fieldLink "java/lang/String" 9 "java/lang/String" "value" "[B", Cdr.tab] ++ virtW "java/lang/String" 335 "java/lang/String" Cdr.yN Cdr.yN
def tab : Cond := tabOf yN yB 1 (some .int) site
def P (x t : Addr) (V : Cell) (cd : Int32) (n : Nat) (f : Nat → Int32) (z : Int32) (args : Array Value) (s : State) : Prop := args = #[.ref x] ∧ Txt x t V cd n f s ∧ StaticIs s "java/lang/String" "COMPACT_STRINGS" "Z" (.int z) ∧ ¬ z = 0
def E (n : Nat) (r : Option Value) (s u : State) : Prop := XT.PureE (some (.int (Int32.ofNat n))) r s u
/-- length() of a String of n chars, in either coding -/
theorem law (l : Launch) (x t : Addr) (V : Cell) (cd : Int32) (n : Nat) (f : Nat → Int32) (z : Int32) : Law l yN 1 0 1 13 yB 1 (some .int) site (P x t V cd n f z) (E n) [] 0 0 := by
  refine Law.of_walk (plainFor_of_name (by decide +kernel)) (by decide +kernel) (by decide +kernel) (by decide) (fun _ _ h => by rw [h.1]; rfl) (fun _ U U' hal hh h => ⟨h.1, h.2.1.mv hal hh, h.2.2.1.there hal hh, h.2.2.2⟩) (fun r U U' V V' h1 hal h2 h => XT.PureE.mv r U U' V V' h1 hal h2 h) ?_
  intro p e s m args below meth c s₁ X0 hexec hbytes hml hret hlk hnm hown hh0 W hP
  obtain ⟨rfl, hx, s1, hz⟩ := hP
  have v31 := hx.2.2.2.1.2.2.2
  have c1 : Steps p.tables e below (s₁.setTop (entryFrame m #[.ref x] 1)) (s₁.setTop (mkF m 1 #[.val (.ref x)] [.ref x])) := Steps.trans (entry rfl) (by
    show Steps p.tables e below (s₁.setTop (mkF m 0 #[.val (.ref x)] [])) _
    refine XS.aloadN X0.here hexec rfl (hb hbytes d0) rfl rfl ?_
    exact Steps.refl _)
  obtain ⟨T2, X2, q2, st2⟩ := X0.hget hexec hown (wk W (.fieldLink "java/lang/String" 9 "java/lang/String" "value" "[B")) (hx.mv X0.warmed.alike hh0).2.1 (g := (mkF m 1 #[.val (.ref x)] [.ref x])) rfl (rest := []) rfl (hb hbytes d1)
  have hh2 := q2.trans hh0
  have hx2 := hx.mv X2.warmed.alike hh2
  have c3 : Steps p.tables e below (s₁.setTop (entryFrame m #[.ref x] 1)) (T2.setTop (mkF m 6 #[.val (.ref x)] [.ref x, .int (Int32.ofNat V.slots.size)])) := (c1.trans (st2 _ (Steps.refl _))).trans (by
    refine X2.alen hexec hx2.2.2.2.1 rfl rfl (hb hbytes d4) ?_
    refine XS.aloadN X2.here hexec rfl (hb hbytes d5) rfl rfl ?_
    exact Steps.refl _)
  obtain ⟨v4, T4, X4, E4, g4⟩ := X2.callV hexec (Cdr.law l x cd z) hown (wks W (virtW "java/lang/String" 335 "java/lang/String" Cdr.yN Cdr.yN)) rfl (by decide) (wk W Cdr.tab) (W := 1) (Nat.le_of_ble_eq_true rfl) (Nat.le_of_ble_eq_true rfl) (Nat.le_refl _) (Nat.le_refl _) (hx2.1.fc X2.warmed.alike) hx2.1.is (g := (mkF m 6 #[.val (.ref x)] [.ref x, .int (Int32.ofNat V.slots.size)])) rfl (by rw [hml]; rfl) c3 (argsL := []) (rest := [.int (Int32.ofNat V.slots.size)]) rfl rfl (by show 2 * 0 + (1 + 0) ≤ _; decide) (hb hbytes d6) (⟨rfl, hx2.2.2.1, hx.2.2.2.2.1.cd, s1.there X2.warmed.alike hh2, hz⟩)
  obtain ⟨rfl, q4⟩ := E4
  have c5 : Steps p.tables e below (s₁.setTop (entryFrame m #[.ref x] 1)) (T4.setTop (mkF m 10 #[.val (.ref x)] [.int (Int32.ofNat V.slots.size >>> (cd &&& 31))])) := Steps.trans g4 (by
    refine ishr X4.here hexec rfl (hb hbytes d9) rfl ?_
    exact Steps.refl _)
  rw [hx.2.2.2.2.1.len v31] at c5
  exact ⟨T4, some (.int (Int32.ofNat n)), _, _, _, X4, rfl, rfl, rfl, (fun h => by cases h), ⟨rfl, q4.trans hh2⟩, fun fs hl => c5.trans (X4.ireturnOut hexec hret rfl (Or.inl rfl) (hb hbytes d10) hl)⟩
theorem pays {l : Launch} {R : Room} {p : Program} {e : Env} {below : List Frame} {s : State} {sargs : Array Value} {len W : Nat} (x t : Addr) (V : Cell) (cd : Int32) (n : Nat) (f : Nat → Int32) (z : Int32) (htab : tab.before sargs s = true) (hfr : 2 ≤ R.frames) (hlo : W + 25 ≤ R.locals) :
    Back l R p e below s sargs yN len W (fun A₁ a₁ => A₁.cells + 0 ≤ R.cells ∧ A₁.slots + 0 ≤ R.slots ∧ P x t V cd n f z a₁ A₁.U) (fun A₁ _ v₁ B₁ => E n v₁ A₁.U B₁.U ∧ B₁.locs = A₁.locs ++ [] ∧ B₁.cells = A₁.cells + 0 ∧ B₁.slots = A₁.slots + 0) :=
  (law l x t V cd n f z).pays htab hfr (by omega)
end Len
end StrChars
namespace StrChars.Road
open Jvm Sem ClassFile Op Lib Jvm.Stand Jvm.Free Jvm.Free.XT
open Jvm.Lib.Cold (StaticIs)
theorem consq {a : Array Value} {s : State} {c : Jvm.Cond} {L : List Jvm.Cond} (h0 : c.before a s = true) (h : ∀ w ∈ L, w.before a s = true) : ∀ w ∈ c :: L, w.before a s = true := fun w hw => (List.mem_cons.mp hw).elim (fun e => e ▸ h0) (h w)
/-- the words of String.length(), either coding -/
abbrev wordsLen : List Jvm.Cond := [.code Len.yN Len.yB 1 (some .int), .initialized ST, .fieldLink ST 9 ST "value" "[B", .fieldLink ST 38 ST "COMPACT_STRINGS" "Z", .fieldLink ST 15 ST "coder" "B", .code Cdr.yN Cdr.yB 1 (some .byte), .methodLink ST 335 Cdr.yN, .declares Cdr.yN, .selects ST Cdr.yN Cdr.yN, .instanceMethod Cdr.yN]
theorem tabLen_of {a : Array Value} {s : State} (h : ∀ w ∈ wordsLen, w.before a s = true) : Len.tab.before a s = true := by
  have hc : Cdr.tab.before a s = true := unparts (wk h (.code Cdr.yN Cdr.yB 1 (some .byte))) (wks h (.initialized Cdr.yN.cls :: Cdr.site))
  have q := consq hc h
  exact unparts (wk q (.code Len.yN Len.yB 1 (some .int))) (wks q (.initialized Len.yN.cls :: Len.site))
theorem movedLen {Z s : State} {a0 args : Array Value} (hZ : Z.Warmed39 s.vm) (hw : ∀ d ∈ wordsLen, d.before a0 Z = true) : ∀ d ∈ wordsLen, d.before args s = true := fun d hd => by
  have q := hw d hd
  have t : ∀ d ∈ wordsLen, d = .arrayClass .byte ∨ (d.onTables && d.keepsFace) = true := by decide +kernel
  rcases t d hd with rfl | t
  · exact RoadKit.mvA hZ q
  · exact RoadKit.mv hZ q t
/-- the bytes of the chars cs, low before high -/
def wideBytes : List Int32 → List Value
  | [] => []
  | c :: cs => .int (lo8 c) :: .int (hi8 c) :: wideBytes cs
theorem wide_lo (d : Value) : ∀ (cs : List Int32) (j : Nat), j < cs.length → (wideBytes cs).getD (2 * j) d = .int (lo8 (cs.getD j 0))
  | [], j, h => absurd h (Nat.not_lt_zero j)
  | c :: cs, 0, _ => rfl
  | c :: cs, j + 1, h => by
    have q := wide_lo d cs j (by simpa using h)
    rw [show 2 * (j + 1) = 2 * j + 1 + 1 from by omega]
    simpa [wideBytes] using q
theorem wide_hi (d : Value) : ∀ (cs : List Int32) (j : Nat), j < cs.length → (wideBytes cs).getD (2 * j + 1) d = .int (hi8 (cs.getD j 0))
  | [], j, h => absurd h (Nat.not_lt_zero j)
  | c :: cs, 0, _ => rfl
  | c :: cs, j + 1, h => by
    have q := wide_hi d cs j (by simpa using h)
    rw [show 2 * (j + 1) + 1 = 2 * j + 1 + 1 + 1 from by omega]
    simpa [wideBytes] using q
theorem low_at (d : Value) (cs : List Int32) (j : Nat) (h : j < cs.length) : (cs.map fun c => Value.int (lo8 c)).getD j d = .int (lo8 (cs.getD j 0)) := by
  simp [List.getD_eq_getElem?_getD, h]
/-- an array of N2 bytes vs codes the chars cs by the coder cd -/
def CodA (cs : List Int32) (cd N2 : Int32) (vs : List Value) : Prop := (cd = 0 ∧ N2 = Int32.ofNat cs.length ∧ vs = (cs.map fun c => Value.int (lo8 c)) ∧ ∀ c ∈ cs, ¬ 255 < c) ∨ (cd = 1 ∧ N2 = Int32.ofNat (2 * cs.length) ∧ vs = wideBytes cs ∧ ∃ c ∈ cs, 255 < c)
theorem CodA.cod {cs : List Int32} {cd N2 : Int32} {vs : List Value} {V : Cell} (h : CodA cs cd N2 vs) (hn : 2 * cs.length < 2 ^ 31) (hs : V.slots.size = N2.toNatClampNeg) (hv : RoadKit.Has V vs (.int 0)) : Cod cd cs.length (fun j => cs.getD j 0) V := by
  rcases h with ⟨rfl, rfl, rfl, h⟩ | ⟨rfl, rfl, rfl, c, hc, hw⟩
  · rw [n32 (by omega)] at hs
    exact Or.inl ⟨rfl, hs, fun j hj => ⟨by rw [hv j (by omega), low_at _ _ _ hj], by
      have e : cs.getD j 0 = cs[j] := by simp [List.getD_eq_getElem?_getD, hj]
      show ¬ 255 < cs.getD j 0
      rw [e]; exact h _ (List.getElem_mem _)⟩⟩
  · rw [n32 (by omega)] at hs
    obtain ⟨j, hj, rfl⟩ := List.getElem_of_mem hc
    exact Or.inr ⟨rfl, hs, fun j hj => ⟨by rw [hv _ (by omega), wide_lo _ _ _ hj], by rw [hv _ (by omega), wide_hi _ _ _ hj]⟩, j, hj, by
      have e : cs.getD j 0 = cs[j] := by simp [List.getD_eq_getElem?_getD, hj]
      show 255 < cs.getD j 0
      rw [e]; exact hw⟩
/-- an object of exactly java/lang/String, its two fields found: as the laws ask it -/
theorem strObj {Z U : State} {a0 : Array Value} {kI : Nat} (wi : (Jvm.Cond.instantiable ST kI).before a0 Z = true) (al : Z.vm.Alike U.vm) {x : Addr} {v0 c0 : Value} (E : RoadKit.Exa Z U.heap x ST) (V : RoadKit.Fld Z U.heap x ST "value" "[B" v0) (C : RoadKit.Fld Z U.heap x ST "coder" "B" c0) :
    ∃ (D : Cell) (fV fC : Field), Blank ST x D U ∧ Found ST "value" "[B" fV U ∧ Found ST "coder" "B" fC U ∧ D.slots[fV.slot]? = some v0 ∧ D.slots[fC.slot]? = some c0 ∧ RoadKit.slotOf Z ST "value" "[B" = fV.slot ∧ RoadKit.slotOf Z ST "coder" "B" = fC.slot := by
  obtain ⟨D, cfV, kV, iV, fV, hD, gV, stV, knV, obV, asV, slV⟩ := V
  obtain ⟨D', cfC, kC, iC, fC, hD', gC, stC, -, -, asC, slC⟩ := C
  cases hD.symm.trans hD'
  obtain ⟨D2, kD, e1, e2, e3, e4, e5⟩ := E
  cases hD.symm.trans e1
  obtain ⟨c2, k2, i1, i2, i3, -⟩ := Cond.instantiable_spec wi
  cases e2.symm.trans i1
  cases e3.symm.trans i2
  obtain ⟨kU, u1, u2⟩ := al.2.2 _ _ e3
  exact ⟨D, fV, fC, ⟨hD, ⟨knV, fun q hq => by rw [hq] at obV; cases obV⟩, by rw [al.findClass]; exact e2, kU, u1, by rw [u2]; exact i3, by rw [u2]; exact e5 i3⟩, ⟨SBG.found_only al ⟨cfV, kV, iV, gV⟩, stV⟩, ⟨SBG.found_only al ⟨cfC, kC, iC, gC⟩, stC⟩, slV, slC, by simp [RoadKit.slotOf, gV], by simp [RoadKit.slotOf, gC]⟩
theorem sta_is {Z U : State} (al : Z.vm.Alike U.vm) {C n d : String} {v : Value} (S : RoadKit.Sta Z U.heap C n d v) : StaticIs U C n d v := by
  obtain ⟨cfS, iS, kS, fS, st, cS, t1, t2, t3, t4, t5, t6, t7⟩ := S
  exact StaticIs.there (s := { Z with heap := U.heap }) ⟨cfS, iS, kS, fS, st, cS, t1, t2, t3, t4, t5, (fun q => by rw [q] at t6; cases t6), t7⟩ al rfl
/-- **length() OF SUCH A STRING** -/
theorem lenW {p : Program} {l : Launch} {e : Env} {R : Room} {s : State} {args : Array Value} {below : List Frame} {len W : Nat} {Z : State} {a0 : Array Value} {h : Heap} (hZ : Z.Warmed39 s.vm) (hw : ∀ d ∈ wordsLen, d.before a0 Z = true) {kI : Nat} (wi : (Jvm.Cond.instantiable ST kI).before a0 Z = true)
    {x t : Addr} {kb : ClassId} {cs : List Int32} {cd N2 z : Int32} {vs : List Value} (E : RoadKit.Exa Z h x ST) (V : RoadKit.Fld Z h x ST "value" "[B" (.ref t)) (C : RoadKit.Fld Z h x ST "coder" "B" (.int cd)) (K : RoadKit.Arv Z h t kb .byte N2 vs (.int 0)) (hc : CodA cs cd N2 vs) (hb : ∀ c ∈ cs, ¬ c < 0 ∧ ¬ (65535 : Int32) < c)
    (S : RoadKit.Sta Z h ST "COMPACT_STRINGS" "Z" (.int z)) (hz : ¬ z = 0) (l2 : cs.length ≤ 4000) (hfr : 2 ≤ R.frames) (hlo : W + 25 ≤ R.locals) :
    Back l R p e below s args (⟨"java/lang/String", "length", "()I"⟩ : MethodName) len W (fun P a => a = #[.ref x] ∧ P.U.heap = h ∧ P.cells + 0 ≤ R.cells ∧ P.slots + 0 ≤ R.slots)
      (fun P _ v B => ∃ L, (v = some (.int (Int32.ofNat cs.length)) ∧ L = [] ∧ B.U.heap = h) ∧ B.locs = P.locs ++ L ∧ B.cells = P.cells + 0 ∧ B.slots = P.slots + 0) := by
  obtain ⟨A, K1, K2, K3, K4, K5, K6⟩ := K
  have hcod := hc.cod (by omega) K3 K5
  intro m meth c P g ig mk a X hg hsize hdg hW hn hp'
  obtain ⟨rfl, rfl, r1, r2⟩ := hp'
  have al : Z.vm.Alike P.U.vm := hZ.alike.trans X.warmed.alike
  obtain ⟨D, fV, fC, hB, F1, F2, g1, g2, -, -⟩ := strObj wi al E V C
  have hx : Txt x t A cd cs.length (fun j => cs.getD j 0) P.U := ⟨⟨_, hB.2.2.1, D, hB.1, rfl, by cases q : D.vm <;> first | rfl | exact absurd q (hB.2.1.2 _)⟩, Has.of hB F1 g1, Has.of hB F2 g2, ⟨K1.1, State.isArrayOf_alike al K1.2.1, K1.2.2, by rcases hcod with ⟨-, q, -⟩ | ⟨-, q, -⟩ <;> omega⟩, hcod, fun j hj => by
    have e : cs.getD j 0 = cs[j] := by simp [List.getD_eq_getElem?_getD, hj]
    show ¬ cs.getD j 0 < 0 ∧ ¬ 65535 < cs.getD j 0
    rw [e]; exact hb _ (List.getElem_mem _)⟩
  obtain ⟨v, B, X', ⟨⟨hv, hh⟩, hl, hk, hs⟩, st⟩ := Len.pays x t A cd cs.length (fun j => cs.getD j 0) z (tabLen_of (movedLen hZ hw)) hfr hlo m meth c P g ig mk _ X hg hsize hdg hW hn ⟨r1, r2, rfl, hx, sta_is al S, hz⟩
  exact ⟨v, B, X', ⟨[], ⟨hv, rfl, hh⟩, hl, hk, hs⟩, st⟩
end StrChars.Road
namespace StrChars
open Jvm Sem ClassFile Op Lib Jvm.Stand Jvm.Free.XT Jvm.Free.ALB Jvm.Free.JM Jvm.Free
open Jvm.Lib.Cold (StaticIs)
theorem lo8_inj {x y : Int32} (h0 : ¬ x < 0) (h1 : ¬ 255 < x) (k0 : ¬ y < 0) (k1 : ¬ 255 < y) (h : lo8 x = lo8 y) : x = y := by
  rw [← lo8_mask h0 h1, ← lo8_mask k0 k1, h]
end StrChars
namespace StrChars.Road
open Jvm Sem ClassFile Op Lib Jvm.Stand Jvm.Free Jvm.Free.XT
open Jvm.Lib.Cold (StaticIs)
/-- what backV says of its String, as the contracts of this text ask it: cs's low bytes, coder 0 -/
theorem codOf {cs : List Int32} {n : Nat} (hn : cs.length = n) (hb : ∀ c ∈ cs, ¬ 255 < c) : CodA cs 0 (Int32.ofNat n) ((cs.map lo8).map Value.int) := Or.inl ⟨rfl, by rw [hn], by simp [List.map_map, Function.comp_def], hb⟩
end StrChars.Road
end Jvm.Pilot.@@N@@


namespace Jvm.Pilot.@@N@@
open Jvm Jvm.ClassFile Sem Op Lib Jvm.Free Jvm.Stand Jvm.LawKit Jvm.RoadKit Bundle Jvm.Pilot.@@N@@.Jvm.D
abbrev cJ0 : ByteArray := jdk_29_method_65_code
abbrev cJ1 : ByteArray := jdk_29_method_69_code
abbrev cJ2 : ByteArray := jdk_41_method_11_code
abbrev cJ3 : ByteArray := jdk_41_method_12_code
abbrev cJ4 : ByteArray := jdk_41_method_13_code
abbrev cJ5 : ByteArray := jdk_42_method_149_code
abbrev cJ6 : ByteArray := jdk_42_method_151_code
abbrev cJ7 : ByteArray := jdk_42_method_154_code
abbrev cJ8 : ByteArray := jdk_42_method_155_code
abbrev cJ9 : ByteArray := jdk_42_method_157_code
abbrev cJ10 : ByteArray := jdk_42_method_158_code
abbrev cJ11 : ByteArray := jdk_42_method_3_code
abbrev cJ12 : ByteArray := jdk_42_method_56_code
abbrev cJ13 : ByteArray := jdk_42_method_82_code
abbrev cJ14 : ByteArray := jdk_42_method_83_code
abbrev cJ15 : ByteArray := jdk_42_method_92_code
abbrev cJ16 : ByteArray := jdk_43_method_27_code
abbrev cJ17 : ByteArray := jdk_43_method_2_code
abbrev cJ18 : ByteArray := jdk_43_method_47_code
abbrev cJ19 : ByteArray := jdk_43_method_4_code
abbrev cJ20 : ByteArray := jdk_52_method_14_code
abbrev cJ21 : ByteArray := jdk_52_method_15_code
abbrev cJ22 : ByteArray := jdk_52_method_16_code
abbrev cJ23 : ByteArray := jdk_52_method_17_code
abbrev cJ24 : ByteArray := jdk_52_method_21_code
abbrev cJ25 : ByteArray := jdk_52_method_22_code
abbrev cJ26 : ByteArray := jdk_52_method_3_code
abbrev cJ27 : ByteArray := jdk_52_method_4_code
abbrev cJ28 : ByteArray := jdk_52_method_51_code
abbrev cJ29 : ByteArray := jdk_52_method_5_code
abbrev cJ30 : ByteArray := jdk_52_method_69_code
abbrev cJ31 : ByteArray := jdk_52_method_83_code
abbrev cJ32 : ByteArray := jdk_52_method_94_code
abbrev cJ33 : ByteArray := jdk_65_method_132_code
abbrev cJ34 : ByteArray := jdk_65_method_133_code
abbrev cJ35 : ByteArray := method_2_code
abbrev cJ36 : ByteArray := method_3_code
abbrev cJ37 : ByteArray := prog_14_method_4_code
abbrev mN0 : MethodName := (⟨"com/example/keep_to_layer/keeptolayer/model/ClassNames", "packageOf", "(Ljava/lang/String;)Ljava/lang/String;"⟩ : MethodName)
abbrev mN1 : MethodName := (⟨"com/example/keep_to_layer/keeptolayer/model/ClassNamesPackageOfPinLaw", "ch", "(I)C"⟩ : MethodName)
abbrev mN2 : MethodName := (⟨"com/example/keep_to_layer/keeptolayer/model/ClassNamesPackageOfPinLaw", "make", "(ICCCC)Ljava/lang/String;"⟩ : MethodName)
abbrev mN3 : MethodName := (⟨"java/lang/Math", "max", "(II)I"⟩ : MethodName)
abbrev mN4 : MethodName := (⟨"java/lang/Math", "min", "(II)I"⟩ : MethodName)
abbrev mN5 : MethodName := (⟨"java/lang/String", "<init>", "([BB)V"⟩ : MethodName)
abbrev mN6 : MethodName := (⟨"java/lang/String", "<init>", "([C)V"⟩ : MethodName)
abbrev mN7 : MethodName := (⟨"java/lang/String", "<init>", "([CIILjava/lang/Void;)V"⟩ : MethodName)
abbrev mN8 : MethodName := (⟨"java/lang/String", "charAt", "(I)C"⟩ : MethodName)
abbrev mN9 : MethodName := (⟨"java/lang/String", "checkBoundsBeginEnd", "(III)V"⟩ : MethodName)
abbrev mN10 : MethodName := (⟨"java/lang/String", "checkBoundsOffCount", "(III)I"⟩ : MethodName)
abbrev mN11 : MethodName := (⟨"java/lang/String", "checkIndex", "(II)V"⟩ : MethodName)
abbrev mN12 : MethodName := (⟨"java/lang/String", "isLatin1", "()Z"⟩ : MethodName)
abbrev mN13 : MethodName := (⟨"java/lang/String", "lastIndexOf", "(I)I"⟩ : MethodName)
abbrev mN14 : MethodName := (⟨"java/lang/String", "lastIndexOf", "(II)I"⟩ : MethodName)
abbrev mN15 : MethodName := (⟨"java/lang/String", "length", "()I"⟩ : MethodName)
abbrev mN16 : MethodName := (⟨"java/lang/String", "substring", "(II)Ljava/lang/String;"⟩ : MethodName)
abbrev mN17 : MethodName := (⟨"java/lang/StringLatin1", "canEncode", "(I)Z"⟩ : MethodName)
abbrev mN18 : MethodName := (⟨"java/lang/StringLatin1", "charAt", "([BI)C"⟩ : MethodName)
abbrev mN19 : MethodName := (⟨"java/lang/StringLatin1", "lastIndexOf", "([BII)I"⟩ : MethodName)
abbrev mN20 : MethodName := (⟨"java/lang/StringLatin1", "newString", "([BII)Ljava/lang/String;"⟩ : MethodName)
abbrev mN21 : MethodName := (⟨"java/lang/StringUTF16", "charAt", "([BI)C"⟩ : MethodName)
abbrev mN22 : MethodName := (⟨"java/lang/StringUTF16", "checkBoundsOffCount", "(II[B)V"⟩ : MethodName)
abbrev mN23 : MethodName := (⟨"java/lang/StringUTF16", "checkIndex", "(I[B)V"⟩ : MethodName)
abbrev mN24 : MethodName := (⟨"java/lang/StringUTF16", "coderFromArrayLen", "([BI)B"⟩ : MethodName)
abbrev mN25 : MethodName := (⟨"java/lang/StringUTF16", "compress", "([BII)[B"⟩ : MethodName)
abbrev mN26 : MethodName := (⟨"java/lang/StringUTF16", "compress", "([BI[BII)I"⟩ : MethodName)
abbrev mN27 : MethodName := (⟨"java/lang/StringUTF16", "compress", "([CII)[B"⟩ : MethodName)
abbrev mN28 : MethodName := (⟨"java/lang/StringUTF16", "compress", "([CI[BII)I"⟩ : MethodName)
abbrev mN29 : MethodName := (⟨"java/lang/StringUTF16", "getChar", "([BI)C"⟩ : MethodName)
abbrev mN30 : MethodName := (⟨"java/lang/StringUTF16", "lastIndexOf", "([BII)I"⟩ : MethodName)
abbrev mN31 : MethodName := (⟨"java/lang/StringUTF16", "length", "([B)I"⟩ : MethodName)
abbrev mN32 : MethodName := (⟨"java/lang/StringUTF16", "newBytesFor", "(I)[B"⟩ : MethodName)
abbrev mN33 : MethodName := (⟨"java/lang/StringUTF16", "newBytesLength", "(I)I"⟩ : MethodName)
abbrev mN34 : MethodName := (⟨"java/lang/StringUTF16", "newString", "([BII)Ljava/lang/String;"⟩ : MethodName)
abbrev mN35 : MethodName := (⟨"java/lang/StringUTF16", "putChar", "([BII)V"⟩ : MethodName)
abbrev mN36 : MethodName := (⟨"java/lang/StringUTF16", "toBytes", "([CII)[B"⟩ : MethodName)
abbrev mN37 : MethodName := (⟨"java/util/Arrays", "checkLength", "(II)V"⟩ : MethodName)
abbrev mN38 : MethodName := (⟨"java/util/Arrays", "copyOfRange", "([BII)[B"⟩ : MethodName)
abbrev mN39 : MethodName := (⟨"java/util/Arrays", "copyOfRangeByte", "([BII)[B"⟩ : MethodName)
abbrev mN40 : MethodName := (⟨"jdk/internal/util/Preconditions", "checkFromIndexSize", "(IIILjava/util/function/BiFunction;)I"⟩ : MethodName)
abbrev mN41 : MethodName := (⟨"jdk/internal/util/Preconditions", "checkFromToIndex", "(IIILjava/util/function/BiFunction;)I"⟩ : MethodName)
abbrev mN42 : MethodName := (⟨"jdk/internal/util/Preconditions", "checkIndex", "(IILjava/util/function/BiFunction;)I"⟩ : MethodName)
abbrev rM0 : Room := ({ frames := 0, cells := 0, slots := 0, locals := 0 } : Room)
abbrev rM1 : Room := ({ frames := 1, cells := 0, slots := 0, locals := 12 } : Room)
abbrev rM2 : Room := ({ frames := 1, cells := 0, slots := 0, locals := 14 } : Room)
abbrev rM3 : Room := ({ frames := 1, cells := 0, slots := 0, locals := 15 } : Room)
abbrev rM4 : Room := ({ frames := 1, cells := 0, slots := 0, locals := 16 } : Room)
abbrev rM5 : Room := ({ frames := 1, cells := 1, slots := 8, locals := 12 } : Room)
abbrev rM6 : Room := ({ frames := 1, cells := 1, slots := 8, locals := 40 } : Room)
abbrev rM7 : Room := ({ frames := 1, cells := 4, slots := 8, locals := 12 } : Room)
abbrev rM8 : Room := ({ frames := 2, cells := 0, slots := 0, locals := 28 } : Room)
abbrev rM9 : Room := ({ frames := 2, cells := 0, slots := 0, locals := 30 } : Room)
abbrev rM10 : Room := ({ frames := 2, cells := 0, slots := 0, locals := 34 } : Room)
abbrev rM11 : Room := ({ frames := 2, cells := 1, slots := 8, locals := 24 } : Room)
abbrev rM12 : Room := ({ frames := 2, cells := 1, slots := 8, locals := 56 } : Room)
abbrev rM13 : Room := ({ frames := 2, cells := 4, slots := 8, locals := 29 } : Room)
abbrev rM14 : Room := ({ frames := 3, cells := 0, slots := 0, locals := 44 } : Room)
abbrev rM15 : Room := ({ frames := 3, cells := 0, slots := 0, locals := 50 } : Room)
abbrev rM16 : Room := ({ frames := 3, cells := 2, slots := 12, locals := 42 } : Room)
abbrev rM17 : Room := ({ frames := 3, cells := 2, slots := 12, locals := 72 } : Room)
abbrev rM18 : Room := ({ frames := 4, cells := 0, slots := 0, locals := 50 } : Room)
abbrev rM19 : Room := ({ frames := 4, cells := 0, slots := 0, locals := 62 } : Room)
abbrev rM20 : Room := ({ frames := 4, cells := 2, slots := 12, locals := 59 } : Room)
abbrev rM21 : Room := ({ frames := 4, cells := 2, slots := 12, locals := 74 } : Room)
abbrev rM22 : Room := ({ frames := 5, cells := 2, slots := 12, locals := 76 } : Room)
abbrev rM23 : Room := ({ frames := 5, cells := 3, slots := 16, locals := 96 } : Room)
abbrev rM24 : Room := ({ frames := 6, cells := 3, slots := 16, locals := 116 } : Room)
abbrev rM25 : Room := ({ frames := 6, cells := 6, slots := 24, locals := 100 } : Room)
abbrev rM26 : Room := ({ frames := 7, cells := 3, slots := 16, locals := 136 } : Room)
theorem own_w {a0 : Array Value} {Z : State} (hw : ∀ d ∈ tables_1, d.before a0 Z = true) (i : Nat) {d : Jvm.Cond} (h : tables_1[i]? = some d) : d.before a0 Z = true := hw _ (List.mem_of_getElem? h)
theorem own_v {Z s : State} {a0 args : Array Value} {d : Jvm.Cond} (hZ : Z.Warmed39 s.vm) (hw : ∀ d ∈ tables_1, d.before a0 Z = true) (i : Nat) (h : tables_1[i]? = some d) (hd : (d.onTables && d.keepsFace) = true := by first | rfl | simp [Cond.onTables, Cond.keepsFace, Cond.keeps, Cond.steady]) : d.before args s = true := mvT hZ (own_w hw i h) hd
def oG (tb : Tables) (e : Env) (below : List Frame) (P : Outcome → State → Prop) (U : State) : Prop := ∃ s₂ o, Steps tb e below U s₂ ∧ s₂.status = .running ∧ Ended s₂ below o ∧ P o s₂
theorem oG.st {tb : Tables} {e : Env} {below : List Frame} {P : Outcome → State → Prop} {U U' : State} (h : ∀ t, Steps tb e below U' t → Steps tb e below U t) (k : oG tb e below P U') : oG tb e below P U := by
  obtain ⟨t, o, a, r⟩ := k
  exact ⟨t, o, h t a, r⟩
theorem own_hd {tb : Tables} {e : Env} {below : List Frame} {P : Outcome → State → Prop} {U : State} (k : ∀ PP, PP = P → oG tb e below PP U) : oG tb e below P U := k P rfl
theorem oG.tr {tb : Tables} {e : Env} {below : List Frame} {P : Outcome → State → Prop} {U U' : State} (h : Steps tb e below U U') (k : oG tb e below P U') : oG tb e below P U := oG.st (fun _ a => h.trans a) k
section OwnRet
variable {p : Program} {l : Launch} {e : Env} {R : Room} {s : State} {m : MethodId} {args : Array Value} {below : List Frame} {meth : Method} {c : Code} {T : State} {locs : List Loc} {cells slots : Nat}
theorem own_retI (X : Stand p l e R s m args below meth c T locs cells slots) (hx : p.tables.exec = Jvm.exec) {pc : Nat} {Ls : Array Slot} {z : Int32} {rest : List Value} (hret : meth.sig.returnType = some .int) (hd : decode c.code pc = .ok (.ireturn, 1)) {fs : List Frame}
    (hl : ∀ (f : JFrame) (acts : List Action), f.method = m → f.locked = none → f.entered = [] → (doReturn e (T.setTop f) acts (some (.int z))).1 = T.setFrames fs) : Steps p.tables e below (T.setTop (mkF m pc Ls (.int z :: rest))) (T.setFrames fs) :=
  retOut X hx hret rfl (Or.inl ⟨rfl, Or.inl rfl, z, rfl⟩) hd hl
theorem own_retL (X : Stand p l e R s m args below meth c T locs cells slots) (hx : p.tables.exec = Jvm.exec) {pc : Nat} {Ls : Array Slot} {z : Int64} {rest : List Value} (hret : meth.sig.returnType = some .long) (hd : decode c.code pc = .ok (.lreturn, 1)) {fs : List Frame}
    (hl : ∀ (f : JFrame) (acts : List Action), f.method = m → f.locked = none → f.entered = [] → (doReturn e (T.setTop f) acts (some (.long z))).1 = T.setFrames fs) : Steps p.tables e below (T.setTop (mkF m pc Ls (.long z :: rest))) (T.setFrames fs) :=
  retOut X hx hret rfl (Or.inr (Or.inl ⟨rfl, rfl, z, rfl⟩)) hd hl
theorem own_narRef {t : FieldType} {w : Value} (ht : t.isReference = true) (hw : w.isRef = true) : narrow t w = w := by
  cases t <;> first | rfl | (simp [FieldType.isReference] at ht; done) | (cases w <;> first | rfl | simp [Value.isRef] at hw)
theorem own_retA (X : Stand p l e R s m args below meth c T locs cells slots) (hx : p.tables.exec = Jvm.exec) {pc : Nat} {Ls : Array Slot} {w : Value} {t : FieldType} {rest : List Value} (hret : meth.sig.returnType = some t) (ht : t.isReference = true) (hw : w.isRef = true) (hd : decode c.code pc = .ok (.areturn, 1)) {fs : List Frame}
    (hl : ∀ (f : JFrame) (acts : List Action), f.method = m → f.locked = none → f.entered = [] → (doReturn e (T.setTop f) acts (some w)).1 = T.setFrames fs) : Steps p.tables e below (T.setTop (mkF m pc Ls (w :: rest))) (T.setFrames fs) :=
  retOut X hx hret (own_narRef ht hw) (Or.inr (Or.inr (Or.inr (Or.inr ⟨rfl, ht, hw⟩)))) hd hl
end OwnRet
theorem own_selP {s : State} {args : Array Value} {C : String} {y : MethodName} (h : (Jvm.Cond.selects C y y).before args s = true) (hp : s.PrivateAt y) (hi : (Jvm.Cond.instanceMethod y).before args s = true) (hy : y.cls ≠ "java/lang/invoke/MethodHandle" ∧ y.cls ≠ "java/lang/invoke/VarHandle") : (Jvm.Cond.selects y.cls y y).before args s = true := by
  obtain ⟨c, r, m, -, -, q3, -, mk, k1, k2⟩ := Cond.selects_spec h
  exact Jvm.Stand.selects_self_of_private (findClass_of_methodNamed q3) k1 k2 hp hi hy
theorem own_nf {s : State} {args : Array Value} {C : String} {y y2 : MethodName} (h : (Jvm.Cond.selects C y2 y2).before args s = true) (he : y2.cls = y.cls) : NotFace s y := fun r0 h0 => by
  obtain ⟨c, r, m, -, -, q3, -, mk, k1, k2⟩ := Cond.selects_spec h
  have e1 := findClass_of_methodNamed q3
  have e2 := findClass_of_methodNamed h0
  rw [he] at e1
  have e3 : m.cls = r0.cls := Option.some.inj (e1.symm.trans e2)
  exact ⟨mk, e3 ▸ k1, k2⟩
theorem own_sameP {s : State} {args : Array Value} {C : String} {y y2 : MethodName} (hd : (Jvm.Cond.declares y).before args s = true) (h : (Jvm.Cond.selects C y2 y2).before args s = true) (he : y2.cls = y.cls) (hy : y.cls ≠ "java/lang/invoke/MethodHandle" ∧ y.cls ≠ "java/lang/invoke/VarHandle") : (Jvm.Cond.sameMethod y.cls y.cls y.name y.desc).before args s = true := by
  obtain ⟨c, r, m, -, -, q3, -, mk, k1, k2⟩ := Cond.selects_spec h
  have e1 := findClass_of_methodNamed q3
  rw [he] at e1
  cases hm : s.methodNamed? y with
  | none => simp [Cond.before, Cond.holds, Cond.value, hm] at hd
  | some mm =>
    have hf : s.methodFound? y.cls y.name y.desc = some mm := State.methodFound?_of_named hm hy
    have hm' : s.methodNamed? ⟨y.cls, y.name, y.desc⟩ = some mm := hm
    simp [Cond.before, Cond.holds, Cond.value, e1, hf, hm', k1, k2]
theorem own_rwE {T h : Heap} {a : Addr} {c : Option Cell} (e : T = h) (q : h[a]? = c) : T[a]? = c := by rw [e]; exact q
theorem own_nar {x : Int32} (h : ¬ x < 0 ∧ ¬ (65535 : Int32) < x) : nar .char x = x := by
  have q := c_i2c x
  have h1 := h.1; have h2 := h.2
  rw [Int32.lt_iff_toInt_lt] at h1 h2
  have e1 : (0 : Int32).toInt = 0 := by decide
  have e2 : (65535 : Int32).toInt = 65535 := by decide
  rw [e1] at h1; rw [e2] at h2
  show x.toUInt32.toUInt16.toUInt32.toInt32 = x
  apply Int32.toInt_inj.mp
  omega
theorem own_up {x : Int32} (h : ¬ x < 0 ∧ ¬ (255 : Int32) < x) : ¬ x < 0 ∧ ¬ (65535 : Int32) < x := by
  refine ⟨h.1, fun q => h.2 ?_⟩
  rw [Int32.lt_iff_toInt_lt] at q ⊢
  have e1 : (255 : Int32).toInt = 255 := by decide
  have e2 : (65535 : Int32).toInt = 65535 := by decide
  omega
theorem own_arvTy {Z : State} {h : Heap} {a b : Addr} {k k' : ClassId} {ty ty' : FieldType} {n n' : Int32} {vs vs' : List Value} {d d' : Value} (A : Arv Z h a k ty n vs d) (B : Arv Z h b k' ty' n' vs' d') (ht : ty ≠ ty') : a ≠ b := fun q => by
  subst q
  obtain ⟨c, C, -⟩ := A
  obtain ⟨c', C', -⟩ := B
  cases C.1.symm.trans C'.1
  obtain ⟨-, k1, j1, cp1, j2⟩ := C.2.1
  obtain ⟨-, k2, i1, cp2, i2⟩ := C'.2.1
  cases j1.symm.trans i1
  rw [j2] at i2
  cases i2
  exact ht rfl


def own_Str (Z : State) (h : Heap) (x t : Addr) (cs : List Int32) : Prop := ∃ (kb : ClassId) (cd N2 : Int32) (vs : List Value), Exa Z h x "java/lang/String" ∧ Fld Z h x "java/lang/String" "value" "[B" (.ref t) ∧ Fld Z h x "java/lang/String" "coder" "B" (.int cd) ∧ Arv Z h t kb .byte N2 vs (.int 0) ∧ StrChars.Road.CodA cs cd N2 vs ∧ (∀ c ∈ cs, ¬ c < 0 ∧ ¬ (65535 : Int32) < c) ∧ cs.length ≤ 4000
section OwnStr
variable {Z : State} {h h' : Heap} {x t a : Addr} {cs : List Int32} {sl : Nat} {v : Value} {ws : List Addr}
theorem own_Str.ext (F : own_Str Z h x t cs) (E : Ext h h') : own_Str Z h' x t cs := by
  obtain ⟨kb, cd, N2, vs, h1, h2, h3, h4, r⟩ := F
  exact ⟨kb, cd, N2, vs, h1.ext E, h2.ext E, h3.ext E, h4.ext E, r⟩
theorem own_Str.other (F : own_Str Z h x t cs) (W : Wr h h' a sl v) (n1 : x ≠ a) (n2 : t ≠ a) : own_Str Z h' x t cs := by
  obtain ⟨kb, cd, N2, vs, h1, h2, h3, h4, r⟩ := F
  exact ⟨kb, cd, N2, vs, h1.wr W, h2.other W (Or.inl n1), h3.other W (Or.inl n1), h4.other W n2, r⟩
theorem own_Str.keep (F : own_Str Z h x t cs) (K : Keep h h' ws) (n1 : x ∉ ws) (n2 : t ∉ ws) : own_Str Z h' x t cs := by
  obtain ⟨kb, cd, N2, vs, h1, h2, h3, h4, r⟩ := F
  exact ⟨kb, cd, N2, vs, h1.keep K, h2.keep K n1, h3.keep K n1, h4.keep K n2, r⟩
theorem own_Str.exa (F : own_Str Z h x t cs) : Exa Z h x "java/lang/String" := by obtain ⟨kb, cd, N2, vs, h1, -⟩ := F; exact h1
theorem own_Str.lt (F : own_Str Z h x t cs) : x < h.size := F.exa.lt
theorem own_Str.ltv (F : own_Str Z h x t cs) : t < h.size := by obtain ⟨kb, cd, N2, vs, -, -, -, h4, -⟩ := F; exact h4.lt
theorem own_Str.le (F : own_Str Z h x t cs) : cs.length ≤ 4000 := by obtain ⟨kb, cd, N2, vs, -, -, -, -, -, -, h⟩ := F; exact h
theorem own_Str.rng (F : own_Str Z h x t cs) : ∀ c ∈ cs, ¬ c < 0 ∧ ¬ (65535 : Int32) < c := by obtain ⟨kb, cd, N2, vs, -, -, -, -, -, h, -⟩ := F; exact h
theorem own_Str.neArv {b : Addr} {k : ClassId} {ty : FieldType} {n : Int32} {us : List Value} {d : Value} {a0 : Array Value} {kI : Nat} (F : own_Str Z h x t cs) (B : Arv Z h b k ty n us d) (wi : (Jvm.Cond.instantiable "java/lang/String" kI).before a0 Z = true) : x ≠ b := F.exa.neArv B wi
theorem own_Str.neV {b : Addr} {C : String} {a0 : Array Value} {kI : Nat} (F : own_Str Z h x t cs) (E : Exa Z h b C) (wi : (Jvm.Cond.instantiable C kI).before a0 Z = true) : b ≠ t := by
  obtain ⟨kb, cd, N2, vs, -, -, -, h4, -⟩ := F
  exact E.neArv h4 wi
theorem own_Str.neTy {b : Addr} {k : ClassId} {ty : FieldType} {n : Int32} {us : List Value} {d : Value} (F : own_Str Z h x t cs) (B : Arv Z h b k ty n us d) (ht : .byte ≠ ty) : t ≠ b := by
  obtain ⟨kb, cd, N2, vs, -, -, -, h4, -⟩ := F
  exact own_arvTy h4 B ht
end OwnStr


theorem own_a0 {P : Int32 → Prop} : ∀ c ∈ ([] : List Int32), P c := fun _ q => nomatch q
theorem own_aS {P : Int32 → Prop} {x : Int32} {L : List Int32} (h : P x) (r : ∀ c ∈ L, P c) : ∀ c ∈ x :: L, P c := fun c q => (List.mem_cons.mp q).elim (fun u => u ▸ h) (r c)
theorem own_upL {cs : List Int32} (h : ∀ c ∈ cs, ¬ c < 0 ∧ ¬ (255 : Int32) < c) : ∀ c ∈ cs, ¬ c < 0 ∧ ¬ (65535 : Int32) < c := fun c q => own_up (h c q)


theorem own_Str.lat {Z : State} {h : Heap} {x t : Addr} {cs : List Int32} (F : own_Str Z h x t cs) (hl : ∀ c ∈ cs, ¬ (255 : Int32) < c) : ∃ (kb : ClassId) (N2 : Int32) (vs : List Value), Exa Z h x "java/lang/String" ∧ Fld Z h x "java/lang/String" "value" "[B" (.ref t) ∧ Fld Z h x "java/lang/String" "coder" "B" (.int 0) ∧ Arv Z h t kb .byte N2 vs (.int 0) ∧ StrChars.Road.CodA cs 0 N2 vs := by
  obtain ⟨kb, cd, N2, vs, h1, h2, h3, h4, h5, -⟩ := F
  rcases h5 with ⟨rfl, a, b, c⟩ | ⟨-, -, -, c, hc, q⟩
  · exact ⟨kb, N2, vs, h1, h2, h3, h4, Or.inl ⟨rfl, a, b, c⟩⟩
  · exact absurd q (hl c hc)


theorem own_eqv {v : Option Value} {A : Prop} (h : (v = some (.int 1) ∧ A) ∨ (v = some (.int 0) ∧ ¬ A)) : ∃ r : Int32, v = some (.int r) ∧ ((r = 1 ∧ A) ∨ (r = 0 ∧ ¬ A)) := by
  rcases h with ⟨a, b⟩ | ⟨a, b⟩
  · exact ⟨1, a, Or.inl ⟨rfl, b⟩⟩
  · exact ⟨0, a, Or.inr ⟨rfl, b⟩⟩

theorem own_hws {a0 : Array Value} {Z : State} (hw : ∀ d ∈ tables_1, d.before a0 Z = true) : ∀ d ∈ StrChars.Road.words, d.before a0 Z = true := fun d hd => hw d ((by decide +kernel : ∀ d ∈ StrChars.Road.words, d ∈ tables_1) d hd)
theorem own_hln {a0 : Array Value} {Z : State} (hw : ∀ d ∈ tables_1, d.before a0 Z = true) : ∀ d ∈ StrChars.Road.wordsLen, d.before a0 Z = true := fun d hd => hw d ((by decide +kernel : ∀ d ∈ StrChars.Road.wordsLen, d ∈ tables_1) d hd)

theorem own_wS {a0 : Array Value} {Z : State} (hw : ∀ d ∈ tables_1, d.before a0 Z = true) : ∀ d ∈ Bundle.stringAtoms, d.before a0 Z = true := fun d hd => hw d ((by decide +kernel : ∀ d ∈ Bundle.stringAtoms, d ∈ tables_1) d hd)
theorem own_safeNull {Z : State} {EL : List (String × Nat)} {vm : Vm} {h : Heap} {x : Addr} (hal : Z.vm.Alike vm) (E : Exa Z h x "java/lang/String") (F : Fld Z h x "java/lang/String" "value" "[B" .null) : Safe Z EL vm h x := fun B => by
  obtain ⟨p, -, u, a, -, q, -, G, hx | hx⟩ := B
  · obtain ⟨cS, ⟨S1, -, -⟩, -⟩ := G
    obtain ⟨g1, -, -, ⟨c', k', i', g2, -⟩, -, -, -, g3, -⟩ := S1
    obtain ⟨cell, cf, k, i, f, e1, e2, -, -, -, -, e3⟩ := F
    obtain ⟨k2, g4⟩ := ff_back (U := Wst Z vm h) hal g2
    rw [hx] at e1
    have e4 : cell = q.sC := Option.some.inj (e1.symm.trans g1)
    have e5 : f = q.fSV := by
      have e6 := Option.some.inj (e2.symm.trans g4)
      simp only [Prod.mk.injEq] at e6
      exact e6.2.2.2
    rw [e4, e5, g3] at e3
    cases e3
  · have hd := G.hd
    obtain ⟨cS, -, -, f, -⟩ := G
    obtain ⟨cell, k, e1, e2, -⟩ := E
    rw [hx] at e1
    have e4 : cell = q.SA := Option.some.inj (e1.symm.trans hd)
    have f' : Z.vm.findClass "[B" = some q.SA.cls := by rw [← hal.findClass]; exact f
    rw [e4] at e2
    obtain ⟨k1, q1, q2⟩ := Vm.findClass_spec f'
    obtain ⟨k2, q3, q4⟩ := Vm.findClass_spec e2
    cases q1.symm.trans q3
    exact absurd (q2.symm.trans q4) (by decide)

theorem pn_0 : plainName "java/lang/String" = true := by first | (simp [plainName, overriddenIn]; done) | decide +kernel
theorem ef_1 (m : MethodId) (x0 : Nat) (x1 : Nat) (x2 : Int32) (x3 : Int32) : entryFrame m #[(.ref x0), (.ref x1), (.int x2), (.int x3), .null] 6 = mkF m 0 #[.val (.ref x0), .val (.ref x1), .val (.int x2), .val (.int x3), .val .null, .unset] [] := by first | (simp [entryFrame, mkF, argsToLocals, Value.category]; done) | rfl
theorem dj42_149_0 : decode cJ5 0 = .ok (.aload_n 0, 1) := by decide +kernel
theorem dj42_149_1 : decode cJ5 1 = .ok (.invokespecial 1, 3) := by decide +kernel
theorem dj42_149_4 : decode cJ5 4 = .ok (.iload_n 3, 1) := by decide +kernel
theorem dj42_149_5 : decode cJ5 5 = .ok (.ifCond .ne 22, 3) := by decide +kernel
theorem dj42_149_8 : decode cJ5 8 = .ok (.aload_n 0, 1) := by decide +kernel
theorem dj42_149_9 : decode cJ5 9 = .ok (.ldc 7, 2) := by decide +kernel
theorem dj42_149_11 : decode cJ5 11 = .ok (.getfield 9, 3) := by decide +kernel
theorem dj42_149_14 : decode cJ5 14 = .ok (.putfield 9, 3) := by decide +kernel
theorem dj42_149_17 : decode cJ5 17 = .ok (.aload_n 0, 1) := by decide +kernel
theorem dj42_149_18 : decode cJ5 18 = .ok (.ldc 7, 2) := by decide +kernel
theorem dj42_149_20 : decode cJ5 20 = .ok (.getfield 15, 3) := by decide +kernel
theorem dj42_149_23 : decode cJ5 23 = .ok (.putfield 15, 3) := by decide +kernel
theorem dj42_149_26 : decode cJ5 26 = .ok (.return_, 1) := by decide +kernel
def Q_init4e (Z : State) (a1 : Nat) (a2 : Nat) (h0 : Heap) (v : Option Value) (h : Heap) (L : List Loc) : Prop := ∃ (t : Nat), v = none ∧ Fr Z.heap.size L ∧ Keep h0 h [a1] ∧ own_Str Z h a1 t []
set_option maxRecDepth 65536 in
set_option maxHeartbeats 40000000 in
theorem rm_init4e (l : Launch) (Z : State) (a0 : Array Value) (hw : ∀ d ∈ tables_1, d.before a0 Z = true) (ws : List Jvm.Cond) (a1 : Nat) (a2 : Nat) (h0 : Heap) (hEL : EW Z a0 consts_1) (OL : Old Z Z.heap.size h0) (p0_ : Exa Z h0 a1 "java/lang/String") (p1_ : Fld Z h0 a1 "java/lang/String" "value" "[B" .null) (p2_ : Fld Z h0 a1 "java/lang/String" "coder" "B" (.int (0 : Int32))) (hn0 : Z.heap.size ≤ a1) :
    MetFree l mN7 (head1 (Jvm.Cond.code mN7 jdk_42_method_149_code 6 none :: ws) rM7) (fun a U => a = #[(.ref a1), (.ref a2), (.int (0 : Int32)), (.int (0 : Int32)), .null] ∧ Z.Warmed39 U.vm ∧ U.heap = h0 ∧ CHv Z consts_1 U.vm h0) (fun _ _ _ _ _ => True) (fun _ U o U' => ∃ v L, o = .returned v ∧ Q_init4e Z a1 a2 h0 v U'.heap L ∧ CHr Z consts_1 U.vm U.heap U'.vm U'.heap ∧ ReturnedEndW U o U' L rM7.cells rM7.slots) := by
  refine MetFree.of_bodySF (plainFor_of_name pn_0) hisR ?_
  intro p e s m args below meth c s₁ Bd hml0 hP hK
  obtain ⟨rfl, hZ, hh, hC0⟩ := hP
  have hx := Bd.exec
  have hby := Bd.bytes
  have hml : c.maxLocals = 6 := hml0
  have hown : s.vm.findClass "java/lang/String" = some m.cls := findClass_of_methodNamed Bd.named
  have hnm := (name_of_methodNamed Bd.named Bd.method).1
  have X0 : Stand p l e rM7 (s.setVm s.vm) m #[(.ref a1), (.ref a2), (.int (0 : Int32)), (.int (0 : Int32)), .null] below meth c s₁ [] 0 0 := Stand.of_body Bd
  have e0 : s₁.heap = h0 := by rw [← hh, Bd.state]; rfl
  have N0 := Fr.nil Z.heap.size
  have Z0 : Z.heap.size ≤ h0.size := OL.2.1
  have hS0 : s.Since s.vm h0.size := (State.WarmedH.refl s).since _
  have wS := own_wS hw
  have R0 : CHr Z consts_1 s.vm h0 s.vm h0 := CHr.refl hC0
  have lt_0 : @LT.lt Nat _ a1 h0.size := p0_.lt
  have lt_1 : @LT.lt Nat _ a1 h0.size := p1_.lt
  have lt_2 : @LT.lt Nat _ a1 h0.size := p2_.lt
  show oG p.tables e below (fun o tE => ∃ v L, o = .returned v ∧ Q_init4e Z a1 a2 h0 v tE.heap L ∧ CHr Z consts_1 s.vm s.heap tE.vm tE.heap ∧ ReturnedEndW s o tE L rM7.cells rM7.slots) (s₁.setTop (entryFrame m #[(.ref a1), (.ref a2), (.int (0 : Int32)), (.int (0 : Int32)), .null] 6))
  refine own_hd (fun PP hPP => ?_)
  refine oG.st (fun t k => castTop (ef_1 m a1 a2 (0 : Int32) (0 : Int32)) k) ?_
  refine oG.st (fun _ k => XS.aloadN X0.here hx rfl (hb hby dj42_149_0) rfl rfl k) ?_
  show oG _ _ _ _ (s₁.setTop (mkF m 1 #[.val (.ref a1), .val (.ref a2), .val (.int (0 : Int32)), .val (.int (0 : Int32)), .val .null, .unset] [(.ref a1)]))
  obtain ⟨T101, X101, e101, st101⟩ := initO X0 hx hZ hown (own_w hw 20 rfl) (own_w hw 21 rfl) (own_w hw 22 rfl) e0 (g := (mkF m 1 #[.val (.ref a1), .val (.ref a2), .val (.int (0 : Int32)), .val (.int (0 : Int32)), .val .null, .unset] [(.ref a1)])) rfl (by rw [hml]; rfl) rfl (hb hby dj42_149_1) (by decide) (W := 0) (by show 2 * 0 + _ ≤ _; exact Nat.le_of_eq rfl) (by decide)
  refine oG.st st101 ?_
  refine oG.st (fun _ k => XS.iloadN X101.here hx rfl (hb hby dj42_149_4) rfl k) ?_
  show oG _ _ _ _ (T101.setTop (mkF m 5 #[.val (.ref a1), .val (.ref a2), .val (.int (0 : Int32)), .val (.int (0 : Int32)), .val .null, .unset] [(.int (0 : Int32))]))
  refine oG.st (fun _ k => XS.ifNo X101.here hx rfl (hb hby dj42_149_5) rfl ((if0 _ _).trans (teq (rfl : (0 : Int32) = (0 : Int32))).2) k) ?_
  refine oG.st (fun _ k => XS.aloadN X101.here hx rfl (hb hby dj42_149_8) rfl rfl k) ?_
  show oG _ _ _ _ (T101.setTop (mkF m 9 #[.val (.ref a1), .val (.ref a2), .val (.int (0 : Int32)), .val (.int (0 : Int32)), .val .null, .unset] [(.ref a1)]))
  obtain ⟨a102, T102, h102, kk102, t102, kb102, X102, e102, E102, hS102, hk102, hZ102, hown102, A102, C102, V102, B102, la102, lb102, ch102, Li102, sf102, st102⟩ := ldcCH X101 hx hZ hown (own_w hw 23 rfl) wS e101 hS0 (by omega) hEL (by decide) R0.1 (vs := []) (z := (0 : Int32)) (by decide) (by decide) (by decide) (g := (mkF m 9 #[.val (.ref a1), .val (.ref a2), .val (.int (0 : Int32)), .val (.int (0 : Int32)), .val .null, .unset] [(.ref a1)])) rfl (hb hby dj42_149_9) (n := 0) (by decide) (by decide) (by decide) (by decide)
  refine oG.st st102 ?_
  have z102 : h0.size ≤ h102.size := E102.1
  have la102' : @LT.lt Nat _ a102 h102.size := la102
  have lb102' : @LT.lt Nat _ t102 h102.size := lb102
  have R102 : CHr Z consts_1 s.vm h0 T102.vm h102 := R0.trans ch102
  have fT102 : own_Str Z h102 a102 t102 ([] : List Int32) := ⟨kb102, 0, (0 : Int32), [], A102, V102, C102, B102, Or.inl ⟨rfl, rfl, rfl, (by decide)⟩, (by decide), (by decide)⟩
  show oG _ _ _ _ (T102.setTop (mkF m 11 #[.val (.ref a1), .val (.ref a2), .val (.int (0 : Int32)), .val (.int (0 : Int32)), .val .null, .unset] [(.ref a102), (.ref a1)]))
  obtain ⟨T103, X103, e103, st103⟩ := getF X102 hx hZ102 hown102 (host := "") (Or.inl (own_w hw 29 rfl)) Via.refl e102 V102 (g := (mkF m 11 #[.val (.ref a1), .val (.ref a2), .val (.int (0 : Int32)), .val (.int (0 : Int32)), .val .null, .unset] [(.ref a102), (.ref a1)])) rfl rfl (hb hby dj42_149_11)
  refine oG.st st103 ?_
  show oG _ _ _ _ (T103.setTop (mkF m 14 #[.val (.ref a1), .val (.ref a2), .val (.int (0 : Int32)), .val (.int (0 : Int32)), .val .null, .unset] [(.ref t102), (.ref a1)]))
  have f104 : Fld Z h102 a1 "java/lang/String" "value" "[B" .null := p1_.ext E102
  have f105 : Exa Z h102 a1 "java/lang/String" := p0_.ext E102
  obtain ⟨T106, h106, X106, e106, W106, st106⟩ := putF X103 hx hZ102 hown102 (host := "") (Or.inl (own_w hw 29 rfl)) Via.refl e103 f104 f105 (Or.inr ⟨(own_w hw 25 rfl), rfl, hnm⟩) (own_w hw 10 rfl) (ty := (.array .byte)) (by decide) rfl rfl (g := (mkF m 14 #[.val (.ref a1), .val (.ref a2), .val (.int (0 : Int32)), .val (.int (0 : Int32)), .val .null, .unset] [(.ref t102), (.ref a1)])) rfl rfl (hb hby dj42_149_14)
  refine oG.st st106 ?_
  have N106 := Fr.snoc X106 N0 (by omega)
  have Sf108 : Safe Z consts_1 T102.vm h102 a1 := own_safeNull hZ102.alike f105 f104
  have z106 : h102.size ≤ h106.size := Nat.le_of_eq W106.size.symm
  have f107 : Fld Z h106 a1 "java/lang/String" "value" "[B" (.ref t102) := f104.same W106
  have R106 : CHr Z consts_1 s.vm h0 T102.vm h106 := R102.trans (CHr.wr W106 Sf108 R102.1)
  have Sf109 : Safe Z consts_1 T102.vm h106 a1 := Safe.wr W106 Sf108 R102.1 Sf108
  refine oG.st (fun _ k => XS.aloadN X106.here hx rfl (hb hby dj42_149_17) rfl rfl k) ?_
  show oG _ _ _ _ (T106.setTop (mkF m 18 #[.val (.ref a1), .val (.ref a2), .val (.int (0 : Int32)), .val (.int (0 : Int32)), .val .null, .unset] [(.ref a1)]))
  obtain ⟨a110, T110, h110, kk110, t110, kb110, X110, e110, E110, hS110, hk110, hZ110, hown110, A110, C110, V110, B110, la110, lb110, ch110, Li110, sf110, st110⟩ := ldcCH X106 hx hZ102 hown102 (own_w hw 23 rfl) wS e106 hS102 (by omega) hEL (by decide) R106.1 (vs := []) (z := (0 : Int32)) (by decide) (by decide) (by decide) (g := (mkF m 18 #[.val (.ref a1), .val (.ref a2), .val (.int (0 : Int32)), .val (.int (0 : Int32)), .val .null, .unset] [(.ref a1)])) rfl (hb hby dj42_149_18) (n := 0) (by decide) (by decide) (by decide) (by decide)
  refine oG.st st110 ?_
  have z110 : h106.size ≤ h110.size := E110.1
  have la110' : @LT.lt Nat _ a110 h110.size := la110
  have lb110' : @LT.lt Nat _ t110 h110.size := lb110
  have R110 : CHr Z consts_1 s.vm h0 T110.vm h110 := R106.trans ch110
  have Sf111 : Safe Z consts_1 T110.vm h110 a1 := ch110.safe (by show @LT.lt Nat _ a1 _; omega) Sf109
  have fT110 : own_Str Z h110 a110 t110 ([] : List Int32) := ⟨kb110, 0, (0 : Int32), [], A110, V110, C110, B110, Or.inl ⟨rfl, rfl, rfl, (by decide)⟩, (by decide), (by decide)⟩
  have nl112 := sf110 a1 Sf111
  have nl112a : @Ne Nat a1 a110 := nl112.1
  have nl112b : @Ne Nat a1 t110 := nl112.2
  show oG _ _ _ _ (T110.setTop (mkF m 20 #[.val (.ref a1), .val (.ref a2), .val (.int (0 : Int32)), .val (.int (0 : Int32)), .val .null, .unset] [(.ref a110), (.ref a1)]))
  obtain ⟨T113, X113, e113, st113⟩ := getF X110 hx hZ110 hown110 (host := "") (Or.inl (own_w hw 30 rfl)) Via.refl e110 C110 (g := (mkF m 20 #[.val (.ref a1), .val (.ref a2), .val (.int (0 : Int32)), .val (.int (0 : Int32)), .val .null, .unset] [(.ref a110), (.ref a1)])) rfl rfl (hb hby dj42_149_20)
  refine oG.st st113 ?_
  show oG _ _ _ _ (T113.setTop (mkF m 23 #[.val (.ref a1), .val (.ref a2), .val (.int (0 : Int32)), .val (.int (0 : Int32)), .val .null, .unset] [(.int 0), (.ref a1)]))
  have f114 : Fld Z h102 a1 "java/lang/String" "coder" "B" (.int (0 : Int32)) := p2_.ext E102
  have f115 : Fld Z h106 a1 "java/lang/String" "coder" "B" (.int (0 : Int32)) := f114.other W106 (Or.inr (slot_ne (Or.inr (own_w hw 26 rfl)) (Or.inr (own_w hw 25 rfl)) (by decide) (t := .byte) (t' := (.array .byte)) (by decide) (by decide)))
  have f116 : Fld Z h110 a1 "java/lang/String" "coder" "B" (.int (0 : Int32)) := f115.ext E110
  have f117 : Exa Z h106 a1 "java/lang/String" := f105.wr W106
  have f118 : Exa Z h110 a1 "java/lang/String" := f117.ext E110
  obtain ⟨T119, h119, X119, e119, W119, st119⟩ := putF X113 hx hZ110 hown110 (host := "") (Or.inl (own_w hw 30 rfl)) Via.refl e113 f116 f118 (Or.inr ⟨(own_w hw 26 rfl), rfl, hnm⟩) (own_w hw 10 rfl) (ty := .byte) (by decide) rfl (by decide) (g := (mkF m 23 #[.val (.ref a1), .val (.ref a2), .val (.int (0 : Int32)), .val (.int (0 : Int32)), .val .null, .unset] [(.int 0), (.ref a1)])) rfl rfl (hb hby dj42_149_23)
  refine oG.st st119 ?_
  have N119 := Fr.snoc X119 N106 (by omega)
  have z119 : h110.size ≤ h119.size := Nat.le_of_eq W119.size.symm
  have f120 : Fld Z h119 a1 "java/lang/String" "coder" "B" (.int 0) := f116.same W119
  have R119 : CHr Z consts_1 s.vm h0 T110.vm h119 := R110.trans (CHr.wr W119 Sf111 R110.1)
  have Sf121 : Safe Z consts_1 T110.vm h119 a1 := Safe.wr W119 Sf111 R110.1 Sf111
  show oG _ _ _ _ (T119.setTop (mkF m 26 #[.val (.ref a1), .val (.ref a2), .val (.int (0 : Int32)), .val (.int (0 : Int32)), .val .null, .unset] []))
  obtain ⟨fs122, hr122, hrun122, hend122, hret122⟩ := X119.leaveW hS110 (by rw [e119]; exact (by omega)) (v := none) (fun _ => rfl)
  have f123 : Fld Z h110 a1 "java/lang/String" "value" "[B" (.ref t102) := f107.ext E110
  have f124 : Fld Z h119 a1 "java/lang/String" "value" "[B" (.ref t102) := f123.other W119 (Or.inr (slot_ne (Or.inr (own_w hw 25 rfl)) (Or.inr (own_w hw 26 rfl)) (by decide) (t := (.array .byte)) (t' := .byte) (by decide) (by decide)))
  have f125 : Exa Z h119 a1 "java/lang/String" := f118.wr W119
  have ne126 : @Ne Nat a1 t102 := Exa.neArv f105 B102 (own_w hw 10 rfl)
  have f127 : Arv Z h106 t102 kb102 .byte (0 : Int32) [] (.int 0) := B102.other W106 (Ne.symm ne126)
  have f128 : Arv Z h110 t102 kb102 .byte (0 : Int32) [] (.int 0) := f127.ext E110
  have f129 : Arv Z h119 t102 kb102 .byte (0 : Int32) [] (.int 0) := f128.other W119 (Ne.symm ne126)
  have K130 : Keep h0 h102 [a1] := (Keep.refl h0 [a1]).ext E102
  have K131 : Keep h0 h106 [a1] := K130.wr W106 (Or.inl (List.mem_of_getElem? (i := 0) rfl))
  have K132 : Keep h0 h110 [a1] := K131.ext E110
  have K133 : Keep h0 h119 [a1] := K132.wr W119 (Or.inl (List.mem_of_getElem? (i := 0) rfl))
  subst hPP
  refine ⟨_, _, X119.returnOut hx Bd.returns (hb hby dj42_149_26) hr122, hrun122, hend122, _, _, rfl, ?_, ?_, hret122.1, hret122.2.1, hret122.2.2.1, hret122.2.2.2.mono (by decide) (by decide)⟩
  · show Q_init4e Z _ _ h0 _ T119.heap _
    rw [e119]
    exact ⟨t102, rfl, N119, K133, ⟨kb102, 0, 0, [], f125, f124, f120, f129, Or.inl ⟨rfl, rfl, rfl, own_a0⟩, own_a0, by decide⟩⟩
  · have hfin := R119.trans (CHv.at X119 hZ110 hEL R119.1)
    rw [← hh] at hfin
    show CHr Z consts_1 s.vm s.heap T119.vm T119.heap
    rw [e119]
    exact hfin
theorem ef_15 (m : MethodId) (x0 : Nat) (x1 : Nat) : entryFrame m #[(.ref x0), (.ref x1)] 2 = mkF m 0 #[.val (.ref x0), .val (.ref x1)] [] := by first | (simp [entryFrame, mkF, argsToLocals, Value.category]; done) | rfl
theorem dj42_3_0 : decode cJ11 0 = .ok (.aload_n 0, 1) := by decide +kernel
theorem dj42_3_1 : decode cJ11 1 = .ok (.aload_n 1, 1) := by decide +kernel
theorem dj42_3_2 : decode cJ11 2 = .ok (.iconst 0, 1) := by decide +kernel
theorem dj42_3_3 : decode cJ11 3 = .ok (.aload_n 1, 1) := by decide +kernel
theorem dj42_3_4 : decode cJ11 4 = .ok (.arraylength, 1) := by decide +kernel
theorem dj42_3_5 : decode cJ11 5 = .ok (.aconst_null, 1) := by decide +kernel
theorem pd_22 : parseMethodDescriptor "([CIILjava/lang/Void;)V" = some ⟨[(.array .char), .int, .int, (.object "java/lang/Void")], none⟩ := by decide +kernel
theorem dj42_3_6 : decode cJ11 6 = .ok (.invokespecial 27, 3) := by decide +kernel
theorem dj42_3_9 : decode cJ11 9 = .ok (.return_, 1) := by decide +kernel
def Q_init1e (Z : State) (a1 : Nat) (a2 : Nat) (k : ClassId) (vs : List Value) (d : Value) (h0 : Heap) (v : Option Value) (h : Heap) (L : List Loc) : Prop := ∃ (t : Nat), v = none ∧ Fr Z.heap.size L ∧ Keep h0 h [a1] ∧ own_Str Z h a1 t []
set_option maxRecDepth 65536 in
set_option maxHeartbeats 40000000 in
theorem rm_init1e (l : Launch) (Z : State) (a0 : Array Value) (hw : ∀ d ∈ tables_1, d.before a0 Z = true) (ws : List Jvm.Cond) (a1 : Nat) (a2 : Nat) (k : ClassId) (vs : List Value) (d : Value) (h0 : Heap) (hEL : EW Z a0 consts_1) (OL : Old Z Z.heap.size h0) (p0_ : Exa Z h0 a1 "java/lang/String") (p1_ : Fld Z h0 a1 "java/lang/String" "value" "[B" .null) (p2_ : Fld Z h0 a1 "java/lang/String" "coder" "B" (.int (0 : Int32))) (p3_ : Arv Z h0 a2 k .char (0 : Int32) vs d) (hn0 : Z.heap.size ≤ a1) :
    MetFree l mN6 (head1 (Jvm.Cond.code mN6 jdk_42_method_3_code 2 none :: ws) rM13) (fun a U => a = #[(.ref a1), (.ref a2)] ∧ Z.Warmed39 U.vm ∧ U.heap = h0 ∧ CHv Z consts_1 U.vm h0) (fun _ _ _ _ _ => True) (fun _ U o U' => ∃ v L, o = .returned v ∧ Q_init1e Z a1 a2 k vs d h0 v U'.heap L ∧ CHr Z consts_1 U.vm U.heap U'.vm U'.heap ∧ ReturnedEndW U o U' L rM13.cells rM13.slots) := by
  refine MetFree.of_bodySF (plainFor_of_name pn_0) hisR ?_
  intro p e s m args below meth c s₁ Bd hml0 hP hK
  obtain ⟨rfl, hZ, hh, hC0⟩ := hP
  have hx := Bd.exec
  have hby := Bd.bytes
  have hml : c.maxLocals = 2 := hml0
  have hown : s.vm.findClass "java/lang/String" = some m.cls := findClass_of_methodNamed Bd.named
  have hnm := (name_of_methodNamed Bd.named Bd.method).1
  have X0 : Stand p l e rM13 (s.setVm s.vm) m #[(.ref a1), (.ref a2)] below meth c s₁ [] 0 0 := Stand.of_body Bd
  have e0 : s₁.heap = h0 := by rw [← hh, Bd.state]; rfl
  have N0 := Fr.nil Z.heap.size
  have Z0 : Z.heap.size ≤ h0.size := OL.2.1
  have hS0 : s.Since s.vm h0.size := (State.WarmedH.refl s).since _
  have wS := own_wS hw
  have R0 : CHr Z consts_1 s.vm h0 s.vm h0 := CHr.refl hC0
  have lt_0 : @LT.lt Nat _ a1 h0.size := p0_.lt
  have lt_1 : @LT.lt Nat _ a1 h0.size := p1_.lt
  have lt_2 : @LT.lt Nat _ a1 h0.size := p2_.lt
  have lt_3 : @LT.lt Nat _ a2 h0.size := p3_.lt
  show oG p.tables e below (fun o tE => ∃ v L, o = .returned v ∧ Q_init1e Z a1 a2 k vs d h0 v tE.heap L ∧ CHr Z consts_1 s.vm s.heap tE.vm tE.heap ∧ ReturnedEndW s o tE L rM13.cells rM13.slots) (s₁.setTop (entryFrame m #[(.ref a1), (.ref a2)] 2))
  refine own_hd (fun PP hPP => ?_)
  refine oG.st (fun t k => castTop (ef_15 m a1 a2) k) ?_
  refine oG.st (fun _ k => XS.aloadN X0.here hx rfl (hb hby dj42_3_0) rfl rfl (XS.aloadN X0.here hx rfl (hb hby dj42_3_1) rfl rfl (XS.iconst X0.here hx rfl (hb hby dj42_3_2) (XS.aloadN X0.here hx rfl (hb hby dj42_3_3) rfl rfl k)))) ?_
  show oG _ _ _ _ (s₁.setTop (mkF m 4 #[.val (.ref a1), .val (.ref a2)] [(.ref a2), (.int (0 : Int32)), (.ref a2), (.ref a1)]))
  obtain ⟨c134, Ar134, q134, S134, Nn134, H134, G134⟩ := id p3_
  refine oG.st (X0.arraylength hx (own_rwE e0 Ar134.1) (State.isArrayOf_alike hZ.alike Ar134.2.1) (g := (mkF m 4 #[.val (.ref a1), .val (.ref a2)] [(.ref a2), (.int (0 : Int32)), (.ref a2), (.ref a1)])) rfl rfl (hb hby dj42_3_4)) ?_
  rw [len_of S134 Nn134]
  refine oG.st (fun _ k => XS.aconstNull X0.here hx rfl (hb hby dj42_3_5) k) ?_
  show oG _ _ _ _ (s₁.setTop (mkF m 6 #[.val (.ref a1), .val (.ref a2)] [.null, (.int (0 : Int32)), (.int (0 : Int32)), (.ref a2), (.ref a1)]))
  obtain ⟨_, _, ⟨T135, L135, k135, n135⟩, -, X135, hs135, hg135, ⟨Lc135, hQ135, l135, y135, z135, ch135⟩, st135⟩ := X0.specialBackS hx (y := mN7) rfl hown (own_v hZ hw 16 rfl) (own_v hZ hw 17 rfl) (own_v hZ hw 19 rfl) (by decide) (backOfSH (s := s) (vm0 := s.vm) (W := 0) (rm_init4e l Z a0 hw [] a1 a2 h0 hEL OL p0_ p1_ p2_ hn0) hZ (own_w hw 19 rfl) (own_w hw 11 rfl) (by decide) (by decide) hEL R0.1) (g := (mkF m 6 #[.val (.ref a1), .val (.ref a2)] [.null, (.int (0 : Int32)), (.int (0 : Int32)), (.ref a2), (.ref a1)])) rfl (by rw [hml]; rfl) (Steps.refl _) (a := a1) (argsL := [(.ref a2), (.int (0 : Int32)), (.int (0 : Int32)), .null]) (rest := []) (lenOf pd_22 rfl) rfl (by show 2 * 0 + _ ≤ _; exact Nat.le_of_eq rfl) (hb hby dj42_3_6) (fun _ _ => ⟨rfl, e0, (by decide : 0 + 4 ≤ _), (by decide : 0 + 8 ≤ _)⟩)
  dsimp only [Pt.U, Pt.locs, Pt.cells, Pt.slots] at X135 l135 y135 z135 st135 hQ135 hs135 hg135 ch135
  subst l135 y135 z135
  obtain ⟨t_135, rfl, N135q, K135, f135_0⟩ := hQ135
  have N135 := Fr.app N0 N135q
  obtain ⟨Y135, hS135, hZ135, hown135⟩ := rebS hS0 (n1 := h0.size) (by omega) X135 hs135 (by have := hg135; first | exact this | (rw [← e0]; exact this)) hZ hown
  have z135 : h0.size ≤ T135.heap.size := K135.1
  have R135 : CHr Z consts_1 s.vm h0 T135.vm T135.heap := R0.trans ch135
  have lt135_0 : @LT.lt Nat _ a1 T135.heap.size := f135_0.lt
  have ltv135_0 : @LT.lt Nat _ t_135 T135.heap.size := f135_0.ltv
  refine oG.tr st135 ?_
  show oG _ _ _ _ (T135.setTop (mkF m 9 #[.val (.ref a1), .val (.ref a2)] []))
  obtain ⟨fs136, hr136, hrun136, hend136, hret136⟩ := Y135.leaveW hS135 (by omega) (v := none) (fun _ => rfl)
  have K137 : Keep h0 T135.heap [a1] := (Keep.refl h0 [a1]).trans K135 (allS (Or.inl (List.mem_of_getElem? (i := 0) rfl)) all0)
  subst hPP
  refine ⟨_, _, Y135.returnOut hx Bd.returns (hb hby dj42_3_9) hr136, hrun136, hend136, _, _, rfl, ?_, ?_, hret136.1, hret136.2.1, hret136.2.2.1, hret136.2.2.2.mono (by decide) (by decide)⟩
  · show Q_init1e Z _ _ _ _ _ h0 _ T135.heap _
    exact ⟨t_135, rfl, N135, K137, f135_0⟩
  · have hfin := R135.trans (CHv.at Y135 hZ135 hEL R135.1)
    rw [← hh] at hfin
    show CHr Z consts_1 s.vm s.heap T135.vm T135.heap
    exact hfin

theorem own_of {i : Nat} (h : i < 2147483648) : (Int32.ofNat i).toInt = i := Int32.toInt_ofNat_small h
theorem own_ofn {i : Nat} (h : i < 2147483648) : (Int32.ofNat i).toNatClampNeg = i := by
  have := own_of h
  simp only [Int32.toNatClampNeg, this]
  omega
theorem own_of0 {i : Nat} (h : i < 2147483648) : ¬ (Int32.ofNat i) < 0 := by
  have := own_of h
  have e0 : (0 : Int32).toInt = 0 := by decide
  rw [Int32.lt_iff_toInt_lt, this, e0]
  omega
theorem own_oflt {i j : Nat} (hi : i < 2147483648) (hj : j < 2147483648) : (Int32.ofNat i) < (Int32.ofNat j) ↔ i < j := by
  rw [Int32.lt_iff_toInt_lt, own_of hi, own_of hj]
  omega
theorem own_ofS {i : Nat} (h : i < 1073741823) : Int32.ofNat i + (1 : Int32) = Int32.ofNat (i + 1) := by
  apply Int32.toInt_inj.mp
  have a := c_iadd (Int32.ofNat i) 1
  have b := own_of (i := i) (by omega)
  have c := own_of (i := i + 1) (by omega)
  have r := rng32 (Int32.ofNat i + 1)
  have e1 : (1 : Int32).toInt = 1 := by decide
  omega
theorem own_getD {cs : List Int32} {i : Nat} (hi : i < cs.length) (hl : cs.length ≤ 4000) (d : Value) : (cs.map Value.int).getD (Int32.ofNat i).toNatClampNeg d = .int (cs.getD i 0) := by
  rw [own_ofn (by omega)]
  simp [List.getD_eq_getElem?_getD, hi]
theorem own_arvAny {Z : State} {h h' : Heap} {a : Addr} {k : ClassId} {ty : FieldType} {n j : Int32} {vs : List Value} {d v : Value} (F : Arv Z h a k ty n vs d) (hv : fits ty v = true) (hj : ¬ j < 0 ∧ j < n) (W : Wr h h' a j.toNatClampNeg v) : ∃ vs', Arv Z h' a k ty n vs' d := by
  have F' := F.pad (pad_rep vs d (j.toNatClampNeg + 1))
  obtain ⟨c, A, q1, S, q3, H, G⟩ := F'
  exact ⟨_, Arv.set A q1 S q3 H G hv W j.toNatClampNeg rfl (by simp only [List.length_append, List.length_replicate]; omega)⟩


theorem own_shl1 {i : Nat} (h : i < 1000000) : (Int32.ofNat i) <<< ((1 : Int32) &&& 31) = Int32.ofNat (2 * i) := by
  apply Int32.toInt_inj.mp
  have a := c_ishl (Int32.ofNat i) 1 1 (by decide)
  have b := own_of (i := i) (by omega)
  have c := own_of (i := 2 * i) (by omega)
  have r := rng32 (Int32.ofNat i <<< ((1 : Int32) &&& 31))
  omega
theorem own_wlen (cs : List Int32) : (StrChars.Road.wideBytes cs).length = 2 * cs.length := by
  induction cs with
  | nil => rfl
  | cons c r ih => simp only [StrChars.Road.wideBytes, List.length_cons, ih]; omega
theorem own_cfal {i : Nat} (h : 0 < i ∧ i ≤ 4000) : nar .byte ((((Int32.ofNat i - Int32.ofNat (2 * i)).toUInt32 >>> ((31 : Int32) &&& 31).toUInt32).toInt32).toInt8.toInt32) = 1 := by
  have a := c_isub (Int32.ofNat i) (Int32.ofNat (2 * i))
  have b := own_of (i := i) (by omega)
  have c := own_of (i := 2 * i) (by omega)
  have r := rng32 (Int32.ofNat i - Int32.ofNat (2 * i))
  have s := c_iushr (Int32.ofNat i - Int32.ofNat (2 * i)) 31 31 (by decide) (by decide)
  have t := c_i2b (((Int32.ofNat i - Int32.ofNat (2 * i)).toUInt32 >>> ((31 : Int32) &&& 31).toUInt32).toInt32)
  have u := c_i2b ((((Int32.ofNat i - Int32.ofNat (2 * i)).toUInt32 >>> ((31 : Int32) &&& 31).toUInt32).toInt32).toInt8.toInt32)
  apply Int32.toInt_inj.mp
  have e1 : (1 : Int32).toInt = 1 := by decide
  simp only [nar]
  omega
theorem own_i2b2 (x : Int32) : (x.toInt8.toInt32).toInt8.toInt32 = x.toInt8.toInt32 := by simp
theorem own_narB (x : Int32) : nar .byte (x.toInt8.toInt32) = StrChars.lo8 x := by
  show (x.toInt8.toInt32).toInt8.toInt32 = x.toInt8.toInt32
  simp
theorem own_setget {vs : List Value} {i j : Nat} {v d : Value} (h : i < vs.length) : (vs.set i v).getD j d = if i = j then v else vs.getD j d := by
  simp only [List.getD_eq_getElem?_getD, List.getElem?_set]
  split
  · rename_i q; subst q; simp [h]
  · rfl
theorem own_wide (cs : List Int32) (d : Value) : ∀ (vs : List Value), vs.length = 2 * cs.length → (∀ j, j < cs.length → vs.getD (2 * j) d = .int (StrChars.lo8 (cs.getD j 0)) ∧ vs.getD (2 * j + 1) d = .int (StrChars.hi8 (cs.getD j 0))) → vs = StrChars.Road.wideBytes cs := by
  induction cs with
  | nil => intro vs h _; simp at h; subst h; rfl
  | cons c r ih =>
    intro vs h q
    match vs, h with
    | a :: b :: t, h =>
      have q0 := q 0 (by simp)
      have e1 : a = .int (StrChars.lo8 c) := by simpa using q0.1
      have e2 : b = .int (StrChars.hi8 c) := by simpa using q0.2
      have e3 : t = StrChars.Road.wideBytes r := ih t (by simp at h; omega) (fun j hj => by
        have := q (j + 1) (by simp; omega)
        have w1 : 2 * (j + 1) = 2 * j + 1 + 1 := by omega
        rw [w1] at this
        simpa using this)
      rw [e1, e2, e3]
      rfl
    | [a], h => simp at h; omega
    | [], h => simp at h

theorem pn_25 : plainName "java/lang/StringUTF16" = true := by first | (simp [plainName, overriddenIn]; done) | decide +kernel
theorem ef_26 (m : MethodId) (x0 : Nat) (x1 : Int32) (x2 : Nat) (x3 : Int32) (x4 : Int32) : entryFrame m #[(.ref x0), (.int x1), (.ref x2), (.int x3), (.int x4)] 7 = mkF m 0 #[.val (.ref x0), .val (.int x1), .val (.ref x2), .val (.int x3), .val (.int x4), .unset, .unset] [] := by first | (simp [entryFrame, mkF, argsToLocals, Value.category]; done) | rfl
theorem dj52_21_0 : decode cJ24 0 = .ok (.iconst 0, 1) := by decide +kernel
theorem dj52_21_1 : decode cJ24 1 = .ok (.istore 5, 2) := by decide +kernel
theorem dj52_21_3 : decode cJ24 3 = .ok (.iload 5, 2) := by decide +kernel
theorem dj52_21_5 : decode cJ24 5 = .ok (.iload 4, 2) := by decide +kernel
theorem dj52_21_7 : decode cJ24 7 = .ok (.if_icmp .ge 37, 3) := by decide +kernel
theorem dj52_21_10 : decode cJ24 10 = .ok (.aload_n 0, 1) := by decide +kernel
theorem dj52_21_11 : decode cJ24 11 = .ok (.iload_n 1, 1) := by decide +kernel
theorem dj52_21_12 : decode cJ24 12 = .ok (.caload, 1) := by decide +kernel
theorem dj52_21_13 : decode cJ24 13 = .ok (.istore 6, 2) := by decide +kernel
theorem dj52_21_15 : decode cJ24 15 = .ok (.iload 6, 2) := by decide +kernel
theorem dj52_21_17 : decode cJ24 17 = .ok (.sipush 255, 3) := by decide +kernel
theorem dj52_21_20 : decode cJ24 20 = .ok (.if_icmp .le 6, 3) := by decide +kernel
theorem dj52_21_23 : decode cJ24 23 = .ok (.iload 5, 2) := by decide +kernel
theorem dj52_21_25 : decode cJ24 25 = .ok (.ireturn, 1) := by decide +kernel
theorem dj52_21_26 : decode cJ24 26 = .ok (.aload_n 2, 1) := by decide +kernel
theorem dj52_21_27 : decode cJ24 27 = .ok (.iload_n 3, 1) := by decide +kernel
theorem dj52_21_28 : decode cJ24 28 = .ok (.iload 6, 2) := by decide +kernel
theorem dj52_21_30 : decode cJ24 30 = .ok (.i2b, 1) := by decide +kernel
theorem dj52_21_31 : decode cJ24 31 = .ok (.bastore, 1) := by decide +kernel
theorem dj52_21_32 : decode cJ24 32 = .ok (.iinc 1 1, 3) := by decide +kernel
theorem dj52_21_35 : decode cJ24 35 = .ok (.iinc 3 1, 3) := by decide +kernel
theorem dj52_21_38 : decode cJ24 38 = .ok (.iinc 5 1, 3) := by decide +kernel
theorem dj52_21_41 : decode cJ24 41 = .ok (.goto (-38), 3) := by decide +kernel
def Q_cmp5 (Z : State) (a1 : Nat) (a3 : Nat) (nn : Int32) (cs : List Int32) (k1 : ClassId) (d1 : Value) (k3 : ClassId) (vs3 : List Value) (d3 : Value) (h0 : Heap) (v : Option Value) (h : Heap) (L : List Loc) : Prop := ∃ (f : Nat), ∃ (vs4 : List Value), v = some (.int (Int32.ofNat f)) ∧ Fr Z.heap.size L ∧ Keep h0 h [a3] ∧ Arv Z h a3 k3 .byte nn vs4 d3 ∧ (f < cs.length) ∧ ((255 : Int32) < cs.getD f 0)
set_option maxRecDepth 65536 in
set_option maxHeartbeats 40000000 in
theorem rm_cmp5 (l : Launch) (Z : State) (a0 : Array Value) (hw : ∀ d ∈ tables_1, d.before a0 Z = true) (ws : List Jvm.Cond) (a1 : Nat) (a3 : Nat) (nn : Int32) (cs : List Int32) (k1 : ClassId) (d1 : Value) (k3 : ClassId) (vs3 : List Value) (d3 : Value) (h0 : Heap) (OL : Old Z Z.heap.size h0) (p0_ : Arv Z h0 a1 k1 .char nn (cs.map Value.int) d1) (p1_ : Arv Z h0 a3 k3 .byte nn vs3 d3) (hnn : nn = Int32.ofNat cs.length) (hle : cs.length ≤ 4000) (hbig : ∃ c ∈ cs, (255 : Int32) < c) (hn0 : Z.heap.size ≤ a3) :
    MetFree l mN28 (head1 (Jvm.Cond.code mN28 jdk_52_method_21_code 7 (some .int) :: ws) rM0) (fun a U => a = #[(.ref a1), (.int (0 : Int32)), (.ref a3), (.int (0 : Int32)), (.int nn)] ∧ Z.Warmed39 U.vm ∧ U.heap = h0) (fun _ _ _ _ _ => True) (fun _ U o U' => ∃ v L, o = .returned v ∧ Q_cmp5 Z a1 a3 nn cs k1 d1 k3 vs3 d3 h0 v U'.heap L ∧ FrameEnd U o U' L rM0.cells rM0.slots) := by
  refine MetFree.of_bodySF (plainFor_of_name pn_25) hisR ?_
  intro p e s m args below meth c s₁ Bd hml0 hP hK
  obtain ⟨rfl, hZ, hh⟩ := hP
  have hx := Bd.exec
  have hby := Bd.bytes
  have hml : c.maxLocals = 7 := hml0
  have hown : s.vm.findClass "java/lang/StringUTF16" = some m.cls := findClass_of_methodNamed Bd.named
  have hnm := (name_of_methodNamed Bd.named Bd.method).1
  have X0 : Stand p l e rM0 s m #[(.ref a1), (.int (0 : Int32)), (.ref a3), (.int (0 : Int32)), (.int nn)] below meth c s₁ [] 0 0 := Stand.of_body Bd
  have e0 : s₁.heap = h0 := by rw [← hh, Bd.state]; rfl
  have N0 := Fr.nil Z.heap.size
  have Z0 : Z.heap.size ≤ h0.size := OL.2.1
  have lt_0 : @LT.lt Nat _ a1 h0.size := p0_.lt
  have lt_1 : @LT.lt Nat _ a3 h0.size := p1_.lt
  show oG p.tables e below (fun o tE => ∃ v L, o = .returned v ∧ Q_cmp5 Z a1 a3 nn cs k1 d1 k3 vs3 d3 h0 v tE.heap L ∧ FrameEnd s o tE L rM0.cells rM0.slots) (s₁.setTop (entryFrame m #[(.ref a1), (.int (0 : Int32)), (.ref a3), (.int (0 : Int32)), (.int nn)] 7))
  refine own_hd (fun PP hPP => ?_)
  refine oG.st (fun t k => castTop (ef_26 m a1 (0 : Int32) a3 (0 : Int32) nn) k) ?_
  refine oG.st (fun _ k => XS.iconst X0.here hx rfl (hb hby dj52_21_0) (XS.istore X0.here hx rfl (hb hby dj52_21_1) rfl (l' := #[.val (.ref a1), .val (.int (0 : Int32)), .val (.ref a3), .val (.int (0 : Int32)), .val (.int nn), .val (.int (0 : Int32)), .unset]) rfl k)) ?_
  show oG _ _ _ _ (s₁.setTop (mkF m 3 #[.val (.ref a1), .val (.int (0 : Int32)), .val (.ref a3), .val (.int (0 : Int32)), .val (.int nn), .val (.int (0 : Int32)), .unset] []))
  have LP138 : ∀ (nL : Nat) (i : Nat) (s6 : Slot) (vsL : List Value) (TL138 : State) (hL138 : Heap) (lL138 : List Loc), (i ≤ cs.length) → (One s6) → (∀ j, j < i → ¬ (255 : Int32) < cs.getD j 0) → (Stand p l e rM0 s m #[(.ref a1), (.int (0 : Int32)), (.ref a3), (.int (0 : Int32)), (.int nn)] below meth c TL138 lL138 0 0) → (TL138.heap = hL138) → (Fr Z.heap.size lL138) → (Keep h0 hL138 [a3]) → (Old Z Z.heap.size hL138) → (Arv Z hL138 a1 k1 .char nn (cs.map Value.int) d1) → (Arv Z hL138 a3 k3 .byte nn vsL d3) → cs.length - i = nL → oG p.tables e below PP (TL138.setTop (mkF m 3 #[.val (.ref a1), .val (.int (Int32.ofNat i)), .val (.ref a3), .val (.int (Int32.ofNat i)), .val (.int nn), .val (.int (Int32.ofNat i)), s6] [])) := by
    intro nL
    induction nL using Nat.strongRecOn with
    | _ nL ihL =>
      intro i s6 vsL TL138 hL138 lL138 hi hs6 hlow XL138 eL138 NL138 KL138 OL138 fL138_0 fL138_1 hmL
      have zL138 : h0.size ≤ hL138.size := KL138.1
      have ltL138_0 : @LT.lt Nat _ a1 hL138.size := fL138_0.lt
      have ltL138_1 : @LT.lt Nat _ a3 hL138.size := fL138_1.lt
      refine oG.st (fun _ k => XS.iload XL138.here hx rfl (hb hby dj52_21_3) rfl (XS.iload XL138.here hx rfl (hb hby dj52_21_5) rfl k)) ?_
      show oG _ _ _ _ (TL138.setTop (mkF m 7 #[.val (.ref a1), .val (.int (Int32.ofNat i)), .val (.ref a3), .val (.int (Int32.ofNat i)), .val (.int nn), .val (.int (Int32.ofNat i)), s6] [(.int nn), (.int (Int32.ofNat i))]))
      by_cases h7 : (Int32.ofNat i) < nn
      ·
        refine oG.st (fun _ k => XS.icmpNo XL138.here hx rfl (hb hby dj52_21_7) rfl (tlt h7).2.1 k) ?_
        have hi7 : i < cs.length := (own_oflt (by omega) (by omega)).mp (hnn ▸ h7)
        refine oG.st (fun _ k => XS.aloadN XL138.here hx rfl (hb hby dj52_21_10) rfl rfl (XS.iloadN XL138.here hx rfl (hb hby dj52_21_11) rfl k)) ?_
        show oG _ _ _ _ (TL138.setTop (mkF m 12 #[.val (.ref a1), .val (.int (Int32.ofNat i)), .val (.ref a3), .val (.int (Int32.ofNat i)), .val (.int nn), .val (.int (Int32.ofNat i)), s6] [(.int (Int32.ofNat i)), (.ref a1)]))
        obtain ⟨c139, Ar139, q139, S139, Nn139, H139, G139⟩ := id fL138_0
        have hin139 : ¬ ((Int32.ofNat i) < 0 ∨ c139.slots.size ≤ ((Int32.ofNat i)).toNatClampNeg) := inb_of S139 ⟨own_of0 (by omega), h7⟩
        have hat139 : c139.slots[((Int32.ofNat i)).toNatClampNeg]? = some (.int (cs.getD i 0)) := H139.at hin139 (own_getD hi7 hle _)
        refine oG.st (XL138.caload hx (j := (Int32.ofNat i)) (v := (.int (cs.getD i 0))) (own_rwE eL138 Ar139.1) (State.isArrayOf_alike hZ.alike Ar139.2.1) Ar139.2.2 hin139 hat139 (g := (mkF m 12 #[.val (.ref a1), .val (.int (Int32.ofNat i)), .val (.ref a3), .val (.int (Int32.ofNat i)), .val (.int nn), .val (.int (Int32.ofNat i)), s6] [(.int (Int32.ofNat i)), (.ref a1)])) rfl rfl (hb hby dj52_21_12)) ?_
        refine oG.st (fun _ k => XS.istoreS XL138.here hx rfl (hb hby dj52_21_13) rfl rfl hs6 (XS.iload XL138.here hx rfl (hb hby dj52_21_15) rfl (XS.sipush XL138.here hx rfl (hb hby dj52_21_17) k))) ?_
        show oG _ _ _ _ (TL138.setTop (mkF m 20 #[.val (.ref a1), .val (.int (Int32.ofNat i)), .val (.ref a3), .val (.int (Int32.ofNat i)), .val (.int nn), .val (.int (Int32.ofNat i)), .val (.int (cs.getD i 0))] [(.int (255 : Int32)), (.int (cs.getD i 0))]))
        by_cases hc140 : (255 : Int32) < (cs.getD i 0)
        ·
          refine oG.st (fun _ k => XS.icmpNo XL138.here hx rfl (hb hby dj52_21_20) rfl (tlt hc140).2.2.2 k) ?_
          refine oG.st (fun _ k => XS.iload XL138.here hx rfl (hb hby dj52_21_23) rfl k) ?_
          show oG _ _ _ _ (TL138.setTop (mkF m 25 #[.val (.ref a1), .val (.int (Int32.ofNat i)), .val (.ref a3), .val (.int (Int32.ofNat i)), .val (.int nn), .val (.int (Int32.ofNat i)), .val (.int (cs.getD i 0))] [(.int (Int32.ofNat i))]))
          obtain ⟨fs141, hr141, hrun141, hend141, hW141, hsm141⟩ := XL138.leave (v := some (.int (Int32.ofNat i))) (fun h => by rw [Bd.returns] at h; cases h)
          subst hPP
          refine ⟨_, _, own_retI XL138 hx Bd.returns (hb hby dj52_21_25) hr141, hrun141, hend141, _, _, rfl, ?_, ⟨_, rfl⟩, hW141, hsm141.mono (by decide) (by decide)⟩
          · show Q_cmp5 Z _ _ _ _ _ _ _ _ _ h0 _ TL138.heap _
            rw [eL138]
            exact ⟨i, vsL, rfl, NL138, KL138, fL138_1, hi7, hc140⟩
        ·
          refine oG.st (fun _ k => XS.icmpYes XL138.here hx rfl (pc0 := 20) (pc' := 26) rfl (hb hby dj52_21_20) rfl (flt hc140).2.2.2 (by decide) (by decide) k) ?_
          refine oG.st (fun _ k => XS.aloadN XL138.here hx rfl (hb hby dj52_21_26) rfl rfl (XS.iloadN XL138.here hx rfl (hb hby dj52_21_27) rfl (XS.iload XL138.here hx rfl (hb hby dj52_21_28) rfl (XS.i2b XL138.here hx rfl (hb hby dj52_21_30) rfl k)))) ?_
          show oG _ _ _ _ (TL138.setTop (mkF m 31 #[.val (.ref a1), .val (.int (Int32.ofNat i)), .val (.ref a3), .val (.int (Int32.ofNat i)), .val (.int nn), .val (.int (Int32.ofNat i)), .val (.int (cs.getD i 0))] [(.int ((cs.getD i 0).toInt8.toInt32)), (.int (Int32.ofNat i)), (.ref a3)]))
          obtain ⟨c142, Ar142, q142, S142, Nn142, H142, G142⟩ := id fL138_1
          have hin142 : ¬ ((Int32.ofNat i) < 0 ∨ c142.slots.size ≤ ((Int32.ofNat i)).toNatClampNeg) := inb_of S142 ⟨own_of0 (by omega), h7⟩
          obtain ⟨T142, h142, X142, e142, W142, st142⟩ := stB XL138 hx hZ eL138 Ar142 (j := (Int32.ofNat i)) hin142 (g := (mkF m 31 #[.val (.ref a1), .val (.int (Int32.ofNat i)), .val (.ref a3), .val (.int (Int32.ofNat i)), .val (.int nn), .val (.int (Int32.ofNat i)), .val (.int (cs.getD i 0))] [(.int ((cs.getD i 0).toInt8.toInt32)), (.int (Int32.ofNat i)), (.ref a3)])) rfl rfl (hb hby dj52_21_31)
          refine oG.st st142 ?_
          have N142 := Fr.snoc X142 NL138 (by omega)
          have z142 : hL138.size ≤ h142.size := Nat.le_of_eq W142.size.symm
          obtain ⟨vs145, f144⟩ := own_arvAny fL138_1 (fits_nar_byte _) ⟨own_of0 (by omega), h7⟩ W142
          refine oG.st (fun _ k => XS.iinc X142.here hx rfl (hb hby dj52_21_32) rfl (l' := #[.val (.ref a1), .val (.int ((Int32.ofNat i) + (1 : Int32))), .val (.ref a3), .val (.int (Int32.ofNat i)), .val (.int nn), .val (.int (Int32.ofNat i)), .val (.int (cs.getD i 0))]) rfl (XS.iinc X142.here hx rfl (hb hby dj52_21_35) rfl (l' := #[.val (.ref a1), .val (.int ((Int32.ofNat i) + (1 : Int32))), .val (.ref a3), .val (.int ((Int32.ofNat i) + (1 : Int32))), .val (.int nn), .val (.int (Int32.ofNat i)), .val (.int (cs.getD i 0))]) rfl (XS.iinc X142.here hx rfl (hb hby dj52_21_38) rfl (l' := #[.val (.ref a1), .val (.int ((Int32.ofNat i) + (1 : Int32))), .val (.ref a3), .val (.int ((Int32.ofNat i) + (1 : Int32))), .val (.int nn), .val (.int ((Int32.ofNat i) + (1 : Int32))), .val (.int (cs.getD i 0))]) rfl k))) ?_
          show oG _ _ _ _ (T142.setTop (mkF m 41 #[.val (.ref a1), .val (.int ((Int32.ofNat i) + (1 : Int32))), .val (.ref a3), .val (.int ((Int32.ofNat i) + (1 : Int32))), .val (.int nn), .val (.int ((Int32.ofNat i) + (1 : Int32))), .val (.int (cs.getD i 0))] []))
          rw [own_ofS (by omega : i < 1073741823)]
          refine oG.st (fun _ k => XS.goto X142.here hx rfl (pc0 := 41) (pc' := 3) rfl (hb hby dj52_21_41) (by decide) (by decide) k) ?_
          show oG _ _ _ _ (T142.setTop (mkF m 3 #[.val (.ref a1), .val (.int (Int32.ofNat (i + 1))), .val (.ref a3), .val (.int (Int32.ofNat (i + 1))), .val (.int nn), .val (.int (Int32.ofNat (i + 1))), .val (.int (cs.getD i 0))] []))
          have K146 : Keep h0 h142 [a3] := KL138.wr W142 (Or.inl (List.mem_of_getElem? (i := 0) rfl))
          have f147 : Old Z Z.heap.size h142 := OL138.wr W142 (by omega)
          have f148 : Arv Z h142 a1 k1 .char nn (cs.map Value.int) d1 := fL138_0.other W142 (own_arvTy p0_ p1_ (by decide))
          exact ihL _ (by omega) (i + 1) _ vs145 T142 h142 _ (by omega) (One.val rfl) (fun j hj => by rcases Nat.lt_succ_iff_lt_or_eq.mp hj with q | q; exact hlow j q; exact q ▸ hc140) X142 e142 N142 K146 f147 f148 f144 rfl
      ·
        refine oG.st (fun _ k => XS.icmpYes XL138.here hx rfl (pc0 := 7) (pc' := 44) rfl (hb hby dj52_21_7) rfl (flt h7).2.1 (by decide) (by decide) k) ?_
        exfalso
        obtain ⟨c, hc, hcb⟩ := hbig
        obtain ⟨j, hj, rfl⟩ := List.getElem_of_mem hc
        have h7' : ¬ i < cs.length := fun q => h7 (hnn ▸ (own_oflt (by omega) (by omega)).mpr q)
        exact hlow j (by omega) (by simpa [List.getD_eq_getElem?_getD, hj] using hcb)
  exact LP138 _ 0 .unset vs3 s₁ h0 _ (Nat.zero_le _) One.u (fun j hj => absurd hj (Nat.not_lt_zero j)) X0 e0 N0 (Keep.refl h0 [a3]) OL p0_ p1_ rfl
theorem ef_50 (m : MethodId) (x0 : Nat) (x1 : Int32) (x2 : Int32) : entryFrame m #[(.ref x0), (.int x1), (.int x2)] 3 = mkF m 0 #[.val (.ref x0), .val (.int x1), .val (.int x2)] [] := by first | (simp [entryFrame, mkF, argsToLocals, Value.category]; done) | rfl
theorem dj52_4_0 : decode cJ27 0 = .ok (.getstatic 44, 3) := by decide +kernel
theorem dj52_4_3 : decode cJ27 3 = .ok (.ifCond .ne 25, 3) := by decide +kernel
theorem dj52_4_28 : decode cJ27 28 = .ok (.iload_n 1, 1) := by decide +kernel
theorem dj52_4_29 : decode cJ27 29 = .ok (.iconst 1, 1) := by decide +kernel
theorem dj52_4_30 : decode cJ27 30 = .ok (.ishl, 1) := by decide +kernel
theorem dj52_4_31 : decode cJ27 31 = .ok (.istore_n 1, 1) := by decide +kernel
theorem dj52_4_32 : decode cJ27 32 = .ok (.aload_n 0, 1) := by decide +kernel
theorem dj52_4_33 : decode cJ27 33 = .ok (.iload_n 1, 1) := by decide +kernel
theorem dj52_4_34 : decode cJ27 34 = .ok (.iinc 1 1, 3) := by decide +kernel
theorem dj52_4_37 : decode cJ27 37 = .ok (.iload_n 2, 1) := by decide +kernel
theorem dj52_4_38 : decode cJ27 38 = .ok (.getstatic 59, 3) := by decide +kernel
theorem dj52_4_41 : decode cJ27 41 = .ok (.ishr, 1) := by decide +kernel
theorem dj52_4_42 : decode cJ27 42 = .ok (.i2b, 1) := by decide +kernel
theorem dj52_4_43 : decode cJ27 43 = .ok (.bastore, 1) := by decide +kernel
theorem dj52_4_44 : decode cJ27 44 = .ok (.aload_n 0, 1) := by decide +kernel
theorem dj52_4_45 : decode cJ27 45 = .ok (.iload_n 1, 1) := by decide +kernel
theorem dj52_4_46 : decode cJ27 46 = .ok (.iload_n 2, 1) := by decide +kernel
theorem dj52_4_47 : decode cJ27 47 = .ok (.getstatic 63, 3) := by decide +kernel
theorem dj52_4_50 : decode cJ27 50 = .ok (.ishr, 1) := by decide +kernel
theorem dj52_4_51 : decode cJ27 51 = .ok (.i2b, 1) := by decide +kernel
theorem dj52_4_52 : decode cJ27 52 = .ok (.bastore, 1) := by decide +kernel
theorem dj52_4_53 : decode cJ27 53 = .ok (.return_, 1) := by decide +kernel
def Q_putc (Z : State) (a1 : Nat) (p2 : Int32) (p3 : Int32) (i : Nat) (k : ClassId) (n : Int32) (vs : List Value) (d : Value) (h0 : Heap) (v : Option Value) (h : Heap) (L : List Loc) : Prop := v = none ∧ Fr Z.heap.size L ∧ Keep h0 h [a1] ∧ Arv Z h a1 k .byte n ((vs.set (2 * i) (.int (StrChars.lo8 p3))).set (2 * i + 1) (.int (StrChars.hi8 p3))) d
set_option maxRecDepth 65536 in
set_option maxHeartbeats 40000000 in
theorem rm_putc (l : Launch) (Z : State) (a0 : Array Value) (hw : ∀ d ∈ tables_1, d.before a0 Z = true) (ws : List Jvm.Cond) (a1 : Nat) (p2 : Int32) (p3 : Int32) (i : Nat) (k : ClassId) (n : Int32) (vs : List Value) (d : Value) (h0 : Heap) (OL : Old Z Z.heap.size h0) (p0_ : Arv Z h0 a1 k .byte n vs d) (st_A : Sta Z Z.heap "java/lang/StringUTF16" "$assertionsDisabled" "Z" (.int (1 : Int32))) (st_H : Sta Z Z.heap "java/lang/StringUTF16" "HI_BYTE_SHIFT" "I" (.int (0 : Int32))) (st_L : Sta Z Z.heap "java/lang/StringUTF16" "LO_BYTE_SHIFT" "I" (.int (8 : Int32))) (hp2 : p2 = Int32.ofNat i) (hin : 2 * i + 1 < vs.length) (hvl : n = Int32.ofNat vs.length) (hvs : vs.length ≤ 8000) (hn0 : Z.heap.size ≤ a1) :
    MetFree l mN35 (head1 (Jvm.Cond.code mN35 jdk_52_method_4_code 3 none :: ws) rM0) (fun a U => a = #[(.ref a1), (.int p2), (.int p3)] ∧ Z.Warmed39 U.vm ∧ U.heap = h0) (fun _ _ _ _ _ => True) (fun _ U o U' => ∃ v L, o = .returned v ∧ Q_putc Z a1 p2 p3 i k n vs d h0 v U'.heap L ∧ FrameEnd U o U' L rM0.cells rM0.slots) := by
  refine MetFree.of_bodySF (plainFor_of_name pn_25) hisR ?_
  intro p e s m args below meth c s₁ Bd hml0 hP hK
  obtain ⟨rfl, hZ, hh⟩ := hP
  have hx := Bd.exec
  have hby := Bd.bytes
  have hml : c.maxLocals = 3 := hml0
  have hown : s.vm.findClass "java/lang/StringUTF16" = some m.cls := findClass_of_methodNamed Bd.named
  have hnm := (name_of_methodNamed Bd.named Bd.method).1
  have X0 : Stand p l e rM0 s m #[(.ref a1), (.int p2), (.int p3)] below meth c s₁ [] 0 0 := Stand.of_body Bd
  have e0 : s₁.heap = h0 := by rw [← hh, Bd.state]; rfl
  have N0 := Fr.nil Z.heap.size
  have Z0 : Z.heap.size ≤ h0.size := OL.2.1
  have lt_0 : @LT.lt Nat _ a1 h0.size := p0_.lt
  show oG p.tables e below (fun o tE => ∃ v L, o = .returned v ∧ Q_putc Z a1 p2 p3 i k n vs d h0 v tE.heap L ∧ FrameEnd s o tE L rM0.cells rM0.slots) (s₁.setTop (entryFrame m #[(.ref a1), (.int p2), (.int p3)] 3))
  refine own_hd (fun PP hPP => ?_)
  refine oG.st (fun t k => castTop (ef_50 m a1 p2 p3) k) ?_
  subst hp2
  show oG _ _ _ _ (s₁.setTop (mkF m 0 #[.val (.ref a1), .val (.int (Int32.ofNat i)), .val (.int p3)] []))
  obtain ⟨T149, X149, e149, st149⟩ := getS2 X0 hx hZ hown (host := "") (Or.inl (own_w hw 117 rfl)) Via.refl e0 (st_A.ext OL.2) (g := (mkF m 0 #[.val (.ref a1), .val (.int (Int32.ofNat i)), .val (.int p3)] [])) rfl (hb hby dj52_4_0)
  refine oG.st st149 ?_
  show oG _ _ _ _ (T149.setTop (mkF m 3 #[.val (.ref a1), .val (.int (Int32.ofNat i)), .val (.int p3)] [(.int (1 : Int32))]))
  refine oG.st (fun _ k => XS.ifYes X149.here hx rfl (pc0 := 3) (pc' := 28) rfl (hb hby dj52_4_3) rfl ((if0 _ _).trans (feq (by decide : ¬ ((1 : Int32) = (0 : Int32)))).2) (by decide) (by decide) k) ?_
  refine oG.st (fun _ k => XS.iloadN X149.here hx rfl (hb hby dj52_4_28) rfl (XS.iconst X149.here hx rfl (hb hby dj52_4_29) (XS.ishl X149.here hx rfl (hb hby dj52_4_30) rfl (XS.istoreN X149.here hx rfl (hb hby dj52_4_31) rfl (l' := #[.val (.ref a1), .val (.int ((Int32.ofNat i) <<< ((1 : Int32) &&& 31))), .val (.int p3)]) rfl k)))) ?_
  show oG _ _ _ _ (T149.setTop (mkF m 32 #[.val (.ref a1), .val (.int ((Int32.ofNat i) <<< ((1 : Int32) &&& 31))), .val (.int p3)] []))
  rw [own_shl1 (by omega : i < 1000000)]
  refine oG.st (fun _ k => XS.aloadN X149.here hx rfl (hb hby dj52_4_32) rfl rfl (XS.iloadN X149.here hx rfl (hb hby dj52_4_33) rfl (XS.iinc X149.here hx rfl (hb hby dj52_4_34) rfl (l' := #[.val (.ref a1), .val (.int ((Int32.ofNat (2 * i)) + (1 : Int32))), .val (.int p3)]) rfl k))) ?_
  show oG _ _ _ _ (T149.setTop (mkF m 37 #[.val (.ref a1), .val (.int ((Int32.ofNat (2 * i)) + (1 : Int32))), .val (.int p3)] [(.int (Int32.ofNat (2 * i))), (.ref a1)]))
  rw [own_ofS (by omega : 2 * i < 1073741823)]
  refine oG.st (fun _ k => XS.iloadN X149.here hx rfl (hb hby dj52_4_37) rfl k) ?_
  show oG _ _ _ _ (T149.setTop (mkF m 38 #[.val (.ref a1), .val (.int (Int32.ofNat (2 * i + 1))), .val (.int p3)] [(.int p3), (.int (Int32.ofNat (2 * i))), (.ref a1)]))
  obtain ⟨T150, X150, e150, st150⟩ := getS2 X149 hx hZ hown (host := "") (Or.inl (own_w hw 118 rfl)) Via.refl e149 (st_H.ext OL.2) (g := (mkF m 38 #[.val (.ref a1), .val (.int (Int32.ofNat (2 * i + 1))), .val (.int p3)] [(.int p3), (.int (Int32.ofNat (2 * i))), (.ref a1)])) rfl (hb hby dj52_4_38)
  refine oG.st st150 ?_
  refine oG.st (fun _ k => XS.ishr X150.here hx rfl (hb hby dj52_4_41) rfl (XS.i2b X150.here hx rfl (hb hby dj52_4_42) rfl k)) ?_
  show oG _ _ _ _ (T150.setTop (mkF m 43 #[.val (.ref a1), .val (.int (Int32.ofNat (2 * i + 1))), .val (.int p3)] [(.int ((p3 >>> ((0 : Int32) &&& 31)).toInt8.toInt32)), (.int (Int32.ofNat (2 * i))), (.ref a1)]))
  obtain ⟨c151, Ar151, q151, S151, Nn151, H151, G151⟩ := id p0_
  have hin151 : ¬ ((Int32.ofNat (2 * i)) < 0 ∨ c151.slots.size ≤ ((Int32.ofNat (2 * i))).toNatClampNeg) := inb_of S151 ⟨own_of0 (by omega), by rw [hvl]; exact (own_oflt (by omega) (by omega)).mpr (by omega)⟩
  obtain ⟨T151, h151, X151, e151, W151, st151⟩ := stB X150 hx hZ e150 Ar151 (j := (Int32.ofNat (2 * i))) hin151 (g := (mkF m 43 #[.val (.ref a1), .val (.int (Int32.ofNat (2 * i + 1))), .val (.int p3)] [(.int ((p3 >>> ((0 : Int32) &&& 31)).toInt8.toInt32)), (.int (Int32.ofNat (2 * i))), (.ref a1)])) rfl rfl (hb hby dj52_4_43)
  refine oG.st st151 ?_
  have N151 := Fr.snoc X151 N0 (by omega)
  have z151 : h0.size ≤ h151.size := Nat.le_of_eq W151.size.symm
  have f153 := Arv.set Ar151 q151 S151 Nn151 H151 G151 (fits_nar_byte _) W151 (2 * i) (own_ofn (by omega)) (by (try simp only [List.length_set]); omega)
  rw [own_i2b2, StrChars.shr0] at f153
  have f154 : Arv Z h151 a1 k .byte n (vs.set (2 * i) (.int (StrChars.lo8 p3))) d := f153
  refine oG.st (fun _ k => XS.aloadN X151.here hx rfl (hb hby dj52_4_44) rfl rfl (XS.iloadN X151.here hx rfl (hb hby dj52_4_45) rfl (XS.iloadN X151.here hx rfl (hb hby dj52_4_46) rfl k))) ?_
  show oG _ _ _ _ (T151.setTop (mkF m 47 #[.val (.ref a1), .val (.int (Int32.ofNat (2 * i + 1))), .val (.int p3)] [(.int p3), (.int (Int32.ofNat (2 * i + 1))), (.ref a1)]))
  have f155 : Old Z Z.heap.size h151 := OL.wr W151 (by omega)
  obtain ⟨T156, X156, e156, st156⟩ := getS2 X151 hx hZ hown (host := "") (Or.inl (own_w hw 119 rfl)) Via.refl e151 (st_L.ext f155.2) (g := (mkF m 47 #[.val (.ref a1), .val (.int (Int32.ofNat (2 * i + 1))), .val (.int p3)] [(.int p3), (.int (Int32.ofNat (2 * i + 1))), (.ref a1)])) rfl (hb hby dj52_4_47)
  refine oG.st st156 ?_
  refine oG.st (fun _ k => XS.ishr X156.here hx rfl (hb hby dj52_4_50) rfl (XS.i2b X156.here hx rfl (hb hby dj52_4_51) rfl k)) ?_
  show oG _ _ _ _ (T156.setTop (mkF m 52 #[.val (.ref a1), .val (.int (Int32.ofNat (2 * i + 1))), .val (.int p3)] [(.int ((p3 >>> ((8 : Int32) &&& 31)).toInt8.toInt32)), (.int (Int32.ofNat (2 * i + 1))), (.ref a1)]))
  obtain ⟨c157, Ar157, q157, S157, Nn157, H157, G157⟩ := id f154
  have hin157 : ¬ ((Int32.ofNat (2 * i + 1)) < 0 ∨ c157.slots.size ≤ ((Int32.ofNat (2 * i + 1))).toNatClampNeg) := inb_of S157 ⟨own_of0 (by omega), by rw [hvl]; exact (own_oflt (by omega) (by omega)).mpr (by omega)⟩
  obtain ⟨T157, h157, X157, e157, W157, st157⟩ := stB X156 hx hZ e156 Ar157 (j := (Int32.ofNat (2 * i + 1))) hin157 (g := (mkF m 52 #[.val (.ref a1), .val (.int (Int32.ofNat (2 * i + 1))), .val (.int p3)] [(.int ((p3 >>> ((8 : Int32) &&& 31)).toInt8.toInt32)), (.int (Int32.ofNat (2 * i + 1))), (.ref a1)])) rfl rfl (hb hby dj52_4_52)
  refine oG.st st157 ?_
  have N157 := Fr.snoc X157 N151 (by omega)
  have z157 : h151.size ≤ h157.size := Nat.le_of_eq W157.size.symm
  have f159 := Arv.set Ar157 q157 S157 Nn157 H157 G157 (fits_nar_byte _) W157 (2 * i + 1) (own_ofn (by omega)) (by (try simp only [List.length_set]); omega)
  rw [own_i2b2] at f159
  have f160 : Arv Z h157 a1 k .byte n ((vs.set (2 * i) (.int (StrChars.lo8 p3))).set (2 * i + 1) (.int (StrChars.hi8 p3))) d := f159
  show oG _ _ _ _ (T157.setTop (mkF m 53 #[.val (.ref a1), .val (.int (Int32.ofNat (2 * i + 1))), .val (.int p3)] []))
  obtain ⟨fs161, hr161, hrun161, hend161, hW161, hsm161⟩ := X157.leave (v := none) (fun _ => rfl)
  have K162 : Keep h0 h151 [a1] := (Keep.refl h0 [a1]).wr W151 (Or.inl (List.mem_of_getElem? (i := 0) rfl))
  have K163 : Keep h0 h157 [a1] := K162.wr W157 (Or.inl (List.mem_of_getElem? (i := 0) rfl))
  subst hPP
  refine ⟨_, _, X157.returnOut hx Bd.returns (hb hby dj52_4_53) hr161, hrun161, hend161, _, _, rfl, ?_, ⟨_, rfl⟩, hW161, hsm161.mono (by decide) (by decide)⟩
  · show Q_putc Z _ _ _ _ _ _ _ _ h0 _ T157.heap _
    rw [e157]
    exact ⟨rfl, N157, K163, f160⟩
theorem ef_73 (m : MethodId) (x0 : Nat) (x1 : Int32) : entryFrame m #[(.ref x0), (.int x1)] 2 = mkF m 0 #[.val (.ref x0), .val (.int x1)] [] := by first | (simp [entryFrame, mkF, argsToLocals, Value.category]; done) | rfl
theorem dj52_5_0 : decode cJ29 0 = .ok (.getstatic 44, 3) := by decide +kernel
theorem dj52_5_3 : decode cJ29 3 = .ok (.ifCond .ne 25, 3) := by decide +kernel
theorem dj52_5_28 : decode cJ29 28 = .ok (.iload_n 1, 1) := by decide +kernel
theorem dj52_5_29 : decode cJ29 29 = .ok (.iconst 1, 1) := by decide +kernel
theorem dj52_5_30 : decode cJ29 30 = .ok (.ishl, 1) := by decide +kernel
theorem dj52_5_31 : decode cJ29 31 = .ok (.istore_n 1, 1) := by decide +kernel
theorem dj52_5_32 : decode cJ29 32 = .ok (.aload_n 0, 1) := by decide +kernel
theorem dj52_5_33 : decode cJ29 33 = .ok (.iload_n 1, 1) := by decide +kernel
theorem dj52_5_34 : decode cJ29 34 = .ok (.iinc 1 1, 3) := by decide +kernel
theorem dj52_5_37 : decode cJ29 37 = .ok (.baload, 1) := by decide +kernel
theorem dj52_5_38 : decode cJ29 38 = .ok (.sipush 255, 3) := by decide +kernel
theorem dj52_5_41 : decode cJ29 41 = .ok (.iand, 1) := by decide +kernel
theorem dj52_5_42 : decode cJ29 42 = .ok (.getstatic 59, 3) := by decide +kernel
theorem dj52_5_45 : decode cJ29 45 = .ok (.ishl, 1) := by decide +kernel
theorem dj52_5_46 : decode cJ29 46 = .ok (.aload_n 0, 1) := by decide +kernel
theorem dj52_5_47 : decode cJ29 47 = .ok (.iload_n 1, 1) := by decide +kernel
theorem dj52_5_48 : decode cJ29 48 = .ok (.baload, 1) := by decide +kernel
theorem dj52_5_49 : decode cJ29 49 = .ok (.sipush 255, 3) := by decide +kernel
theorem dj52_5_52 : decode cJ29 52 = .ok (.iand, 1) := by decide +kernel
theorem dj52_5_53 : decode cJ29 53 = .ok (.getstatic 63, 3) := by decide +kernel
theorem dj52_5_56 : decode cJ29 56 = .ok (.ishl, 1) := by decide +kernel
theorem dj52_5_57 : decode cJ29 57 = .ok (.ior, 1) := by decide +kernel
theorem dj52_5_58 : decode cJ29 58 = .ok (.i2c, 1) := by decide +kernel
theorem dj52_5_59 : decode cJ29 59 = .ok (.ireturn, 1) := by decide +kernel
def Q_getc (Z : State) (a1 : Nat) (p2 : Int32) (i : Nat) (k : ClassId) (n : Int32) (vs : List Value) (d : Value) (ch : Int32) (h0 : Heap) (v : Option Value) (h : Heap) (L : List Loc) : Prop := v = some (.int ch) ∧ Fr Z.heap.size L ∧ h = h0
set_option maxRecDepth 65536 in
set_option maxHeartbeats 40000000 in
theorem rm_getc (l : Launch) (Z : State) (a0 : Array Value) (hw : ∀ d ∈ tables_1, d.before a0 Z = true) (ws : List Jvm.Cond) (a1 : Nat) (p2 : Int32) (i : Nat) (k : ClassId) (n : Int32) (vs : List Value) (d : Value) (ch : Int32) (h0 : Heap) (OL : Old Z Z.heap.size h0) (p0_ : Arv Z h0 a1 k .byte n vs d) (st_A : Sta Z Z.heap "java/lang/StringUTF16" "$assertionsDisabled" "Z" (.int (1 : Int32))) (st_H : Sta Z Z.heap "java/lang/StringUTF16" "HI_BYTE_SHIFT" "I" (.int (0 : Int32))) (st_L : Sta Z Z.heap "java/lang/StringUTF16" "LO_BYTE_SHIFT" "I" (.int (8 : Int32))) (hp2 : p2 = Int32.ofNat i) (hin : 2 * i + 1 < vs.length) (hvl : n = Int32.ofNat vs.length) (hvs : vs.length ≤ 8000) (hlo : vs.getD (2 * i) d = .int (StrChars.lo8 ch)) (hhi : vs.getD (2 * i + 1) d = .int (StrChars.hi8 ch)) (hch : ¬ ch < 0 ∧ ¬ (65535 : Int32) < ch) :
    MetFree l mN29 (head1 (Jvm.Cond.code mN29 jdk_52_method_5_code 2 (some .char) :: ws) rM0) (fun a U => a = #[(.ref a1), (.int p2)] ∧ Z.Warmed39 U.vm ∧ U.heap = h0) (fun _ _ _ _ _ => True) (fun _ U o U' => ∃ v L, o = .returned v ∧ Q_getc Z a1 p2 i k n vs d ch h0 v U'.heap L ∧ FrameEnd U o U' L rM0.cells rM0.slots) := by
  refine MetFree.of_bodySF (plainFor_of_name pn_25) hisR ?_
  intro p e s m args below meth c s₁ Bd hml0 hP hK
  obtain ⟨rfl, hZ, hh⟩ := hP
  have hx := Bd.exec
  have hby := Bd.bytes
  have hml : c.maxLocals = 2 := hml0
  have hown : s.vm.findClass "java/lang/StringUTF16" = some m.cls := findClass_of_methodNamed Bd.named
  have hnm := (name_of_methodNamed Bd.named Bd.method).1
  have X0 : Stand p l e rM0 s m #[(.ref a1), (.int p2)] below meth c s₁ [] 0 0 := Stand.of_body Bd
  have e0 : s₁.heap = h0 := by rw [← hh, Bd.state]; rfl
  have N0 := Fr.nil Z.heap.size
  have Z0 : Z.heap.size ≤ h0.size := OL.2.1
  have lt_0 : @LT.lt Nat _ a1 h0.size := p0_.lt
  show oG p.tables e below (fun o tE => ∃ v L, o = .returned v ∧ Q_getc Z a1 p2 i k n vs d ch h0 v tE.heap L ∧ FrameEnd s o tE L rM0.cells rM0.slots) (s₁.setTop (entryFrame m #[(.ref a1), (.int p2)] 2))
  refine own_hd (fun PP hPP => ?_)
  refine oG.st (fun t k => castTop (ef_73 m a1 p2) k) ?_
  subst hp2
  show oG _ _ _ _ (s₁.setTop (mkF m 0 #[.val (.ref a1), .val (.int (Int32.ofNat i))] []))
  obtain ⟨T164, X164, e164, st164⟩ := getS2 X0 hx hZ hown (host := "") (Or.inl (own_w hw 117 rfl)) Via.refl e0 (st_A.ext OL.2) (g := (mkF m 0 #[.val (.ref a1), .val (.int (Int32.ofNat i))] [])) rfl (hb hby dj52_5_0)
  refine oG.st st164 ?_
  show oG _ _ _ _ (T164.setTop (mkF m 3 #[.val (.ref a1), .val (.int (Int32.ofNat i))] [(.int (1 : Int32))]))
  refine oG.st (fun _ k => XS.ifYes X164.here hx rfl (pc0 := 3) (pc' := 28) rfl (hb hby dj52_5_3) rfl ((if0 _ _).trans (feq (by decide : ¬ ((1 : Int32) = (0 : Int32)))).2) (by decide) (by decide) k) ?_
  refine oG.st (fun _ k => XS.iloadN X164.here hx rfl (hb hby dj52_5_28) rfl (XS.iconst X164.here hx rfl (hb hby dj52_5_29) (XS.ishl X164.here hx rfl (hb hby dj52_5_30) rfl (XS.istoreN X164.here hx rfl (hb hby dj52_5_31) rfl (l' := #[.val (.ref a1), .val (.int ((Int32.ofNat i) <<< ((1 : Int32) &&& 31)))]) rfl k)))) ?_
  show oG _ _ _ _ (T164.setTop (mkF m 32 #[.val (.ref a1), .val (.int ((Int32.ofNat i) <<< ((1 : Int32) &&& 31)))] []))
  rw [own_shl1 (by omega : i < 1000000)]
  refine oG.st (fun _ k => XS.aloadN X164.here hx rfl (hb hby dj52_5_32) rfl rfl (XS.iloadN X164.here hx rfl (hb hby dj52_5_33) rfl (XS.iinc X164.here hx rfl (hb hby dj52_5_34) rfl (l' := #[.val (.ref a1), .val (.int ((Int32.ofNat (2 * i)) + (1 : Int32)))]) rfl k))) ?_
  show oG _ _ _ _ (T164.setTop (mkF m 37 #[.val (.ref a1), .val (.int ((Int32.ofNat (2 * i)) + (1 : Int32)))] [(.int (Int32.ofNat (2 * i))), (.ref a1)]))
  rw [own_ofS (by omega : 2 * i < 1073741823)]
  show oG _ _ _ _ (T164.setTop (mkF m 37 #[.val (.ref a1), .val (.int (Int32.ofNat (2 * i + 1)))] [(.int (Int32.ofNat (2 * i))), (.ref a1)]))
  obtain ⟨c165, Ar165, q165, S165, Nn165, H165, G165⟩ := id p0_
  have hin165 : ¬ ((Int32.ofNat (2 * i)) < 0 ∨ c165.slots.size ≤ ((Int32.ofNat (2 * i))).toNatClampNeg) := inb_of S165 ⟨own_of0 (by omega), by rw [hvl]; exact (own_oflt (by omega) (by omega)).mpr (by omega)⟩
  have hat165 : c165.slots[((Int32.ofNat (2 * i))).toNatClampNeg]? = some (.int (StrChars.lo8 ch)) := H165.at hin165 (by rw [own_ofn (by omega)]; exact hlo)
  refine oG.st (X164.baloadBytes hx (j := (Int32.ofNat (2 * i))) (v := (.int (StrChars.lo8 ch))) (own_rwE e164 Ar165.1) (State.isArrayOf_alike hZ.alike Ar165.2.1) Ar165.2.2 hin165 hat165 (g := (mkF m 37 #[.val (.ref a1), .val (.int (Int32.ofNat (2 * i + 1)))] [(.int (Int32.ofNat (2 * i))), (.ref a1)])) rfl rfl (hb hby dj52_5_37)) ?_
  refine oG.st (fun _ k => XS.sipush X164.here hx rfl (hb hby dj52_5_38) (XS.iand X164.here hx rfl (hb hby dj52_5_41) rfl k)) ?_
  show oG _ _ _ _ (T164.setTop (mkF m 42 #[.val (.ref a1), .val (.int (Int32.ofNat (2 * i + 1)))] [(.int ((StrChars.lo8 ch) &&& (255 : Int32)))]))
  obtain ⟨T166, X166, e166, st166⟩ := getS2 X164 hx hZ hown (host := "") (Or.inl (own_w hw 118 rfl)) Via.refl e164 (st_H.ext OL.2) (g := (mkF m 42 #[.val (.ref a1), .val (.int (Int32.ofNat (2 * i + 1)))] [(.int ((StrChars.lo8 ch) &&& (255 : Int32)))])) rfl (hb hby dj52_5_42)
  refine oG.st st166 ?_
  refine oG.st (fun _ k => XS.ishl X166.here hx rfl (hb hby dj52_5_45) rfl (XS.aloadN X166.here hx rfl (hb hby dj52_5_46) rfl rfl (XS.iloadN X166.here hx rfl (hb hby dj52_5_47) rfl k))) ?_
  show oG _ _ _ _ (T166.setTop (mkF m 48 #[.val (.ref a1), .val (.int (Int32.ofNat (2 * i + 1)))] [(.int (Int32.ofNat (2 * i + 1))), (.ref a1), (.int (((StrChars.lo8 ch) &&& (255 : Int32)) <<< ((0 : Int32) &&& 31)))]))
  obtain ⟨c167, Ar167, q167, S167, Nn167, H167, G167⟩ := id p0_
  have hin167 : ¬ ((Int32.ofNat (2 * i + 1)) < 0 ∨ c167.slots.size ≤ ((Int32.ofNat (2 * i + 1))).toNatClampNeg) := inb_of S167 ⟨own_of0 (by omega), by rw [hvl]; exact (own_oflt (by omega) (by omega)).mpr (by omega)⟩
  have hat167 : c167.slots[((Int32.ofNat (2 * i + 1))).toNatClampNeg]? = some (.int (StrChars.hi8 ch)) := H167.at hin167 (by rw [own_ofn (by omega)]; exact hhi)
  refine oG.st (X166.baloadBytes hx (j := (Int32.ofNat (2 * i + 1))) (v := (.int (StrChars.hi8 ch))) (own_rwE e166 Ar167.1) (State.isArrayOf_alike hZ.alike Ar167.2.1) Ar167.2.2 hin167 hat167 (g := (mkF m 48 #[.val (.ref a1), .val (.int (Int32.ofNat (2 * i + 1)))] [(.int (Int32.ofNat (2 * i + 1))), (.ref a1), (.int (((StrChars.lo8 ch) &&& (255 : Int32)) <<< ((0 : Int32) &&& 31)))])) rfl rfl (hb hby dj52_5_48)) ?_
  refine oG.st (fun _ k => XS.sipush X166.here hx rfl (hb hby dj52_5_49) (XS.iand X166.here hx rfl (hb hby dj52_5_52) rfl k)) ?_
  show oG _ _ _ _ (T166.setTop (mkF m 53 #[.val (.ref a1), .val (.int (Int32.ofNat (2 * i + 1)))] [(.int ((StrChars.hi8 ch) &&& (255 : Int32))), (.int (((StrChars.lo8 ch) &&& (255 : Int32)) <<< ((0 : Int32) &&& 31)))]))
  obtain ⟨T168, X168, e168, st168⟩ := getS2 X166 hx hZ hown (host := "") (Or.inl (own_w hw 119 rfl)) Via.refl e166 (st_L.ext OL.2) (g := (mkF m 53 #[.val (.ref a1), .val (.int (Int32.ofNat (2 * i + 1)))] [(.int ((StrChars.hi8 ch) &&& (255 : Int32))), (.int (((StrChars.lo8 ch) &&& (255 : Int32)) <<< ((0 : Int32) &&& 31)))])) rfl (hb hby dj52_5_53)
  refine oG.st st168 ?_
  refine oG.st (fun _ k => XS.ishl X168.here hx rfl (hb hby dj52_5_56) rfl (XS.ior X168.here hx rfl (hb hby dj52_5_57) rfl (XS.i2c X168.here hx rfl (hb hby dj52_5_58) rfl k))) ?_
  show oG _ _ _ _ (T168.setTop (mkF m 59 #[.val (.ref a1), .val (.int (Int32.ofNat (2 * i + 1)))] [(.int (((((StrChars.lo8 ch) &&& (255 : Int32)) <<< ((0 : Int32) &&& 31)) ||| (((StrChars.hi8 ch) &&& (255 : Int32)) <<< ((8 : Int32) &&& 31))).toUInt32.toUInt16.toUInt32.toInt32))]))
  obtain ⟨fs169, hr169, hrun169, hend169, hW169, hsm169⟩ := X168.leave (v := some (.int (nar .char (((((StrChars.lo8 ch) &&& (255 : Int32)) <<< ((0 : Int32) &&& 31)) ||| (((StrChars.hi8 ch) &&& (255 : Int32)) <<< ((8 : Int32) &&& 31))).toUInt32.toUInt16.toUInt32.toInt32)))) (fun h => by rw [Bd.returns] at h; cases h)
  subst hPP
  refine ⟨_, _, retN X168 hx (t := .char) Bd.returns (by simp) (hb hby dj52_5_59) hr169, hrun169, hend169, _, _, rfl, ?_, ⟨_, rfl⟩, hW169, hsm169.mono (by decide) (by decide)⟩
  · show Q_getc Z _ _ _ _ _ _ _ _ h0 _ T168.heap _
    rw [e168]
    exact ⟨(by have q := StrChars.pair_says hch.1 hch.2; unfold StrChars.pairCh at q; rw [q, own_nar hch]), N0, rfl⟩
theorem ef_98 (m : MethodId) (x0 : Int32) : entryFrame m #[(.int x0)] 1 = mkF m 0 #[.val (.int x0)] [] := by first | (simp [entryFrame, mkF, argsToLocals, Value.category]; done) | rfl
theorem dj52_3_0 : decode cJ26 0 = .ok (.iload_n 0, 1) := by decide +kernel
theorem dj52_3_1 : decode cJ26 1 = .ok (.ifCond .ge 11, 3) := by decide +kernel
theorem dj52_3_12 : decode cJ26 12 = .ok (.iload_n 0, 1) := by decide +kernel
theorem dj52_3_13 : decode cJ26 13 = .ok (.ldc 20, 2) := by decide +kernel
theorem dj52_3_15 : decode cJ26 15 = .ok (.if_icmp .lt 40, 3) := by decide +kernel
theorem dj52_3_55 : decode cJ26 55 = .ok (.iload_n 0, 1) := by decide +kernel
theorem dj52_3_56 : decode cJ26 56 = .ok (.iconst 1, 1) := by decide +kernel
theorem dj52_3_57 : decode cJ26 57 = .ok (.ishl, 1) := by decide +kernel
theorem dj52_3_58 : decode cJ26 58 = .ok (.ireturn, 1) := by decide +kernel
def Q_nbl (Z : State) (p1 : Int32) (i : Nat) (h0 : Heap) (v : Option Value) (h : Heap) (L : List Loc) : Prop := v = some (.int (Int32.ofNat (2 * i))) ∧ Fr Z.heap.size L ∧ h = h0
set_option maxRecDepth 65536 in
set_option maxHeartbeats 40000000 in
theorem rm_nbl (l : Launch) (Z : State) (a0 : Array Value) (hw : ∀ d ∈ tables_1, d.before a0 Z = true) (ws : List Jvm.Cond) (p1 : Int32) (i : Nat) (h0 : Heap) (OL : Old Z Z.heap.size h0) (hp1 : p1 = Int32.ofNat i) (hle : i ≤ 4000) :
    MetFree l mN33 (head1 (Jvm.Cond.code mN33 jdk_52_method_3_code 1 (some .int) :: ws) rM0) (fun a U => a = #[(.int p1)] ∧ Z.Warmed39 U.vm ∧ U.heap = h0) (fun _ _ _ _ _ => True) (fun _ U o U' => ∃ v L, o = .returned v ∧ Q_nbl Z p1 i h0 v U'.heap L ∧ FrameEnd U o U' L rM0.cells rM0.slots) := by
  refine MetFree.of_bodySF (plainFor_of_name pn_25) hisR ?_
  intro p e s m args below meth c s₁ Bd hml0 hP hK
  obtain ⟨rfl, hZ, hh⟩ := hP
  have hx := Bd.exec
  have hby := Bd.bytes
  have hml : c.maxLocals = 1 := hml0
  have hown : s.vm.findClass "java/lang/StringUTF16" = some m.cls := findClass_of_methodNamed Bd.named
  have hnm := (name_of_methodNamed Bd.named Bd.method).1
  have X0 : Stand p l e rM0 s m #[(.int p1)] below meth c s₁ [] 0 0 := Stand.of_body Bd
  have e0 : s₁.heap = h0 := by rw [← hh, Bd.state]; rfl
  have N0 := Fr.nil Z.heap.size
  have Z0 : Z.heap.size ≤ h0.size := OL.2.1
  show oG p.tables e below (fun o tE => ∃ v L, o = .returned v ∧ Q_nbl Z p1 i h0 v tE.heap L ∧ FrameEnd s o tE L rM0.cells rM0.slots) (s₁.setTop (entryFrame m #[(.int p1)] 1))
  refine own_hd (fun PP hPP => ?_)
  refine oG.st (fun t k => castTop (ef_98 m p1) k) ?_
  subst hp1
  refine oG.st (fun _ k => XS.iloadN X0.here hx rfl (hb hby dj52_3_0) rfl k) ?_
  show oG _ _ _ _ (s₁.setTop (mkF m 1 #[.val (.int (Int32.ofNat i))] [(.int (Int32.ofNat i))]))
  have hc170 : ¬ ((Int32.ofNat i) < (0 : Int32)) := own_of0 (by omega)
  refine oG.st (fun _ k => XS.ifYes X0.here hx rfl (pc0 := 1) (pc' := 12) rfl (hb hby dj52_3_1) rfl ((if0 _ _).trans (flt hc170).2.1) (by decide) (by decide) k) ?_
  refine oG.st (fun _ k => XS.iloadN X0.here hx rfl (hb hby dj52_3_12) rfl k) ?_
  show oG _ _ _ _ (s₁.setTop (mkF m 13 #[.val (.int (Int32.ofNat i))] [(.int (Int32.ofNat i))]))
  refine oG.st (X0.ldcInt hx hown (own_v hZ hw 113 rfl) (g := (mkF m 13 #[.val (.int (Int32.ofNat i))] [(.int (Int32.ofNat i))])) rfl (hb hby dj52_3_13)) ?_
  show oG _ _ _ _ (s₁.setTop (mkF m 15 #[.val (.int (Int32.ofNat i))] [(.int (1073741823 : Int32)), (.int (Int32.ofNat i))]))
  have hc171 : (Int32.ofNat i) < (1073741823 : Int32) := by have e1 : (1073741823 : Int32).toInt = 1073741823 := (by decide); rw [Int32.lt_iff_toInt_lt, own_of (by omega), e1]; omega
  refine oG.st (fun _ k => XS.icmpYes X0.here hx rfl (pc0 := 15) (pc' := 55) rfl (hb hby dj52_3_15) rfl (tlt hc171).1 (by decide) (by decide) k) ?_
  refine oG.st (fun _ k => XS.iloadN X0.here hx rfl (hb hby dj52_3_55) rfl (XS.iconst X0.here hx rfl (hb hby dj52_3_56) (XS.ishl X0.here hx rfl (hb hby dj52_3_57) rfl k))) ?_
  show oG _ _ _ _ (s₁.setTop (mkF m 58 #[.val (.int (Int32.ofNat i))] [(.int ((Int32.ofNat i) <<< ((1 : Int32) &&& 31)))]))
  obtain ⟨fs172, hr172, hrun172, hend172, hW172, hsm172⟩ := X0.leave (v := some (.int ((Int32.ofNat i) <<< ((1 : Int32) &&& 31)))) (fun h => by rw [Bd.returns] at h; cases h)
  subst hPP
  refine ⟨_, _, own_retI X0 hx Bd.returns (hb hby dj52_3_58) hr172, hrun172, hend172, _, _, rfl, ?_, ⟨_, rfl⟩, hW172, hsm172.mono (by decide) (by decide)⟩
  · show Q_nbl Z _ _ h0 _ s₁.heap _
    rw [e0]
    exact ⟨(by rw [own_shl1 (by omega)]), N0, rfl⟩
theorem dj52_2_0 : decode jdk_52_method_2_code 0 = .ok (.iload_n 0, 1) := by decide +kernel
theorem pd_109 : parseMethodDescriptor "(I)I" = some ⟨[.int], some .int⟩ := by decide +kernel
theorem dj52_2_1 : decode jdk_52_method_2_code 1 = .ok (.invokestatic 11, 3) := by decide +kernel
theorem dj52_2_4 : decode jdk_52_method_2_code 4 = .ok (.newarray .byte, 2) := by decide +kernel
theorem dj52_2_6 : decode jdk_52_method_2_code 6 = .ok (.areturn, 1) := by decide +kernel
def Q_nbf (Z : State) (p1 : Int32) (i : Nat) (h0 : Heap) (v : Option Value) (h : Heap) (L : List Loc) : Prop := ∃ (x : Nat), ∃ (k : ClassId), v = some (.ref x) ∧ Fr Z.heap.size L ∧ Keep h0 h [] ∧ Arv Z h x k .byte (Int32.ofNat (2 * i)) [] (.int (0 : Int32)) ∧ (h0.size ≤ x)
set_option maxRecDepth 65536 in
set_option maxHeartbeats 40000000 in
theorem rm_nbf (l : Launch) (Z : State) (a0 : Array Value) (hw : ∀ d ∈ tables_1, d.before a0 Z = true) (ws : List Jvm.Cond) (p1 : Int32) (i : Nat) (h0 : Heap) (OL : Old Z Z.heap.size h0) (hp1 : p1 = Int32.ofNat i) (hle : i ≤ 4) :
    MetFree l mN32 (head1 (Jvm.Cond.code mN32 jdk_52_method_2_code 1 (some (.array .byte)) :: ws) rM5) (fun a U => a = #[(.int p1)] ∧ Z.Warmed39 U.vm ∧ U.heap = h0) (fun _ _ _ _ _ => True) (fun _ U o U' => ∃ v L, o = .returned v ∧ Q_nbf Z p1 i h0 v U'.heap L ∧ FrameEnd U o U' L rM5.cells rM5.slots) := by
  refine MetFree.of_bodySF (plainFor_of_name pn_25) hisR ?_
  intro p e s m args below meth c s₁ Bd hml0 hP hK
  obtain ⟨rfl, hZ, hh⟩ := hP
  have hx := Bd.exec
  have hby := Bd.bytes
  have hml : c.maxLocals = 1 := hml0
  have hown : s.vm.findClass "java/lang/StringUTF16" = some m.cls := findClass_of_methodNamed Bd.named
  have hnm := (name_of_methodNamed Bd.named Bd.method).1
  have X0 : Stand p l e rM5 s m #[(.int p1)] below meth c s₁ [] 0 0 := Stand.of_body Bd
  have e0 : s₁.heap = h0 := by rw [← hh, Bd.state]; rfl
  have N0 := Fr.nil Z.heap.size
  have Z0 : Z.heap.size ≤ h0.size := OL.2.1
  show oG p.tables e below (fun o tE => ∃ v L, o = .returned v ∧ Q_nbf Z p1 i h0 v tE.heap L ∧ FrameEnd s o tE L rM5.cells rM5.slots) (s₁.setTop (entryFrame m #[(.int p1)] 1))
  refine own_hd (fun PP hPP => ?_)
  refine oG.st (fun t k => castTop (ef_98 m p1) k) ?_
  refine oG.st (fun _ k => XS.iloadN X0.here hx rfl (hb hby dj52_2_0) rfl k) ?_
  show oG _ _ _ _ (s₁.setTop (mkF m 1 #[.val (.int p1)] [(.int p1)]))
  obtain ⟨_, _, ⟨T173, L173, k173, n173⟩, -, X173, ⟨Lc173, hQ173, l173, y173, z173⟩, st173⟩ := Jvm.LawKit.callS X0 hx (y := mN33) hown (own_v hZ hw 110 rfl) (own_v hZ hw 111 rfl) (own_v hZ hw 92 rfl) (own_v hZ hw 112 rfl) (by decide) (backOf (W := 0) (rm_nbl l Z a0 hw [] p1 i h0 OL hp1 (by omega)) hZ (own_w hw 112 rfl) (own_w hw 92 rfl) (by decide) (by decide)) (g := (mkF m 1 #[.val (.int p1)] [(.int p1)])) rfl (by rw [hml]; rfl) (argsL := [(.int p1)]) (rest := []) (lenOf pd_109 rfl) rfl (by show 2 * 0 + _ ≤ _; exact Nat.le_of_eq rfl) (hb hby dj52_2_1) (fun _ _ => ⟨rfl, e0, (by decide : 0 + 0 ≤ _), (by decide : 0 + 0 ≤ _)⟩)
  dsimp only [Pt.U, Pt.locs, Pt.cells, Pt.slots] at X173 l173 y173 z173 st173 hQ173
  subst l173 y173 z173
  obtain ⟨rfl, N173q, K173⟩ := hQ173
  have N173 := Fr.app N0 N173q
  refine oG.st st173 ?_
  show oG _ _ _ _ (T173.setTop (mkF m 4 #[.val (.int p1)] [(.int (Int32.ofNat (2 * i)))]))
  obtain ⟨T174, h174, k174, X174, e174, E174, A174, st174⟩ := newP X173 hx hZ (own_w hw 24 rfl) K173 (g := (mkF m 4 #[.val (.int p1)] [(.int (Int32.ofNat (2 * i)))])) rfl (hb hby dj52_2_4) rfl (own_of0 (by omega)) (cap := 8) (by rw [own_ofn (by omega)]; omega) (by decide) (by decide) (by decide)
  obtain ⟨b174, g174⟩ : ∃ z, z = h0.size := ⟨_, rfl⟩
  rw [← g174] at A174 st174
  refine oG.st st174 ?_
  have z174 : h0.size ≤ h174.size := E174.1
  have f175 : Arv Z h174 b174 k174 .byte (Int32.ofNat (2 * i)) [] (.int (0 : Int32)) := Arv.new A174 (own_of0 (by omega))
  have lt_b174 : @LT.lt Nat _ b174 h174.size := f175.lt
  show oG _ _ _ _ (T174.setTop (mkF m 6 #[.val (.int p1)] [(.ref b174)]))
  obtain ⟨fs176, hr176, hrun176, hend176, hW176, hsm176⟩ := X174.leave (v := some (.ref b174)) (fun h => by rw [Bd.returns] at h; cases h)
  have K177 : Keep h0 h174 [] := (Keep.refl h0 []).ext E174
  subst hPP
  refine ⟨_, _, own_retA X174 hx Bd.returns rfl rfl (hb hby dj52_2_6) hr176, hrun176, hend176, _, _, rfl, ?_, ⟨_, rfl⟩, hW176, hsm176.mono (by decide) (by decide)⟩
  · show Q_nbf Z _ _ h0 _ T174.heap _
    rw [e174]
    exact ⟨b174, k174, rfl, N173, K177, f175, (by omega)⟩
theorem ef_113 (m : MethodId) (x0 : Nat) (x1 : Int32) (x2 : Int32) : entryFrame m #[(.ref x0), (.int x1), (.int x2)] 5 = mkF m 0 #[.val (.ref x0), .val (.int x1), .val (.int x2), .unset, .unset] [] := by first | (simp [entryFrame, mkF, argsToLocals, Value.category]; done) | rfl
theorem dj52_14_0 : decode cJ20 0 = .ok (.iload_n 2, 1) := by decide +kernel
theorem pd_115 : parseMethodDescriptor "(I)[B" = some ⟨[.int], some (.array .byte)⟩ := by decide +kernel
theorem dj52_14_1 : decode cJ20 1 = .ok (.invokestatic 107, 3) := by decide +kernel
theorem dj52_14_4 : decode cJ20 4 = .ok (.astore_n 3, 1) := by decide +kernel
theorem dj52_14_5 : decode cJ20 5 = .ok (.iconst 0, 1) := by decide +kernel
theorem dj52_14_6 : decode cJ20 6 = .ok (.istore 4, 2) := by decide +kernel
theorem dj52_14_8 : decode cJ20 8 = .ok (.iload 4, 2) := by decide +kernel
theorem dj52_14_10 : decode cJ20 10 = .ok (.iload_n 2, 1) := by decide +kernel
theorem dj52_14_11 : decode cJ20 11 = .ok (.if_icmp .ge 21, 3) := by decide +kernel
theorem dj52_14_14 : decode cJ20 14 = .ok (.aload_n 3, 1) := by decide +kernel
theorem dj52_14_15 : decode cJ20 15 = .ok (.iload 4, 2) := by decide +kernel
theorem dj52_14_17 : decode cJ20 17 = .ok (.aload_n 0, 1) := by decide +kernel
theorem dj52_14_18 : decode cJ20 18 = .ok (.iload_n 1, 1) := by decide +kernel
theorem dj52_14_19 : decode cJ20 19 = .ok (.caload, 1) := by decide +kernel
theorem pd_128 : parseMethodDescriptor "([BII)V" = some ⟨[(.array .byte), .int, .int], none⟩ := by decide +kernel
theorem dj52_14_20 : decode cJ20 20 = .ok (.invokestatic 111, 3) := by decide +kernel
theorem dj52_14_23 : decode cJ20 23 = .ok (.iinc 1 1, 3) := by decide +kernel
theorem dj52_14_26 : decode cJ20 26 = .ok (.iinc 4 1, 3) := by decide +kernel
theorem dj52_14_29 : decode cJ20 29 = .ok (.goto (-21), 3) := by decide +kernel
theorem dj52_14_32 : decode cJ20 32 = .ok (.aload_n 3, 1) := by decide +kernel
theorem dj52_14_33 : decode cJ20 33 = .ok (.areturn, 1) := by decide +kernel
def Q_tob (Z : State) (a1 : Nat) (nn : Int32) (cs : List Int32) (k1 : ClassId) (d1 : Value) (h0 : Heap) (v : Option Value) (h : Heap) (L : List Loc) : Prop := ∃ (x : Nat), ∃ (k : ClassId), v = some (.ref x) ∧ Fr Z.heap.size L ∧ Keep h0 h [] ∧ Arv Z h x k .byte (Int32.ofNat (2 * cs.length)) (StrChars.Road.wideBytes cs) (.int (0 : Int32)) ∧ (h0.size ≤ x)
set_option maxRecDepth 65536 in
set_option maxHeartbeats 40000000 in
theorem rm_tob (l : Launch) (Z : State) (a0 : Array Value) (hw : ∀ d ∈ tables_1, d.before a0 Z = true) (ws : List Jvm.Cond) (a1 : Nat) (nn : Int32) (cs : List Int32) (k1 : ClassId) (d1 : Value) (h0 : Heap) (OL : Old Z Z.heap.size h0) (p0_ : Arv Z h0 a1 k1 .char nn (cs.map Value.int) d1) (st_A : Sta Z Z.heap "java/lang/StringUTF16" "$assertionsDisabled" "Z" (.int (1 : Int32))) (st_H : Sta Z Z.heap "java/lang/StringUTF16" "HI_BYTE_SHIFT" "I" (.int (0 : Int32))) (st_L : Sta Z Z.heap "java/lang/StringUTF16" "LO_BYTE_SHIFT" "I" (.int (8 : Int32))) (hnn : nn = Int32.ofNat cs.length) (hle : cs.length ≤ 4) :
    MetFree l mN36 (head1 (Jvm.Cond.code mN36 jdk_52_method_14_code 5 (some (.array .byte)) :: ws) rM11) (fun a U => a = #[(.ref a1), (.int (0 : Int32)), (.int nn)] ∧ Z.Warmed39 U.vm ∧ U.heap = h0) (fun _ _ _ _ _ => True) (fun _ U o U' => ∃ v L, o = .returned v ∧ Q_tob Z a1 nn cs k1 d1 h0 v U'.heap L ∧ FrameEnd U o U' L rM11.cells rM11.slots) := by
  refine MetFree.of_bodySF (plainFor_of_name pn_25) hisR ?_
  intro p e s m args below meth c s₁ Bd hml0 hP hK
  obtain ⟨rfl, hZ, hh⟩ := hP
  have hx := Bd.exec
  have hby := Bd.bytes
  have hml : c.maxLocals = 5 := hml0
  have hown : s.vm.findClass "java/lang/StringUTF16" = some m.cls := findClass_of_methodNamed Bd.named
  have hnm := (name_of_methodNamed Bd.named Bd.method).1
  have X0 : Stand p l e rM11 s m #[(.ref a1), (.int (0 : Int32)), (.int nn)] below meth c s₁ [] 0 0 := Stand.of_body Bd
  have e0 : s₁.heap = h0 := by rw [← hh, Bd.state]; rfl
  have N0 := Fr.nil Z.heap.size
  have Z0 : Z.heap.size ≤ h0.size := OL.2.1
  have lt_0 : @LT.lt Nat _ a1 h0.size := p0_.lt
  show oG p.tables e below (fun o tE => ∃ v L, o = .returned v ∧ Q_tob Z a1 nn cs k1 d1 h0 v tE.heap L ∧ FrameEnd s o tE L rM11.cells rM11.slots) (s₁.setTop (entryFrame m #[(.ref a1), (.int (0 : Int32)), (.int nn)] 5))
  refine own_hd (fun PP hPP => ?_)
  refine oG.st (fun t k => castTop (ef_113 m a1 (0 : Int32) nn) k) ?_
  refine oG.st (fun _ k => XS.iloadN X0.here hx rfl (hb hby dj52_14_0) rfl k) ?_
  show oG _ _ _ _ (s₁.setTop (mkF m 1 #[.val (.ref a1), .val (.int (0 : Int32)), .val (.int nn), .unset, .unset] [(.int nn)]))
  obtain ⟨_, _, ⟨T178, L178, k178, n178⟩, -, X178, ⟨Lc178, hQ178, l178, y178, z178⟩, st178⟩ := Jvm.LawKit.callS X0 hx (y := mN32) hown (own_v hZ hw 107 rfl) (own_v hZ hw 108 rfl) (own_v hZ hw 92 rfl) (own_v hZ hw 109 rfl) (by decide) (backOf (W := 0) (rm_nbf l Z a0 hw [] nn cs.length h0 OL hnn hle) hZ (own_w hw 109 rfl) (own_w hw 92 rfl) (by decide) (by decide)) (g := (mkF m 1 #[.val (.ref a1), .val (.int (0 : Int32)), .val (.int nn), .unset, .unset] [(.int nn)])) rfl (by rw [hml]; rfl) (argsL := [(.int nn)]) (rest := []) (lenOf pd_115 rfl) rfl (by show 2 * 0 + _ ≤ _; exact Nat.le_of_eq rfl) (hb hby dj52_14_1) (fun _ _ => ⟨rfl, e0, (by decide : 0 + 1 ≤ _), (by decide : 0 + 8 ≤ _)⟩)
  dsimp only [Pt.U, Pt.locs, Pt.cells, Pt.slots] at X178 l178 y178 z178 st178 hQ178
  subst l178 y178 z178
  obtain ⟨x_178, k_178, rfl, N178q, K178, f178_0, pr178_0⟩ := hQ178
  have N178 := Fr.app N0 N178q
  have z178 : h0.size ≤ T178.heap.size := K178.1
  have lt178_0 : @LT.lt Nat _ x_178 T178.heap.size := f178_0.lt
  have hx1 := pr178_0
  refine oG.st st178 ?_
  refine oG.st (fun _ k => XS.astoreN X178.here hx rfl (hb hby dj52_14_4) rfl rfl (l' := #[.val (.ref a1), .val (.int (0 : Int32)), .val (.int nn), .val (.ref x_178), .unset]) rfl (XS.iconst X178.here hx rfl (hb hby dj52_14_5) (XS.istore X178.here hx rfl (hb hby dj52_14_6) rfl (l' := #[.val (.ref a1), .val (.int (0 : Int32)), .val (.int nn), .val (.ref x_178), .val (.int (0 : Int32))]) rfl k))) ?_
  show oG _ _ _ _ (T178.setTop (mkF m 8 #[.val (.ref a1), .val (.int (0 : Int32)), .val (.int nn), .val (.ref x_178), .val (.int (0 : Int32))] []))
  have f179 : Arv Z T178.heap x_178 k_178 .byte (Int32.ofNat (2 * cs.length)) ([] ++ List.replicate (2 * cs.length) (.int (0 : Int32))) (.int (0 : Int32)) := f178_0.pad (pad_rep [] _ _)
  have LP180 : ∀ (nL : Nat) (i : Nat) (vsL : List Value) (TL180 : State) (hL180 : Heap) (lL180 : List Loc), (i ≤ cs.length) → (vsL.length = 2 * cs.length) → (∀ j, j < i → vsL.getD (2 * j) (.int (0 : Int32)) = .int (StrChars.lo8 (cs.getD j 0)) ∧ vsL.getD (2 * j + 1) (.int (0 : Int32)) = .int (StrChars.hi8 (cs.getD j 0))) → (Stand p l e rM11 s m #[(.ref a1), (.int (0 : Int32)), (.int nn)] below meth c TL180 lL180 1 8) → (TL180.heap = hL180) → (Fr Z.heap.size lL180) → (Keep h0 hL180 []) → (Old Z Z.heap.size hL180) → (Arv Z hL180 a1 k1 .char nn (cs.map Value.int) d1) → (Arv Z hL180 x_178 k_178 .byte (Int32.ofNat (2 * cs.length)) vsL (.int (0 : Int32))) → cs.length - i = nL → oG p.tables e below PP (TL180.setTop (mkF m 8 #[.val (.ref a1), .val (.int (Int32.ofNat i)), .val (.int nn), .val (.ref x_178), .val (.int (Int32.ofNat i))] [])) := by
    intro nL
    induction nL using Nat.strongRecOn with
    | _ nL ihL =>
      intro i vsL TL180 hL180 lL180 hi hvL hinv XL180 eL180 NL180 KL180 OL180 fL180_0 fL180_1 hmL
      have zL180 : h0.size ≤ hL180.size := KL180.1
      have ltL180_0 : @LT.lt Nat _ a1 hL180.size := fL180_0.lt
      have ltL180_1 : @LT.lt Nat _ x_178 hL180.size := fL180_1.lt
      refine oG.st (fun _ k => XS.iload XL180.here hx rfl (hb hby dj52_14_8) rfl (XS.iloadN XL180.here hx rfl (hb hby dj52_14_10) rfl k)) ?_
      show oG _ _ _ _ (TL180.setTop (mkF m 11 #[.val (.ref a1), .val (.int (Int32.ofNat i)), .val (.int nn), .val (.ref x_178), .val (.int (Int32.ofNat i))] [(.int nn), (.int (Int32.ofNat i))]))
      by_cases h11 : (Int32.ofNat i) < nn
      ·
        refine oG.st (fun _ k => XS.icmpNo XL180.here hx rfl (hb hby dj52_14_11) rfl (tlt h11).2.1 k) ?_
        have hi7 : i < cs.length := (own_oflt (by omega) (by omega)).mp (hnn ▸ h11)
        refine oG.st (fun _ k => XS.aloadN XL180.here hx rfl (hb hby dj52_14_14) rfl rfl (XS.iload XL180.here hx rfl (hb hby dj52_14_15) rfl (XS.aloadN XL180.here hx rfl (hb hby dj52_14_17) rfl rfl (XS.iloadN XL180.here hx rfl (hb hby dj52_14_18) rfl k)))) ?_
        show oG _ _ _ _ (TL180.setTop (mkF m 19 #[.val (.ref a1), .val (.int (Int32.ofNat i)), .val (.int nn), .val (.ref x_178), .val (.int (Int32.ofNat i))] [(.int (Int32.ofNat i)), (.ref a1), (.int (Int32.ofNat i)), (.ref x_178)]))
        obtain ⟨c181, Ar181, q181, S181, Nn181, H181, G181⟩ := id fL180_0
        have hin181 : ¬ ((Int32.ofNat i) < 0 ∨ c181.slots.size ≤ ((Int32.ofNat i)).toNatClampNeg) := inb_of S181 ⟨own_of0 (by omega), h11⟩
        have hat181 : c181.slots[((Int32.ofNat i)).toNatClampNeg]? = some (.int (cs.getD i 0)) := H181.at hin181 (own_getD hi7 (by omega) _)
        refine oG.st (XL180.caload hx (j := (Int32.ofNat i)) (v := (.int (cs.getD i 0))) (own_rwE eL180 Ar181.1) (State.isArrayOf_alike hZ.alike Ar181.2.1) Ar181.2.2 hin181 hat181 (g := (mkF m 19 #[.val (.ref a1), .val (.int (Int32.ofNat i)), .val (.int nn), .val (.ref x_178), .val (.int (Int32.ofNat i))] [(.int (Int32.ofNat i)), (.ref a1), (.int (Int32.ofNat i)), (.ref x_178)])) rfl rfl (hb hby dj52_14_19)) ?_
        show oG _ _ _ _ (TL180.setTop (mkF m 20 #[.val (.ref a1), .val (.int (Int32.ofNat i)), .val (.int nn), .val (.ref x_178), .val (.int (Int32.ofNat i))] [(.int (cs.getD i 0)), (.int (Int32.ofNat i)), (.ref x_178)]))
        obtain ⟨_, _, ⟨T182, L182, k182, n182⟩, -, X182, ⟨Lc182, hQ182, l182, y182, z182⟩, st182⟩ := Jvm.LawKit.callS XL180 hx (y := mN35) hown (own_v hZ hw 114 rfl) (own_v hZ hw 115 rfl) (own_v hZ hw 92 rfl) (own_v hZ hw 116 rfl) (by decide) (backOf (W := 0) (rm_putc l Z a0 hw [] x_178 (Int32.ofNat i) (cs.getD i 0) i k_178 (Int32.ofNat (2 * cs.length)) vsL (.int (0 : Int32)) hL180 OL180 fL180_1 st_A st_H st_L rfl (by omega) (by rw [hvL]) (by omega) (by omega)) hZ (own_w hw 116 rfl) (own_w hw 92 rfl) (by decide) (by decide)) (g := (mkF m 20 #[.val (.ref a1), .val (.int (Int32.ofNat i)), .val (.int nn), .val (.ref x_178), .val (.int (Int32.ofNat i))] [(.int (cs.getD i 0)), (.int (Int32.ofNat i)), (.ref x_178)])) rfl (by rw [hml]; rfl) (argsL := [(.ref x_178), (.int (Int32.ofNat i)), (.int (cs.getD i 0))]) (rest := []) (lenOf pd_128 rfl) rfl (by show 2 * 0 + _ ≤ _; exact Nat.le_of_eq rfl) (hb hby dj52_14_20) (fun _ _ => ⟨rfl, eL180, (by decide : 1 + 0 ≤ _), (by decide : 8 + 0 ≤ _)⟩)
        dsimp only [Pt.U, Pt.locs, Pt.cells, Pt.slots] at X182 l182 y182 z182 st182 hQ182
        subst l182 y182 z182
        obtain ⟨rfl, N182q, K182, f182_0⟩ := hQ182
        have N182 := Fr.app NL180 N182q
        have z182 : hL180.size ≤ T182.heap.size := K182.1
        have lt182_0 : @LT.lt Nat _ x_178 T182.heap.size := f182_0.lt
        refine oG.st st182 ?_
        refine oG.st (fun _ k => XS.iinc X182.here hx rfl (hb hby dj52_14_23) rfl (l' := #[.val (.ref a1), .val (.int ((Int32.ofNat i) + (1 : Int32))), .val (.int nn), .val (.ref x_178), .val (.int (Int32.ofNat i))]) rfl (XS.iinc X182.here hx rfl (hb hby dj52_14_26) rfl (l' := #[.val (.ref a1), .val (.int ((Int32.ofNat i) + (1 : Int32))), .val (.int nn), .val (.ref x_178), .val (.int ((Int32.ofNat i) + (1 : Int32)))]) rfl k)) ?_
        show oG _ _ _ _ (T182.setTop (mkF m 29 #[.val (.ref a1), .val (.int ((Int32.ofNat i) + (1 : Int32))), .val (.int nn), .val (.ref x_178), .val (.int ((Int32.ofNat i) + (1 : Int32)))] []))
        rw [own_ofS (by omega : i < 1073741823)]
        refine oG.st (fun _ k => XS.goto X182.here hx rfl (pc0 := 29) (pc' := 8) rfl (hb hby dj52_14_29) (by decide) (by decide) k) ?_
        show oG _ _ _ _ (T182.setTop (mkF m 8 #[.val (.ref a1), .val (.int (Int32.ofNat (i + 1))), .val (.int nn), .val (.ref x_178), .val (.int (Int32.ofNat (i + 1)))] []))
        have K183 : Keep h0 T182.heap [] := KL180.trans K182 (allS (Or.inr (by omega)) all0)
        have f184 : Old Z Z.heap.size T182.heap := OL180.keep K182 (allS (by omega) all0)
        have ne185 : @Ne Nat a1 x_178 := own_arvTy fL180_0 fL180_1 (by decide)
        have f186 : Arv Z T182.heap a1 k1 .char nn (cs.map Value.int) d1 := fL180_0.keep K182 (ninS ne185 nin0)
        exact ihL _ (by omega) (i + 1) ((vsL.set (2 * i) (.int (StrChars.lo8 (cs.getD i 0)))).set (2 * i + 1) (.int (StrChars.hi8 (cs.getD i 0)))) T182 T182.heap _ (by omega) (by simp only [List.length_set]; exact hvL) (fun j hj => by
          rw [own_setget (by simp only [List.length_set]; omega), own_setget (by omega), own_setget (by simp only [List.length_set]; omega), own_setget (by omega)]
          rcases Nat.lt_succ_iff_lt_or_eq.mp hj with q | q
          · have := hinv j q
            rw [if_neg (by omega), if_neg (by omega), if_neg (by omega), if_neg (by omega)]; exact this
          · subst q; rw [if_neg (by omega), if_pos rfl, if_pos rfl]; exact ⟨rfl, rfl⟩) X182 rfl N182 K183 f184 f186 f182_0 rfl
      ·
        refine oG.st (fun _ k => XS.icmpYes XL180.here hx rfl (pc0 := 11) (pc' := 32) rfl (hb hby dj52_14_11) rfl (flt h11).2.1 (by decide) (by decide) k) ?_
        have hi8 : i = cs.length := by
          have : ¬ i < cs.length := fun q => h11 (hnn ▸ (own_oflt (by omega) (by omega)).mpr q)
          omega
        refine oG.st (fun _ k => XS.aloadN XL180.here hx rfl (hb hby dj52_14_32) rfl rfl k) ?_
        show oG _ _ _ _ (TL180.setTop (mkF m 33 #[.val (.ref a1), .val (.int (Int32.ofNat i)), .val (.int nn), .val (.ref x_178), .val (.int (Int32.ofNat i))] [(.ref x_178)]))
        obtain ⟨fs187, hr187, hrun187, hend187, hW187, hsm187⟩ := XL180.leave (v := some (.ref x_178)) (fun h => by rw [Bd.returns] at h; cases h)
        have hwide : vsL = StrChars.Road.wideBytes cs := own_wide cs (.int (0 : Int32)) vsL hvL (fun j hj => hinv j (by omega))
        rw [hwide] at fL180_1
        subst hPP
        refine ⟨_, _, own_retA XL180 hx Bd.returns rfl rfl (hb hby dj52_14_33) hr187, hrun187, hend187, _, _, rfl, ?_, ⟨_, rfl⟩, hW187, hsm187.mono (by decide) (by decide)⟩
        · show Q_tob Z _ _ _ _ _ h0 _ TL180.heap _
          rw [eL180]
          exact ⟨x_178, k_178, rfl, NL180, KL180, fL180_1, (by omega)⟩
  have K188 : Keep h0 T178.heap [] := (Keep.refl h0 []).trans K178 all0
  have f189 : Old Z Z.heap.size T178.heap := OL.keep K178 all0
  have f190 : Arv Z T178.heap a1 k1 .char nn (cs.map Value.int) d1 := p0_.keep K178 nin0
  exact LP180 _ 0 ([] ++ List.replicate (2 * cs.length) (.int (0 : Int32))) T178 T178.heap _ (Nat.zero_le _) (by simp) (fun j hj => absurd hj (Nat.not_lt_zero j)) X178 rfl N178 K188 f189 f190 f179 rfl
theorem ef_135 (m : MethodId) (x0 : Nat) (x1 : Int32) (x2 : Int32) : entryFrame m #[(.ref x0), (.int x1), (.int x2)] 6 = mkF m 0 #[.val (.ref x0), .val (.int x1), .val (.int x2), .unset, .unset, .unset] [] := by first | (simp [entryFrame, mkF, argsToLocals, Value.category]; done) | rfl
theorem dj52_16_0 : decode cJ22 0 = .ok (.iload_n 2, 1) := by decide +kernel
theorem dj52_16_1 : decode cJ22 1 = .ok (.newarray .byte, 2) := by decide +kernel
theorem dj52_16_3 : decode cJ22 3 = .ok (.astore_n 3, 1) := by decide +kernel
theorem dj52_16_4 : decode cJ22 4 = .ok (.aload_n 0, 1) := by decide +kernel
theorem dj52_16_5 : decode cJ22 5 = .ok (.iload_n 1, 1) := by decide +kernel
theorem dj52_16_6 : decode cJ22 6 = .ok (.aload_n 3, 1) := by decide +kernel
theorem dj52_16_7 : decode cJ22 7 = .ok (.iconst 0, 1) := by decide +kernel
theorem dj52_16_8 : decode cJ22 8 = .ok (.iload_n 2, 1) := by decide +kernel
theorem pd_144 : parseMethodDescriptor "([CI[BII)I" = some ⟨[(.array .char), .int, (.array .byte), .int, .int], some .int⟩ := by decide +kernel
theorem dj52_16_9 : decode cJ22 9 = .ok (.invokestatic 115, 3) := by decide +kernel
theorem dj52_16_12 : decode cJ22 12 = .ok (.istore 4, 2) := by decide +kernel
theorem dj52_16_14 : decode cJ22 14 = .ok (.iload 4, 2) := by decide +kernel
theorem dj52_16_16 : decode cJ22 16 = .ok (.iload_n 2, 1) := by decide +kernel
theorem dj52_16_17 : decode cJ22 17 = .ok (.if_icmp .eq 40, 3) := by decide +kernel
theorem dj52_16_20 : decode cJ22 20 = .ok (.aload_n 0, 1) := by decide +kernel
theorem dj52_16_21 : decode cJ22 21 = .ok (.iload_n 1, 1) := by decide +kernel
theorem dj52_16_22 : decode cJ22 22 = .ok (.iload_n 2, 1) := by decide +kernel
theorem pd_153 : parseMethodDescriptor "([CII)[B" = some ⟨[(.array .char), .int, .int], some (.array .byte)⟩ := by decide +kernel
theorem dj52_16_23 : decode cJ22 23 = .ok (.invokestatic 119, 3) := by decide +kernel
theorem dj52_16_26 : decode cJ22 26 = .ok (.astore 5, 2) := by decide +kernel
theorem dj52_16_28 : decode cJ22 28 = .ok (.aload 5, 2) := by decide +kernel
theorem dj52_16_30 : decode cJ22 30 = .ok (.iload 4, 2) := by decide +kernel
theorem pd_158 : parseMethodDescriptor "([BI)C" = some ⟨[(.array .byte), .int], some .char⟩ := by decide +kernel
theorem dj52_16_32 : decode cJ22 32 = .ok (.invokestatic 71, 3) := by decide +kernel
theorem dj52_16_35 : decode cJ22 35 = .ok (.sipush 255, 3) := by decide +kernel
theorem dj52_16_38 : decode cJ22 38 = .ok (.if_icmp .gt 16, 3) := by decide +kernel
theorem dj52_16_54 : decode cJ22 54 = .ok (.aload 5, 2) := by decide +kernel
theorem dj52_16_56 : decode cJ22 56 = .ok (.areturn, 1) := by decide +kernel
def Q_cmp3 (Z : State) (a1 : Nat) (nn : Int32) (cs : List Int32) (k1 : ClassId) (d1 : Value) (h0 : Heap) (v : Option Value) (h : Heap) (L : List Loc) : Prop := ∃ (x : Nat), ∃ (k : ClassId), v = some (.ref x) ∧ Fr Z.heap.size L ∧ Keep h0 h [] ∧ Arv Z h x k .byte (Int32.ofNat (2 * cs.length)) (StrChars.Road.wideBytes cs) (.int (0 : Int32)) ∧ (h0.size ≤ x)
set_option maxRecDepth 65536 in
set_option maxHeartbeats 40000000 in
theorem rm_cmp3 (l : Launch) (Z : State) (a0 : Array Value) (hw : ∀ d ∈ tables_1, d.before a0 Z = true) (ws : List Jvm.Cond) (a1 : Nat) (nn : Int32) (cs : List Int32) (k1 : ClassId) (d1 : Value) (h0 : Heap) (OL : Old Z Z.heap.size h0) (p0_ : Arv Z h0 a1 k1 .char nn (cs.map Value.int) d1) (st_A : Sta Z Z.heap "java/lang/StringUTF16" "$assertionsDisabled" "Z" (.int (1 : Int32))) (st_H : Sta Z Z.heap "java/lang/StringUTF16" "HI_BYTE_SHIFT" "I" (.int (0 : Int32))) (st_L : Sta Z Z.heap "java/lang/StringUTF16" "LO_BYTE_SHIFT" "I" (.int (8 : Int32))) (hnn : nn = Int32.ofNat cs.length) (hle : cs.length ≤ 4) (hbig : ∃ c ∈ cs, (255 : Int32) < c) (hrng : ∀ c ∈ cs, ¬ c < 0 ∧ ¬ (65535 : Int32) < c) :
    MetFree l mN27 (head1 (Jvm.Cond.code mN27 jdk_52_method_16_code 6 (some (.array .byte)) :: ws) rM16) (fun a U => a = #[(.ref a1), (.int (0 : Int32)), (.int nn)] ∧ Z.Warmed39 U.vm ∧ U.heap = h0) (fun _ _ _ _ _ => True) (fun _ U o U' => ∃ v L, o = .returned v ∧ Q_cmp3 Z a1 nn cs k1 d1 h0 v U'.heap L ∧ FrameEnd U o U' L rM16.cells rM16.slots) := by
  refine MetFree.of_bodySF (plainFor_of_name pn_25) hisR ?_
  intro p e s m args below meth c s₁ Bd hml0 hP hK
  obtain ⟨rfl, hZ, hh⟩ := hP
  have hx := Bd.exec
  have hby := Bd.bytes
  have hml : c.maxLocals = 6 := hml0
  have hown : s.vm.findClass "java/lang/StringUTF16" = some m.cls := findClass_of_methodNamed Bd.named
  have hnm := (name_of_methodNamed Bd.named Bd.method).1
  have X0 : Stand p l e rM16 s m #[(.ref a1), (.int (0 : Int32)), (.int nn)] below meth c s₁ [] 0 0 := Stand.of_body Bd
  have e0 : s₁.heap = h0 := by rw [← hh, Bd.state]; rfl
  have N0 := Fr.nil Z.heap.size
  have Z0 : Z.heap.size ≤ h0.size := OL.2.1
  have lt_0 : @LT.lt Nat _ a1 h0.size := p0_.lt
  show oG p.tables e below (fun o tE => ∃ v L, o = .returned v ∧ Q_cmp3 Z a1 nn cs k1 d1 h0 v tE.heap L ∧ FrameEnd s o tE L rM16.cells rM16.slots) (s₁.setTop (entryFrame m #[(.ref a1), (.int (0 : Int32)), (.int nn)] 6))
  refine own_hd (fun PP hPP => ?_)
  refine oG.st (fun t k => castTop (ef_135 m a1 (0 : Int32) nn) k) ?_
  refine oG.st (fun _ k => XS.iloadN X0.here hx rfl (hb hby dj52_16_0) rfl k) ?_
  show oG _ _ _ _ (s₁.setTop (mkF m 1 #[.val (.ref a1), .val (.int (0 : Int32)), .val (.int nn), .unset, .unset, .unset] [(.int nn)]))
  obtain ⟨T191, h191, k191, X191, e191, E191, A191, st191⟩ := newP X0 hx hZ (own_w hw 24 rfl) e0 (g := (mkF m 1 #[.val (.ref a1), .val (.int (0 : Int32)), .val (.int nn), .unset, .unset, .unset] [(.int nn)])) rfl (hb hby dj52_16_1) rfl (by rw [hnn]; exact own_of0 (by omega)) (cap := 4) (by rw [hnn, own_ofn (by omega)]; omega) (by decide) (by decide) (by decide)
  obtain ⟨b191, g191⟩ : ∃ z, z = h0.size := ⟨_, rfl⟩
  rw [← g191] at A191 st191
  refine oG.st st191 ?_
  have z191 : h0.size ≤ h191.size := E191.1
  have f192 : Arv Z h191 b191 k191 .byte nn [] (.int (0 : Int32)) := Arv.new A191 (by rw [hnn]; exact own_of0 (by omega))
  have lt_b191 : @LT.lt Nat _ b191 h191.size := f192.lt
  refine oG.st (fun _ k => XS.astoreN X191.here hx rfl (hb hby dj52_16_3) rfl rfl (l' := #[.val (.ref a1), .val (.int (0 : Int32)), .val (.int nn), .val (.ref b191), .unset, .unset]) rfl (XS.aloadN X191.here hx rfl (hb hby dj52_16_4) rfl rfl (XS.iloadN X191.here hx rfl (hb hby dj52_16_5) rfl (XS.aloadN X191.here hx rfl (hb hby dj52_16_6) rfl rfl (XS.iconst X191.here hx rfl (hb hby dj52_16_7) k))))) ?_
  show oG _ _ _ _ (T191.setTop (mkF m 8 #[.val (.ref a1), .val (.int (0 : Int32)), .val (.int nn), .val (.ref b191), .unset, .unset] [(.int (0 : Int32)), (.ref b191), (.int (0 : Int32)), (.ref a1)]))
  refine oG.st (fun _ k => XS.iloadN X191.here hx rfl (hb hby dj52_16_8) rfl k) ?_
  show oG _ _ _ _ (T191.setTop (mkF m 9 #[.val (.ref a1), .val (.int (0 : Int32)), .val (.int nn), .val (.ref b191), .unset, .unset] [(.int nn), (.int (0 : Int32)), (.ref b191), (.int (0 : Int32)), (.ref a1)]))
  have f194 : Arv Z h191 a1 k1 .char nn (cs.map Value.int) d1 := p0_.ext E191
  have f195 : Old Z Z.heap.size h191 := OL.ext E191
  obtain ⟨_, _, ⟨T193, L193, k193, n193⟩, -, X193, ⟨Lc193, hQ193, l193, y193, z193⟩, st193⟩ := Jvm.LawKit.callS X191 hx (y := mN28) hown (own_v hZ hw 94 rfl) (own_v hZ hw 95 rfl) (own_v hZ hw 92 rfl) (own_v hZ hw 96 rfl) (by decide) (backOf (W := 0) (rm_cmp5 l Z a0 hw [] a1 b191 nn cs k1 d1 k191 [] (.int (0 : Int32)) h191 f195 f194 f192 hnn (by omega) hbig (by omega)) hZ (own_w hw 96 rfl) (own_w hw 92 rfl) (by decide) (by decide)) (g := (mkF m 9 #[.val (.ref a1), .val (.int (0 : Int32)), .val (.int nn), .val (.ref b191), .unset, .unset] [(.int nn), (.int (0 : Int32)), (.ref b191), (.int (0 : Int32)), (.ref a1)])) rfl (by rw [hml]; rfl) (argsL := [(.ref a1), (.int (0 : Int32)), (.ref b191), (.int (0 : Int32)), (.int nn)]) (rest := []) (lenOf pd_144 rfl) rfl (by show 2 * 0 + _ ≤ _; exact Nat.le_of_eq rfl) (hb hby dj52_16_9) (fun _ _ => ⟨rfl, e191, (by decide : 1 + 0 ≤ _), (by decide : 4 + 0 ≤ _)⟩)
  dsimp only [Pt.U, Pt.locs, Pt.cells, Pt.slots] at X193 l193 y193 z193 st193 hQ193
  subst l193 y193 z193
  obtain ⟨f_193, vs4_193, rfl, N193q, K193, f193_0, pr193_0, pr193_1⟩ := hQ193
  have N193 := Fr.app N0 N193q
  have z193 : h191.size ≤ T193.heap.size := K193.1
  have lt193_0 : @LT.lt Nat _ b191 T193.heap.size := f193_0.lt
  have hf1 := pr193_0
  have hf2 := pr193_1
  refine oG.st st193 ?_
  refine oG.st (fun _ k => XS.istore X193.here hx rfl (hb hby dj52_16_12) rfl (l' := #[.val (.ref a1), .val (.int (0 : Int32)), .val (.int nn), .val (.ref b191), .val (.int (Int32.ofNat f_193)), .unset]) rfl (XS.iload X193.here hx rfl (hb hby dj52_16_14) rfl (XS.iloadN X193.here hx rfl (hb hby dj52_16_16) rfl k))) ?_
  show oG _ _ _ _ (T193.setTop (mkF m 17 #[.val (.ref a1), .val (.int (0 : Int32)), .val (.int nn), .val (.ref b191), .val (.int (Int32.ofNat f_193)), .unset] [(.int nn), (.int (Int32.ofNat f_193))]))
  have hc196 : ¬ ((Int32.ofNat f_193) = nn) := by rw [hnn]; intro q; have := congrArg Int32.toInt q; rw [own_of (by omega), own_of (by omega)] at this; omega
  refine oG.st (fun _ k => XS.icmpNo X193.here hx rfl (hb hby dj52_16_17) rfl (feq hc196).1 k) ?_
  refine oG.st (fun _ k => XS.aloadN X193.here hx rfl (hb hby dj52_16_20) rfl rfl (XS.iloadN X193.here hx rfl (hb hby dj52_16_21) rfl (XS.iloadN X193.here hx rfl (hb hby dj52_16_22) rfl k))) ?_
  show oG _ _ _ _ (T193.setTop (mkF m 23 #[.val (.ref a1), .val (.int (0 : Int32)), .val (.int nn), .val (.ref b191), .val (.int (Int32.ofNat f_193)), .unset] [(.int nn), (.int (0 : Int32)), (.ref a1)]))
  have ne198 : @Ne Nat a1 b191 := own_arvTy f194 f192 (by decide)
  have f199 : Arv Z T193.heap a1 k1 .char nn (cs.map Value.int) d1 := f194.keep K193 (ninS ne198 nin0)
  have f200 : Old Z Z.heap.size T193.heap := f195.keep K193 (allS (by omega) all0)
  obtain ⟨_, _, ⟨T197, L197, k197, n197⟩, -, X197, ⟨Lc197, hQ197, l197, y197, z197⟩, st197⟩ := Jvm.LawKit.callS X193 hx (y := mN36) hown (own_v hZ hw 104 rfl) (own_v hZ hw 105 rfl) (own_v hZ hw 92 rfl) (own_v hZ hw 106 rfl) (by decide) (backOf (W := 0) (rm_tob l Z a0 hw [] a1 nn cs k1 d1 T193.heap f200 f199 st_A st_H st_L hnn hle) hZ (own_w hw 106 rfl) (own_w hw 92 rfl) (by decide) (by decide)) (g := (mkF m 23 #[.val (.ref a1), .val (.int (0 : Int32)), .val (.int nn), .val (.ref b191), .val (.int (Int32.ofNat f_193)), .unset] [(.int nn), (.int (0 : Int32)), (.ref a1)])) rfl (by rw [hml]; rfl) (argsL := [(.ref a1), (.int (0 : Int32)), (.int nn)]) (rest := []) (lenOf pd_153 rfl) rfl (by show 2 * 0 + _ ≤ _; exact Nat.le_of_eq rfl) (hb hby dj52_16_23) (fun _ _ => ⟨rfl, rfl, (by decide : 1 + 1 ≤ _), (by decide : 4 + 8 ≤ _)⟩)
  dsimp only [Pt.U, Pt.locs, Pt.cells, Pt.slots] at X197 l197 y197 z197 st197 hQ197
  subst l197 y197 z197
  obtain ⟨x_197, k_197, rfl, N197q, K197, f197_0, pr197_0⟩ := hQ197
  have N197 := Fr.app N193 N197q
  have z197 : T193.heap.size ≤ T197.heap.size := K197.1
  have lt197_0 : @LT.lt Nat _ x_197 T197.heap.size := f197_0.lt
  refine oG.st st197 ?_
  refine oG.st (fun _ k => XS.astore X197.here hx rfl (hb hby dj52_16_26) rfl rfl (l' := #[.val (.ref a1), .val (.int (0 : Int32)), .val (.int nn), .val (.ref b191), .val (.int (Int32.ofNat f_193)), .val (.ref x_197)]) rfl (XS.aload X197.here hx rfl (hb hby dj52_16_28) rfl rfl (XS.iload X197.here hx rfl (hb hby dj52_16_30) rfl k))) ?_
  show oG _ _ _ _ (T197.setTop (mkF m 32 #[.val (.ref a1), .val (.int (0 : Int32)), .val (.int nn), .val (.ref b191), .val (.int (Int32.ofNat f_193)), .val (.ref x_197)] [(.int (Int32.ofNat f_193)), (.ref x_197)]))
  have f202 : Old Z Z.heap.size T197.heap := f200.keep K197 all0
  obtain ⟨_, _, ⟨T201, L201, k201, n201⟩, -, X201, ⟨Lc201, hQ201, l201, y201, z201⟩, st201⟩ := Jvm.LawKit.callS X197 hx (y := mN29) hown (own_v hZ hw 120 rfl) (own_v hZ hw 121 rfl) (own_v hZ hw 92 rfl) (own_v hZ hw 122 rfl) (by decide) (backOf (W := 0) (rm_getc l Z a0 hw [] x_197 (Int32.ofNat f_193) f_193 k_197 (Int32.ofNat (2 * cs.length)) (StrChars.Road.wideBytes cs) (.int (0 : Int32)) (cs.getD f_193 0) T197.heap f202 f197_0 st_A st_H st_L rfl (by rw [own_wlen]; omega) (by rw [own_wlen]) (by rw [own_wlen]; omega) (StrChars.Road.wide_lo _ _ _ hf1) (StrChars.Road.wide_hi _ _ _ hf1) (hrng _ (by rw [List.getD_eq_getElem?_getD, List.getElem?_eq_getElem hf1]; exact List.getElem_mem _))) hZ (own_w hw 122 rfl) (own_w hw 92 rfl) (by decide) (by decide)) (g := (mkF m 32 #[.val (.ref a1), .val (.int (0 : Int32)), .val (.int nn), .val (.ref b191), .val (.int (Int32.ofNat f_193)), .val (.ref x_197)] [(.int (Int32.ofNat f_193)), (.ref x_197)])) rfl (by rw [hml]; rfl) (argsL := [(.ref x_197), (.int (Int32.ofNat f_193))]) (rest := []) (lenOf pd_158 rfl) rfl (by show 2 * 0 + _ ≤ _; exact Nat.le_of_eq rfl) (hb hby dj52_16_32) (fun _ _ => ⟨rfl, rfl, (by decide : 2 + 0 ≤ _), (by decide : 12 + 0 ≤ _)⟩)
  dsimp only [Pt.U, Pt.locs, Pt.cells, Pt.slots] at X201 l201 y201 z201 st201 hQ201
  subst l201 y201 z201
  obtain ⟨rfl, N201q, K201⟩ := hQ201
  have N201 := Fr.app N197 N201q
  refine oG.st st201 ?_
  refine oG.st (fun _ k => XS.sipush X201.here hx rfl (hb hby dj52_16_35) k) ?_
  show oG _ _ _ _ (T201.setTop (mkF m 38 #[.val (.ref a1), .val (.int (0 : Int32)), .val (.int nn), .val (.ref b191), .val (.int (Int32.ofNat f_193)), .val (.ref x_197)] [(.int (255 : Int32)), (.int (cs.getD f_193 0))]))
  have hc203 : (255 : Int32) < (cs.getD f_193 0) := hf2
  refine oG.st (fun _ k => XS.icmpYes X201.here hx rfl (pc0 := 38) (pc' := 54) rfl (hb hby dj52_16_38) rfl (tlt hc203).2.2.1 (by decide) (by decide) k) ?_
  refine oG.st (fun _ k => XS.aload X201.here hx rfl (hb hby dj52_16_54) rfl rfl k) ?_
  show oG _ _ _ _ (T201.setTop (mkF m 56 #[.val (.ref a1), .val (.int (0 : Int32)), .val (.int nn), .val (.ref b191), .val (.int (Int32.ofNat f_193)), .val (.ref x_197)] [(.ref x_197)]))
  obtain ⟨fs204, hr204, hrun204, hend204, hW204, hsm204⟩ := X201.leave (v := some (.ref x_197)) (fun h => by rw [Bd.returns] at h; cases h)
  have K205 : Keep h0 h191 [] := (Keep.refl h0 []).ext E191
  have K206 : Keep h0 T193.heap [] := K205.trans K193 (allS (Or.inr (by omega)) all0)
  have K207 : Keep h0 T197.heap [] := K206.trans K197 all0
  subst hPP
  refine ⟨_, _, own_retA X201 hx Bd.returns rfl rfl (hb hby dj52_16_56) hr204, hrun204, hend204, _, _, rfl, ?_, ⟨_, rfl⟩, hW204, hsm204.mono (by decide) (by decide)⟩
  · show Q_cmp3 Z _ _ _ _ _ h0 _ T201.heap _
    rw [K201]
    exact ⟨x_197, k_197, rfl, N201, K207, f197_0, (by omega)⟩
theorem dj52_15_0 : decode cJ21 0 = .ok (.iload_n 1, 1) := by decide +kernel
theorem dj52_15_1 : decode cJ21 1 = .ok (.aload_n 0, 1) := by decide +kernel
theorem dj52_15_2 : decode cJ21 2 = .ok (.arraylength, 1) := by decide +kernel
theorem dj52_15_3 : decode cJ21 3 = .ok (.isub, 1) := by decide +kernel
theorem dj52_15_4 : decode cJ21 4 = .ok (.bipush 31, 2) := by decide +kernel
theorem dj52_15_6 : decode cJ21 6 = .ok (.iushr, 1) := by decide +kernel
theorem dj52_15_7 : decode cJ21 7 = .ok (.i2b, 1) := by decide +kernel
theorem dj52_15_8 : decode cJ21 8 = .ok (.ireturn, 1) := by decide +kernel
def Q_cfal (Z : State) (a1 : Nat) (p2 : Int32) (i : Nat) (k : ClassId) (n : Int32) (vs : List Value) (d : Value) (h0 : Heap) (v : Option Value) (h : Heap) (L : List Loc) : Prop := v = some (.int (1 : Int32)) ∧ Fr Z.heap.size L ∧ h = h0
set_option maxRecDepth 65536 in
set_option maxHeartbeats 40000000 in
theorem rm_cfal (l : Launch) (Z : State) (a0 : Array Value) (hw : ∀ d ∈ tables_1, d.before a0 Z = true) (ws : List Jvm.Cond) (a1 : Nat) (p2 : Int32) (i : Nat) (k : ClassId) (n : Int32) (vs : List Value) (d : Value) (h0 : Heap) (OL : Old Z Z.heap.size h0) (p0_ : Arv Z h0 a1 k .byte n vs d) (hp2 : p2 = Int32.ofNat i) (hn2 : n = Int32.ofNat (2 * i)) (hi : 0 < i ∧ i ≤ 4000) :
    MetFree l mN24 (head1 (Jvm.Cond.code mN24 jdk_52_method_15_code 2 (some .byte) :: ws) rM0) (fun a U => a = #[(.ref a1), (.int p2)] ∧ Z.Warmed39 U.vm ∧ U.heap = h0) (fun _ _ _ _ _ => True) (fun _ U o U' => ∃ v L, o = .returned v ∧ Q_cfal Z a1 p2 i k n vs d h0 v U'.heap L ∧ FrameEnd U o U' L rM0.cells rM0.slots) := by
  refine MetFree.of_bodySF (plainFor_of_name pn_25) hisR ?_
  intro p e s m args below meth c s₁ Bd hml0 hP hK
  obtain ⟨rfl, hZ, hh⟩ := hP
  have hx := Bd.exec
  have hby := Bd.bytes
  have hml : c.maxLocals = 2 := hml0
  have hown : s.vm.findClass "java/lang/StringUTF16" = some m.cls := findClass_of_methodNamed Bd.named
  have hnm := (name_of_methodNamed Bd.named Bd.method).1
  have X0 : Stand p l e rM0 s m #[(.ref a1), (.int p2)] below meth c s₁ [] 0 0 := Stand.of_body Bd
  have e0 : s₁.heap = h0 := by rw [← hh, Bd.state]; rfl
  have N0 := Fr.nil Z.heap.size
  have Z0 : Z.heap.size ≤ h0.size := OL.2.1
  have lt_0 : @LT.lt Nat _ a1 h0.size := p0_.lt
  show oG p.tables e below (fun o tE => ∃ v L, o = .returned v ∧ Q_cfal Z a1 p2 i k n vs d h0 v tE.heap L ∧ FrameEnd s o tE L rM0.cells rM0.slots) (s₁.setTop (entryFrame m #[(.ref a1), (.int p2)] 2))
  refine own_hd (fun PP hPP => ?_)
  refine oG.st (fun t k => castTop (ef_73 m a1 p2) k) ?_
  refine oG.st (fun _ k => XS.iloadN X0.here hx rfl (hb hby dj52_15_0) rfl (XS.aloadN X0.here hx rfl (hb hby dj52_15_1) rfl rfl k)) ?_
  show oG _ _ _ _ (s₁.setTop (mkF m 2 #[.val (.ref a1), .val (.int p2)] [(.ref a1), (.int p2)]))
  obtain ⟨c208, Ar208, q208, S208, Nn208, H208, G208⟩ := id p0_
  refine oG.st (X0.arraylength hx (own_rwE e0 Ar208.1) (State.isArrayOf_alike hZ.alike Ar208.2.1) (g := (mkF m 2 #[.val (.ref a1), .val (.int p2)] [(.ref a1), (.int p2)])) rfl rfl (hb hby dj52_15_2)) ?_
  rw [len_of S208 Nn208]
  refine oG.st (fun _ k => XS.isub X0.here hx rfl (hb hby dj52_15_3) rfl (XS.bipush X0.here hx rfl (hb hby dj52_15_4) (XS.iushr X0.here hx rfl (hb hby dj52_15_6) rfl (XS.i2b X0.here hx rfl (hb hby dj52_15_7) rfl k)))) ?_
  show oG _ _ _ _ (s₁.setTop (mkF m 8 #[.val (.ref a1), .val (.int p2)] [(.int ((((p2 - n).toUInt32 >>> ((31 : Int32) &&& 31).toUInt32).toInt32).toInt8.toInt32))]))
  obtain ⟨fs209, hr209, hrun209, hend209, hW209, hsm209⟩ := X0.leave (v := some (.int (nar .byte ((((p2 - n).toUInt32 >>> ((31 : Int32) &&& 31).toUInt32).toInt32).toInt8.toInt32)))) (fun h => by rw [Bd.returns] at h; cases h)
  subst hPP
  refine ⟨_, _, retN X0 hx (t := .byte) Bd.returns (by simp) (hb hby dj52_15_8) hr209, hrun209, hend209, _, _, rfl, ?_, ⟨_, rfl⟩, hW209, hsm209.mono (by decide) (by decide)⟩
  · show Q_cfal Z _ _ _ _ _ _ _ h0 _ s₁.heap _
    rw [e0]
    exact ⟨(by rw [hp2, hn2, own_cfal hi]), N0, rfl⟩
theorem dj42_149_27 : decode cJ5 27 = .ok (.getstatic 38, 3) := by decide +kernel
theorem dj42_149_30 : decode cJ5 30 = .ok (.ifCond .eq 28, 3) := by decide +kernel
theorem dj42_149_33 : decode cJ5 33 = .ok (.aload_n 1, 1) := by decide +kernel
theorem dj42_149_34 : decode cJ5 34 = .ok (.iload_n 2, 1) := by decide +kernel
theorem dj42_149_35 : decode cJ5 35 = .ok (.iload_n 3, 1) := by decide +kernel
theorem dj42_149_36 : decode cJ5 36 = .ok (.invokestatic 177, 3) := by decide +kernel
theorem dj42_149_39 : decode cJ5 39 = .ok (.astore 5, 2) := by decide +kernel
theorem dj42_149_41 : decode cJ5 41 = .ok (.aload_n 0, 1) := by decide +kernel
theorem dj42_149_42 : decode cJ5 42 = .ok (.aload 5, 2) := by decide +kernel
theorem dj42_149_44 : decode cJ5 44 = .ok (.iload_n 3, 1) := by decide +kernel
theorem pd_182 : parseMethodDescriptor "([BI)B" = some ⟨[(.array .byte), .int], some .byte⟩ := by decide +kernel
theorem dj42_149_45 : decode cJ5 45 = .ok (.invokestatic 47, 3) := by decide +kernel
theorem dj42_149_48 : decode cJ5 48 = .ok (.putfield 15, 3) := by decide +kernel
theorem dj42_149_51 : decode cJ5 51 = .ok (.aload_n 0, 1) := by decide +kernel
theorem dj42_149_52 : decode cJ5 52 = .ok (.aload 5, 2) := by decide +kernel
theorem dj42_149_54 : decode cJ5 54 = .ok (.putfield 9, 3) := by decide +kernel
theorem dj42_149_57 : decode cJ5 57 = .ok (.return_, 1) := by decide +kernel
def Q_init4u (Z : State) (a1 : Nat) (a2 : Nat) (nn : Int32) (cs : List Int32) (k1 : ClassId) (d1 : Value) (zc : Int32) (h0 : Heap) (v : Option Value) (h : Heap) (L : List Loc) : Prop := ∃ (t : Nat), v = none ∧ Fr Z.heap.size L ∧ Keep h0 h [a1] ∧ own_Str Z h a1 t cs ∧ (h0.size ≤ t)
set_option maxRecDepth 65536 in
set_option maxHeartbeats 40000000 in
theorem rm_init4u (l : Launch) (Z : State) (a0 : Array Value) (hw : ∀ d ∈ tables_1, d.before a0 Z = true) (ws : List Jvm.Cond) (a1 : Nat) (a2 : Nat) (nn : Int32) (cs : List Int32) (k1 : ClassId) (d1 : Value) (zc : Int32) (h0 : Heap) (OL : Old Z Z.heap.size h0) (p0_ : Exa Z h0 a1 "java/lang/String") (p1_ : Fld Z h0 a1 "java/lang/String" "value" "[B" .null) (p2_ : Fld Z h0 a1 "java/lang/String" "coder" "B" (.int (0 : Int32))) (p3_ : Arv Z h0 a2 k1 .char nn (cs.map Value.int) d1) (st_C : Sta Z Z.heap "java/lang/String" "COMPACT_STRINGS" "Z" (.int zc)) (st_A : Sta Z Z.heap "java/lang/StringUTF16" "$assertionsDisabled" "Z" (.int (1 : Int32))) (st_H : Sta Z Z.heap "java/lang/StringUTF16" "HI_BYTE_SHIFT" "I" (.int (0 : Int32))) (st_L : Sta Z Z.heap "java/lang/StringUTF16" "LO_BYTE_SHIFT" "I" (.int (8 : Int32))) (hnn : nn = Int32.ofNat cs.length) (hle : cs.length ≤ 4) (hbig : ∃ c ∈ cs, (255 : Int32) < c) (hrng : ∀ c ∈ cs, ¬ c < 0 ∧ ¬ (65535 : Int32) < c) (hn0 : Z.heap.size ≤ a1) (hzc : ¬ zc = 0) :
    MetFree l mN7 (head1 (Jvm.Cond.code mN7 jdk_42_method_149_code 6 none :: ws) rM20) (fun a U => a = #[(.ref a1), (.ref a2), (.int (0 : Int32)), (.int nn), .null] ∧ Z.Warmed39 U.vm ∧ U.heap = h0) (fun _ _ _ _ _ => True) (fun _ U o U' => ∃ v L, o = .returned v ∧ Q_init4u Z a1 a2 nn cs k1 d1 zc h0 v U'.heap L ∧ FrameEnd U o U' L rM20.cells rM20.slots) := by
  refine MetFree.of_bodySF (plainFor_of_name pn_0) hisR ?_
  intro p e s m args below meth c s₁ Bd hml0 hP hK
  obtain ⟨rfl, hZ, hh⟩ := hP
  have hx := Bd.exec
  have hby := Bd.bytes
  have hml : c.maxLocals = 6 := hml0
  have hown : s.vm.findClass "java/lang/String" = some m.cls := findClass_of_methodNamed Bd.named
  have hnm := (name_of_methodNamed Bd.named Bd.method).1
  have X0 : Stand p l e rM20 s m #[(.ref a1), (.ref a2), (.int (0 : Int32)), (.int nn), .null] below meth c s₁ [] 0 0 := Stand.of_body Bd
  have e0 : s₁.heap = h0 := by rw [← hh, Bd.state]; rfl
  have N0 := Fr.nil Z.heap.size
  have Z0 : Z.heap.size ≤ h0.size := OL.2.1
  have lt_0 : @LT.lt Nat _ a1 h0.size := p0_.lt
  have lt_1 : @LT.lt Nat _ a1 h0.size := p1_.lt
  have lt_2 : @LT.lt Nat _ a1 h0.size := p2_.lt
  have lt_3 : @LT.lt Nat _ a2 h0.size := p3_.lt
  show oG p.tables e below (fun o tE => ∃ v L, o = .returned v ∧ Q_init4u Z a1 a2 nn cs k1 d1 zc h0 v tE.heap L ∧ FrameEnd s o tE L rM20.cells rM20.slots) (s₁.setTop (entryFrame m #[(.ref a1), (.ref a2), (.int (0 : Int32)), (.int nn), .null] 6))
  refine own_hd (fun PP hPP => ?_)
  refine oG.st (fun t k => castTop (ef_1 m a1 a2 (0 : Int32) nn) k) ?_
  refine oG.st (fun _ k => XS.aloadN X0.here hx rfl (hb hby dj42_149_0) rfl rfl k) ?_
  show oG _ _ _ _ (s₁.setTop (mkF m 1 #[.val (.ref a1), .val (.ref a2), .val (.int (0 : Int32)), .val (.int nn), .val .null, .unset] [(.ref a1)]))
  obtain ⟨T210, X210, e210, st210⟩ := initO X0 hx hZ hown (own_w hw 20 rfl) (own_w hw 21 rfl) (own_w hw 22 rfl) e0 (g := (mkF m 1 #[.val (.ref a1), .val (.ref a2), .val (.int (0 : Int32)), .val (.int nn), .val .null, .unset] [(.ref a1)])) rfl (by rw [hml]; rfl) rfl (hb hby dj42_149_1) (by decide) (W := 0) (by show 2 * 0 + _ ≤ _; exact Nat.le_of_eq rfl) (by decide)
  refine oG.st st210 ?_
  refine oG.st (fun _ k => XS.iloadN X210.here hx rfl (hb hby dj42_149_4) rfl k) ?_
  show oG _ _ _ _ (T210.setTop (mkF m 5 #[.val (.ref a1), .val (.ref a2), .val (.int (0 : Int32)), .val (.int nn), .val .null, .unset] [(.int nn)]))
  have hc211 : ¬ (nn = (0 : Int32)) := by have e0 : (0 : Int32).toInt = 0 := (by decide); have hl : 0 < cs.length := (by obtain ⟨c, hc, -⟩ := hbig; exact List.length_pos_of_mem hc); rw [hnn]; intro q; have q2 := congrArg Int32.toInt q; rw [own_of (by omega), e0] at q2; omega
  refine oG.st (fun _ k => XS.ifYes X210.here hx rfl (pc0 := 5) (pc' := 27) rfl (hb hby dj42_149_5) rfl ((if0 _ _).trans (feq hc211).2) (by decide) (by decide) k) ?_
  show oG _ _ _ _ (T210.setTop (mkF m 27 #[.val (.ref a1), .val (.ref a2), .val (.int (0 : Int32)), .val (.int nn), .val .null, .unset] []))
  obtain ⟨T212, X212, e212, st212⟩ := getS2 X210 hx hZ hown (host := "") (Or.inl (own_w hw 54 rfl)) Via.refl e210 (st_C.ext OL.2) (g := (mkF m 27 #[.val (.ref a1), .val (.ref a2), .val (.int (0 : Int32)), .val (.int nn), .val .null, .unset] [])) rfl (hb hby dj42_149_27)
  refine oG.st st212 ?_
  show oG _ _ _ _ (T212.setTop (mkF m 30 #[.val (.ref a1), .val (.ref a2), .val (.int (0 : Int32)), .val (.int nn), .val .null, .unset] [(.int zc)]))
  have hc213 : ¬ (zc = (0 : Int32)) := hzc
  refine oG.st (fun _ k => XS.ifNo X212.here hx rfl (hb hby dj42_149_30) rfl ((if0 _ _).trans (feq hc213).1) k) ?_
  refine oG.st (fun _ k => XS.aloadN X212.here hx rfl (hb hby dj42_149_33) rfl rfl (XS.iloadN X212.here hx rfl (hb hby dj42_149_34) rfl (XS.iloadN X212.here hx rfl (hb hby dj42_149_35) rfl k))) ?_
  show oG _ _ _ _ (T212.setTop (mkF m 36 #[.val (.ref a1), .val (.ref a2), .val (.int (0 : Int32)), .val (.int nn), .val .null, .unset] [(.int nn), (.int (0 : Int32)), (.ref a2)]))
  obtain ⟨_, _, ⟨T214, L214, k214, n214⟩, -, X214, ⟨Lc214, hQ214, l214, y214, z214⟩, st214⟩ := Jvm.LawKit.callS X212 hx (y := mN27) hown (own_v hZ hw 90 rfl) (own_v hZ hw 91 rfl) (own_v hZ hw 92 rfl) (own_v hZ hw 93 rfl) (by decide) (backOf (W := 0) (rm_cmp3 l Z a0 hw [] a2 nn cs k1 d1 h0 OL p3_ st_A st_H st_L hnn hle hbig hrng) hZ (own_w hw 93 rfl) (own_w hw 92 rfl) (by decide) (by decide)) (g := (mkF m 36 #[.val (.ref a1), .val (.ref a2), .val (.int (0 : Int32)), .val (.int nn), .val .null, .unset] [(.int nn), (.int (0 : Int32)), (.ref a2)])) rfl (by rw [hml]; rfl) (argsL := [(.ref a2), (.int (0 : Int32)), (.int nn)]) (rest := []) (lenOf pd_153 rfl) rfl (by show 2 * 0 + _ ≤ _; exact Nat.le_of_eq rfl) (hb hby dj42_149_36) (fun _ _ => ⟨rfl, e212, (by decide : 0 + 2 ≤ _), (by decide : 0 + 12 ≤ _)⟩)
  dsimp only [Pt.U, Pt.locs, Pt.cells, Pt.slots] at X214 l214 y214 z214 st214 hQ214
  subst l214 y214 z214
  obtain ⟨x_214, k_214, rfl, N214q, K214, f214_0, pr214_0⟩ := hQ214
  have N214 := Fr.app N0 N214q
  have z214 : h0.size ≤ T214.heap.size := K214.1
  have lt214_0 : @LT.lt Nat _ x_214 T214.heap.size := f214_0.lt
  refine oG.st st214 ?_
  refine oG.st (fun _ k => XS.astore X214.here hx rfl (hb hby dj42_149_39) rfl rfl (l' := #[.val (.ref a1), .val (.ref a2), .val (.int (0 : Int32)), .val (.int nn), .val .null, .val (.ref x_214)]) rfl (XS.aloadN X214.here hx rfl (hb hby dj42_149_41) rfl rfl (XS.aload X214.here hx rfl (hb hby dj42_149_42) rfl rfl (XS.iloadN X214.here hx rfl (hb hby dj42_149_44) rfl k)))) ?_
  show oG _ _ _ _ (T214.setTop (mkF m 45 #[.val (.ref a1), .val (.ref a2), .val (.int (0 : Int32)), .val (.int nn), .val .null, .val (.ref x_214)] [(.int nn), (.ref x_214), (.ref a1)]))
  have f216 : Old Z Z.heap.size T214.heap := OL.keep K214 all0
  obtain ⟨_, _, ⟨T215, L215, k215, n215⟩, -, X215, ⟨Lc215, hQ215, l215, y215, z215⟩, st215⟩ := Jvm.LawKit.callS X214 hx (y := mN24) hown (own_v hZ hw 97 rfl) (own_v hZ hw 98 rfl) (own_v hZ hw 92 rfl) (own_v hZ hw 99 rfl) (by decide) (backOf (W := 1) (rm_cfal l Z a0 hw [] x_214 nn cs.length k_214 (Int32.ofNat (2 * cs.length)) (StrChars.Road.wideBytes cs) (.int (0 : Int32)) T214.heap f216 f214_0 hnn rfl ⟨(by obtain ⟨c, hc, -⟩ := hbig; exact List.length_pos_of_mem hc), by omega⟩) hZ (own_w hw 99 rfl) (own_w hw 92 rfl) (by decide) (by decide)) (g := (mkF m 45 #[.val (.ref a1), .val (.ref a2), .val (.int (0 : Int32)), .val (.int nn), .val .null, .val (.ref x_214)] [(.int nn), (.ref x_214), (.ref a1)])) rfl (by rw [hml]; rfl) (argsL := [(.ref x_214), (.int nn)]) (rest := [(.ref a1)]) (lenOf pd_182 rfl) rfl (by show 2 * 0 + _ ≤ _; exact Nat.le_of_eq rfl) (hb hby dj42_149_45) (fun _ _ => ⟨rfl, rfl, (by decide : 2 + 0 ≤ _), (by decide : 12 + 0 ≤ _)⟩)
  dsimp only [Pt.U, Pt.locs, Pt.cells, Pt.slots] at X215 l215 y215 z215 st215 hQ215
  subst l215 y215 z215
  obtain ⟨rfl, N215q, K215⟩ := hQ215
  have N215 := Fr.app N214 N215q
  refine oG.st st215 ?_
  show oG _ _ _ _ (T215.setTop (mkF m 48 #[.val (.ref a1), .val (.ref a2), .val (.int (0 : Int32)), .val (.int nn), .val .null, .val (.ref x_214)] [(.int (1 : Int32)), (.ref a1)]))
  have f217 : Fld Z T214.heap a1 "java/lang/String" "coder" "B" (.int (0 : Int32)) := p2_.keep K214 nin0
  have f218 : Exa Z T214.heap a1 "java/lang/String" := p0_.keep K214
  obtain ⟨T219, h219, X219, e219, W219, st219⟩ := putF X215 hx hZ hown (host := "") (Or.inl (own_w hw 30 rfl)) Via.refl K215 f217 f218 (Or.inr ⟨(own_w hw 26 rfl), rfl, hnm⟩) (own_w hw 10 rfl) (ty := .byte) (by decide) rfl (by decide) (g := (mkF m 48 #[.val (.ref a1), .val (.ref a2), .val (.int (0 : Int32)), .val (.int nn), .val .null, .val (.ref x_214)] [(.int (1 : Int32)), (.ref a1)])) rfl rfl (hb hby dj42_149_48)
  refine oG.st st219 ?_
  have N219 := Fr.snoc X219 N215 (by omega)
  have z219 : T214.heap.size ≤ h219.size := Nat.le_of_eq W219.size.symm
  have f220 : Fld Z h219 a1 "java/lang/String" "coder" "B" (.int (1 : Int32)) := f217.same W219
  refine oG.st (fun _ k => XS.aloadN X219.here hx rfl (hb hby dj42_149_51) rfl rfl (XS.aload X219.here hx rfl (hb hby dj42_149_52) rfl rfl k)) ?_
  show oG _ _ _ _ (T219.setTop (mkF m 54 #[.val (.ref a1), .val (.ref a2), .val (.int (0 : Int32)), .val (.int nn), .val .null, .val (.ref x_214)] [(.ref x_214), (.ref a1)]))
  have f221 : Fld Z T214.heap a1 "java/lang/String" "value" "[B" .null := p1_.keep K214 nin0
  have f222 : Fld Z h219 a1 "java/lang/String" "value" "[B" .null := f221.other W219 (Or.inr (slot_ne (Or.inr (own_w hw 25 rfl)) (Or.inr (own_w hw 26 rfl)) (by decide) (t := (.array .byte)) (t' := .byte) (by decide) (by decide)))
  have f223 : Exa Z h219 a1 "java/lang/String" := f218.wr W219
  obtain ⟨T224, h224, X224, e224, W224, st224⟩ := putF X219 hx hZ hown (host := "") (Or.inl (own_w hw 29 rfl)) Via.refl e219 f222 f223 (Or.inr ⟨(own_w hw 25 rfl), rfl, hnm⟩) (own_w hw 10 rfl) (ty := (.array .byte)) (by decide) rfl rfl (g := (mkF m 54 #[.val (.ref a1), .val (.ref a2), .val (.int (0 : Int32)), .val (.int nn), .val .null, .val (.ref x_214)] [(.ref x_214), (.ref a1)])) rfl rfl (hb hby dj42_149_54)
  refine oG.st st224 ?_
  have N224 := Fr.snoc X224 N219 (by omega)
  have z224 : h219.size ≤ h224.size := Nat.le_of_eq W224.size.symm
  have f225 : Fld Z h224 a1 "java/lang/String" "value" "[B" (.ref x_214) := f222.same W224
  show oG _ _ _ _ (T224.setTop (mkF m 57 #[.val (.ref a1), .val (.ref a2), .val (.int (0 : Int32)), .val (.int nn), .val .null, .val (.ref x_214)] []))
  obtain ⟨fs226, hr226, hrun226, hend226, hW226, hsm226⟩ := X224.leave (v := none) (fun _ => rfl)
  have f227 : Fld Z h224 a1 "java/lang/String" "coder" "B" (.int (1 : Int32)) := f220.other W224 (Or.inr (slot_ne (Or.inr (own_w hw 26 rfl)) (Or.inr (own_w hw 25 rfl)) (by decide) (t := .byte) (t' := (.array .byte)) (by decide) (by decide)))
  have f228 : Exa Z h224 a1 "java/lang/String" := f223.wr W224
  have ne229 : @Ne Nat a1 x_214 := Exa.neArv f218 f214_0 (own_w hw 10 rfl)
  have f230 : Arv Z h219 x_214 k_214 .byte (Int32.ofNat (2 * cs.length)) (StrChars.Road.wideBytes cs) (.int (0 : Int32)) := f214_0.other W219 (Ne.symm ne229)
  have f231 : Arv Z h224 x_214 k_214 .byte (Int32.ofNat (2 * cs.length)) (StrChars.Road.wideBytes cs) (.int (0 : Int32)) := f230.other W224 (Ne.symm ne229)
  have K232 : Keep h0 T214.heap [a1] := (Keep.refl h0 [a1]).trans K214 all0
  have K233 : Keep h0 h219 [a1] := K232.wr W219 (Or.inl (List.mem_of_getElem? (i := 0) rfl))
  have K234 : Keep h0 h224 [a1] := K233.wr W224 (Or.inl (List.mem_of_getElem? (i := 0) rfl))
  subst hPP
  refine ⟨_, _, X224.returnOut hx Bd.returns (hb hby dj42_149_57) hr226, hrun226, hend226, _, _, rfl, ?_, ⟨_, rfl⟩, hW226, hsm226.mono (by decide) (by decide)⟩
  · show Q_init4u Z _ _ _ _ _ _ _ h0 _ T224.heap _
    rw [e224]
    exact ⟨x_214, rfl, N224, K234, ⟨k_214, 1, _, _, f228, f225, f227, f231, Or.inr ⟨rfl, rfl, rfl, hbig⟩, hrng, by omega⟩, (by omega)⟩
def Q_init1u (Z : State) (a1 : Nat) (a2 : Nat) (nn : Int32) (cs : List Int32) (k1 : ClassId) (d1 : Value) (zc : Int32) (h0 : Heap) (v : Option Value) (h : Heap) (L : List Loc) : Prop := ∃ (t : Nat), v = none ∧ Fr Z.heap.size L ∧ Keep h0 h [a1] ∧ own_Str Z h a1 t cs ∧ (h0.size ≤ t)
set_option maxRecDepth 65536 in
set_option maxHeartbeats 40000000 in
theorem rm_init1u (l : Launch) (Z : State) (a0 : Array Value) (hw : ∀ d ∈ tables_1, d.before a0 Z = true) (ws : List Jvm.Cond) (a1 : Nat) (a2 : Nat) (nn : Int32) (cs : List Int32) (k1 : ClassId) (d1 : Value) (zc : Int32) (h0 : Heap) (OL : Old Z Z.heap.size h0) (p0_ : Exa Z h0 a1 "java/lang/String") (p1_ : Fld Z h0 a1 "java/lang/String" "value" "[B" .null) (p2_ : Fld Z h0 a1 "java/lang/String" "coder" "B" (.int (0 : Int32))) (p3_ : Arv Z h0 a2 k1 .char nn (cs.map Value.int) d1) (st_C : Sta Z Z.heap "java/lang/String" "COMPACT_STRINGS" "Z" (.int zc)) (st_A : Sta Z Z.heap "java/lang/StringUTF16" "$assertionsDisabled" "Z" (.int (1 : Int32))) (st_H : Sta Z Z.heap "java/lang/StringUTF16" "HI_BYTE_SHIFT" "I" (.int (0 : Int32))) (st_L : Sta Z Z.heap "java/lang/StringUTF16" "LO_BYTE_SHIFT" "I" (.int (8 : Int32))) (hnn : nn = Int32.ofNat cs.length) (hle : cs.length ≤ 4) (hbig : ∃ c ∈ cs, (255 : Int32) < c) (hrng : ∀ c ∈ cs, ¬ c < 0 ∧ ¬ (65535 : Int32) < c) (hn0 : Z.heap.size ≤ a1) (hzc : ¬ zc = 0) :
    MetFree l mN6 (head1 (Jvm.Cond.code mN6 jdk_42_method_3_code 2 none :: ws) rM22) (fun a U => a = #[(.ref a1), (.ref a2)] ∧ Z.Warmed39 U.vm ∧ U.heap = h0) (fun _ _ _ _ _ => True) (fun _ U o U' => ∃ v L, o = .returned v ∧ Q_init1u Z a1 a2 nn cs k1 d1 zc h0 v U'.heap L ∧ FrameEnd U o U' L rM22.cells rM22.slots) := by
  refine MetFree.of_bodySF (plainFor_of_name pn_0) hisR ?_
  intro p e s m args below meth c s₁ Bd hml0 hP hK
  obtain ⟨rfl, hZ, hh⟩ := hP
  have hx := Bd.exec
  have hby := Bd.bytes
  have hml : c.maxLocals = 2 := hml0
  have hown : s.vm.findClass "java/lang/String" = some m.cls := findClass_of_methodNamed Bd.named
  have hnm := (name_of_methodNamed Bd.named Bd.method).1
  have X0 : Stand p l e rM22 s m #[(.ref a1), (.ref a2)] below meth c s₁ [] 0 0 := Stand.of_body Bd
  have e0 : s₁.heap = h0 := by rw [← hh, Bd.state]; rfl
  have N0 := Fr.nil Z.heap.size
  have Z0 : Z.heap.size ≤ h0.size := OL.2.1
  have lt_0 : @LT.lt Nat _ a1 h0.size := p0_.lt
  have lt_1 : @LT.lt Nat _ a1 h0.size := p1_.lt
  have lt_2 : @LT.lt Nat _ a1 h0.size := p2_.lt
  have lt_3 : @LT.lt Nat _ a2 h0.size := p3_.lt
  show oG p.tables e below (fun o tE => ∃ v L, o = .returned v ∧ Q_init1u Z a1 a2 nn cs k1 d1 zc h0 v tE.heap L ∧ FrameEnd s o tE L rM22.cells rM22.slots) (s₁.setTop (entryFrame m #[(.ref a1), (.ref a2)] 2))
  refine own_hd (fun PP hPP => ?_)
  refine oG.st (fun t k => castTop (ef_15 m a1 a2) k) ?_
  refine oG.st (fun _ k => XS.aloadN X0.here hx rfl (hb hby dj42_3_0) rfl rfl (XS.aloadN X0.here hx rfl (hb hby dj42_3_1) rfl rfl (XS.iconst X0.here hx rfl (hb hby dj42_3_2) (XS.aloadN X0.here hx rfl (hb hby dj42_3_3) rfl rfl k)))) ?_
  show oG _ _ _ _ (s₁.setTop (mkF m 4 #[.val (.ref a1), .val (.ref a2)] [(.ref a2), (.int (0 : Int32)), (.ref a2), (.ref a1)]))
  obtain ⟨c235, Ar235, q235, S235, Nn235, H235, G235⟩ := id p3_
  refine oG.st (X0.arraylength hx (own_rwE e0 Ar235.1) (State.isArrayOf_alike hZ.alike Ar235.2.1) (g := (mkF m 4 #[.val (.ref a1), .val (.ref a2)] [(.ref a2), (.int (0 : Int32)), (.ref a2), (.ref a1)])) rfl rfl (hb hby dj42_3_4)) ?_
  rw [len_of S235 Nn235]
  refine oG.st (fun _ k => XS.aconstNull X0.here hx rfl (hb hby dj42_3_5) k) ?_
  show oG _ _ _ _ (s₁.setTop (mkF m 6 #[.val (.ref a1), .val (.ref a2)] [.null, (.int nn), (.int (0 : Int32)), (.ref a2), (.ref a1)]))
  obtain ⟨_, _, ⟨T236, L236, k236, n236⟩, -, X236, ⟨Lc236, hQ236, l236, y236, z236⟩, st236⟩ := X0.specialBack hx (y := mN7) rfl hown (own_v hZ hw 16 rfl) (own_v hZ hw 17 rfl) (own_v hZ hw 19 rfl) (by decide) (backOf (W := 0) (rm_init4u l Z a0 hw [] a1 a2 nn cs k1 d1 zc h0 OL p0_ p1_ p2_ p3_ st_C st_A st_H st_L hnn hle hbig hrng hn0 hzc) hZ (own_w hw 19 rfl) (own_w hw 11 rfl) (by decide) (by decide)) (g := (mkF m 6 #[.val (.ref a1), .val (.ref a2)] [.null, (.int nn), (.int (0 : Int32)), (.ref a2), (.ref a1)])) rfl (by rw [hml]; rfl) (Steps.refl _) (a := a1) (argsL := [(.ref a2), (.int (0 : Int32)), (.int nn), .null]) (rest := []) (lenOf pd_22 rfl) rfl (by show 2 * 0 + _ ≤ _; exact Nat.le_of_eq rfl) (hb hby dj42_3_6) (fun _ _ => ⟨rfl, e0, (by decide : 0 + 2 ≤ _), (by decide : 0 + 12 ≤ _)⟩)
  dsimp only [Pt.U, Pt.locs, Pt.cells, Pt.slots] at X236 l236 y236 z236 st236 hQ236
  subst l236 y236 z236
  obtain ⟨t_236, rfl, N236q, K236, f236_0, pr236_0⟩ := hQ236
  have N236 := Fr.app N0 N236q
  have z236 : h0.size ≤ T236.heap.size := K236.1
  have lt236_0 : @LT.lt Nat _ a1 T236.heap.size := f236_0.lt
  have ltv236_0 : @LT.lt Nat _ t_236 T236.heap.size := f236_0.ltv
  refine oG.tr st236 ?_
  show oG _ _ _ _ (T236.setTop (mkF m 9 #[.val (.ref a1), .val (.ref a2)] []))
  obtain ⟨fs237, hr237, hrun237, hend237, hW237, hsm237⟩ := X236.leave (v := none) (fun _ => rfl)
  have K238 : Keep h0 T236.heap [a1] := (Keep.refl h0 [a1]).trans K236 (allS (Or.inl (List.mem_of_getElem? (i := 0) rfl)) all0)
  subst hPP
  refine ⟨_, _, X236.returnOut hx Bd.returns (hb hby dj42_3_9) hr237, hrun237, hend237, _, _, rfl, ?_, ⟨_, rfl⟩, hW237, hsm237.mono (by decide) (by decide)⟩
  · show Q_init1u Z _ _ _ _ _ _ _ h0 _ T236.heap _
    exact ⟨t_236, rfl, N236, K238, f236_0, (by omega)⟩

set_option maxHeartbeats 4000000 in
theorem own_backStr {p : Program} {l : Launch} {e : Env} {R : Room} {s : State} {args : Array Value} {below : List Frame} {len W : Nat} {Z : State} {a0 : Array Value} {h : Heap} (hZ : Z.Warmed39 s.vm) (hw : ∀ d ∈ tables_1, d.before a0 Z = true)
    {x b : Addr} {nn : Int32} {cs : List Int32} {k1 : ClassId} {d1 : Value} {zc : Int32} (OL : Old Z Z.heap.size h) (E : Exa Z h x "java/lang/String") (V : Fld Z h x "java/lang/String" "value" "[B" .null) (C : Fld Z h x "java/lang/String" "coder" "B" (.int (0 : Int32))) (K : Arv Z h b k1 .char nn (cs.map Value.int) d1)
    (s1 : Sta Z Z.heap "java/lang/String" "COMPACT_STRINGS" "Z" (.int zc)) (s2 : Sta Z Z.heap "java/lang/StringUTF16" "$assertionsDisabled" "Z" (.int (1 : Int32))) (s3 : Sta Z Z.heap "java/lang/StringUTF16" "HI_BYTE_SHIFT" "I" (.int (0 : Int32))) (s4 : Sta Z Z.heap "java/lang/StringUTF16" "LO_BYTE_SHIFT" "I" (.int (8 : Int32)))
    (hnn : nn = Int32.ofNat cs.length) (hlen : 0 < cs.length) (hle : cs.length ≤ 4) (hrng : ∀ c ∈ cs, ¬ c < 0 ∧ ¬ (65535 : Int32) < c) (hn0 : Z.heap.size ≤ x) (hzc : ¬ zc = 0) (hfr : 6 ≤ R.frames) (hlo : W + (2 + 11) + 76 ≤ R.locals) :
    Back l R p e below s args mN6 len W (fun P a => a = #[.ref x, .ref b] ∧ P.U.heap = h ∧ P.cells + 2 ≤ R.cells ∧ P.slots + 12 ≤ R.slots)
      (fun P _ v B => ∃ L, Q_init1u Z x b nn cs k1 d1 zc h v B.U.heap L ∧ B.locs = P.locs ++ L ∧ B.cells = P.cells + 2 ∧ B.slots = P.slots + 12) := by
  by_cases hbig : ∃ c ∈ cs, (255 : Int32) < c
  · exact backOf (rm := rM22) (rm_init1u l Z a0 hw [] x b nn cs k1 d1 zc h OL E V C K s1 s2 s3 s4 hnn hle hbig hrng hn0 hzc) hZ (own_w hw 15 rfl) (own_w hw 11 rfl) hfr hlo
  · have hp : ∀ c ∈ cs, ¬ c < 0 ∧ ¬ (255 : Int32) < c := fun c hc => ⟨(hrng c hc).1, fun q => hbig ⟨c, hc, q⟩⟩
    have hb := StrChars.Road.backV (p := p) (l := l) (e := e) (R := R) (s := s) (args := args) (below := below) (len := len) (W := W) hZ (own_hws hw) (kI := 4) (own_w hw 10 rfl) (cs := cs) (bs := cs.map (fun c => c.toInt8.toInt32)) (n := cs.length) (n0 := Z.heap.size) hn0 (OL.2.1) E V C K (s1.ext OL.2) hzc rfl hnn hlen (by omega) hp rfl (by omega) (by omega)
    intro m meth c A g ig mk a X hg hs hd hW hm hpre
    obtain ⟨hp1, hp2, hp3, hp4⟩ := hpre
    obtain ⟨v, B, X', ⟨L, hq, hl, hc, hsl⟩, st⟩ := hb m meth c A g ig mk a X hg hs hd hW hm ⟨hp1, hp2, by omega, by omega⟩
    refine ⟨v, ⟨B.U, B.locs, A.cells + 2, A.slots + 12⟩, ?_, ⟨L, ?_, hl, rfl, rfl⟩, st⟩
    · exact X'.wide (fun x hx _ => hx) (by show B.cells ≤ A.cells + 2; omega) (by show B.slots ≤ A.slots + 12; omega)
    · obtain ⟨rfl, N, Kp, Ex, Cd, t, kb, u1, u2, u3, Vl, Ar⟩ := hq
      exact ⟨t, rfl, N, Kp, ⟨kb, 0, nn, _, Ex, Vl, Cd, Ar, hnn ▸ StrChars.Road.codOf rfl (fun c q => (hp c q).2), own_upL hp, by omega⟩, u2⟩


theorem own_Str.latF {Z : State} {h : Heap} {x t : Addr} {cs : List Int32} (F : own_Str Z h x t cs) (hl : ∀ c ∈ cs, ¬ (255 : Int32) < c) : ∃ (kb : ClassId), Exa Z h x "java/lang/String" ∧ Fld Z h x "java/lang/String" "value" "[B" (.ref t) ∧ Fld Z h x "java/lang/String" "coder" "B" (.int (0 : Int32)) ∧ Arv Z h t kb .byte (Int32.ofNat cs.length) (cs.map fun c => Value.int (StrChars.lo8 c)) (.int (0 : Int32)) := by
  obtain ⟨kb, N2, vs, h1, h2, h3, h4, h5⟩ := F.lat hl
  rcases h5 with ⟨-, hN, hv, -⟩ | ⟨q, -⟩
  · subst hN hv; exact ⟨kb, h1, h2, h3, h4⟩
  · exact absurd q (by decide)
theorem own_Str.mkL {Z : State} {h : Heap} {x t : Addr} {cs : List Int32} {kb : ClassId} (h1 : Exa Z h x "java/lang/String") (h2 : Fld Z h x "java/lang/String" "value" "[B" (.ref t)) (h3 : Fld Z h x "java/lang/String" "coder" "B" (.int (0 : Int32))) (h4 : Arv Z h t kb .byte (Int32.ofNat cs.length) (cs.map fun c => Value.int (StrChars.lo8 c)) (.int (0 : Int32))) (hl : ∀ c ∈ cs, ¬ c < 0 ∧ ¬ (255 : Int32) < c) (hn : cs.length ≤ 4000) : own_Str Z h x t cs :=
  ⟨kb, 0, _, _, h1, h2, h3, h4, Or.inl ⟨rfl, rfl, rfl, fun c q => (hl c q).2⟩, own_upL hl, hn⟩
theorem own_shl0 (x : Int32) : x <<< ((0 : Int32) &&& 31) = x := by
  apply Int32.toInt_inj.mp
  have a := c_ishl x 0 0 (by decide)
  have r := rng32 x
  have r2 := rng32 (x <<< ((0 : Int32) &&& 31))
  omega
theorem own_shr0 (x : Int32) : x >>> ((0 : Int32) &&& 31) = x := by
  apply Int32.toInt_inj.mp
  have a := c_ishr x 0 0 (by decide)
  omega
theorem own_ofA {i j : Nat} (h : i + j < 1073741823) : Int32.ofNat i + Int32.ofNat j = Int32.ofNat (i + j) := by
  apply Int32.toInt_inj.mp
  have a := c_iadd (Int32.ofNat i) (Int32.ofNat j)
  have b := own_of (i := i) (by omega)
  have c := own_of (i := j) (by omega)
  have d := own_of (i := i + j) (by omega)
  have r := rng32 (Int32.ofNat i + Int32.ofNat j)
  omega
theorem own_ofB {i j : Nat} (h : i < 1073741823) (hj : j ≤ i) : Int32.ofNat i - Int32.ofNat j = Int32.ofNat (i - j) := by
  apply Int32.toInt_inj.mp
  have a := c_isub (Int32.ofNat i) (Int32.ofNat j)
  have b := own_of (i := i) (by omega)
  have c := own_of (i := j) (by omega)
  have d := own_of (i := i - j) (by omega)
  have r := rng32 (Int32.ofNat i - Int32.ofNat j)
  omega
theorem own_ofBle {i j : Nat} (h : i < 1073741823) (hj : j < 1073741823) : (0 : Int32) < Int32.ofNat i - Int32.ofNat j ↔ j < i := by
  have a := c_isub (Int32.ofNat i) (Int32.ofNat j)
  have b := own_of (i := i) (by omega)
  have c := own_of (i := j) (by omega)
  have r := rng32 (Int32.ofNat i - Int32.ofNat j)
  have e0 : (0 : Int32).toInt = 0 := by decide
  rw [Int32.lt_iff_toInt_lt, e0]
  omega
theorem own_ofE {i j : Nat} (hi : i < 2147483648) (hj : j < 2147483648) : Int32.ofNat i = Int32.ofNat j ↔ i = j := ⟨fun q => by
    have q2 := congrArg Int32.toInt q
    rw [own_of hi, own_of hj] at q2
    omega, fun q => by rw [q]⟩
abbrev own_low (cs : List Int32) : List Value := cs.map fun c => Value.int (StrChars.lo8 c)
theorem own_lowG (cs : List Int32) (i : Nat) (d : Value) : (own_low cs).getD i d = if i < cs.length then .int (StrChars.lo8 (cs.getD i 0)) else d := by
  by_cases h : i < cs.length
  · simp [own_low, List.getD_eq_getElem?_getD, h]
  · simp [own_low, List.getD_eq_getElem?_getD, h, List.getElem?_eq_none (Nat.le_of_not_lt h)]
theorem own_appG (cs ds : List Int32) (i : Nat) : (cs ++ ds).getD i 0 = if i < cs.length then cs.getD i 0 else ds.getD (i - cs.length) 0 := by
  by_cases h : i < cs.length
  · rw [if_pos h]; simp [List.getD_eq_getElem?_getD, List.getElem?_append_left h]
  · rw [if_neg h]; simp [List.getD_eq_getElem?_getD, List.getElem?_append_right (Nat.le_of_not_lt h)]
theorem own_us (ds : List Int32) (hn : ds.length < 2147483648) : own_low ds = (List.range (Int32.ofNat ds.length).toNatClampNeg).map fun i => (own_low ds).getD ((0 : Int32).toNatClampNeg + i) (.int (0 : Int32)) := by
  rw [own_ofn hn]
  have e0 : (0 : Int32).toNatClampNeg = 0 := by decide
  rw [e0]
  apply List.ext_getElem
  · simp [own_low]
  · intro i h1 h2
    simp [own_low, List.getD_eq_getElem?_getD] at h1 ⊢
    simp [h1]
theorem own_appV {Z : State} {h : Heap} {a : Addr} {k : ClassId} {n : Int32} {cs ds : List Int32} {m : Nat} (F : Arv Z h a k .byte n (((own_low cs ++ List.replicate m (Value.int (0 : Int32))).take (Int32.ofNat cs.length).toNatClampNeg) ++ own_low ds ++ ((own_low cs ++ List.replicate m (Value.int (0 : Int32))).drop ((Int32.ofNat cs.length).toNatClampNeg + (Int32.ofNat ds.length).toNatClampNeg))) (.int (0 : Int32))) (h1 : cs.length < 100000) (h2 : ds.length < 100000) : Arv Z h a k .byte n (own_low (cs ++ ds)) (.int (0 : Int32)) := by
  refine F.pad (fun i => ?_)
  rw [own_ofn (by omega), own_ofn (by omega)]
  have e1 : (own_low cs ++ List.replicate m (Value.int (0 : Int32))).take cs.length = own_low cs := by
    rw [List.take_append_of_le_length (by simp [own_low]), List.take_of_length_le (by simp [own_low])]
  have e2 : (own_low cs ++ List.replicate m (Value.int (0 : Int32))).drop (cs.length + ds.length) = List.replicate (m - ds.length) (Value.int (0 : Int32)) := by
    rw [List.drop_append, List.drop_of_length_le (by simp [own_low]), List.drop_replicate, List.nil_append]
    congr 1
    simp [own_low]
  rw [e1, e2, show own_low (cs ++ ds) = own_low cs ++ own_low ds by simp [own_low]]
  exact (pad_rep (own_low cs ++ own_low ds) _ _ i).symm
theorem own_latT {cs : List Int32} {i m : Nat} (h : ∀ c ∈ cs, ¬ c < 0 ∧ ¬ (255 : Int32) < c) : ∀ c ∈ (cs.drop i).take m, ¬ c < 0 ∧ ¬ (255 : Int32) < c := fun c hc => h c (List.mem_of_mem_drop (List.mem_of_mem_take hc))
theorem own_latA {a b : List Int32} (h1 : ∀ c ∈ a, ¬ c < 0 ∧ ¬ (255 : Int32) < c) (h2 : ∀ c ∈ b, ¬ c < 0 ∧ ¬ (255 : Int32) < c) : ∀ c ∈ a ++ b, ¬ c < 0 ∧ ¬ (255 : Int32) < c := fun c hc => (List.mem_append.mp hc).elim (h1 c) (h2 c)
theorem own_subl {cs : List Int32} {i m : Nat} (h : i + m ≤ cs.length) : ((cs.drop i).take m).length = m := by simp; omega


theorem own_standW {p : Program} {l : Launch} {e : Env} {R : Room} {s : State} {m : MethodId} {args : Array Value} {below : List Frame} {meth : Method} {c : Code} {T : State} {locs : List Loc} {cells slots c2 s2 : Nat} (X : Stand p l e R s m args below meth c T locs cells slots) (h1 : cells ≤ c2) (h2 : slots ≤ s2) : Stand p l e R s m args below meth c T locs c2 s2 := { X with same := X.same.mono h1 h2 }


theorem own_ofB1 {j : Nat} (h : j < 100000) : Int32.ofNat (j + 1) - (1 : Int32) = Int32.ofNat j := own_ofB (i := j + 1) (j := 1) (by omega) (by omega)
theorem own_am1 (x : Int32) : x + (-1 : Int32) = x - (1 : Int32) := (Int32.sub_eq_add_neg x 1).symm
theorem own_sa1 (x : Int32) : x - (1 : Int32) + (1 : Int32) = x := Int32.sub_add_cancel x 1
theorem own_lt0 {i : Nat} (h : i < 100000) : Int32.ofNat i - (1 : Int32) < 0 ↔ i = 0 := by
  have a := c_isub (Int32.ofNat i) (1 : Int32)
  have b := own_of (i := i) (by omega)
  have e1 : (1 : Int32).toInt = 1 := by decide
  have e0 : (0 : Int32).toInt = 0 := by decide
  have r := rng32 (Int32.ofNat i - (1 : Int32))
  rw [Int32.lt_iff_toInt_lt, e0]
  omega
def own_ix (e n : Nat) : Int32 := if e < n then Int32.ofNat e else -1
theorem own_ixF {e n : Nat} (h : ¬ own_ix e n < 0) : e < n := by
  unfold own_ix at h
  by_cases q : e < n
  · exact q
  · rw [if_neg q] at h; exact absurd (by decide) h
theorem own_ixT {e n : Nat} (hn : n < 100000) (h : own_ix e n < 0) : ¬ e < n := fun q => by
  unfold own_ix at h
  rw [if_pos q] at h
  exact own_of0 (by omega) h
theorem own_lowAt {cs : List Int32} {i : Nat} (hi : i < cs.length) (hl : cs.length ≤ 4000) (d : Value) : (own_low cs).getD (Int32.ofNat i).toNatClampNeg d = .int (StrChars.lo8 (cs.getD i 0)) := by
  rw [own_ofn (by omega), own_lowG, if_pos hi]
theorem own_mem {cs : List Int32} {i : Nat} (hi : i < cs.length) : cs.getD i 0 ∈ cs := by
  simp [List.getD_eq_getElem?_getD, hi]
theorem own_loN {cs : List Int32} {i : Nat} {ch : Int32} (hi : i < cs.length) (h : ¬ (StrChars.lo8 (cs.getD i 0)) = (ch.toInt8.toInt32)) : cs.getD i 0 ≠ ch := fun q => h (by rw [q]; rfl)
theorem own_loY {cs : List Int32} {i : Nat} {ch : Int32} (hi : i < cs.length) (hl : ∀ c ∈ cs, ¬ c < 0 ∧ ¬ (255 : Int32) < c) (hc : ch = 46 ∨ ch = 36) (h : (StrChars.lo8 (cs.getD i 0)) = (ch.toInt8.toInt32)) : cs.getD i 0 = ch := by
  have a := hl _ (own_mem hi)
  have b : ¬ ch < 0 ∧ ¬ (255 : Int32) < ch := by rcases hc with rfl | rfl <;> decide
  exact StrChars.lo8_inj a.1 a.2 b.1 b.2 h
def own_Ld (cs : List Int32) (ch : Int32) (st : Nat) : Prop := st ≤ cs.length ∧ (st = 0 ∨ cs.getD (st - 1) 0 = ch) ∧ ∀ j, st ≤ j → j < cs.length → cs.getD j 0 ≠ ch
def own_Ix (cs : List Int32) (ch : Int32) (i0 e : Nat) : Prop := e ≤ cs.length ∧ (e < cs.length → i0 ≤ e ∧ cs.getD e 0 = ch) ∧ ∀ j, i0 ≤ j → j < e → cs.getD j 0 ≠ ch
theorem own_LdS {cs : List Int32} {ch : Int32} {j : Nat} (hj : j < cs.length) (h : cs.getD j 0 ≠ ch) (r : ∀ k, j + 1 ≤ k → k < cs.length → cs.getD k 0 ≠ ch) : ∀ k, j ≤ k → k < cs.length → cs.getD k 0 ≠ ch := fun k a b => by
  by_cases q : k = j
  · rw [q]; exact h
  · exact r k (by omega) b
theorem own_IxS {cs : List Int32} {ch : Int32} {i0 i : Nat} (h : cs.getD i 0 ≠ ch) (r : ∀ k, i0 ≤ k → k < i → cs.getD k 0 ≠ ch) : ∀ k, i0 ≤ k → k < i + 1 → cs.getD k 0 ≠ ch := fun k a b => by
  by_cases q : k = i
  · rw [q]; exact h
  · exact r k a (by omega)

theorem own_pushB {Z : State} {h h' : Heap} {a : Addr} {k : ClassId} {z : Int32} {cs : List Int32} {j v : Int32} (F : Arv Z h a k .byte z (own_low cs) (.int (0 : Int32))) (W : Wr h h' a j.toNatClampNeg (.int (nar .byte (v.toInt8.toInt32)))) (hj : j = Int32.ofNat cs.length) (hl : cs.length < 1000) : Arv Z h' a k .byte z (own_low (cs ++ [v])) (.int (0 : Int32)) := by
  have F2 := F.pad (vs' := own_low cs ++ List.replicate 1 (Value.int (0 : Int32))) (fun i => pad_rep _ _ 1 i)
  obtain ⟨c, A, q1, S, q3, H, G⟩ := F2
  have F3 := Arv.set A q1 S q3 H G (fits_nar_byte _) W cs.length (by rw [hj, own_ofn (by omega)]) (by simp [own_low])
  have e : v.toInt8.toInt32.toInt8.toInt32 = StrChars.lo8 v := by
    show (v.toInt8.toInt32).toInt8.toInt32 = v.toInt8.toInt32
    simp
  rw [e, List.set_append_right _ _ (by simp [own_low])] at F3
  simpa [own_low] using F3

theorem ef_189 (m : MethodId) (x0 : Int32) (x1 : Int32) : entryFrame m #[(.int x0), (.int x1)] 2 = mkF m 0 #[.val (.int x0), .val (.int x1)] [] := by first | (simp [entryFrame, mkF, argsToLocals, Value.category]; done) | rfl
theorem dj29_69_0 : decode cJ1 0 = .ok (.iload_n 0, 1) := by decide +kernel
theorem dj29_69_1 : decode cJ1 1 = .ok (.iload_n 1, 1) := by decide +kernel
theorem dj29_69_2 : decode cJ1 2 = .ok (.if_icmp .gt 7, 3) := by decide +kernel
theorem dj29_69_9 : decode cJ1 9 = .ok (.iload_n 1, 1) := by decide +kernel
theorem dj29_69_10 : decode cJ1 10 = .ok (.ireturn, 1) := by decide +kernel
theorem dj29_69_5 : decode cJ1 5 = .ok (.iload_n 0, 1) := by decide +kernel
theorem dj29_69_6 : decode cJ1 6 = .ok (.goto 4, 3) := by decide +kernel
def Q_mmin (Z : State) (p1 : Int32) (p2 : Int32) (h0 : Heap) (v : Option Value) (h : Heap) (L : List Loc) : Prop := v = some (.int (if p2 < p1 then p2 else p1)) ∧ Fr Z.heap.size L ∧ h = h0
set_option maxRecDepth 65536 in
set_option maxHeartbeats 40000000 in
theorem rm_mmin (l : Launch) (Z : State) (a0 : Array Value) (hw : ∀ d ∈ tables_1, d.before a0 Z = true) (ws : List Jvm.Cond) (p1 : Int32) (p2 : Int32) (h0 : Heap) (OL : Old Z Z.heap.size h0) :
    MetFree l mN4 (head1 (Jvm.Cond.code mN4 jdk_29_method_69_code 2 (some .int) :: ws) rM0) (fun a U => a = #[(.int p1), (.int p2)] ∧ Z.Warmed39 U.vm ∧ U.heap = h0) (fun _ _ _ _ _ => True) (fun _ U o U' => ∃ v L, o = .returned v ∧ Q_mmin Z p1 p2 h0 v U'.heap L ∧ FrameEnd U o U' L rM0.cells rM0.slots) := by
  refine MetFree.of_bodySF (by decide +kernel) hisR ?_
  intro p e s m args below meth c s₁ Bd hml0 hP hK
  obtain ⟨rfl, hZ, hh⟩ := hP
  have hx := Bd.exec
  have hby := Bd.bytes
  have hml : c.maxLocals = 2 := hml0
  have hown : s.vm.findClass "java/lang/Math" = some m.cls := findClass_of_methodNamed Bd.named
  have hnm := (name_of_methodNamed Bd.named Bd.method).1
  have X0 : Stand p l e rM0 s m #[(.int p1), (.int p2)] below meth c s₁ [] 0 0 := Stand.of_body Bd
  have e0 : s₁.heap = h0 := by rw [← hh, Bd.state]; rfl
  have N0 := Fr.nil Z.heap.size
  have Z0 : Z.heap.size ≤ h0.size := OL.2.1
  show oG p.tables e below (fun o tE => ∃ v L, o = .returned v ∧ Q_mmin Z p1 p2 h0 v tE.heap L ∧ FrameEnd s o tE L rM0.cells rM0.slots) (s₁.setTop (entryFrame m #[(.int p1), (.int p2)] 2))
  refine own_hd (fun PP hPP => ?_)
  refine oG.st (fun t k => castTop (ef_189 m p1 p2) k) ?_
  refine oG.st (fun _ k => XS.iloadN X0.here hx rfl (hb hby dj29_69_0) rfl (XS.iloadN X0.here hx rfl (hb hby dj29_69_1) rfl k)) ?_
  show oG _ _ _ _ (s₁.setTop (mkF m 2 #[.val (.int p1), .val (.int p2)] [(.int p2), (.int p1)]))
  by_cases hc239 : p2 < p1
  ·
    refine oG.st (fun _ k => XS.icmpYes X0.here hx rfl (pc0 := 2) (pc' := 9) rfl (hb hby dj29_69_2) rfl (tlt hc239).2.2.1 (by decide) (by decide) k) ?_
    refine oG.st (fun _ k => XS.iloadN X0.here hx rfl (hb hby dj29_69_9) rfl k) ?_
    show oG _ _ _ _ (s₁.setTop (mkF m 10 #[.val (.int p1), .val (.int p2)] [(.int p2)]))
    obtain ⟨fs240, hr240, hrun240, hend240, hW240, hsm240⟩ := X0.leave (v := some (.int p2)) (fun h => by rw [Bd.returns] at h; cases h)
    subst hPP
    refine ⟨_, _, own_retI X0 hx Bd.returns (hb hby dj29_69_10) hr240, hrun240, hend240, _, _, rfl, ?_, ⟨_, rfl⟩, hW240, hsm240.mono (by decide) (by decide)⟩
    · show Q_mmin Z _ _ h0 _ s₁.heap _
      rw [e0]
      exact ⟨(by rw [if_pos hc239]), N0, rfl⟩
  ·
    refine oG.st (fun _ k => XS.icmpNo X0.here hx rfl (hb hby dj29_69_2) rfl (flt hc239).2.2.1 k) ?_
    refine oG.st (fun _ k => XS.iloadN X0.here hx rfl (hb hby dj29_69_5) rfl (XS.goto X0.here hx rfl (pc0 := 6) (pc' := 10) rfl (hb hby dj29_69_6) (by decide) (by decide) k)) ?_
    show oG _ _ _ _ (s₁.setTop (mkF m 10 #[.val (.int p1), .val (.int p2)] [(.int p1)]))
    obtain ⟨fs241, hr241, hrun241, hend241, hW241, hsm241⟩ := X0.leave (v := some (.int p1)) (fun h => by rw [Bd.returns] at h; cases h)
    subst hPP
    refine ⟨_, _, own_retI X0 hx Bd.returns (hb hby dj29_69_10) hr241, hrun241, hend241, _, _, rfl, ?_, ⟨_, rfl⟩, hW241, hsm241.mono (by decide) (by decide)⟩
    · show Q_mmin Z _ _ h0 _ s₁.heap _
      rw [e0]
      exact ⟨(by rw [if_neg hc239]), N0, rfl⟩
theorem pn_197 : plainName "java/util/Arrays" = true := by first | (simp [plainName, overriddenIn]; done) | decide +kernel
theorem dj65_131_0 : decode jdk_65_method_131_code 0 = .ok (.iload_n 1, 1) := by decide +kernel
theorem dj65_131_1 : decode jdk_65_method_131_code 1 = .ok (.iload_n 0, 1) := by decide +kernel
theorem dj65_131_2 : decode jdk_65_method_131_code 2 = .ok (.if_icmp .ge 35, 3) := by decide +kernel
theorem dj65_131_37 : decode jdk_65_method_131_code 37 = .ok (.return_, 1) := by decide +kernel
def Q_cklen (Z : State) (p1 : Int32) (p2 : Int32) (h0 : Heap) (v : Option Value) (h : Heap) (L : List Loc) : Prop := v = none ∧ Fr Z.heap.size L ∧ h = h0
set_option maxRecDepth 65536 in
set_option maxHeartbeats 40000000 in
theorem rm_cklen (l : Launch) (Z : State) (a0 : Array Value) (hw : ∀ d ∈ tables_1, d.before a0 Z = true) (ws : List Jvm.Cond) (p1 : Int32) (p2 : Int32) (h0 : Heap) (OL : Old Z Z.heap.size h0) (h : ¬ p2 < p1) :
    MetFree l mN37 (head1 (Jvm.Cond.code mN37 jdk_65_method_131_code 2 none :: ws) rM0) (fun a U => a = #[(.int p1), (.int p2)] ∧ Z.Warmed39 U.vm ∧ U.heap = h0) (fun _ _ _ _ _ => True) (fun _ U o U' => ∃ v L, o = .returned v ∧ Q_cklen Z p1 p2 h0 v U'.heap L ∧ FrameEnd U o U' L rM0.cells rM0.slots) := by
  refine MetFree.of_bodySF (plainFor_of_name pn_197) hisR ?_
  intro p e s m args below meth c s₁ Bd hml0 hP hK
  obtain ⟨rfl, hZ, hh⟩ := hP
  have hx := Bd.exec
  have hby := Bd.bytes
  have hml : c.maxLocals = 2 := hml0
  have hown : s.vm.findClass "java/util/Arrays" = some m.cls := findClass_of_methodNamed Bd.named
  have hnm := (name_of_methodNamed Bd.named Bd.method).1
  have X0 : Stand p l e rM0 s m #[(.int p1), (.int p2)] below meth c s₁ [] 0 0 := Stand.of_body Bd
  have e0 : s₁.heap = h0 := by rw [← hh, Bd.state]; rfl
  have N0 := Fr.nil Z.heap.size
  have Z0 : Z.heap.size ≤ h0.size := OL.2.1
  show oG p.tables e below (fun o tE => ∃ v L, o = .returned v ∧ Q_cklen Z p1 p2 h0 v tE.heap L ∧ FrameEnd s o tE L rM0.cells rM0.slots) (s₁.setTop (entryFrame m #[(.int p1), (.int p2)] 2))
  refine own_hd (fun PP hPP => ?_)
  refine oG.st (fun t k => castTop (ef_189 m p1 p2) k) ?_
  refine oG.st (fun _ k => XS.iloadN X0.here hx rfl (hb hby dj65_131_0) rfl (XS.iloadN X0.here hx rfl (hb hby dj65_131_1) rfl k)) ?_
  show oG _ _ _ _ (s₁.setTop (mkF m 2 #[.val (.int p1), .val (.int p2)] [(.int p1), (.int p2)]))
  have hc242 : ¬ (p2 < p1) := h
  refine oG.st (fun _ k => XS.icmpYes X0.here hx rfl (pc0 := 2) (pc' := 37) rfl (hb hby dj65_131_2) rfl (flt hc242).2.1 (by decide) (by decide) k) ?_
  show oG _ _ _ _ (s₁.setTop (mkF m 37 #[.val (.int p1), .val (.int p2)] []))
  obtain ⟨fs243, hr243, hrun243, hend243, hW243, hsm243⟩ := X0.leave (v := none) (fun _ => rfl)
  subst hPP
  refine ⟨_, _, X0.returnOut hx Bd.returns (hb hby dj65_131_37) hr243, hrun243, hend243, _, _, rfl, ?_, ⟨_, rfl⟩, hW243, hsm243.mono (by decide) (by decide)⟩
  · show Q_cklen Z _ _ h0 _ s₁.heap _
    rw [e0]
    exact ⟨rfl, N0, rfl⟩

theorem own_usR (cs : List Int32) {i j : Nat} (hij : i ≤ j) (hj : j ≤ cs.length) (hn : cs.length < 100000) : own_low ((cs.drop i).take (j - i)) = (List.range (Int32.ofNat (j - i)).toNatClampNeg).map fun x => (own_low cs).getD ((Int32.ofNat i).toNatClampNeg + x) (.int (0 : Int32)) := by
  rw [own_ofn (by omega), own_ofn (by omega)]
  apply List.ext_getElem
  · simp [own_low]; omega
  · intro x h1 h2
    have hx : i + x < cs.length := by simp [own_low] at h1; omega
    simp [own_low, List.getD_eq_getElem?_getD, hx]
theorem own_takeV {Z : State} {h : Heap} {a : Addr} {k : ClassId} {n : Int32} {us : List Value} {m : Nat} (F : Arv Z h a k .byte n ((List.replicate m (Value.int (0 : Int32))).take (0 : Int32).toNatClampNeg ++ us ++ (List.replicate m (Value.int (0 : Int32))).drop ((0 : Int32).toNatClampNeg + (Int32.ofNat m).toNatClampNeg)) (.int (0 : Int32))) (hm : m < 100000) : Arv Z h a k .byte n us (.int (0 : Int32)) := by
  have e0 : (0 : Int32).toNatClampNeg = 0 := by decide
  rw [e0, own_ofn (by omega)] at F
  simpa using F
theorem own_min {i j : Nat} (hi : i < 100000) (hj : j ≤ i) : (if Int32.ofNat j < Int32.ofNat i then Int32.ofNat j else Int32.ofNat i) = Int32.ofNat j := by
  by_cases q : Int32.ofNat j < Int32.ofNat i
  · rw [if_pos q]
  · rw [if_neg q]
    rw [own_oflt (by omega) (by omega)] at q
    rw [show i = j by omega]

theorem dj65_133_0 : decode cJ34 0 = .ok (.iload_n 1, 1) := by decide +kernel
theorem dj65_133_1 : decode cJ34 1 = .ok (.iload_n 2, 1) := by decide +kernel
theorem pd_204 : parseMethodDescriptor "(II)V" = some ⟨[.int, .int], none⟩ := by decide +kernel
theorem dj65_133_2 : decode cJ34 2 = .ok (.invokestatic 343, 3) := by decide +kernel
theorem dj65_133_5 : decode cJ34 5 = .ok (.iload_n 2, 1) := by decide +kernel
theorem dj65_133_6 : decode cJ34 6 = .ok (.iload_n 1, 1) := by decide +kernel
theorem dj65_133_7 : decode cJ34 7 = .ok (.isub, 1) := by decide +kernel
theorem dj65_133_8 : decode cJ34 8 = .ok (.istore_n 3, 1) := by decide +kernel
theorem dj65_133_9 : decode cJ34 9 = .ok (.iload_n 3, 1) := by decide +kernel
theorem dj65_133_10 : decode cJ34 10 = .ok (.newarray .byte, 2) := by decide +kernel
theorem dj65_133_12 : decode cJ34 12 = .ok (.astore 4, 2) := by decide +kernel
theorem dj65_133_14 : decode cJ34 14 = .ok (.aload_n 0, 1) := by decide +kernel
theorem dj65_133_15 : decode cJ34 15 = .ok (.iload_n 1, 1) := by decide +kernel
theorem dj65_133_16 : decode cJ34 16 = .ok (.aload 4, 2) := by decide +kernel
theorem dj65_133_18 : decode cJ34 18 = .ok (.iconst 0, 1) := by decide +kernel
theorem dj65_133_19 : decode cJ34 19 = .ok (.aload_n 0, 1) := by decide +kernel
theorem dj65_133_20 : decode cJ34 20 = .ok (.arraylength, 1) := by decide +kernel
theorem dj65_133_21 : decode cJ34 21 = .ok (.iload_n 1, 1) := by decide +kernel
theorem dj65_133_22 : decode cJ34 22 = .ok (.isub, 1) := by decide +kernel
theorem dj65_133_23 : decode cJ34 23 = .ok (.iload_n 3, 1) := by decide +kernel
theorem pd_222 : parseMethodDescriptor "(II)I" = some ⟨[.int, .int], some .int⟩ := by decide +kernel
theorem dj65_133_24 : decode cJ34 24 = .ok (.invokestatic 304, 3) := by decide +kernel
theorem dj65_133_27 : decode cJ34 27 = .ok (.invokestatic 150, 3) := by decide +kernel
theorem dj65_133_30 : decode cJ34 30 = .ok (.aload 4, 2) := by decide +kernel
theorem dj65_133_32 : decode cJ34 32 = .ok (.areturn, 1) := by decide +kernel
def Q_corb (Z : State) (a1 : Nat) (p2 : Int32) (p3 : Int32) (i : Nat) (j : Nat) (cs : List Int32) (cap : Nat) (k : ClassId) (h0 : Heap) (v : Option Value) (h : Heap) (L : List Loc) : Prop := ∃ (x : Nat), ∃ (kx : ClassId), v = some (.ref x) ∧ Fr Z.heap.size L ∧ Keep h0 h [] ∧ Arv Z h x kx .byte (Int32.ofNat (j - i)) (own_low ((cs.drop i).take (j - i))) (.int (0 : Int32)) ∧ (h0.size ≤ x)
set_option maxRecDepth 65536 in
set_option maxHeartbeats 40000000 in
theorem rm_corb (l : Launch) (Z : State) (a0 : Array Value) (hw : ∀ d ∈ tables_1, d.before a0 Z = true) (ws : List Jvm.Cond) (a1 : Nat) (p2 : Int32) (p3 : Int32) (i : Nat) (j : Nat) (cs : List Int32) (cap : Nat) (k : ClassId) (h0 : Heap) (OL : Old Z Z.heap.size h0) (p0_ : Arv Z h0 a1 k .byte (Int32.ofNat cap) (own_low cs) (.int (0 : Int32))) (hp2 : p2 = Int32.ofNat i) (hp3 : p3 = Int32.ofNat j) (hij : i ≤ j) (hj : j ≤ cs.length) (hcs : cs.length ≤ cap) (hcap : cap ≤ 100) (hmx : j - i ≤ 8) :
    MetFree l mN39 (head1 (Jvm.Cond.code mN39 jdk_65_method_133_code 5 (some (.array .byte)) :: ws) rM6) (fun a U => a = #[(.ref a1), (.int p2), (.int p3)] ∧ Z.Warmed39 U.vm ∧ U.heap = h0) (fun _ _ _ _ _ => True) (fun _ U o U' => ∃ v L, o = .returned v ∧ Q_corb Z a1 p2 p3 i j cs cap k h0 v U'.heap L ∧ FrameEnd U o U' L rM6.cells rM6.slots) := by
  refine MetFree.of_bodySF (plainFor_of_name pn_197) hisR ?_
  intro p e s m args below meth c s₁ Bd hml0 hP hK
  obtain ⟨rfl, hZ, hh⟩ := hP
  have hx := Bd.exec
  have hby := Bd.bytes
  have hml : c.maxLocals = 5 := hml0
  have hown : s.vm.findClass "java/util/Arrays" = some m.cls := findClass_of_methodNamed Bd.named
  have hnm := (name_of_methodNamed Bd.named Bd.method).1
  have X0 : Stand p l e rM6 s m #[(.ref a1), (.int p2), (.int p3)] below meth c s₁ [] 0 0 := Stand.of_body Bd
  have e0 : s₁.heap = h0 := by rw [← hh, Bd.state]; rfl
  have N0 := Fr.nil Z.heap.size
  have Z0 : Z.heap.size ≤ h0.size := OL.2.1
  have lt_0 : @LT.lt Nat _ a1 h0.size := p0_.lt
  show oG p.tables e below (fun o tE => ∃ v L, o = .returned v ∧ Q_corb Z a1 p2 p3 i j cs cap k h0 v tE.heap L ∧ FrameEnd s o tE L rM6.cells rM6.slots) (s₁.setTop (entryFrame m #[(.ref a1), (.int p2), (.int p3)] 5))
  refine own_hd (fun PP hPP => ?_)
  refine oG.st (fun t k => castTop (ef_113 m a1 p2 p3) k) ?_
  subst hp2 hp3
  refine oG.st (fun _ k => XS.iloadN X0.here hx rfl (hb hby dj65_133_0) rfl (XS.iloadN X0.here hx rfl (hb hby dj65_133_1) rfl k)) ?_
  show oG _ _ _ _ (s₁.setTop (mkF m 2 #[.val (.ref a1), .val (.int (Int32.ofNat i)), .val (.int (Int32.ofNat j)), .unset, .unset] [(.int (Int32.ofNat j)), (.int (Int32.ofNat i))]))
  obtain ⟨_, _, ⟨T244, L244, k244, n244⟩, -, X244, ⟨Lc244, hQ244, l244, y244, z244⟩, st244⟩ := Jvm.LawKit.callS X0 hx (y := mN37) hown (own_v hZ hw 157 rfl) (own_v hZ hw 158 rfl) (own_v hZ hw 152 rfl) (own_v hZ hw 159 rfl) (by decide) (backOf (W := 0) (rm_cklen l Z a0 hw [] (Int32.ofNat i) (Int32.ofNat j) h0 OL (by rw [own_oflt (by omega) (by omega)]; omega)) hZ (own_w hw 159 rfl) (own_w hw 152 rfl) (by decide) (by decide)) (g := (mkF m 2 #[.val (.ref a1), .val (.int (Int32.ofNat i)), .val (.int (Int32.ofNat j)), .unset, .unset] [(.int (Int32.ofNat j)), (.int (Int32.ofNat i))])) rfl (by rw [hml]; rfl) (argsL := [(.int (Int32.ofNat i)), (.int (Int32.ofNat j))]) (rest := []) (lenOf pd_204 rfl) rfl (by show 2 * 0 + _ ≤ _; exact Nat.le_of_eq rfl) (hb hby dj65_133_2) (fun _ _ => ⟨rfl, e0, (by decide : 0 + 0 ≤ _), (by decide : 0 + 0 ≤ _)⟩)
  dsimp only [Pt.U, Pt.locs, Pt.cells, Pt.slots] at X244 l244 y244 z244 st244 hQ244
  subst l244 y244 z244
  obtain ⟨rfl, N244q, K244⟩ := hQ244
  have N244 := Fr.app N0 N244q
  refine oG.st st244 ?_
  refine oG.st (fun _ k => XS.iloadN X244.here hx rfl (hb hby dj65_133_5) rfl (XS.iloadN X244.here hx rfl (hb hby dj65_133_6) rfl (XS.isub X244.here hx rfl (hb hby dj65_133_7) rfl k))) ?_
  show oG _ _ _ _ (T244.setTop (mkF m 8 #[.val (.ref a1), .val (.int (Int32.ofNat i)), .val (.int (Int32.ofNat j)), .unset, .unset] [(.int ((Int32.ofNat j) - (Int32.ofNat i)))]))
  rw [own_ofB (by omega) hij]
  refine oG.st (fun _ k => XS.istoreN X244.here hx rfl (hb hby dj65_133_8) rfl (l' := #[.val (.ref a1), .val (.int (Int32.ofNat i)), .val (.int (Int32.ofNat j)), .val (.int (Int32.ofNat (j - i))), .unset]) rfl (XS.iloadN X244.here hx rfl (hb hby dj65_133_9) rfl k)) ?_
  show oG _ _ _ _ (T244.setTop (mkF m 10 #[.val (.ref a1), .val (.int (Int32.ofNat i)), .val (.int (Int32.ofNat j)), .val (.int (Int32.ofNat (j - i))), .unset] [(.int (Int32.ofNat (j - i)))]))
  obtain ⟨T245, h245, k245, X245, e245, E245, A245, st245⟩ := newP X244 hx hZ (own_w hw 24 rfl) K244 (g := (mkF m 10 #[.val (.ref a1), .val (.int (Int32.ofNat i)), .val (.int (Int32.ofNat j)), .val (.int (Int32.ofNat (j - i))), .unset] [(.int (Int32.ofNat (j - i)))])) rfl (hb hby dj65_133_10) rfl (own_of0 (by omega)) (cap := 8) (by rw [own_ofn (by omega)]; exact hmx) (by decide) (by decide) (by decide)
  obtain ⟨b245, g245⟩ : ∃ z, z = h0.size := ⟨_, rfl⟩
  rw [← g245] at A245 st245
  refine oG.st st245 ?_
  have z245 : h0.size ≤ h245.size := E245.1
  have f246 : Arv Z h245 b245 k245 .byte (Int32.ofNat (j - i)) [] (.int (0 : Int32)) := Arv.new A245 (own_of0 (by omega))
  have lt_b245 : @LT.lt Nat _ b245 h245.size := f246.lt
  refine oG.st (fun _ k => XS.astore X245.here hx rfl (hb hby dj65_133_12) rfl rfl (l' := #[.val (.ref a1), .val (.int (Int32.ofNat i)), .val (.int (Int32.ofNat j)), .val (.int (Int32.ofNat (j - i))), .val (.ref b245)]) rfl (XS.aloadN X245.here hx rfl (hb hby dj65_133_14) rfl rfl (XS.iloadN X245.here hx rfl (hb hby dj65_133_15) rfl (XS.aload X245.here hx rfl (hb hby dj65_133_16) rfl rfl (XS.iconst X245.here hx rfl (hb hby dj65_133_18) k))))) ?_
  show oG _ _ _ _ (T245.setTop (mkF m 19 #[.val (.ref a1), .val (.int (Int32.ofNat i)), .val (.int (Int32.ofNat j)), .val (.int (Int32.ofNat (j - i))), .val (.ref b245)] [(.int (0 : Int32)), (.ref b245), (.int (Int32.ofNat i)), (.ref a1)]))
  refine oG.st (fun _ k => XS.aloadN X245.here hx rfl (hb hby dj65_133_19) rfl rfl k) ?_
  show oG _ _ _ _ (T245.setTop (mkF m 20 #[.val (.ref a1), .val (.int (Int32.ofNat i)), .val (.int (Int32.ofNat j)), .val (.int (Int32.ofNat (j - i))), .val (.ref b245)] [(.ref a1), (.int (0 : Int32)), (.ref b245), (.int (Int32.ofNat i)), (.ref a1)]))
  have f247 : Arv Z h245 a1 k .byte (Int32.ofNat cap) (own_low cs) (.int (0 : Int32)) := p0_.ext E245
  obtain ⟨c248, Ar248, q248, S248, Nn248, H248, G248⟩ := id f247
  refine oG.st (X245.arraylength hx (own_rwE e245 Ar248.1) (State.isArrayOf_alike hZ.alike Ar248.2.1) (g := (mkF m 20 #[.val (.ref a1), .val (.int (Int32.ofNat i)), .val (.int (Int32.ofNat j)), .val (.int (Int32.ofNat (j - i))), .val (.ref b245)] [(.ref a1), (.int (0 : Int32)), (.ref b245), (.int (Int32.ofNat i)), (.ref a1)])) rfl rfl (hb hby dj65_133_20)) ?_
  rw [len_of S248 Nn248]
  refine oG.st (fun _ k => XS.iloadN X245.here hx rfl (hb hby dj65_133_21) rfl (XS.isub X245.here hx rfl (hb hby dj65_133_22) rfl k)) ?_
  show oG _ _ _ _ (T245.setTop (mkF m 23 #[.val (.ref a1), .val (.int (Int32.ofNat i)), .val (.int (Int32.ofNat j)), .val (.int (Int32.ofNat (j - i))), .val (.ref b245)] [(.int ((Int32.ofNat cap) - (Int32.ofNat i))), (.int (0 : Int32)), (.ref b245), (.int (Int32.ofNat i)), (.ref a1)]))
  rw [own_ofB (by omega) (by omega)]
  refine oG.st (fun _ k => XS.iloadN X245.here hx rfl (hb hby dj65_133_23) rfl k) ?_
  show oG _ _ _ _ (T245.setTop (mkF m 24 #[.val (.ref a1), .val (.int (Int32.ofNat i)), .val (.int (Int32.ofNat j)), .val (.int (Int32.ofNat (j - i))), .val (.ref b245)] [(.int (Int32.ofNat (j - i))), (.int (Int32.ofNat (cap - i))), (.int (0 : Int32)), (.ref b245), (.int (Int32.ofNat i)), (.ref a1)]))
  have f250 : Old Z Z.heap.size h245 := OL.ext E245
  obtain ⟨_, _, ⟨T249, L249, k249, n249⟩, -, X249, ⟨Lc249, hQ249, l249, y249, z249⟩, st249⟩ := Jvm.LawKit.callS X245 hx (y := mN4) hown (own_v hZ hw 160 rfl) (own_v hZ hw 73 rfl) (own_v hZ hw 33 rfl) (own_v hZ hw 74 rfl) (by decide) (backOf (W := 4) (rm_mmin l Z a0 hw [] (Int32.ofNat (cap - i)) (Int32.ofNat (j - i)) h245 f250 ) hZ (own_w hw 74 rfl) (own_w hw 33 rfl) (by decide) (by decide)) (g := (mkF m 24 #[.val (.ref a1), .val (.int (Int32.ofNat i)), .val (.int (Int32.ofNat j)), .val (.int (Int32.ofNat (j - i))), .val (.ref b245)] [(.int (Int32.ofNat (j - i))), (.int (Int32.ofNat (cap - i))), (.int (0 : Int32)), (.ref b245), (.int (Int32.ofNat i)), (.ref a1)])) rfl (by rw [hml]; rfl) (argsL := [(.int (Int32.ofNat (cap - i))), (.int (Int32.ofNat (j - i)))]) (rest := [(.int (0 : Int32)), (.ref b245), (.int (Int32.ofNat i)), (.ref a1)]) (lenOf pd_222 rfl) rfl (by show 2 * 0 + _ ≤ _; exact Nat.le_of_eq rfl) (hb hby dj65_133_24) (fun _ _ => ⟨rfl, e245, (by decide : 1 + 0 ≤ _), (by decide : 8 + 0 ≤ _)⟩)
  dsimp only [Pt.U, Pt.locs, Pt.cells, Pt.slots] at X249 l249 y249 z249 st249 hQ249
  subst l249 y249 z249
  obtain ⟨rfl, N249q, K249⟩ := hQ249
  have N249 := Fr.app N244 N249q
  refine oG.st st249 ?_
  show oG _ _ _ _ (T249.setTop (mkF m 27 #[.val (.ref a1), .val (.int (Int32.ofNat i)), .val (.int (Int32.ofNat j)), .val (.int (Int32.ofNat (j - i))), .val (.ref b245)] [(.int (if (Int32.ofNat (j - i)) < (Int32.ofNat (cap - i)) then (Int32.ofNat (j - i)) else (Int32.ofNat (cap - i)))), (.int (0 : Int32)), (.ref b245), (.int (Int32.ofNat i)), (.ref a1)]))
  rw [own_min (by omega) (by omega)]
  show oG _ _ _ _ (T249.setTop (mkF m 27 #[.val (.ref a1), .val (.int (Int32.ofNat i)), .val (.int (Int32.ofNat j)), .val (.int (Int32.ofNat (j - i))), .val (.ref b245)] [(.int (Int32.ofNat (j - i))), (.int (0 : Int32)), (.ref b245), (.int (Int32.ofNat i)), (.ref a1)]))
  have f251 : Arv Z h245 b245 k245 .byte (Int32.ofNat (j - i)) (List.replicate (j - i) (Value.int (0 : Int32))) (.int (0 : Int32)) := f246.pad (pad_rep [] _ _)
  obtain ⟨T252, h252, L252, X252, e252, N252, K252, V252, st252⟩ := cpA (us := (own_low ((cs.drop i).take (j - i)))) X249 hx hZ hown (own_w hw 161 rfl) (own_w hw 164 rfl) (own_w hw 162 rfl) (own_w hw 163 rfl) K249 f247 f251 (Or.inl ⟨rfl, rfl⟩) (own_of0 (by omega)) (by decide) (own_of0 (by omega)) (by rw [own_ofn (by omega), own_ofn (by omega), own_ofn (by omega)]; omega) (by rw [own_ofn (by omega)]; have : (0 : Int32).toNatClampNeg = 0 := (by decide); omega) (own_usR cs hij hj (by omega)) (by rw [own_ofn (by omega)]; have : (0 : Int32).toNatClampNeg = 0 := (by decide); rw [List.length_replicate]; omega) N249 (by omega) (g := (mkF m 27 #[.val (.ref a1), .val (.int (Int32.ofNat i)), .val (.int (Int32.ofNat j)), .val (.int (Int32.ofNat (j - i))), .val (.ref b245)] [(.int (Int32.ofNat (j - i))), (.int (0 : Int32)), (.ref b245), (.int (Int32.ofNat i)), (.ref a1)])) rfl (by rw [hml]; rfl) rfl (hb hby dj65_133_27) (by decide) (W := 0) (by show 2 * 0 + _ ≤ _; exact Nat.le_of_eq rfl) (by decide)
  refine oG.st st252 ?_
  have z252 : h245.size ≤ h252.size := K252.1
  have f253 : Arv Z h252 b245 k245 .byte (Int32.ofNat (j - i)) (own_low ((cs.drop i).take (j - i))) (.int (0 : Int32)) := own_takeV V252 (by omega)
  refine oG.st (fun _ k => XS.aload X252.here hx rfl (hb hby dj65_133_30) rfl rfl k) ?_
  show oG _ _ _ _ (T252.setTop (mkF m 32 #[.val (.ref a1), .val (.int (Int32.ofNat i)), .val (.int (Int32.ofNat j)), .val (.int (Int32.ofNat (j - i))), .val (.ref b245)] [(.ref b245)]))
  obtain ⟨fs254, hr254, hrun254, hend254, hW254, hsm254⟩ := X252.leave (v := some (.ref b245)) (fun h => by rw [Bd.returns] at h; cases h)
  have K255 : Keep h0 h245 [] := (Keep.refl h0 []).ext E245
  have K256 : Keep h0 h252 [] := K255.trans K252 (allS (Or.inr (by omega)) all0)
  subst hPP
  refine ⟨_, _, own_retA X252 hx Bd.returns rfl rfl (hb hby dj65_133_32) hr254, hrun254, hend254, _, _, rfl, ?_, ⟨_, rfl⟩, hW254, hsm254.mono (by decide) (by decide)⟩
  · show Q_corb Z _ _ _ _ _ _ _ _ h0 _ T252.heap _
    rw [e252]
    exact ⟨b245, k245, rfl, N252, K256, f253, (by omega)⟩
theorem dj65_132_0 : decode cJ33 0 = .ok (.iload_n 1, 1) := by decide +kernel
theorem dj65_132_1 : decode cJ33 1 = .ok (.ifCond .ne 9, 3) := by decide +kernel
theorem dj65_132_4 : decode cJ33 4 = .ok (.iload_n 2, 1) := by decide +kernel
theorem dj65_132_5 : decode cJ33 5 = .ok (.aload_n 0, 1) := by decide +kernel
theorem dj65_132_6 : decode cJ33 6 = .ok (.arraylength, 1) := by decide +kernel
theorem dj65_132_7 : decode cJ33 7 = .ok (.if_icmp .eq 10, 3) := by decide +kernel
theorem dj65_132_10 : decode cJ33 10 = .ok (.aload_n 0, 1) := by decide +kernel
theorem dj65_132_11 : decode cJ33 11 = .ok (.iload_n 1, 1) := by decide +kernel
theorem dj65_132_12 : decode cJ33 12 = .ok (.iload_n 2, 1) := by decide +kernel
theorem pd_236 : parseMethodDescriptor "([BII)[B" = some ⟨[(.array .byte), .int, .int], some (.array .byte)⟩ := by decide +kernel
theorem dj65_132_13 : decode cJ33 13 = .ok (.invokestatic 339, 3) := by decide +kernel
theorem dj65_132_16 : decode cJ33 16 = .ok (.areturn, 1) := by decide +kernel
def Q_cor (Z : State) (a1 : Nat) (p2 : Int32) (p3 : Int32) (i : Nat) (j : Nat) (cs : List Int32) (cap : Nat) (k : ClassId) (h0 : Heap) (v : Option Value) (h : Heap) (L : List Loc) : Prop := ∃ (x : Nat), ∃ (kx : ClassId), v = some (.ref x) ∧ Fr Z.heap.size L ∧ Keep h0 h [] ∧ Arv Z h x kx .byte (Int32.ofNat (j - i)) (own_low ((cs.drop i).take (j - i))) (.int (0 : Int32)) ∧ (h0.size ≤ x)
set_option maxRecDepth 65536 in
set_option maxHeartbeats 40000000 in
theorem rm_cor (l : Launch) (Z : State) (a0 : Array Value) (hw : ∀ d ∈ tables_1, d.before a0 Z = true) (ws : List Jvm.Cond) (a1 : Nat) (p2 : Int32) (p3 : Int32) (i : Nat) (j : Nat) (cs : List Int32) (cap : Nat) (k : ClassId) (h0 : Heap) (OL : Old Z Z.heap.size h0) (p0_ : Arv Z h0 a1 k .byte (Int32.ofNat cap) (own_low cs) (.int (0 : Int32))) (hp2 : p2 = Int32.ofNat i) (hp3 : p3 = Int32.ofNat j) (hij : i ≤ j) (hj : j ≤ cs.length) (hcs : cs.length ≤ cap) (hcap : cap ≤ 100) (hmx : j - i ≤ 8) (hnw : ¬ (i = 0 ∧ j = cap)) :
    MetFree l mN38 (head1 (Jvm.Cond.code mN38 jdk_65_method_132_code 3 (some (.array .byte)) :: ws) rM12) (fun a U => a = #[(.ref a1), (.int p2), (.int p3)] ∧ Z.Warmed39 U.vm ∧ U.heap = h0) (fun _ _ _ _ _ => True) (fun _ U o U' => ∃ v L, o = .returned v ∧ Q_cor Z a1 p2 p3 i j cs cap k h0 v U'.heap L ∧ FrameEnd U o U' L rM12.cells rM12.slots) := by
  refine MetFree.of_bodySF (plainFor_of_name pn_197) hisR ?_
  intro p e s m args below meth c s₁ Bd hml0 hP hK
  obtain ⟨rfl, hZ, hh⟩ := hP
  have hx := Bd.exec
  have hby := Bd.bytes
  have hml : c.maxLocals = 3 := hml0
  have hown : s.vm.findClass "java/util/Arrays" = some m.cls := findClass_of_methodNamed Bd.named
  have hnm := (name_of_methodNamed Bd.named Bd.method).1
  have X0 : Stand p l e rM12 s m #[(.ref a1), (.int p2), (.int p3)] below meth c s₁ [] 0 0 := Stand.of_body Bd
  have e0 : s₁.heap = h0 := by rw [← hh, Bd.state]; rfl
  have N0 := Fr.nil Z.heap.size
  have Z0 : Z.heap.size ≤ h0.size := OL.2.1
  have lt_0 : @LT.lt Nat _ a1 h0.size := p0_.lt
  show oG p.tables e below (fun o tE => ∃ v L, o = .returned v ∧ Q_cor Z a1 p2 p3 i j cs cap k h0 v tE.heap L ∧ FrameEnd s o tE L rM12.cells rM12.slots) (s₁.setTop (entryFrame m #[(.ref a1), (.int p2), (.int p3)] 3))
  refine own_hd (fun PP hPP => ?_)
  refine oG.st (fun t k => castTop (ef_50 m a1 p2 p3) k) ?_
  subst hp2 hp3
  refine oG.st (fun _ k => XS.iloadN X0.here hx rfl (hb hby dj65_132_0) rfl k) ?_
  show oG _ _ _ _ (s₁.setTop (mkF m 1 #[.val (.ref a1), .val (.int (Int32.ofNat i)), .val (.int (Int32.ofNat j))] [(.int (Int32.ofNat i))]))
  by_cases h1 : (Int32.ofNat i) = (0 : Int32)
  ·
    refine oG.st (fun _ k => XS.ifNo X0.here hx rfl (hb hby dj65_132_1) rfl ((if0 _ _).trans (teq h1).2) k) ?_
    refine oG.st (fun _ k => XS.iloadN X0.here hx rfl (hb hby dj65_132_4) rfl (XS.aloadN X0.here hx rfl (hb hby dj65_132_5) rfl rfl k)) ?_
    show oG _ _ _ _ (s₁.setTop (mkF m 6 #[.val (.ref a1), .val (.int (Int32.ofNat i)), .val (.int (Int32.ofNat j))] [(.ref a1), (.int (Int32.ofNat j))]))
    obtain ⟨c257, Ar257, q257, S257, Nn257, H257, G257⟩ := id p0_
    refine oG.st (X0.arraylength hx (own_rwE e0 Ar257.1) (State.isArrayOf_alike hZ.alike Ar257.2.1) (g := (mkF m 6 #[.val (.ref a1), .val (.int (Int32.ofNat i)), .val (.int (Int32.ofNat j))] [(.ref a1), (.int (Int32.ofNat j))])) rfl rfl (hb hby dj65_132_6)) ?_
    rw [len_of S257 Nn257]
    show oG _ _ _ _ (s₁.setTop (mkF m 7 #[.val (.ref a1), .val (.int (Int32.ofNat i)), .val (.int (Int32.ofNat j))] [(.int (Int32.ofNat cap)), (.int (Int32.ofNat j))]))
    have hc258 : ¬ ((Int32.ofNat j) = (Int32.ofNat cap)) := fun q => hnw ⟨(own_ofE (by omega) (by omega)).mp h1, (own_ofE (by omega) (by omega)).mp q⟩
    refine oG.st (fun _ k => XS.icmpNo X0.here hx rfl (hb hby dj65_132_7) rfl (feq hc258).1 k) ?_
    refine oG.st (fun _ k => XS.aloadN X0.here hx rfl (hb hby dj65_132_10) rfl rfl (XS.iloadN X0.here hx rfl (hb hby dj65_132_11) rfl (XS.iloadN X0.here hx rfl (hb hby dj65_132_12) rfl k))) ?_
    show oG _ _ _ _ (s₁.setTop (mkF m 13 #[.val (.ref a1), .val (.int (Int32.ofNat i)), .val (.int (Int32.ofNat j))] [(.int (Int32.ofNat j)), (.int (Int32.ofNat i)), (.ref a1)]))
    obtain ⟨_, _, ⟨T259, L259, k259, n259⟩, -, X259, ⟨Lc259, hQ259, l259, y259, z259⟩, st259⟩ := Jvm.LawKit.callS X0 hx (y := mN39) hown (own_v hZ hw 154 rfl) (own_v hZ hw 155 rfl) (own_v hZ hw 152 rfl) (own_v hZ hw 156 rfl) (by decide) (backOf (W := 0) (rm_corb l Z a0 hw [] a1 (Int32.ofNat i) (Int32.ofNat j) i j cs cap k h0 OL p0_ rfl rfl hij hj hcs hcap hmx) hZ (own_w hw 156 rfl) (own_w hw 152 rfl) (by decide) (by decide)) (g := (mkF m 13 #[.val (.ref a1), .val (.int (Int32.ofNat i)), .val (.int (Int32.ofNat j))] [(.int (Int32.ofNat j)), (.int (Int32.ofNat i)), (.ref a1)])) rfl (by rw [hml]; rfl) (argsL := [(.ref a1), (.int (Int32.ofNat i)), (.int (Int32.ofNat j))]) (rest := []) (lenOf pd_236 rfl) rfl (by show 2 * 0 + _ ≤ _; exact Nat.le_of_eq rfl) (hb hby dj65_132_13) (fun _ _ => ⟨rfl, e0, (by decide : 0 + 1 ≤ _), (by decide : 0 + 8 ≤ _)⟩)
    dsimp only [Pt.U, Pt.locs, Pt.cells, Pt.slots] at X259 l259 y259 z259 st259 hQ259
    subst l259 y259 z259
    obtain ⟨x_259, kx_259, rfl, N259q, K259, f259_0, pr259_0⟩ := hQ259
    have N259 := Fr.app N0 N259q
    have z259 : h0.size ≤ T259.heap.size := K259.1
    have lt259_0 : @LT.lt Nat _ x_259 T259.heap.size := f259_0.lt
    refine oG.st st259 ?_
    show oG _ _ _ _ (T259.setTop (mkF m 16 #[.val (.ref a1), .val (.int (Int32.ofNat i)), .val (.int (Int32.ofNat j))] [(.ref x_259)]))
    obtain ⟨fs260, hr260, hrun260, hend260, hW260, hsm260⟩ := X259.leave (v := some (.ref x_259)) (fun h => by rw [Bd.returns] at h; cases h)
    have K261 : Keep h0 T259.heap [] := (Keep.refl h0 []).trans K259 all0
    subst hPP
    refine ⟨_, _, own_retA X259 hx Bd.returns rfl rfl (hb hby dj65_132_16) hr260, hrun260, hend260, _, _, rfl, ?_, ⟨_, rfl⟩, hW260, hsm260.mono (by decide) (by decide)⟩
    · show Q_cor Z _ _ _ _ _ _ _ _ h0 _ T259.heap _
      exact ⟨x_259, kx_259, rfl, N259, K261, f259_0, (by omega)⟩
  ·
    refine oG.st (fun _ k => XS.ifYes X0.here hx rfl (pc0 := 1) (pc' := 10) rfl (hb hby dj65_132_1) rfl ((if0 _ _).trans (feq h1).2) (by decide) (by decide) k) ?_
    refine oG.st (fun _ k => XS.aloadN X0.here hx rfl (hb hby dj65_132_10) rfl rfl (XS.iloadN X0.here hx rfl (hb hby dj65_132_11) rfl (XS.iloadN X0.here hx rfl (hb hby dj65_132_12) rfl k))) ?_
    show oG _ _ _ _ (s₁.setTop (mkF m 13 #[.val (.ref a1), .val (.int (Int32.ofNat i)), .val (.int (Int32.ofNat j))] [(.int (Int32.ofNat j)), (.int (Int32.ofNat i)), (.ref a1)]))
    obtain ⟨_, _, ⟨T262, L262, k262, n262⟩, -, X262, ⟨Lc262, hQ262, l262, y262, z262⟩, st262⟩ := Jvm.LawKit.callS X0 hx (y := mN39) hown (own_v hZ hw 154 rfl) (own_v hZ hw 155 rfl) (own_v hZ hw 152 rfl) (own_v hZ hw 156 rfl) (by decide) (backOf (W := 0) (rm_corb l Z a0 hw [] a1 (Int32.ofNat i) (Int32.ofNat j) i j cs cap k h0 OL p0_ rfl rfl hij hj hcs hcap hmx) hZ (own_w hw 156 rfl) (own_w hw 152 rfl) (by decide) (by decide)) (g := (mkF m 13 #[.val (.ref a1), .val (.int (Int32.ofNat i)), .val (.int (Int32.ofNat j))] [(.int (Int32.ofNat j)), (.int (Int32.ofNat i)), (.ref a1)])) rfl (by rw [hml]; rfl) (argsL := [(.ref a1), (.int (Int32.ofNat i)), (.int (Int32.ofNat j))]) (rest := []) (lenOf pd_236 rfl) rfl (by show 2 * 0 + _ ≤ _; exact Nat.le_of_eq rfl) (hb hby dj65_132_13) (fun _ _ => ⟨rfl, e0, (by decide : 0 + 1 ≤ _), (by decide : 0 + 8 ≤ _)⟩)
    dsimp only [Pt.U, Pt.locs, Pt.cells, Pt.slots] at X262 l262 y262 z262 st262 hQ262
    subst l262 y262 z262
    obtain ⟨x_262, kx_262, rfl, N262q, K262, f262_0, pr262_0⟩ := hQ262
    have N262 := Fr.app N0 N262q
    have z262 : h0.size ≤ T262.heap.size := K262.1
    have lt262_0 : @LT.lt Nat _ x_262 T262.heap.size := f262_0.lt
    refine oG.st st262 ?_
    show oG _ _ _ _ (T262.setTop (mkF m 16 #[.val (.ref a1), .val (.int (Int32.ofNat i)), .val (.int (Int32.ofNat j))] [(.ref x_262)]))
    obtain ⟨fs263, hr263, hrun263, hend263, hW263, hsm263⟩ := X262.leave (v := some (.ref x_262)) (fun h => by rw [Bd.returns] at h; cases h)
    have K264 : Keep h0 T262.heap [] := (Keep.refl h0 []).trans K262 all0
    subst hPP
    refine ⟨_, _, own_retA X262 hx Bd.returns rfl rfl (hb hby dj65_132_16) hr263, hrun263, hend263, _, _, rfl, ?_, ⟨_, rfl⟩, hW263, hsm263.mono (by decide) (by decide)⟩
    · show Q_cor Z _ _ _ _ _ _ _ _ h0 _ T262.heap _
      exact ⟨x_262, kx_262, rfl, N262, K264, f262_0, (by omega)⟩
theorem ef_239 (m : MethodId) (x0 : Nat) : entryFrame m #[(.ref x0)] 1 = mkF m 0 #[.val (.ref x0)] [] := by first | (simp [entryFrame, mkF, argsToLocals, Value.category]; done) | rfl
theorem dj42_154_0 : decode cJ7 0 = .ok (.getstatic 38, 3) := by decide +kernel
theorem dj42_154_3 : decode cJ7 3 = .ok (.ifCond .eq 14, 3) := by decide +kernel
theorem dj42_154_6 : decode cJ7 6 = .ok (.aload_n 0, 1) := by decide +kernel
theorem dj42_154_7 : decode cJ7 7 = .ok (.getfield 15, 3) := by decide +kernel
theorem dj42_154_10 : decode cJ7 10 = .ok (.ifCond .ne 7, 3) := by decide +kernel
theorem dj42_154_13 : decode cJ7 13 = .ok (.iconst 1, 1) := by decide +kernel
theorem dj42_154_14 : decode cJ7 14 = .ok (.goto 4, 3) := by decide +kernel
theorem dj42_154_18 : decode cJ7 18 = .ok (.ireturn, 1) := by decide +kernel
theorem dj42_154_17 : decode cJ7 17 = .ok (.iconst 0, 1) := by decide +kernel
def Q_isl1 (Z : State) (a1 : Nat) (cd : Int32) (zc : Int32) (h0 : Heap) (v : Option Value) (h : Heap) (L : List Loc) : Prop := v = some (.int (if cd = 0 then (1 : Int32) else 0)) ∧ Fr Z.heap.size L ∧ h = h0
set_option maxRecDepth 65536 in
set_option maxHeartbeats 40000000 in
theorem rm_isl1 (l : Launch) (Z : State) (a0 : Array Value) (hw : ∀ d ∈ tables_1, d.before a0 Z = true) (ws : List Jvm.Cond) (a1 : Nat) (cd : Int32) (zc : Int32) (h0 : Heap) (OL : Old Z Z.heap.size h0) (p0_ : Fld Z h0 a1 "java/lang/String" "coder" "B" (.int cd)) (st_C : Sta Z Z.heap "java/lang/String" "COMPACT_STRINGS" "Z" (.int zc)) (hzc : ¬ zc = 0) :
    MetFree l mN12 (head1 (Jvm.Cond.code mN12 jdk_42_method_154_code 1 (some .boolean) :: ws) rM0) (fun a U => a = #[(.ref a1)] ∧ Z.Warmed39 U.vm ∧ U.heap = h0) (fun _ _ _ _ _ => True) (fun _ U o U' => ∃ v L, o = .returned v ∧ Q_isl1 Z a1 cd zc h0 v U'.heap L ∧ FrameEnd U o U' L rM0.cells rM0.slots) := by
  refine MetFree.of_bodySF (plainFor_of_name pn_0) hisR ?_
  intro p e s m args below meth c s₁ Bd hml0 hP hK
  obtain ⟨rfl, hZ, hh⟩ := hP
  have hx := Bd.exec
  have hby := Bd.bytes
  have hml : c.maxLocals = 1 := hml0
  have hown : s.vm.findClass "java/lang/String" = some m.cls := findClass_of_methodNamed Bd.named
  have hnm := (name_of_methodNamed Bd.named Bd.method).1
  have X0 : Stand p l e rM0 s m #[(.ref a1)] below meth c s₁ [] 0 0 := Stand.of_body Bd
  have e0 : s₁.heap = h0 := by rw [← hh, Bd.state]; rfl
  have N0 := Fr.nil Z.heap.size
  have Z0 : Z.heap.size ≤ h0.size := OL.2.1
  have lt_0 : @LT.lt Nat _ a1 h0.size := p0_.lt
  show oG p.tables e below (fun o tE => ∃ v L, o = .returned v ∧ Q_isl1 Z a1 cd zc h0 v tE.heap L ∧ FrameEnd s o tE L rM0.cells rM0.slots) (s₁.setTop (entryFrame m #[(.ref a1)] 1))
  refine own_hd (fun PP hPP => ?_)
  refine oG.st (fun t k => castTop (ef_239 m a1) k) ?_
  show oG _ _ _ _ (s₁.setTop (mkF m 0 #[.val (.ref a1)] []))
  obtain ⟨T265, X265, e265, st265⟩ := getS2 X0 hx hZ hown (host := "") (Or.inl (own_w hw 54 rfl)) Via.refl e0 (st_C.ext OL.2) (g := (mkF m 0 #[.val (.ref a1)] [])) rfl (hb hby dj42_154_0)
  refine oG.st st265 ?_
  show oG _ _ _ _ (T265.setTop (mkF m 3 #[.val (.ref a1)] [(.int zc)]))
  have hc266 : ¬ (zc = (0 : Int32)) := hzc
  refine oG.st (fun _ k => XS.ifNo X265.here hx rfl (hb hby dj42_154_3) rfl ((if0 _ _).trans (feq hc266).1) k) ?_
  refine oG.st (fun _ k => XS.aloadN X265.here hx rfl (hb hby dj42_154_6) rfl rfl k) ?_
  show oG _ _ _ _ (T265.setTop (mkF m 7 #[.val (.ref a1)] [(.ref a1)]))
  obtain ⟨T267, X267, e267, st267⟩ := getF X265 hx hZ hown (host := "") (Or.inl (own_w hw 30 rfl)) Via.refl e265 p0_ (g := (mkF m 7 #[.val (.ref a1)] [(.ref a1)])) rfl rfl (hb hby dj42_154_7)
  refine oG.st st267 ?_
  show oG _ _ _ _ (T267.setTop (mkF m 10 #[.val (.ref a1)] [(.int cd)]))
  by_cases hc268 : cd = (0 : Int32)
  ·
    refine oG.st (fun _ k => XS.ifNo X267.here hx rfl (hb hby dj42_154_10) rfl ((if0 _ _).trans (teq hc268).2) k) ?_
    refine oG.st (fun _ k => XS.iconst X267.here hx rfl (hb hby dj42_154_13) (XS.goto X267.here hx rfl (pc0 := 14) (pc' := 18) rfl (hb hby dj42_154_14) (by decide) (by decide) k)) ?_
    show oG _ _ _ _ (T267.setTop (mkF m 18 #[.val (.ref a1)] [(.int (1 : Int32))]))
    obtain ⟨fs269, hr269, hrun269, hend269, hW269, hsm269⟩ := X267.leave (v := some (.int (nar .boolean (1 : Int32)))) (fun h => by rw [Bd.returns] at h; cases h)
    subst hPP
    refine ⟨_, _, retN X267 hx (t := .boolean) Bd.returns (by simp) (hb hby dj42_154_18) hr269, hrun269, hend269, _, _, rfl, ?_, ⟨_, rfl⟩, hW269, hsm269.mono (by decide) (by decide)⟩
    · show Q_isl1 Z _ _ _ h0 _ T267.heap _
      rw [e267]
      exact ⟨(by rw [if_pos hc268]; rfl), N0, rfl⟩
  ·
    refine oG.st (fun _ k => XS.ifYes X267.here hx rfl (pc0 := 10) (pc' := 17) rfl (hb hby dj42_154_10) rfl ((if0 _ _).trans (feq hc268).2) (by decide) (by decide) k) ?_
    refine oG.st (fun _ k => XS.iconst X267.here hx rfl (hb hby dj42_154_17) k) ?_
    show oG _ _ _ _ (T267.setTop (mkF m 18 #[.val (.ref a1)] [(.int (0 : Int32))]))
    obtain ⟨fs270, hr270, hrun270, hend270, hW270, hsm270⟩ := X267.leave (v := some (.int (nar .boolean (0 : Int32)))) (fun h => by rw [Bd.returns] at h; cases h)
    subst hPP
    refine ⟨_, _, retN X267 hx (t := .boolean) Bd.returns (by simp) (hb hby dj42_154_18) hr270, hrun270, hend270, _, _, rfl, ?_, ⟨_, rfl⟩, hW270, hsm270.mono (by decide) (by decide)⟩
    · show Q_isl1 Z _ _ _ h0 _ T267.heap _
      rw [e267]
      exact ⟨(by rw [if_neg hc268]; rfl), N0, rfl⟩

def own_wl : List Int32 → List Int32
  | [] => []
  | c :: r => c :: (c >>> ((8 : Int32) &&& 31)) :: own_wl r
theorem own_wlB (cs : List Int32) : StrChars.Road.wideBytes cs = own_low (own_wl cs) := by
  induction cs with
  | nil => rfl
  | cons c r ih => simp only [StrChars.Road.wideBytes, own_wl, ih]; rfl
theorem own_wlL (cs : List Int32) : (own_wl cs).length = 2 * cs.length := by
  induction cs with
  | nil => rfl
  | cons c r ih => simp only [own_wl, List.length_cons, ih]; omega
theorem own_wlT : ∀ (cs : List Int32) (n : Nat), (own_wl cs).take (2 * n) = own_wl (cs.take n)
  | [], n => by simp [own_wl]
  | c :: r, 0 => by simp [own_wl]
  | c :: r, n + 1 => by
    rw [show 2 * (n + 1) = 2 * n + 1 + 1 by omega]
    simp only [own_wl, List.take_succ_cons, own_wlT r n]
theorem own_tkG {cs : List Int32} {i n : Nat} (h : i < n) : (cs.take n).getD i 0 = cs.getD i 0 := by
  simp [List.getD_eq_getElem?_getD, List.getElem?_take, h]
theorem own_tkS {cs : List Int32} {i : Nat} (h : i < cs.length) : cs.take (i + 1) = cs.take i ++ [cs.getD i 0] := by
  rw [List.take_succ]
  simp [List.getD_eq_getElem?_getD, h]
theorem own_tkM {cs : List Int32} {m : Nat} {P : Int32 → Prop} (h : ∀ j, j < m → P (cs.getD j 0)) : ∀ c ∈ cs.take m, P c := fun c hc => by
  obtain ⟨j, hj, rfl⟩ := List.getElem_of_mem hc
  have h3 := hj
  rw [List.length_take] at h3
  have h1 : j < m := by omega
  have h2 : j < cs.length := by omega
  have h4 := h j h1
  rw [List.getElem_take]
  simpa [List.getD_eq_getElem?_getD, h2] using h4
theorem own_rngT {cs : List Int32} {n : Nat} (h : ∀ c ∈ cs, ¬ c < 0 ∧ ¬ (65535 : Int32) < c) : ∀ c ∈ cs.take n, ¬ c < 0 ∧ ¬ (65535 : Int32) < c := fun c hc => h c (List.mem_of_mem_take hc)
theorem own_or0 {a b : Nat} (ha : a < 100000) (hb : b < 100000) : ¬ ((Int32.ofNat a ||| (0 : Int32)) ||| Int32.ofNat b) < 0 := by
  have x := own_of (i := a) (by omega)
  have y := own_of (i := b) (by omega)
  have e0 : (0 : Int32).toInt = 0 := by decide
  have p := (c_orS (Int32.ofNat a) 0).1 (by omega) (by omega)
  have q := (c_orS (Int32.ofNat a ||| 0) (Int32.ofNat b)).1 p (by omega)
  rw [Int32.lt_iff_toInt_lt, e0]
  omega
theorem own_mx0 {st : Nat} (h : st < 100000) : (if Int32.ofNat st - (1 : Int32) < (0 : Int32) then (0 : Int32) else Int32.ofNat st - (1 : Int32)) = Int32.ofNat (st - 1) := by
  by_cases q : Int32.ofNat st - (1 : Int32) < 0
  · rw [if_pos q, show st = 0 from (own_lt0 h).mp q]; rfl
  · rw [if_neg q]
    have : ¬ st = 0 := fun u => q ((own_lt0 h).mpr u)
    exact own_ofB (i := st) (j := 1) (by omega) (by omega)
theorem own_cf0 (x : Int32) : nar .byte ((((x - x).toUInt32 >>> ((31 : Int32) &&& 31).toUInt32).toInt32).toInt8.toInt32) = 0 := by
  rw [Int32.sub_self]
  decide
theorem own_latC {cs : List Int32} {i : Nat} (hi : i < cs.length) (hl : ∀ c ∈ cs, ¬ (255 : Int32) < c) (hr : ∀ c ∈ cs, ¬ c < 0 ∧ ¬ (65535 : Int32) < c) : nar .char ((StrChars.lo8 (cs.getD i 0) &&& (255 : Int32)).toUInt32.toUInt16.toUInt32.toInt32) = cs.getD i 0 := by
  have m := own_mem hi
  rw [StrChars.lo8_mask (hr _ m).1 (hl _ m), show (cs.getD i 0).toUInt32.toUInt16.toUInt32.toInt32 = cs.getD i 0 from own_nar (hr _ m), own_nar (hr _ m)]
def own_jj (cs : List Int32) (j : Nat) : Prop := j < cs.length ∨ (cs.length = 0 ∧ j = 0)
theorem own_jj.le {cs : List Int32} {j : Nat} (h : own_jj cs j) : j ≤ cs.length := by unfold own_jj at h; omega
theorem own_jj.eq {cs : List Int32} {j : Nat} (h : own_jj cs j) (q : ¬ j = cs.length) : j < cs.length := by unfold own_jj at h; omega

theorem pn_249 : plainName "jdk/internal/util/Preconditions" = true := by first | (simp [plainName, overriddenIn]; done) | decide +kernel
theorem ef_250 (m : MethodId) (x0 : Int32) (x1 : Int32) (x2 : Value) (hx2 : x2.isRef = true) : entryFrame m #[(.int x0), (.int x1), x2] 3 = mkF m 0 #[.val (.int x0), .val (.int x1), .val x2] [] := by rcases ref_cases hx2 with rfl | ⟨_, rfl⟩ <;> first | (simp [entryFrame, mkF, argsToLocals, Value.category]; done) | rfl
theorem dj41_11_0 : decode cJ2 0 = .ok (.iload_n 0, 1) := by decide +kernel
theorem dj41_11_1 : decode cJ2 1 = .ok (.ifCond .lt 8, 3) := by decide +kernel
theorem dj41_11_4 : decode cJ2 4 = .ok (.iload_n 0, 1) := by decide +kernel
theorem dj41_11_5 : decode cJ2 5 = .ok (.iload_n 1, 1) := by decide +kernel
theorem dj41_11_6 : decode cJ2 6 = .ok (.if_icmp .lt 10, 3) := by decide +kernel
theorem dj41_11_16 : decode cJ2 16 = .ok (.iload_n 0, 1) := by decide +kernel
theorem dj41_11_17 : decode cJ2 17 = .ok (.ireturn, 1) := by decide +kernel
def Q_pci (Z : State) (p1 : Int32) (p2 : Int32) (fm : Value) (h0 : Heap) (v : Option Value) (h : Heap) (L : List Loc) : Prop := v = some (.int p1) ∧ Fr Z.heap.size L ∧ h = h0
set_option maxRecDepth 65536 in
set_option maxHeartbeats 40000000 in
theorem rm_pci (l : Launch) (Z : State) (a0 : Array Value) (hw : ∀ d ∈ tables_1, d.before a0 Z = true) (ws : List Jvm.Cond) (p1 : Int32) (p2 : Int32) (fm : Value) (h0 : Heap) (OL : Old Z Z.heap.size h0) (h1 : ¬ p1 < 0) (h2 : p1 < p2) (hfm : fm.isRef = true) :
    MetFree l mN42 (head1 (Jvm.Cond.code mN42 jdk_41_method_11_code 3 (some .int) :: ws) rM0) (fun a U => a = #[(.int p1), (.int p2), fm] ∧ Z.Warmed39 U.vm ∧ U.heap = h0) (fun _ _ _ _ _ => True) (fun _ U o U' => ∃ v L, o = .returned v ∧ Q_pci Z p1 p2 fm h0 v U'.heap L ∧ FrameEnd U o U' L rM0.cells rM0.slots) := by
  refine MetFree.of_bodySF (plainFor_of_name pn_249) hisR ?_
  intro p e s m args below meth c s₁ Bd hml0 hP hK
  obtain ⟨rfl, hZ, hh⟩ := hP
  have hx := Bd.exec
  have hby := Bd.bytes
  have hml : c.maxLocals = 3 := hml0
  have hown : s.vm.findClass "jdk/internal/util/Preconditions" = some m.cls := findClass_of_methodNamed Bd.named
  have hnm := (name_of_methodNamed Bd.named Bd.method).1
  have X0 : Stand p l e rM0 s m #[(.int p1), (.int p2), fm] below meth c s₁ [] 0 0 := Stand.of_body Bd
  have e0 : s₁.heap = h0 := by rw [← hh, Bd.state]; rfl
  have N0 := Fr.nil Z.heap.size
  have Z0 : Z.heap.size ≤ h0.size := OL.2.1
  show oG p.tables e below (fun o tE => ∃ v L, o = .returned v ∧ Q_pci Z p1 p2 fm h0 v tE.heap L ∧ FrameEnd s o tE L rM0.cells rM0.slots) (s₁.setTop (entryFrame m #[(.int p1), (.int p2), fm] 3))
  refine own_hd (fun PP hPP => ?_)
  refine oG.st (fun t k => castTop (ef_250 m p1 p2 fm hfm) k) ?_
  refine oG.st (fun _ k => XS.iloadN X0.here hx rfl (hb hby dj41_11_0) rfl k) ?_
  show oG _ _ _ _ (s₁.setTop (mkF m 1 #[.val (.int p1), .val (.int p2), .val fm] [(.int p1)]))
  have hc271 : ¬ (p1 < (0 : Int32)) := h1
  refine oG.st (fun _ k => XS.ifNo X0.here hx rfl (hb hby dj41_11_1) rfl ((if0 _ _).trans (flt hc271).1) k) ?_
  refine oG.st (fun _ k => XS.iloadN X0.here hx rfl (hb hby dj41_11_4) rfl (XS.iloadN X0.here hx rfl (hb hby dj41_11_5) rfl k)) ?_
  show oG _ _ _ _ (s₁.setTop (mkF m 6 #[.val (.int p1), .val (.int p2), .val fm] [(.int p2), (.int p1)]))
  have hc272 : p1 < p2 := h2
  refine oG.st (fun _ k => XS.icmpYes X0.here hx rfl (pc0 := 6) (pc' := 16) rfl (hb hby dj41_11_6) rfl (tlt hc272).1 (by decide) (by decide) k) ?_
  refine oG.st (fun _ k => XS.iloadN X0.here hx rfl (hb hby dj41_11_16) rfl k) ?_
  show oG _ _ _ _ (s₁.setTop (mkF m 17 #[.val (.int p1), .val (.int p2), .val fm] [(.int p1)]))
  obtain ⟨fs273, hr273, hrun273, hend273, hW273, hsm273⟩ := X0.leave (v := some (.int p1)) (fun h => by rw [Bd.returns] at h; cases h)
  subst hPP
  refine ⟨_, _, own_retI X0 hx Bd.returns (hb hby dj41_11_17) hr273, hrun273, hend273, _, _, rfl, ?_, ⟨_, rfl⟩, hW273, hsm273.mono (by decide) (by decide)⟩
  · show Q_pci Z _ _ _ h0 _ s₁.heap _
    rw [e0]
    exact ⟨rfl, N0, rfl⟩
theorem dj42_155_0 : decode cJ8 0 = .ok (.iload_n 0, 1) := by decide +kernel
theorem dj42_155_1 : decode cJ8 1 = .ok (.iload_n 1, 1) := by decide +kernel
theorem dj42_155_2 : decode cJ8 2 = .ok (.getstatic 1053, 3) := by decide +kernel
theorem pd_261 : parseMethodDescriptor "(IILjava/util/function/BiFunction;)I" = some ⟨[.int, .int, (.object "java/util/function/BiFunction")], some .int⟩ := by decide +kernel
theorem dj42_155_5 : decode cJ8 5 = .ok (.invokestatic 1059, 3) := by decide +kernel
theorem dj42_155_8 : decode cJ8 8 = .ok (.pop, 1) := by decide +kernel
theorem dj42_155_9 : decode cJ8 9 = .ok (.return_, 1) := by decide +kernel
def Q_sci (Z : State) (p1 : Int32) (p2 : Int32) (fm : Value) (h0 : Heap) (v : Option Value) (h : Heap) (L : List Loc) : Prop := v = none ∧ Fr Z.heap.size L ∧ h = h0
set_option maxRecDepth 65536 in
set_option maxHeartbeats 40000000 in
theorem rm_sci (l : Launch) (Z : State) (a0 : Array Value) (hw : ∀ d ∈ tables_1, d.before a0 Z = true) (ws : List Jvm.Cond) (p1 : Int32) (p2 : Int32) (fm : Value) (h0 : Heap) (OL : Old Z Z.heap.size h0) (st_SIOOBE_FORMATTER : Sta Z Z.heap "jdk/internal/util/Preconditions" "SIOOBE_FORMATTER" "Ljava/util/function/BiFunction;" fm) (h1 : ¬ p1 < 0) (h2 : p1 < p2) (hfm : fm.isRef = true) :
    MetFree l mN11 (head1 (Jvm.Cond.code mN11 jdk_42_method_155_code 2 none :: ws) rM2) (fun a U => a = #[(.int p1), (.int p2)] ∧ Z.Warmed39 U.vm ∧ U.heap = h0) (fun _ _ _ _ _ => True) (fun _ U o U' => ∃ v L, o = .returned v ∧ Q_sci Z p1 p2 fm h0 v U'.heap L ∧ FrameEnd U o U' L rM2.cells rM2.slots) := by
  refine MetFree.of_bodySF (plainFor_of_name pn_0) hisR ?_
  intro p e s m args below meth c s₁ Bd hml0 hP hK
  obtain ⟨rfl, hZ, hh⟩ := hP
  have hx := Bd.exec
  have hby := Bd.bytes
  have hml : c.maxLocals = 2 := hml0
  have hown : s.vm.findClass "java/lang/String" = some m.cls := findClass_of_methodNamed Bd.named
  have hnm := (name_of_methodNamed Bd.named Bd.method).1
  have X0 : Stand p l e rM2 s m #[(.int p1), (.int p2)] below meth c s₁ [] 0 0 := Stand.of_body Bd
  have e0 : s₁.heap = h0 := by rw [← hh, Bd.state]; rfl
  have N0 := Fr.nil Z.heap.size
  have Z0 : Z.heap.size ≤ h0.size := OL.2.1
  show oG p.tables e below (fun o tE => ∃ v L, o = .returned v ∧ Q_sci Z p1 p2 fm h0 v tE.heap L ∧ FrameEnd s o tE L rM2.cells rM2.slots) (s₁.setTop (entryFrame m #[(.int p1), (.int p2)] 2))
  refine own_hd (fun PP hPP => ?_)
  refine oG.st (fun t k => castTop (ef_189 m p1 p2) k) ?_
  refine oG.st (fun _ k => XS.iloadN X0.here hx rfl (hb hby dj42_155_0) rfl (XS.iloadN X0.here hx rfl (hb hby dj42_155_1) rfl k)) ?_
  show oG _ _ _ _ (s₁.setTop (mkF m 2 #[.val (.int p1), .val (.int p2)] [(.int p2), (.int p1)]))
  obtain ⟨T274, X274, e274, st274⟩ := getS2 X0 hx hZ hown (host := "") (Or.inl (own_w hw 84 rfl)) Via.refl e0 (st_SIOOBE_FORMATTER.ext OL.2) (g := (mkF m 2 #[.val (.int p1), .val (.int p2)] [(.int p2), (.int p1)])) rfl (hb hby dj42_155_2)
  refine oG.st st274 ?_
  show oG _ _ _ _ (T274.setTop (mkF m 5 #[.val (.int p1), .val (.int p2)] [fm, (.int p2), (.int p1)]))
  obtain ⟨_, _, ⟨T275, L275, k275, n275⟩, -, X275, ⟨Lc275, hQ275, l275, y275, z275⟩, st275⟩ := Jvm.LawKit.callS X274 hx (y := mN42) hown (own_v hZ hw 184 rfl) (own_v hZ hw 185 rfl) (own_v hZ hw 85 rfl) (own_v hZ hw 186 rfl) (by decide) (backOf (W := 0) (rm_pci l Z a0 hw [] p1 p2 fm h0 OL h1 h2 hfm) hZ (own_w hw 186 rfl) (own_w hw 85 rfl) (by decide) (by decide)) (g := (mkF m 5 #[.val (.int p1), .val (.int p2)] [fm, (.int p2), (.int p1)])) rfl (by rw [hml]; rfl) (argsL := [(.int p1), (.int p2), fm]) (rest := []) (lenOf pd_261 rfl) rfl (by show 2 * 0 + _ ≤ _; exact Nat.le_of_eq rfl) (hb hby dj42_155_5) (fun _ _ => ⟨rfl, e274, (by decide : 0 + 0 ≤ _), (by decide : 0 + 0 ≤ _)⟩)
  dsimp only [Pt.U, Pt.locs, Pt.cells, Pt.slots] at X275 l275 y275 z275 st275 hQ275
  subst l275 y275 z275
  obtain ⟨rfl, N275q, K275⟩ := hQ275
  have N275 := Fr.app N0 N275q
  refine oG.st st275 ?_
  refine oG.st (fun _ k => XS.pop X275.here hx rfl (hb hby dj42_155_8) rfl rfl k) ?_
  show oG _ _ _ _ (T275.setTop (mkF m 9 #[.val (.int p1), .val (.int p2)] []))
  obtain ⟨fs276, hr276, hrun276, hend276, hW276, hsm276⟩ := X275.leave (v := none) (fun _ => rfl)
  subst hPP
  refine ⟨_, _, X275.returnOut hx Bd.returns (hb hby dj42_155_9) hr276, hrun276, hend276, _, _, rfl, ?_, ⟨_, rfl⟩, hW276, hsm276.mono (by decide) (by decide)⟩
  · show Q_sci Z _ _ _ h0 _ T275.heap _
    rw [K275]
    exact ⟨rfl, N275, rfl⟩
theorem dj52_6_0 : decode jdk_52_method_6_code 0 = .ok (.aload_n 0, 1) := by decide +kernel
theorem dj52_6_1 : decode jdk_52_method_6_code 1 = .ok (.arraylength, 1) := by decide +kernel
theorem dj52_6_2 : decode jdk_52_method_6_code 2 = .ok (.iconst 1, 1) := by decide +kernel
theorem dj52_6_3 : decode jdk_52_method_6_code 3 = .ok (.ishr, 1) := by decide +kernel
theorem dj52_6_4 : decode jdk_52_method_6_code 4 = .ok (.ireturn, 1) := by decide +kernel
def Q_ulen (Z : State) (a1 : Nat) (cs : List Int32) (k : ClassId) (h0 : Heap) (v : Option Value) (h : Heap) (L : List Loc) : Prop := v = some (.int (Int32.ofNat cs.length)) ∧ Fr Z.heap.size L ∧ h = h0
set_option maxRecDepth 65536 in
set_option maxHeartbeats 40000000 in
theorem rm_ulen (l : Launch) (Z : State) (a0 : Array Value) (hw : ∀ d ∈ tables_1, d.before a0 Z = true) (ws : List Jvm.Cond) (a1 : Nat) (cs : List Int32) (k : ClassId) (h0 : Heap) (OL : Old Z Z.heap.size h0) (p0_ : Arv Z h0 a1 k .byte (Int32.ofNat (2 * cs.length)) (StrChars.Road.wideBytes cs) (.int (0 : Int32))) (hle : cs.length ≤ 4) :
    MetFree l mN31 (head1 (Jvm.Cond.code mN31 jdk_52_method_6_code 1 (some .int) :: ws) rM0) (fun a U => a = #[(.ref a1)] ∧ Z.Warmed39 U.vm ∧ U.heap = h0) (fun _ _ _ _ _ => True) (fun _ U o U' => ∃ v L, o = .returned v ∧ Q_ulen Z a1 cs k h0 v U'.heap L ∧ FrameEnd U o U' L rM0.cells rM0.slots) := by
  refine MetFree.of_bodySF (plainFor_of_name pn_25) hisR ?_
  intro p e s m args below meth c s₁ Bd hml0 hP hK
  obtain ⟨rfl, hZ, hh⟩ := hP
  have hx := Bd.exec
  have hby := Bd.bytes
  have hml : c.maxLocals = 1 := hml0
  have hown : s.vm.findClass "java/lang/StringUTF16" = some m.cls := findClass_of_methodNamed Bd.named
  have hnm := (name_of_methodNamed Bd.named Bd.method).1
  have X0 : Stand p l e rM0 s m #[(.ref a1)] below meth c s₁ [] 0 0 := Stand.of_body Bd
  have e0 : s₁.heap = h0 := by rw [← hh, Bd.state]; rfl
  have N0 := Fr.nil Z.heap.size
  have Z0 : Z.heap.size ≤ h0.size := OL.2.1
  have lt_0 : @LT.lt Nat _ a1 h0.size := p0_.lt
  show oG p.tables e below (fun o tE => ∃ v L, o = .returned v ∧ Q_ulen Z a1 cs k h0 v tE.heap L ∧ FrameEnd s o tE L rM0.cells rM0.slots) (s₁.setTop (entryFrame m #[(.ref a1)] 1))
  refine own_hd (fun PP hPP => ?_)
  refine oG.st (fun t k => castTop (ef_239 m a1) k) ?_
  refine oG.st (fun _ k => XS.aloadN X0.here hx rfl (hb hby dj52_6_0) rfl rfl k) ?_
  show oG _ _ _ _ (s₁.setTop (mkF m 1 #[.val (.ref a1)] [(.ref a1)]))
  obtain ⟨c277, Ar277, q277, S277, Nn277, H277, G277⟩ := id p0_
  refine oG.st (X0.arraylength hx (own_rwE e0 Ar277.1) (State.isArrayOf_alike hZ.alike Ar277.2.1) (g := (mkF m 1 #[.val (.ref a1)] [(.ref a1)])) rfl rfl (hb hby dj52_6_1)) ?_
  rw [len_of S277 Nn277]
  refine oG.st (fun _ k => XS.iconst X0.here hx rfl (hb hby dj52_6_2) (XS.ishr X0.here hx rfl (hb hby dj52_6_3) rfl k)) ?_
  show oG _ _ _ _ (s₁.setTop (mkF m 4 #[.val (.ref a1)] [(.int ((Int32.ofNat (2 * cs.length)) >>> ((1 : Int32) &&& 31)))]))
  obtain ⟨fs278, hr278, hrun278, hend278, hW278, hsm278⟩ := X0.leave (v := some (.int ((Int32.ofNat (2 * cs.length)) >>> ((1 : Int32) &&& 31)))) (fun h => by rw [Bd.returns] at h; cases h)
  subst hPP
  refine ⟨_, _, own_retI X0 hx Bd.returns (hb hby dj52_6_4) hr278, hrun278, hend278, _, _, rfl, ?_, ⟨_, rfl⟩, hW278, hsm278.mono (by decide) (by decide)⟩
  · show Q_ulen Z _ _ _ h0 _ s₁.heap _
    rw [e0]
    exact ⟨(by rw [StrChars.shr1 (by omega)]), N0, rfl⟩
theorem ef_270 (m : MethodId) (x0 : Int32) (x1 : Nat) : entryFrame m #[(.int x0), (.ref x1)] 2 = mkF m 0 #[.val (.int x0), .val (.ref x1)] [] := by first | (simp [entryFrame, mkF, argsToLocals, Value.category]; done) | rfl
theorem dj52_91_0 : decode jdk_52_method_91_code 0 = .ok (.iload_n 0, 1) := by decide +kernel
theorem dj52_91_1 : decode jdk_52_method_91_code 1 = .ok (.aload_n 1, 1) := by decide +kernel
theorem pd_273 : parseMethodDescriptor "([B)I" = some ⟨[(.array .byte)], some .int⟩ := by decide +kernel
theorem dj52_91_2 : decode jdk_52_method_91_code 2 = .ok (.invokestatic 48, 3) := by decide +kernel
theorem dj52_91_5 : decode jdk_52_method_91_code 5 = .ok (.invokestatic 414, 3) := by decide +kernel
theorem dj52_91_8 : decode jdk_52_method_91_code 8 = .ok (.return_, 1) := by decide +kernel
def Q_uci (Z : State) (p1 : Int32) (a1 : Nat) (cs : List Int32) (k : ClassId) (fm : Value) (h0 : Heap) (v : Option Value) (h : Heap) (L : List Loc) : Prop := v = none ∧ Fr Z.heap.size L ∧ h = h0
set_option maxRecDepth 65536 in
set_option maxHeartbeats 40000000 in
theorem rm_uci (l : Launch) (Z : State) (a0 : Array Value) (hw : ∀ d ∈ tables_1, d.before a0 Z = true) (ws : List Jvm.Cond) (p1 : Int32) (a1 : Nat) (cs : List Int32) (k : ClassId) (fm : Value) (h0 : Heap) (OL : Old Z Z.heap.size h0) (p0_ : Arv Z h0 a1 k .byte (Int32.ofNat (2 * cs.length)) (StrChars.Road.wideBytes cs) (.int (0 : Int32))) (st_SIOOBE_FORMATTER : Sta Z Z.heap "jdk/internal/util/Preconditions" "SIOOBE_FORMATTER" "Ljava/util/function/BiFunction;" fm) (h1 : ¬ p1 < 0) (h2 : p1 < Int32.ofNat cs.length) (hle : cs.length ≤ 4) (hfm : fm.isRef = true) :
    MetFree l mN23 (head1 (Jvm.Cond.code mN23 jdk_52_method_91_code 2 none :: ws) rM8) (fun a U => a = #[(.int p1), (.ref a1)] ∧ Z.Warmed39 U.vm ∧ U.heap = h0) (fun _ _ _ _ _ => True) (fun _ U o U' => ∃ v L, o = .returned v ∧ Q_uci Z p1 a1 cs k fm h0 v U'.heap L ∧ FrameEnd U o U' L rM8.cells rM8.slots) := by
  refine MetFree.of_bodySF (plainFor_of_name pn_25) hisR ?_
  intro p e s m args below meth c s₁ Bd hml0 hP hK
  obtain ⟨rfl, hZ, hh⟩ := hP
  have hx := Bd.exec
  have hby := Bd.bytes
  have hml : c.maxLocals = 2 := hml0
  have hown : s.vm.findClass "java/lang/StringUTF16" = some m.cls := findClass_of_methodNamed Bd.named
  have hnm := (name_of_methodNamed Bd.named Bd.method).1
  have X0 : Stand p l e rM8 s m #[(.int p1), (.ref a1)] below meth c s₁ [] 0 0 := Stand.of_body Bd
  have e0 : s₁.heap = h0 := by rw [← hh, Bd.state]; rfl
  have N0 := Fr.nil Z.heap.size
  have Z0 : Z.heap.size ≤ h0.size := OL.2.1
  have lt_0 : @LT.lt Nat _ a1 h0.size := p0_.lt
  show oG p.tables e below (fun o tE => ∃ v L, o = .returned v ∧ Q_uci Z p1 a1 cs k fm h0 v tE.heap L ∧ FrameEnd s o tE L rM8.cells rM8.slots) (s₁.setTop (entryFrame m #[(.int p1), (.ref a1)] 2))
  refine own_hd (fun PP hPP => ?_)
  refine oG.st (fun t k => castTop (ef_270 m p1 a1) k) ?_
  refine oG.st (fun _ k => XS.iloadN X0.here hx rfl (hb hby dj52_91_0) rfl (XS.aloadN X0.here hx rfl (hb hby dj52_91_1) rfl rfl k)) ?_
  show oG _ _ _ _ (s₁.setTop (mkF m 2 #[.val (.int p1), .val (.ref a1)] [(.ref a1), (.int p1)]))
  obtain ⟨_, _, ⟨T279, L279, k279, n279⟩, -, X279, ⟨Lc279, hQ279, l279, y279, z279⟩, st279⟩ := Jvm.LawKit.callS X0 hx (y := mN31) hown (own_v hZ hw 141 rfl) (own_v hZ hw 142 rfl) (own_v hZ hw 92 rfl) (own_v hZ hw 143 rfl) (by decide) (backOf (W := 1) (rm_ulen l Z a0 hw [] a1 cs k h0 OL p0_ hle) hZ (own_w hw 143 rfl) (own_w hw 92 rfl) (by decide) (by decide)) (g := (mkF m 2 #[.val (.int p1), .val (.ref a1)] [(.ref a1), (.int p1)])) rfl (by rw [hml]; rfl) (argsL := [(.ref a1)]) (rest := [(.int p1)]) (lenOf pd_273 rfl) rfl (by show 2 * 0 + _ ≤ _; exact Nat.le_of_eq rfl) (hb hby dj52_91_2) (fun _ _ => ⟨rfl, e0, (by decide : 0 + 0 ≤ _), (by decide : 0 + 0 ≤ _)⟩)
  dsimp only [Pt.U, Pt.locs, Pt.cells, Pt.slots] at X279 l279 y279 z279 st279 hQ279
  subst l279 y279 z279
  obtain ⟨rfl, N279q, K279⟩ := hQ279
  have N279 := Fr.app N0 N279q
  refine oG.st st279 ?_
  show oG _ _ _ _ (T279.setTop (mkF m 5 #[.val (.int p1), .val (.ref a1)] [(.int (Int32.ofNat cs.length)), (.int p1)]))
  obtain ⟨_, _, ⟨T280, L280, k280, n280⟩, -, X280, ⟨Lc280, hQ280, l280, y280, z280⟩, st280⟩ := Jvm.LawKit.callS X279 hx (y := mN11) hown (own_v hZ hw 181 rfl) (own_v hZ hw 182 rfl) (own_v hZ hw 11 rfl) (own_v hZ hw 183 rfl) (by decide) (backOf (W := 0) (rm_sci l Z a0 hw [] p1 (Int32.ofNat cs.length) fm h0 OL st_SIOOBE_FORMATTER h1 (by first | assumption | decide) hfm) hZ (own_w hw 183 rfl) (own_w hw 11 rfl) (by decide) (by decide)) (g := (mkF m 5 #[.val (.int p1), .val (.ref a1)] [(.int (Int32.ofNat cs.length)), (.int p1)])) rfl (by rw [hml]; rfl) (argsL := [(.int p1), (.int (Int32.ofNat cs.length))]) (rest := []) (lenOf pd_204 rfl) rfl (by show 2 * 0 + _ ≤ _; exact Nat.le_of_eq rfl) (hb hby dj52_91_5) (fun _ _ => ⟨rfl, K279, (by decide : 0 + 0 ≤ _), (by decide : 0 + 0 ≤ _)⟩)
  dsimp only [Pt.U, Pt.locs, Pt.cells, Pt.slots] at X280 l280 y280 z280 st280 hQ280
  subst l280 y280 z280
  obtain ⟨rfl, N280q, K280⟩ := hQ280
  have N280 := Fr.app N279 N280q
  refine oG.st st280 ?_
  show oG _ _ _ _ (T280.setTop (mkF m 8 #[.val (.int p1), .val (.ref a1)] []))
  obtain ⟨fs281, hr281, hrun281, hend281, hW281, hsm281⟩ := X280.leave (v := none) (fun _ => rfl)
  subst hPP
  refine ⟨_, _, X280.returnOut hx Bd.returns (hb hby dj52_91_8) hr281, hrun281, hend281, _, _, rfl, ?_, ⟨_, rfl⟩, hW281, hsm281.mono (by decide) (by decide)⟩
  · show Q_uci Z _ _ _ _ _ h0 _ T280.heap _
    rw [K280]
    exact ⟨rfl, N280, rfl⟩
theorem ef_277 (m : MethodId) (x0 : Int32) (x1 : Int32) (x2 : Int32) (x3 : Value) (hx3 : x3.isRef = true) : entryFrame m #[(.int x0), (.int x1), (.int x2), x3] 4 = mkF m 0 #[.val (.int x0), .val (.int x1), .val (.int x2), .val x3] [] := by rcases ref_cases hx3 with rfl | ⟨_, rfl⟩ <;> first | (simp [entryFrame, mkF, argsToLocals, Value.category]; done) | rfl
theorem dj41_13_0 : decode cJ4 0 = .ok (.iload_n 2, 1) := by decide +kernel
theorem dj41_13_1 : decode cJ4 1 = .ok (.iload_n 0, 1) := by decide +kernel
theorem dj41_13_2 : decode cJ4 2 = .ok (.ior, 1) := by decide +kernel
theorem dj41_13_3 : decode cJ4 3 = .ok (.iload_n 1, 1) := by decide +kernel
theorem dj41_13_4 : decode cJ4 4 = .ok (.ior, 1) := by decide +kernel
theorem dj41_13_5 : decode cJ4 5 = .ok (.ifCond .lt 10, 3) := by decide +kernel
theorem dj41_13_8 : decode cJ4 8 = .ok (.iload_n 1, 1) := by decide +kernel
theorem dj41_13_9 : decode cJ4 9 = .ok (.iload_n 2, 1) := by decide +kernel
theorem dj41_13_10 : decode cJ4 10 = .ok (.iload_n 0, 1) := by decide +kernel
theorem dj41_13_11 : decode cJ4 11 = .ok (.isub, 1) := by decide +kernel
theorem dj41_13_12 : decode cJ4 12 = .ok (.if_icmp .le 11, 3) := by decide +kernel
theorem dj41_13_23 : decode cJ4 23 = .ok (.iload_n 0, 1) := by decide +kernel
theorem dj41_13_24 : decode cJ4 24 = .ok (.ireturn, 1) := by decide +kernel
def Q_pcfs (Z : State) (p2 : Int32) (p3 : Int32) (mm : Nat) (nn : Nat) (fm : Value) (h0 : Heap) (v : Option Value) (h : Heap) (L : List Loc) : Prop := v = some (.int (0 : Int32)) ∧ Fr Z.heap.size L ∧ h = h0
set_option maxRecDepth 65536 in
set_option maxHeartbeats 40000000 in
theorem rm_pcfs (l : Launch) (Z : State) (a0 : Array Value) (hw : ∀ d ∈ tables_1, d.before a0 Z = true) (ws : List Jvm.Cond) (p2 : Int32) (p3 : Int32) (mm : Nat) (nn : Nat) (fm : Value) (h0 : Heap) (OL : Old Z Z.heap.size h0) (hp2 : p2 = Int32.ofNat mm) (hp3 : p3 = Int32.ofNat nn) (hmn : mm ≤ nn ∧ nn ≤ 4000) (hfm : fm.isRef = true) :
    MetFree l mN40 (head1 (Jvm.Cond.code mN40 jdk_41_method_13_code 4 (some .int) :: ws) rM0) (fun a U => a = #[(.int (0 : Int32)), (.int p2), (.int p3), fm] ∧ Z.Warmed39 U.vm ∧ U.heap = h0) (fun _ _ _ _ _ => True) (fun _ U o U' => ∃ v L, o = .returned v ∧ Q_pcfs Z p2 p3 mm nn fm h0 v U'.heap L ∧ FrameEnd U o U' L rM0.cells rM0.slots) := by
  refine MetFree.of_bodySF (plainFor_of_name pn_249) hisR ?_
  intro p e s m args below meth c s₁ Bd hml0 hP hK
  obtain ⟨rfl, hZ, hh⟩ := hP
  have hx := Bd.exec
  have hby := Bd.bytes
  have hml : c.maxLocals = 4 := hml0
  have hown : s.vm.findClass "jdk/internal/util/Preconditions" = some m.cls := findClass_of_methodNamed Bd.named
  have hnm := (name_of_methodNamed Bd.named Bd.method).1
  have X0 : Stand p l e rM0 s m #[(.int (0 : Int32)), (.int p2), (.int p3), fm] below meth c s₁ [] 0 0 := Stand.of_body Bd
  have e0 : s₁.heap = h0 := by rw [← hh, Bd.state]; rfl
  have N0 := Fr.nil Z.heap.size
  have Z0 : Z.heap.size ≤ h0.size := OL.2.1
  show oG p.tables e below (fun o tE => ∃ v L, o = .returned v ∧ Q_pcfs Z p2 p3 mm nn fm h0 v tE.heap L ∧ FrameEnd s o tE L rM0.cells rM0.slots) (s₁.setTop (entryFrame m #[(.int (0 : Int32)), (.int p2), (.int p3), fm] 4))
  refine own_hd (fun PP hPP => ?_)
  refine oG.st (fun t k => castTop (ef_277 m (0 : Int32) p2 p3 fm hfm) k) ?_
  subst hp2 hp3
  refine oG.st (fun _ k => XS.iloadN X0.here hx rfl (hb hby dj41_13_0) rfl (XS.iloadN X0.here hx rfl (hb hby dj41_13_1) rfl (XS.ior X0.here hx rfl (hb hby dj41_13_2) rfl (XS.iloadN X0.here hx rfl (hb hby dj41_13_3) rfl (XS.ior X0.here hx rfl (hb hby dj41_13_4) rfl k))))) ?_
  show oG _ _ _ _ (s₁.setTop (mkF m 5 #[.val (.int (0 : Int32)), .val (.int (Int32.ofNat mm)), .val (.int (Int32.ofNat nn)), .val fm] [(.int (((Int32.ofNat nn) ||| (0 : Int32)) ||| (Int32.ofNat mm)))]))
  have hc282 : ¬ ((((Int32.ofNat nn) ||| (0 : Int32)) ||| (Int32.ofNat mm)) < (0 : Int32)) := own_or0 (by omega) (by omega)
  refine oG.st (fun _ k => XS.ifNo X0.here hx rfl (hb hby dj41_13_5) rfl ((if0 _ _).trans (flt hc282).1) k) ?_
  refine oG.st (fun _ k => XS.iloadN X0.here hx rfl (hb hby dj41_13_8) rfl (XS.iloadN X0.here hx rfl (hb hby dj41_13_9) rfl (XS.iloadN X0.here hx rfl (hb hby dj41_13_10) rfl (XS.isub X0.here hx rfl (hb hby dj41_13_11) rfl k)))) ?_
  show oG _ _ _ _ (s₁.setTop (mkF m 12 #[.val (.int (0 : Int32)), .val (.int (Int32.ofNat mm)), .val (.int (Int32.ofNat nn)), .val fm] [(.int ((Int32.ofNat nn) - (0 : Int32))), (.int (Int32.ofNat mm))]))
  have hc283 : ¬ (((Int32.ofNat nn) - (0 : Int32)) < (Int32.ofNat mm)) := by rw [Int32.sub_zero, own_oflt (by omega) (by omega)]; omega
  refine oG.st (fun _ k => XS.icmpYes X0.here hx rfl (pc0 := 12) (pc' := 23) rfl (hb hby dj41_13_12) rfl (flt hc283).2.2.2 (by decide) (by decide) k) ?_
  refine oG.st (fun _ k => XS.iloadN X0.here hx rfl (hb hby dj41_13_23) rfl k) ?_
  show oG _ _ _ _ (s₁.setTop (mkF m 24 #[.val (.int (0 : Int32)), .val (.int (Int32.ofNat mm)), .val (.int (Int32.ofNat nn)), .val fm] [(.int (0 : Int32))]))
  obtain ⟨fs284, hr284, hrun284, hend284, hW284, hsm284⟩ := X0.leave (v := some (.int (0 : Int32))) (fun h => by rw [Bd.returns] at h; cases h)
  subst hPP
  refine ⟨_, _, own_retI X0 hx Bd.returns (hb hby dj41_13_24) hr284, hrun284, hend284, _, _, rfl, ?_, ⟨_, rfl⟩, hW284, hsm284.mono (by decide) (by decide)⟩
  · show Q_pcfs Z _ _ _ _ _ h0 _ s₁.heap _
    rw [e0]
    exact ⟨rfl, N0, rfl⟩
theorem ef_291 (m : MethodId) (x0 : Int32) (x1 : Int32) (x2 : Int32) : entryFrame m #[(.int x0), (.int x1), (.int x2)] 3 = mkF m 0 #[.val (.int x0), .val (.int x1), .val (.int x2)] [] := by first | (simp [entryFrame, mkF, argsToLocals, Value.category]; done) | rfl
theorem dj42_157_0 : decode cJ9 0 = .ok (.iload_n 0, 1) := by decide +kernel
theorem dj42_157_1 : decode cJ9 1 = .ok (.iload_n 1, 1) := by decide +kernel
theorem dj42_157_2 : decode cJ9 2 = .ok (.iload_n 2, 1) := by decide +kernel
theorem dj42_157_3 : decode cJ9 3 = .ok (.getstatic 1053, 3) := by decide +kernel
theorem pd_296 : parseMethodDescriptor "(IIILjava/util/function/BiFunction;)I" = some ⟨[.int, .int, .int, (.object "java/util/function/BiFunction")], some .int⟩ := by decide +kernel
theorem dj42_157_6 : decode cJ9 6 = .ok (.invokestatic 1065, 3) := by decide +kernel
theorem dj42_157_9 : decode cJ9 9 = .ok (.ireturn, 1) := by decide +kernel
def Q_sboc (Z : State) (p2 : Int32) (p3 : Int32) (mm : Nat) (nn : Nat) (fm : Value) (h0 : Heap) (v : Option Value) (h : Heap) (L : List Loc) : Prop := v = some (.int (0 : Int32)) ∧ Fr Z.heap.size L ∧ h = h0
set_option maxRecDepth 65536 in
set_option maxHeartbeats 40000000 in
theorem rm_sboc (l : Launch) (Z : State) (a0 : Array Value) (hw : ∀ d ∈ tables_1, d.before a0 Z = true) (ws : List Jvm.Cond) (p2 : Int32) (p3 : Int32) (mm : Nat) (nn : Nat) (fm : Value) (h0 : Heap) (OL : Old Z Z.heap.size h0) (st_SIOOBE_FORMATTER : Sta Z Z.heap "jdk/internal/util/Preconditions" "SIOOBE_FORMATTER" "Ljava/util/function/BiFunction;" fm) (hp2 : p2 = Int32.ofNat mm) (hp3 : p3 = Int32.ofNat nn) (hmn : mm ≤ nn ∧ nn ≤ 4000) (hfm : fm.isRef = true) :
    MetFree l mN10 (head1 (Jvm.Cond.code mN10 jdk_42_method_157_code 3 (some .int) :: ws) rM3) (fun a U => a = #[(.int (0 : Int32)), (.int p2), (.int p3)] ∧ Z.Warmed39 U.vm ∧ U.heap = h0) (fun _ _ _ _ _ => True) (fun _ U o U' => ∃ v L, o = .returned v ∧ Q_sboc Z p2 p3 mm nn fm h0 v U'.heap L ∧ FrameEnd U o U' L rM3.cells rM3.slots) := by
  refine MetFree.of_bodySF (plainFor_of_name pn_0) hisR ?_
  intro p e s m args below meth c s₁ Bd hml0 hP hK
  obtain ⟨rfl, hZ, hh⟩ := hP
  have hx := Bd.exec
  have hby := Bd.bytes
  have hml : c.maxLocals = 3 := hml0
  have hown : s.vm.findClass "java/lang/String" = some m.cls := findClass_of_methodNamed Bd.named
  have hnm := (name_of_methodNamed Bd.named Bd.method).1
  have X0 : Stand p l e rM3 s m #[(.int (0 : Int32)), (.int p2), (.int p3)] below meth c s₁ [] 0 0 := Stand.of_body Bd
  have e0 : s₁.heap = h0 := by rw [← hh, Bd.state]; rfl
  have N0 := Fr.nil Z.heap.size
  have Z0 : Z.heap.size ≤ h0.size := OL.2.1
  show oG p.tables e below (fun o tE => ∃ v L, o = .returned v ∧ Q_sboc Z p2 p3 mm nn fm h0 v tE.heap L ∧ FrameEnd s o tE L rM3.cells rM3.slots) (s₁.setTop (entryFrame m #[(.int (0 : Int32)), (.int p2), (.int p3)] 3))
  refine own_hd (fun PP hPP => ?_)
  refine oG.st (fun t k => castTop (ef_291 m (0 : Int32) p2 p3) k) ?_
  refine oG.st (fun _ k => XS.iloadN X0.here hx rfl (hb hby dj42_157_0) rfl (XS.iloadN X0.here hx rfl (hb hby dj42_157_1) rfl (XS.iloadN X0.here hx rfl (hb hby dj42_157_2) rfl k))) ?_
  show oG _ _ _ _ (s₁.setTop (mkF m 3 #[.val (.int (0 : Int32)), .val (.int p2), .val (.int p3)] [(.int p3), (.int p2), (.int (0 : Int32))]))
  obtain ⟨T285, X285, e285, st285⟩ := getS2 X0 hx hZ hown (host := "") (Or.inl (own_w hw 84 rfl)) Via.refl e0 (st_SIOOBE_FORMATTER.ext OL.2) (g := (mkF m 3 #[.val (.int (0 : Int32)), .val (.int p2), .val (.int p3)] [(.int p3), (.int p2), (.int (0 : Int32))])) rfl (hb hby dj42_157_3)
  refine oG.st st285 ?_
  show oG _ _ _ _ (T285.setTop (mkF m 6 #[.val (.int (0 : Int32)), .val (.int p2), .val (.int p3)] [fm, (.int p3), (.int p2), (.int (0 : Int32))]))
  obtain ⟨_, _, ⟨T286, L286, k286, n286⟩, -, X286, ⟨Lc286, hQ286, l286, y286, z286⟩, st286⟩ := Jvm.LawKit.callS X285 hx (y := mN40) hown (own_v hZ hw 147 rfl) (own_v hZ hw 148 rfl) (own_v hZ hw 85 rfl) (own_v hZ hw 149 rfl) (by decide) (backOf (W := 0) (rm_pcfs l Z a0 hw [] p2 p3 mm nn fm h0 OL hp2 hp3 hmn hfm) hZ (own_w hw 149 rfl) (own_w hw 85 rfl) (by decide) (by decide)) (g := (mkF m 6 #[.val (.int (0 : Int32)), .val (.int p2), .val (.int p3)] [fm, (.int p3), (.int p2), (.int (0 : Int32))])) rfl (by rw [hml]; rfl) (argsL := [(.int (0 : Int32)), (.int p2), (.int p3), fm]) (rest := []) (lenOf pd_296 rfl) rfl (by show 2 * 0 + _ ≤ _; exact Nat.le_of_eq rfl) (hb hby dj42_157_6) (fun _ _ => ⟨rfl, e285, (by decide : 0 + 0 ≤ _), (by decide : 0 + 0 ≤ _)⟩)
  dsimp only [Pt.U, Pt.locs, Pt.cells, Pt.slots] at X286 l286 y286 z286 st286 hQ286
  subst l286 y286 z286
  obtain ⟨rfl, N286q, K286⟩ := hQ286
  have N286 := Fr.app N0 N286q
  refine oG.st st286 ?_
  show oG _ _ _ _ (T286.setTop (mkF m 9 #[.val (.int (0 : Int32)), .val (.int p2), .val (.int p3)] [(.int (0 : Int32))]))
  obtain ⟨fs287, hr287, hrun287, hend287, hW287, hsm287⟩ := X286.leave (v := some (.int (0 : Int32))) (fun h => by rw [Bd.returns] at h; cases h)
  subst hPP
  refine ⟨_, _, own_retI X286 hx Bd.returns (hb hby dj42_157_9) hr287, hrun287, hend287, _, _, rfl, ?_, ⟨_, rfl⟩, hW287, hsm287.mono (by decide) (by decide)⟩
  · show Q_sboc Z _ _ _ _ _ h0 _ T286.heap _
    rw [K286]
    exact ⟨rfl, N286, rfl⟩
theorem ef_299 (m : MethodId) (x0 : Int32) (x1 : Int32) (x2 : Nat) : entryFrame m #[(.int x0), (.int x1), (.ref x2)] 3 = mkF m 0 #[.val (.int x0), .val (.int x1), .val (.ref x2)] [] := by first | (simp [entryFrame, mkF, argsToLocals, Value.category]; done) | rfl
theorem dj52_94_0 : decode cJ32 0 = .ok (.iload_n 0, 1) := by decide +kernel
theorem dj52_94_1 : decode cJ32 1 = .ok (.iload_n 1, 1) := by decide +kernel
theorem dj52_94_2 : decode cJ32 2 = .ok (.aload_n 2, 1) := by decide +kernel
theorem dj52_94_3 : decode cJ32 3 = .ok (.invokestatic 48, 3) := by decide +kernel
theorem pd_304 : parseMethodDescriptor "(III)I" = some ⟨[.int, .int, .int], some .int⟩ := by decide +kernel
theorem dj52_94_6 : decode cJ32 6 = .ok (.invokestatic 419, 3) := by decide +kernel
theorem dj52_94_9 : decode cJ32 9 = .ok (.pop, 1) := by decide +kernel
theorem dj52_94_10 : decode cJ32 10 = .ok (.return_, 1) := by decide +kernel
def Q_uboc (Z : State) (p2 : Int32) (a1 : Nat) (cs : List Int32) (k : ClassId) (mm : Nat) (fm : Value) (h0 : Heap) (v : Option Value) (h : Heap) (L : List Loc) : Prop := v = none ∧ Fr Z.heap.size L ∧ h = h0
set_option maxRecDepth 65536 in
set_option maxHeartbeats 40000000 in
theorem rm_uboc (l : Launch) (Z : State) (a0 : Array Value) (hw : ∀ d ∈ tables_1, d.before a0 Z = true) (ws : List Jvm.Cond) (p2 : Int32) (a1 : Nat) (cs : List Int32) (k : ClassId) (mm : Nat) (fm : Value) (h0 : Heap) (OL : Old Z Z.heap.size h0) (p0_ : Arv Z h0 a1 k .byte (Int32.ofNat (2 * cs.length)) (StrChars.Road.wideBytes cs) (.int (0 : Int32))) (st_SIOOBE_FORMATTER : Sta Z Z.heap "jdk/internal/util/Preconditions" "SIOOBE_FORMATTER" "Ljava/util/function/BiFunction;" fm) (hp2 : p2 = Int32.ofNat mm) (hmm : mm ≤ cs.length) (hle : cs.length ≤ 4) (hfm : fm.isRef = true) :
    MetFree l mN22 (head1 (Jvm.Cond.code mN22 jdk_52_method_94_code 3 none :: ws) rM9) (fun a U => a = #[(.int (0 : Int32)), (.int p2), (.ref a1)] ∧ Z.Warmed39 U.vm ∧ U.heap = h0) (fun _ _ _ _ _ => True) (fun _ U o U' => ∃ v L, o = .returned v ∧ Q_uboc Z p2 a1 cs k mm fm h0 v U'.heap L ∧ FrameEnd U o U' L rM9.cells rM9.slots) := by
  refine MetFree.of_bodySF (plainFor_of_name pn_25) hisR ?_
  intro p e s m args below meth c s₁ Bd hml0 hP hK
  obtain ⟨rfl, hZ, hh⟩ := hP
  have hx := Bd.exec
  have hby := Bd.bytes
  have hml : c.maxLocals = 3 := hml0
  have hown : s.vm.findClass "java/lang/StringUTF16" = some m.cls := findClass_of_methodNamed Bd.named
  have hnm := (name_of_methodNamed Bd.named Bd.method).1
  have X0 : Stand p l e rM9 s m #[(.int (0 : Int32)), (.int p2), (.ref a1)] below meth c s₁ [] 0 0 := Stand.of_body Bd
  have e0 : s₁.heap = h0 := by rw [← hh, Bd.state]; rfl
  have N0 := Fr.nil Z.heap.size
  have Z0 : Z.heap.size ≤ h0.size := OL.2.1
  have lt_0 : @LT.lt Nat _ a1 h0.size := p0_.lt
  show oG p.tables e below (fun o tE => ∃ v L, o = .returned v ∧ Q_uboc Z p2 a1 cs k mm fm h0 v tE.heap L ∧ FrameEnd s o tE L rM9.cells rM9.slots) (s₁.setTop (entryFrame m #[(.int (0 : Int32)), (.int p2), (.ref a1)] 3))
  refine own_hd (fun PP hPP => ?_)
  refine oG.st (fun t k => castTop (ef_299 m (0 : Int32) p2 a1) k) ?_
  refine oG.st (fun _ k => XS.iloadN X0.here hx rfl (hb hby dj52_94_0) rfl (XS.iloadN X0.here hx rfl (hb hby dj52_94_1) rfl (XS.aloadN X0.here hx rfl (hb hby dj52_94_2) rfl rfl k))) ?_
  show oG _ _ _ _ (s₁.setTop (mkF m 3 #[.val (.int (0 : Int32)), .val (.int p2), .val (.ref a1)] [(.ref a1), (.int p2), (.int (0 : Int32))]))
  obtain ⟨_, _, ⟨T288, L288, k288, n288⟩, -, X288, ⟨Lc288, hQ288, l288, y288, z288⟩, st288⟩ := Jvm.LawKit.callS X0 hx (y := mN31) hown (own_v hZ hw 141 rfl) (own_v hZ hw 142 rfl) (own_v hZ hw 92 rfl) (own_v hZ hw 143 rfl) (by decide) (backOf (W := 2) (rm_ulen l Z a0 hw [] a1 cs k h0 OL p0_ hle) hZ (own_w hw 143 rfl) (own_w hw 92 rfl) (by decide) (by decide)) (g := (mkF m 3 #[.val (.int (0 : Int32)), .val (.int p2), .val (.ref a1)] [(.ref a1), (.int p2), (.int (0 : Int32))])) rfl (by rw [hml]; rfl) (argsL := [(.ref a1)]) (rest := [(.int p2), (.int (0 : Int32))]) (lenOf pd_273 rfl) rfl (by show 2 * 0 + _ ≤ _; exact Nat.le_of_eq rfl) (hb hby dj52_94_3) (fun _ _ => ⟨rfl, e0, (by decide : 0 + 0 ≤ _), (by decide : 0 + 0 ≤ _)⟩)
  dsimp only [Pt.U, Pt.locs, Pt.cells, Pt.slots] at X288 l288 y288 z288 st288 hQ288
  subst l288 y288 z288
  obtain ⟨rfl, N288q, K288⟩ := hQ288
  have N288 := Fr.app N0 N288q
  refine oG.st st288 ?_
  show oG _ _ _ _ (T288.setTop (mkF m 6 #[.val (.int (0 : Int32)), .val (.int p2), .val (.ref a1)] [(.int (Int32.ofNat cs.length)), (.int p2), (.int (0 : Int32))]))
  obtain ⟨_, _, ⟨T289, L289, k289, n289⟩, -, X289, ⟨Lc289, hQ289, l289, y289, z289⟩, st289⟩ := Jvm.LawKit.callS X288 hx (y := mN10) hown (own_v hZ hw 144 rfl) (own_v hZ hw 145 rfl) (own_v hZ hw 11 rfl) (own_v hZ hw 146 rfl) (by decide) (backOf (W := 0) (rm_sboc l Z a0 hw [] p2 (Int32.ofNat cs.length) mm cs.length fm h0 OL st_SIOOBE_FORMATTER hp2 rfl ⟨hmm, by omega⟩ hfm) hZ (own_w hw 146 rfl) (own_w hw 11 rfl) (by decide) (by decide)) (g := (mkF m 6 #[.val (.int (0 : Int32)), .val (.int p2), .val (.ref a1)] [(.int (Int32.ofNat cs.length)), (.int p2), (.int (0 : Int32))])) rfl (by rw [hml]; rfl) (argsL := [(.int (0 : Int32)), (.int p2), (.int (Int32.ofNat cs.length))]) (rest := []) (lenOf pd_304 rfl) rfl (by show 2 * 0 + _ ≤ _; exact Nat.le_of_eq rfl) (hb hby dj52_94_6) (fun _ _ => ⟨rfl, K288, (by decide : 0 + 0 ≤ _), (by decide : 0 + 0 ≤ _)⟩)
  dsimp only [Pt.U, Pt.locs, Pt.cells, Pt.slots] at X289 l289 y289 z289 st289 hQ289
  subst l289 y289 z289
  obtain ⟨rfl, N289q, K289⟩ := hQ289
  have N289 := Fr.app N288 N289q
  refine oG.st st289 ?_
  refine oG.st (fun _ k => XS.pop X289.here hx rfl (hb hby dj52_94_9) rfl rfl k) ?_
  show oG _ _ _ _ (T289.setTop (mkF m 10 #[.val (.int (0 : Int32)), .val (.int p2), .val (.ref a1)] []))
  obtain ⟨fs290, hr290, hrun290, hend290, hW290, hsm290⟩ := X289.leave (v := none) (fun _ => rfl)
  subst hPP
  refine ⟨_, _, X289.returnOut hx Bd.returns (hb hby dj52_94_10) hr290, hrun290, hend290, _, _, rfl, ?_, ⟨_, rfl⟩, hW290, hsm290.mono (by decide) (by decide)⟩
  · show Q_uboc Z _ _ _ _ _ _ h0 _ T289.heap _
    rw [K289]
    exact ⟨rfl, N289, rfl⟩
theorem dj52_83_0 : decode cJ31 0 = .ok (.iload_n 1, 1) := by decide +kernel
theorem dj52_83_1 : decode cJ31 1 = .ok (.aload_n 0, 1) := by decide +kernel
theorem pd_310 : parseMethodDescriptor "(I[B)V" = some ⟨[.int, (.array .byte)], none⟩ := by decide +kernel
theorem dj52_83_2 : decode cJ31 2 = .ok (.invokestatic 67, 3) := by decide +kernel
theorem dj52_83_5 : decode cJ31 5 = .ok (.aload_n 0, 1) := by decide +kernel
theorem dj52_83_6 : decode cJ31 6 = .ok (.iload_n 1, 1) := by decide +kernel
theorem dj52_83_7 : decode cJ31 7 = .ok (.invokestatic 71, 3) := by decide +kernel
theorem dj52_83_10 : decode cJ31 10 = .ok (.ireturn, 1) := by decide +kernel
def Q_uchar (Z : State) (a1 : Nat) (pi : Int32) (cs : List Int32) (k : ClassId) (i : Nat) (fm : Value) (h0 : Heap) (v : Option Value) (h : Heap) (L : List Loc) : Prop := v = some (.int (cs.getD i 0)) ∧ Fr Z.heap.size L ∧ h = h0
set_option maxRecDepth 65536 in
set_option maxHeartbeats 40000000 in
theorem rm_uchar (l : Launch) (Z : State) (a0 : Array Value) (hw : ∀ d ∈ tables_1, d.before a0 Z = true) (ws : List Jvm.Cond) (a1 : Nat) (pi : Int32) (cs : List Int32) (k : ClassId) (i : Nat) (fm : Value) (h0 : Heap) (OL : Old Z Z.heap.size h0) (p0_ : Arv Z h0 a1 k .byte (Int32.ofNat (2 * cs.length)) (StrChars.Road.wideBytes cs) (.int (0 : Int32))) (st_SIOOBE_FORMATTER : Sta Z Z.heap "jdk/internal/util/Preconditions" "SIOOBE_FORMATTER" "Ljava/util/function/BiFunction;" fm) (st_A : Sta Z Z.heap "java/lang/StringUTF16" "$assertionsDisabled" "Z" (.int (1 : Int32))) (st_H : Sta Z Z.heap "java/lang/StringUTF16" "HI_BYTE_SHIFT" "I" (.int (0 : Int32))) (st_L : Sta Z Z.heap "java/lang/StringUTF16" "LO_BYTE_SHIFT" "I" (.int (8 : Int32))) (hpi : pi = Int32.ofNat i) (hi : i < cs.length) (hle : cs.length ≤ 4) (hrng : ∀ c ∈ cs, ¬ c < 0 ∧ ¬ (65535 : Int32) < c) (hfm : fm.isRef = true) :
    MetFree l mN21 (head1 (Jvm.Cond.code mN21 jdk_52_method_83_code 2 (some .char) :: ws) rM14) (fun a U => a = #[(.ref a1), (.int pi)] ∧ Z.Warmed39 U.vm ∧ U.heap = h0) (fun _ _ _ _ _ => True) (fun _ U o U' => ∃ v L, o = .returned v ∧ Q_uchar Z a1 pi cs k i fm h0 v U'.heap L ∧ FrameEnd U o U' L rM14.cells rM14.slots) := by
  refine MetFree.of_bodySF (plainFor_of_name pn_25) hisR ?_
  intro p e s m args below meth c s₁ Bd hml0 hP hK
  obtain ⟨rfl, hZ, hh⟩ := hP
  have hx := Bd.exec
  have hby := Bd.bytes
  have hml : c.maxLocals = 2 := hml0
  have hown : s.vm.findClass "java/lang/StringUTF16" = some m.cls := findClass_of_methodNamed Bd.named
  have hnm := (name_of_methodNamed Bd.named Bd.method).1
  have X0 : Stand p l e rM14 s m #[(.ref a1), (.int pi)] below meth c s₁ [] 0 0 := Stand.of_body Bd
  have e0 : s₁.heap = h0 := by rw [← hh, Bd.state]; rfl
  have N0 := Fr.nil Z.heap.size
  have Z0 : Z.heap.size ≤ h0.size := OL.2.1
  have lt_0 : @LT.lt Nat _ a1 h0.size := p0_.lt
  show oG p.tables e below (fun o tE => ∃ v L, o = .returned v ∧ Q_uchar Z a1 pi cs k i fm h0 v tE.heap L ∧ FrameEnd s o tE L rM14.cells rM14.slots) (s₁.setTop (entryFrame m #[(.ref a1), (.int pi)] 2))
  refine own_hd (fun PP hPP => ?_)
  refine oG.st (fun t k => castTop (ef_73 m a1 pi) k) ?_
  subst hpi
  refine oG.st (fun _ k => XS.iloadN X0.here hx rfl (hb hby dj52_83_0) rfl (XS.aloadN X0.here hx rfl (hb hby dj52_83_1) rfl rfl k)) ?_
  show oG _ _ _ _ (s₁.setTop (mkF m 2 #[.val (.ref a1), .val (.int (Int32.ofNat i))] [(.ref a1), (.int (Int32.ofNat i))]))
  obtain ⟨_, _, ⟨T291, L291, k291, n291⟩, -, X291, ⟨Lc291, hQ291, l291, y291, z291⟩, st291⟩ := Jvm.LawKit.callS X0 hx (y := mN23) hown (own_v hZ hw 178 rfl) (own_v hZ hw 179 rfl) (own_v hZ hw 92 rfl) (own_v hZ hw 180 rfl) (by decide) (backOf (W := 0) (rm_uci l Z a0 hw [] (Int32.ofNat i) a1 cs k fm h0 OL p0_ st_SIOOBE_FORMATTER (own_of0 (by omega)) ((own_oflt (by omega) (by omega)).mpr hi) hle hfm) hZ (own_w hw 180 rfl) (own_w hw 92 rfl) (by decide) (by decide)) (g := (mkF m 2 #[.val (.ref a1), .val (.int (Int32.ofNat i))] [(.ref a1), (.int (Int32.ofNat i))])) rfl (by rw [hml]; rfl) (argsL := [(.int (Int32.ofNat i)), (.ref a1)]) (rest := []) (lenOf pd_310 rfl) rfl (by show 2 * 0 + _ ≤ _; exact Nat.le_of_eq rfl) (hb hby dj52_83_2) (fun _ _ => ⟨rfl, e0, (by decide : 0 + 0 ≤ _), (by decide : 0 + 0 ≤ _)⟩)
  dsimp only [Pt.U, Pt.locs, Pt.cells, Pt.slots] at X291 l291 y291 z291 st291 hQ291
  subst l291 y291 z291
  obtain ⟨rfl, N291q, K291⟩ := hQ291
  have N291 := Fr.app N0 N291q
  refine oG.st st291 ?_
  refine oG.st (fun _ k => XS.aloadN X291.here hx rfl (hb hby dj52_83_5) rfl rfl (XS.iloadN X291.here hx rfl (hb hby dj52_83_6) rfl k)) ?_
  show oG _ _ _ _ (T291.setTop (mkF m 7 #[.val (.ref a1), .val (.int (Int32.ofNat i))] [(.int (Int32.ofNat i)), (.ref a1)]))
  obtain ⟨_, _, ⟨T292, L292, k292, n292⟩, -, X292, ⟨Lc292, hQ292, l292, y292, z292⟩, st292⟩ := Jvm.LawKit.callS X291 hx (y := mN29) hown (own_v hZ hw 120 rfl) (own_v hZ hw 121 rfl) (own_v hZ hw 92 rfl) (own_v hZ hw 122 rfl) (by decide) (backOf (W := 0) (rm_getc l Z a0 hw [] a1 (Int32.ofNat i) i k (Int32.ofNat (2 * cs.length)) (StrChars.Road.wideBytes cs) (.int (0 : Int32)) (cs.getD (i) 0) h0 OL p0_ st_A st_H st_L rfl (by rw [own_wlen]; omega) (by rw [own_wlen]) (by rw [own_wlen]; omega) (StrChars.Road.wide_lo _ _ _ hi) (StrChars.Road.wide_hi _ _ _ hi) (hrng _ (own_mem hi))) hZ (own_w hw 122 rfl) (own_w hw 92 rfl) (by decide) (by decide)) (g := (mkF m 7 #[.val (.ref a1), .val (.int (Int32.ofNat i))] [(.int (Int32.ofNat i)), (.ref a1)])) rfl (by rw [hml]; rfl) (argsL := [(.ref a1), (.int (Int32.ofNat i))]) (rest := []) (lenOf pd_158 rfl) rfl (by show 2 * 0 + _ ≤ _; exact Nat.le_of_eq rfl) (hb hby dj52_83_7) (fun _ _ => ⟨rfl, K291, (by decide : 0 + 0 ≤ _), (by decide : 0 + 0 ≤ _)⟩)
  dsimp only [Pt.U, Pt.locs, Pt.cells, Pt.slots] at X292 l292 y292 z292 st292 hQ292
  subst l292 y292 z292
  obtain ⟨rfl, N292q, K292⟩ := hQ292
  have N292 := Fr.app N291 N292q
  refine oG.st st292 ?_
  show oG _ _ _ _ (T292.setTop (mkF m 10 #[.val (.ref a1), .val (.int (Int32.ofNat i))] [(.int (cs.getD (i) 0))]))
  obtain ⟨fs293, hr293, hrun293, hend293, hW293, hsm293⟩ := X292.leave (v := some (.int (nar .char (cs.getD (i) 0)))) (fun h => by rw [Bd.returns] at h; cases h)
  subst hPP
  refine ⟨_, _, retN X292 hx (t := .char) Bd.returns (by simp) (hb hby dj52_83_10) hr293, hrun293, hend293, _, _, rfl, ?_, ⟨_, rfl⟩, hW293, hsm293.mono (by decide) (by decide)⟩
  · show Q_uchar Z _ _ _ _ _ _ h0 _ T292.heap _
    rw [K292]
    exact ⟨(by rw [own_nar (hrng _ (own_mem hi))]), N292, rfl⟩
theorem pn_316 : plainName "java/lang/StringLatin1" = true := by first | (simp [plainName, overriddenIn]; done) | decide +kernel
theorem dj43_2_0 : decode cJ17 0 = .ok (.iload_n 1, 1) := by decide +kernel
theorem dj43_2_1 : decode cJ17 1 = .ok (.aload_n 0, 1) := by decide +kernel
theorem dj43_2_2 : decode cJ17 2 = .ok (.arraylength, 1) := by decide +kernel
theorem dj43_2_3 : decode cJ17 3 = .ok (.invokestatic 9, 3) := by decide +kernel
theorem dj43_2_6 : decode cJ17 6 = .ok (.aload_n 0, 1) := by decide +kernel
theorem dj43_2_7 : decode cJ17 7 = .ok (.iload_n 1, 1) := by decide +kernel
theorem dj43_2_8 : decode cJ17 8 = .ok (.baload, 1) := by decide +kernel
theorem dj43_2_9 : decode cJ17 9 = .ok (.sipush 255, 3) := by decide +kernel
theorem dj43_2_12 : decode cJ17 12 = .ok (.iand, 1) := by decide +kernel
theorem dj43_2_13 : decode cJ17 13 = .ok (.i2c, 1) := by decide +kernel
theorem dj43_2_14 : decode cJ17 14 = .ok (.ireturn, 1) := by decide +kernel
def Q_lchar (Z : State) (a1 : Nat) (pi : Int32) (cs : List Int32) (k : ClassId) (i : Nat) (fm : Value) (h0 : Heap) (v : Option Value) (h : Heap) (L : List Loc) : Prop := v = some (.int (cs.getD i 0)) ∧ Fr Z.heap.size L ∧ h = h0
set_option maxRecDepth 65536 in
set_option maxHeartbeats 40000000 in
theorem rm_lchar (l : Launch) (Z : State) (a0 : Array Value) (hw : ∀ d ∈ tables_1, d.before a0 Z = true) (ws : List Jvm.Cond) (a1 : Nat) (pi : Int32) (cs : List Int32) (k : ClassId) (i : Nat) (fm : Value) (h0 : Heap) (OL : Old Z Z.heap.size h0) (p0_ : Arv Z h0 a1 k .byte (Int32.ofNat cs.length) (own_low cs) (.int (0 : Int32))) (st_SIOOBE_FORMATTER : Sta Z Z.heap "jdk/internal/util/Preconditions" "SIOOBE_FORMATTER" "Ljava/util/function/BiFunction;" fm) (hpi : pi = Int32.ofNat i) (hi : i < cs.length) (hle : cs.length ≤ 4) (hrng : ∀ c ∈ cs, ¬ c < 0 ∧ ¬ (65535 : Int32) < c) (hlt : ∀ c ∈ cs, ¬ (255 : Int32) < c) (hfm : fm.isRef = true) :
    MetFree l mN18 (head1 (Jvm.Cond.code mN18 jdk_43_method_2_code 2 (some .char) :: ws) rM9) (fun a U => a = #[(.ref a1), (.int pi)] ∧ Z.Warmed39 U.vm ∧ U.heap = h0) (fun _ _ _ _ _ => True) (fun _ U o U' => ∃ v L, o = .returned v ∧ Q_lchar Z a1 pi cs k i fm h0 v U'.heap L ∧ FrameEnd U o U' L rM9.cells rM9.slots) := by
  refine MetFree.of_bodySF (plainFor_of_name pn_316) hisR ?_
  intro p e s m args below meth c s₁ Bd hml0 hP hK
  obtain ⟨rfl, hZ, hh⟩ := hP
  have hx := Bd.exec
  have hby := Bd.bytes
  have hml : c.maxLocals = 2 := hml0
  have hown : s.vm.findClass "java/lang/StringLatin1" = some m.cls := findClass_of_methodNamed Bd.named
  have hnm := (name_of_methodNamed Bd.named Bd.method).1
  have X0 : Stand p l e rM9 s m #[(.ref a1), (.int pi)] below meth c s₁ [] 0 0 := Stand.of_body Bd
  have e0 : s₁.heap = h0 := by rw [← hh, Bd.state]; rfl
  have N0 := Fr.nil Z.heap.size
  have Z0 : Z.heap.size ≤ h0.size := OL.2.1
  have lt_0 : @LT.lt Nat _ a1 h0.size := p0_.lt
  show oG p.tables e below (fun o tE => ∃ v L, o = .returned v ∧ Q_lchar Z a1 pi cs k i fm h0 v tE.heap L ∧ FrameEnd s o tE L rM9.cells rM9.slots) (s₁.setTop (entryFrame m #[(.ref a1), (.int pi)] 2))
  refine own_hd (fun PP hPP => ?_)
  refine oG.st (fun t k => castTop (ef_73 m a1 pi) k) ?_
  subst hpi
  refine oG.st (fun _ k => XS.iloadN X0.here hx rfl (hb hby dj43_2_0) rfl (XS.aloadN X0.here hx rfl (hb hby dj43_2_1) rfl rfl k)) ?_
  show oG _ _ _ _ (s₁.setTop (mkF m 2 #[.val (.ref a1), .val (.int (Int32.ofNat i))] [(.ref a1), (.int (Int32.ofNat i))]))
  obtain ⟨c294, Ar294, q294, S294, Nn294, H294, G294⟩ := id p0_
  refine oG.st (X0.arraylength hx (own_rwE e0 Ar294.1) (State.isArrayOf_alike hZ.alike Ar294.2.1) (g := (mkF m 2 #[.val (.ref a1), .val (.int (Int32.ofNat i))] [(.ref a1), (.int (Int32.ofNat i))])) rfl rfl (hb hby dj43_2_2)) ?_
  rw [len_of S294 Nn294]
  show oG _ _ _ _ (s₁.setTop (mkF m 3 #[.val (.ref a1), .val (.int (Int32.ofNat i))] [(.int (Int32.ofNat cs.length)), (.int (Int32.ofNat i))]))
  obtain ⟨_, _, ⟨T295, L295, k295, n295⟩, -, X295, ⟨Lc295, hQ295, l295, y295, z295⟩, st295⟩ := Jvm.LawKit.callS X0 hx (y := mN11) hown (own_v hZ hw 193 rfl) (own_v hZ hw 182 rfl) (own_v hZ hw 11 rfl) (own_v hZ hw 183 rfl) (by decide) (backOf (W := 0) (rm_sci l Z a0 hw [] (Int32.ofNat i) (Int32.ofNat cs.length) fm h0 OL st_SIOOBE_FORMATTER (own_of0 (by omega)) ((own_oflt (by omega) (by omega)).mpr hi) hfm) hZ (own_w hw 183 rfl) (own_w hw 11 rfl) (by decide) (by decide)) (g := (mkF m 3 #[.val (.ref a1), .val (.int (Int32.ofNat i))] [(.int (Int32.ofNat cs.length)), (.int (Int32.ofNat i))])) rfl (by rw [hml]; rfl) (argsL := [(.int (Int32.ofNat i)), (.int (Int32.ofNat cs.length))]) (rest := []) (lenOf pd_204 rfl) rfl (by show 2 * 0 + _ ≤ _; exact Nat.le_of_eq rfl) (hb hby dj43_2_3) (fun _ _ => ⟨rfl, e0, (by decide : 0 + 0 ≤ _), (by decide : 0 + 0 ≤ _)⟩)
  dsimp only [Pt.U, Pt.locs, Pt.cells, Pt.slots] at X295 l295 y295 z295 st295 hQ295
  subst l295 y295 z295
  obtain ⟨rfl, N295q, K295⟩ := hQ295
  have N295 := Fr.app N0 N295q
  refine oG.st st295 ?_
  refine oG.st (fun _ k => XS.aloadN X295.here hx rfl (hb hby dj43_2_6) rfl rfl (XS.iloadN X295.here hx rfl (hb hby dj43_2_7) rfl k)) ?_
  show oG _ _ _ _ (T295.setTop (mkF m 8 #[.val (.ref a1), .val (.int (Int32.ofNat i))] [(.int (Int32.ofNat i)), (.ref a1)]))
  obtain ⟨c296, Ar296, q296, S296, Nn296, H296, G296⟩ := id p0_
  have hin296 : ¬ ((Int32.ofNat i) < 0 ∨ c296.slots.size ≤ ((Int32.ofNat i)).toNatClampNeg) := inb_of S296 ⟨own_of0 (by omega), (own_oflt (by omega) (by omega)).mpr hi⟩
  have hat296 : c296.slots[((Int32.ofNat i)).toNatClampNeg]? = some (.int (StrChars.lo8 (cs.getD i 0))) := H296.at hin296 (own_lowAt hi (by omega) _)
  refine oG.st (X295.baloadBytes hx (j := (Int32.ofNat i)) (v := (.int (StrChars.lo8 (cs.getD i 0)))) (own_rwE K295 Ar296.1) (State.isArrayOf_alike hZ.alike Ar296.2.1) Ar296.2.2 hin296 hat296 (g := (mkF m 8 #[.val (.ref a1), .val (.int (Int32.ofNat i))] [(.int (Int32.ofNat i)), (.ref a1)])) rfl rfl (hb hby dj43_2_8)) ?_
  refine oG.st (fun _ k => XS.sipush X295.here hx rfl (hb hby dj43_2_9) (XS.iand X295.here hx rfl (hb hby dj43_2_12) rfl (XS.i2c X295.here hx rfl (hb hby dj43_2_13) rfl k))) ?_
  show oG _ _ _ _ (T295.setTop (mkF m 14 #[.val (.ref a1), .val (.int (Int32.ofNat i))] [(.int (((StrChars.lo8 (cs.getD i 0)) &&& (255 : Int32)).toUInt32.toUInt16.toUInt32.toInt32))]))
  obtain ⟨fs297, hr297, hrun297, hend297, hW297, hsm297⟩ := X295.leave (v := some (.int (nar .char (((StrChars.lo8 (cs.getD i 0)) &&& (255 : Int32)).toUInt32.toUInt16.toUInt32.toInt32)))) (fun h => by rw [Bd.returns] at h; cases h)
  subst hPP
  refine ⟨_, _, retN X295 hx (t := .char) Bd.returns (by simp) (hb hby dj43_2_14) hr297, hrun297, hend297, _, _, rfl, ?_, ⟨_, rfl⟩, hW297, hsm297.mono (by decide) (by decide)⟩
  · show Q_lchar Z _ _ _ _ _ _ h0 _ T295.heap _
    rw [K295]
    exact ⟨(by rw [own_latC hi hlt hrng]), N295, rfl⟩
theorem dj42_56_0 : decode cJ12 0 = .ok (.aload_n 0, 1) := by decide +kernel
theorem pd_329 : parseMethodDescriptor "()Z" = some ⟨[], some .boolean⟩ := by decide +kernel
theorem dj42_56_1 : decode cJ12 1 = .ok (.invokevirtual 492, 3) := by decide +kernel
theorem dj42_56_4 : decode cJ12 4 = .ok (.ifCond .eq 12, 3) := by decide +kernel
theorem dj42_56_7 : decode cJ12 7 = .ok (.aload_n 0, 1) := by decide +kernel
theorem dj42_56_8 : decode cJ12 8 = .ok (.getfield 9, 3) := by decide +kernel
theorem dj42_56_11 : decode cJ12 11 = .ok (.iload_n 1, 1) := by decide +kernel
theorem dj42_56_12 : decode cJ12 12 = .ok (.invokestatic 495, 3) := by decide +kernel
theorem dj42_56_15 : decode cJ12 15 = .ok (.ireturn, 1) := by decide +kernel
theorem dj42_56_16 : decode cJ12 16 = .ok (.aload_n 0, 1) := by decide +kernel
theorem dj42_56_17 : decode cJ12 17 = .ok (.getfield 9, 3) := by decide +kernel
theorem dj42_56_20 : decode cJ12 20 = .ok (.iload_n 1, 1) := by decide +kernel
theorem dj42_56_21 : decode cJ12 21 = .ok (.invokestatic 498, 3) := by decide +kernel
theorem dj42_56_24 : decode cJ12 24 = .ok (.ireturn, 1) := by decide +kernel
def Q_charAt2 (Z : State) (a1 : Nat) (pi : Int32) (t1 : Nat) (cs : List Int32) (zc : Int32) (i : Nat) (fm : Value) (h0 : Heap) (v : Option Value) (h : Heap) (L : List Loc) : Prop := v = some (.int (cs.getD i 0)) ∧ Fr Z.heap.size L ∧ h = h0
set_option maxRecDepth 65536 in
set_option maxHeartbeats 40000000 in
theorem rm_charAt2 (l : Launch) (Z : State) (a0 : Array Value) (hw : ∀ d ∈ tables_1, d.before a0 Z = true) (ws : List Jvm.Cond) (a1 : Nat) (pi : Int32) (t1 : Nat) (cs : List Int32) (zc : Int32) (i : Nat) (fm : Value) (h0 : Heap) (OL : Old Z Z.heap.size h0) (p0_ : own_Str Z h0 a1 t1 cs) (st_C : Sta Z Z.heap "java/lang/String" "COMPACT_STRINGS" "Z" (.int zc)) (st_SIOOBE_FORMATTER : Sta Z Z.heap "jdk/internal/util/Preconditions" "SIOOBE_FORMATTER" "Ljava/util/function/BiFunction;" fm) (st_A : Sta Z Z.heap "java/lang/StringUTF16" "$assertionsDisabled" "Z" (.int (1 : Int32))) (st_H : Sta Z Z.heap "java/lang/StringUTF16" "HI_BYTE_SHIFT" "I" (.int (0 : Int32))) (st_L : Sta Z Z.heap "java/lang/StringUTF16" "LO_BYTE_SHIFT" "I" (.int (8 : Int32))) (hpi : pi = Int32.ofNat i) (hi : i < cs.length) (hle : cs.length ≤ 4) (hzc : ¬ zc = 0) (hfm : fm.isRef = true) :
    MetFree l mN8 (head1 (Jvm.Cond.code mN8 jdk_42_method_56_code 2 (some .char) :: ws) rM19) (fun a U => a = #[(.ref a1), (.int pi)] ∧ Z.Warmed39 U.vm ∧ U.heap = h0) (fun _ _ _ _ _ => True) (fun _ U o U' => ∃ v L, o = .returned v ∧ Q_charAt2 Z a1 pi t1 cs zc i fm h0 v U'.heap L ∧ FrameEnd U o U' L rM19.cells rM19.slots) := by
  refine MetFree.of_bodySF (plainFor_of_name pn_0) hisR ?_
  intro p e s m args below meth c s₁ Bd hml0 hP hK
  obtain ⟨rfl, hZ, hh⟩ := hP
  have hx := Bd.exec
  have hby := Bd.bytes
  have hml : c.maxLocals = 2 := hml0
  have hown : s.vm.findClass "java/lang/String" = some m.cls := findClass_of_methodNamed Bd.named
  have hnm := (name_of_methodNamed Bd.named Bd.method).1
  have X0 : Stand p l e rM19 s m #[(.ref a1), (.int pi)] below meth c s₁ [] 0 0 := Stand.of_body Bd
  have e0 : s₁.heap = h0 := by rw [← hh, Bd.state]; rfl
  have N0 := Fr.nil Z.heap.size
  have Z0 : Z.heap.size ≤ h0.size := OL.2.1
  have lt_0 : @LT.lt Nat _ a1 h0.size := p0_.lt
  have ltv_0 : @LT.lt Nat _ t1 h0.size := p0_.ltv
  show oG p.tables e below (fun o tE => ∃ v L, o = .returned v ∧ Q_charAt2 Z a1 pi t1 cs zc i fm h0 v tE.heap L ∧ FrameEnd s o tE L rM19.cells rM19.slots) (s₁.setTop (entryFrame m #[(.ref a1), (.int pi)] 2))
  refine own_hd (fun PP hPP => ?_)
  refine oG.st (fun t k => castTop (ef_73 m a1 pi) k) ?_
  subst hpi
  obtain ⟨kb298, cd298, N2298, vs298, s1298, s2298, s3298, s4298, s5298, s6298, s7298⟩ := id p0_
  rcases s5298 with ⟨rfl, hN298, hv298, hl298⟩ | ⟨rfl, hN298, hv298, hl298⟩
  ·
    subst hN298 hv298
    refine oG.st (fun _ k => XS.aloadN X0.here hx rfl (hb hby dj42_56_0) rfl rfl k) ?_
    show oG _ _ _ _ (s₁.setTop (mkF m 1 #[.val (.ref a1), .val (.int (Int32.ofNat i))] [(.ref a1)]))
    obtain ⟨cq299, kq299, q299a, q299b, q299c⟩ := isOf hZ e0 s1298
    obtain ⟨_, _, ⟨T299, L299, k299, n299⟩, -, X299, ⟨Lc299, hQ299, l299, y299, z299⟩, st299⟩ := X0.virtualBack hx (y := mN12) (z := mN12) hown (own_v hZ hw 60 rfl) (own_v hZ hw 61 rfl) (notFace_of_selects (args := #[]) (own_v hZ hw 63 rfl)) (own_v hZ hw 63 rfl) (own_v hZ hw 62 rfl) (by decide) (backOf (W := 0) (rm_isl1 l Z a0 hw [] a1 (0 : Int32) zc h0 OL s3298 st_C hzc) hZ (own_w hw 64 rfl) (own_w hw 11 rfl) (by decide) (by decide)) q299a q299c (g := (mkF m 1 #[.val (.ref a1), .val (.int (Int32.ofNat i))] [(.ref a1)])) rfl (by rw [hml]; rfl) (Steps.refl _) (argsL := []) (rest := []) (lenOf pd_329 rfl) rfl (by show 2 * 0 + _ ≤ _; exact Nat.le_of_eq rfl) (hb hby dj42_56_1) (fun _ _ => ⟨rfl, e0, (by decide : 0 + 0 ≤ _), (by decide : 0 + 0 ≤ _)⟩)
    dsimp only [Pt.U, Pt.locs, Pt.cells, Pt.slots] at X299 l299 y299 z299 st299 hQ299
    subst l299 y299 z299
    obtain ⟨rfl, N299q, K299⟩ := hQ299
    have N299 := Fr.app N0 N299q
    refine oG.tr st299 ?_
    show oG _ _ _ _ (T299.setTop (mkF m 4 #[.val (.ref a1), .val (.int (Int32.ofNat i))] [(.int (if (0 : Int32) = 0 then (1 : Int32) else 0))]))
    have hc300 : ¬ ((if (0 : Int32) = 0 then (1 : Int32) else 0) = (0 : Int32)) := by decide
    refine oG.st (fun _ k => XS.ifNo X299.here hx rfl (hb hby dj42_56_4) rfl ((if0 _ _).trans (feq hc300).1) k) ?_
    refine oG.st (fun _ k => XS.aloadN X299.here hx rfl (hb hby dj42_56_7) rfl rfl k) ?_
    show oG _ _ _ _ (T299.setTop (mkF m 8 #[.val (.ref a1), .val (.int (Int32.ofNat i))] [(.ref a1)]))
    obtain ⟨T301, X301, e301, st301⟩ := getF X299 hx hZ hown (host := "") (Or.inl (own_w hw 29 rfl)) Via.refl K299 s2298 (g := (mkF m 8 #[.val (.ref a1), .val (.int (Int32.ofNat i))] [(.ref a1)])) rfl rfl (hb hby dj42_56_8)
    refine oG.st st301 ?_
    refine oG.st (fun _ k => XS.iloadN X301.here hx rfl (hb hby dj42_56_11) rfl k) ?_
    show oG _ _ _ _ (T301.setTop (mkF m 12 #[.val (.ref a1), .val (.int (Int32.ofNat i))] [(.int (Int32.ofNat i)), (.ref t1)]))
    obtain ⟨_, _, ⟨T302, L302, k302, n302⟩, -, X302, ⟨Lc302, hQ302, l302, y302, z302⟩, st302⟩ := Jvm.LawKit.callS X301 hx (y := mN18) hown (own_v hZ hw 190 rfl) (own_v hZ hw 191 rfl) (own_v hZ hw 67 rfl) (own_v hZ hw 192 rfl) (by decide) (backOf (W := 0) (rm_lchar l Z a0 hw [] t1 (Int32.ofNat i) cs kb298 i fm h0 OL s4298 st_SIOOBE_FORMATTER rfl hi hle p0_.rng hl298 hfm) hZ (own_w hw 192 rfl) (own_w hw 67 rfl) (by decide) (by decide)) (g := (mkF m 12 #[.val (.ref a1), .val (.int (Int32.ofNat i))] [(.int (Int32.ofNat i)), (.ref t1)])) rfl (by rw [hml]; rfl) (argsL := [(.ref t1), (.int (Int32.ofNat i))]) (rest := []) (lenOf pd_158 rfl) rfl (by show 2 * 0 + _ ≤ _; exact Nat.le_of_eq rfl) (hb hby dj42_56_12) (fun _ _ => ⟨rfl, e301, (by decide : 0 + 0 ≤ _), (by decide : 0 + 0 ≤ _)⟩)
    dsimp only [Pt.U, Pt.locs, Pt.cells, Pt.slots] at X302 l302 y302 z302 st302 hQ302
    subst l302 y302 z302
    obtain ⟨rfl, N302q, K302⟩ := hQ302
    have N302 := Fr.app N299 N302q
    refine oG.st st302 ?_
    show oG _ _ _ _ (T302.setTop (mkF m 15 #[.val (.ref a1), .val (.int (Int32.ofNat i))] [(.int (cs.getD i 0))]))
    obtain ⟨fs303, hr303, hrun303, hend303, hW303, hsm303⟩ := X302.leave (v := some (.int (nar .char (cs.getD i 0)))) (fun h => by rw [Bd.returns] at h; cases h)
    subst hPP
    refine ⟨_, _, retN X302 hx (t := .char) Bd.returns (by simp) (hb hby dj42_56_15) hr303, hrun303, hend303, _, _, rfl, ?_, ⟨_, rfl⟩, hW303, hsm303.mono (by decide) (by decide)⟩
    · show Q_charAt2 Z _ _ _ _ _ _ _ h0 _ T302.heap _
      rw [K302]
      exact ⟨(by rw [own_nar (p0_.rng _ (own_mem hi))]), N302, rfl⟩
  ·
    subst hN298 hv298
    refine oG.st (fun _ k => XS.aloadN X0.here hx rfl (hb hby dj42_56_0) rfl rfl k) ?_
    show oG _ _ _ _ (s₁.setTop (mkF m 1 #[.val (.ref a1), .val (.int (Int32.ofNat i))] [(.ref a1)]))
    obtain ⟨cq304, kq304, q304a, q304b, q304c⟩ := isOf hZ e0 s1298
    obtain ⟨_, _, ⟨T304, L304, k304, n304⟩, -, X304, ⟨Lc304, hQ304, l304, y304, z304⟩, st304⟩ := X0.virtualBack hx (y := mN12) (z := mN12) hown (own_v hZ hw 60 rfl) (own_v hZ hw 61 rfl) (notFace_of_selects (args := #[]) (own_v hZ hw 63 rfl)) (own_v hZ hw 63 rfl) (own_v hZ hw 62 rfl) (by decide) (backOf (W := 0) (rm_isl1 l Z a0 hw [] a1 (1 : Int32) zc h0 OL s3298 st_C hzc) hZ (own_w hw 64 rfl) (own_w hw 11 rfl) (by decide) (by decide)) q304a q304c (g := (mkF m 1 #[.val (.ref a1), .val (.int (Int32.ofNat i))] [(.ref a1)])) rfl (by rw [hml]; rfl) (Steps.refl _) (argsL := []) (rest := []) (lenOf pd_329 rfl) rfl (by show 2 * 0 + _ ≤ _; exact Nat.le_of_eq rfl) (hb hby dj42_56_1) (fun _ _ => ⟨rfl, e0, (by decide : 0 + 0 ≤ _), (by decide : 0 + 0 ≤ _)⟩)
    dsimp only [Pt.U, Pt.locs, Pt.cells, Pt.slots] at X304 l304 y304 z304 st304 hQ304
    subst l304 y304 z304
    obtain ⟨rfl, N304q, K304⟩ := hQ304
    have N304 := Fr.app N0 N304q
    refine oG.tr st304 ?_
    show oG _ _ _ _ (T304.setTop (mkF m 4 #[.val (.ref a1), .val (.int (Int32.ofNat i))] [(.int (if (1 : Int32) = 0 then (1 : Int32) else 0))]))
    have hc305 : (if (1 : Int32) = 0 then (1 : Int32) else 0) = (0 : Int32) := by decide
    refine oG.st (fun _ k => XS.ifYes X304.here hx rfl (pc0 := 4) (pc' := 16) rfl (hb hby dj42_56_4) rfl ((if0 _ _).trans (teq hc305).1) (by decide) (by decide) k) ?_
    refine oG.st (fun _ k => XS.aloadN X304.here hx rfl (hb hby dj42_56_16) rfl rfl k) ?_
    show oG _ _ _ _ (T304.setTop (mkF m 17 #[.val (.ref a1), .val (.int (Int32.ofNat i))] [(.ref a1)]))
    obtain ⟨T306, X306, e306, st306⟩ := getF X304 hx hZ hown (host := "") (Or.inl (own_w hw 29 rfl)) Via.refl K304 s2298 (g := (mkF m 17 #[.val (.ref a1), .val (.int (Int32.ofNat i))] [(.ref a1)])) rfl rfl (hb hby dj42_56_17)
    refine oG.st st306 ?_
    refine oG.st (fun _ k => XS.iloadN X306.here hx rfl (hb hby dj42_56_20) rfl k) ?_
    show oG _ _ _ _ (T306.setTop (mkF m 21 #[.val (.ref a1), .val (.int (Int32.ofNat i))] [(.int (Int32.ofNat i)), (.ref t1)]))
    obtain ⟨_, _, ⟨T307, L307, k307, n307⟩, -, X307, ⟨Lc307, hQ307, l307, y307, z307⟩, st307⟩ := Jvm.LawKit.callS X306 hx (y := mN21) hown (own_v hZ hw 175 rfl) (own_v hZ hw 176 rfl) (own_v hZ hw 92 rfl) (own_v hZ hw 177 rfl) (by decide) (backOf (W := 0) (rm_uchar l Z a0 hw [] t1 (Int32.ofNat i) cs kb298 i fm h0 OL s4298 st_SIOOBE_FORMATTER st_A st_H st_L rfl hi hle p0_.rng hfm) hZ (own_w hw 177 rfl) (own_w hw 92 rfl) (by decide) (by decide)) (g := (mkF m 21 #[.val (.ref a1), .val (.int (Int32.ofNat i))] [(.int (Int32.ofNat i)), (.ref t1)])) rfl (by rw [hml]; rfl) (argsL := [(.ref t1), (.int (Int32.ofNat i))]) (rest := []) (lenOf pd_158 rfl) rfl (by show 2 * 0 + _ ≤ _; exact Nat.le_of_eq rfl) (hb hby dj42_56_21) (fun _ _ => ⟨rfl, e306, (by decide : 0 + 0 ≤ _), (by decide : 0 + 0 ≤ _)⟩)
    dsimp only [Pt.U, Pt.locs, Pt.cells, Pt.slots] at X307 l307 y307 z307 st307 hQ307
    subst l307 y307 z307
    obtain ⟨rfl, N307q, K307⟩ := hQ307
    have N307 := Fr.app N304 N307q
    refine oG.st st307 ?_
    show oG _ _ _ _ (T307.setTop (mkF m 24 #[.val (.ref a1), .val (.int (Int32.ofNat i))] [(.int (cs.getD i 0))]))
    obtain ⟨fs308, hr308, hrun308, hend308, hW308, hsm308⟩ := X307.leave (v := some (.int (nar .char (cs.getD i 0)))) (fun h => by rw [Bd.returns] at h; cases h)
    subst hPP
    refine ⟨_, _, retN X307 hx (t := .char) Bd.returns (by simp) (hb hby dj42_56_24) hr308, hrun308, hend308, _, _, rfl, ?_, ⟨_, rfl⟩, hW308, hsm308.mono (by decide) (by decide)⟩
    · show Q_charAt2 Z _ _ _ _ _ _ _ h0 _ T307.heap _
      rw [K307]
      exact ⟨(by rw [own_nar (p0_.rng _ (own_mem hi))]), N307, rfl⟩
theorem dj29_65_0 : decode cJ0 0 = .ok (.iload_n 0, 1) := by decide +kernel
theorem dj29_65_1 : decode cJ0 1 = .ok (.iload_n 1, 1) := by decide +kernel
theorem dj29_65_2 : decode cJ0 2 = .ok (.if_icmp .lt 7, 3) := by decide +kernel
theorem dj29_65_9 : decode cJ0 9 = .ok (.iload_n 1, 1) := by decide +kernel
theorem dj29_65_10 : decode cJ0 10 = .ok (.ireturn, 1) := by decide +kernel
theorem dj29_65_5 : decode cJ0 5 = .ok (.iload_n 0, 1) := by decide +kernel
theorem dj29_65_6 : decode cJ0 6 = .ok (.goto 4, 3) := by decide +kernel
def Q_mmax (Z : State) (p1 : Int32) (p2 : Int32) (h0 : Heap) (v : Option Value) (h : Heap) (L : List Loc) : Prop := v = some (.int (if p1 < p2 then p2 else p1)) ∧ Fr Z.heap.size L ∧ h = h0
set_option maxRecDepth 65536 in
set_option maxHeartbeats 40000000 in
theorem rm_mmax (l : Launch) (Z : State) (a0 : Array Value) (hw : ∀ d ∈ tables_1, d.before a0 Z = true) (ws : List Jvm.Cond) (p1 : Int32) (p2 : Int32) (h0 : Heap) (OL : Old Z Z.heap.size h0) :
    MetFree l mN3 (head1 (Jvm.Cond.code mN3 jdk_29_method_65_code 2 (some .int) :: ws) rM0) (fun a U => a = #[(.int p1), (.int p2)] ∧ Z.Warmed39 U.vm ∧ U.heap = h0) (fun _ _ _ _ _ => True) (fun _ U o U' => ∃ v L, o = .returned v ∧ Q_mmax Z p1 p2 h0 v U'.heap L ∧ FrameEnd U o U' L rM0.cells rM0.slots) := by
  refine MetFree.of_bodySF (by decide +kernel) hisR ?_
  intro p e s m args below meth c s₁ Bd hml0 hP hK
  obtain ⟨rfl, hZ, hh⟩ := hP
  have hx := Bd.exec
  have hby := Bd.bytes
  have hml : c.maxLocals = 2 := hml0
  have hown : s.vm.findClass "java/lang/Math" = some m.cls := findClass_of_methodNamed Bd.named
  have hnm := (name_of_methodNamed Bd.named Bd.method).1
  have X0 : Stand p l e rM0 s m #[(.int p1), (.int p2)] below meth c s₁ [] 0 0 := Stand.of_body Bd
  have e0 : s₁.heap = h0 := by rw [← hh, Bd.state]; rfl
  have N0 := Fr.nil Z.heap.size
  have Z0 : Z.heap.size ≤ h0.size := OL.2.1
  show oG p.tables e below (fun o tE => ∃ v L, o = .returned v ∧ Q_mmax Z p1 p2 h0 v tE.heap L ∧ FrameEnd s o tE L rM0.cells rM0.slots) (s₁.setTop (entryFrame m #[(.int p1), (.int p2)] 2))
  refine own_hd (fun PP hPP => ?_)
  refine oG.st (fun t k => castTop (ef_189 m p1 p2) k) ?_
  refine oG.st (fun _ k => XS.iloadN X0.here hx rfl (hb hby dj29_65_0) rfl (XS.iloadN X0.here hx rfl (hb hby dj29_65_1) rfl k)) ?_
  show oG _ _ _ _ (s₁.setTop (mkF m 2 #[.val (.int p1), .val (.int p2)] [(.int p2), (.int p1)]))
  by_cases hc309 : p1 < p2
  ·
    refine oG.st (fun _ k => XS.icmpYes X0.here hx rfl (pc0 := 2) (pc' := 9) rfl (hb hby dj29_65_2) rfl (tlt hc309).1 (by decide) (by decide) k) ?_
    refine oG.st (fun _ k => XS.iloadN X0.here hx rfl (hb hby dj29_65_9) rfl k) ?_
    show oG _ _ _ _ (s₁.setTop (mkF m 10 #[.val (.int p1), .val (.int p2)] [(.int p2)]))
    obtain ⟨fs310, hr310, hrun310, hend310, hW310, hsm310⟩ := X0.leave (v := some (.int p2)) (fun h => by rw [Bd.returns] at h; cases h)
    subst hPP
    refine ⟨_, _, own_retI X0 hx Bd.returns (hb hby dj29_65_10) hr310, hrun310, hend310, _, _, rfl, ?_, ⟨_, rfl⟩, hW310, hsm310.mono (by decide) (by decide)⟩
    · show Q_mmax Z _ _ h0 _ s₁.heap _
      rw [e0]
      exact ⟨(by rw [if_pos hc309]), N0, rfl⟩
  ·
    refine oG.st (fun _ k => XS.icmpNo X0.here hx rfl (hb hby dj29_65_2) rfl (flt hc309).1 k) ?_
    refine oG.st (fun _ k => XS.iloadN X0.here hx rfl (hb hby dj29_65_5) rfl (XS.goto X0.here hx rfl (pc0 := 6) (pc' := 10) rfl (hb hby dj29_65_6) (by decide) (by decide) k)) ?_
    show oG _ _ _ _ (s₁.setTop (mkF m 10 #[.val (.int p1), .val (.int p2)] [(.int p1)]))
    obtain ⟨fs311, hr311, hrun311, hend311, hW311, hsm311⟩ := X0.leave (v := some (.int p1)) (fun h => by rw [Bd.returns] at h; cases h)
    subst hPP
    refine ⟨_, _, own_retI X0 hx Bd.returns (hb hby dj29_65_10) hr311, hrun311, hend311, _, _, rfl, ?_, ⟨_, rfl⟩, hW311, hsm311.mono (by decide) (by decide)⟩
    · show Q_mmax Z _ _ h0 _ s₁.heap _
      rw [e0]
      exact ⟨(by rw [if_neg hc309]), N0, rfl⟩
theorem dj43_4_0 : decode cJ19 0 = .ok (.iload_n 0, 1) := by decide +kernel
theorem dj43_4_1 : decode cJ19 1 = .ok (.ifCond .lt 14, 3) := by decide +kernel
theorem dj43_4_4 : decode cJ19 4 = .ok (.iload_n 0, 1) := by decide +kernel
theorem dj43_4_5 : decode cJ19 5 = .ok (.sipush 255, 3) := by decide +kernel
theorem dj43_4_8 : decode cJ19 8 = .ok (.if_icmp .gt 7, 3) := by decide +kernel
theorem dj43_4_11 : decode cJ19 11 = .ok (.iconst 1, 1) := by decide +kernel
theorem dj43_4_12 : decode cJ19 12 = .ok (.goto 4, 3) := by decide +kernel
theorem dj43_4_16 : decode cJ19 16 = .ok (.ireturn, 1) := by decide +kernel
def Q_canEncI (Z : State)  (h0 : Heap) (v : Option Value) (h : Heap) (L : List Loc) : Prop := v = some (.int (1 : Int32)) ∧ Fr Z.heap.size L ∧ h = h0
set_option maxRecDepth 65536 in
set_option maxHeartbeats 40000000 in
theorem rm_canEncI (l : Launch) (Z : State) (a0 : Array Value) (hw : ∀ d ∈ tables_1, d.before a0 Z = true) (ws : List Jvm.Cond)  (h0 : Heap) (OL : Old Z Z.heap.size h0) :
    MetFree l mN17 (head1 (Jvm.Cond.code mN17 jdk_43_method_4_code 1 (some .boolean) :: ws) rM0) (fun a U => a = #[(.int (46 : Int32))] ∧ Z.Warmed39 U.vm ∧ U.heap = h0) (fun _ _ _ _ _ => True) (fun _ U o U' => ∃ v L, o = .returned v ∧ Q_canEncI Z  h0 v U'.heap L ∧ FrameEnd U o U' L rM0.cells rM0.slots) := by
  refine MetFree.of_bodySF (plainFor_of_name pn_316) hisR ?_
  intro p e s m args below meth c s₁ Bd hml0 hP hK
  obtain ⟨rfl, hZ, hh⟩ := hP
  have hx := Bd.exec
  have hby := Bd.bytes
  have hml : c.maxLocals = 1 := hml0
  have hown : s.vm.findClass "java/lang/StringLatin1" = some m.cls := findClass_of_methodNamed Bd.named
  have hnm := (name_of_methodNamed Bd.named Bd.method).1
  have X0 : Stand p l e rM0 s m #[(.int (46 : Int32))] below meth c s₁ [] 0 0 := Stand.of_body Bd
  have e0 : s₁.heap = h0 := by rw [← hh, Bd.state]; rfl
  have N0 := Fr.nil Z.heap.size
  have Z0 : Z.heap.size ≤ h0.size := OL.2.1
  show oG p.tables e below (fun o tE => ∃ v L, o = .returned v ∧ Q_canEncI Z  h0 v tE.heap L ∧ FrameEnd s o tE L rM0.cells rM0.slots) (s₁.setTop (entryFrame m #[(.int (46 : Int32))] 1))
  refine own_hd (fun PP hPP => ?_)
  refine oG.st (fun t k => castTop (ef_98 m (46 : Int32)) k) ?_
  refine oG.st (fun _ k => XS.iloadN X0.here hx rfl (hb hby dj43_4_0) rfl k) ?_
  show oG _ _ _ _ (s₁.setTop (mkF m 1 #[.val (.int (46 : Int32))] [(.int (46 : Int32))]))
  have hc312 : ¬ ((46 : Int32) < (0 : Int32)) := by decide
  refine oG.st (fun _ k => XS.ifNo X0.here hx rfl (hb hby dj43_4_1) rfl ((if0 _ _).trans (flt hc312).1) k) ?_
  refine oG.st (fun _ k => XS.iloadN X0.here hx rfl (hb hby dj43_4_4) rfl (XS.sipush X0.here hx rfl (hb hby dj43_4_5) k)) ?_
  show oG _ _ _ _ (s₁.setTop (mkF m 8 #[.val (.int (46 : Int32))] [(.int (255 : Int32)), (.int (46 : Int32))]))
  have hc313 : ¬ ((255 : Int32) < (46 : Int32)) := by decide
  refine oG.st (fun _ k => XS.icmpNo X0.here hx rfl (hb hby dj43_4_8) rfl (flt hc313).2.2.1 k) ?_
  refine oG.st (fun _ k => XS.iconst X0.here hx rfl (hb hby dj43_4_11) (XS.goto X0.here hx rfl (pc0 := 12) (pc' := 16) rfl (hb hby dj43_4_12) (by decide) (by decide) k)) ?_
  show oG _ _ _ _ (s₁.setTop (mkF m 16 #[.val (.int (46 : Int32))] [(.int (1 : Int32))]))
  obtain ⟨fs314, hr314, hrun314, hend314, hW314, hsm314⟩ := X0.leave (v := some (.int (nar .boolean (1 : Int32)))) (fun h => by rw [Bd.returns] at h; cases h)
  subst hPP
  refine ⟨_, _, retN X0 hx (t := .boolean) Bd.returns (by simp) (hb hby dj43_4_16) hr314, hrun314, hend314, _, _, rfl, ?_, ⟨_, rfl⟩, hW314, hsm314.mono (by decide) (by decide)⟩
  · show Q_canEncI Z  h0 _ s₁.heap _
    rw [e0]
    exact ⟨rfl, N0, rfl⟩

theorem own_loY46 {cs : List Int32} {i : Nat} (hi : i < cs.length) (hl : ∀ c ∈ cs, ¬ (255 : Int32) < c) (hr : ∀ c ∈ cs, ¬ c < 0 ∧ ¬ (65535 : Int32) < c) (h : (StrChars.lo8 (cs.getD i 0)) = ((46 : Int32).toInt8.toInt32)) : cs.getD i 0 = 46 :=
  StrChars.lo8_inj (hr _ (own_mem hi)).1 (hl _ (own_mem hi)) (by decide) (by decide) h

theorem ef_357 (m : MethodId) (x0 : Nat) (x1 : Int32) (x2 : Int32) : entryFrame m #[(.ref x0), (.int x1), (.int x2)] 4 = mkF m 0 #[.val (.ref x0), .val (.int x1), .val (.int x2), .unset] [] := by first | (simp [entryFrame, mkF, argsToLocals, Value.category]; done) | rfl
theorem dj43_27_0 : decode cJ16 0 = .ok (.iload_n 1, 1) := by decide +kernel
theorem pd_359 : parseMethodDescriptor "(I)Z" = some ⟨[.int], some .boolean⟩ := by decide +kernel
theorem dj43_27_1 : decode cJ16 1 = .ok (.invokestatic 88, 3) := by decide +kernel
theorem dj43_27_4 : decode cJ16 4 = .ok (.ifCond .ne 5, 3) := by decide +kernel
theorem dj43_27_9 : decode cJ16 9 = .ok (.iload_n 2, 1) := by decide +kernel
theorem dj43_27_10 : decode cJ16 10 = .ok (.aload_n 0, 1) := by decide +kernel
theorem dj43_27_11 : decode cJ16 11 = .ok (.arraylength, 1) := by decide +kernel
theorem dj43_27_12 : decode cJ16 12 = .ok (.iconst 1, 1) := by decide +kernel
theorem dj43_27_13 : decode cJ16 13 = .ok (.isub, 1) := by decide +kernel
theorem dj43_27_14 : decode cJ16 14 = .ok (.invokestatic 38, 3) := by decide +kernel
theorem dj43_27_17 : decode cJ16 17 = .ok (.istore_n 3, 1) := by decide +kernel
theorem dj43_27_18 : decode cJ16 18 = .ok (.iload_n 3, 1) := by decide +kernel
theorem dj43_27_19 : decode cJ16 19 = .ok (.ifCond .lt 19, 3) := by decide +kernel
theorem dj43_27_38 : decode cJ16 38 = .ok (.iconst (-1), 1) := by decide +kernel
theorem dj43_27_39 : decode cJ16 39 = .ok (.ireturn, 1) := by decide +kernel
theorem dj43_27_22 : decode cJ16 22 = .ok (.aload_n 0, 1) := by decide +kernel
theorem dj43_27_23 : decode cJ16 23 = .ok (.iload_n 3, 1) := by decide +kernel
theorem dj43_27_24 : decode cJ16 24 = .ok (.baload, 1) := by decide +kernel
theorem dj43_27_25 : decode cJ16 25 = .ok (.iload_n 1, 1) := by decide +kernel
theorem dj43_27_26 : decode cJ16 26 = .ok (.i2b, 1) := by decide +kernel
theorem dj43_27_27 : decode cJ16 27 = .ok (.if_icmp .ne 5, 3) := by decide +kernel
theorem dj43_27_30 : decode cJ16 30 = .ok (.iload_n 3, 1) := by decide +kernel
theorem dj43_27_31 : decode cJ16 31 = .ok (.ireturn, 1) := by decide +kernel
theorem dj43_27_32 : decode cJ16 32 = .ok (.iinc 3 (-1), 3) := by decide +kernel
theorem dj43_27_35 : decode cJ16 35 = .ok (.goto (-17), 3) := by decide +kernel
def Q_l1last (Z : State) (a1 : Nat) (p3 : Int32) (cs : List Int32) (k : ClassId) (h0 : Heap) (v : Option Value) (h : Heap) (L : List Loc) : Prop := ∃ (st : Nat), v = some (.int ((Int32.ofNat st) - (1 : Int32))) ∧ Fr Z.heap.size L ∧ h = h0 ∧ (own_Ld cs 46 st)
set_option maxRecDepth 65536 in
set_option maxHeartbeats 40000000 in
theorem rm_l1last (l : Launch) (Z : State) (a0 : Array Value) (hw : ∀ d ∈ tables_1, d.before a0 Z = true) (ws : List Jvm.Cond) (a1 : Nat) (p3 : Int32) (cs : List Int32) (k : ClassId) (h0 : Heap) (OL : Old Z Z.heap.size h0) (p0_ : Arv Z h0 a1 k .byte (Int32.ofNat cs.length) (own_low cs) (.int (0 : Int32))) (hle : cs.length ≤ 4) (hp3 : p3 = ((Int32.ofNat cs.length) - (1 : Int32))) (hrng : ∀ c ∈ cs, ¬ c < 0 ∧ ¬ (65535 : Int32) < c) (hlt : ∀ c ∈ cs, ¬ (255 : Int32) < c) :
    MetFree l mN19 (head1 (Jvm.Cond.code mN19 jdk_43_method_27_code 4 (some .int) :: ws) rM2) (fun a U => a = #[(.ref a1), (.int (46 : Int32)), (.int p3)] ∧ Z.Warmed39 U.vm ∧ U.heap = h0) (fun _ _ _ _ _ => True) (fun _ U o U' => ∃ v L, o = .returned v ∧ Q_l1last Z a1 p3 cs k h0 v U'.heap L ∧ FrameEnd U o U' L rM2.cells rM2.slots) := by
  refine MetFree.of_bodySF (plainFor_of_name pn_316) hisR ?_
  intro p e s m args below meth c s₁ Bd hml0 hP hK
  obtain ⟨rfl, hZ, hh⟩ := hP
  have hx := Bd.exec
  have hby := Bd.bytes
  have hml : c.maxLocals = 4 := hml0
  have hown : s.vm.findClass "java/lang/StringLatin1" = some m.cls := findClass_of_methodNamed Bd.named
  have hnm := (name_of_methodNamed Bd.named Bd.method).1
  have X0 : Stand p l e rM2 s m #[(.ref a1), (.int (46 : Int32)), (.int p3)] below meth c s₁ [] 0 0 := Stand.of_body Bd
  have e0 : s₁.heap = h0 := by rw [← hh, Bd.state]; rfl
  have N0 := Fr.nil Z.heap.size
  have Z0 : Z.heap.size ≤ h0.size := OL.2.1
  have lt_0 : @LT.lt Nat _ a1 h0.size := p0_.lt
  show oG p.tables e below (fun o tE => ∃ v L, o = .returned v ∧ Q_l1last Z a1 p3 cs k h0 v tE.heap L ∧ FrameEnd s o tE L rM2.cells rM2.slots) (s₁.setTop (entryFrame m #[(.ref a1), (.int (46 : Int32)), (.int p3)] 4))
  refine own_hd (fun PP hPP => ?_)
  refine oG.st (fun t k => castTop (ef_357 m a1 (46 : Int32) p3) k) ?_
  subst hp3
  refine oG.st (fun _ k => XS.iloadN X0.here hx rfl (hb hby dj43_27_0) rfl k) ?_
  show oG _ _ _ _ (s₁.setTop (mkF m 1 #[.val (.ref a1), .val (.int (46 : Int32)), .val (.int ((Int32.ofNat cs.length) - (1 : Int32))), .unset] [(.int (46 : Int32))]))
  obtain ⟨_, _, ⟨T315, L315, k315, n315⟩, -, X315, ⟨Lc315, hQ315, l315, y315, z315⟩, st315⟩ := Jvm.LawKit.callS X0 hx (y := mN17) hown (own_v hZ hw 69 rfl) (own_v hZ hw 70 rfl) (own_v hZ hw 67 rfl) (own_v hZ hw 71 rfl) (by decide) (backOf (W := 0) (rm_canEncI l Z a0 hw []  h0 OL ) hZ (own_w hw 71 rfl) (own_w hw 67 rfl) (by decide) (by decide)) (g := (mkF m 1 #[.val (.ref a1), .val (.int (46 : Int32)), .val (.int ((Int32.ofNat cs.length) - (1 : Int32))), .unset] [(.int (46 : Int32))])) rfl (by rw [hml]; rfl) (argsL := [(.int (46 : Int32))]) (rest := []) (lenOf pd_359 rfl) rfl (by show 2 * 0 + _ ≤ _; exact Nat.le_of_eq rfl) (hb hby dj43_27_1) (fun _ _ => ⟨rfl, e0, (by decide : 0 + 0 ≤ _), (by decide : 0 + 0 ≤ _)⟩)
  dsimp only [Pt.U, Pt.locs, Pt.cells, Pt.slots] at X315 l315 y315 z315 st315 hQ315
  subst l315 y315 z315
  obtain ⟨rfl, N315q, K315⟩ := hQ315
  have N315 := Fr.app N0 N315q
  refine oG.st st315 ?_
  show oG _ _ _ _ (T315.setTop (mkF m 4 #[.val (.ref a1), .val (.int (46 : Int32)), .val (.int ((Int32.ofNat cs.length) - (1 : Int32))), .unset] [(.int (1 : Int32))]))
  have hc316 : ¬ ((1 : Int32) = (0 : Int32)) := by decide
  refine oG.st (fun _ k => XS.ifYes X315.here hx rfl (pc0 := 4) (pc' := 9) rfl (hb hby dj43_27_4) rfl ((if0 _ _).trans (feq hc316).2) (by decide) (by decide) k) ?_
  refine oG.st (fun _ k => XS.iloadN X315.here hx rfl (hb hby dj43_27_9) rfl (XS.aloadN X315.here hx rfl (hb hby dj43_27_10) rfl rfl k)) ?_
  show oG _ _ _ _ (T315.setTop (mkF m 11 #[.val (.ref a1), .val (.int (46 : Int32)), .val (.int ((Int32.ofNat cs.length) - (1 : Int32))), .unset] [(.ref a1), (.int ((Int32.ofNat cs.length) - (1 : Int32)))]))
  obtain ⟨c317, Ar317, q317, S317, Nn317, H317, G317⟩ := id p0_
  refine oG.st (X315.arraylength hx (own_rwE K315 Ar317.1) (State.isArrayOf_alike hZ.alike Ar317.2.1) (g := (mkF m 11 #[.val (.ref a1), .val (.int (46 : Int32)), .val (.int ((Int32.ofNat cs.length) - (1 : Int32))), .unset] [(.ref a1), (.int ((Int32.ofNat cs.length) - (1 : Int32)))])) rfl rfl (hb hby dj43_27_11)) ?_
  rw [len_of S317 Nn317]
  refine oG.st (fun _ k => XS.iconst X315.here hx rfl (hb hby dj43_27_12) (XS.isub X315.here hx rfl (hb hby dj43_27_13) rfl k)) ?_
  show oG _ _ _ _ (T315.setTop (mkF m 14 #[.val (.ref a1), .val (.int (46 : Int32)), .val (.int ((Int32.ofNat cs.length) - (1 : Int32))), .unset] [(.int ((Int32.ofNat cs.length) - (1 : Int32))), (.int ((Int32.ofNat cs.length) - (1 : Int32)))]))
  obtain ⟨_, _, ⟨T318, L318, k318, n318⟩, -, X318, ⟨Lc318, hQ318, l318, y318, z318⟩, st318⟩ := Jvm.LawKit.callS X315 hx (y := mN4) hown (own_v hZ hw 72 rfl) (own_v hZ hw 73 rfl) (own_v hZ hw 33 rfl) (own_v hZ hw 74 rfl) (by decide) (backOf (W := 0) (rm_mmin l Z a0 hw [] ((Int32.ofNat cs.length) - (1 : Int32)) ((Int32.ofNat cs.length) - (1 : Int32)) h0 OL ) hZ (own_w hw 74 rfl) (own_w hw 33 rfl) (by decide) (by decide)) (g := (mkF m 14 #[.val (.ref a1), .val (.int (46 : Int32)), .val (.int ((Int32.ofNat cs.length) - (1 : Int32))), .unset] [(.int ((Int32.ofNat cs.length) - (1 : Int32))), (.int ((Int32.ofNat cs.length) - (1 : Int32)))])) rfl (by rw [hml]; rfl) (argsL := [(.int ((Int32.ofNat cs.length) - (1 : Int32))), (.int ((Int32.ofNat cs.length) - (1 : Int32)))]) (rest := []) (lenOf pd_222 rfl) rfl (by show 2 * 0 + _ ≤ _; exact Nat.le_of_eq rfl) (hb hby dj43_27_14) (fun _ _ => ⟨rfl, K315, (by decide : 0 + 0 ≤ _), (by decide : 0 + 0 ≤ _)⟩)
  dsimp only [Pt.U, Pt.locs, Pt.cells, Pt.slots] at X318 l318 y318 z318 st318 hQ318
  subst l318 y318 z318
  obtain ⟨rfl, N318q, K318⟩ := hQ318
  have N318 := Fr.app N315 N318q
  refine oG.st st318 ?_
  show oG _ _ _ _ (T318.setTop (mkF m 17 #[.val (.ref a1), .val (.int (46 : Int32)), .val (.int ((Int32.ofNat cs.length) - (1 : Int32))), .unset] [(.int (if ((Int32.ofNat cs.length) - (1 : Int32)) < ((Int32.ofNat cs.length) - (1 : Int32)) then ((Int32.ofNat cs.length) - (1 : Int32)) else ((Int32.ofNat cs.length) - (1 : Int32))))]))
  rw [ite_self]
  refine oG.st (fun _ k => XS.istoreN X318.here hx rfl (hb hby dj43_27_17) rfl (l' := #[.val (.ref a1), .val (.int (46 : Int32)), .val (.int ((Int32.ofNat cs.length) - (1 : Int32))), .val (.int ((Int32.ofNat cs.length) - (1 : Int32)))]) rfl k) ?_
  show oG _ _ _ _ (T318.setTop (mkF m 18 #[.val (.ref a1), .val (.int (46 : Int32)), .val (.int ((Int32.ofNat cs.length) - (1 : Int32))), .val (.int ((Int32.ofNat cs.length) - (1 : Int32)))] []))
  have LP319 : ∀ (nL : Nat) (i : Nat), (i ≤ cs.length) → (∀ k, i ≤ k → k < cs.length → cs.getD k 0 ≠ 46) → i = nL → oG p.tables e below PP (T318.setTop (mkF m 18 #[.val (.ref a1), .val (.int (46 : Int32)), .val (.int ((Int32.ofNat cs.length) - (1 : Int32))), .val (.int ((Int32.ofNat i) - (1 : Int32)))] [])) := by
    intro nL
    induction nL using Nat.strongRecOn with
    | _ nL ihL =>
      intro i hi hr hmL
      refine oG.st (fun _ k => XS.iloadN X318.here hx rfl (hb hby dj43_27_18) rfl k) ?_
      show oG _ _ _ _ (T318.setTop (mkF m 19 #[.val (.ref a1), .val (.int (46 : Int32)), .val (.int ((Int32.ofNat cs.length) - (1 : Int32))), .val (.int ((Int32.ofNat i) - (1 : Int32)))] [(.int ((Int32.ofNat i) - (1 : Int32)))]))
      by_cases h19 : ((Int32.ofNat i) - (1 : Int32)) < (0 : Int32)
      ·
        refine oG.st (fun _ k => XS.ifYes X318.here hx rfl (pc0 := 19) (pc' := 38) rfl (hb hby dj43_27_19) rfl ((if0 _ _).trans (tlt h19).1) (by decide) (by decide) k) ?_
        have hi0 := (own_lt0 (by omega)).mp h19
        subst hi0
        refine oG.st (fun _ k => XS.iconst X318.here hx rfl (hb hby dj43_27_38) k) ?_
        show oG _ _ _ _ (T318.setTop (mkF m 39 #[.val (.ref a1), .val (.int (46 : Int32)), .val (.int ((Int32.ofNat cs.length) - (1 : Int32))), .val (.int ((Int32.ofNat 0) - (1 : Int32)))] [(.int (-1 : Int32))]))
        obtain ⟨fs320, hr320, hrun320, hend320, hW320, hsm320⟩ := X318.leave (v := some (.int (-1 : Int32))) (fun h => by rw [Bd.returns] at h; cases h)
        subst hPP
        refine ⟨_, _, own_retI X318 hx Bd.returns (hb hby dj43_27_39) hr320, hrun320, hend320, _, _, rfl, ?_, ⟨_, rfl⟩, hW320, hsm320.mono (by decide) (by decide)⟩
        · show Q_l1last Z _ _ _ _ h0 _ T318.heap _
          rw [K318]
          exact ⟨0, (by decide), N318, rfl, ⟨Nat.zero_le _, Or.inl rfl, hr⟩⟩
      ·
        refine oG.st (fun _ k => XS.ifNo X318.here hx rfl (hb hby dj43_27_19) rfl ((if0 _ _).trans (flt h19).1) k) ?_
        obtain ⟨j, rfl⟩ : ∃ j, i = j + 1 := ⟨i - 1, by have : ¬ i = 0 := fun q => h19 ((own_lt0 (by omega)).mpr q); omega⟩
        rw [own_ofB1 (by omega)]
        show oG _ _ _ _ (T318.setTop (mkF m 22 #[.val (.ref a1), .val (.int (46 : Int32)), .val (.int ((Int32.ofNat cs.length) - (1 : Int32))), .val (.int (Int32.ofNat j))] []))
        have hjl : j < cs.length := by omega
        refine oG.st (fun _ k => XS.aloadN X318.here hx rfl (hb hby dj43_27_22) rfl rfl (XS.iloadN X318.here hx rfl (hb hby dj43_27_23) rfl k)) ?_
        show oG _ _ _ _ (T318.setTop (mkF m 24 #[.val (.ref a1), .val (.int (46 : Int32)), .val (.int ((Int32.ofNat cs.length) - (1 : Int32))), .val (.int (Int32.ofNat j))] [(.int (Int32.ofNat j)), (.ref a1)]))
        obtain ⟨c321, Ar321, q321, S321, Nn321, H321, G321⟩ := id p0_
        have hin321 : ¬ ((Int32.ofNat j) < 0 ∨ c321.slots.size ≤ ((Int32.ofNat j)).toNatClampNeg) := inb_of S321 ⟨own_of0 (by omega), (own_oflt (by omega) (by omega)).mpr hi⟩
        have hat321 : c321.slots[((Int32.ofNat j)).toNatClampNeg]? = some (.int (StrChars.lo8 (cs.getD j 0))) := H321.at hin321 (own_lowAt hjl (by omega) _)
        refine oG.st (X318.baloadBytes hx (j := (Int32.ofNat j)) (v := (.int (StrChars.lo8 (cs.getD j 0)))) (own_rwE K318 Ar321.1) (State.isArrayOf_alike hZ.alike Ar321.2.1) Ar321.2.2 hin321 hat321 (g := (mkF m 24 #[.val (.ref a1), .val (.int (46 : Int32)), .val (.int ((Int32.ofNat cs.length) - (1 : Int32))), .val (.int (Int32.ofNat j))] [(.int (Int32.ofNat j)), (.ref a1)])) rfl rfl (hb hby dj43_27_24)) ?_
        refine oG.st (fun _ k => XS.iloadN X318.here hx rfl (hb hby dj43_27_25) rfl (XS.i2b X318.here hx rfl (hb hby dj43_27_26) rfl k)) ?_
        show oG _ _ _ _ (T318.setTop (mkF m 27 #[.val (.ref a1), .val (.int (46 : Int32)), .val (.int ((Int32.ofNat cs.length) - (1 : Int32))), .val (.int (Int32.ofNat j))] [(.int ((46 : Int32).toInt8.toInt32)), (.int (StrChars.lo8 (cs.getD j 0)))]))
        by_cases h27 : (StrChars.lo8 (cs.getD j 0)) = ((46 : Int32).toInt8.toInt32)
        ·
          refine oG.st (fun _ k => XS.icmpNo X318.here hx rfl (hb hby dj43_27_27) rfl (teq h27).2 k) ?_
          refine oG.st (fun _ k => XS.iloadN X318.here hx rfl (hb hby dj43_27_30) rfl k) ?_
          show oG _ _ _ _ (T318.setTop (mkF m 31 #[.val (.ref a1), .val (.int (46 : Int32)), .val (.int ((Int32.ofNat cs.length) - (1 : Int32))), .val (.int (Int32.ofNat j))] [(.int (Int32.ofNat j))]))
          obtain ⟨fs322, hr322, hrun322, hend322, hW322, hsm322⟩ := X318.leave (v := some (.int (Int32.ofNat j))) (fun h => by rw [Bd.returns] at h; cases h)
          subst hPP
          refine ⟨_, _, own_retI X318 hx Bd.returns (hb hby dj43_27_31) hr322, hrun322, hend322, _, _, rfl, ?_, ⟨_, rfl⟩, hW322, hsm322.mono (by decide) (by decide)⟩
          · show Q_l1last Z _ _ _ _ h0 _ T318.heap _
            rw [K318]
            exact ⟨(j + 1), (by rw [own_ofB1 (by omega)]), N318, rfl, ⟨hi, Or.inr (own_loY46 hjl hlt hrng h27), hr⟩⟩
        ·
          refine oG.st (fun _ k => XS.icmpYes X318.here hx rfl (pc0 := 27) (pc' := 32) rfl (hb hby dj43_27_27) rfl (feq h27).2 (by decide) (by decide) k) ?_
          refine oG.st (fun _ k => XS.iinc X318.here hx rfl (hb hby dj43_27_32) rfl (l' := #[.val (.ref a1), .val (.int (46 : Int32)), .val (.int ((Int32.ofNat cs.length) - (1 : Int32))), .val (.int ((Int32.ofNat j) + (-1 : Int32)))]) rfl k) ?_
          show oG _ _ _ _ (T318.setTop (mkF m 35 #[.val (.ref a1), .val (.int (46 : Int32)), .val (.int ((Int32.ofNat cs.length) - (1 : Int32))), .val (.int ((Int32.ofNat j) + (-1 : Int32)))] []))
          rw [own_am1]
          refine oG.st (fun _ k => XS.goto X318.here hx rfl (pc0 := 35) (pc' := 18) rfl (hb hby dj43_27_35) (by decide) (by decide) k) ?_
          show oG _ _ _ _ (T318.setTop (mkF m 18 #[.val (.ref a1), .val (.int (46 : Int32)), .val (.int ((Int32.ofNat cs.length) - (1 : Int32))), .val (.int ((Int32.ofNat j) - (1 : Int32)))] []))
          exact ihL _ (by omega) j (by omega) (own_LdS hjl (own_loN hjl h27) hr) rfl
  exact LP319 _ cs.length (Nat.le_refl _) (fun k a b => absurd b (by omega)) rfl
theorem dj52_51_0 : decode cJ28 0 = .ok (.iload_n 1, 1) := by decide +kernel
theorem dj52_51_1 : decode cJ28 1 = .ok (.ldc 227, 2) := by decide +kernel
theorem dj52_51_3 : decode cJ28 3 = .ok (.if_icmp .ge 37, 3) := by decide +kernel
theorem dj52_51_6 : decode cJ28 6 = .ok (.iload_n 2, 1) := by decide +kernel
theorem dj52_51_7 : decode cJ28 7 = .ok (.aload_n 0, 1) := by decide +kernel
theorem dj52_51_8 : decode cJ28 8 = .ok (.arraylength, 1) := by decide +kernel
theorem dj52_51_9 : decode cJ28 9 = .ok (.iconst 1, 1) := by decide +kernel
theorem dj52_51_10 : decode cJ28 10 = .ok (.ishr, 1) := by decide +kernel
theorem dj52_51_11 : decode cJ28 11 = .ok (.iconst 1, 1) := by decide +kernel
theorem dj52_51_12 : decode cJ28 12 = .ok (.isub, 1) := by decide +kernel
theorem dj52_51_13 : decode cJ28 13 = .ok (.invokestatic 183, 3) := by decide +kernel
theorem dj52_51_16 : decode cJ28 16 = .ok (.istore_n 3, 1) := by decide +kernel
theorem dj52_51_17 : decode cJ28 17 = .ok (.iload_n 3, 1) := by decide +kernel
theorem dj52_51_18 : decode cJ28 18 = .ok (.ifCond .lt 20, 3) := by decide +kernel
theorem dj52_51_38 : decode cJ28 38 = .ok (.iconst (-1), 1) := by decide +kernel
theorem dj52_51_39 : decode cJ28 39 = .ok (.ireturn, 1) := by decide +kernel
theorem dj52_51_21 : decode cJ28 21 = .ok (.aload_n 0, 1) := by decide +kernel
theorem dj52_51_22 : decode cJ28 22 = .ok (.iload_n 3, 1) := by decide +kernel
theorem dj52_51_23 : decode cJ28 23 = .ok (.invokestatic 71, 3) := by decide +kernel
theorem dj52_51_26 : decode cJ28 26 = .ok (.iload_n 1, 1) := by decide +kernel
theorem dj52_51_27 : decode cJ28 27 = .ok (.if_icmp .ne 5, 3) := by decide +kernel
theorem dj52_51_30 : decode cJ28 30 = .ok (.iload_n 3, 1) := by decide +kernel
theorem dj52_51_31 : decode cJ28 31 = .ok (.ireturn, 1) := by decide +kernel
theorem dj52_51_32 : decode cJ28 32 = .ok (.iinc 3 (-1), 3) := by decide +kernel
theorem dj52_51_35 : decode cJ28 35 = .ok (.goto (-18), 3) := by decide +kernel
def Q_u16last (Z : State) (a1 : Nat) (p3 : Int32) (cs : List Int32) (k : ClassId) (h0 : Heap) (v : Option Value) (h : Heap) (L : List Loc) : Prop := ∃ (st : Nat), v = some (.int ((Int32.ofNat st) - (1 : Int32))) ∧ Fr Z.heap.size L ∧ h = h0 ∧ (own_Ld cs 46 st)
set_option maxRecDepth 65536 in
set_option maxHeartbeats 40000000 in
theorem rm_u16last (l : Launch) (Z : State) (a0 : Array Value) (hw : ∀ d ∈ tables_1, d.before a0 Z = true) (ws : List Jvm.Cond) (a1 : Nat) (p3 : Int32) (cs : List Int32) (k : ClassId) (h0 : Heap) (OL : Old Z Z.heap.size h0) (p0_ : Arv Z h0 a1 k .byte (Int32.ofNat (2 * cs.length)) (StrChars.Road.wideBytes cs) (.int (0 : Int32))) (st_A : Sta Z Z.heap "java/lang/StringUTF16" "$assertionsDisabled" "Z" (.int (1 : Int32))) (st_H : Sta Z Z.heap "java/lang/StringUTF16" "HI_BYTE_SHIFT" "I" (.int (0 : Int32))) (st_L : Sta Z Z.heap "java/lang/StringUTF16" "LO_BYTE_SHIFT" "I" (.int (8 : Int32))) (hle : cs.length ≤ 4) (hp3 : p3 = ((Int32.ofNat cs.length) - (1 : Int32))) (hrng : ∀ c ∈ cs, ¬ c < 0 ∧ ¬ (65535 : Int32) < c) :
    MetFree l mN30 (head1 (Jvm.Cond.code mN30 jdk_52_method_51_code 4 (some .int) :: ws) rM4) (fun a U => a = #[(.ref a1), (.int (46 : Int32)), (.int p3)] ∧ Z.Warmed39 U.vm ∧ U.heap = h0) (fun _ _ _ _ _ => True) (fun _ U o U' => ∃ v L, o = .returned v ∧ Q_u16last Z a1 p3 cs k h0 v U'.heap L ∧ FrameEnd U o U' L rM4.cells rM4.slots) := by
  refine MetFree.of_bodySF (plainFor_of_name pn_25) hisR ?_
  intro p e s m args below meth c s₁ Bd hml0 hP hK
  obtain ⟨rfl, hZ, hh⟩ := hP
  have hx := Bd.exec
  have hby := Bd.bytes
  have hml : c.maxLocals = 4 := hml0
  have hown : s.vm.findClass "java/lang/StringUTF16" = some m.cls := findClass_of_methodNamed Bd.named
  have hnm := (name_of_methodNamed Bd.named Bd.method).1
  have X0 : Stand p l e rM4 s m #[(.ref a1), (.int (46 : Int32)), (.int p3)] below meth c s₁ [] 0 0 := Stand.of_body Bd
  have e0 : s₁.heap = h0 := by rw [← hh, Bd.state]; rfl
  have N0 := Fr.nil Z.heap.size
  have Z0 : Z.heap.size ≤ h0.size := OL.2.1
  have lt_0 : @LT.lt Nat _ a1 h0.size := p0_.lt
  show oG p.tables e below (fun o tE => ∃ v L, o = .returned v ∧ Q_u16last Z a1 p3 cs k h0 v tE.heap L ∧ FrameEnd s o tE L rM4.cells rM4.slots) (s₁.setTop (entryFrame m #[(.ref a1), (.int (46 : Int32)), (.int p3)] 4))
  refine own_hd (fun PP hPP => ?_)
  refine oG.st (fun t k => castTop (ef_357 m a1 (46 : Int32) p3) k) ?_
  subst hp3
  refine oG.st (fun _ k => XS.iloadN X0.here hx rfl (hb hby dj52_51_0) rfl k) ?_
  show oG _ _ _ _ (s₁.setTop (mkF m 1 #[.val (.ref a1), .val (.int (46 : Int32)), .val (.int ((Int32.ofNat cs.length) - (1 : Int32))), .unset] [(.int (46 : Int32))]))
  refine oG.st (X0.ldcInt hx hown (own_v hZ hw 126 rfl) (g := (mkF m 1 #[.val (.ref a1), .val (.int (46 : Int32)), .val (.int ((Int32.ofNat cs.length) - (1 : Int32))), .unset] [(.int (46 : Int32))])) rfl (hb hby dj52_51_1)) ?_
  show oG _ _ _ _ (s₁.setTop (mkF m 3 #[.val (.ref a1), .val (.int (46 : Int32)), .val (.int ((Int32.ofNat cs.length) - (1 : Int32))), .unset] [(.int (65536 : Int32)), (.int (46 : Int32))]))
  have hc323 : (46 : Int32) < (65536 : Int32) := by decide
  refine oG.st (fun _ k => XS.icmpNo X0.here hx rfl (hb hby dj52_51_3) rfl (tlt hc323).2.1 k) ?_
  refine oG.st (fun _ k => XS.iloadN X0.here hx rfl (hb hby dj52_51_6) rfl (XS.aloadN X0.here hx rfl (hb hby dj52_51_7) rfl rfl k)) ?_
  show oG _ _ _ _ (s₁.setTop (mkF m 8 #[.val (.ref a1), .val (.int (46 : Int32)), .val (.int ((Int32.ofNat cs.length) - (1 : Int32))), .unset] [(.ref a1), (.int ((Int32.ofNat cs.length) - (1 : Int32)))]))
  obtain ⟨c324, Ar324, q324, S324, Nn324, H324, G324⟩ := id p0_
  refine oG.st (X0.arraylength hx (own_rwE e0 Ar324.1) (State.isArrayOf_alike hZ.alike Ar324.2.1) (g := (mkF m 8 #[.val (.ref a1), .val (.int (46 : Int32)), .val (.int ((Int32.ofNat cs.length) - (1 : Int32))), .unset] [(.ref a1), (.int ((Int32.ofNat cs.length) - (1 : Int32)))])) rfl rfl (hb hby dj52_51_8)) ?_
  rw [len_of S324 Nn324]
  refine oG.st (fun _ k => XS.iconst X0.here hx rfl (hb hby dj52_51_9) (XS.ishr X0.here hx rfl (hb hby dj52_51_10) rfl k)) ?_
  show oG _ _ _ _ (s₁.setTop (mkF m 11 #[.val (.ref a1), .val (.int (46 : Int32)), .val (.int ((Int32.ofNat cs.length) - (1 : Int32))), .unset] [(.int ((Int32.ofNat (2 * cs.length)) >>> ((1 : Int32) &&& 31))), (.int ((Int32.ofNat cs.length) - (1 : Int32)))]))
  rw [StrChars.shr1 (by omega)]
  refine oG.st (fun _ k => XS.iconst X0.here hx rfl (hb hby dj52_51_11) (XS.isub X0.here hx rfl (hb hby dj52_51_12) rfl k)) ?_
  show oG _ _ _ _ (s₁.setTop (mkF m 13 #[.val (.ref a1), .val (.int (46 : Int32)), .val (.int ((Int32.ofNat cs.length) - (1 : Int32))), .unset] [(.int ((Int32.ofNat cs.length) - (1 : Int32))), (.int ((Int32.ofNat cs.length) - (1 : Int32)))]))
  obtain ⟨_, _, ⟨T325, L325, k325, n325⟩, -, X325, ⟨Lc325, hQ325, l325, y325, z325⟩, st325⟩ := Jvm.LawKit.callS X0 hx (y := mN4) hown (own_v hZ hw 127 rfl) (own_v hZ hw 73 rfl) (own_v hZ hw 33 rfl) (own_v hZ hw 74 rfl) (by decide) (backOf (W := 0) (rm_mmin l Z a0 hw [] ((Int32.ofNat cs.length) - (1 : Int32)) ((Int32.ofNat cs.length) - (1 : Int32)) h0 OL ) hZ (own_w hw 74 rfl) (own_w hw 33 rfl) (by decide) (by decide)) (g := (mkF m 13 #[.val (.ref a1), .val (.int (46 : Int32)), .val (.int ((Int32.ofNat cs.length) - (1 : Int32))), .unset] [(.int ((Int32.ofNat cs.length) - (1 : Int32))), (.int ((Int32.ofNat cs.length) - (1 : Int32)))])) rfl (by rw [hml]; rfl) (argsL := [(.int ((Int32.ofNat cs.length) - (1 : Int32))), (.int ((Int32.ofNat cs.length) - (1 : Int32)))]) (rest := []) (lenOf pd_222 rfl) rfl (by show 2 * 0 + _ ≤ _; exact Nat.le_of_eq rfl) (hb hby dj52_51_13) (fun _ _ => ⟨rfl, e0, (by decide : 0 + 0 ≤ _), (by decide : 0 + 0 ≤ _)⟩)
  dsimp only [Pt.U, Pt.locs, Pt.cells, Pt.slots] at X325 l325 y325 z325 st325 hQ325
  subst l325 y325 z325
  obtain ⟨rfl, N325q, K325⟩ := hQ325
  have N325 := Fr.app N0 N325q
  refine oG.st st325 ?_
  show oG _ _ _ _ (T325.setTop (mkF m 16 #[.val (.ref a1), .val (.int (46 : Int32)), .val (.int ((Int32.ofNat cs.length) - (1 : Int32))), .unset] [(.int (if ((Int32.ofNat cs.length) - (1 : Int32)) < ((Int32.ofNat cs.length) - (1 : Int32)) then ((Int32.ofNat cs.length) - (1 : Int32)) else ((Int32.ofNat cs.length) - (1 : Int32))))]))
  rw [ite_self]
  refine oG.st (fun _ k => XS.istoreN X325.here hx rfl (hb hby dj52_51_16) rfl (l' := #[.val (.ref a1), .val (.int (46 : Int32)), .val (.int ((Int32.ofNat cs.length) - (1 : Int32))), .val (.int ((Int32.ofNat cs.length) - (1 : Int32)))]) rfl k) ?_
  show oG _ _ _ _ (T325.setTop (mkF m 17 #[.val (.ref a1), .val (.int (46 : Int32)), .val (.int ((Int32.ofNat cs.length) - (1 : Int32))), .val (.int ((Int32.ofNat cs.length) - (1 : Int32)))] []))
  have LP326 : ∀ (nL : Nat) (i : Nat) (TL326 : State) (lL326 : List Loc), (i ≤ cs.length) → (∀ k, i ≤ k → k < cs.length → cs.getD k 0 ≠ 46) → (Stand p l e rM4 s m #[(.ref a1), (.int (46 : Int32)), (.int ((Int32.ofNat cs.length) - (1 : Int32)))] below meth c TL326 lL326 0 0) → (TL326.heap = h0) → (Fr Z.heap.size lL326) → i = nL → oG p.tables e below PP (TL326.setTop (mkF m 17 #[.val (.ref a1), .val (.int (46 : Int32)), .val (.int ((Int32.ofNat cs.length) - (1 : Int32))), .val (.int ((Int32.ofNat i) - (1 : Int32)))] [])) := by
    intro nL
    induction nL using Nat.strongRecOn with
    | _ nL ihL =>
      intro i TL326 lL326 hi hr XL326 eL326 NL326 hmL
      refine oG.st (fun _ k => XS.iloadN XL326.here hx rfl (hb hby dj52_51_17) rfl k) ?_
      show oG _ _ _ _ (TL326.setTop (mkF m 18 #[.val (.ref a1), .val (.int (46 : Int32)), .val (.int ((Int32.ofNat cs.length) - (1 : Int32))), .val (.int ((Int32.ofNat i) - (1 : Int32)))] [(.int ((Int32.ofNat i) - (1 : Int32)))]))
      by_cases h19 : ((Int32.ofNat i) - (1 : Int32)) < (0 : Int32)
      ·
        refine oG.st (fun _ k => XS.ifYes XL326.here hx rfl (pc0 := 18) (pc' := 38) rfl (hb hby dj52_51_18) rfl ((if0 _ _).trans (tlt h19).1) (by decide) (by decide) k) ?_
        have hi0 := (own_lt0 (by omega)).mp h19
        subst hi0
        refine oG.st (fun _ k => XS.iconst XL326.here hx rfl (hb hby dj52_51_38) k) ?_
        show oG _ _ _ _ (TL326.setTop (mkF m 39 #[.val (.ref a1), .val (.int (46 : Int32)), .val (.int ((Int32.ofNat cs.length) - (1 : Int32))), .val (.int ((Int32.ofNat 0) - (1 : Int32)))] [(.int (-1 : Int32))]))
        obtain ⟨fs327, hr327, hrun327, hend327, hW327, hsm327⟩ := XL326.leave (v := some (.int (-1 : Int32))) (fun h => by rw [Bd.returns] at h; cases h)
        subst hPP
        refine ⟨_, _, own_retI XL326 hx Bd.returns (hb hby dj52_51_39) hr327, hrun327, hend327, _, _, rfl, ?_, ⟨_, rfl⟩, hW327, hsm327.mono (by decide) (by decide)⟩
        · show Q_u16last Z _ _ _ _ h0 _ TL326.heap _
          rw [eL326]
          exact ⟨0, (by decide), NL326, rfl, ⟨Nat.zero_le _, Or.inl rfl, hr⟩⟩
      ·
        refine oG.st (fun _ k => XS.ifNo XL326.here hx rfl (hb hby dj52_51_18) rfl ((if0 _ _).trans (flt h19).1) k) ?_
        obtain ⟨j, rfl⟩ : ∃ j, i = j + 1 := ⟨i - 1, by have : ¬ i = 0 := fun q => h19 ((own_lt0 (by omega)).mpr q); omega⟩
        rw [own_ofB1 (by omega)]
        show oG _ _ _ _ (TL326.setTop (mkF m 21 #[.val (.ref a1), .val (.int (46 : Int32)), .val (.int ((Int32.ofNat cs.length) - (1 : Int32))), .val (.int (Int32.ofNat j))] []))
        have hjl : j < cs.length := by omega
        refine oG.st (fun _ k => XS.aloadN XL326.here hx rfl (hb hby dj52_51_21) rfl rfl (XS.iloadN XL326.here hx rfl (hb hby dj52_51_22) rfl k)) ?_
        show oG _ _ _ _ (TL326.setTop (mkF m 23 #[.val (.ref a1), .val (.int (46 : Int32)), .val (.int ((Int32.ofNat cs.length) - (1 : Int32))), .val (.int (Int32.ofNat j))] [(.int (Int32.ofNat j)), (.ref a1)]))
        obtain ⟨_, _, ⟨T328, L328, k328, n328⟩, -, X328, ⟨Lc328, hQ328, l328, y328, z328⟩, st328⟩ := Jvm.LawKit.callS XL326 hx (y := mN29) hown (own_v hZ hw 120 rfl) (own_v hZ hw 121 rfl) (own_v hZ hw 92 rfl) (own_v hZ hw 122 rfl) (by decide) (backOf (W := 0) (rm_getc l Z a0 hw [] a1 (Int32.ofNat j) j k (Int32.ofNat (2 * cs.length)) (StrChars.Road.wideBytes cs) (.int (0 : Int32)) (cs.getD (j) 0) h0 OL p0_ st_A st_H st_L rfl (by rw [own_wlen]; omega) (by rw [own_wlen]) (by rw [own_wlen]; omega) (StrChars.Road.wide_lo _ _ _ hjl) (StrChars.Road.wide_hi _ _ _ hjl) (hrng _ (own_mem hjl))) hZ (own_w hw 122 rfl) (own_w hw 92 rfl) (by decide) (by decide)) (g := (mkF m 23 #[.val (.ref a1), .val (.int (46 : Int32)), .val (.int ((Int32.ofNat cs.length) - (1 : Int32))), .val (.int (Int32.ofNat j))] [(.int (Int32.ofNat j)), (.ref a1)])) rfl (by rw [hml]; rfl) (argsL := [(.ref a1), (.int (Int32.ofNat j))]) (rest := []) (lenOf pd_158 rfl) rfl (by show 2 * 0 + _ ≤ _; exact Nat.le_of_eq rfl) (hb hby dj52_51_23) (fun _ _ => ⟨rfl, eL326, (by decide : 0 + 0 ≤ _), (by decide : 0 + 0 ≤ _)⟩)
        dsimp only [Pt.U, Pt.locs, Pt.cells, Pt.slots] at X328 l328 y328 z328 st328 hQ328
        subst l328 y328 z328
        obtain ⟨rfl, N328q, K328⟩ := hQ328
        have N328 := Fr.app NL326 N328q
        refine oG.st st328 ?_
        refine oG.st (fun _ k => XS.iloadN X328.here hx rfl (hb hby dj52_51_26) rfl k) ?_
        show oG _ _ _ _ (T328.setTop (mkF m 27 #[.val (.ref a1), .val (.int (46 : Int32)), .val (.int ((Int32.ofNat cs.length) - (1 : Int32))), .val (.int (Int32.ofNat j))] [(.int (46 : Int32)), (.int (cs.getD (j) 0))]))
        by_cases h27 : (cs.getD (j) 0) = (46 : Int32)
        ·
          refine oG.st (fun _ k => XS.icmpNo X328.here hx rfl (hb hby dj52_51_27) rfl (teq h27).2 k) ?_
          refine oG.st (fun _ k => XS.iloadN X328.here hx rfl (hb hby dj52_51_30) rfl k) ?_
          show oG _ _ _ _ (T328.setTop (mkF m 31 #[.val (.ref a1), .val (.int (46 : Int32)), .val (.int ((Int32.ofNat cs.length) - (1 : Int32))), .val (.int (Int32.ofNat j))] [(.int (Int32.ofNat j))]))
          obtain ⟨fs329, hr329, hrun329, hend329, hW329, hsm329⟩ := X328.leave (v := some (.int (Int32.ofNat j))) (fun h => by rw [Bd.returns] at h; cases h)
          subst hPP
          refine ⟨_, _, own_retI X328 hx Bd.returns (hb hby dj52_51_31) hr329, hrun329, hend329, _, _, rfl, ?_, ⟨_, rfl⟩, hW329, hsm329.mono (by decide) (by decide)⟩
          · show Q_u16last Z _ _ _ _ h0 _ T328.heap _
            rw [K328]
            exact ⟨(j + 1), (by rw [own_ofB1 (by omega)]), N328, rfl, ⟨hi, Or.inr h27, hr⟩⟩
        ·
          refine oG.st (fun _ k => XS.icmpYes X328.here hx rfl (pc0 := 27) (pc' := 32) rfl (hb hby dj52_51_27) rfl (feq h27).2 (by decide) (by decide) k) ?_
          refine oG.st (fun _ k => XS.iinc X328.here hx rfl (hb hby dj52_51_32) rfl (l' := #[.val (.ref a1), .val (.int (46 : Int32)), .val (.int ((Int32.ofNat cs.length) - (1 : Int32))), .val (.int ((Int32.ofNat j) + (-1 : Int32)))]) rfl k) ?_
          show oG _ _ _ _ (T328.setTop (mkF m 35 #[.val (.ref a1), .val (.int (46 : Int32)), .val (.int ((Int32.ofNat cs.length) - (1 : Int32))), .val (.int ((Int32.ofNat j) + (-1 : Int32)))] []))
          rw [own_am1]
          refine oG.st (fun _ k => XS.goto X328.here hx rfl (pc0 := 35) (pc' := 17) rfl (hb hby dj52_51_35) (by decide) (by decide) k) ?_
          show oG _ _ _ _ (T328.setTop (mkF m 17 #[.val (.ref a1), .val (.int (46 : Int32)), .val (.int ((Int32.ofNat cs.length) - (1 : Int32))), .val (.int ((Int32.ofNat j) - (1 : Int32)))] []))
          exact ihL _ (by omega) j T328 _ (by omega) (own_LdS hjl h27 hr) X328 K328 N328 rfl
  exact LP326 _ cs.length T325 _ (Nat.le_refl _) (fun k a b => absurd b (by omega)) X325 K325 N325 rfl
theorem dj42_83_0 : decode cJ14 0 = .ok (.aload_n 0, 1) := by decide +kernel
theorem dj42_83_1 : decode cJ14 1 = .ok (.invokevirtual 492, 3) := by decide +kernel
theorem dj42_83_4 : decode cJ14 4 = .ok (.ifCond .eq 15, 3) := by decide +kernel
theorem dj42_83_7 : decode cJ14 7 = .ok (.aload_n 0, 1) := by decide +kernel
theorem dj42_83_8 : decode cJ14 8 = .ok (.getfield 9, 3) := by decide +kernel
theorem dj42_83_11 : decode cJ14 11 = .ok (.iload_n 1, 1) := by decide +kernel
theorem dj42_83_12 : decode cJ14 12 = .ok (.iload_n 2, 1) := by decide +kernel
theorem pd_415 : parseMethodDescriptor "([BII)I" = some ⟨[(.array .byte), .int, .int], some .int⟩ := by decide +kernel
theorem dj42_83_13 : decode cJ14 13 = .ok (.invokestatic 644, 3) := by decide +kernel
theorem dj42_83_16 : decode cJ14 16 = .ok (.goto 12, 3) := by decide +kernel
theorem dj42_83_28 : decode cJ14 28 = .ok (.ireturn, 1) := by decide +kernel
theorem dj42_83_19 : decode cJ14 19 = .ok (.aload_n 0, 1) := by decide +kernel
theorem dj42_83_20 : decode cJ14 20 = .ok (.getfield 9, 3) := by decide +kernel
theorem dj42_83_23 : decode cJ14 23 = .ok (.iload_n 1, 1) := by decide +kernel
theorem dj42_83_24 : decode cJ14 24 = .ok (.iload_n 2, 1) := by decide +kernel
theorem dj42_83_25 : decode cJ14 25 = .ok (.invokestatic 646, 3) := by decide +kernel
def Q_last2 (Z : State) (a1 : Nat) (p3 : Int32) (t1 : Nat) (cs : List Int32) (zc : Int32) (h0 : Heap) (v : Option Value) (h : Heap) (L : List Loc) : Prop := ∃ (st : Nat), v = some (.int ((Int32.ofNat st) - (1 : Int32))) ∧ Fr Z.heap.size L ∧ h = h0 ∧ (own_Ld cs 46 st)
set_option maxRecDepth 65536 in
set_option maxHeartbeats 40000000 in
theorem rm_last2 (l : Launch) (Z : State) (a0 : Array Value) (hw : ∀ d ∈ tables_1, d.before a0 Z = true) (ws : List Jvm.Cond) (a1 : Nat) (p3 : Int32) (t1 : Nat) (cs : List Int32) (zc : Int32) (h0 : Heap) (OL : Old Z Z.heap.size h0) (p0_ : own_Str Z h0 a1 t1 cs) (st_C : Sta Z Z.heap "java/lang/String" "COMPACT_STRINGS" "Z" (.int zc)) (st_A : Sta Z Z.heap "java/lang/StringUTF16" "$assertionsDisabled" "Z" (.int (1 : Int32))) (st_H : Sta Z Z.heap "java/lang/StringUTF16" "HI_BYTE_SHIFT" "I" (.int (0 : Int32))) (st_L : Sta Z Z.heap "java/lang/StringUTF16" "LO_BYTE_SHIFT" "I" (.int (8 : Int32))) (hzc : ¬ zc = 0) (hle : cs.length ≤ 4) (hp3 : p3 = ((Int32.ofNat cs.length) - (1 : Int32))) :
    MetFree l mN14 (head1 (Jvm.Cond.code mN14 jdk_42_method_83_code 3 (some .int) :: ws) rM10) (fun a U => a = #[(.ref a1), (.int (46 : Int32)), (.int p3)] ∧ Z.Warmed39 U.vm ∧ U.heap = h0) (fun _ _ _ _ _ => True) (fun _ U o U' => ∃ v L, o = .returned v ∧ Q_last2 Z a1 p3 t1 cs zc h0 v U'.heap L ∧ FrameEnd U o U' L rM10.cells rM10.slots) := by
  refine MetFree.of_bodySF (plainFor_of_name pn_0) hisR ?_
  intro p e s m args below meth c s₁ Bd hml0 hP hK
  obtain ⟨rfl, hZ, hh⟩ := hP
  have hx := Bd.exec
  have hby := Bd.bytes
  have hml : c.maxLocals = 3 := hml0
  have hown : s.vm.findClass "java/lang/String" = some m.cls := findClass_of_methodNamed Bd.named
  have hnm := (name_of_methodNamed Bd.named Bd.method).1
  have X0 : Stand p l e rM10 s m #[(.ref a1), (.int (46 : Int32)), (.int p3)] below meth c s₁ [] 0 0 := Stand.of_body Bd
  have e0 : s₁.heap = h0 := by rw [← hh, Bd.state]; rfl
  have N0 := Fr.nil Z.heap.size
  have Z0 : Z.heap.size ≤ h0.size := OL.2.1
  have lt_0 : @LT.lt Nat _ a1 h0.size := p0_.lt
  have ltv_0 : @LT.lt Nat _ t1 h0.size := p0_.ltv
  show oG p.tables e below (fun o tE => ∃ v L, o = .returned v ∧ Q_last2 Z a1 p3 t1 cs zc h0 v tE.heap L ∧ FrameEnd s o tE L rM10.cells rM10.slots) (s₁.setTop (entryFrame m #[(.ref a1), (.int (46 : Int32)), (.int p3)] 3))
  refine own_hd (fun PP hPP => ?_)
  refine oG.st (fun t k => castTop (ef_50 m a1 (46 : Int32) p3) k) ?_
  obtain ⟨kb330, cd330, N2330, vs330, s1330, s2330, s3330, s4330, s5330, s6330, s7330⟩ := id p0_
  rcases s5330 with ⟨rfl, hN330, hv330, hl330⟩ | ⟨rfl, hN330, hv330, hl330⟩
  ·
    subst hN330 hv330
    refine oG.st (fun _ k => XS.aloadN X0.here hx rfl (hb hby dj42_83_0) rfl rfl k) ?_
    show oG _ _ _ _ (s₁.setTop (mkF m 1 #[.val (.ref a1), .val (.int (46 : Int32)), .val (.int p3)] [(.ref a1)]))
    obtain ⟨cq331, kq331, q331a, q331b, q331c⟩ := isOf hZ e0 s1330
    obtain ⟨_, _, ⟨T331, L331, k331, n331⟩, -, X331, ⟨Lc331, hQ331, l331, y331, z331⟩, st331⟩ := X0.virtualBack hx (y := mN12) (z := mN12) hown (own_v hZ hw 60 rfl) (own_v hZ hw 61 rfl) (notFace_of_selects (args := #[]) (own_v hZ hw 63 rfl)) (own_v hZ hw 63 rfl) (own_v hZ hw 62 rfl) (by decide) (backOf (W := 0) (rm_isl1 l Z a0 hw [] a1 (0 : Int32) zc h0 OL s3330 st_C hzc) hZ (own_w hw 64 rfl) (own_w hw 11 rfl) (by decide) (by decide)) q331a q331c (g := (mkF m 1 #[.val (.ref a1), .val (.int (46 : Int32)), .val (.int p3)] [(.ref a1)])) rfl (by rw [hml]; rfl) (Steps.refl _) (argsL := []) (rest := []) (lenOf pd_329 rfl) rfl (by show 2 * 0 + _ ≤ _; exact Nat.le_of_eq rfl) (hb hby dj42_83_1) (fun _ _ => ⟨rfl, e0, (by decide : 0 + 0 ≤ _), (by decide : 0 + 0 ≤ _)⟩)
    dsimp only [Pt.U, Pt.locs, Pt.cells, Pt.slots] at X331 l331 y331 z331 st331 hQ331
    subst l331 y331 z331
    obtain ⟨rfl, N331q, K331⟩ := hQ331
    have N331 := Fr.app N0 N331q
    refine oG.tr st331 ?_
    show oG _ _ _ _ (T331.setTop (mkF m 4 #[.val (.ref a1), .val (.int (46 : Int32)), .val (.int p3)] [(.int (if (0 : Int32) = 0 then (1 : Int32) else 0))]))
    have hc332 : ¬ ((if (0 : Int32) = 0 then (1 : Int32) else 0) = (0 : Int32)) := by decide
    refine oG.st (fun _ k => XS.ifNo X331.here hx rfl (hb hby dj42_83_4) rfl ((if0 _ _).trans (feq hc332).1) k) ?_
    refine oG.st (fun _ k => XS.aloadN X331.here hx rfl (hb hby dj42_83_7) rfl rfl k) ?_
    show oG _ _ _ _ (T331.setTop (mkF m 8 #[.val (.ref a1), .val (.int (46 : Int32)), .val (.int p3)] [(.ref a1)]))
    obtain ⟨T333, X333, e333, st333⟩ := getF X331 hx hZ hown (host := "") (Or.inl (own_w hw 29 rfl)) Via.refl K331 s2330 (g := (mkF m 8 #[.val (.ref a1), .val (.int (46 : Int32)), .val (.int p3)] [(.ref a1)])) rfl rfl (hb hby dj42_83_8)
    refine oG.st st333 ?_
    refine oG.st (fun _ k => XS.iloadN X333.here hx rfl (hb hby dj42_83_11) rfl (XS.iloadN X333.here hx rfl (hb hby dj42_83_12) rfl k)) ?_
    show oG _ _ _ _ (T333.setTop (mkF m 13 #[.val (.ref a1), .val (.int (46 : Int32)), .val (.int p3)] [(.int p3), (.int (46 : Int32)), (.ref t1)]))
    obtain ⟨_, _, ⟨T334, L334, k334, n334⟩, -, X334, ⟨Lc334, hQ334, l334, y334, z334⟩, st334⟩ := Jvm.LawKit.callS X333 hx (y := mN19) hown (own_v hZ hw 65 rfl) (own_v hZ hw 66 rfl) (own_v hZ hw 67 rfl) (own_v hZ hw 68 rfl) (by decide) (backOf (W := 0) (rm_l1last l Z a0 hw [] t1 p3 cs kb330 h0 OL s4330 hle hp3 p0_.rng hl330) hZ (own_w hw 68 rfl) (own_w hw 67 rfl) (by decide) (by decide)) (g := (mkF m 13 #[.val (.ref a1), .val (.int (46 : Int32)), .val (.int p3)] [(.int p3), (.int (46 : Int32)), (.ref t1)])) rfl (by rw [hml]; rfl) (argsL := [(.ref t1), (.int (46 : Int32)), (.int p3)]) (rest := []) (lenOf pd_415 rfl) rfl (by show 2 * 0 + _ ≤ _; exact Nat.le_of_eq rfl) (hb hby dj42_83_13) (fun _ _ => ⟨rfl, e333, (by decide : 0 + 0 ≤ _), (by decide : 0 + 0 ≤ _)⟩)
    dsimp only [Pt.U, Pt.locs, Pt.cells, Pt.slots] at X334 l334 y334 z334 st334 hQ334
    subst l334 y334 z334
    obtain ⟨st_334, rfl, N334q, K334, pr334_0⟩ := hQ334
    have N334 := Fr.app N331 N334q
    refine oG.st st334 ?_
    refine oG.st (fun _ k => XS.goto X334.here hx rfl (pc0 := 16) (pc' := 28) rfl (hb hby dj42_83_16) (by decide) (by decide) k) ?_
    show oG _ _ _ _ (T334.setTop (mkF m 28 #[.val (.ref a1), .val (.int (46 : Int32)), .val (.int p3)] [(.int ((Int32.ofNat st_334) - (1 : Int32)))]))
    obtain ⟨fs335, hr335, hrun335, hend335, hW335, hsm335⟩ := X334.leave (v := some (.int ((Int32.ofNat st_334) - (1 : Int32)))) (fun h => by rw [Bd.returns] at h; cases h)
    subst hPP
    refine ⟨_, _, own_retI X334 hx Bd.returns (hb hby dj42_83_28) hr335, hrun335, hend335, _, _, rfl, ?_, ⟨_, rfl⟩, hW335, hsm335.mono (by decide) (by decide)⟩
    · show Q_last2 Z _ _ _ _ _ h0 _ T334.heap _
      rw [K334]
      exact ⟨st_334, rfl, N334, rfl, pr334_0⟩
  ·
    subst hN330 hv330
    refine oG.st (fun _ k => XS.aloadN X0.here hx rfl (hb hby dj42_83_0) rfl rfl k) ?_
    show oG _ _ _ _ (s₁.setTop (mkF m 1 #[.val (.ref a1), .val (.int (46 : Int32)), .val (.int p3)] [(.ref a1)]))
    obtain ⟨cq336, kq336, q336a, q336b, q336c⟩ := isOf hZ e0 s1330
    obtain ⟨_, _, ⟨T336, L336, k336, n336⟩, -, X336, ⟨Lc336, hQ336, l336, y336, z336⟩, st336⟩ := X0.virtualBack hx (y := mN12) (z := mN12) hown (own_v hZ hw 60 rfl) (own_v hZ hw 61 rfl) (notFace_of_selects (args := #[]) (own_v hZ hw 63 rfl)) (own_v hZ hw 63 rfl) (own_v hZ hw 62 rfl) (by decide) (backOf (W := 0) (rm_isl1 l Z a0 hw [] a1 (1 : Int32) zc h0 OL s3330 st_C hzc) hZ (own_w hw 64 rfl) (own_w hw 11 rfl) (by decide) (by decide)) q336a q336c (g := (mkF m 1 #[.val (.ref a1), .val (.int (46 : Int32)), .val (.int p3)] [(.ref a1)])) rfl (by rw [hml]; rfl) (Steps.refl _) (argsL := []) (rest := []) (lenOf pd_329 rfl) rfl (by show 2 * 0 + _ ≤ _; exact Nat.le_of_eq rfl) (hb hby dj42_83_1) (fun _ _ => ⟨rfl, e0, (by decide : 0 + 0 ≤ _), (by decide : 0 + 0 ≤ _)⟩)
    dsimp only [Pt.U, Pt.locs, Pt.cells, Pt.slots] at X336 l336 y336 z336 st336 hQ336
    subst l336 y336 z336
    obtain ⟨rfl, N336q, K336⟩ := hQ336
    have N336 := Fr.app N0 N336q
    refine oG.tr st336 ?_
    show oG _ _ _ _ (T336.setTop (mkF m 4 #[.val (.ref a1), .val (.int (46 : Int32)), .val (.int p3)] [(.int (if (1 : Int32) = 0 then (1 : Int32) else 0))]))
    have hc337 : (if (1 : Int32) = 0 then (1 : Int32) else 0) = (0 : Int32) := by decide
    refine oG.st (fun _ k => XS.ifYes X336.here hx rfl (pc0 := 4) (pc' := 19) rfl (hb hby dj42_83_4) rfl ((if0 _ _).trans (teq hc337).1) (by decide) (by decide) k) ?_
    refine oG.st (fun _ k => XS.aloadN X336.here hx rfl (hb hby dj42_83_19) rfl rfl k) ?_
    show oG _ _ _ _ (T336.setTop (mkF m 20 #[.val (.ref a1), .val (.int (46 : Int32)), .val (.int p3)] [(.ref a1)]))
    obtain ⟨T338, X338, e338, st338⟩ := getF X336 hx hZ hown (host := "") (Or.inl (own_w hw 29 rfl)) Via.refl K336 s2330 (g := (mkF m 20 #[.val (.ref a1), .val (.int (46 : Int32)), .val (.int p3)] [(.ref a1)])) rfl rfl (hb hby dj42_83_20)
    refine oG.st st338 ?_
    refine oG.st (fun _ k => XS.iloadN X338.here hx rfl (hb hby dj42_83_23) rfl (XS.iloadN X338.here hx rfl (hb hby dj42_83_24) rfl k)) ?_
    show oG _ _ _ _ (T338.setTop (mkF m 25 #[.val (.ref a1), .val (.int (46 : Int32)), .val (.int p3)] [(.int p3), (.int (46 : Int32)), (.ref t1)]))
    obtain ⟨_, _, ⟨T339, L339, k339, n339⟩, -, X339, ⟨Lc339, hQ339, l339, y339, z339⟩, st339⟩ := Jvm.LawKit.callS X338 hx (y := mN30) hown (own_v hZ hw 123 rfl) (own_v hZ hw 124 rfl) (own_v hZ hw 92 rfl) (own_v hZ hw 125 rfl) (by decide) (backOf (W := 0) (rm_u16last l Z a0 hw [] t1 p3 cs kb330 h0 OL s4330 st_A st_H st_L hle hp3 p0_.rng) hZ (own_w hw 125 rfl) (own_w hw 92 rfl) (by decide) (by decide)) (g := (mkF m 25 #[.val (.ref a1), .val (.int (46 : Int32)), .val (.int p3)] [(.int p3), (.int (46 : Int32)), (.ref t1)])) rfl (by rw [hml]; rfl) (argsL := [(.ref t1), (.int (46 : Int32)), (.int p3)]) (rest := []) (lenOf pd_415 rfl) rfl (by show 2 * 0 + _ ≤ _; exact Nat.le_of_eq rfl) (hb hby dj42_83_25) (fun _ _ => ⟨rfl, e338, (by decide : 0 + 0 ≤ _), (by decide : 0 + 0 ≤ _)⟩)
    dsimp only [Pt.U, Pt.locs, Pt.cells, Pt.slots] at X339 l339 y339 z339 st339 hQ339
    subst l339 y339 z339
    obtain ⟨st_339, rfl, N339q, K339, pr339_0⟩ := hQ339
    have N339 := Fr.app N336 N339q
    refine oG.st st339 ?_
    show oG _ _ _ _ (T339.setTop (mkF m 28 #[.val (.ref a1), .val (.int (46 : Int32)), .val (.int p3)] [(.int ((Int32.ofNat st_339) - (1 : Int32)))]))
    obtain ⟨fs340, hr340, hrun340, hend340, hW340, hsm340⟩ := X339.leave (v := some (.int ((Int32.ofNat st_339) - (1 : Int32)))) (fun h => by rw [Bd.returns] at h; cases h)
    subst hPP
    refine ⟨_, _, own_retI X339 hx Bd.returns (hb hby dj42_83_28) hr340, hrun340, hend340, _, _, rfl, ?_, ⟨_, rfl⟩, hW340, hsm340.mono (by decide) (by decide)⟩
    · show Q_last2 Z _ _ _ _ _ h0 _ T339.heap _
      rw [K339]
      exact ⟨st_339, rfl, N339, rfl, pr339_0⟩
theorem dj42_82_0 : decode cJ13 0 = .ok (.aload_n 0, 1) := by decide +kernel
theorem dj42_82_1 : decode cJ13 1 = .ok (.iload_n 1, 1) := by decide +kernel
theorem dj42_82_2 : decode cJ13 2 = .ok (.aload_n 0, 1) := by decide +kernel
theorem pd_427 : parseMethodDescriptor "()I" = some ⟨[], some .int⟩ := by decide +kernel
theorem dj42_82_3 : decode cJ13 3 = .ok (.invokevirtual 505, 3) := by decide +kernel
theorem dj42_82_6 : decode cJ13 6 = .ok (.iconst 1, 1) := by decide +kernel
theorem dj42_82_7 : decode cJ13 7 = .ok (.isub, 1) := by decide +kernel
theorem dj42_82_8 : decode cJ13 8 = .ok (.invokevirtual 641, 3) := by decide +kernel
theorem dj42_82_11 : decode cJ13 11 = .ok (.ireturn, 1) := by decide +kernel
def Q_last1 (Z : State) (a1 : Nat) (t1 : Nat) (cs : List Int32) (zc : Int32) (h0 : Heap) (v : Option Value) (h : Heap) (L : List Loc) : Prop := ∃ (st : Nat), v = some (.int ((Int32.ofNat st) - (1 : Int32))) ∧ Fr Z.heap.size L ∧ h = h0 ∧ (own_Ld cs 46 st)
set_option maxRecDepth 65536 in
set_option maxHeartbeats 40000000 in
theorem rm_last1 (l : Launch) (Z : State) (a0 : Array Value) (hw : ∀ d ∈ tables_1, d.before a0 Z = true) (ws : List Jvm.Cond) (a1 : Nat) (t1 : Nat) (cs : List Int32) (zc : Int32) (h0 : Heap) (OL : Old Z Z.heap.size h0) (p0_ : own_Str Z h0 a1 t1 cs) (st_C : Sta Z Z.heap "java/lang/String" "COMPACT_STRINGS" "Z" (.int zc)) (st_A : Sta Z Z.heap "java/lang/StringUTF16" "$assertionsDisabled" "Z" (.int (1 : Int32))) (st_H : Sta Z Z.heap "java/lang/StringUTF16" "HI_BYTE_SHIFT" "I" (.int (0 : Int32))) (st_L : Sta Z Z.heap "java/lang/StringUTF16" "LO_BYTE_SHIFT" "I" (.int (8 : Int32))) (hzc : ¬ zc = 0) (hle : cs.length ≤ 4) :
    MetFree l mN13 (head1 (Jvm.Cond.code mN13 jdk_42_method_82_code 2 (some .int) :: ws) rM18) (fun a U => a = #[(.ref a1), (.int (46 : Int32))] ∧ Z.Warmed39 U.vm ∧ U.heap = h0) (fun _ _ _ _ _ => True) (fun _ U o U' => ∃ v L, o = .returned v ∧ Q_last1 Z a1 t1 cs zc h0 v U'.heap L ∧ FrameEnd U o U' L rM18.cells rM18.slots) := by
  refine MetFree.of_bodySF (plainFor_of_name pn_0) hisR ?_
  intro p e s m args below meth c s₁ Bd hml0 hP hK
  obtain ⟨rfl, hZ, hh⟩ := hP
  have hx := Bd.exec
  have hby := Bd.bytes
  have hml : c.maxLocals = 2 := hml0
  have hown : s.vm.findClass "java/lang/String" = some m.cls := findClass_of_methodNamed Bd.named
  have hnm := (name_of_methodNamed Bd.named Bd.method).1
  have X0 : Stand p l e rM18 s m #[(.ref a1), (.int (46 : Int32))] below meth c s₁ [] 0 0 := Stand.of_body Bd
  have e0 : s₁.heap = h0 := by rw [← hh, Bd.state]; rfl
  have N0 := Fr.nil Z.heap.size
  have Z0 : Z.heap.size ≤ h0.size := OL.2.1
  have lt_0 : @LT.lt Nat _ a1 h0.size := p0_.lt
  have ltv_0 : @LT.lt Nat _ t1 h0.size := p0_.ltv
  show oG p.tables e below (fun o tE => ∃ v L, o = .returned v ∧ Q_last1 Z a1 t1 cs zc h0 v tE.heap L ∧ FrameEnd s o tE L rM18.cells rM18.slots) (s₁.setTop (entryFrame m #[(.ref a1), (.int (46 : Int32))] 2))
  refine own_hd (fun PP hPP => ?_)
  refine oG.st (fun t k => castTop (ef_73 m a1 (46 : Int32)) k) ?_
  refine oG.st (fun _ k => XS.aloadN X0.here hx rfl (hb hby dj42_82_0) rfl rfl (XS.iloadN X0.here hx rfl (hb hby dj42_82_1) rfl (XS.aloadN X0.here hx rfl (hb hby dj42_82_2) rfl rfl k))) ?_
  show oG _ _ _ _ (s₁.setTop (mkF m 3 #[.val (.ref a1), .val (.int (46 : Int32))] [(.ref a1), (.int (46 : Int32)), (.ref a1)]))
  obtain ⟨kb342, cd342, N342_, vs342, s1342, s2342, s3342, s4342, s5342, s6342, s7342⟩ := id p0_
  obtain ⟨cq341, kq341, q341a, q341b, q341c⟩ := isOf hZ e0 p0_.exa
  obtain ⟨_, _, ⟨T341, L341, k341, n341⟩, -, X341, ⟨Lc341, hQ341, l341, y341, z341⟩, st341⟩ := X0.virtualBack hx (y := mN15) (z := mN15) hown (own_v hZ hw 44 rfl) (own_v hZ hw 45 rfl) (notFace_of_selects (args := #[]) (own_v hZ hw 47 rfl)) (own_v hZ hw 47 rfl) (own_v hZ hw 46 rfl) (by decide) (StrChars.Road.lenW (W := 2) hZ (own_hln hw) (kI := 4) (own_w hw 10 rfl) s1342 s2342 s3342 s4342 s5342 s6342 (st_C.ext OL.2) hzc s7342 (by decide) (by decide)) q341a q341c (g := (mkF m 3 #[.val (.ref a1), .val (.int (46 : Int32))] [(.ref a1), (.int (46 : Int32)), (.ref a1)])) rfl (by rw [hml]; rfl) (Steps.refl _) (argsL := []) (rest := [(.int (46 : Int32)), (.ref a1)]) (lenOf pd_427 rfl) rfl (by show 2 * 0 + _ ≤ _; exact Nat.le_of_eq rfl) (hb hby dj42_82_3) (fun _ _ => ⟨rfl, e0, (by decide : 0 + 0 ≤ _), (by decide : 0 + 0 ≤ _)⟩)
  dsimp only [Pt.U, Pt.locs, Pt.cells, Pt.slots] at X341 l341 y341 z341 st341 hQ341
  subst l341 y341 z341
  obtain ⟨rfl, rfl, K341⟩ := hQ341
  have N341 := Fr.app N0 (Fr.nil Z.heap.size)
  refine oG.tr st341 ?_
  refine oG.st (fun _ k => XS.iconst X341.here hx rfl (hb hby dj42_82_6) (XS.isub X341.here hx rfl (hb hby dj42_82_7) rfl k)) ?_
  show oG _ _ _ _ (T341.setTop (mkF m 8 #[.val (.ref a1), .val (.int (46 : Int32))] [(.int ((Int32.ofNat cs.length) - (1 : Int32))), (.int (46 : Int32)), (.ref a1)]))
  obtain ⟨cq343, kq343, q343a, q343b, q343c⟩ := isOf hZ K341 p0_.exa
  obtain ⟨_, _, ⟨T343, L343, k343, n343⟩, -, X343, ⟨Lc343, hQ343, l343, y343, z343⟩, st343⟩ := X341.virtualBack hx (y := mN14) (z := mN14) hown (own_v hZ hw 55 rfl) (own_v hZ hw 56 rfl) (notFace_of_selects (args := #[]) (own_v hZ hw 58 rfl)) (own_v hZ hw 58 rfl) (own_v hZ hw 57 rfl) (by decide) (backOf (W := 0) (rm_last2 l Z a0 hw [] a1 ((Int32.ofNat cs.length) - (1 : Int32)) t1 cs zc h0 OL p0_ st_C st_A st_H st_L hzc hle rfl) hZ (own_w hw 59 rfl) (own_w hw 11 rfl) (by decide) (by decide)) q343a q343c (g := (mkF m 8 #[.val (.ref a1), .val (.int (46 : Int32))] [(.int ((Int32.ofNat cs.length) - (1 : Int32))), (.int (46 : Int32)), (.ref a1)])) rfl (by rw [hml]; rfl) (Steps.refl _) (argsL := [(.int (46 : Int32)), (.int ((Int32.ofNat cs.length) - (1 : Int32)))]) (rest := []) (lenOf pd_222 rfl) rfl (by show 2 * 0 + _ ≤ _; exact Nat.le_of_eq rfl) (hb hby dj42_82_8) (fun _ _ => ⟨rfl, K341, (by decide : 0 + 0 ≤ _), (by decide : 0 + 0 ≤ _)⟩)
  dsimp only [Pt.U, Pt.locs, Pt.cells, Pt.slots] at X343 l343 y343 z343 st343 hQ343
  subst l343 y343 z343
  obtain ⟨st_343, rfl, N343q, K343, pr343_0⟩ := hQ343
  have N343 := Fr.app N341 N343q
  refine oG.tr st343 ?_
  show oG _ _ _ _ (T343.setTop (mkF m 11 #[.val (.ref a1), .val (.int (46 : Int32))] [(.int ((Int32.ofNat st_343) - (1 : Int32)))]))
  obtain ⟨fs344, hr344, hrun344, hend344, hW344, hsm344⟩ := X343.leave (v := some (.int ((Int32.ofNat st_343) - (1 : Int32)))) (fun h => by rw [Bd.returns] at h; cases h)
  subst hPP
  refine ⟨_, _, own_retI X343 hx Bd.returns (hb hby dj42_82_11) hr344, hrun344, hend344, _, _, rfl, ?_, ⟨_, rfl⟩, hW344, hsm344.mono (by decide) (by decide)⟩
  · show Q_last1 Z _ _ _ _ h0 _ T343.heap _
    rw [K343]
    exact ⟨st_343, rfl, N343, rfl, pr343_0⟩
theorem dj52_22_0 : decode cJ25 0 = .ok (.iload_n 1, 1) := by decide +kernel
theorem dj52_22_1 : decode cJ25 1 = .ok (.iload 4, 2) := by decide +kernel
theorem dj52_22_3 : decode cJ25 3 = .ok (.aload_n 0, 1) := by decide +kernel
theorem pd_436 : parseMethodDescriptor "(II[B)V" = some ⟨[.int, .int, (.array .byte)], none⟩ := by decide +kernel
theorem dj52_22_4 : decode cJ25 4 = .ok (.invokestatic 173, 3) := by decide +kernel
theorem dj52_22_7 : decode cJ25 7 = .ok (.iconst 0, 1) := by decide +kernel
theorem dj52_22_8 : decode cJ25 8 = .ok (.istore 5, 2) := by decide +kernel
theorem dj52_22_10 : decode cJ25 10 = .ok (.iload 5, 2) := by decide +kernel
theorem dj52_22_12 : decode cJ25 12 = .ok (.iload 4, 2) := by decide +kernel
theorem dj52_22_14 : decode cJ25 14 = .ok (.if_icmp .ge 39, 3) := by decide +kernel
theorem dj52_22_17 : decode cJ25 17 = .ok (.aload_n 0, 1) := by decide +kernel
theorem dj52_22_18 : decode cJ25 18 = .ok (.iload_n 1, 1) := by decide +kernel
theorem dj52_22_19 : decode cJ25 19 = .ok (.invokestatic 71, 3) := by decide +kernel
theorem dj52_22_22 : decode cJ25 22 = .ok (.istore 6, 2) := by decide +kernel
theorem dj52_22_24 : decode cJ25 24 = .ok (.iload 6, 2) := by decide +kernel
theorem dj52_22_26 : decode cJ25 26 = .ok (.sipush 255, 3) := by decide +kernel
theorem dj52_22_29 : decode cJ25 29 = .ok (.if_icmp .le 6, 3) := by decide +kernel
theorem dj52_22_32 : decode cJ25 32 = .ok (.iload 5, 2) := by decide +kernel
theorem dj52_22_34 : decode cJ25 34 = .ok (.ireturn, 1) := by decide +kernel
theorem dj52_22_35 : decode cJ25 35 = .ok (.aload_n 2, 1) := by decide +kernel
theorem dj52_22_36 : decode cJ25 36 = .ok (.iload_n 3, 1) := by decide +kernel
theorem dj52_22_37 : decode cJ25 37 = .ok (.iload 6, 2) := by decide +kernel
theorem dj52_22_39 : decode cJ25 39 = .ok (.i2b, 1) := by decide +kernel
theorem dj52_22_40 : decode cJ25 40 = .ok (.bastore, 1) := by decide +kernel
theorem dj52_22_41 : decode cJ25 41 = .ok (.iinc 1 1, 3) := by decide +kernel
theorem dj52_22_44 : decode cJ25 44 = .ok (.iinc 3 1, 3) := by decide +kernel
theorem dj52_22_47 : decode cJ25 47 = .ok (.iinc 5 1, 3) := by decide +kernel
theorem dj52_22_50 : decode cJ25 50 = .ok (.goto (-40), 3) := by decide +kernel
theorem dj52_22_53 : decode cJ25 53 = .ok (.iload 4, 2) := by decide +kernel
theorem dj52_22_55 : decode cJ25 55 = .ok (.ireturn, 1) := by decide +kernel
def Q_ucmp5 (Z : State) (a1 : Nat) (a3 : Nat) (p5 : Int32) (cs : List Int32) (k : ClassId) (mm : Nat) (k3 : ClassId) (fm : Value) (h0 : Heap) (v : Option Value) (h : Heap) (L : List Loc) : Prop := ∃ (f : Nat), v = some (.int (Int32.ofNat f)) ∧ Fr Z.heap.size L ∧ Keep h0 h [a3] ∧ Arv Z h a3 k3 .byte p5 (own_low (cs.take f)) (.int (0 : Int32)) ∧ (f ≤ mm) ∧ (f < mm → (255 : Int32) < cs.getD f 0) ∧ (∀ j, j < f → ¬ (255 : Int32) < cs.getD j 0)
set_option maxRecDepth 65536 in
set_option maxHeartbeats 40000000 in
theorem rm_ucmp5 (l : Launch) (Z : State) (a0 : Array Value) (hw : ∀ d ∈ tables_1, d.before a0 Z = true) (ws : List Jvm.Cond) (a1 : Nat) (a3 : Nat) (p5 : Int32) (cs : List Int32) (k : ClassId) (mm : Nat) (k3 : ClassId) (fm : Value) (h0 : Heap) (OL : Old Z Z.heap.size h0) (p0_ : Arv Z h0 a1 k .byte (Int32.ofNat (2 * cs.length)) (StrChars.Road.wideBytes cs) (.int (0 : Int32))) (p1_ : Arv Z h0 a3 k3 .byte p5 [] (.int (0 : Int32))) (st_SIOOBE_FORMATTER : Sta Z Z.heap "jdk/internal/util/Preconditions" "SIOOBE_FORMATTER" "Ljava/util/function/BiFunction;" fm) (st_A : Sta Z Z.heap "java/lang/StringUTF16" "$assertionsDisabled" "Z" (.int (1 : Int32))) (st_H : Sta Z Z.heap "java/lang/StringUTF16" "HI_BYTE_SHIFT" "I" (.int (0 : Int32))) (st_L : Sta Z Z.heap "java/lang/StringUTF16" "LO_BYTE_SHIFT" "I" (.int (8 : Int32))) (hp5 : p5 = Int32.ofNat mm) (hmm : mm ≤ cs.length) (hle : cs.length ≤ 4) (hrng : ∀ c ∈ cs, ¬ c < 0 ∧ ¬ (65535 : Int32) < c) (hfm : fm.isRef = true) (hn0 : Z.heap.size ≤ a3) (hne : @Ne Nat a1 a3) :
    MetFree l mN26 (head1 (Jvm.Cond.code mN26 jdk_52_method_22_code 7 (some .int) :: ws) rM15) (fun a U => a = #[(.ref a1), (.int (0 : Int32)), (.ref a3), (.int (0 : Int32)), (.int p5)] ∧ Z.Warmed39 U.vm ∧ U.heap = h0) (fun _ _ _ _ _ => True) (fun _ U o U' => ∃ v L, o = .returned v ∧ Q_ucmp5 Z a1 a3 p5 cs k mm k3 fm h0 v U'.heap L ∧ FrameEnd U o U' L rM15.cells rM15.slots) := by
  refine MetFree.of_bodySF (plainFor_of_name pn_25) hisR ?_
  intro p e s m args below meth c s₁ Bd hml0 hP hK
  obtain ⟨rfl, hZ, hh⟩ := hP
  have hx := Bd.exec
  have hby := Bd.bytes
  have hml : c.maxLocals = 7 := hml0
  have hown : s.vm.findClass "java/lang/StringUTF16" = some m.cls := findClass_of_methodNamed Bd.named
  have hnm := (name_of_methodNamed Bd.named Bd.method).1
  have X0 : Stand p l e rM15 s m #[(.ref a1), (.int (0 : Int32)), (.ref a3), (.int (0 : Int32)), (.int p5)] below meth c s₁ [] 0 0 := Stand.of_body Bd
  have e0 : s₁.heap = h0 := by rw [← hh, Bd.state]; rfl
  have N0 := Fr.nil Z.heap.size
  have Z0 : Z.heap.size ≤ h0.size := OL.2.1
  have lt_0 : @LT.lt Nat _ a1 h0.size := p0_.lt
  have lt_1 : @LT.lt Nat _ a3 h0.size := p1_.lt
  show oG p.tables e below (fun o tE => ∃ v L, o = .returned v ∧ Q_ucmp5 Z a1 a3 p5 cs k mm k3 fm h0 v tE.heap L ∧ FrameEnd s o tE L rM15.cells rM15.slots) (s₁.setTop (entryFrame m #[(.ref a1), (.int (0 : Int32)), (.ref a3), (.int (0 : Int32)), (.int p5)] 7))
  refine own_hd (fun PP hPP => ?_)
  refine oG.st (fun t k => castTop (ef_26 m a1 (0 : Int32) a3 (0 : Int32) p5) k) ?_
  subst hp5
  refine oG.st (fun _ k => XS.iloadN X0.here hx rfl (hb hby dj52_22_0) rfl (XS.iload X0.here hx rfl (hb hby dj52_22_1) rfl (XS.aloadN X0.here hx rfl (hb hby dj52_22_3) rfl rfl k))) ?_
  show oG _ _ _ _ (s₁.setTop (mkF m 4 #[.val (.ref a1), .val (.int (0 : Int32)), .val (.ref a3), .val (.int (0 : Int32)), .val (.int (Int32.ofNat mm)), .unset, .unset] [(.ref a1), (.int (Int32.ofNat mm)), (.int (0 : Int32))]))
  obtain ⟨_, _, ⟨T345, L345, k345, n345⟩, -, X345, ⟨Lc345, hQ345, l345, y345, z345⟩, st345⟩ := Jvm.LawKit.callS X0 hx (y := mN22) hown (own_v hZ hw 138 rfl) (own_v hZ hw 139 rfl) (own_v hZ hw 92 rfl) (own_v hZ hw 140 rfl) (by decide) (backOf (W := 0) (rm_uboc l Z a0 hw [] (Int32.ofNat mm) a1 cs k mm fm h0 OL p0_ st_SIOOBE_FORMATTER rfl hmm hle hfm) hZ (own_w hw 140 rfl) (own_w hw 92 rfl) (by decide) (by decide)) (g := (mkF m 4 #[.val (.ref a1), .val (.int (0 : Int32)), .val (.ref a3), .val (.int (0 : Int32)), .val (.int (Int32.ofNat mm)), .unset, .unset] [(.ref a1), (.int (Int32.ofNat mm)), (.int (0 : Int32))])) rfl (by rw [hml]; rfl) (argsL := [(.int (0 : Int32)), (.int (Int32.ofNat mm)), (.ref a1)]) (rest := []) (lenOf pd_436 rfl) rfl (by show 2 * 0 + _ ≤ _; exact Nat.le_of_eq rfl) (hb hby dj52_22_4) (fun _ _ => ⟨rfl, e0, (by decide : 0 + 0 ≤ _), (by decide : 0 + 0 ≤ _)⟩)
  dsimp only [Pt.U, Pt.locs, Pt.cells, Pt.slots] at X345 l345 y345 z345 st345 hQ345
  subst l345 y345 z345
  obtain ⟨rfl, N345q, K345⟩ := hQ345
  have N345 := Fr.app N0 N345q
  refine oG.st st345 ?_
  refine oG.st (fun _ k => XS.iconst X345.here hx rfl (hb hby dj52_22_7) (XS.istore X345.here hx rfl (hb hby dj52_22_8) rfl (l' := #[.val (.ref a1), .val (.int (0 : Int32)), .val (.ref a3), .val (.int (0 : Int32)), .val (.int (Int32.ofNat mm)), .val (.int (0 : Int32)), .unset]) rfl k)) ?_
  show oG _ _ _ _ (T345.setTop (mkF m 10 #[.val (.ref a1), .val (.int (0 : Int32)), .val (.ref a3), .val (.int (0 : Int32)), .val (.int (Int32.ofNat mm)), .val (.int (0 : Int32)), .unset] []))
  have LP346 : ∀ (nL : Nat) (i : Nat) (s6 : Slot) (TL346 : State) (hL346 : Heap) (lL346 : List Loc), (i ≤ mm) → (One s6) → (∀ j, j < i → ¬ (255 : Int32) < cs.getD j 0) → (Stand p l e rM15 s m #[(.ref a1), (.int (0 : Int32)), (.ref a3), (.int (0 : Int32)), (.int (Int32.ofNat mm))] below meth c TL346 lL346 0 0) → (TL346.heap = hL346) → (Fr Z.heap.size lL346) → (Keep h0 hL346 [a3]) → (Old Z Z.heap.size hL346) → (Arv Z hL346 a1 k .byte (Int32.ofNat (2 * cs.length)) (StrChars.Road.wideBytes cs) (.int (0 : Int32))) → (Arv Z hL346 a3 k3 .byte (Int32.ofNat mm) (own_low (cs.take i)) (.int (0 : Int32))) → mm - i = nL → oG p.tables e below PP (TL346.setTop (mkF m 10 #[.val (.ref a1), .val (.int (Int32.ofNat i)), .val (.ref a3), .val (.int (Int32.ofNat i)), .val (.int (Int32.ofNat mm)), .val (.int (Int32.ofNat i)), s6] [])) := by
    intro nL
    induction nL using Nat.strongRecOn with
    | _ nL ihL =>
      intro i s6 TL346 hL346 lL346 hi hs6 hlow XL346 eL346 NL346 KL346 OL346 fL346_0 fL346_1 hmL
      have zL346 : h0.size ≤ hL346.size := KL346.1
      have ltL346_0 : @LT.lt Nat _ a1 hL346.size := fL346_0.lt
      have ltL346_1 : @LT.lt Nat _ a3 hL346.size := fL346_1.lt
      refine oG.st (fun _ k => XS.iload XL346.here hx rfl (hb hby dj52_22_10) rfl (XS.iload XL346.here hx rfl (hb hby dj52_22_12) rfl k)) ?_
      show oG _ _ _ _ (TL346.setTop (mkF m 14 #[.val (.ref a1), .val (.int (Int32.ofNat i)), .val (.ref a3), .val (.int (Int32.ofNat i)), .val (.int (Int32.ofNat mm)), .val (.int (Int32.ofNat i)), s6] [(.int (Int32.ofNat mm)), (.int (Int32.ofNat i))]))
      by_cases h14 : (Int32.ofNat i) < (Int32.ofNat mm)
      ·
        refine oG.st (fun _ k => XS.icmpNo XL346.here hx rfl (hb hby dj52_22_14) rfl (tlt h14).2.1 k) ?_
        have hi7 : i < mm := (own_oflt (by omega) (by omega)).mp h14
        have hi8 : i < cs.length := by omega
        refine oG.st (fun _ k => XS.aloadN XL346.here hx rfl (hb hby dj52_22_17) rfl rfl (XS.iloadN XL346.here hx rfl (hb hby dj52_22_18) rfl k)) ?_
        show oG _ _ _ _ (TL346.setTop (mkF m 19 #[.val (.ref a1), .val (.int (Int32.ofNat i)), .val (.ref a3), .val (.int (Int32.ofNat i)), .val (.int (Int32.ofNat mm)), .val (.int (Int32.ofNat i)), s6] [(.int (Int32.ofNat i)), (.ref a1)]))
        obtain ⟨_, _, ⟨T347, L347, k347, n347⟩, -, X347, ⟨Lc347, hQ347, l347, y347, z347⟩, st347⟩ := Jvm.LawKit.callS XL346 hx (y := mN29) hown (own_v hZ hw 120 rfl) (own_v hZ hw 121 rfl) (own_v hZ hw 92 rfl) (own_v hZ hw 122 rfl) (by decide) (backOf (W := 0) (rm_getc l Z a0 hw [] a1 (Int32.ofNat i) i k (Int32.ofNat (2 * cs.length)) (StrChars.Road.wideBytes cs) (.int (0 : Int32)) (cs.getD (i) 0) hL346 OL346 fL346_0 st_A st_H st_L rfl (by rw [own_wlen]; omega) (by rw [own_wlen]) (by rw [own_wlen]; omega) (StrChars.Road.wide_lo _ _ _ hi8) (StrChars.Road.wide_hi _ _ _ hi8) (hrng _ (own_mem hi8))) hZ (own_w hw 122 rfl) (own_w hw 92 rfl) (by decide) (by decide)) (g := (mkF m 19 #[.val (.ref a1), .val (.int (Int32.ofNat i)), .val (.ref a3), .val (.int (Int32.ofNat i)), .val (.int (Int32.ofNat mm)), .val (.int (Int32.ofNat i)), s6] [(.int (Int32.ofNat i)), (.ref a1)])) rfl (by rw [hml]; rfl) (argsL := [(.ref a1), (.int (Int32.ofNat i))]) (rest := []) (lenOf pd_158 rfl) rfl (by show 2 * 0 + _ ≤ _; exact Nat.le_of_eq rfl) (hb hby dj52_22_19) (fun _ _ => ⟨rfl, eL346, (by decide : 0 + 0 ≤ _), (by decide : 0 + 0 ≤ _)⟩)
        dsimp only [Pt.U, Pt.locs, Pt.cells, Pt.slots] at X347 l347 y347 z347 st347 hQ347
        subst l347 y347 z347
        obtain ⟨rfl, N347q, K347⟩ := hQ347
        have N347 := Fr.app NL346 N347q
        refine oG.st st347 ?_
        refine oG.st (fun _ k => XS.istoreS X347.here hx rfl (hb hby dj52_22_22) rfl rfl hs6 (XS.iload X347.here hx rfl (hb hby dj52_22_24) rfl (XS.sipush X347.here hx rfl (hb hby dj52_22_26) k))) ?_
        show oG _ _ _ _ (T347.setTop (mkF m 29 #[.val (.ref a1), .val (.int (Int32.ofNat i)), .val (.ref a3), .val (.int (Int32.ofNat i)), .val (.int (Int32.ofNat mm)), .val (.int (Int32.ofNat i)), .val (.int (cs.getD (i) 0))] [(.int (255 : Int32)), (.int (cs.getD (i) 0))]))
        by_cases h29 : (255 : Int32) < (cs.getD (i) 0)
        ·
          refine oG.st (fun _ k => XS.icmpNo X347.here hx rfl (hb hby dj52_22_29) rfl (tlt h29).2.2.2 k) ?_
          refine oG.st (fun _ k => XS.iload X347.here hx rfl (hb hby dj52_22_32) rfl k) ?_
          show oG _ _ _ _ (T347.setTop (mkF m 34 #[.val (.ref a1), .val (.int (Int32.ofNat i)), .val (.ref a3), .val (.int (Int32.ofNat i)), .val (.int (Int32.ofNat mm)), .val (.int (Int32.ofNat i)), .val (.int (cs.getD (i) 0))] [(.int (Int32.ofNat i))]))
          obtain ⟨fs348, hr348, hrun348, hend348, hW348, hsm348⟩ := X347.leave (v := some (.int (Int32.ofNat i))) (fun h => by rw [Bd.returns] at h; cases h)
          subst hPP
          refine ⟨_, _, own_retI X347 hx Bd.returns (hb hby dj52_22_34) hr348, hrun348, hend348, _, _, rfl, ?_, ⟨_, rfl⟩, hW348, hsm348.mono (by decide) (by decide)⟩
          · show Q_ucmp5 Z _ _ _ _ _ _ _ _ h0 _ T347.heap _
            rw [K347]
            exact ⟨i, rfl, N347, KL346, fL346_1, hi, (fun _ => h29), hlow⟩
        ·
          refine oG.st (fun _ k => XS.icmpYes X347.here hx rfl (pc0 := 29) (pc' := 35) rfl (hb hby dj52_22_29) rfl (flt h29).2.2.2 (by decide) (by decide) k) ?_
          refine oG.st (fun _ k => XS.aloadN X347.here hx rfl (hb hby dj52_22_35) rfl rfl (XS.iloadN X347.here hx rfl (hb hby dj52_22_36) rfl (XS.iload X347.here hx rfl (hb hby dj52_22_37) rfl (XS.i2b X347.here hx rfl (hb hby dj52_22_39) rfl k)))) ?_
          show oG _ _ _ _ (T347.setTop (mkF m 40 #[.val (.ref a1), .val (.int (Int32.ofNat i)), .val (.ref a3), .val (.int (Int32.ofNat i)), .val (.int (Int32.ofNat mm)), .val (.int (Int32.ofNat i)), .val (.int (cs.getD (i) 0))] [(.int ((cs.getD (i) 0).toInt8.toInt32)), (.int (Int32.ofNat i)), (.ref a3)]))
          obtain ⟨c349, Ar349, q349, S349, Nn349, H349, G349⟩ := id fL346_1
          have hin349 : ¬ ((Int32.ofNat i) < 0 ∨ c349.slots.size ≤ ((Int32.ofNat i)).toNatClampNeg) := inb_of S349 ⟨own_of0 (by omega), (own_oflt (by omega) (by omega)).mpr hi7⟩
          obtain ⟨T349, h349, X349, e349, W349, st349⟩ := stB X347 hx hZ K347 Ar349 (j := (Int32.ofNat i)) hin349 (g := (mkF m 40 #[.val (.ref a1), .val (.int (Int32.ofNat i)), .val (.ref a3), .val (.int (Int32.ofNat i)), .val (.int (Int32.ofNat mm)), .val (.int (Int32.ofNat i)), .val (.int (cs.getD (i) 0))] [(.int ((cs.getD (i) 0).toInt8.toInt32)), (.int (Int32.ofNat i)), (.ref a3)])) rfl rfl (hb hby dj52_22_40)
          refine oG.st st349 ?_
          have N349 := Fr.snoc X349 N347 (by omega)
          have z349 : hL346.size ≤ h349.size := Nat.le_of_eq W349.size.symm
          have f351 : Arv Z h349 a3 k3 .byte (Int32.ofNat mm) (own_low (cs.take (i + 1))) (.int (0 : Int32)) := by
            rw [own_tkS hi8]
            exact own_pushB fL346_1 W349 (by rw [List.length_take, Nat.min_eq_left (by omega)]) (by rw [List.length_take]; omega)
          refine oG.st (fun _ k => XS.iinc X349.here hx rfl (hb hby dj52_22_41) rfl (l' := #[.val (.ref a1), .val (.int ((Int32.ofNat i) + (1 : Int32))), .val (.ref a3), .val (.int (Int32.ofNat i)), .val (.int (Int32.ofNat mm)), .val (.int (Int32.ofNat i)), .val (.int (cs.getD (i) 0))]) rfl (XS.iinc X349.here hx rfl (hb hby dj52_22_44) rfl (l' := #[.val (.ref a1), .val (.int ((Int32.ofNat i) + (1 : Int32))), .val (.ref a3), .val (.int ((Int32.ofNat i) + (1 : Int32))), .val (.int (Int32.ofNat mm)), .val (.int (Int32.ofNat i)), .val (.int (cs.getD (i) 0))]) rfl (XS.iinc X349.here hx rfl (hb hby dj52_22_47) rfl (l' := #[.val (.ref a1), .val (.int ((Int32.ofNat i) + (1 : Int32))), .val (.ref a3), .val (.int ((Int32.ofNat i) + (1 : Int32))), .val (.int (Int32.ofNat mm)), .val (.int ((Int32.ofNat i) + (1 : Int32))), .val (.int (cs.getD (i) 0))]) rfl k))) ?_
          show oG _ _ _ _ (T349.setTop (mkF m 50 #[.val (.ref a1), .val (.int ((Int32.ofNat i) + (1 : Int32))), .val (.ref a3), .val (.int ((Int32.ofNat i) + (1 : Int32))), .val (.int (Int32.ofNat mm)), .val (.int ((Int32.ofNat i) + (1 : Int32))), .val (.int (cs.getD (i) 0))] []))
          rw [own_ofS (by omega : i < 1073741823)]
          refine oG.st (fun _ k => XS.goto X349.here hx rfl (pc0 := 50) (pc' := 10) rfl (hb hby dj52_22_50) (by decide) (by decide) k) ?_
          show oG _ _ _ _ (T349.setTop (mkF m 10 #[.val (.ref a1), .val (.int (Int32.ofNat (i + 1))), .val (.ref a3), .val (.int (Int32.ofNat (i + 1))), .val (.int (Int32.ofNat mm)), .val (.int (Int32.ofNat (i + 1))), .val (.int (cs.getD (i) 0))] []))
          have K352 : Keep h0 h349 [a3] := KL346.wr W349 (Or.inl (List.mem_of_getElem? (i := 0) rfl))
          have f353 : Old Z Z.heap.size h349 := OL346.wr W349 (by omega)
          have f354 : Arv Z h349 a1 k .byte (Int32.ofNat (2 * cs.length)) (StrChars.Road.wideBytes cs) (.int (0 : Int32)) := fL346_0.other W349 hne
          exact ihL _ (by omega) (i + 1) _ T349 h349 _ (by omega) (One.val rfl) (fun j hj => by rcases Nat.lt_succ_iff_lt_or_eq.mp hj with q | q; exact hlow j q; exact q ▸ h29) X349 e349 N349 K352 f353 f354 f351 rfl
      ·
        refine oG.st (fun _ k => XS.icmpYes XL346.here hx rfl (pc0 := 14) (pc' := 53) rfl (hb hby dj52_22_14) rfl (flt h14).2.1 (by decide) (by decide) k) ?_
        have hi8 : i = mm := by
          have : ¬ i < mm := fun q => h14 ((own_oflt (by omega) (by omega)).mpr q)
          omega
        refine oG.st (fun _ k => XS.iload XL346.here hx rfl (hb hby dj52_22_53) rfl k) ?_
        show oG _ _ _ _ (TL346.setTop (mkF m 55 #[.val (.ref a1), .val (.int (Int32.ofNat i)), .val (.ref a3), .val (.int (Int32.ofNat i)), .val (.int (Int32.ofNat mm)), .val (.int (Int32.ofNat i)), s6] [(.int (Int32.ofNat mm))]))
        obtain ⟨fs355, hr355, hrun355, hend355, hW355, hsm355⟩ := XL346.leave (v := some (.int (Int32.ofNat mm))) (fun h => by rw [Bd.returns] at h; cases h)
        have f356 : Arv Z hL346 a3 k3 .byte (Int32.ofNat mm) (own_low (cs.take mm)) (.int (0 : Int32)) := by
          have q := fL346_1
          rw [hi8] at q
          exact q
        subst hPP
        refine ⟨_, _, own_retI XL346 hx Bd.returns (hb hby dj52_22_55) hr355, hrun355, hend355, _, _, rfl, ?_, ⟨_, rfl⟩, hW355, hsm355.mono (by decide) (by decide)⟩
        · show Q_ucmp5 Z _ _ _ _ _ _ _ _ h0 _ TL346.heap _
          rw [eL346]
          exact ⟨mm, rfl, NL346, KL346, f356, (Nat.le_refl _), (fun q => absurd q (Nat.lt_irrefl _)), (fun j hj => hlow j (by omega))⟩
  exact LP346 _ 0 .unset T345 h0 _ (Nat.zero_le _) One.u (fun j hj => absurd hj (Nat.not_lt_zero j)) X345 K345 N345 (Keep.refl h0 [a3]) OL p0_ (p1_.pad (fun _ => rfl)) rfl
theorem dj52_17_0 : decode cJ23 0 = .ok (.iload_n 2, 1) := by decide +kernel
theorem dj52_17_1 : decode cJ23 1 = .ok (.newarray .byte, 2) := by decide +kernel
theorem dj52_17_3 : decode cJ23 3 = .ok (.astore_n 3, 1) := by decide +kernel
theorem dj52_17_4 : decode cJ23 4 = .ok (.aload_n 0, 1) := by decide +kernel
theorem dj52_17_5 : decode cJ23 5 = .ok (.iload_n 1, 1) := by decide +kernel
theorem dj52_17_6 : decode cJ23 6 = .ok (.aload_n 3, 1) := by decide +kernel
theorem dj52_17_7 : decode cJ23 7 = .ok (.iconst 0, 1) := by decide +kernel
theorem dj52_17_8 : decode cJ23 8 = .ok (.iload_n 2, 1) := by decide +kernel
theorem pd_471 : parseMethodDescriptor "([BI[BII)I" = some ⟨[(.array .byte), .int, (.array .byte), .int, .int], some .int⟩ := by decide +kernel
theorem dj52_17_9 : decode cJ23 9 = .ok (.invokestatic 123, 3) := by decide +kernel
theorem dj52_17_12 : decode cJ23 12 = .ok (.istore 4, 2) := by decide +kernel
theorem dj52_17_14 : decode cJ23 14 = .ok (.iload 4, 2) := by decide +kernel
theorem dj52_17_16 : decode cJ23 16 = .ok (.iload_n 2, 1) := by decide +kernel
theorem dj52_17_17 : decode cJ23 17 = .ok (.if_icmp .eq 47, 3) := by decide +kernel
theorem dj52_17_64 : decode cJ23 64 = .ok (.aload_n 3, 1) := by decide +kernel
theorem dj52_17_65 : decode cJ23 65 = .ok (.areturn, 1) := by decide +kernel
theorem dj52_17_20 : decode cJ23 20 = .ok (.aload_n 0, 1) := by decide +kernel
theorem dj52_17_21 : decode cJ23 21 = .ok (.iload_n 1, 1) := by decide +kernel
theorem dj52_17_22 : decode cJ23 22 = .ok (.iconst 1, 1) := by decide +kernel
theorem dj52_17_23 : decode cJ23 23 = .ok (.ishl, 1) := by decide +kernel
theorem dj52_17_24 : decode cJ23 24 = .ok (.iload_n 1, 1) := by decide +kernel
theorem dj52_17_25 : decode cJ23 25 = .ok (.iload_n 2, 1) := by decide +kernel
theorem dj52_17_26 : decode cJ23 26 = .ok (.iadd, 1) := by decide +kernel
theorem dj52_17_27 : decode cJ23 27 = .ok (.invokestatic 11, 3) := by decide +kernel
theorem dj52_17_30 : decode cJ23 30 = .ok (.invokestatic 126, 3) := by decide +kernel
theorem dj52_17_33 : decode cJ23 33 = .ok (.astore 5, 2) := by decide +kernel
theorem dj52_17_35 : decode cJ23 35 = .ok (.aload 5, 2) := by decide +kernel
theorem dj52_17_37 : decode cJ23 37 = .ok (.iload 4, 2) := by decide +kernel
theorem dj52_17_39 : decode cJ23 39 = .ok (.invokestatic 71, 3) := by decide +kernel
theorem dj52_17_42 : decode cJ23 42 = .ok (.sipush 255, 3) := by decide +kernel
theorem dj52_17_45 : decode cJ23 45 = .ok (.if_icmp .gt 16, 3) := by decide +kernel
theorem dj52_17_61 : decode cJ23 61 = .ok (.aload 5, 2) := by decide +kernel
theorem dj52_17_63 : decode cJ23 63 = .ok (.areturn, 1) := by decide +kernel
def Q_ucmp3 (Z : State) (a1 : Nat) (p3 : Int32) (cs : List Int32) (k : ClassId) (mm : Nat) (fm : Value) (h0 : Heap) (v : Option Value) (h : Heap) (L : List Loc) : Prop := ∃ (x : Nat), ∃ (kx : ClassId), ∃ (cd : Int32), ∃ (N2 : Int32), ∃ (vs : List Value), v = some (.ref x) ∧ Fr Z.heap.size L ∧ Keep h0 h [] ∧ Arv Z h x kx .byte N2 vs (.int (0 : Int32)) ∧ (h0.size ≤ x) ∧ (StrChars.Road.CodA (cs.take mm) cd N2 vs)
set_option maxRecDepth 65536 in
set_option maxHeartbeats 40000000 in
theorem rm_ucmp3 (l : Launch) (Z : State) (a0 : Array Value) (hw : ∀ d ∈ tables_1, d.before a0 Z = true) (ws : List Jvm.Cond) (a1 : Nat) (p3 : Int32) (cs : List Int32) (k : ClassId) (mm : Nat) (fm : Value) (h0 : Heap) (OL : Old Z Z.heap.size h0) (p0_ : Arv Z h0 a1 k .byte (Int32.ofNat (2 * cs.length)) (StrChars.Road.wideBytes cs) (.int (0 : Int32))) (st_SIOOBE_FORMATTER : Sta Z Z.heap "jdk/internal/util/Preconditions" "SIOOBE_FORMATTER" "Ljava/util/function/BiFunction;" fm) (st_A : Sta Z Z.heap "java/lang/StringUTF16" "$assertionsDisabled" "Z" (.int (1 : Int32))) (st_H : Sta Z Z.heap "java/lang/StringUTF16" "HI_BYTE_SHIFT" "I" (.int (0 : Int32))) (st_L : Sta Z Z.heap "java/lang/StringUTF16" "LO_BYTE_SHIFT" "I" (.int (8 : Int32))) (hp3 : p3 = Int32.ofNat mm) (hmm : 0 < mm ∧ mm < cs.length) (hle : cs.length ≤ 4) (hrng : ∀ c ∈ cs, ¬ c < 0 ∧ ¬ (65535 : Int32) < c) (hfm : fm.isRef = true) :
    MetFree l mN25 (head1 (Jvm.Cond.code mN25 jdk_52_method_17_code 6 (some (.array .byte)) :: ws) rM21) (fun a U => a = #[(.ref a1), (.int (0 : Int32)), (.int p3)] ∧ Z.Warmed39 U.vm ∧ U.heap = h0) (fun _ _ _ _ _ => True) (fun _ U o U' => ∃ v L, o = .returned v ∧ Q_ucmp3 Z a1 p3 cs k mm fm h0 v U'.heap L ∧ FrameEnd U o U' L rM21.cells rM21.slots) := by
  refine MetFree.of_bodySF (plainFor_of_name pn_25) hisR ?_
  intro p e s m args below meth c s₁ Bd hml0 hP hK
  obtain ⟨rfl, hZ, hh⟩ := hP
  have hx := Bd.exec
  have hby := Bd.bytes
  have hml : c.maxLocals = 6 := hml0
  have hown : s.vm.findClass "java/lang/StringUTF16" = some m.cls := findClass_of_methodNamed Bd.named
  have hnm := (name_of_methodNamed Bd.named Bd.method).1
  have X0 : Stand p l e rM21 s m #[(.ref a1), (.int (0 : Int32)), (.int p3)] below meth c s₁ [] 0 0 := Stand.of_body Bd
  have e0 : s₁.heap = h0 := by rw [← hh, Bd.state]; rfl
  have N0 := Fr.nil Z.heap.size
  have Z0 : Z.heap.size ≤ h0.size := OL.2.1
  have lt_0 : @LT.lt Nat _ a1 h0.size := p0_.lt
  show oG p.tables e below (fun o tE => ∃ v L, o = .returned v ∧ Q_ucmp3 Z a1 p3 cs k mm fm h0 v tE.heap L ∧ FrameEnd s o tE L rM21.cells rM21.slots) (s₁.setTop (entryFrame m #[(.ref a1), (.int (0 : Int32)), (.int p3)] 6))
  refine own_hd (fun PP hPP => ?_)
  refine oG.st (fun t k => castTop (ef_135 m a1 (0 : Int32) p3) k) ?_
  subst hp3
  refine oG.st (fun _ k => XS.iloadN X0.here hx rfl (hb hby dj52_17_0) rfl k) ?_
  show oG _ _ _ _ (s₁.setTop (mkF m 1 #[.val (.ref a1), .val (.int (0 : Int32)), .val (.int (Int32.ofNat mm)), .unset, .unset, .unset] [(.int (Int32.ofNat mm))]))
  obtain ⟨T357, h357, k357, X357, e357, E357, A357, st357⟩ := newP X0 hx hZ (own_w hw 24 rfl) e0 (g := (mkF m 1 #[.val (.ref a1), .val (.int (0 : Int32)), .val (.int (Int32.ofNat mm)), .unset, .unset, .unset] [(.int (Int32.ofNat mm))])) rfl (hb hby dj52_17_1) rfl (own_of0 (by omega)) (cap := 4) (by rw [own_ofn (by omega)]; omega) (by decide) (by decide) (by decide)
  obtain ⟨b357, g357⟩ : ∃ z, z = h0.size := ⟨_, rfl⟩
  rw [← g357] at A357 st357
  refine oG.st st357 ?_
  have z357 : h0.size ≤ h357.size := E357.1
  have f358 : Arv Z h357 b357 k357 .byte (Int32.ofNat mm) [] (.int (0 : Int32)) := Arv.new A357 (own_of0 (by omega))
  have lt_b357 : @LT.lt Nat _ b357 h357.size := f358.lt
  refine oG.st (fun _ k => XS.astoreN X357.here hx rfl (hb hby dj52_17_3) rfl rfl (l' := #[.val (.ref a1), .val (.int (0 : Int32)), .val (.int (Int32.ofNat mm)), .val (.ref b357), .unset, .unset]) rfl (XS.aloadN X357.here hx rfl (hb hby dj52_17_4) rfl rfl (XS.iloadN X357.here hx rfl (hb hby dj52_17_5) rfl (XS.aloadN X357.here hx rfl (hb hby dj52_17_6) rfl rfl (XS.iconst X357.here hx rfl (hb hby dj52_17_7) k))))) ?_
  show oG _ _ _ _ (T357.setTop (mkF m 8 #[.val (.ref a1), .val (.int (0 : Int32)), .val (.int (Int32.ofNat mm)), .val (.ref b357), .unset, .unset] [(.int (0 : Int32)), (.ref b357), (.int (0 : Int32)), (.ref a1)]))
  refine oG.st (fun _ k => XS.iloadN X357.here hx rfl (hb hby dj52_17_8) rfl k) ?_
  show oG _ _ _ _ (T357.setTop (mkF m 9 #[.val (.ref a1), .val (.int (0 : Int32)), .val (.int (Int32.ofNat mm)), .val (.ref b357), .unset, .unset] [(.int (Int32.ofNat mm)), (.int (0 : Int32)), (.ref b357), (.int (0 : Int32)), (.ref a1)]))
  have f360 : Arv Z h357 a1 k .byte (Int32.ofNat (2 * cs.length)) (StrChars.Road.wideBytes cs) (.int (0 : Int32)) := p0_.ext E357
  have f361 : Old Z Z.heap.size h357 := OL.ext E357
  obtain ⟨_, _, ⟨T359, L359, k359, n359⟩, -, X359, ⟨Lc359, hQ359, l359, y359, z359⟩, st359⟩ := Jvm.LawKit.callS X357 hx (y := mN26) hown (own_v hZ hw 135 rfl) (own_v hZ hw 136 rfl) (own_v hZ hw 92 rfl) (own_v hZ hw 137 rfl) (by decide) (backOf (W := 0) (rm_ucmp5 l Z a0 hw [] a1 b357 (Int32.ofNat mm) cs k mm k357 fm h357 f361 f360 f358 st_SIOOBE_FORMATTER st_A st_H st_L rfl (by omega) hle hrng hfm (by omega) (by show @Ne Nat a1 b357; omega)) hZ (own_w hw 137 rfl) (own_w hw 92 rfl) (by decide) (by decide)) (g := (mkF m 9 #[.val (.ref a1), .val (.int (0 : Int32)), .val (.int (Int32.ofNat mm)), .val (.ref b357), .unset, .unset] [(.int (Int32.ofNat mm)), (.int (0 : Int32)), (.ref b357), (.int (0 : Int32)), (.ref a1)])) rfl (by rw [hml]; rfl) (argsL := [(.ref a1), (.int (0 : Int32)), (.ref b357), (.int (0 : Int32)), (.int (Int32.ofNat mm))]) (rest := []) (lenOf pd_471 rfl) rfl (by show 2 * 0 + _ ≤ _; exact Nat.le_of_eq rfl) (hb hby dj52_17_9) (fun _ _ => ⟨rfl, e357, (by decide : 1 + 0 ≤ _), (by decide : 4 + 0 ≤ _)⟩)
  dsimp only [Pt.U, Pt.locs, Pt.cells, Pt.slots] at X359 l359 y359 z359 st359 hQ359
  subst l359 y359 z359
  obtain ⟨f_359, rfl, N359q, K359, f359_0, pr359_0, pr359_1, pr359_2⟩ := hQ359
  have N359 := Fr.app N0 N359q
  have z359 : h357.size ≤ T359.heap.size := K359.1
  have lt359_0 : @LT.lt Nat _ b357 T359.heap.size := f359_0.lt
  refine oG.st st359 ?_
  refine oG.st (fun _ k => XS.istore X359.here hx rfl (hb hby dj52_17_12) rfl (l' := #[.val (.ref a1), .val (.int (0 : Int32)), .val (.int (Int32.ofNat mm)), .val (.ref b357), .val (.int (Int32.ofNat f_359)), .unset]) rfl (XS.iload X359.here hx rfl (hb hby dj52_17_14) rfl (XS.iloadN X359.here hx rfl (hb hby dj52_17_16) rfl k))) ?_
  show oG _ _ _ _ (T359.setTop (mkF m 17 #[.val (.ref a1), .val (.int (0 : Int32)), .val (.int (Int32.ofNat mm)), .val (.ref b357), .val (.int (Int32.ofNat f_359)), .unset] [(.int (Int32.ofNat mm)), (.int (Int32.ofNat f_359))]))
  by_cases h17 : (Int32.ofNat f_359) = (Int32.ofNat mm)
  ·
    refine oG.st (fun _ k => XS.icmpYes X359.here hx rfl (pc0 := 17) (pc' := 64) rfl (hb hby dj52_17_17) rfl (teq h17).1 (by decide) (by decide) k) ?_
    have hfm2 : f_359 = mm := (own_ofE (by omega) (by omega)).mp h17
    refine oG.st (fun _ k => XS.aloadN X359.here hx rfl (hb hby dj52_17_64) rfl rfl k) ?_
    show oG _ _ _ _ (T359.setTop (mkF m 65 #[.val (.ref a1), .val (.int (0 : Int32)), .val (.int (Int32.ofNat mm)), .val (.ref b357), .val (.int (Int32.ofNat f_359)), .unset] [(.ref b357)]))
    obtain ⟨fs362, hr362, hrun362, hend362, hW362, hsm362⟩ := X359.leave (v := some (.ref b357)) (fun h => by rw [Bd.returns] at h; cases h)
    have htl : (cs.take mm).length = mm := by rw [List.length_take]; omega
    have f363 : Arv Z T359.heap b357 k357 .byte (Int32.ofNat (cs.take mm).length) (own_low (cs.take mm)) (.int (0 : Int32)) := by
      have q := f359_0
      rw [hfm2] at q
      rw [htl]
      exact q
    have K364 : Keep h0 h357 [] := (Keep.refl h0 []).ext E357
    have K365 : Keep h0 T359.heap [] := K364.trans K359 (allS (Or.inr (by omega)) all0)
    subst hPP
    refine ⟨_, _, own_retA X359 hx Bd.returns rfl rfl (hb hby dj52_17_65) hr362, hrun362, hend362, _, _, rfl, ?_, ⟨_, rfl⟩, hW362, hsm362.mono (by decide) (by decide)⟩
    · show Q_ucmp3 Z _ _ _ _ _ _ h0 _ T359.heap _
      exact ⟨b357, k357, 0, _, _, rfl, N359, K365, f363, (by omega), (Or.inl ⟨rfl, rfl, rfl, own_tkM (fun j hj => pr359_2 j (by omega))⟩)⟩
  ·
    refine oG.st (fun _ k => XS.icmpNo X359.here hx rfl (hb hby dj52_17_17) rfl (feq h17).1 k) ?_
    have hfm2 : f_359 < mm := by
      have : ¬ f_359 = mm := fun q => h17 (by rw [q])
      have := pr359_0
      omega
    have hbig := pr359_1 hfm2
    refine oG.st (fun _ k => XS.aloadN X359.here hx rfl (hb hby dj52_17_20) rfl rfl (XS.iloadN X359.here hx rfl (hb hby dj52_17_21) rfl (XS.iconst X359.here hx rfl (hb hby dj52_17_22) (XS.ishl X359.here hx rfl (hb hby dj52_17_23) rfl k)))) ?_
    show oG _ _ _ _ (T359.setTop (mkF m 24 #[.val (.ref a1), .val (.int (0 : Int32)), .val (.int (Int32.ofNat mm)), .val (.ref b357), .val (.int (Int32.ofNat f_359)), .unset] [(.int ((0 : Int32) <<< ((1 : Int32) &&& 31))), (.ref a1)]))
    rw [show ((0 : Int32) <<< ((1 : Int32) &&& 31)) = (0 : Int32) from by decide]
    refine oG.st (fun _ k => XS.iloadN X359.here hx rfl (hb hby dj52_17_24) rfl (XS.iloadN X359.here hx rfl (hb hby dj52_17_25) rfl (XS.iadd X359.here hx rfl (hb hby dj52_17_26) rfl k))) ?_
    show oG _ _ _ _ (T359.setTop (mkF m 27 #[.val (.ref a1), .val (.int (0 : Int32)), .val (.int (Int32.ofNat mm)), .val (.ref b357), .val (.int (Int32.ofNat f_359)), .unset] [(.int ((0 : Int32) + (Int32.ofNat mm))), (.int (0 : Int32)), (.ref a1)]))
    rw [Int32.zero_add]
    show oG _ _ _ _ (T359.setTop (mkF m 27 #[.val (.ref a1), .val (.int (0 : Int32)), .val (.int (Int32.ofNat mm)), .val (.ref b357), .val (.int (Int32.ofNat f_359)), .unset] [(.int (Int32.ofNat mm)), (.int (0 : Int32)), (.ref a1)]))
    have f367 : Old Z Z.heap.size T359.heap := f361.keep K359 (allS (by omega) all0)
    obtain ⟨_, _, ⟨T366, L366, k366, n366⟩, -, X366, ⟨Lc366, hQ366, l366, y366, z366⟩, st366⟩ := Jvm.LawKit.callS X359 hx (y := mN33) hown (own_v hZ hw 110 rfl) (own_v hZ hw 111 rfl) (own_v hZ hw 92 rfl) (own_v hZ hw 112 rfl) (by decide) (backOf (W := 2) (rm_nbl l Z a0 hw [] (Int32.ofNat mm) mm T359.heap f367 rfl (by omega)) hZ (own_w hw 112 rfl) (own_w hw 92 rfl) (by decide) (by decide)) (g := (mkF m 27 #[.val (.ref a1), .val (.int (0 : Int32)), .val (.int (Int32.ofNat mm)), .val (.ref b357), .val (.int (Int32.ofNat f_359)), .unset] [(.int (Int32.ofNat mm)), (.int (0 : Int32)), (.ref a1)])) rfl (by rw [hml]; rfl) (argsL := [(.int (Int32.ofNat mm))]) (rest := [(.int (0 : Int32)), (.ref a1)]) (lenOf pd_109 rfl) rfl (by show 2 * 0 + _ ≤ _; exact Nat.le_of_eq rfl) (hb hby dj52_17_27) (fun _ _ => ⟨rfl, rfl, (by decide : 1 + 0 ≤ _), (by decide : 4 + 0 ≤ _)⟩)
    dsimp only [Pt.U, Pt.locs, Pt.cells, Pt.slots] at X366 l366 y366 z366 st366 hQ366
    subst l366 y366 z366
    obtain ⟨rfl, N366q, K366⟩ := hQ366
    have N366 := Fr.app N359 N366q
    refine oG.st st366 ?_
    show oG _ _ _ _ (T366.setTop (mkF m 30 #[.val (.ref a1), .val (.int (0 : Int32)), .val (.int (Int32.ofNat mm)), .val (.ref b357), .val (.int (Int32.ofNat f_359)), .unset] [(.int (Int32.ofNat (2 * mm))), (.int (0 : Int32)), (.ref a1)]))
    have f369 : Arv Z T359.heap a1 k .byte (Int32.ofNat (2 * cs.length)) (StrChars.Road.wideBytes cs) (.int (0 : Int32)) := f360.keep K359 (ninS (by show @Ne Nat a1 b357; omega) nin0)
    have f370 : Arv Z T359.heap a1 k .byte (Int32.ofNat (2 * cs.length)) (own_low (own_wl cs)) (.int (0 : Int32)) := by
      rw [← own_wlB]
      exact f369
    obtain ⟨_, _, ⟨T368, L368, k368, n368⟩, -, X368, ⟨Lc368, hQ368, l368, y368, z368⟩, st368⟩ := Jvm.LawKit.callS X366 hx (y := mN38) hown (own_v hZ hw 150 rfl) (own_v hZ hw 151 rfl) (own_v hZ hw 152 rfl) (own_v hZ hw 153 rfl) (by decide) (backOf (W := 0) (rm_cor l Z a0 hw [] a1 (0 : Int32) (Int32.ofNat (2 * mm)) 0 (2 * mm) (own_wl cs) (2 * cs.length) k T359.heap f367 f370 rfl rfl (Nat.zero_le _) (by rw [own_wlL]; omega) (by rw [own_wlL]; exact Nat.le_refl _) (by omega) (by omega) (fun q => by omega)) hZ (own_w hw 153 rfl) (own_w hw 152 rfl) (by decide) (by decide)) (g := (mkF m 30 #[.val (.ref a1), .val (.int (0 : Int32)), .val (.int (Int32.ofNat mm)), .val (.ref b357), .val (.int (Int32.ofNat f_359)), .unset] [(.int (Int32.ofNat (2 * mm))), (.int (0 : Int32)), (.ref a1)])) rfl (by rw [hml]; rfl) (argsL := [(.ref a1), (.int (0 : Int32)), (.int (Int32.ofNat (2 * mm)))]) (rest := []) (lenOf pd_236 rfl) rfl (by show 2 * 0 + _ ≤ _; exact Nat.le_of_eq rfl) (hb hby dj52_17_30) (fun _ _ => ⟨rfl, K366, (by decide : 1 + 1 ≤ _), (by decide : 4 + 8 ≤ _)⟩)
    dsimp only [Pt.U, Pt.locs, Pt.cells, Pt.slots] at X368 l368 y368 z368 st368 hQ368
    subst l368 y368 z368
    obtain ⟨x_368, kx_368, rfl, N368q, K368, f368_0, pr368_0⟩ := hQ368
    have N368 := Fr.app N366 N368q
    have z368 : T359.heap.size ≤ T368.heap.size := K368.1
    have lt368_0 : @LT.lt Nat _ x_368 T368.heap.size := f368_0.lt
    have htl : (cs.take mm).length = mm := by rw [List.length_take]; omega
    have f371 : Arv Z T368.heap x_368 kx_368 .byte (Int32.ofNat (2 * (cs.take mm).length)) (StrChars.Road.wideBytes (cs.take mm)) (.int (0 : Int32)) := by
      have q := f368_0
      rw [List.drop_zero, Nat.sub_zero, own_wlT] at q
      rw [own_wlB, htl]
      exact q
    refine oG.st st368 ?_
    refine oG.st (fun _ k => XS.astore X368.here hx rfl (hb hby dj52_17_33) rfl rfl (l' := #[.val (.ref a1), .val (.int (0 : Int32)), .val (.int (Int32.ofNat mm)), .val (.ref b357), .val (.int (Int32.ofNat f_359)), .val (.ref x_368)]) rfl (XS.aload X368.here hx rfl (hb hby dj52_17_35) rfl rfl (XS.iload X368.here hx rfl (hb hby dj52_17_37) rfl k))) ?_
    show oG _ _ _ _ (T368.setTop (mkF m 39 #[.val (.ref a1), .val (.int (0 : Int32)), .val (.int (Int32.ofNat mm)), .val (.ref b357), .val (.int (Int32.ofNat f_359)), .val (.ref x_368)] [(.int (Int32.ofNat f_359)), (.ref x_368)]))
    have f373 : Old Z Z.heap.size T368.heap := f367.keep K368 all0
    obtain ⟨_, _, ⟨T372, L372, k372, n372⟩, -, X372, ⟨Lc372, hQ372, l372, y372, z372⟩, st372⟩ := Jvm.LawKit.callS X368 hx (y := mN29) hown (own_v hZ hw 120 rfl) (own_v hZ hw 121 rfl) (own_v hZ hw 92 rfl) (own_v hZ hw 122 rfl) (by decide) (backOf (W := 0) (rm_getc l Z a0 hw [] x_368 (Int32.ofNat f_359) f_359 kx_368 (Int32.ofNat (2 * (cs.take mm).length)) (StrChars.Road.wideBytes (cs.take mm)) (.int (0 : Int32)) (cs.getD f_359 0) T368.heap f373 f371 st_A st_H st_L rfl (by rw [own_wlen, htl]; omega) (by rw [own_wlen]) (by rw [own_wlen, htl]; omega) ((StrChars.Road.wide_lo _ _ _ (by omega)).trans (by rw [own_tkG hfm2])) ((StrChars.Road.wide_hi _ _ _ (by omega)).trans (by rw [own_tkG hfm2])) (hrng _ (own_mem (by omega)))) hZ (own_w hw 122 rfl) (own_w hw 92 rfl) (by decide) (by decide)) (g := (mkF m 39 #[.val (.ref a1), .val (.int (0 : Int32)), .val (.int (Int32.ofNat mm)), .val (.ref b357), .val (.int (Int32.ofNat f_359)), .val (.ref x_368)] [(.int (Int32.ofNat f_359)), (.ref x_368)])) rfl (by rw [hml]; rfl) (argsL := [(.ref x_368), (.int (Int32.ofNat f_359))]) (rest := []) (lenOf pd_158 rfl) rfl (by show 2 * 0 + _ ≤ _; exact Nat.le_of_eq rfl) (hb hby dj52_17_39) (fun _ _ => ⟨rfl, rfl, (by decide : 2 + 0 ≤ _), (by decide : 12 + 0 ≤ _)⟩)
    dsimp only [Pt.U, Pt.locs, Pt.cells, Pt.slots] at X372 l372 y372 z372 st372 hQ372
    subst l372 y372 z372
    obtain ⟨rfl, N372q, K372⟩ := hQ372
    have N372 := Fr.app N368 N372q
    refine oG.st st372 ?_
    refine oG.st (fun _ k => XS.sipush X372.here hx rfl (hb hby dj52_17_42) k) ?_
    show oG _ _ _ _ (T372.setTop (mkF m 45 #[.val (.ref a1), .val (.int (0 : Int32)), .val (.int (Int32.ofNat mm)), .val (.ref b357), .val (.int (Int32.ofNat f_359)), .val (.ref x_368)] [(.int (255 : Int32)), (.int (cs.getD f_359 0))]))
    have hc374 : (255 : Int32) < (cs.getD f_359 0) := hbig
    refine oG.st (fun _ k => XS.icmpYes X372.here hx rfl (pc0 := 45) (pc' := 61) rfl (hb hby dj52_17_45) rfl (tlt hc374).2.2.1 (by decide) (by decide) k) ?_
    refine oG.st (fun _ k => XS.aload X372.here hx rfl (hb hby dj52_17_61) rfl rfl k) ?_
    show oG _ _ _ _ (T372.setTop (mkF m 63 #[.val (.ref a1), .val (.int (0 : Int32)), .val (.int (Int32.ofNat mm)), .val (.ref b357), .val (.int (Int32.ofNat f_359)), .val (.ref x_368)] [(.ref x_368)]))
    obtain ⟨fs375, hr375, hrun375, hend375, hW375, hsm375⟩ := X372.leave (v := some (.ref x_368)) (fun h => by rw [Bd.returns] at h; cases h)
    have K376 : Keep h0 h357 [] := (Keep.refl h0 []).ext E357
    have K377 : Keep h0 T359.heap [] := K376.trans K359 (allS (Or.inr (by omega)) all0)
    have K378 : Keep h0 T368.heap [] := K377.trans K368 all0
    subst hPP
    refine ⟨_, _, own_retA X372 hx Bd.returns rfl rfl (hb hby dj52_17_63) hr375, hrun375, hend375, _, _, rfl, ?_, ⟨_, rfl⟩, hW375, hsm375.mono (by decide) (by decide)⟩
    · show Q_ucmp3 Z _ _ _ _ _ _ h0 _ T372.heap _
      rw [K372]
      exact ⟨x_368, kx_368, 1, _, _, rfl, N372, K378, f371, (by omega), (Or.inr ⟨rfl, rfl, rfl, cs.getD f_359 0, (by rw [← own_tkG hfm2]; exact own_mem (by omega)), hbig⟩)⟩
section OwnLw
open Jvm.Free.SB Jvm.Free.SBG
variable {p : Program} {l : Launch} {e : Env} {R : Room} {s : State} {m : MethodId} {args : Array Value} {below : List Frame} {meth : Method} {c : Code} {T : State} {locs : List Loc} {cells slots : Nat}
theorem own_lwOpen (X : Stand p l e R s m args below meth c T locs cells slots) {index : Nat} {k k' : Class} {cf : ClassFile} (hk : s.vm.classes[m.cls]? = some k) (hk' : T.vm.classes[m.cls]? = some k') (hcf : k.cf = some cf) (hnm : namesOf? cf.constantPool index = some (.string "")) (hr : k.resolved[index]? = some none ∨ ∃ a, k.resolved[index]? = some (some (.string a))) :
    (k'.resolved[index]? = some none ∧ k.resolved[index]? = some none) ∨ ∃ a, k'.resolved[index]? = some (some (.string a)) := by
  rcases X.warmed.wide.entry hk hk' index with q | ⟨-, r, q, u | ⟨a, t, rfl, -⟩⟩
  · rw [q]
    exact hr.imp (fun z => ⟨z, z⟩) id
  · cases r <;> simp [State.rightAt, hk, hcf, hnm] at u
  · exact Or.inr ⟨a, q⟩
theorem own_lw (X : Stand p l e R s m args below meth c T locs cells slots) (hx : p.tables.exec = Jvm.exec) {own : String} {index : Nat} (hown : s.vm.findClass own = some m.cls)
    (hlink : (Cond.stringLink own index "").before args s = true) (hS : ∀ a ∈ Bundle.stringAtoms, a.before args s = true)
    {g : JFrame} (hg : g.method = m) (hd : decode c.code g.pc = .ok (.ldc_w index, 3)) (hc : cells + 2 ≤ R.cells) (hl : slots + 4 ≤ R.slots) :
    ∃ (a : Addr) (T₂ : State), Stand p l e R (s.setVm T₂.vm) m args below meth c T₂ locs (cells + 2) (slots + 4) ∧ s.Since T₂.vm T₂.heap.size ∧
      (∃ k₂, T₂.vm.classes[m.cls]? = some k₂ ∧ k₂.resolved[index]? = some (some (.string a))) ∧ Ext T.heap T₂.heap ∧ T.Warmed39 T₂.vm ∧
      (T₂.vm.interned = T.vm.interned ∨ ∃ units : Array UInt16, T₂.vm.interned = T.vm.interned.push (units, a) ∧ T.vm.interned.find? (fun p => p.1 == units) = none ∧ (units.all (· < 256) = true → SlIn 0 T.heap.size T₂ a units)) ∧
      ∀ target, Steps p.tables e below (T₂.setTop { g with pc := g.pc + 3, stack := .ref a :: g.stack }) target → Steps p.tables e below (T.setTop g) target := by
  subst hg
  obtain ⟨k, cf, i, units, hk, hcf, hp, hu, hnm, htx, hres⟩ := Cond.stringLink_spec hown hlink
  obtain ⟨k', hk', ek⟩ := X.warmed.alike.2.2 _ _ hk
  have hcf' : k'.cf = some cf := by rw [ek]; exact hcf
  have h0 : (stringBytes units).size = 0 := Nat.le_zero.mp (text_bytes_le htx)
  have nm : ∀ {x : Class}, x.cf = some cf → x.cf.bind (namesOf? ·.constantPool index) = some (.string "") ∧ x.cf.bind (·.constantPool[index]?) = some (.string i) ∧ x.cf.bind (·.constantPool.utf8? i) = some units := fun {x} q => by
    rw [q]; exact ⟨hnm, hp, by simp [ConstantPool.utf8?, hu]⟩
  rcases own_lwOpen X hk hk' hcf hnm hres with ⟨o1, o0⟩ | ⟨a, r1⟩
  · cases hf : T.vm.interned.find? (fun p => p.1 == units) with
    | some pr =>
      obtain ⟨u, a⟩ := pr
      obtain rfl : u = units := by simpa using Array.find?_some hf
      obtain ⟨n1, n2, n3⟩ := nm hcf
      obtain ⟨t1, t2, t3⟩ := nm hcf'
      have hW : s.Warmed39 (T.vm.noted g.method.cls index (.string a)) := X.warmed.wide.notedString hk (Or.inl o0) n1 n2 n3 hf
      refine ⟨a, T.setVm (T.vm.noted g.method.cls index (.string a)), (X.mono (Nat.le_add_right _ _) (Nat.le_add_right _ _)).retabled hW, ⟨hW, ?_⟩, ⟨_, Vm.classes_note_self index (.string a) hk', Class.resolved_note_self (.string a) o1⟩, ⟨Nat.le_refl _, fun _ _ q => q⟩, (State.Warmed39.refl T).notedString hk' (Or.inl o1) t1 t2 t3 hf, Or.inl rfl, fun target hr => ?_⟩
      · exact State.Booked.step (T₂ := T.setVm (T.vm.noted g.method.cls index (.string a))) (X.warmed.no_new_pair _) X.same.2.1 ⟨Nat.le_refl _, Or.inl rfl⟩
      · jvm_step X.here [hx, hd, ldc_w.wp_string_found (e := e) (s := T) (f := g) X.here.top hk' hcf' hp hu o1 hf]
        exact hr
    | none =>
      obtain ⟨Y, LY, h4, fv, fc⟩ := StringT.of_atoms (args := args) hS
      obtain ⟨kS, kB, LT, hty⟩ := LY.warmer X.warmed.alike
      obtain ⟨n1, n2, n3⟩ := nm hcf
      obtain ⟨t1, t2, t3⟩ := nm hcf'
      have hfit : T.fitsSlot = s.fitsSlot := (show T.fitsSlot = (s.setVm T.vm).fitsSlot from rfl).trans (State.fitsSlot_setVm X.warmed.alike)
      obtain ⟨vi, hvi⟩ : ∃ v : Vm, v = { T.vm with interned := T.vm.interned.push (units, T.heap.size + 1) } := ⟨_, rfl⟩
      have hfind : vi.interned.find? (fun p => p.1 == units) = some (units, T.heap.size + 1) := by
        rw [hvi]
        show (T.vm.interned.push (units, T.heap.size + 1)).find? _ = _
        rw [Array.find?_push, hf]; simp
      have hWi : s.Warmed39 vi := hvi ▸ X.warmed.wide.interns units (T.heap.size + 1)
      have hTi : T.Warmed39 vi := hvi ▸ (State.Warmed39.refl T).interns units (T.heap.size + 1)
      have hcl : vi.classes = T.vm.classes := by rw [hvi]
      have hW := hWi.notedString hk (Or.inl o0) n1 n2 n3 hfind
      have hTW := hTi.notedString hk' (Or.inl o1) t1 t2 t3 hfind
      have X2 := (X.pushed (bytesOf Y.cB units)).pushed (stringAt Y.cS kS Y.fv Y.fc units T.heap.size)
      rw [← withString_eq] at X2
      have hh : (withString T Y.cB Y.cS kS Y.fv Y.fc units).heap = (T.heap.push (bytesOf Y.cB units)).push (stringAt Y.cS kS Y.fv Y.fc units T.heap.size) := by rw [withString_eq]; rfl
      have c1 : (bytesOf Y.cB units).slots.size = 0 := by rw [(Cell.writeAll_facts _ _).2.2]; simp [bytes0, h0]
      have c2 : (stringAt Y.cS kS Y.fv Y.fc units T.heap.size).slots.size = 4 := by simp [string0, Cell.setSlot, hty, h4]
      have hsz : (withString T Y.cB Y.cS kS Y.fv Y.fc units).heap.size = T.heap.size + 2 := by rw [hh]; simp
      refine ⟨T.heap.size + 1, (withString T Y.cB Y.cS kS Y.fv Y.fc units).setVm (vi.noted g.method.cls index (.string (T.heap.size + 1))), (X2.mono (by omega) (by rw [c1, c2]; omega)).retabled hW, ⟨hW, ?_⟩, ⟨_, Vm.classes_note_self (vm := vi) index (.string (T.heap.size + 1)) (by rw [hcl]; exact hk'), Class.resolved_note_self (.string (T.heap.size + 1)) o1⟩, ⟨?_, fun x cell q => ?_⟩, hTW, Or.inr ⟨units, ?_, hf, fun hl8 => ?_⟩, fun target hr => ?_⟩
      · refine State.Booked.step (X.warmed.no_new_pair _) X.same.2.1 ⟨?_, Or.inr ⟨units, T.heap.size + 1, ?_, by omega, ?_⟩⟩
        · show T.heap.size ≤ (withString T Y.cB Y.cS kS Y.fv Y.fc units).heap.size
          omega
        · show vi.interned = _
          rw [hvi]
        · show T.heap.size + 1 < (withString T Y.cB Y.cS kS Y.fv Y.fc units).heap.size
          omega
      · show T.heap.size ≤ (withString T Y.cB Y.cS kS Y.fv Y.fc units).heap.size
        omega
      · show (withString T Y.cB Y.cS kS Y.fv Y.fc units).heap[x]? = some cell
        have hlt := (Array.getElem?_eq_some_iff.mp q).1
        rw [hh, Array.getElem?_push, if_neg (by rw [Array.size_push]; omega), Array.getElem?_push, if_neg (by omega)]
        exact q
      · show vi.interned = _
        rw [hvi]
      · refine made_sl hS LY h4 hty hW.alike ?_ ?_ hl8 (by omega) 0
        · show (withString T Y.cB Y.cS kS Y.fv Y.fc units).heap[T.heap.size]? = _
          rw [hh, Array.getElem?_push, if_neg (by rw [Array.size_push]; omega), Array.getElem?_push, if_pos rfl]
        · show (withString T Y.cB Y.cS kS Y.fv Y.fc units).heap[T.heap.size + 1]? = _
          rw [hh, Array.getElem?_push, if_pos (by rw [Array.size_push])]
      · subst hvi
        refine Steps.instr (c := _) (by simpa using X.here) ?_
        simp [jvm, wpRun, exec, X.here.top, hx, hd]
        have room := X.slotsAbove hl
        refine ldc_w.wp_string_new (e := e) (s := T) (f := g) X.here.top hk' hcf' hp hu o1 hf LT.found LT.cls LT.initialized LT.ordinary LT.foundB LT.clsB LT.kindB LT.value LT.coder (by rw [Launch.admits_arrayLengthLimit X.admits]; omega) (by rw [Launch.admits_maxHeapBytes X.admits, h0]; simp) (X.cellsAbove hc) (by rw [hty, h4]; omega)
          (stringBytes_fit LT.clsB LT.kindB units) LT.valueSlot LT.coderSlot (by rw [hfit]; exact fv _) (by rw [hfit]; exact fc _) (fun d' acts' => ?_)
        intro acts''
        have w1 : (withString T Y.cB Y.cS kS Y.fv Y.fc units).topJava?.isSome := by simpa [withString] using X.here.top
        have w2 : ((withString T Y.cB Y.cS kS Y.fv Y.fc units).setVm (({ T.vm with interned := T.vm.interned.push (units, T.heap.size + 1) } : Vm).noted g.method.cls index (.string (T.heap.size + 1)))).topJava?.isSome := by simpa using w1
        simp [jvm, afterInstr, w1, w2]
        rw [State.modifyTopJava_setTop]
        exact hr
  · refine ⟨a, T, (X.mono (Nat.le_add_right _ _) (Nat.le_add_right _ _)).retabled X.warmed.wide, X.warmed.since _, ⟨k', hk', r1⟩, ⟨Nat.le_refl _, fun _ _ q => q⟩, State.Warmed39.refl T, Or.inl rfl, fun target hr => ?_⟩
    jvm_step X.here [hx, hd, ldc_w.wp_string (e := e) (s := T) (f := g) X.here.top hk' hcf' hp r1]
    exact hr
end OwnLw
section OwnLw2
open Jvm.Free.SB Jvm.Free.SBG
theorem own_slE {Z : State} {vm : Vm} {h : Heap} {q : SQ} {u : Array UInt16} (hal : Z.vm.Alike vm) (F : SlB (Wst Z vm h) q u) (h0 : (stringBytes u).size = 0) {z : Int32} (hz : ¬ z < 0) (hl : z.toNatClampNeg = 0) :
    Exa Z h q.sa "java/lang/String" ∧ Fld Z h q.sa "java/lang/String" "coder" "B" (.int 0) ∧ Fld Z h q.sa "java/lang/String" "value" "[B" (.ref q.sd) ∧ Arv Z h q.sd q.SA.cls .byte z [] (.int 0) ∧ q.sa < h.size ∧ q.sd < h.size := by
  obtain ⟨cS, ⟨⟨a1, a2, a3, ⟨cv, kv, iv, a4, a4'⟩, ⟨cc, kc, ic, a5, a5'⟩, a6, a7, a8, a9, a10, a11, a12, -⟩, f1, f2⟩, ⟨kS, k1, k2, k3⟩, b1, b2⟩ := F
  have back : ∀ {n : String} {x : ClassId}, vm.findClass n = some x → Z.vm.findClass n = some x := fun {n x} y => by rw [← hal.findClass]; exact y
  have e1 : Z.vm.findClass "java/lang/String" = some q.sC.cls := by rw [f2]; exact back f1
  have e2 : Z.vm.findClass "[B" = some q.SA.cls := back b1
  obtain ⟨K1, g1, -⟩ := Vm.findClass_spec e1
  obtain ⟨K2, g2, -⟩ := Vm.findClass_spec e2
  obtain ⟨K1', g1', w1⟩ := hal.2.2 _ _ g1
  obtain ⟨K2', g2', w2⟩ := hal.2.2 _ _ g2
  obtain ⟨v1, z1⟩ := ff_back (U := Wst Z vm h) hal a4
  obtain ⟨v2, z2⟩ := ff_back (U := Wst Z vm h) hal a5
  have p1 : q.SA.slots.size = 0 := by rw [b2]; exact h0
  obtain ⟨p2, K3, p3, comp, p4⟩ := a11
  have p5 : K3 = K2' := Option.some.inj (Eq.trans (Eq.symm (show vm.classes[q.SA.cls]? = some K3 from p3)) g2')
  have p6 : K1' = kS := Option.some.inj (Eq.trans (Eq.symm g1') (show vm.classes[q.sC.cls]? = some kS by rw [f2]; exact k1))
  refine ⟨⟨q.sC, K1, a1, e1, g1, a3, fun _ => by rw [k3, ← p6, w1]⟩, ⟨q.sC, cc, v2, ic, q.fSC, a1, z2, a7, a2, a3, by rw [← hal.assignable]; exact a5', a9⟩, ⟨q.sC, cv, v1, iv, q.fSV, a1, z1, a6, a2, a3, by rw [← hal.assignable]; exact a4', a8⟩,
    ⟨q.SA, ⟨a10, ⟨p2, K2, g2, comp, by rw [p5, w2] at p4; exact p4⟩, a12⟩, rfl, by rw [p1, hl], hz, fun j hj => absurd hj (by omega), fun j hj => absurd hj (by omega)⟩, (Array.getElem?_eq_some_iff.mp a1).1, (Array.getElem?_eq_some_iff.mp a10).1⟩
set_option maxHeartbeats 4000000 in
theorem own_ldcWCH {p : Program} {l : Launch} {e : Env} {R : Room} {s : State} {vm0 : Vm} {m : MethodId} {args : Array Value} {below : List Frame} {meth : Method} {c : Code} {T : State} {locs : List Loc} {cells slots : Nat} {Z : State} {a0 : Array Value} {h : Heap} {EL : List (String × Nat)} {own : String} {index : Nat}
    (X : Stand p l e R (s.setVm vm0) m args below meth c T locs cells slots) (hx : p.tables.exec = Jvm.exec) (hZ : Z.Warmed39 vm0) (hown : vm0.findClass own = some m.cls) (w : (Cond.stringLink own index "").before a0 Z = true) (wS : ∀ a ∈ Bundle.stringAtoms, a.before a0 Z = true)
    (eT : T.heap = h) {k0 : Nat} (hS : s.Since vm0 k0) (hk : k0 ≤ h.size) (hEL : EW Z a0 EL) (hmem : (own, index) ∈ EL) (H : CHv Z EL vm0 h)
    {vs : List Value} {z : Int32} (ht : vs = []) (hz : ¬ z < 0) (hl : z.toNatClampNeg = vs.length)
    {g : JFrame} (hg : g.method = m) (hd : decode c.code g.pc = .ok (.ldc_w index, 3)) {n : Nat} (hn : n = 0) (hbig : n ≤ 536870912) (hc : cells + 2 ≤ R.cells) (hl' : slots + (n + 4) ≤ R.slots) :
    ∃ (a : Addr) (T' : State) (h' : Heap) (k1 : Nat) (b : Addr) (k : ClassId), Stand p l e R (s.setVm T'.vm) m args below meth c T' locs (cells + 2) (slots + (n + 4)) ∧ T'.heap = h' ∧ Ext h h' ∧ s.Since T'.vm k1 ∧ k1 ≤ h'.size ∧ Z.Warmed39 (s.setVm T'.vm).vm ∧ (s.setVm T'.vm).vm.findClass own = some m.cls ∧
      Exa Z h' a "java/lang/String" ∧ Fld Z h' a "java/lang/String" "coder" "B" (.int 0) ∧ Fld Z h' a "java/lang/String" "value" "[B" (.ref b) ∧ Arv Z h' b k .byte z vs (.int 0) ∧ a < h'.size ∧ b < h'.size ∧ CHr Z EL vm0 h T'.vm h' ∧ Lit (s.setVm T'.vm) own index a ∧ (∀ x, Safe Z EL T'.vm h' x → x ≠ a ∧ x ≠ b) ∧
      ∀ target, Steps p.tables e below (T'.setTop { g with pc := g.pc + 3, stack := .ref a :: g.stack }) target → Steps p.tables e below (T.setTop g) target := by
  subst ht hn eT
  have atoms : ∀ d ∈ Bundle.stringAtoms, d.before args (s.setVm vm0) = true := fun d hd => by
    have q := wS d hd
    simp only [Bundle.stringAtoms, List.mem_cons, List.not_mem_nil, or_false] at hd
    rcases hd with rfl | rfl | rfl | rfl | rfl | rfl | rfl <;> first | exact mvA (s := s.setVm vm0) hZ q | exact mv (s := s.setVm vm0) hZ q
  obtain ⟨a, T', X', hS', ⟨kk, hkk, hrr⟩, E, hTW, hint, st⟩ := own_lw X hx (own := own) hown (mvS hZ w) atoms hg hd hc hl'
  have hW : Z.Warmed39 T'.vm := State.Warmed39.trans (t := s.setVm vm0) hZ hS'.1
  have hf : T'.vm.findClass own = some m.cls := by rw [hS'.1.alike.findClass]; exact hown
  have A := CHv.at X hZ hEL H
  have B := CHv.later (vm := T.vm) (vm1 := T'.vm) (wtrans (s := s.setVm vm0) hZ X.warmed) (show (Wst Z T.vm T.heap).Warmed39 T'.vm from hTW) hEL E (hint.imp id fun ⟨us, i1, i2, i3⟩ => ⟨us, a, i1, i2, fun hl8 => by
    obtain ⟨q, cS, hq, r1, r2, r3, r4, r5⟩ := i3 hl8
    have F : SlB T' q us := ⟨cS, r1, r2, r3, r4⟩
    exact ⟨q, hq, F.carry (V := Wst Z T'.vm T'.heap) (Vm.Alike.refl _) F.ha F.hd, r5.elim (fun y => absurd y.1 (Nat.not_lt_zero _)) id⟩⟩) A.1
  have hC : CHr Z EL vm0 T.heap T'.vm T'.heap := A.trans ⟨B.1, E.1, B.2⟩
  have w2 : (Cond.stringLink own index "").before a0 (Wst Z T'.vm T'.heap) = true := mvS (s := { Z with heap := T'.heap }) hW w
  obtain ⟨k2, cf, i, units, hk2, hcf, hp, hu, -, htx, -⟩ := Cond.stringLink_spec (s := Wst Z T'.vm T'.heap) hf w2
  obtain rfl : kk = k2 := Option.some.inj (hkk.symm.trans hk2)
  have hB : Booksv T'.vm own index units a := ⟨m.cls, kk, cf, i, hf, hk2, hcf, hp, hu, Or.inl hrr⟩
  obtain ⟨q, hqa, F⟩ := SlB.of (hC.1 _ hmem units a hB)
  subst hqa
  obtain ⟨y1, y2, y3, y4, y5, y6⟩ := own_slE hW.alike F (Nat.le_zero.mp (text_bytes_le htx)) hz hl
  exact ⟨q.sa, T', _, _, q.sd, q.SA.cls, X', rfl, E, hS.trans hS' (Nat.le_trans hk E.1), Nat.le_refl _, hW, hf, y1, y2, y3, y4, y5, y6, hC, by simp [Lit, State.resolvedAt?, hf, hkk, hrr], fun x S => ⟨fun v => S ⟨_, hmem, units, _, hB, q, rfl, F, Or.inl v⟩, fun v => S ⟨_, hmem, units, _, hB, q, rfl, F, Or.inr v⟩⟩, st⟩
end OwnLw2

theorem ef_496 (m : MethodId) (x0 : Nat) (x1 : Nat) (x2 : Int32) : entryFrame m #[(.ref x0), (.ref x1), (.int x2)] 3 = mkF m 0 #[.val (.ref x0), .val (.ref x1), .val (.int x2)] [] := by first | (simp [entryFrame, mkF, argsToLocals, Value.category]; done) | rfl
theorem dj42_151_0 : decode cJ6 0 = .ok (.aload_n 0, 1) := by decide +kernel
theorem dj42_151_1 : decode cJ6 1 = .ok (.invokespecial 1, 3) := by decide +kernel
theorem dj42_151_4 : decode cJ6 4 = .ok (.aload_n 0, 1) := by decide +kernel
theorem dj42_151_5 : decode cJ6 5 = .ok (.aload_n 1, 1) := by decide +kernel
theorem dj42_151_6 : decode cJ6 6 = .ok (.putfield 9, 3) := by decide +kernel
theorem dj42_151_9 : decode cJ6 9 = .ok (.aload_n 0, 1) := by decide +kernel
theorem dj42_151_10 : decode cJ6 10 = .ok (.iload_n 2, 1) := by decide +kernel
theorem dj42_151_11 : decode cJ6 11 = .ok (.putfield 15, 3) := by decide +kernel
theorem dj42_151_14 : decode cJ6 14 = .ok (.return_, 1) := by decide +kernel
def Q_sinitBB0 (Z : State) (a1 : Nat) (a2 : Nat) (h0 : Heap) (v : Option Value) (h : Heap) (L : List Loc) : Prop := v = none ∧ Fr Z.heap.size L ∧ Keep h0 h [a1] ∧ Exa Z h a1 "java/lang/String" ∧ Fld Z h a1 "java/lang/String" "value" "[B" (.ref a2) ∧ Fld Z h a1 "java/lang/String" "coder" "B" (.int (0 : Int32))
set_option maxRecDepth 65536 in
set_option maxHeartbeats 40000000 in
theorem rm_sinitBB0 (l : Launch) (Z : State) (a0 : Array Value) (hw : ∀ d ∈ tables_1, d.before a0 Z = true) (ws : List Jvm.Cond) (a1 : Nat) (a2 : Nat) (h0 : Heap) (OL : Old Z Z.heap.size h0) (p0_ : Exa Z h0 a1 "java/lang/String") (p1_ : Fld Z h0 a1 "java/lang/String" "value" "[B" .null) (p2_ : Fld Z h0 a1 "java/lang/String" "coder" "B" (.int (0 : Int32))) (hn0 : Z.heap.size ≤ a1) :
    MetFree l mN5 (head1 (Jvm.Cond.code mN5 jdk_42_method_151_code 3 none :: ws) rM1) (fun a U => a = #[(.ref a1), (.ref a2), (.int (0 : Int32))] ∧ Z.Warmed39 U.vm ∧ U.heap = h0) (fun _ _ _ _ _ => True) (fun _ U o U' => ∃ v L, o = .returned v ∧ Q_sinitBB0 Z a1 a2 h0 v U'.heap L ∧ FrameEnd U o U' L rM1.cells rM1.slots) := by
  refine MetFree.of_bodySF (plainFor_of_name pn_0) hisR ?_
  intro p e s m args below meth c s₁ Bd hml0 hP hK
  obtain ⟨rfl, hZ, hh⟩ := hP
  have hx := Bd.exec
  have hby := Bd.bytes
  have hml : c.maxLocals = 3 := hml0
  have hown : s.vm.findClass "java/lang/String" = some m.cls := findClass_of_methodNamed Bd.named
  have hnm := (name_of_methodNamed Bd.named Bd.method).1
  have X0 : Stand p l e rM1 s m #[(.ref a1), (.ref a2), (.int (0 : Int32))] below meth c s₁ [] 0 0 := Stand.of_body Bd
  have e0 : s₁.heap = h0 := by rw [← hh, Bd.state]; rfl
  have N0 := Fr.nil Z.heap.size
  have Z0 : Z.heap.size ≤ h0.size := OL.2.1
  have lt_0 : @LT.lt Nat _ a1 h0.size := p0_.lt
  have lt_1 : @LT.lt Nat _ a1 h0.size := p1_.lt
  have lt_2 : @LT.lt Nat _ a1 h0.size := p2_.lt
  show oG p.tables e below (fun o tE => ∃ v L, o = .returned v ∧ Q_sinitBB0 Z a1 a2 h0 v tE.heap L ∧ FrameEnd s o tE L rM1.cells rM1.slots) (s₁.setTop (entryFrame m #[(.ref a1), (.ref a2), (.int (0 : Int32))] 3))
  refine own_hd (fun PP hPP => ?_)
  refine oG.st (fun t k => castTop (ef_496 m a1 a2 (0 : Int32)) k) ?_
  refine oG.st (fun _ k => XS.aloadN X0.here hx rfl (hb hby dj42_151_0) rfl rfl k) ?_
  show oG _ _ _ _ (s₁.setTop (mkF m 1 #[.val (.ref a1), .val (.ref a2), .val (.int (0 : Int32))] [(.ref a1)]))
  obtain ⟨T379, X379, e379, st379⟩ := initO X0 hx hZ hown (own_w hw 20 rfl) (own_w hw 21 rfl) (own_w hw 22 rfl) e0 (g := (mkF m 1 #[.val (.ref a1), .val (.ref a2), .val (.int (0 : Int32))] [(.ref a1)])) rfl (by rw [hml]; rfl) rfl (hb hby dj42_151_1) (by decide) (W := 0) (by show 2 * 0 + _ ≤ _; exact Nat.le_of_eq rfl) (by decide)
  refine oG.st st379 ?_
  refine oG.st (fun _ k => XS.aloadN X379.here hx rfl (hb hby dj42_151_4) rfl rfl (XS.aloadN X379.here hx rfl (hb hby dj42_151_5) rfl rfl k)) ?_
  show oG _ _ _ _ (T379.setTop (mkF m 6 #[.val (.ref a1), .val (.ref a2), .val (.int (0 : Int32))] [(.ref a2), (.ref a1)]))
  obtain ⟨T380, h380, X380, e380, W380, st380⟩ := putF X379 hx hZ hown (host := "") (Or.inl (own_w hw 29 rfl)) Via.refl e379 p1_ p0_ (Or.inr ⟨(own_w hw 25 rfl), rfl, hnm⟩) (own_w hw 10 rfl) (ty := (.array .byte)) (by decide) rfl rfl (g := (mkF m 6 #[.val (.ref a1), .val (.ref a2), .val (.int (0 : Int32))] [(.ref a2), (.ref a1)])) rfl rfl (hb hby dj42_151_6)
  refine oG.st st380 ?_
  have N380 := Fr.snoc X380 N0 (by omega)
  have z380 : h0.size ≤ h380.size := Nat.le_of_eq W380.size.symm
  have f381 : Fld Z h380 a1 "java/lang/String" "value" "[B" (.ref a2) := p1_.same W380
  refine oG.st (fun _ k => XS.aloadN X380.here hx rfl (hb hby dj42_151_9) rfl rfl (XS.iloadN X380.here hx rfl (hb hby dj42_151_10) rfl k)) ?_
  show oG _ _ _ _ (T380.setTop (mkF m 11 #[.val (.ref a1), .val (.ref a2), .val (.int (0 : Int32))] [(.int (0 : Int32)), (.ref a1)]))
  have f382 : Fld Z h380 a1 "java/lang/String" "coder" "B" (.int (0 : Int32)) := p2_.other W380 (Or.inr (slot_ne (Or.inr (own_w hw 26 rfl)) (Or.inr (own_w hw 25 rfl)) (by decide) (t := .byte) (t' := (.array .byte)) (by decide) (by decide)))
  have f383 : Exa Z h380 a1 "java/lang/String" := p0_.wr W380
  obtain ⟨T384, h384, X384, e384, W384, st384⟩ := putF X380 hx hZ hown (host := "") (Or.inl (own_w hw 30 rfl)) Via.refl e380 f382 f383 (Or.inr ⟨(own_w hw 26 rfl), rfl, hnm⟩) (own_w hw 10 rfl) (ty := .byte) (by decide) rfl (by decide) (g := (mkF m 11 #[.val (.ref a1), .val (.ref a2), .val (.int (0 : Int32))] [(.int (0 : Int32)), (.ref a1)])) rfl rfl (hb hby dj42_151_11)
  refine oG.st st384 ?_
  have N384 := Fr.snoc X384 N380 (by omega)
  have z384 : h380.size ≤ h384.size := Nat.le_of_eq W384.size.symm
  have f385 : Fld Z h384 a1 "java/lang/String" "coder" "B" (.int (0 : Int32)) := f382.same W384
  show oG _ _ _ _ (T384.setTop (mkF m 14 #[.val (.ref a1), .val (.ref a2), .val (.int (0 : Int32))] []))
  obtain ⟨fs386, hr386, hrun386, hend386, hW386, hsm386⟩ := X384.leave (v := none) (fun _ => rfl)
  have K387 : Keep h0 h380 [a1] := (Keep.refl h0 [a1]).wr W380 (Or.inl (List.mem_of_getElem? (i := 0) rfl))
  have K388 : Keep h0 h384 [a1] := K387.wr W384 (Or.inl (List.mem_of_getElem? (i := 0) rfl))
  have f389 : Exa Z h384 a1 "java/lang/String" := f383.wr W384
  have f390 : Fld Z h384 a1 "java/lang/String" "value" "[B" (.ref a2) := f381.other W384 (Or.inr (slot_ne (Or.inr (own_w hw 25 rfl)) (Or.inr (own_w hw 26 rfl)) (by decide) (t := (.array .byte)) (t' := .byte) (by decide) (by decide)))
  subst hPP
  refine ⟨_, _, X384.returnOut hx Bd.returns (hb hby dj42_151_14) hr386, hrun386, hend386, _, _, rfl, ?_, ⟨_, rfl⟩, hW386, hsm386.mono (by decide) (by decide)⟩
  · show Q_sinitBB0 Z _ _ h0 _ T384.heap _
    rw [e384]
    exact ⟨rfl, N384, K388, f389, f390, f385⟩
def Q_sinitBB1 (Z : State) (a1 : Nat) (a2 : Nat) (h0 : Heap) (v : Option Value) (h : Heap) (L : List Loc) : Prop := v = none ∧ Fr Z.heap.size L ∧ Keep h0 h [a1] ∧ Exa Z h a1 "java/lang/String" ∧ Fld Z h a1 "java/lang/String" "value" "[B" (.ref a2) ∧ Fld Z h a1 "java/lang/String" "coder" "B" (.int (1 : Int32))
set_option maxRecDepth 65536 in
set_option maxHeartbeats 40000000 in
theorem rm_sinitBB1 (l : Launch) (Z : State) (a0 : Array Value) (hw : ∀ d ∈ tables_1, d.before a0 Z = true) (ws : List Jvm.Cond) (a1 : Nat) (a2 : Nat) (h0 : Heap) (OL : Old Z Z.heap.size h0) (p0_ : Exa Z h0 a1 "java/lang/String") (p1_ : Fld Z h0 a1 "java/lang/String" "value" "[B" .null) (p2_ : Fld Z h0 a1 "java/lang/String" "coder" "B" (.int (0 : Int32))) (hn0 : Z.heap.size ≤ a1) :
    MetFree l mN5 (head1 (Jvm.Cond.code mN5 jdk_42_method_151_code 3 none :: ws) rM1) (fun a U => a = #[(.ref a1), (.ref a2), (.int (1 : Int32))] ∧ Z.Warmed39 U.vm ∧ U.heap = h0) (fun _ _ _ _ _ => True) (fun _ U o U' => ∃ v L, o = .returned v ∧ Q_sinitBB1 Z a1 a2 h0 v U'.heap L ∧ FrameEnd U o U' L rM1.cells rM1.slots) := by
  refine MetFree.of_bodySF (plainFor_of_name pn_0) hisR ?_
  intro p e s m args below meth c s₁ Bd hml0 hP hK
  obtain ⟨rfl, hZ, hh⟩ := hP
  have hx := Bd.exec
  have hby := Bd.bytes
  have hml : c.maxLocals = 3 := hml0
  have hown : s.vm.findClass "java/lang/String" = some m.cls := findClass_of_methodNamed Bd.named
  have hnm := (name_of_methodNamed Bd.named Bd.method).1
  have X0 : Stand p l e rM1 s m #[(.ref a1), (.ref a2), (.int (1 : Int32))] below meth c s₁ [] 0 0 := Stand.of_body Bd
  have e0 : s₁.heap = h0 := by rw [← hh, Bd.state]; rfl
  have N0 := Fr.nil Z.heap.size
  have Z0 : Z.heap.size ≤ h0.size := OL.2.1
  have lt_0 : @LT.lt Nat _ a1 h0.size := p0_.lt
  have lt_1 : @LT.lt Nat _ a1 h0.size := p1_.lt
  have lt_2 : @LT.lt Nat _ a1 h0.size := p2_.lt
  show oG p.tables e below (fun o tE => ∃ v L, o = .returned v ∧ Q_sinitBB1 Z a1 a2 h0 v tE.heap L ∧ FrameEnd s o tE L rM1.cells rM1.slots) (s₁.setTop (entryFrame m #[(.ref a1), (.ref a2), (.int (1 : Int32))] 3))
  refine own_hd (fun PP hPP => ?_)
  refine oG.st (fun t k => castTop (ef_496 m a1 a2 (1 : Int32)) k) ?_
  refine oG.st (fun _ k => XS.aloadN X0.here hx rfl (hb hby dj42_151_0) rfl rfl k) ?_
  show oG _ _ _ _ (s₁.setTop (mkF m 1 #[.val (.ref a1), .val (.ref a2), .val (.int (1 : Int32))] [(.ref a1)]))
  obtain ⟨T391, X391, e391, st391⟩ := initO X0 hx hZ hown (own_w hw 20 rfl) (own_w hw 21 rfl) (own_w hw 22 rfl) e0 (g := (mkF m 1 #[.val (.ref a1), .val (.ref a2), .val (.int (1 : Int32))] [(.ref a1)])) rfl (by rw [hml]; rfl) rfl (hb hby dj42_151_1) (by decide) (W := 0) (by show 2 * 0 + _ ≤ _; exact Nat.le_of_eq rfl) (by decide)
  refine oG.st st391 ?_
  refine oG.st (fun _ k => XS.aloadN X391.here hx rfl (hb hby dj42_151_4) rfl rfl (XS.aloadN X391.here hx rfl (hb hby dj42_151_5) rfl rfl k)) ?_
  show oG _ _ _ _ (T391.setTop (mkF m 6 #[.val (.ref a1), .val (.ref a2), .val (.int (1 : Int32))] [(.ref a2), (.ref a1)]))
  obtain ⟨T392, h392, X392, e392, W392, st392⟩ := putF X391 hx hZ hown (host := "") (Or.inl (own_w hw 29 rfl)) Via.refl e391 p1_ p0_ (Or.inr ⟨(own_w hw 25 rfl), rfl, hnm⟩) (own_w hw 10 rfl) (ty := (.array .byte)) (by decide) rfl rfl (g := (mkF m 6 #[.val (.ref a1), .val (.ref a2), .val (.int (1 : Int32))] [(.ref a2), (.ref a1)])) rfl rfl (hb hby dj42_151_6)
  refine oG.st st392 ?_
  have N392 := Fr.snoc X392 N0 (by omega)
  have z392 : h0.size ≤ h392.size := Nat.le_of_eq W392.size.symm
  have f393 : Fld Z h392 a1 "java/lang/String" "value" "[B" (.ref a2) := p1_.same W392
  refine oG.st (fun _ k => XS.aloadN X392.here hx rfl (hb hby dj42_151_9) rfl rfl (XS.iloadN X392.here hx rfl (hb hby dj42_151_10) rfl k)) ?_
  show oG _ _ _ _ (T392.setTop (mkF m 11 #[.val (.ref a1), .val (.ref a2), .val (.int (1 : Int32))] [(.int (1 : Int32)), (.ref a1)]))
  have f394 : Fld Z h392 a1 "java/lang/String" "coder" "B" (.int (0 : Int32)) := p2_.other W392 (Or.inr (slot_ne (Or.inr (own_w hw 26 rfl)) (Or.inr (own_w hw 25 rfl)) (by decide) (t := .byte) (t' := (.array .byte)) (by decide) (by decide)))
  have f395 : Exa Z h392 a1 "java/lang/String" := p0_.wr W392
  obtain ⟨T396, h396, X396, e396, W396, st396⟩ := putF X392 hx hZ hown (host := "") (Or.inl (own_w hw 30 rfl)) Via.refl e392 f394 f395 (Or.inr ⟨(own_w hw 26 rfl), rfl, hnm⟩) (own_w hw 10 rfl) (ty := .byte) (by decide) rfl (by decide) (g := (mkF m 11 #[.val (.ref a1), .val (.ref a2), .val (.int (1 : Int32))] [(.int (1 : Int32)), (.ref a1)])) rfl rfl (hb hby dj42_151_11)
  refine oG.st st396 ?_
  have N396 := Fr.snoc X396 N392 (by omega)
  have z396 : h392.size ≤ h396.size := Nat.le_of_eq W396.size.symm
  have f397 : Fld Z h396 a1 "java/lang/String" "coder" "B" (.int (1 : Int32)) := f394.same W396
  show oG _ _ _ _ (T396.setTop (mkF m 14 #[.val (.ref a1), .val (.ref a2), .val (.int (1 : Int32))] []))
  obtain ⟨fs398, hr398, hrun398, hend398, hW398, hsm398⟩ := X396.leave (v := none) (fun _ => rfl)
  have K399 : Keep h0 h392 [a1] := (Keep.refl h0 [a1]).wr W392 (Or.inl (List.mem_of_getElem? (i := 0) rfl))
  have K400 : Keep h0 h396 [a1] := K399.wr W396 (Or.inl (List.mem_of_getElem? (i := 0) rfl))
  have f401 : Exa Z h396 a1 "java/lang/String" := f395.wr W396
  have f402 : Fld Z h396 a1 "java/lang/String" "value" "[B" (.ref a2) := f393.other W396 (Or.inr (slot_ne (Or.inr (own_w hw 25 rfl)) (Or.inr (own_w hw 26 rfl)) (by decide) (t := (.array .byte)) (t' := .byte) (by decide) (by decide)))
  subst hPP
  refine ⟨_, _, X396.returnOut hx Bd.returns (hb hby dj42_151_14) hr398, hrun398, hend398, _, _, rfl, ?_, ⟨_, rfl⟩, hW398, hsm398.mono (by decide) (by decide)⟩
  · show Q_sinitBB1 Z _ _ h0 _ T396.heap _
    rw [e396]
    exact ⟨rfl, N396, K400, f401, f402, f397⟩
theorem dj43_47_0 : decode cJ18 0 = .ok (.iload_n 2, 1) := by decide +kernel
theorem dj43_47_1 : decode cJ18 1 = .ok (.ifCond .ne 6, 3) := by decide +kernel
theorem dj43_47_4 : decode cJ18 4 = .ok (.ldc 151, 2) := by decide +kernel
theorem dj43_47_6 : decode cJ18 6 = .ok (.areturn, 1) := by decide +kernel
theorem dj43_47_7 : decode cJ18 7 = .ok (.new 1, 3) := by decide +kernel
theorem dj43_47_10 : decode cJ18 10 = .ok (.dup, 1) := by decide +kernel
theorem dj43_47_11 : decode cJ18 11 = .ok (.aload_n 0, 1) := by decide +kernel
theorem dj43_47_12 : decode cJ18 12 = .ok (.iload_n 1, 1) := by decide +kernel
theorem dj43_47_13 : decode cJ18 13 = .ok (.iload_n 1, 1) := by decide +kernel
theorem dj43_47_14 : decode cJ18 14 = .ok (.iload_n 2, 1) := by decide +kernel
theorem dj43_47_15 : decode cJ18 15 = .ok (.iadd, 1) := by decide +kernel
theorem dj43_47_16 : decode cJ18 16 = .ok (.invokestatic 232, 3) := by decide +kernel
theorem dj43_47_19 : decode cJ18 19 = .ok (.iconst 0, 1) := by decide +kernel
theorem pd_519 : parseMethodDescriptor "([BB)V" = some ⟨[(.array .byte), .byte], none⟩ := by decide +kernel
theorem dj43_47_20 : decode cJ18 20 = .ok (.invokespecial 112, 3) := by decide +kernel
theorem dj43_47_23 : decode cJ18 23 = .ok (.areturn, 1) := by decide +kernel
def Q_l1news (Z : State) (a1 : Nat) (p3 : Int32) (cs : List Int32) (k : ClassId) (mm : Nat) (h0 : Heap) (v : Option Value) (h : Heap) (L : List Loc) : Prop := ∃ (x : Nat), ∃ (t : Nat), v = some (.ref x) ∧ Fr Z.heap.size L ∧ Keep h0 h [] ∧ own_Str Z h x t (cs.take mm)
set_option maxRecDepth 65536 in
set_option maxHeartbeats 40000000 in
theorem rm_l1news (l : Launch) (Z : State) (a0 : Array Value) (hw : ∀ d ∈ tables_1, d.before a0 Z = true) (ws : List Jvm.Cond) (a1 : Nat) (p3 : Int32) (cs : List Int32) (k : ClassId) (mm : Nat) (h0 : Heap) (hEL : EW Z a0 consts_1) (OL : Old Z Z.heap.size h0) (p0_ : Arv Z h0 a1 k .byte (Int32.ofNat cs.length) (own_low cs) (.int (0 : Int32))) (hp3 : p3 = Int32.ofNat mm) (hmm : mm < cs.length) (hle : cs.length ≤ 4) (hrng : ∀ c ∈ cs, ¬ c < 0 ∧ ¬ (65535 : Int32) < c) (hlt : ∀ c ∈ cs, ¬ (255 : Int32) < c) :
    MetFree l mN20 (head1 (Jvm.Cond.code mN20 jdk_43_method_47_code 3 (some (.object "java/lang/String")) :: ws) rM17) (fun a U => a = #[(.ref a1), (.int (0 : Int32)), (.int p3)] ∧ Z.Warmed39 U.vm ∧ U.heap = h0 ∧ CHv Z consts_1 U.vm h0) (fun _ _ _ _ _ => True) (fun _ U o U' => ∃ v L, o = .returned v ∧ Q_l1news Z a1 p3 cs k mm h0 v U'.heap L ∧ CHr Z consts_1 U.vm U.heap U'.vm U'.heap ∧ ReturnedEndW U o U' L rM17.cells rM17.slots) := by
  refine MetFree.of_bodySF (plainFor_of_name pn_316) hisR ?_
  intro p e s m args below meth c s₁ Bd hml0 hP hK
  obtain ⟨rfl, hZ, hh, hC0⟩ := hP
  have hx := Bd.exec
  have hby := Bd.bytes
  have hml : c.maxLocals = 3 := hml0
  have hown : s.vm.findClass "java/lang/StringLatin1" = some m.cls := findClass_of_methodNamed Bd.named
  have hnm := (name_of_methodNamed Bd.named Bd.method).1
  have X0 : Stand p l e rM17 (s.setVm s.vm) m #[(.ref a1), (.int (0 : Int32)), (.int p3)] below meth c s₁ [] 0 0 := Stand.of_body Bd
  have e0 : s₁.heap = h0 := by rw [← hh, Bd.state]; rfl
  have N0 := Fr.nil Z.heap.size
  have Z0 : Z.heap.size ≤ h0.size := OL.2.1
  have hS0 : s.Since s.vm h0.size := (State.WarmedH.refl s).since _
  have wS := own_wS hw
  have R0 : CHr Z consts_1 s.vm h0 s.vm h0 := CHr.refl hC0
  have lt_0 : @LT.lt Nat _ a1 h0.size := p0_.lt
  show oG p.tables e below (fun o tE => ∃ v L, o = .returned v ∧ Q_l1news Z a1 p3 cs k mm h0 v tE.heap L ∧ CHr Z consts_1 s.vm s.heap tE.vm tE.heap ∧ ReturnedEndW s o tE L rM17.cells rM17.slots) (s₁.setTop (entryFrame m #[(.ref a1), (.int (0 : Int32)), (.int p3)] 3))
  refine own_hd (fun PP hPP => ?_)
  refine oG.st (fun t k => castTop (ef_50 m a1 (0 : Int32) p3) k) ?_
  subst hp3
  refine oG.st (fun _ k => XS.iloadN X0.here hx rfl (hb hby dj43_47_0) rfl k) ?_
  show oG _ _ _ _ (s₁.setTop (mkF m 1 #[.val (.ref a1), .val (.int (0 : Int32)), .val (.int (Int32.ofNat mm))] [(.int (Int32.ofNat mm))]))
  by_cases h1q : (Int32.ofNat mm) = (0 : Int32)
  ·
    refine oG.st (fun _ k => XS.ifNo X0.here hx rfl (hb hby dj43_47_1) rfl ((if0 _ _).trans (teq h1q).2) k) ?_
    have hm0 : mm = 0 := (own_ofE (j := 0) (by omega) (by omega)).mp h1q
    show oG _ _ _ _ (s₁.setTop (mkF m 4 #[.val (.ref a1), .val (.int (0 : Int32)), .val (.int (Int32.ofNat mm))] []))
    obtain ⟨a403, T403, h403, kk403, t403, kb403, X403, e403, E403, hS403, hk403, hZ403, hown403, A403, C403, V403, B403, la403, lb403, ch403, Li403, sf403, st403⟩ := ldcCH X0 hx hZ hown (own_w hw 103 rfl) wS e0 hS0 (by omega) hEL (by decide) R0.1 (vs := []) (z := (0 : Int32)) (by decide) (by decide) (by decide) (g := (mkF m 4 #[.val (.ref a1), .val (.int (0 : Int32)), .val (.int (Int32.ofNat mm))] [])) rfl (hb hby dj43_47_4) (n := 0) (by decide) (by decide) (by decide) (by decide)
    refine oG.st st403 ?_
    have z403 : h0.size ≤ h403.size := E403.1
    have la403' : @LT.lt Nat _ a403 h403.size := la403
    have lb403' : @LT.lt Nat _ t403 h403.size := lb403
    have R403 : CHr Z consts_1 s.vm h0 T403.vm h403 := R0.trans ch403
    have fT403 : own_Str Z h403 a403 t403 ([] : List Int32) := ⟨kb403, 0, (0 : Int32), [], A403, V403, C403, B403, Or.inl ⟨rfl, rfl, rfl, (by decide)⟩, (by decide), (by decide)⟩
    show oG _ _ _ _ (T403.setTop (mkF m 6 #[.val (.ref a1), .val (.int (0 : Int32)), .val (.int (Int32.ofNat mm))] [(.ref a403)]))
    obtain ⟨fs404, hr404, hrun404, hend404, hret404⟩ := X403.leaveW hS403 (by rw [e403]; exact (by omega)) (v := some (.ref a403)) (fun h => by rw [Bd.returns] at h; cases h)
    have f405 : own_Str Z h403 a403 t403 (cs.take mm) := by
      rw [hm0, List.take_zero]
      exact fT403
    have K406 : Keep h0 h403 [] := (Keep.refl h0 []).ext E403
    subst hPP
    refine ⟨_, _, own_retA X403 hx Bd.returns rfl rfl (hb hby dj43_47_6) hr404, hrun404, hend404, _, _, rfl, ?_, ?_, hret404.1, hret404.2.1, hret404.2.2.1, hret404.2.2.2.mono (by decide) (by decide)⟩
    · show Q_l1news Z _ _ _ _ _ h0 _ T403.heap _
      rw [e403]
      exact ⟨a403, t403, rfl, N0, K406, f405⟩
    · have hfin := R403.trans (CHv.at X403 hZ403 hEL R403.1)
      rw [← hh] at hfin
      show CHr Z consts_1 s.vm s.heap T403.vm T403.heap
      rw [e403]
      exact hfin
  ·
    refine oG.st (fun _ k => XS.ifYes X0.here hx rfl (pc0 := 1) (pc' := 7) rfl (hb hby dj43_47_1) rfl ((if0 _ _).trans (feq h1q).2) (by decide) (by decide) k) ?_
    have hm0 : 0 < mm := by
      have : ¬ mm = 0 := fun q => h1q (by rw [q]; rfl)
      omega
    have htl : (cs.take mm).length = mm := by rw [List.length_take]; omega
    show oG _ _ _ _ (s₁.setTop (mkF m 7 #[.val (.ref a1), .val (.int (0 : Int32)), .val (.int (Int32.ofNat mm))] []))
    obtain ⟨T407, h407, X407, e407, E407, A407, D407, U407, st407⟩ := newO X0 hx hZ hown (own_w hw 187 rfl) (own_w hw 10 rfl) (own_w hw 11 rfl) e0 (g := (mkF m 7 #[.val (.ref a1), .val (.int (0 : Int32)), .val (.int (Int32.ofNat mm))] [])) rfl (hb hby dj43_47_7) (by decide) (by decide)
    obtain ⟨b407, g407⟩ : ∃ z, z = h0.size := ⟨_, rfl⟩
    rw [← g407] at A407 D407 U407 st407
    refine oG.st st407 ?_
    have z407 : h0.size ≤ h407.size := E407.1
    have lt_b407 : @LT.lt Nat _ b407 h407.size := A407.lt
    have f408 : Fld Z h407 b407 "java/lang/String" "value" "[B" .null := D407 (Or.inr (own_w hw 25 rfl)) (ty := (.array .byte)) (by decide)
    have f409 : Fld Z h407 b407 "java/lang/String" "coder" "B" (.int (0 : Int32)) := D407 (Or.inr (own_w hw 26 rfl)) (ty := .byte) (by decide)
    have R407 : CHr Z consts_1 s.vm h0 s.vm h407 := R0.trans (CHr.ext E407 R0.1)
    have Sf407 : Safe Z consts_1 s.vm h407 b407 := (Safe.new (Nat.le_of_eq g407.symm)).ext E407 R0.1
    refine oG.st (fun _ k => XS.dup X407.here hx rfl (hb hby dj43_47_10) rfl rfl (XS.aloadN X407.here hx rfl (hb hby dj43_47_11) rfl rfl (XS.iloadN X407.here hx rfl (hb hby dj43_47_12) rfl (XS.iloadN X407.here hx rfl (hb hby dj43_47_13) rfl (XS.iloadN X407.here hx rfl (hb hby dj43_47_14) rfl k))))) ?_
    show oG _ _ _ _ (T407.setTop (mkF m 15 #[.val (.ref a1), .val (.int (0 : Int32)), .val (.int (Int32.ofNat mm))] [(.int (Int32.ofNat mm)), (.int (0 : Int32)), (.int (0 : Int32)), (.ref a1), (.ref b407), (.ref b407)]))
    refine oG.st (fun _ k => XS.iadd X407.here hx rfl (hb hby dj43_47_15) rfl k) ?_
    show oG _ _ _ _ (T407.setTop (mkF m 16 #[.val (.ref a1), .val (.int (0 : Int32)), .val (.int (Int32.ofNat mm))] [(.int ((0 : Int32) + (Int32.ofNat mm))), (.int (0 : Int32)), (.ref a1), (.ref b407), (.ref b407)]))
    rw [Int32.zero_add]
    show oG _ _ _ _ (T407.setTop (mkF m 16 #[.val (.ref a1), .val (.int (0 : Int32)), .val (.int (Int32.ofNat mm))] [(.int (Int32.ofNat mm)), (.int (0 : Int32)), (.ref a1), (.ref b407), (.ref b407)]))
    have f411 : Arv Z h407 a1 k .byte (Int32.ofNat cs.length) (own_low cs) (.int (0 : Int32)) := p0_.ext E407
    have f412 : Old Z Z.heap.size h407 := OL.ext E407
    obtain ⟨_, _, ⟨T410, L410, k410, n410⟩, -, X410, ⟨Lc410, hQ410, l410, y410, z410⟩, st410⟩ := Jvm.LawKit.callS X407 hx (y := mN38) hown (own_v hZ hw 188 rfl) (own_v hZ hw 151 rfl) (own_v hZ hw 152 rfl) (own_v hZ hw 153 rfl) (by decide) (backOf (W := 2) (rm_cor l Z a0 hw [] a1 (0 : Int32) (Int32.ofNat mm) 0 mm cs cs.length k h407 f412 f411 rfl rfl (Nat.zero_le _) (by omega) (Nat.le_refl _) (by omega) (by omega) (fun q => by omega)) hZ (own_w hw 153 rfl) (own_w hw 152 rfl) (by decide) (by decide)) (g := (mkF m 16 #[.val (.ref a1), .val (.int (0 : Int32)), .val (.int (Int32.ofNat mm))] [(.int (Int32.ofNat mm)), (.int (0 : Int32)), (.ref a1), (.ref b407), (.ref b407)])) rfl (by rw [hml]; rfl) (argsL := [(.ref a1), (.int (0 : Int32)), (.int (Int32.ofNat mm))]) (rest := [(.ref b407), (.ref b407)]) (lenOf pd_236 rfl) rfl (by show 2 * 0 + _ ≤ _; exact Nat.le_of_eq rfl) (hb hby dj43_47_16) (fun _ _ => ⟨rfl, e407, (by decide : 1 + 1 ≤ _), (by decide : 4 + 8 ≤ _)⟩)
    dsimp only [Pt.U, Pt.locs, Pt.cells, Pt.slots] at X410 l410 y410 z410 st410 hQ410
    subst l410 y410 z410
    obtain ⟨x_410, kx_410, rfl, N410q, K410, f410_0, pr410_0⟩ := hQ410
    have N410 := Fr.app N0 N410q
    have z410 : h407.size ≤ T410.heap.size := K410.1
    have R410 : CHr Z consts_1 s.vm h0 s.vm T410.heap := R407.trans (CHr.keep K410 sf0 R407.1)
    have Sf413 : Safe Z consts_1 s.vm T410.heap b407 := Safe.keep K410 sf0 R407.1 Sf407
    have lt410_0 : @LT.lt Nat _ x_410 T410.heap.size := f410_0.lt
    have f414 : Arv Z T410.heap x_410 kx_410 .byte (Int32.ofNat (cs.take mm).length) (own_low (cs.take mm)) (.int (0 : Int32)) := by
      have q := f410_0
      rw [List.drop_zero, Nat.sub_zero] at q
      rw [htl]
      exact q
    refine oG.st st410 ?_
    refine oG.st (fun _ k => XS.iconst X410.here hx rfl (hb hby dj43_47_19) k) ?_
    show oG _ _ _ _ (T410.setTop (mkF m 20 #[.val (.ref a1), .val (.int (0 : Int32)), .val (.int (Int32.ofNat mm))] [(.int (0 : Int32)), (.ref x_410), (.ref b407), (.ref b407)]))
    have f416 : Exa Z T410.heap b407 "java/lang/String" := A407.keep K410
    have f417 : Fld Z T410.heap b407 "java/lang/String" "value" "[B" .null := f408.keep K410 nin0
    have f418 : Fld Z T410.heap b407 "java/lang/String" "coder" "B" (.int (0 : Int32)) := f409.keep K410 nin0
    have f419 : Old Z Z.heap.size T410.heap := f412.keep K410 all0
    obtain ⟨_, _, ⟨T415, L415, k415, n415⟩, -, X415, ⟨Lc415, hQ415, l415, y415, z415⟩, st415⟩ := X410.specialBack hx (y := mN5) rfl hown (own_v hZ hw 189 rfl) (own_v hZ hw 168 rfl) (own_v hZ hw 169 rfl) (by decide) (backOf (W := 1) (rm_sinitBB0 l Z a0 hw [] b407 x_410 T410.heap f419 f416 f417 f418 (by omega)) hZ (own_w hw 169 rfl) (own_w hw 11 rfl) (by decide) (by decide)) (g := (mkF m 20 #[.val (.ref a1), .val (.int (0 : Int32)), .val (.int (Int32.ofNat mm))] [(.int (0 : Int32)), (.ref x_410), (.ref b407), (.ref b407)])) rfl (by rw [hml]; rfl) (Steps.refl _) (a := b407) (argsL := [(.ref x_410), (.int (0 : Int32))]) (rest := [(.ref b407)]) (lenOf pd_519 rfl) rfl (by show 2 * 0 + _ ≤ _; exact Nat.le_of_eq rfl) (hb hby dj43_47_20) (fun _ _ => ⟨rfl, rfl, (by decide : 2 + 0 ≤ _), (by decide : 12 + 0 ≤ _)⟩)
    dsimp only [Pt.U, Pt.locs, Pt.cells, Pt.slots] at X415 l415 y415 z415 st415 hQ415
    subst l415 y415 z415
    obtain ⟨rfl, N415q, K415, f415_0, f415_1, f415_2⟩ := hQ415
    have N415 := Fr.app N410 N415q
    have z415 : T410.heap.size ≤ T415.heap.size := K415.1
    have R415 : CHr Z consts_1 s.vm h0 s.vm T415.heap := R410.trans (CHr.keep K415 (sfS Sf413 sf0) R410.1)
    have Sf420 : Safe Z consts_1 s.vm T415.heap b407 := Safe.keep K415 (sfS Sf413 sf0) R410.1 Sf413
    have lt415_0 : @LT.lt Nat _ b407 T415.heap.size := f415_0.lt
    have lt415_1 : @LT.lt Nat _ b407 T415.heap.size := f415_1.lt
    have lt415_2 : @LT.lt Nat _ b407 T415.heap.size := f415_2.lt
    refine oG.tr st415 ?_
    show oG _ _ _ _ (T415.setTop (mkF m 23 #[.val (.ref a1), .val (.int (0 : Int32)), .val (.int (Int32.ofNat mm))] [(.ref b407)]))
    obtain ⟨fs421, hr421, hrun421, hend421, hret421⟩ := X415.leaveW hS0 (by omega) (v := some (.ref b407)) (fun h => by rw [Bd.returns] at h; cases h)
    have ne422 : @Ne Nat b407 x_410 := Exa.neArv f416 f414 (own_w hw 10 rfl)
    have f423 : Arv Z T415.heap x_410 kx_410 .byte (Int32.ofNat (cs.take mm).length) (own_low (cs.take mm)) (.int (0 : Int32)) := f414.keep K415 (ninS (Ne.symm ne422) nin0)
    have K424 : Keep h0 h407 [] := (Keep.refl h0 []).ext E407
    have K425 : Keep h0 T410.heap [] := K424.trans K410 all0
    have K426 : Keep h0 T415.heap [] := K425.trans K415 (allS (Or.inr (by omega)) all0)
    subst hPP
    refine ⟨_, _, own_retA X415 hx Bd.returns rfl rfl (hb hby dj43_47_23) hr421, hrun421, hend421, _, _, rfl, ?_, ?_, hret421.1, hret421.2.1, hret421.2.2.1, hret421.2.2.2.mono (by decide) (by decide)⟩
    · show Q_l1news Z _ _ _ _ _ h0 _ T415.heap _
      exact ⟨b407, x_410, rfl, N415, K426, (own_Str.mkL f415_0 f415_1 f415_2 f423 (fun c hc => ⟨(hrng c (List.mem_of_mem_take hc)).1, hlt c (List.mem_of_mem_take hc)⟩) (by omega))⟩
    · have hfin := R415.trans (CHv.at X415 hZ hEL R415.1)
      rw [← hh] at hfin
      show CHr Z consts_1 s.vm s.heap T415.vm T415.heap
      exact hfin
def Q_cfal0 (Z : State) (a1 : Nat) (p2 : Int32) (k : ClassId) (vs : List Value) (d : Value) (h0 : Heap) (v : Option Value) (h : Heap) (L : List Loc) : Prop := v = some (.int (0 : Int32)) ∧ Fr Z.heap.size L ∧ h = h0
set_option maxRecDepth 65536 in
set_option maxHeartbeats 40000000 in
theorem rm_cfal0 (l : Launch) (Z : State) (a0 : Array Value) (hw : ∀ d ∈ tables_1, d.before a0 Z = true) (ws : List Jvm.Cond) (a1 : Nat) (p2 : Int32) (k : ClassId) (vs : List Value) (d : Value) (h0 : Heap) (OL : Old Z Z.heap.size h0) (p0_ : Arv Z h0 a1 k .byte p2 vs d) :
    MetFree l mN24 (head1 (Jvm.Cond.code mN24 jdk_52_method_15_code 2 (some .byte) :: ws) rM0) (fun a U => a = #[(.ref a1), (.int p2)] ∧ Z.Warmed39 U.vm ∧ U.heap = h0) (fun _ _ _ _ _ => True) (fun _ U o U' => ∃ v L, o = .returned v ∧ Q_cfal0 Z a1 p2 k vs d h0 v U'.heap L ∧ FrameEnd U o U' L rM0.cells rM0.slots) := by
  refine MetFree.of_bodySF (plainFor_of_name pn_25) hisR ?_
  intro p e s m args below meth c s₁ Bd hml0 hP hK
  obtain ⟨rfl, hZ, hh⟩ := hP
  have hx := Bd.exec
  have hby := Bd.bytes
  have hml : c.maxLocals = 2 := hml0
  have hown : s.vm.findClass "java/lang/StringUTF16" = some m.cls := findClass_of_methodNamed Bd.named
  have hnm := (name_of_methodNamed Bd.named Bd.method).1
  have X0 : Stand p l e rM0 s m #[(.ref a1), (.int p2)] below meth c s₁ [] 0 0 := Stand.of_body Bd
  have e0 : s₁.heap = h0 := by rw [← hh, Bd.state]; rfl
  have N0 := Fr.nil Z.heap.size
  have Z0 : Z.heap.size ≤ h0.size := OL.2.1
  have lt_0 : @LT.lt Nat _ a1 h0.size := p0_.lt
  show oG p.tables e below (fun o tE => ∃ v L, o = .returned v ∧ Q_cfal0 Z a1 p2 k vs d h0 v tE.heap L ∧ FrameEnd s o tE L rM0.cells rM0.slots) (s₁.setTop (entryFrame m #[(.ref a1), (.int p2)] 2))
  refine own_hd (fun PP hPP => ?_)
  refine oG.st (fun t k => castTop (ef_73 m a1 p2) k) ?_
  refine oG.st (fun _ k => XS.iloadN X0.here hx rfl (hb hby dj52_15_0) rfl (XS.aloadN X0.here hx rfl (hb hby dj52_15_1) rfl rfl k)) ?_
  show oG _ _ _ _ (s₁.setTop (mkF m 2 #[.val (.ref a1), .val (.int p2)] [(.ref a1), (.int p2)]))
  obtain ⟨c427, Ar427, q427, S427, Nn427, H427, G427⟩ := id p0_
  refine oG.st (X0.arraylength hx (own_rwE e0 Ar427.1) (State.isArrayOf_alike hZ.alike Ar427.2.1) (g := (mkF m 2 #[.val (.ref a1), .val (.int p2)] [(.ref a1), (.int p2)])) rfl rfl (hb hby dj52_15_2)) ?_
  rw [len_of S427 Nn427]
  refine oG.st (fun _ k => XS.isub X0.here hx rfl (hb hby dj52_15_3) rfl (XS.bipush X0.here hx rfl (hb hby dj52_15_4) (XS.iushr X0.here hx rfl (hb hby dj52_15_6) rfl (XS.i2b X0.here hx rfl (hb hby dj52_15_7) rfl k)))) ?_
  show oG _ _ _ _ (s₁.setTop (mkF m 8 #[.val (.ref a1), .val (.int p2)] [(.int ((((p2 - p2).toUInt32 >>> ((31 : Int32) &&& 31).toUInt32).toInt32).toInt8.toInt32))]))
  obtain ⟨fs428, hr428, hrun428, hend428, hW428, hsm428⟩ := X0.leave (v := some (.int (nar .byte ((((p2 - p2).toUInt32 >>> ((31 : Int32) &&& 31).toUInt32).toInt32).toInt8.toInt32)))) (fun h => by rw [Bd.returns] at h; cases h)
  subst hPP
  refine ⟨_, _, retN X0 hx (t := .byte) Bd.returns (by simp) (hb hby dj52_15_8) hr428, hrun428, hend428, _, _, rfl, ?_, ⟨_, rfl⟩, hW428, hsm428.mono (by decide) (by decide)⟩
  · show Q_cfal0 Z _ _ _ _ _ h0 _ s₁.heap _
    rw [e0]
    exact ⟨(by rw [own_cf0]), N0, rfl⟩
theorem dj52_69_0 : decode cJ30 0 = .ok (.iload_n 2, 1) := by decide +kernel
theorem dj52_69_1 : decode cJ30 1 = .ok (.ifCond .ne 7, 3) := by decide +kernel
theorem dj52_69_4 : decode cJ30 4 = .ok (.ldc_w 295, 3) := by decide +kernel
theorem dj52_69_7 : decode cJ30 7 = .ok (.areturn, 1) := by decide +kernel
theorem dj52_69_8 : decode cJ30 8 = .ok (.getstatic 251, 3) := by decide +kernel
theorem dj52_69_11 : decode cJ30 11 = .ok (.ifCond .eq 28, 3) := by decide +kernel
theorem dj52_69_14 : decode cJ30 14 = .ok (.aload_n 0, 1) := by decide +kernel
theorem dj52_69_15 : decode cJ30 15 = .ok (.iload_n 1, 1) := by decide +kernel
theorem dj52_69_16 : decode cJ30 16 = .ok (.iload_n 2, 1) := by decide +kernel
theorem dj52_69_17 : decode cJ30 17 = .ok (.invokestatic 257, 3) := by decide +kernel
theorem dj52_69_20 : decode cJ30 20 = .ok (.astore_n 3, 1) := by decide +kernel
theorem dj52_69_21 : decode cJ30 21 = .ok (.aload_n 3, 1) := by decide +kernel
theorem dj52_69_22 : decode cJ30 22 = .ok (.iload_n 2, 1) := by decide +kernel
theorem dj52_69_23 : decode cJ30 23 = .ok (.invokestatic 259, 3) := by decide +kernel
theorem dj52_69_26 : decode cJ30 26 = .ok (.istore 4, 2) := by decide +kernel
theorem dj52_69_28 : decode cJ30 28 = .ok (.new 3, 3) := by decide +kernel
theorem dj52_69_31 : decode cJ30 31 = .ok (.dup, 1) := by decide +kernel
theorem dj52_69_32 : decode cJ30 32 = .ok (.aload_n 3, 1) := by decide +kernel
theorem dj52_69_33 : decode cJ30 33 = .ok (.iload 4, 2) := by decide +kernel
theorem dj52_69_35 : decode cJ30 35 = .ok (.invokespecial 263, 3) := by decide +kernel
theorem dj52_69_38 : decode cJ30 38 = .ok (.areturn, 1) := by decide +kernel
def Q_u16news (Z : State) (a1 : Nat) (p3 : Int32) (cs : List Int32) (k : ClassId) (mm : Nat) (zc : Int32) (fm : Value) (h0 : Heap) (v : Option Value) (h : Heap) (L : List Loc) : Prop := ∃ (x : Nat), ∃ (t : Nat), v = some (.ref x) ∧ Fr Z.heap.size L ∧ Keep h0 h [] ∧ own_Str Z h x t (cs.take mm)
set_option maxRecDepth 65536 in
set_option maxHeartbeats 40000000 in
theorem rm_u16news (l : Launch) (Z : State) (a0 : Array Value) (hw : ∀ d ∈ tables_1, d.before a0 Z = true) (ws : List Jvm.Cond) (a1 : Nat) (p3 : Int32) (cs : List Int32) (k : ClassId) (mm : Nat) (zc : Int32) (fm : Value) (h0 : Heap) (hEL : EW Z a0 consts_1) (OL : Old Z Z.heap.size h0) (p0_ : Arv Z h0 a1 k .byte (Int32.ofNat (2 * cs.length)) (StrChars.Road.wideBytes cs) (.int (0 : Int32))) (st_C : Sta Z Z.heap "java/lang/String" "COMPACT_STRINGS" "Z" (.int zc)) (st_SIOOBE_FORMATTER : Sta Z Z.heap "jdk/internal/util/Preconditions" "SIOOBE_FORMATTER" "Ljava/util/function/BiFunction;" fm) (st_A : Sta Z Z.heap "java/lang/StringUTF16" "$assertionsDisabled" "Z" (.int (1 : Int32))) (st_H : Sta Z Z.heap "java/lang/StringUTF16" "HI_BYTE_SHIFT" "I" (.int (0 : Int32))) (st_L : Sta Z Z.heap "java/lang/StringUTF16" "LO_BYTE_SHIFT" "I" (.int (8 : Int32))) (hp3 : p3 = Int32.ofNat mm) (hmm : mm < cs.length) (hle : cs.length ≤ 4) (hrng : ∀ c ∈ cs, ¬ c < 0 ∧ ¬ (65535 : Int32) < c) (hzc : ¬ zc = 0) (hfm : fm.isRef = true) :
    MetFree l mN34 (head1 (Jvm.Cond.code mN34 jdk_52_method_69_code 5 (some (.object "java/lang/String")) :: ws) rM23) (fun a U => a = #[(.ref a1), (.int (0 : Int32)), (.int p3)] ∧ Z.Warmed39 U.vm ∧ U.heap = h0 ∧ CHv Z consts_1 U.vm h0) (fun _ _ _ _ _ => True) (fun _ U o U' => ∃ v L, o = .returned v ∧ Q_u16news Z a1 p3 cs k mm zc fm h0 v U'.heap L ∧ CHr Z consts_1 U.vm U.heap U'.vm U'.heap ∧ ReturnedEndW U o U' L rM23.cells rM23.slots) := by
  refine MetFree.of_bodySF (plainFor_of_name pn_25) hisR ?_
  intro p e s m args below meth c s₁ Bd hml0 hP hK
  obtain ⟨rfl, hZ, hh, hC0⟩ := hP
  have hx := Bd.exec
  have hby := Bd.bytes
  have hml : c.maxLocals = 5 := hml0
  have hown : s.vm.findClass "java/lang/StringUTF16" = some m.cls := findClass_of_methodNamed Bd.named
  have hnm := (name_of_methodNamed Bd.named Bd.method).1
  have X0 : Stand p l e rM23 (s.setVm s.vm) m #[(.ref a1), (.int (0 : Int32)), (.int p3)] below meth c s₁ [] 0 0 := Stand.of_body Bd
  have e0 : s₁.heap = h0 := by rw [← hh, Bd.state]; rfl
  have N0 := Fr.nil Z.heap.size
  have Z0 : Z.heap.size ≤ h0.size := OL.2.1
  have hS0 : s.Since s.vm h0.size := (State.WarmedH.refl s).since _
  have wS := own_wS hw
  have R0 : CHr Z consts_1 s.vm h0 s.vm h0 := CHr.refl hC0
  have lt_0 : @LT.lt Nat _ a1 h0.size := p0_.lt
  show oG p.tables e below (fun o tE => ∃ v L, o = .returned v ∧ Q_u16news Z a1 p3 cs k mm zc fm h0 v tE.heap L ∧ CHr Z consts_1 s.vm s.heap tE.vm tE.heap ∧ ReturnedEndW s o tE L rM23.cells rM23.slots) (s₁.setTop (entryFrame m #[(.ref a1), (.int (0 : Int32)), (.int p3)] 5))
  refine own_hd (fun PP hPP => ?_)
  refine oG.st (fun t k => castTop (ef_113 m a1 (0 : Int32) p3) k) ?_
  subst hp3
  refine oG.st (fun _ k => XS.iloadN X0.here hx rfl (hb hby dj52_69_0) rfl k) ?_
  show oG _ _ _ _ (s₁.setTop (mkF m 1 #[.val (.ref a1), .val (.int (0 : Int32)), .val (.int (Int32.ofNat mm)), .unset, .unset] [(.int (Int32.ofNat mm))]))
  by_cases h1q : (Int32.ofNat mm) = (0 : Int32)
  ·
    refine oG.st (fun _ k => XS.ifNo X0.here hx rfl (hb hby dj52_69_1) rfl ((if0 _ _).trans (teq h1q).2) k) ?_
    have hm0 : mm = 0 := (own_ofE (j := 0) (by omega) (by omega)).mp h1q
    show oG _ _ _ _ (s₁.setTop (mkF m 4 #[.val (.ref a1), .val (.int (0 : Int32)), .val (.int (Int32.ofNat mm)), .unset, .unset] []))
    obtain ⟨a429, T429, h429, kk429, t429, kb429, X429, e429, E429, hS429, hk429, hZ429, hown429, A429, C429, V429, B429, la429, lb429, ch429, Li429, sf429, st429⟩ := own_ldcWCH X0 hx hZ hown (own_w hw 194 rfl) wS e0 hS0 (by omega) hEL (by decide) R0.1 (vs := []) (z := (0 : Int32)) rfl (by decide) (by decide) (g := (mkF m 4 #[.val (.ref a1), .val (.int (0 : Int32)), .val (.int (Int32.ofNat mm)), .unset, .unset] [])) rfl (hb hby dj52_69_4) (n := 0) (by decide) (by decide) (by decide) (by decide)
    refine oG.st st429 ?_
    have z429 : h0.size ≤ h429.size := E429.1
    have la429' : @LT.lt Nat _ a429 h429.size := la429
    have lb429' : @LT.lt Nat _ t429 h429.size := lb429
    have R429 : CHr Z consts_1 s.vm h0 T429.vm h429 := R0.trans ch429
    have fT429 : own_Str Z h429 a429 t429 ([] : List Int32) := ⟨kb429, 0, (0 : Int32), [], A429, V429, C429, B429, Or.inl ⟨rfl, rfl, rfl, (by decide)⟩, (by decide), (by decide)⟩
    show oG _ _ _ _ (T429.setTop (mkF m 7 #[.val (.ref a1), .val (.int (0 : Int32)), .val (.int (Int32.ofNat mm)), .unset, .unset] [(.ref a429)]))
    obtain ⟨fs430, hr430, hrun430, hend430, hret430⟩ := X429.leaveW hS429 (by rw [e429]; exact (by omega)) (v := some (.ref a429)) (fun h => by rw [Bd.returns] at h; cases h)
    have f431 : own_Str Z h429 a429 t429 (cs.take mm) := by
      rw [hm0, List.take_zero]
      exact fT429
    have K432 : Keep h0 h429 [] := (Keep.refl h0 []).ext E429
    subst hPP
    refine ⟨_, _, own_retA X429 hx Bd.returns rfl rfl (hb hby dj52_69_7) hr430, hrun430, hend430, _, _, rfl, ?_, ?_, hret430.1, hret430.2.1, hret430.2.2.1, hret430.2.2.2.mono (by decide) (by decide)⟩
    · show Q_u16news Z _ _ _ _ _ _ _ h0 _ T429.heap _
      rw [e429]
      exact ⟨a429, t429, rfl, N0, K432, f431⟩
    · have hfin := R429.trans (CHv.at X429 hZ429 hEL R429.1)
      rw [← hh] at hfin
      show CHr Z consts_1 s.vm s.heap T429.vm T429.heap
      rw [e429]
      exact hfin
  ·
    refine oG.st (fun _ k => XS.ifYes X0.here hx rfl (pc0 := 1) (pc' := 8) rfl (hb hby dj52_69_1) rfl ((if0 _ _).trans (feq h1q).2) (by decide) (by decide) k) ?_
    have hm0 : 0 < mm := by
      have : ¬ mm = 0 := fun q => h1q (by rw [q]; rfl)
      omega
    have htl : (cs.take mm).length = mm := by rw [List.length_take]; omega
    show oG _ _ _ _ (s₁.setTop (mkF m 8 #[.val (.ref a1), .val (.int (0 : Int32)), .val (.int (Int32.ofNat mm)), .unset, .unset] []))
    obtain ⟨T433, X433, e433, st433⟩ := getS2 X0 hx hZ hown (host := "") (Or.inl (own_w hw 131 rfl)) Via.refl e0 (st_C.ext OL.2) (g := (mkF m 8 #[.val (.ref a1), .val (.int (0 : Int32)), .val (.int (Int32.ofNat mm)), .unset, .unset] [])) rfl (hb hby dj52_69_8)
    refine oG.st st433 ?_
    show oG _ _ _ _ (T433.setTop (mkF m 11 #[.val (.ref a1), .val (.int (0 : Int32)), .val (.int (Int32.ofNat mm)), .unset, .unset] [(.int zc)]))
    have hc434 : ¬ (zc = (0 : Int32)) := hzc
    refine oG.st (fun _ k => XS.ifNo X433.here hx rfl (hb hby dj52_69_11) rfl ((if0 _ _).trans (feq hc434).1) k) ?_
    refine oG.st (fun _ k => XS.aloadN X433.here hx rfl (hb hby dj52_69_14) rfl rfl (XS.iloadN X433.here hx rfl (hb hby dj52_69_15) rfl (XS.iloadN X433.here hx rfl (hb hby dj52_69_16) rfl k))) ?_
    show oG _ _ _ _ (T433.setTop (mkF m 17 #[.val (.ref a1), .val (.int (0 : Int32)), .val (.int (Int32.ofNat mm)), .unset, .unset] [(.int (Int32.ofNat mm)), (.int (0 : Int32)), (.ref a1)]))
    obtain ⟨_, _, ⟨T435, L435, k435, n435⟩, -, X435, ⟨Lc435, hQ435, l435, y435, z435⟩, st435⟩ := Jvm.LawKit.callS X433 hx (y := mN25) hown (own_v hZ hw 132 rfl) (own_v hZ hw 133 rfl) (own_v hZ hw 92 rfl) (own_v hZ hw 134 rfl) (by decide) (backOf (W := 0) (rm_ucmp3 l Z a0 hw [] a1 (Int32.ofNat mm) cs k mm fm h0 OL p0_ st_SIOOBE_FORMATTER st_A st_H st_L rfl ⟨hm0, hmm⟩ hle hrng hfm) hZ (own_w hw 134 rfl) (own_w hw 92 rfl) (by decide) (by decide)) (g := (mkF m 17 #[.val (.ref a1), .val (.int (0 : Int32)), .val (.int (Int32.ofNat mm)), .unset, .unset] [(.int (Int32.ofNat mm)), (.int (0 : Int32)), (.ref a1)])) rfl (by rw [hml]; rfl) (argsL := [(.ref a1), (.int (0 : Int32)), (.int (Int32.ofNat mm))]) (rest := []) (lenOf pd_236 rfl) rfl (by show 2 * 0 + _ ≤ _; exact Nat.le_of_eq rfl) (hb hby dj52_69_17) (fun _ _ => ⟨rfl, e433, (by decide : 0 + 2 ≤ _), (by decide : 0 + 12 ≤ _)⟩)
    dsimp only [Pt.U, Pt.locs, Pt.cells, Pt.slots] at X435 l435 y435 z435 st435 hQ435
    subst l435 y435 z435
    obtain ⟨x_435, kx_435, cd_435, N2_435, vs_435, rfl, N435q, K435, f435_0, pr435_0, pr435_1⟩ := hQ435
    have N435 := Fr.app N0 N435q
    have z435 : h0.size ≤ T435.heap.size := K435.1
    have R435 : CHr Z consts_1 s.vm h0 s.vm T435.heap := R0.trans (CHr.keep K435 sf0 R0.1)
    have lt435_0 : @LT.lt Nat _ x_435 T435.heap.size := f435_0.lt
    refine oG.st st435 ?_
    show oG _ _ _ _ (T435.setTop (mkF m 20 #[.val (.ref a1), .val (.int (0 : Int32)), .val (.int (Int32.ofNat mm)), .unset, .unset] [(.ref x_435)]))
    rcases pr435_1 with ⟨rfl, rfl, rfl, hcl⟩ | ⟨rfl, rfl, rfl, hcb⟩
    ·
      have f436 : Arv Z T435.heap x_435 kx_435 .byte (Int32.ofNat mm) (own_low (cs.take mm)) (.int (0 : Int32)) := by
        have q := f435_0
        rw [htl] at q
        exact q
      refine oG.st (fun _ k => XS.astoreN X435.here hx rfl (hb hby dj52_69_20) rfl rfl (l' := #[.val (.ref a1), .val (.int (0 : Int32)), .val (.int (Int32.ofNat mm)), .val (.ref x_435), .unset]) rfl (XS.aloadN X435.here hx rfl (hb hby dj52_69_21) rfl rfl (XS.iloadN X435.here hx rfl (hb hby dj52_69_22) rfl k))) ?_
      show oG _ _ _ _ (T435.setTop (mkF m 23 #[.val (.ref a1), .val (.int (0 : Int32)), .val (.int (Int32.ofNat mm)), .val (.ref x_435), .unset] [(.int (Int32.ofNat mm)), (.ref x_435)]))
      have f438 : Old Z Z.heap.size T435.heap := OL.keep K435 all0
      obtain ⟨_, _, ⟨T437, L437, k437, n437⟩, -, X437, ⟨Lc437, hQ437, l437, y437, z437⟩, st437⟩ := Jvm.LawKit.callS X435 hx (y := mN24) hown (own_v hZ hw 165 rfl) (own_v hZ hw 98 rfl) (own_v hZ hw 92 rfl) (own_v hZ hw 99 rfl) (by decide) (backOf (W := 0) (rm_cfal0 l Z a0 hw [] x_435 (Int32.ofNat mm) kx_435 (own_low (cs.take mm)) (.int (0 : Int32)) T435.heap f438 f436) hZ (own_w hw 99 rfl) (own_w hw 92 rfl) (by decide) (by decide)) (g := (mkF m 23 #[.val (.ref a1), .val (.int (0 : Int32)), .val (.int (Int32.ofNat mm)), .val (.ref x_435), .unset] [(.int (Int32.ofNat mm)), (.ref x_435)])) rfl (by rw [hml]; rfl) (argsL := [(.ref x_435), (.int (Int32.ofNat mm))]) (rest := []) (lenOf pd_182 rfl) rfl (by show 2 * 0 + _ ≤ _; exact Nat.le_of_eq rfl) (hb hby dj52_69_23) (fun _ _ => ⟨rfl, rfl, (by decide : 2 + 0 ≤ _), (by decide : 12 + 0 ≤ _)⟩)
      dsimp only [Pt.U, Pt.locs, Pt.cells, Pt.slots] at X437 l437 y437 z437 st437 hQ437
      subst l437 y437 z437
      obtain ⟨rfl, N437q, K437⟩ := hQ437
      have N437 := Fr.app N435 N437q
      refine oG.st st437 ?_
      refine oG.st (fun _ k => XS.istore X437.here hx rfl (hb hby dj52_69_26) rfl (l' := #[.val (.ref a1), .val (.int (0 : Int32)), .val (.int (Int32.ofNat mm)), .val (.ref x_435), .val (.int (0 : Int32))]) rfl k) ?_
      show oG _ _ _ _ (T437.setTop (mkF m 28 #[.val (.ref a1), .val (.int (0 : Int32)), .val (.int (Int32.ofNat mm)), .val (.ref x_435), .val (.int (0 : Int32))] []))
      obtain ⟨T439, h439, X439, e439, E439, A439, D439, U439, st439⟩ := newO X437 hx hZ hown (own_w hw 166 rfl) (own_w hw 10 rfl) (own_w hw 11 rfl) K437 (g := (mkF m 28 #[.val (.ref a1), .val (.int (0 : Int32)), .val (.int (Int32.ofNat mm)), .val (.ref x_435), .val (.int (0 : Int32))] [])) rfl (hb hby dj52_69_28) (by decide) (by decide)
      obtain ⟨b439, g439⟩ : ∃ z, z = T435.heap.size := ⟨_, rfl⟩
      rw [← g439] at A439 D439 U439 st439
      refine oG.st st439 ?_
      have z439 : T435.heap.size ≤ h439.size := E439.1
      have lt_b439 : @LT.lt Nat _ b439 h439.size := A439.lt
      have f440 : Fld Z h439 b439 "java/lang/String" "value" "[B" .null := D439 (Or.inr (own_w hw 25 rfl)) (ty := (.array .byte)) (by decide)
      have f441 : Fld Z h439 b439 "java/lang/String" "coder" "B" (.int (0 : Int32)) := D439 (Or.inr (own_w hw 26 rfl)) (ty := .byte) (by decide)
      have R439 : CHr Z consts_1 s.vm h0 s.vm h439 := R435.trans (CHr.ext E439 R435.1)
      have Sf439 : Safe Z consts_1 s.vm h439 b439 := (Safe.new (Nat.le_of_eq g439.symm)).ext E439 R435.1
      refine oG.st (fun _ k => XS.dup X439.here hx rfl (hb hby dj52_69_31) rfl rfl (XS.aloadN X439.here hx rfl (hb hby dj52_69_32) rfl rfl (XS.iload X439.here hx rfl (hb hby dj52_69_33) rfl k))) ?_
      show oG _ _ _ _ (T439.setTop (mkF m 35 #[.val (.ref a1), .val (.int (0 : Int32)), .val (.int (Int32.ofNat mm)), .val (.ref x_435), .val (.int (0 : Int32))] [(.int (0 : Int32)), (.ref x_435), (.ref b439), (.ref b439)]))
      have f443 : Old Z Z.heap.size h439 := f438.ext E439
      obtain ⟨_, _, ⟨T442, L442, k442, n442⟩, -, X442, ⟨Lc442, hQ442, l442, y442, z442⟩, st442⟩ := X439.specialBack hx (y := mN5) rfl hown (own_v hZ hw 167 rfl) (own_v hZ hw 168 rfl) (own_v hZ hw 169 rfl) (by decide) (backOf (W := 1) (rm_sinitBB0 l Z a0 hw [] b439 x_435 h439 f443 A439 f440 f441 (by omega)) hZ (own_w hw 169 rfl) (own_w hw 11 rfl) (by decide) (by decide)) (g := (mkF m 35 #[.val (.ref a1), .val (.int (0 : Int32)), .val (.int (Int32.ofNat mm)), .val (.ref x_435), .val (.int (0 : Int32))] [(.int (0 : Int32)), (.ref x_435), (.ref b439), (.ref b439)])) rfl (by rw [hml]; rfl) (Steps.refl _) (a := b439) (argsL := [(.ref x_435), (.int (0 : Int32))]) (rest := [(.ref b439)]) (lenOf pd_519 rfl) rfl (by show 2 * 0 + _ ≤ _; exact Nat.le_of_eq rfl) (hb hby dj52_69_35) (fun _ _ => ⟨rfl, e439, (by decide : 3 + 0 ≤ _), (by decide : 16 + 0 ≤ _)⟩)
      dsimp only [Pt.U, Pt.locs, Pt.cells, Pt.slots] at X442 l442 y442 z442 st442 hQ442
      subst l442 y442 z442
      obtain ⟨rfl, N442q, K442, f442_0, f442_1, f442_2⟩ := hQ442
      have N442 := Fr.app N437 N442q
      have z442 : h439.size ≤ T442.heap.size := K442.1
      have R442 : CHr Z consts_1 s.vm h0 s.vm T442.heap := R439.trans (CHr.keep K442 (sfS Sf439 sf0) R439.1)
      have Sf444 : Safe Z consts_1 s.vm T442.heap b439 := Safe.keep K442 (sfS Sf439 sf0) R439.1 Sf439
      have lt442_0 : @LT.lt Nat _ b439 T442.heap.size := f442_0.lt
      have lt442_1 : @LT.lt Nat _ b439 T442.heap.size := f442_1.lt
      have lt442_2 : @LT.lt Nat _ b439 T442.heap.size := f442_2.lt
      refine oG.tr st442 ?_
      show oG _ _ _ _ (T442.setTop (mkF m 38 #[.val (.ref a1), .val (.int (0 : Int32)), .val (.int (Int32.ofNat mm)), .val (.ref x_435), .val (.int (0 : Int32))] [(.ref b439)]))
      obtain ⟨fs445, hr445, hrun445, hend445, hret445⟩ := X442.leaveW hS0 (by omega) (v := some (.ref b439)) (fun h => by rw [Bd.returns] at h; cases h)
      have f446 : Arv Z h439 x_435 kx_435 .byte (Int32.ofNat mm) (own_low (cs.take mm)) (.int (0 : Int32)) := f436.ext E439
      have ne447 : @Ne Nat b439 x_435 := Exa.neArv A439 f446 (own_w hw 10 rfl)
      have f448 : Arv Z T442.heap x_435 kx_435 .byte (Int32.ofNat mm) (own_low (cs.take mm)) (.int (0 : Int32)) := f446.keep K442 (ninS (Ne.symm ne447) nin0)
      have K449 : Keep h0 T435.heap [] := (Keep.refl h0 []).trans K435 all0
      have K450 : Keep h0 h439 [] := K449.ext E439
      have K451 : Keep h0 T442.heap [] := K450.trans K442 (allS (Or.inr (by omega)) all0)
      subst hPP
      refine ⟨_, _, own_retA X442 hx Bd.returns rfl rfl (hb hby dj52_69_38) hr445, hrun445, hend445, _, _, rfl, ?_, ?_, hret445.1, hret445.2.1, hret445.2.2.1, hret445.2.2.2.mono (by decide) (by decide)⟩
      · show Q_u16news Z _ _ _ _ _ _ _ h0 _ T442.heap _
        exact ⟨b439, x_435, rfl, N442, K451, (own_Str.mkL f442_0 f442_1 f442_2 (by rw [htl]; exact f448) (fun c hc => ⟨(hrng c (List.mem_of_mem_take hc)).1, hcl c hc⟩) (by omega))⟩
      · have hfin := R442.trans (CHv.at X442 hZ hEL R442.1)
        rw [← hh] at hfin
        show CHr Z consts_1 s.vm s.heap T442.vm T442.heap
        exact hfin
    ·
      have f452 : Arv Z T435.heap x_435 kx_435 .byte (Int32.ofNat (2 * mm)) (StrChars.Road.wideBytes (cs.take mm)) (.int (0 : Int32)) := by
        have q := f435_0
        rw [htl] at q
        exact q
      refine oG.st (fun _ k => XS.astoreN X435.here hx rfl (hb hby dj52_69_20) rfl rfl (l' := #[.val (.ref a1), .val (.int (0 : Int32)), .val (.int (Int32.ofNat mm)), .val (.ref x_435), .unset]) rfl (XS.aloadN X435.here hx rfl (hb hby dj52_69_21) rfl rfl (XS.iloadN X435.here hx rfl (hb hby dj52_69_22) rfl k))) ?_
      show oG _ _ _ _ (T435.setTop (mkF m 23 #[.val (.ref a1), .val (.int (0 : Int32)), .val (.int (Int32.ofNat mm)), .val (.ref x_435), .unset] [(.int (Int32.ofNat mm)), (.ref x_435)]))
      have f454 : Old Z Z.heap.size T435.heap := OL.keep K435 all0
      obtain ⟨_, _, ⟨T453, L453, k453, n453⟩, -, X453, ⟨Lc453, hQ453, l453, y453, z453⟩, st453⟩ := Jvm.LawKit.callS X435 hx (y := mN24) hown (own_v hZ hw 165 rfl) (own_v hZ hw 98 rfl) (own_v hZ hw 92 rfl) (own_v hZ hw 99 rfl) (by decide) (backOf (W := 0) (rm_cfal l Z a0 hw [] x_435 (Int32.ofNat mm) mm kx_435 (Int32.ofNat (2 * mm)) (StrChars.Road.wideBytes (cs.take mm)) (.int (0 : Int32)) T435.heap f454 f452 rfl rfl ⟨hm0, by omega⟩) hZ (own_w hw 99 rfl) (own_w hw 92 rfl) (by decide) (by decide)) (g := (mkF m 23 #[.val (.ref a1), .val (.int (0 : Int32)), .val (.int (Int32.ofNat mm)), .val (.ref x_435), .unset] [(.int (Int32.ofNat mm)), (.ref x_435)])) rfl (by rw [hml]; rfl) (argsL := [(.ref x_435), (.int (Int32.ofNat mm))]) (rest := []) (lenOf pd_182 rfl) rfl (by show 2 * 0 + _ ≤ _; exact Nat.le_of_eq rfl) (hb hby dj52_69_23) (fun _ _ => ⟨rfl, rfl, (by decide : 2 + 0 ≤ _), (by decide : 12 + 0 ≤ _)⟩)
      dsimp only [Pt.U, Pt.locs, Pt.cells, Pt.slots] at X453 l453 y453 z453 st453 hQ453
      subst l453 y453 z453
      obtain ⟨rfl, N453q, K453⟩ := hQ453
      have N453 := Fr.app N435 N453q
      refine oG.st st453 ?_
      refine oG.st (fun _ k => XS.istore X453.here hx rfl (hb hby dj52_69_26) rfl (l' := #[.val (.ref a1), .val (.int (0 : Int32)), .val (.int (Int32.ofNat mm)), .val (.ref x_435), .val (.int (1 : Int32))]) rfl k) ?_
      show oG _ _ _ _ (T453.setTop (mkF m 28 #[.val (.ref a1), .val (.int (0 : Int32)), .val (.int (Int32.ofNat mm)), .val (.ref x_435), .val (.int (1 : Int32))] []))
      obtain ⟨T455, h455, X455, e455, E455, A455, D455, U455, st455⟩ := newO X453 hx hZ hown (own_w hw 166 rfl) (own_w hw 10 rfl) (own_w hw 11 rfl) K453 (g := (mkF m 28 #[.val (.ref a1), .val (.int (0 : Int32)), .val (.int (Int32.ofNat mm)), .val (.ref x_435), .val (.int (1 : Int32))] [])) rfl (hb hby dj52_69_28) (by decide) (by decide)
      obtain ⟨b455, g455⟩ : ∃ z, z = T435.heap.size := ⟨_, rfl⟩
      rw [← g455] at A455 D455 U455 st455
      refine oG.st st455 ?_
      have z455 : T435.heap.size ≤ h455.size := E455.1
      have lt_b455 : @LT.lt Nat _ b455 h455.size := A455.lt
      have f456 : Fld Z h455 b455 "java/lang/String" "value" "[B" .null := D455 (Or.inr (own_w hw 25 rfl)) (ty := (.array .byte)) (by decide)
      have f457 : Fld Z h455 b455 "java/lang/String" "coder" "B" (.int (0 : Int32)) := D455 (Or.inr (own_w hw 26 rfl)) (ty := .byte) (by decide)
      have R455 : CHr Z consts_1 s.vm h0 s.vm h455 := R435.trans (CHr.ext E455 R435.1)
      have Sf455 : Safe Z consts_1 s.vm h455 b455 := (Safe.new (Nat.le_of_eq g455.symm)).ext E455 R435.1
      refine oG.st (fun _ k => XS.dup X455.here hx rfl (hb hby dj52_69_31) rfl rfl (XS.aloadN X455.here hx rfl (hb hby dj52_69_32) rfl rfl (XS.iload X455.here hx rfl (hb hby dj52_69_33) rfl k))) ?_
      show oG _ _ _ _ (T455.setTop (mkF m 35 #[.val (.ref a1), .val (.int (0 : Int32)), .val (.int (Int32.ofNat mm)), .val (.ref x_435), .val (.int (1 : Int32))] [(.int (1 : Int32)), (.ref x_435), (.ref b455), (.ref b455)]))
      have f459 : Old Z Z.heap.size h455 := f454.ext E455
      obtain ⟨_, _, ⟨T458, L458, k458, n458⟩, -, X458, ⟨Lc458, hQ458, l458, y458, z458⟩, st458⟩ := X455.specialBack hx (y := mN5) rfl hown (own_v hZ hw 167 rfl) (own_v hZ hw 168 rfl) (own_v hZ hw 169 rfl) (by decide) (backOf (W := 1) (rm_sinitBB1 l Z a0 hw [] b455 x_435 h455 f459 A455 f456 f457 (by omega)) hZ (own_w hw 169 rfl) (own_w hw 11 rfl) (by decide) (by decide)) (g := (mkF m 35 #[.val (.ref a1), .val (.int (0 : Int32)), .val (.int (Int32.ofNat mm)), .val (.ref x_435), .val (.int (1 : Int32))] [(.int (1 : Int32)), (.ref x_435), (.ref b455), (.ref b455)])) rfl (by rw [hml]; rfl) (Steps.refl _) (a := b455) (argsL := [(.ref x_435), (.int (1 : Int32))]) (rest := [(.ref b455)]) (lenOf pd_519 rfl) rfl (by show 2 * 0 + _ ≤ _; exact Nat.le_of_eq rfl) (hb hby dj52_69_35) (fun _ _ => ⟨rfl, e455, (by decide : 3 + 0 ≤ _), (by decide : 16 + 0 ≤ _)⟩)
      dsimp only [Pt.U, Pt.locs, Pt.cells, Pt.slots] at X458 l458 y458 z458 st458 hQ458
      subst l458 y458 z458
      obtain ⟨rfl, N458q, K458, f458_0, f458_1, f458_2⟩ := hQ458
      have N458 := Fr.app N453 N458q
      have z458 : h455.size ≤ T458.heap.size := K458.1
      have R458 : CHr Z consts_1 s.vm h0 s.vm T458.heap := R455.trans (CHr.keep K458 (sfS Sf455 sf0) R455.1)
      have Sf460 : Safe Z consts_1 s.vm T458.heap b455 := Safe.keep K458 (sfS Sf455 sf0) R455.1 Sf455
      have lt458_0 : @LT.lt Nat _ b455 T458.heap.size := f458_0.lt
      have lt458_1 : @LT.lt Nat _ b455 T458.heap.size := f458_1.lt
      have lt458_2 : @LT.lt Nat _ b455 T458.heap.size := f458_2.lt
      refine oG.tr st458 ?_
      show oG _ _ _ _ (T458.setTop (mkF m 38 #[.val (.ref a1), .val (.int (0 : Int32)), .val (.int (Int32.ofNat mm)), .val (.ref x_435), .val (.int (1 : Int32))] [(.ref b455)]))
      obtain ⟨fs461, hr461, hrun461, hend461, hret461⟩ := X458.leaveW hS0 (by omega) (v := some (.ref b455)) (fun h => by rw [Bd.returns] at h; cases h)
      have f462 : Arv Z h455 x_435 kx_435 .byte (Int32.ofNat (2 * mm)) (StrChars.Road.wideBytes (cs.take mm)) (.int (0 : Int32)) := f452.ext E455
      have ne463 : @Ne Nat b455 x_435 := Exa.neArv A455 f462 (own_w hw 10 rfl)
      have f464 : Arv Z T458.heap x_435 kx_435 .byte (Int32.ofNat (2 * mm)) (StrChars.Road.wideBytes (cs.take mm)) (.int (0 : Int32)) := f462.keep K458 (ninS (Ne.symm ne463) nin0)
      have K465 : Keep h0 T435.heap [] := (Keep.refl h0 []).trans K435 all0
      have K466 : Keep h0 h455 [] := K465.ext E455
      have K467 : Keep h0 T458.heap [] := K466.trans K458 (allS (Or.inr (by omega)) all0)
      subst hPP
      refine ⟨_, _, own_retA X458 hx Bd.returns rfl rfl (hb hby dj52_69_38) hr461, hrun461, hend461, _, _, rfl, ?_, ?_, hret461.1, hret461.2.1, hret461.2.2.1, hret461.2.2.2.mono (by decide) (by decide)⟩
      · show Q_u16news Z _ _ _ _ _ _ _ h0 _ T458.heap _
        exact ⟨b455, x_435, rfl, N458, K467, ⟨_, 1, _, _, f458_0, f458_1, f458_2, f464, Or.inr ⟨rfl, by rw [htl], rfl, hcb⟩, own_rngT hrng, by omega⟩⟩
      · have hfin := R458.trans (CHv.at X458 hZ hEL R458.1)
        rw [← hh] at hfin
        show CHr Z consts_1 s.vm s.heap T458.vm T458.heap
        exact hfin
theorem dj41_12_0 : decode cJ3 0 = .ok (.iload_n 0, 1) := by decide +kernel
theorem dj41_12_1 : decode cJ3 1 = .ok (.ifCond .lt 13, 3) := by decide +kernel
theorem dj41_12_4 : decode cJ3 4 = .ok (.iload_n 0, 1) := by decide +kernel
theorem dj41_12_5 : decode cJ3 5 = .ok (.iload_n 1, 1) := by decide +kernel
theorem dj41_12_6 : decode cJ3 6 = .ok (.if_icmp .gt 8, 3) := by decide +kernel
theorem dj41_12_9 : decode cJ3 9 = .ok (.iload_n 1, 1) := by decide +kernel
theorem dj41_12_10 : decode cJ3 10 = .ok (.iload_n 2, 1) := by decide +kernel
theorem dj41_12_11 : decode cJ3 11 = .ok (.if_icmp .le 11, 3) := by decide +kernel
theorem dj41_12_22 : decode cJ3 22 = .ok (.iload_n 0, 1) := by decide +kernel
theorem dj41_12_23 : decode cJ3 23 = .ok (.ireturn, 1) := by decide +kernel
def Q_pcft (Z : State) (p1 : Int32) (p2 : Int32) (p3 : Int32) (fm : Value) (h0 : Heap) (v : Option Value) (h : Heap) (L : List Loc) : Prop := v = some (.int p1) ∧ Fr Z.heap.size L ∧ h = h0
set_option maxRecDepth 65536 in
set_option maxHeartbeats 40000000 in
theorem rm_pcft (l : Launch) (Z : State) (a0 : Array Value) (hw : ∀ d ∈ tables_1, d.before a0 Z = true) (ws : List Jvm.Cond) (p1 : Int32) (p2 : Int32) (p3 : Int32) (fm : Value) (h0 : Heap) (OL : Old Z Z.heap.size h0) (h1 : ¬ p1 < 0) (h2 : ¬ p2 < p1) (h3 : ¬ p3 < p2) (hfm : fm.isRef = true) :
    MetFree l mN41 (head1 (Jvm.Cond.code mN41 jdk_41_method_12_code 4 (some .int) :: ws) rM0) (fun a U => a = #[(.int p1), (.int p2), (.int p3), fm] ∧ Z.Warmed39 U.vm ∧ U.heap = h0) (fun _ _ _ _ _ => True) (fun _ U o U' => ∃ v L, o = .returned v ∧ Q_pcft Z p1 p2 p3 fm h0 v U'.heap L ∧ FrameEnd U o U' L rM0.cells rM0.slots) := by
  refine MetFree.of_bodySF (plainFor_of_name pn_249) hisR ?_
  intro p e s m args below meth c s₁ Bd hml0 hP hK
  obtain ⟨rfl, hZ, hh⟩ := hP
  have hx := Bd.exec
  have hby := Bd.bytes
  have hml : c.maxLocals = 4 := hml0
  have hown : s.vm.findClass "jdk/internal/util/Preconditions" = some m.cls := findClass_of_methodNamed Bd.named
  have hnm := (name_of_methodNamed Bd.named Bd.method).1
  have X0 : Stand p l e rM0 s m #[(.int p1), (.int p2), (.int p3), fm] below meth c s₁ [] 0 0 := Stand.of_body Bd
  have e0 : s₁.heap = h0 := by rw [← hh, Bd.state]; rfl
  have N0 := Fr.nil Z.heap.size
  have Z0 : Z.heap.size ≤ h0.size := OL.2.1
  show oG p.tables e below (fun o tE => ∃ v L, o = .returned v ∧ Q_pcft Z p1 p2 p3 fm h0 v tE.heap L ∧ FrameEnd s o tE L rM0.cells rM0.slots) (s₁.setTop (entryFrame m #[(.int p1), (.int p2), (.int p3), fm] 4))
  refine own_hd (fun PP hPP => ?_)
  refine oG.st (fun t k => castTop (ef_277 m p1 p2 p3 fm hfm) k) ?_
  refine oG.st (fun _ k => XS.iloadN X0.here hx rfl (hb hby dj41_12_0) rfl k) ?_
  show oG _ _ _ _ (s₁.setTop (mkF m 1 #[.val (.int p1), .val (.int p2), .val (.int p3), .val fm] [(.int p1)]))
  have hc468 : ¬ (p1 < (0 : Int32)) := h1
  refine oG.st (fun _ k => XS.ifNo X0.here hx rfl (hb hby dj41_12_1) rfl ((if0 _ _).trans (flt hc468).1) k) ?_
  refine oG.st (fun _ k => XS.iloadN X0.here hx rfl (hb hby dj41_12_4) rfl (XS.iloadN X0.here hx rfl (hb hby dj41_12_5) rfl k)) ?_
  show oG _ _ _ _ (s₁.setTop (mkF m 6 #[.val (.int p1), .val (.int p2), .val (.int p3), .val fm] [(.int p2), (.int p1)]))
  have hc469 : ¬ (p2 < p1) := h2
  refine oG.st (fun _ k => XS.icmpNo X0.here hx rfl (hb hby dj41_12_6) rfl (flt hc469).2.2.1 k) ?_
  refine oG.st (fun _ k => XS.iloadN X0.here hx rfl (hb hby dj41_12_9) rfl (XS.iloadN X0.here hx rfl (hb hby dj41_12_10) rfl k)) ?_
  show oG _ _ _ _ (s₁.setTop (mkF m 11 #[.val (.int p1), .val (.int p2), .val (.int p3), .val fm] [(.int p3), (.int p2)]))
  have hc470 : ¬ (p3 < p2) := h3
  refine oG.st (fun _ k => XS.icmpYes X0.here hx rfl (pc0 := 11) (pc' := 22) rfl (hb hby dj41_12_11) rfl (flt hc470).2.2.2 (by decide) (by decide) k) ?_
  refine oG.st (fun _ k => XS.iloadN X0.here hx rfl (hb hby dj41_12_22) rfl k) ?_
  show oG _ _ _ _ (s₁.setTop (mkF m 23 #[.val (.int p1), .val (.int p2), .val (.int p3), .val fm] [(.int p1)]))
  obtain ⟨fs471, hr471, hrun471, hend471, hW471, hsm471⟩ := X0.leave (v := some (.int p1)) (fun h => by rw [Bd.returns] at h; cases h)
  subst hPP
  refine ⟨_, _, own_retI X0 hx Bd.returns (hb hby dj41_12_23) hr471, hrun471, hend471, _, _, rfl, ?_, ⟨_, rfl⟩, hW471, hsm471.mono (by decide) (by decide)⟩
  · show Q_pcft Z _ _ _ _ h0 _ s₁.heap _
    rw [e0]
    exact ⟨rfl, N0, rfl⟩
theorem dj42_158_0 : decode cJ10 0 = .ok (.iload_n 0, 1) := by decide +kernel
theorem dj42_158_1 : decode cJ10 1 = .ok (.iload_n 1, 1) := by decide +kernel
theorem dj42_158_2 : decode cJ10 2 = .ok (.iload_n 2, 1) := by decide +kernel
theorem dj42_158_3 : decode cJ10 3 = .ok (.getstatic 1053, 3) := by decide +kernel
theorem dj42_158_6 : decode cJ10 6 = .ok (.invokestatic 1062, 3) := by decide +kernel
theorem dj42_158_9 : decode cJ10 9 = .ok (.pop, 1) := by decide +kernel
theorem dj42_158_10 : decode cJ10 10 = .ok (.return_, 1) := by decide +kernel
def Q_cbbe (Z : State) (p1 : Int32) (p2 : Int32) (p3 : Int32) (fm : Value) (h0 : Heap) (v : Option Value) (h : Heap) (L : List Loc) : Prop := v = none ∧ Fr Z.heap.size L ∧ h = h0
set_option maxRecDepth 65536 in
set_option maxHeartbeats 40000000 in
theorem rm_cbbe (l : Launch) (Z : State) (a0 : Array Value) (hw : ∀ d ∈ tables_1, d.before a0 Z = true) (ws : List Jvm.Cond) (p1 : Int32) (p2 : Int32) (p3 : Int32) (fm : Value) (h0 : Heap) (OL : Old Z Z.heap.size h0) (st_SIOOBE_FORMATTER : Sta Z Z.heap "jdk/internal/util/Preconditions" "SIOOBE_FORMATTER" "Ljava/util/function/BiFunction;" fm) (h1 : ¬ p1 < 0) (h2 : ¬ p2 < p1) (h3 : ¬ p3 < p2) (hfm : fm.isRef = true) :
    MetFree l mN9 (head1 (Jvm.Cond.code mN9 jdk_42_method_158_code 3 none :: ws) rM3) (fun a U => a = #[(.int p1), (.int p2), (.int p3)] ∧ Z.Warmed39 U.vm ∧ U.heap = h0) (fun _ _ _ _ _ => True) (fun _ U o U' => ∃ v L, o = .returned v ∧ Q_cbbe Z p1 p2 p3 fm h0 v U'.heap L ∧ FrameEnd U o U' L rM3.cells rM3.slots) := by
  refine MetFree.of_bodySF (plainFor_of_name pn_0) hisR ?_
  intro p e s m args below meth c s₁ Bd hml0 hP hK
  obtain ⟨rfl, hZ, hh⟩ := hP
  have hx := Bd.exec
  have hby := Bd.bytes
  have hml : c.maxLocals = 3 := hml0
  have hown : s.vm.findClass "java/lang/String" = some m.cls := findClass_of_methodNamed Bd.named
  have hnm := (name_of_methodNamed Bd.named Bd.method).1
  have X0 : Stand p l e rM3 s m #[(.int p1), (.int p2), (.int p3)] below meth c s₁ [] 0 0 := Stand.of_body Bd
  have e0 : s₁.heap = h0 := by rw [← hh, Bd.state]; rfl
  have N0 := Fr.nil Z.heap.size
  have Z0 : Z.heap.size ≤ h0.size := OL.2.1
  show oG p.tables e below (fun o tE => ∃ v L, o = .returned v ∧ Q_cbbe Z p1 p2 p3 fm h0 v tE.heap L ∧ FrameEnd s o tE L rM3.cells rM3.slots) (s₁.setTop (entryFrame m #[(.int p1), (.int p2), (.int p3)] 3))
  refine own_hd (fun PP hPP => ?_)
  refine oG.st (fun t k => castTop (ef_291 m p1 p2 p3) k) ?_
  refine oG.st (fun _ k => XS.iloadN X0.here hx rfl (hb hby dj42_158_0) rfl (XS.iloadN X0.here hx rfl (hb hby dj42_158_1) rfl (XS.iloadN X0.here hx rfl (hb hby dj42_158_2) rfl k))) ?_
  show oG _ _ _ _ (s₁.setTop (mkF m 3 #[.val (.int p1), .val (.int p2), .val (.int p3)] [(.int p3), (.int p2), (.int p1)]))
  obtain ⟨T472, X472, e472, st472⟩ := getS2 X0 hx hZ hown (host := "") (Or.inl (own_w hw 84 rfl)) Via.refl e0 (st_SIOOBE_FORMATTER.ext OL.2) (g := (mkF m 3 #[.val (.int p1), .val (.int p2), .val (.int p3)] [(.int p3), (.int p2), (.int p1)])) rfl (hb hby dj42_158_3)
  refine oG.st st472 ?_
  show oG _ _ _ _ (T472.setTop (mkF m 6 #[.val (.int p1), .val (.int p2), .val (.int p3)] [fm, (.int p3), (.int p2), (.int p1)]))
  obtain ⟨_, _, ⟨T473, L473, k473, n473⟩, -, X473, ⟨Lc473, hQ473, l473, y473, z473⟩, st473⟩ := Jvm.LawKit.callS X472 hx (y := mN41) hown (own_v hZ hw 86 rfl) (own_v hZ hw 87 rfl) (own_v hZ hw 85 rfl) (own_v hZ hw 88 rfl) (by decide) (backOf (W := 0) (rm_pcft l Z a0 hw [] p1 p2 p3 fm h0 OL h1 h2 h3 hfm) hZ (own_w hw 88 rfl) (own_w hw 85 rfl) (by decide) (by decide)) (g := (mkF m 6 #[.val (.int p1), .val (.int p2), .val (.int p3)] [fm, (.int p3), (.int p2), (.int p1)])) rfl (by rw [hml]; rfl) (argsL := [(.int p1), (.int p2), (.int p3), fm]) (rest := []) (lenOf pd_296 rfl) rfl (by show 2 * 0 + _ ≤ _; exact Nat.le_of_eq rfl) (hb hby dj42_158_6) (fun _ _ => ⟨rfl, e472, (by decide : 0 + 0 ≤ _), (by decide : 0 + 0 ≤ _)⟩)
  dsimp only [Pt.U, Pt.locs, Pt.cells, Pt.slots] at X473 l473 y473 z473 st473 hQ473
  subst l473 y473 z473
  obtain ⟨rfl, N473q, K473⟩ := hQ473
  have N473 := Fr.app N0 N473q
  refine oG.st st473 ?_
  refine oG.st (fun _ k => XS.pop X473.here hx rfl (hb hby dj42_158_9) rfl rfl k) ?_
  show oG _ _ _ _ (T473.setTop (mkF m 10 #[.val (.int p1), .val (.int p2), .val (.int p3)] []))
  obtain ⟨fs474, hr474, hrun474, hend474, hW474, hsm474⟩ := X473.leave (v := none) (fun _ => rfl)
  subst hPP
  refine ⟨_, _, X473.returnOut hx Bd.returns (hb hby dj42_158_10) hr474, hrun474, hend474, _, _, rfl, ?_, ⟨_, rfl⟩, hW474, hsm474.mono (by decide) (by decide)⟩
  · show Q_cbbe Z _ _ _ _ h0 _ T473.heap _
    rw [K473]
    exact ⟨rfl, N473, rfl⟩
theorem dj42_92_0 : decode cJ15 0 = .ok (.aload_n 0, 1) := by decide +kernel
theorem dj42_92_1 : decode cJ15 1 = .ok (.invokevirtual 505, 3) := by decide +kernel
theorem dj42_92_4 : decode cJ15 4 = .ok (.istore_n 3, 1) := by decide +kernel
theorem dj42_92_5 : decode cJ15 5 = .ok (.iload_n 1, 1) := by decide +kernel
theorem dj42_92_6 : decode cJ15 6 = .ok (.iload_n 2, 1) := by decide +kernel
theorem dj42_92_7 : decode cJ15 7 = .ok (.iload_n 3, 1) := by decide +kernel
theorem pd_566 : parseMethodDescriptor "(III)V" = some ⟨[.int, .int, .int], none⟩ := by decide +kernel
theorem dj42_92_8 : decode cJ15 8 = .ok (.invokestatic 521, 3) := by decide +kernel
theorem dj42_92_11 : decode cJ15 11 = .ok (.iload_n 1, 1) := by decide +kernel
theorem dj42_92_12 : decode cJ15 12 = .ok (.ifCond .ne 10, 3) := by decide +kernel
theorem dj42_92_15 : decode cJ15 15 = .ok (.iload_n 2, 1) := by decide +kernel
theorem dj42_92_16 : decode cJ15 16 = .ok (.iload_n 3, 1) := by decide +kernel
theorem dj42_92_17 : decode cJ15 17 = .ok (.if_icmp .ne 5, 3) := by decide +kernel
theorem dj42_92_20 : decode cJ15 20 = .ok (.aload_n 0, 1) := by decide +kernel
theorem dj42_92_21 : decode cJ15 21 = .ok (.areturn, 1) := by decide +kernel
theorem dj42_92_22 : decode cJ15 22 = .ok (.iload_n 2, 1) := by decide +kernel
theorem dj42_92_23 : decode cJ15 23 = .ok (.iload_n 1, 1) := by decide +kernel
theorem dj42_92_24 : decode cJ15 24 = .ok (.isub, 1) := by decide +kernel
theorem dj42_92_25 : decode cJ15 25 = .ok (.istore 4, 2) := by decide +kernel
theorem dj42_92_27 : decode cJ15 27 = .ok (.aload_n 0, 1) := by decide +kernel
theorem dj42_92_28 : decode cJ15 28 = .ok (.invokevirtual 492, 3) := by decide +kernel
theorem dj42_92_31 : decode cJ15 31 = .ok (.ifCond .eq 16, 3) := by decide +kernel
theorem dj42_92_34 : decode cJ15 34 = .ok (.aload_n 0, 1) := by decide +kernel
theorem dj42_92_35 : decode cJ15 35 = .ok (.getfield 9, 3) := by decide +kernel
theorem dj42_92_38 : decode cJ15 38 = .ok (.iload_n 1, 1) := by decide +kernel
theorem dj42_92_39 : decode cJ15 39 = .ok (.iload 4, 2) := by decide +kernel
theorem pd_586 : parseMethodDescriptor "([BII)Ljava/lang/String;" = some ⟨[(.array .byte), .int, .int], some (.object "java/lang/String")⟩ := by decide +kernel
theorem dj42_92_41 : decode cJ15 41 = .ok (.invokestatic 685, 3) := by decide +kernel
theorem dj42_92_44 : decode cJ15 44 = .ok (.goto 13, 3) := by decide +kernel
theorem dj42_92_57 : decode cJ15 57 = .ok (.areturn, 1) := by decide +kernel
theorem dj42_92_47 : decode cJ15 47 = .ok (.aload_n 0, 1) := by decide +kernel
theorem dj42_92_48 : decode cJ15 48 = .ok (.getfield 9, 3) := by decide +kernel
theorem dj42_92_51 : decode cJ15 51 = .ok (.iload_n 1, 1) := by decide +kernel
theorem dj42_92_52 : decode cJ15 52 = .ok (.iload 4, 2) := by decide +kernel
theorem dj42_92_54 : decode cJ15 54 = .ok (.invokestatic 689, 3) := by decide +kernel
def Q_substr0 (Z : State) (a1 : Nat) (p3 : Int32) (t1 : Nat) (cs : List Int32) (zc : Int32) (j : Nat) (fm : Value) (h0 : Heap) (v : Option Value) (h : Heap) (L : List Loc) : Prop := ∃ (x : Nat), ∃ (t : Nat), v = some (.ref x) ∧ Fr Z.heap.size L ∧ Keep h0 h [] ∧ own_Str Z h x t (cs.take j)
set_option maxRecDepth 65536 in
set_option maxHeartbeats 40000000 in
theorem rm_substr0 (l : Launch) (Z : State) (a0 : Array Value) (hw : ∀ d ∈ tables_1, d.before a0 Z = true) (ws : List Jvm.Cond) (a1 : Nat) (p3 : Int32) (t1 : Nat) (cs : List Int32) (zc : Int32) (j : Nat) (fm : Value) (h0 : Heap) (hEL : EW Z a0 consts_1) (OL : Old Z Z.heap.size h0) (p0_ : own_Str Z h0 a1 t1 cs) (st_C : Sta Z Z.heap "java/lang/String" "COMPACT_STRINGS" "Z" (.int zc)) (st_SIOOBE_FORMATTER : Sta Z Z.heap "jdk/internal/util/Preconditions" "SIOOBE_FORMATTER" "Ljava/util/function/BiFunction;" fm) (st_A : Sta Z Z.heap "java/lang/StringUTF16" "$assertionsDisabled" "Z" (.int (1 : Int32))) (st_H : Sta Z Z.heap "java/lang/StringUTF16" "HI_BYTE_SHIFT" "I" (.int (0 : Int32))) (st_L : Sta Z Z.heap "java/lang/StringUTF16" "LO_BYTE_SHIFT" "I" (.int (8 : Int32))) (hzc : ¬ zc = 0) (hfm : fm.isRef = true) (hp3 : p3 = Int32.ofNat j) (hj : own_jj cs j) (hle : cs.length ≤ 4) :
    MetFree l mN16 (head1 (Jvm.Cond.code mN16 jdk_42_method_92_code 5 (some (.object "java/lang/String")) :: ws) rM24) (fun a U => a = #[(.ref a1), (.int (0 : Int32)), (.int p3)] ∧ Z.Warmed39 U.vm ∧ U.heap = h0 ∧ CHv Z consts_1 U.vm h0) (fun _ _ _ _ _ => True) (fun _ U o U' => ∃ v L, o = .returned v ∧ Q_substr0 Z a1 p3 t1 cs zc j fm h0 v U'.heap L ∧ CHr Z consts_1 U.vm U.heap U'.vm U'.heap ∧ ReturnedEndW U o U' L rM24.cells rM24.slots) := by
  refine MetFree.of_bodySF (plainFor_of_name pn_0) hisR ?_
  intro p e s m args below meth c s₁ Bd hml0 hP hK
  obtain ⟨rfl, hZ, hh, hC0⟩ := hP
  have hx := Bd.exec
  have hby := Bd.bytes
  have hml : c.maxLocals = 5 := hml0
  have hown : s.vm.findClass "java/lang/String" = some m.cls := findClass_of_methodNamed Bd.named
  have hnm := (name_of_methodNamed Bd.named Bd.method).1
  have X0 : Stand p l e rM24 (s.setVm s.vm) m #[(.ref a1), (.int (0 : Int32)), (.int p3)] below meth c s₁ [] 0 0 := Stand.of_body Bd
  have e0 : s₁.heap = h0 := by rw [← hh, Bd.state]; rfl
  have N0 := Fr.nil Z.heap.size
  have Z0 : Z.heap.size ≤ h0.size := OL.2.1
  have hS0 : s.Since s.vm h0.size := (State.WarmedH.refl s).since _
  have wS := own_wS hw
  have R0 : CHr Z consts_1 s.vm h0 s.vm h0 := CHr.refl hC0
  have lt_0 : @LT.lt Nat _ a1 h0.size := p0_.lt
  have ltv_0 : @LT.lt Nat _ t1 h0.size := p0_.ltv
  show oG p.tables e below (fun o tE => ∃ v L, o = .returned v ∧ Q_substr0 Z a1 p3 t1 cs zc j fm h0 v tE.heap L ∧ CHr Z consts_1 s.vm s.heap tE.vm tE.heap ∧ ReturnedEndW s o tE L rM24.cells rM24.slots) (s₁.setTop (entryFrame m #[(.ref a1), (.int (0 : Int32)), (.int p3)] 5))
  refine own_hd (fun PP hPP => ?_)
  refine oG.st (fun t k => castTop (ef_113 m a1 (0 : Int32) p3) k) ?_
  subst hp3
  have hjl := hj.le
  obtain ⟨kb475, cd475, N2475, vs475, s1475, s2475, s3475, s4475, s5475, s6475, s7475⟩ := id p0_
  rcases s5475 with ⟨rfl, hN475, hv475, hl475⟩ | ⟨rfl, hN475, hv475, hl475⟩
  ·
    subst hN475 hv475
    refine oG.st (fun _ k => XS.aloadN X0.here hx rfl (hb hby dj42_92_0) rfl rfl k) ?_
    show oG _ _ _ _ (s₁.setTop (mkF m 1 #[.val (.ref a1), .val (.int (0 : Int32)), .val (.int (Int32.ofNat j)), .unset, .unset] [(.ref a1)]))
    obtain ⟨kb477, cd477, N477_, vs477, s1477, s2477, s3477, s4477, s5477, s6477, s7477⟩ := id p0_
    obtain ⟨cq476, kq476, q476a, q476b, q476c⟩ := isOf hZ e0 s1475
    obtain ⟨_, _, ⟨T476, L476, k476, n476⟩, -, X476, ⟨Lc476, hQ476, l476, y476, z476⟩, st476⟩ := X0.virtualBack hx (y := mN15) (z := mN15) hown (own_v hZ hw 44 rfl) (own_v hZ hw 45 rfl) (notFace_of_selects (args := #[]) (own_v hZ hw 47 rfl)) (own_v hZ hw 47 rfl) (own_v hZ hw 46 rfl) (by decide) (StrChars.Road.lenW (W := 0) hZ (own_hln hw) (kI := 4) (own_w hw 10 rfl) s1477 s2477 s3477 s4477 s5477 s6477 (st_C.ext OL.2) hzc s7477 (by decide) (by decide)) q476a q476c (g := (mkF m 1 #[.val (.ref a1), .val (.int (0 : Int32)), .val (.int (Int32.ofNat j)), .unset, .unset] [(.ref a1)])) rfl (by rw [hml]; rfl) (Steps.refl _) (argsL := []) (rest := []) (lenOf pd_427 rfl) rfl (by show 2 * 0 + _ ≤ _; exact Nat.le_of_eq rfl) (hb hby dj42_92_1) (fun _ _ => ⟨rfl, e0, (by decide : 0 + 0 ≤ _), (by decide : 0 + 0 ≤ _)⟩)
    dsimp only [Pt.U, Pt.locs, Pt.cells, Pt.slots] at X476 l476 y476 z476 st476 hQ476
    subst l476 y476 z476
    obtain ⟨rfl, rfl, K476⟩ := hQ476
    have N476 := Fr.app N0 (Fr.nil Z.heap.size)
    refine oG.tr st476 ?_
    refine oG.st (fun _ k => XS.istoreN X476.here hx rfl (hb hby dj42_92_4) rfl (l' := #[.val (.ref a1), .val (.int (0 : Int32)), .val (.int (Int32.ofNat j)), .val (.int (Int32.ofNat cs.length)), .unset]) rfl (XS.iloadN X476.here hx rfl (hb hby dj42_92_5) rfl (XS.iloadN X476.here hx rfl (hb hby dj42_92_6) rfl (XS.iloadN X476.here hx rfl (hb hby dj42_92_7) rfl k)))) ?_
    show oG _ _ _ _ (T476.setTop (mkF m 8 #[.val (.ref a1), .val (.int (0 : Int32)), .val (.int (Int32.ofNat j)), .val (.int (Int32.ofNat cs.length)), .unset] [(.int (Int32.ofNat cs.length)), (.int (Int32.ofNat j)), (.int (0 : Int32))]))
    obtain ⟨_, _, ⟨T478, L478, k478, n478⟩, -, X478, ⟨Lc478, hQ478, l478, y478, z478⟩, st478⟩ := Jvm.LawKit.callS X476 hx (y := mN9) hown (own_v hZ hw 81 rfl) (own_v hZ hw 82 rfl) (own_v hZ hw 11 rfl) (own_v hZ hw 83 rfl) (by decide) (backOf (W := 0) (rm_cbbe l Z a0 hw [] (0 : Int32) (Int32.ofNat j) (Int32.ofNat cs.length) fm h0 OL st_SIOOBE_FORMATTER (by decide) (own_of0 (by omega)) (by rw [own_oflt (by omega) (by omega)]; omega) hfm) hZ (own_w hw 83 rfl) (own_w hw 11 rfl) (by decide) (by decide)) (g := (mkF m 8 #[.val (.ref a1), .val (.int (0 : Int32)), .val (.int (Int32.ofNat j)), .val (.int (Int32.ofNat cs.length)), .unset] [(.int (Int32.ofNat cs.length)), (.int (Int32.ofNat j)), (.int (0 : Int32))])) rfl (by rw [hml]; rfl) (argsL := [(.int (0 : Int32)), (.int (Int32.ofNat j)), (.int (Int32.ofNat cs.length))]) (rest := []) (lenOf pd_566 rfl) rfl (by show 2 * 0 + _ ≤ _; exact Nat.le_of_eq rfl) (hb hby dj42_92_8) (fun _ _ => ⟨rfl, K476, (by decide : 0 + 0 ≤ _), (by decide : 0 + 0 ≤ _)⟩)
    dsimp only [Pt.U, Pt.locs, Pt.cells, Pt.slots] at X478 l478 y478 z478 st478 hQ478
    subst l478 y478 z478
    obtain ⟨rfl, N478q, K478⟩ := hQ478
    have N478 := Fr.app N476 N478q
    refine oG.st st478 ?_
    refine oG.st (fun _ k => XS.iloadN X478.here hx rfl (hb hby dj42_92_11) rfl k) ?_
    show oG _ _ _ _ (T478.setTop (mkF m 12 #[.val (.ref a1), .val (.int (0 : Int32)), .val (.int (Int32.ofNat j)), .val (.int (Int32.ofNat cs.length)), .unset] [(.int (0 : Int32))]))
    refine oG.st (fun _ k => XS.ifNo X478.here hx rfl (hb hby dj42_92_12) rfl ((if0 _ _).trans (teq (rfl : (0 : Int32) = (0 : Int32))).2) k) ?_
    refine oG.st (fun _ k => XS.iloadN X478.here hx rfl (hb hby dj42_92_15) rfl (XS.iloadN X478.here hx rfl (hb hby dj42_92_16) rfl k)) ?_
    show oG _ _ _ _ (T478.setTop (mkF m 17 #[.val (.ref a1), .val (.int (0 : Int32)), .val (.int (Int32.ofNat j)), .val (.int (Int32.ofNat cs.length)), .unset] [(.int (Int32.ofNat cs.length)), (.int (Int32.ofNat j))]))
    by_cases h17 : (Int32.ofNat j) = (Int32.ofNat cs.length)
    ·
      refine oG.st (fun _ k => XS.icmpNo X478.here hx rfl (hb hby dj42_92_17) rfl (teq h17).2 k) ?_
      have hq : j = cs.length := (own_ofE (by omega) (by omega)).mp h17
      refine oG.st (fun _ k => XS.aloadN X478.here hx rfl (hb hby dj42_92_20) rfl rfl k) ?_
      show oG _ _ _ _ (T478.setTop (mkF m 21 #[.val (.ref a1), .val (.int (0 : Int32)), .val (.int (Int32.ofNat j)), .val (.int (Int32.ofNat cs.length)), .unset] [(.ref a1)]))
      obtain ⟨fs479, hr479, hrun479, hend479, hret479⟩ := X478.leaveW hS0 (by rw [K478]; exact (by omega)) (v := some (.ref a1)) (fun h => by rw [Bd.returns] at h; cases h)
      have f480 : own_Str Z h0 a1 t1 (cs.take j) := by
        rw [hq, List.take_length]
        exact p0_
      subst hPP
      refine ⟨_, _, own_retA X478 hx Bd.returns rfl rfl (hb hby dj42_92_21) hr479, hrun479, hend479, _, _, rfl, ?_, ?_, hret479.1, hret479.2.1, hret479.2.2.1, hret479.2.2.2.mono (by decide) (by decide)⟩
      · show Q_substr0 Z _ _ _ _ _ _ _ h0 _ T478.heap _
        rw [K478]
        exact ⟨a1, t1, rfl, N478, (Keep.refl h0 []), f480⟩
      · have hfin := R0.trans (CHv.at X478 hZ hEL R0.1)
        show CHr Z consts_1 s.vm s.heap T478.vm T478.heap
        rw [hh]
        rw [K478]
        exact hfin
    ·
      refine oG.st (fun _ k => XS.icmpYes X478.here hx rfl (pc0 := 17) (pc' := 22) rfl (hb hby dj42_92_17) rfl (feq h17).2 (by decide) (by decide) k) ?_
      have hq : j < cs.length := hj.eq (fun q => h17 (by rw [q]))
      refine oG.st (fun _ k => XS.iloadN X478.here hx rfl (hb hby dj42_92_22) rfl (XS.iloadN X478.here hx rfl (hb hby dj42_92_23) rfl (XS.isub X478.here hx rfl (hb hby dj42_92_24) rfl k))) ?_
      show oG _ _ _ _ (T478.setTop (mkF m 25 #[.val (.ref a1), .val (.int (0 : Int32)), .val (.int (Int32.ofNat j)), .val (.int (Int32.ofNat cs.length)), .unset] [(.int ((Int32.ofNat j) - (0 : Int32)))]))
      rw [Int32.sub_zero]
      refine oG.st (fun _ k => XS.istore X478.here hx rfl (hb hby dj42_92_25) rfl (l' := #[.val (.ref a1), .val (.int (0 : Int32)), .val (.int (Int32.ofNat j)), .val (.int (Int32.ofNat cs.length)), .val (.int (Int32.ofNat j))]) rfl (XS.aloadN X478.here hx rfl (hb hby dj42_92_27) rfl rfl k)) ?_
      show oG _ _ _ _ (T478.setTop (mkF m 28 #[.val (.ref a1), .val (.int (0 : Int32)), .val (.int (Int32.ofNat j)), .val (.int (Int32.ofNat cs.length)), .val (.int (Int32.ofNat j))] [(.ref a1)]))
      obtain ⟨cq481, kq481, q481a, q481b, q481c⟩ := isOf hZ K478 s1475
      obtain ⟨_, _, ⟨T481, L481, k481, n481⟩, -, X481, ⟨Lc481, hQ481, l481, y481, z481⟩, st481⟩ := X478.virtualBack hx (y := mN12) (z := mN12) hown (own_v hZ hw 60 rfl) (own_v hZ hw 61 rfl) (notFace_of_selects (args := #[]) (own_v hZ hw 63 rfl)) (own_v hZ hw 63 rfl) (own_v hZ hw 62 rfl) (by decide) (backOf (W := 0) (rm_isl1 l Z a0 hw [] a1 (0 : Int32) zc h0 OL s3475 st_C hzc) hZ (own_w hw 64 rfl) (own_w hw 11 rfl) (by decide) (by decide)) q481a q481c (g := (mkF m 28 #[.val (.ref a1), .val (.int (0 : Int32)), .val (.int (Int32.ofNat j)), .val (.int (Int32.ofNat cs.length)), .val (.int (Int32.ofNat j))] [(.ref a1)])) rfl (by rw [hml]; rfl) (Steps.refl _) (argsL := []) (rest := []) (lenOf pd_329 rfl) rfl (by show 2 * 0 + _ ≤ _; exact Nat.le_of_eq rfl) (hb hby dj42_92_28) (fun _ _ => ⟨rfl, K478, (by decide : 0 + 0 ≤ _), (by decide : 0 + 0 ≤ _)⟩)
      dsimp only [Pt.U, Pt.locs, Pt.cells, Pt.slots] at X481 l481 y481 z481 st481 hQ481
      subst l481 y481 z481
      obtain ⟨rfl, N481q, K481⟩ := hQ481
      have N481 := Fr.app N478 N481q
      refine oG.tr st481 ?_
      show oG _ _ _ _ (T481.setTop (mkF m 31 #[.val (.ref a1), .val (.int (0 : Int32)), .val (.int (Int32.ofNat j)), .val (.int (Int32.ofNat cs.length)), .val (.int (Int32.ofNat j))] [(.int (if (0 : Int32) = 0 then (1 : Int32) else 0))]))
      have hc482 : ¬ ((if (0 : Int32) = 0 then (1 : Int32) else 0) = (0 : Int32)) := by decide
      refine oG.st (fun _ k => XS.ifNo X481.here hx rfl (hb hby dj42_92_31) rfl ((if0 _ _).trans (feq hc482).1) k) ?_
      refine oG.st (fun _ k => XS.aloadN X481.here hx rfl (hb hby dj42_92_34) rfl rfl k) ?_
      show oG _ _ _ _ (T481.setTop (mkF m 35 #[.val (.ref a1), .val (.int (0 : Int32)), .val (.int (Int32.ofNat j)), .val (.int (Int32.ofNat cs.length)), .val (.int (Int32.ofNat j))] [(.ref a1)]))
      obtain ⟨T483, X483, e483, st483⟩ := getF X481 hx hZ hown (host := "") (Or.inl (own_w hw 29 rfl)) Via.refl K481 s2475 (g := (mkF m 35 #[.val (.ref a1), .val (.int (0 : Int32)), .val (.int (Int32.ofNat j)), .val (.int (Int32.ofNat cs.length)), .val (.int (Int32.ofNat j))] [(.ref a1)])) rfl rfl (hb hby dj42_92_35)
      refine oG.st st483 ?_
      refine oG.st (fun _ k => XS.iloadN X483.here hx rfl (hb hby dj42_92_38) rfl (XS.iload X483.here hx rfl (hb hby dj42_92_39) rfl k)) ?_
      show oG _ _ _ _ (T483.setTop (mkF m 41 #[.val (.ref a1), .val (.int (0 : Int32)), .val (.int (Int32.ofNat j)), .val (.int (Int32.ofNat cs.length)), .val (.int (Int32.ofNat j))] [(.int (Int32.ofNat j)), (.int (0 : Int32)), (.ref t1)]))
      obtain ⟨_, _, ⟨T484, L484, k484, n484⟩, -, X484, hs484, hg484, ⟨Lc484, hQ484, l484, y484, z484, ch484⟩, st484⟩ := callSS X483 hx (y := mN20) hown (own_v hZ hw 100 rfl) (own_v hZ hw 101 rfl) (own_v hZ hw 67 rfl) (own_v hZ hw 102 rfl) (by decide) (backOfSH (s := s) (vm0 := s.vm) (W := 0) (rm_l1news l Z a0 hw [] t1 (Int32.ofNat j) cs kb475 j h0 hEL OL s4475 rfl hq hle p0_.rng hl475) hZ (own_w hw 102 rfl) (own_w hw 67 rfl) (by decide) (by decide) hEL R0.1) (g := (mkF m 41 #[.val (.ref a1), .val (.int (0 : Int32)), .val (.int (Int32.ofNat j)), .val (.int (Int32.ofNat cs.length)), .val (.int (Int32.ofNat j))] [(.int (Int32.ofNat j)), (.int (0 : Int32)), (.ref t1)])) rfl (by rw [hml]; rfl) (argsL := [(.ref t1), (.int (0 : Int32)), (.int (Int32.ofNat j))]) (rest := []) (lenOf pd_586 rfl) rfl (by show 2 * 0 + _ ≤ _; exact Nat.le_of_eq rfl) (hb hby dj42_92_41) (fun _ _ => ⟨rfl, e483, (by decide : 0 + 2 ≤ _), (by decide : 0 + 12 ≤ _)⟩)
      dsimp only [Pt.U, Pt.locs, Pt.cells, Pt.slots] at X484 l484 y484 z484 st484 hQ484 hs484 hg484 ch484
      subst l484 y484 z484
      obtain ⟨x_484, t_484, rfl, N484q, K484, f484_0⟩ := hQ484
      have N484 := Fr.app N481 N484q
      obtain ⟨Y484, hS484, hZ484, hown484⟩ := rebS hS0 (n1 := h0.size) (by omega) X484 hs484 (by have := hg484; first | exact this | (rw [← e483]; exact this)) hZ hown
      have z484 : h0.size ≤ T484.heap.size := K484.1
      have R484 : CHr Z consts_1 s.vm h0 T484.vm T484.heap := R0.trans ch484
      have lt484_0 : @LT.lt Nat _ x_484 T484.heap.size := f484_0.lt
      have ltv484_0 : @LT.lt Nat _ t_484 T484.heap.size := f484_0.ltv
      refine oG.tr st484 ?_
      refine oG.st (fun _ k => XS.goto Y484.here hx rfl (pc0 := 44) (pc' := 57) rfl (hb hby dj42_92_44) (by decide) (by decide) k) ?_
      show oG _ _ _ _ (T484.setTop (mkF m 57 #[.val (.ref a1), .val (.int (0 : Int32)), .val (.int (Int32.ofNat j)), .val (.int (Int32.ofNat cs.length)), .val (.int (Int32.ofNat j))] [(.ref x_484)]))
      obtain ⟨fs485, hr485, hrun485, hend485, hret485⟩ := Y484.leaveW hS484 (by omega) (v := some (.ref x_484)) (fun h => by rw [Bd.returns] at h; cases h)
      have K486 : Keep h0 T484.heap [] := (Keep.refl h0 []).trans K484 all0
      subst hPP
      refine ⟨_, _, own_retA Y484 hx Bd.returns rfl rfl (hb hby dj42_92_57) hr485, hrun485, hend485, _, _, rfl, ?_, ?_, hret485.1, hret485.2.1, hret485.2.2.1, hret485.2.2.2.mono (by decide) (by decide)⟩
      · show Q_substr0 Z _ _ _ _ _ _ _ h0 _ T484.heap _
        exact ⟨x_484, t_484, rfl, N484, K486, f484_0⟩
      · have hfin := R484.trans (CHv.at Y484 hZ484 hEL R484.1)
        rw [← hh] at hfin
        show CHr Z consts_1 s.vm s.heap T484.vm T484.heap
        exact hfin
  ·
    subst hN475 hv475
    refine oG.st (fun _ k => XS.aloadN X0.here hx rfl (hb hby dj42_92_0) rfl rfl k) ?_
    show oG _ _ _ _ (s₁.setTop (mkF m 1 #[.val (.ref a1), .val (.int (0 : Int32)), .val (.int (Int32.ofNat j)), .unset, .unset] [(.ref a1)]))
    obtain ⟨kb488, cd488, N488_, vs488, s1488, s2488, s3488, s4488, s5488, s6488, s7488⟩ := id p0_
    obtain ⟨cq487, kq487, q487a, q487b, q487c⟩ := isOf hZ e0 s1475
    obtain ⟨_, _, ⟨T487, L487, k487, n487⟩, -, X487, ⟨Lc487, hQ487, l487, y487, z487⟩, st487⟩ := X0.virtualBack hx (y := mN15) (z := mN15) hown (own_v hZ hw 44 rfl) (own_v hZ hw 45 rfl) (notFace_of_selects (args := #[]) (own_v hZ hw 47 rfl)) (own_v hZ hw 47 rfl) (own_v hZ hw 46 rfl) (by decide) (StrChars.Road.lenW (W := 0) hZ (own_hln hw) (kI := 4) (own_w hw 10 rfl) s1488 s2488 s3488 s4488 s5488 s6488 (st_C.ext OL.2) hzc s7488 (by decide) (by decide)) q487a q487c (g := (mkF m 1 #[.val (.ref a1), .val (.int (0 : Int32)), .val (.int (Int32.ofNat j)), .unset, .unset] [(.ref a1)])) rfl (by rw [hml]; rfl) (Steps.refl _) (argsL := []) (rest := []) (lenOf pd_427 rfl) rfl (by show 2 * 0 + _ ≤ _; exact Nat.le_of_eq rfl) (hb hby dj42_92_1) (fun _ _ => ⟨rfl, e0, (by decide : 0 + 0 ≤ _), (by decide : 0 + 0 ≤ _)⟩)
    dsimp only [Pt.U, Pt.locs, Pt.cells, Pt.slots] at X487 l487 y487 z487 st487 hQ487
    subst l487 y487 z487
    obtain ⟨rfl, rfl, K487⟩ := hQ487
    have N487 := Fr.app N0 (Fr.nil Z.heap.size)
    refine oG.tr st487 ?_
    refine oG.st (fun _ k => XS.istoreN X487.here hx rfl (hb hby dj42_92_4) rfl (l' := #[.val (.ref a1), .val (.int (0 : Int32)), .val (.int (Int32.ofNat j)), .val (.int (Int32.ofNat cs.length)), .unset]) rfl (XS.iloadN X487.here hx rfl (hb hby dj42_92_5) rfl (XS.iloadN X487.here hx rfl (hb hby dj42_92_6) rfl (XS.iloadN X487.here hx rfl (hb hby dj42_92_7) rfl k)))) ?_
    show oG _ _ _ _ (T487.setTop (mkF m 8 #[.val (.ref a1), .val (.int (0 : Int32)), .val (.int (Int32.ofNat j)), .val (.int (Int32.ofNat cs.length)), .unset] [(.int (Int32.ofNat cs.length)), (.int (Int32.ofNat j)), (.int (0 : Int32))]))
    obtain ⟨_, _, ⟨T489, L489, k489, n489⟩, -, X489, ⟨Lc489, hQ489, l489, y489, z489⟩, st489⟩ := Jvm.LawKit.callS X487 hx (y := mN9) hown (own_v hZ hw 81 rfl) (own_v hZ hw 82 rfl) (own_v hZ hw 11 rfl) (own_v hZ hw 83 rfl) (by decide) (backOf (W := 0) (rm_cbbe l Z a0 hw [] (0 : Int32) (Int32.ofNat j) (Int32.ofNat cs.length) fm h0 OL st_SIOOBE_FORMATTER (by decide) (own_of0 (by omega)) (by rw [own_oflt (by omega) (by omega)]; omega) hfm) hZ (own_w hw 83 rfl) (own_w hw 11 rfl) (by decide) (by decide)) (g := (mkF m 8 #[.val (.ref a1), .val (.int (0 : Int32)), .val (.int (Int32.ofNat j)), .val (.int (Int32.ofNat cs.length)), .unset] [(.int (Int32.ofNat cs.length)), (.int (Int32.ofNat j)), (.int (0 : Int32))])) rfl (by rw [hml]; rfl) (argsL := [(.int (0 : Int32)), (.int (Int32.ofNat j)), (.int (Int32.ofNat cs.length))]) (rest := []) (lenOf pd_566 rfl) rfl (by show 2 * 0 + _ ≤ _; exact Nat.le_of_eq rfl) (hb hby dj42_92_8) (fun _ _ => ⟨rfl, K487, (by decide : 0 + 0 ≤ _), (by decide : 0 + 0 ≤ _)⟩)
    dsimp only [Pt.U, Pt.locs, Pt.cells, Pt.slots] at X489 l489 y489 z489 st489 hQ489
    subst l489 y489 z489
    obtain ⟨rfl, N489q, K489⟩ := hQ489
    have N489 := Fr.app N487 N489q
    refine oG.st st489 ?_
    refine oG.st (fun _ k => XS.iloadN X489.here hx rfl (hb hby dj42_92_11) rfl k) ?_
    show oG _ _ _ _ (T489.setTop (mkF m 12 #[.val (.ref a1), .val (.int (0 : Int32)), .val (.int (Int32.ofNat j)), .val (.int (Int32.ofNat cs.length)), .unset] [(.int (0 : Int32))]))
    refine oG.st (fun _ k => XS.ifNo X489.here hx rfl (hb hby dj42_92_12) rfl ((if0 _ _).trans (teq (rfl : (0 : Int32) = (0 : Int32))).2) k) ?_
    refine oG.st (fun _ k => XS.iloadN X489.here hx rfl (hb hby dj42_92_15) rfl (XS.iloadN X489.here hx rfl (hb hby dj42_92_16) rfl k)) ?_
    show oG _ _ _ _ (T489.setTop (mkF m 17 #[.val (.ref a1), .val (.int (0 : Int32)), .val (.int (Int32.ofNat j)), .val (.int (Int32.ofNat cs.length)), .unset] [(.int (Int32.ofNat cs.length)), (.int (Int32.ofNat j))]))
    by_cases h17 : (Int32.ofNat j) = (Int32.ofNat cs.length)
    ·
      refine oG.st (fun _ k => XS.icmpNo X489.here hx rfl (hb hby dj42_92_17) rfl (teq h17).2 k) ?_
      have hq : j = cs.length := (own_ofE (by omega) (by omega)).mp h17
      refine oG.st (fun _ k => XS.aloadN X489.here hx rfl (hb hby dj42_92_20) rfl rfl k) ?_
      show oG _ _ _ _ (T489.setTop (mkF m 21 #[.val (.ref a1), .val (.int (0 : Int32)), .val (.int (Int32.ofNat j)), .val (.int (Int32.ofNat cs.length)), .unset] [(.ref a1)]))
      obtain ⟨fs490, hr490, hrun490, hend490, hret490⟩ := X489.leaveW hS0 (by rw [K489]; exact (by omega)) (v := some (.ref a1)) (fun h => by rw [Bd.returns] at h; cases h)
      have f491 : own_Str Z h0 a1 t1 (cs.take j) := by
        rw [hq, List.take_length]
        exact p0_
      subst hPP
      refine ⟨_, _, own_retA X489 hx Bd.returns rfl rfl (hb hby dj42_92_21) hr490, hrun490, hend490, _, _, rfl, ?_, ?_, hret490.1, hret490.2.1, hret490.2.2.1, hret490.2.2.2.mono (by decide) (by decide)⟩
      · show Q_substr0 Z _ _ _ _ _ _ _ h0 _ T489.heap _
        rw [K489]
        exact ⟨a1, t1, rfl, N489, (Keep.refl h0 []), f491⟩
      · have hfin := R0.trans (CHv.at X489 hZ hEL R0.1)
        show CHr Z consts_1 s.vm s.heap T489.vm T489.heap
        rw [hh]
        rw [K489]
        exact hfin
    ·
      refine oG.st (fun _ k => XS.icmpYes X489.here hx rfl (pc0 := 17) (pc' := 22) rfl (hb hby dj42_92_17) rfl (feq h17).2 (by decide) (by decide) k) ?_
      have hq : j < cs.length := hj.eq (fun q => h17 (by rw [q]))
      refine oG.st (fun _ k => XS.iloadN X489.here hx rfl (hb hby dj42_92_22) rfl (XS.iloadN X489.here hx rfl (hb hby dj42_92_23) rfl (XS.isub X489.here hx rfl (hb hby dj42_92_24) rfl k))) ?_
      show oG _ _ _ _ (T489.setTop (mkF m 25 #[.val (.ref a1), .val (.int (0 : Int32)), .val (.int (Int32.ofNat j)), .val (.int (Int32.ofNat cs.length)), .unset] [(.int ((Int32.ofNat j) - (0 : Int32)))]))
      rw [Int32.sub_zero]
      refine oG.st (fun _ k => XS.istore X489.here hx rfl (hb hby dj42_92_25) rfl (l' := #[.val (.ref a1), .val (.int (0 : Int32)), .val (.int (Int32.ofNat j)), .val (.int (Int32.ofNat cs.length)), .val (.int (Int32.ofNat j))]) rfl (XS.aloadN X489.here hx rfl (hb hby dj42_92_27) rfl rfl k)) ?_
      show oG _ _ _ _ (T489.setTop (mkF m 28 #[.val (.ref a1), .val (.int (0 : Int32)), .val (.int (Int32.ofNat j)), .val (.int (Int32.ofNat cs.length)), .val (.int (Int32.ofNat j))] [(.ref a1)]))
      obtain ⟨cq492, kq492, q492a, q492b, q492c⟩ := isOf hZ K489 s1475
      obtain ⟨_, _, ⟨T492, L492, k492, n492⟩, -, X492, ⟨Lc492, hQ492, l492, y492, z492⟩, st492⟩ := X489.virtualBack hx (y := mN12) (z := mN12) hown (own_v hZ hw 60 rfl) (own_v hZ hw 61 rfl) (notFace_of_selects (args := #[]) (own_v hZ hw 63 rfl)) (own_v hZ hw 63 rfl) (own_v hZ hw 62 rfl) (by decide) (backOf (W := 0) (rm_isl1 l Z a0 hw [] a1 (1 : Int32) zc h0 OL s3475 st_C hzc) hZ (own_w hw 64 rfl) (own_w hw 11 rfl) (by decide) (by decide)) q492a q492c (g := (mkF m 28 #[.val (.ref a1), .val (.int (0 : Int32)), .val (.int (Int32.ofNat j)), .val (.int (Int32.ofNat cs.length)), .val (.int (Int32.ofNat j))] [(.ref a1)])) rfl (by rw [hml]; rfl) (Steps.refl _) (argsL := []) (rest := []) (lenOf pd_329 rfl) rfl (by show 2 * 0 + _ ≤ _; exact Nat.le_of_eq rfl) (hb hby dj42_92_28) (fun _ _ => ⟨rfl, K489, (by decide : 0 + 0 ≤ _), (by decide : 0 + 0 ≤ _)⟩)
      dsimp only [Pt.U, Pt.locs, Pt.cells, Pt.slots] at X492 l492 y492 z492 st492 hQ492
      subst l492 y492 z492
      obtain ⟨rfl, N492q, K492⟩ := hQ492
      have N492 := Fr.app N489 N492q
      refine oG.tr st492 ?_
      show oG _ _ _ _ (T492.setTop (mkF m 31 #[.val (.ref a1), .val (.int (0 : Int32)), .val (.int (Int32.ofNat j)), .val (.int (Int32.ofNat cs.length)), .val (.int (Int32.ofNat j))] [(.int (if (1 : Int32) = 0 then (1 : Int32) else 0))]))
      have hc493 : (if (1 : Int32) = 0 then (1 : Int32) else 0) = (0 : Int32) := by decide
      refine oG.st (fun _ k => XS.ifYes X492.here hx rfl (pc0 := 31) (pc' := 47) rfl (hb hby dj42_92_31) rfl ((if0 _ _).trans (teq hc493).1) (by decide) (by decide) k) ?_
      refine oG.st (fun _ k => XS.aloadN X492.here hx rfl (hb hby dj42_92_47) rfl rfl k) ?_
      show oG _ _ _ _ (T492.setTop (mkF m 48 #[.val (.ref a1), .val (.int (0 : Int32)), .val (.int (Int32.ofNat j)), .val (.int (Int32.ofNat cs.length)), .val (.int (Int32.ofNat j))] [(.ref a1)]))
      obtain ⟨T494, X494, e494, st494⟩ := getF X492 hx hZ hown (host := "") (Or.inl (own_w hw 29 rfl)) Via.refl K492 s2475 (g := (mkF m 48 #[.val (.ref a1), .val (.int (0 : Int32)), .val (.int (Int32.ofNat j)), .val (.int (Int32.ofNat cs.length)), .val (.int (Int32.ofNat j))] [(.ref a1)])) rfl rfl (hb hby dj42_92_48)
      refine oG.st st494 ?_
      refine oG.st (fun _ k => XS.iloadN X494.here hx rfl (hb hby dj42_92_51) rfl (XS.iload X494.here hx rfl (hb hby dj42_92_52) rfl k)) ?_
      show oG _ _ _ _ (T494.setTop (mkF m 54 #[.val (.ref a1), .val (.int (0 : Int32)), .val (.int (Int32.ofNat j)), .val (.int (Int32.ofNat cs.length)), .val (.int (Int32.ofNat j))] [(.int (Int32.ofNat j)), (.int (0 : Int32)), (.ref t1)]))
      obtain ⟨_, _, ⟨T495, L495, k495, n495⟩, -, X495, hs495, hg495, ⟨Lc495, hQ495, l495, y495, z495, ch495⟩, st495⟩ := callSS X494 hx (y := mN34) hown (own_v hZ hw 128 rfl) (own_v hZ hw 129 rfl) (own_v hZ hw 92 rfl) (own_v hZ hw 130 rfl) (by decide) (backOfSH (s := s) (vm0 := s.vm) (W := 0) (rm_u16news l Z a0 hw [] t1 (Int32.ofNat j) cs kb475 j zc fm h0 hEL OL s4475 st_C st_SIOOBE_FORMATTER st_A st_H st_L rfl hq hle p0_.rng hzc hfm) hZ (own_w hw 130 rfl) (own_w hw 92 rfl) (by decide) (by decide) hEL R0.1) (g := (mkF m 54 #[.val (.ref a1), .val (.int (0 : Int32)), .val (.int (Int32.ofNat j)), .val (.int (Int32.ofNat cs.length)), .val (.int (Int32.ofNat j))] [(.int (Int32.ofNat j)), (.int (0 : Int32)), (.ref t1)])) rfl (by rw [hml]; rfl) (argsL := [(.ref t1), (.int (0 : Int32)), (.int (Int32.ofNat j))]) (rest := []) (lenOf pd_586 rfl) rfl (by show 2 * 0 + _ ≤ _; exact Nat.le_of_eq rfl) (hb hby dj42_92_54) (fun _ _ => ⟨rfl, e494, (by decide : 0 + 3 ≤ _), (by decide : 0 + 16 ≤ _)⟩)
      dsimp only [Pt.U, Pt.locs, Pt.cells, Pt.slots] at X495 l495 y495 z495 st495 hQ495 hs495 hg495 ch495
      subst l495 y495 z495
      obtain ⟨x_495, t_495, rfl, N495q, K495, f495_0⟩ := hQ495
      have N495 := Fr.app N492 N495q
      obtain ⟨Y495, hS495, hZ495, hown495⟩ := rebS hS0 (n1 := h0.size) (by omega) X495 hs495 (by have := hg495; first | exact this | (rw [← e494]; exact this)) hZ hown
      have z495 : h0.size ≤ T495.heap.size := K495.1
      have R495 : CHr Z consts_1 s.vm h0 T495.vm T495.heap := R0.trans ch495
      have lt495_0 : @LT.lt Nat _ x_495 T495.heap.size := f495_0.lt
      have ltv495_0 : @LT.lt Nat _ t_495 T495.heap.size := f495_0.ltv
      refine oG.tr st495 ?_
      show oG _ _ _ _ (T495.setTop (mkF m 57 #[.val (.ref a1), .val (.int (0 : Int32)), .val (.int (Int32.ofNat j)), .val (.int (Int32.ofNat cs.length)), .val (.int (Int32.ofNat j))] [(.ref x_495)]))
      obtain ⟨fs496, hr496, hrun496, hend496, hret496⟩ := Y495.leaveW hS495 (by omega) (v := some (.ref x_495)) (fun h => by rw [Bd.returns] at h; cases h)
      have K497 : Keep h0 T495.heap [] := (Keep.refl h0 []).trans K495 all0
      subst hPP
      refine ⟨_, _, own_retA Y495 hx Bd.returns rfl rfl (hb hby dj42_92_57) hr496, hrun496, hend496, _, _, rfl, ?_, ?_, hret496.1, hret496.2.1, hret496.2.2.1, hret496.2.2.2.mono (by decide) (by decide)⟩
      · show Q_substr0 Z _ _ _ _ _ _ _ h0 _ T495.heap _
        exact ⟨x_495, t_495, rfl, N495, K497, f495_0⟩
      · have hfin := R495.trans (CHv.at Y495 hZ495 hEL R495.1)
        rw [← hh] at hfin
        show CHr Z consts_1 s.vm s.heap T495.vm T495.heap
        exact hfin
theorem pn_595 : plainName "com/example/keep_to_layer/keeptolayer/model/ClassNames" = true := by first | (simp [plainName, overriddenIn]; done) | decide +kernel
theorem dp14_4_0 : decode cJ37 0 = .ok (.aload_n 0, 1) := by decide +kernel
theorem dp14_4_1 : decode cJ37 1 = .ok (.iconst 0, 1) := by decide +kernel
theorem dp14_4_2 : decode cJ37 2 = .ok (.aload_n 0, 1) := by decide +kernel
theorem dp14_4_3 : decode cJ37 3 = .ok (.bipush 46, 2) := by decide +kernel
theorem dp14_4_5 : decode cJ37 5 = .ok (.invokevirtual 59, 3) := by decide +kernel
theorem dp14_4_8 : decode cJ37 8 = .ok (.iconst 0, 1) := by decide +kernel
theorem dp14_4_9 : decode cJ37 9 = .ok (.invokestatic 62, 3) := by decide +kernel
theorem pd_603 : parseMethodDescriptor "(II)Ljava/lang/String;" = some ⟨[.int, .int], some (.object "java/lang/String")⟩ := by decide +kernel
theorem dp14_4_12 : decode cJ37 12 = .ok (.invokevirtual 68, 3) := by decide +kernel
theorem dp14_4_15 : decode cJ37 15 = .ok (.areturn, 1) := by decide +kernel
def Q_packageOf (Z : State) (a1 : Nat) (t1 : Nat) (cs : List Int32) (zc : Int32) (fm : Value) (h0 : Heap) (v : Option Value) (h : Heap) (L : List Loc) : Prop := ∃ (x : Nat), ∃ (t : Nat), ∃ (st : Nat), v = some (.ref x) ∧ Fr Z.heap.size L ∧ Keep h0 h [] ∧ own_Str Z h x t (cs.take (st - 1)) ∧ (own_Ld cs 46 st)
set_option maxRecDepth 65536 in
set_option maxHeartbeats 40000000 in
theorem rm_packageOf (l : Launch) (Z : State) (a0 : Array Value) (hw : ∀ d ∈ tables_1, d.before a0 Z = true) (ws : List Jvm.Cond) (a1 : Nat) (t1 : Nat) (cs : List Int32) (zc : Int32) (fm : Value) (h0 : Heap) (hEL : EW Z a0 consts_1) (OL : Old Z Z.heap.size h0) (p0_ : own_Str Z h0 a1 t1 cs) (st_C : Sta Z Z.heap "java/lang/String" "COMPACT_STRINGS" "Z" (.int zc)) (st_SIOOBE_FORMATTER : Sta Z Z.heap "jdk/internal/util/Preconditions" "SIOOBE_FORMATTER" "Ljava/util/function/BiFunction;" fm) (st_A : Sta Z Z.heap "java/lang/StringUTF16" "$assertionsDisabled" "Z" (.int (1 : Int32))) (st_H : Sta Z Z.heap "java/lang/StringUTF16" "HI_BYTE_SHIFT" "I" (.int (0 : Int32))) (st_L : Sta Z Z.heap "java/lang/StringUTF16" "LO_BYTE_SHIFT" "I" (.int (8 : Int32))) (hzc : ¬ zc = 0) (hfm : fm.isRef = true) (hle : cs.length ≤ 4) :
    MetFree l mN0 (head1 (Jvm.Cond.code mN0 prog_14_method_4_code 1 (some (.object "java/lang/String")) :: ws) rM26) (fun a U => a = #[(.ref a1)] ∧ Z.Warmed39 U.vm ∧ U.heap = h0 ∧ CHv Z consts_1 U.vm h0) (fun _ _ _ _ _ => True) (fun _ U o U' => ∃ v L, o = .returned v ∧ Q_packageOf Z a1 t1 cs zc fm h0 v U'.heap L ∧ CHr Z consts_1 U.vm U.heap U'.vm U'.heap ∧ ReturnedEndW U o U' L rM26.cells rM26.slots) := by
  refine MetFree.of_bodySF (plainFor_of_name pn_595) hisR ?_
  intro p e s m args below meth c s₁ Bd hml0 hP hK
  obtain ⟨rfl, hZ, hh, hC0⟩ := hP
  have hx := Bd.exec
  have hby := Bd.bytes
  have hml : c.maxLocals = 1 := hml0
  have hown : s.vm.findClass "com/example/keep_to_layer/keeptolayer/model/ClassNames" = some m.cls := findClass_of_methodNamed Bd.named
  have hnm := (name_of_methodNamed Bd.named Bd.method).1
  have X0 : Stand p l e rM26 (s.setVm s.vm) m #[(.ref a1)] below meth c s₁ [] 0 0 := Stand.of_body Bd
  have e0 : s₁.heap = h0 := by rw [← hh, Bd.state]; rfl
  have N0 := Fr.nil Z.heap.size
  have Z0 : Z.heap.size ≤ h0.size := OL.2.1
  have hS0 : s.Since s.vm h0.size := (State.WarmedH.refl s).since _
  have wS := own_wS hw
  have R0 : CHr Z consts_1 s.vm h0 s.vm h0 := CHr.refl hC0
  have lt_0 : @LT.lt Nat _ a1 h0.size := p0_.lt
  have ltv_0 : @LT.lt Nat _ t1 h0.size := p0_.ltv
  show oG p.tables e below (fun o tE => ∃ v L, o = .returned v ∧ Q_packageOf Z a1 t1 cs zc fm h0 v tE.heap L ∧ CHr Z consts_1 s.vm s.heap tE.vm tE.heap ∧ ReturnedEndW s o tE L rM26.cells rM26.slots) (s₁.setTop (entryFrame m #[(.ref a1)] 1))
  refine own_hd (fun PP hPP => ?_)
  refine oG.st (fun t k => castTop (ef_239 m a1) k) ?_
  refine oG.st (fun _ k => XS.aloadN X0.here hx rfl (hb hby dp14_4_0) rfl rfl (XS.iconst X0.here hx rfl (hb hby dp14_4_1) (XS.aloadN X0.here hx rfl (hb hby dp14_4_2) rfl rfl (XS.bipush X0.here hx rfl (hb hby dp14_4_3) k)))) ?_
  show oG _ _ _ _ (s₁.setTop (mkF m 5 #[.val (.ref a1)] [(.int (46 : Int32)), (.ref a1), (.int (0 : Int32)), (.ref a1)]))
  obtain ⟨cq498, kq498, q498a, q498b, q498c⟩ := isOf hZ e0 p0_.exa
  obtain ⟨_, _, ⟨T498, L498, k498, n498⟩, -, X498, ⟨Lc498, hQ498, l498, y498, z498⟩, st498⟩ := X0.virtualBack hx (y := mN13) (z := mN13) hown (own_v hZ hw 39 rfl) (own_v hZ hw 40 rfl) (notFace_of_selects (args := #[]) (own_v hZ hw 42 rfl)) (own_v hZ hw 42 rfl) (own_v hZ hw 41 rfl) (by decide) (backOf (W := 2) (rm_last1 l Z a0 hw [] a1 t1 cs zc h0 OL p0_ st_C st_A st_H st_L hzc hle) hZ (own_w hw 43 rfl) (own_w hw 11 rfl) (by decide) (by decide)) q498a q498c (g := (mkF m 5 #[.val (.ref a1)] [(.int (46 : Int32)), (.ref a1), (.int (0 : Int32)), (.ref a1)])) rfl (by rw [hml]; rfl) (Steps.refl _) (argsL := [(.int (46 : Int32))]) (rest := [(.int (0 : Int32)), (.ref a1)]) (lenOf pd_109 rfl) rfl (by show 2 * 0 + _ ≤ _; exact Nat.le_of_eq rfl) (hb hby dp14_4_5) (fun _ _ => ⟨rfl, e0, (by decide : 0 + 0 ≤ _), (by decide : 0 + 0 ≤ _)⟩)
  dsimp only [Pt.U, Pt.locs, Pt.cells, Pt.slots] at X498 l498 y498 z498 st498 hQ498
  subst l498 y498 z498
  obtain ⟨st_498, rfl, N498q, K498, pr498_0⟩ := hQ498
  have N498 := Fr.app N0 N498q
  have hLd := pr498_0
  have hst := hLd.1
  refine oG.tr st498 ?_
  refine oG.st (fun _ k => XS.iconst X498.here hx rfl (hb hby dp14_4_8) k) ?_
  show oG _ _ _ _ (T498.setTop (mkF m 9 #[.val (.ref a1)] [(.int (0 : Int32)), (.int ((Int32.ofNat st_498) - (1 : Int32))), (.int (0 : Int32)), (.ref a1)]))
  obtain ⟨_, _, ⟨T499, L499, k499, n499⟩, -, X499, ⟨Lc499, hQ499, l499, y499, z499⟩, st499⟩ := Jvm.LawKit.callS X498 hx (y := mN3) hown (own_v hZ hw 75 rfl) (own_v hZ hw 32 rfl) (own_v hZ hw 33 rfl) (own_v hZ hw 34 rfl) (by decide) (backOf (W := 2) (rm_mmax l Z a0 hw [] ((Int32.ofNat st_498) - (1 : Int32)) (0 : Int32) h0 OL ) hZ (own_w hw 34 rfl) (own_w hw 33 rfl) (by decide) (by decide)) (g := (mkF m 9 #[.val (.ref a1)] [(.int (0 : Int32)), (.int ((Int32.ofNat st_498) - (1 : Int32))), (.int (0 : Int32)), (.ref a1)])) rfl (by rw [hml]; rfl) (argsL := [(.int ((Int32.ofNat st_498) - (1 : Int32))), (.int (0 : Int32))]) (rest := [(.int (0 : Int32)), (.ref a1)]) (lenOf pd_222 rfl) rfl (by show 2 * 0 + _ ≤ _; exact Nat.le_of_eq rfl) (hb hby dp14_4_9) (fun _ _ => ⟨rfl, K498, (by decide : 0 + 0 ≤ _), (by decide : 0 + 0 ≤ _)⟩)
  dsimp only [Pt.U, Pt.locs, Pt.cells, Pt.slots] at X499 l499 y499 z499 st499 hQ499
  subst l499 y499 z499
  obtain ⟨rfl, N499q, K499⟩ := hQ499
  have N499 := Fr.app N498 N499q
  refine oG.st st499 ?_
  show oG _ _ _ _ (T499.setTop (mkF m 12 #[.val (.ref a1)] [(.int (if ((Int32.ofNat st_498) - (1 : Int32)) < (0 : Int32) then (0 : Int32) else ((Int32.ofNat st_498) - (1 : Int32)))), (.int (0 : Int32)), (.ref a1)]))
  rw [own_mx0 (by omega)]
  show oG _ _ _ _ (T499.setTop (mkF m 12 #[.val (.ref a1)] [(.int (Int32.ofNat (st_498 - 1))), (.int (0 : Int32)), (.ref a1)]))
  obtain ⟨cq500, kq500, q500a, q500b, q500c⟩ := isOf hZ K499 p0_.exa
  obtain ⟨_, _, ⟨T500, L500, k500, n500⟩, -, X500, hs500, hg500, ⟨Lc500, hQ500, l500, y500, z500, ch500⟩, st500⟩ := X499.virtualBackS hx (y := mN16) (z := mN16) hown (own_v hZ hw 76 rfl) (own_v hZ hw 77 rfl) (notFace_of_selects (args := #[]) (own_v hZ hw 79 rfl)) (own_v hZ hw 79 rfl) (own_v hZ hw 78 rfl) (by decide) (backOfSH (s := s) (vm0 := s.vm) (W := 0) (rm_substr0 l Z a0 hw [] a1 (Int32.ofNat (st_498 - 1)) t1 cs zc (st_498 - 1) fm h0 hEL OL p0_ st_C st_SIOOBE_FORMATTER st_A st_H st_L hzc hfm rfl (by unfold own_jj; omega) hle) hZ (own_w hw 80 rfl) (own_w hw 11 rfl) (by decide) (by decide) hEL R0.1) q500a q500c (g := (mkF m 12 #[.val (.ref a1)] [(.int (Int32.ofNat (st_498 - 1))), (.int (0 : Int32)), (.ref a1)])) rfl (by rw [hml]; rfl) (Steps.refl _) (argsL := [(.int (0 : Int32)), (.int (Int32.ofNat (st_498 - 1)))]) (rest := []) (lenOf pd_603 rfl) rfl (by show 2 * 0 + _ ≤ _; exact Nat.le_of_eq rfl) (hb hby dp14_4_12) (fun _ _ => ⟨rfl, K499, (by decide : 0 + 3 ≤ _), (by decide : 0 + 16 ≤ _)⟩)
  dsimp only [Pt.U, Pt.locs, Pt.cells, Pt.slots] at X500 l500 y500 z500 st500 hQ500 hs500 hg500 ch500
  subst l500 y500 z500
  obtain ⟨x_500, t_500, rfl, N500q, K500, f500_0⟩ := hQ500
  have N500 := Fr.app N499 N500q
  obtain ⟨Y500, hS500, hZ500, hown500⟩ := rebS hS0 (n1 := h0.size) (by omega) X500 hs500 (by have := hg500; first | exact this | (rw [← K499]; exact this)) hZ hown
  have z500 : h0.size ≤ T500.heap.size := K500.1
  have R500 : CHr Z consts_1 s.vm h0 T500.vm T500.heap := R0.trans ch500
  have lt500_0 : @LT.lt Nat _ x_500 T500.heap.size := f500_0.lt
  have ltv500_0 : @LT.lt Nat _ t_500 T500.heap.size := f500_0.ltv
  refine oG.tr st500 ?_
  show oG _ _ _ _ (T500.setTop (mkF m 15 #[.val (.ref a1)] [(.ref x_500)]))
  obtain ⟨fs501, hr501, hrun501, hend501, hret501⟩ := Y500.leaveW hS500 (by omega) (v := some (.ref x_500)) (fun h => by rw [Bd.returns] at h; cases h)
  have K502 : Keep h0 T500.heap [] := (Keep.refl h0 []).trans K500 all0
  subst hPP
  refine ⟨_, _, own_retA Y500 hx Bd.returns rfl rfl (hb hby dp14_4_15) hr501, hrun501, hend501, _, _, rfl, ?_, ?_, hret501.1, hret501.2.1, hret501.2.2.1, hret501.2.2.2.mono (by decide) (by decide)⟩
  · show Q_packageOf Z _ _ _ _ _ h0 _ T500.heap _
    exact ⟨x_500, t_500, st_498, rfl, N500, K502, f500_0, hLd⟩
  · have hfin := R500.trans (CHv.at Y500 hZ500 hEL R500.1)
    rw [← hh] at hfin
    show CHr Z consts_1 s.vm s.heap T500.vm T500.heap
    exact hfin

def own_lds : Nat → Int32 | 0 => -1 | 1 => 0 | 2 => 1 | 3 => 2 | 4 => 3 | 5 => 4 | _ => 5
theorem own_lds1 {st : Nat} (h : st ≤ 6) : own_lds st + (1 : Int32) = Int32.ofNat st := by
  match st, h with
  | 0, _ => decide
  | 1, _ => decide
  | 2, _ => decide
  | 3, _ => decide
  | 4, _ => decide
  | 5, _ => decide
  | 6, _ => decide

def own_D (gs : List Int32) (kk i : Nat) (ld : Int32) : Prop := ∃ st, st ≤ 6 ∧ ld = own_lds st ∧ (st = 0 ∨ (st ≤ kk ∧ gs.getD (st - 1) 0 = 46)) ∧ ∀ j, st ≤ j → j < i → j < kk → gs.getD j 0 ≠ 46
theorem own_D0 {gs : List Int32} {kk : Nat} : own_D gs kk 0 (-1) := ⟨0, by decide, rfl, Or.inl rfl, fun j _ h => absurd h (by omega)⟩
theorem own_DY {gs : List Int32} {kk : Nat} (i : Nat) (hi : i < 6) (h : i < kk ∧ gs.getD i 0 = 46) : own_D gs kk (i + 1) (own_lds (i + 1)) := ⟨i + 1, by omega, rfl, Or.inr ⟨by omega, h.2⟩, fun j a b => absurd b (by omega)⟩
theorem own_DN {gs : List Int32} {kk i : Nat} {ld : Int32} (h : own_D gs kk i ld) (q : ¬ (i < kk ∧ gs.getD i 0 = 46)) : own_D gs kk (i + 1) ld := by
  obtain ⟨st, a, b, c, d⟩ := h
  refine ⟨st, a, b, c, fun j h1 h2 h3 => ?_⟩
  by_cases u : j = i
  · rw [u]; rw [u] at h3; exact fun z => q ⟨h3, z⟩
  · exact d j h1 (by omega) h3

theorem own_tg {gs : List Int32} {kk j : Nat} (h : j < kk) : (gs.take kk).getD j 0 = gs.getD j 0 := by
  simp [List.getD_eq_getElem?_getD, List.getElem?_take, h]


theorem own_chr (x : Int32) : ¬ (((((x.toUInt32 >>> ((1 : Int32) &&& 31).toUInt32).toInt32) &&& (65535 : Int32))).toUInt32.toUInt16.toUInt32.toInt32) < 0 ∧ ¬ (65535 : Int32) < (((((x.toUInt32 >>> ((1 : Int32) &&& 31).toUInt32).toInt32) &&& (65535 : Int32))).toUInt32.toUInt16.toUInt32.toInt32) := by
  have h4 := c_i2c (((x.toUInt32 >>> ((1 : Int32) &&& 31).toUInt32).toInt32) &&& (65535 : Int32))
  have e2 : (65535 : Int32).toInt = 65535 := by decide
  have e3 : (0 : Int32).toInt = 0 := by decide
  simp only [Int32.lt_iff_toInt_lt, e2, e3]
  omega
theorem own_n5 (x : Int32) : ∃ kk : Nat, kk ≤ 4 ∧ (x &&& (2147483647 : Int32)) % (5 : Int32) = Int32.ofNat kk := by
  have h1 := c_mask x 2147483647 31 (by decide) (by decide)
  have h2 := (c_irem (x &&& (2147483647 : Int32)) 5 5 (by decide)).1 (by omega)
  generalize (x &&& (2147483647 : Int32)) % (5 : Int32) = y at h2 ⊢
  generalize (x &&& (2147483647 : Int32)) = z at h1 h2
  refine ⟨y.toInt.toNat, by omega, ?_⟩
  apply Int32.toInt_inj.mp
  rw [own_of (by omega)]
  omega
theorem own_k5 {kk : Nat} (h : kk ≤ 4) : Int32.ofNat kk = 0 ∨ Int32.ofNat kk = 1 ∨ Int32.ofNat kk = 2 ∨ Int32.ofNat kk = 3 ∨ Int32.ofNat kk = 4 := by
  match kk, h with
  | 0, _ => exact Or.inl rfl
  | 1, _ => exact Or.inr (Or.inl rfl)
  | 2, _ => exact Or.inr (Or.inr (Or.inl rfl))
  | 3, _ => exact Or.inr (Or.inr (Or.inr (Or.inl rfl)))
  | 4, _ => exact Or.inr (Or.inr (Or.inr (Or.inr rfl)))
theorem own_ldsM {st : Nat} (h : st ≤ 6) : (if own_lds st < (0 : Int32) then (0 : Int32) else own_lds st) = Int32.ofNat (st - 1) := by
  match st, h with
  | 0, _ => decide
  | 1, _ => decide
  | 2, _ => decide
  | 3, _ => decide
  | 4, _ => decide
  | 5, _ => decide
  | 6, _ => decide
theorem own_uni4 {gs : List Int32} {kk st s2 : Nat} (hk : kk ≤ gs.length) (ho : own_Ld (gs.take kk) 46 s2) (h1 : st = 0 ∨ (st ≤ kk ∧ gs.getD (st - 1) 0 = 46)) (h2 : ∀ j, st ≤ j → j < kk → gs.getD j 0 ≠ 46) : s2 = st := by
  obtain ⟨a1, a2, a3⟩ := ho
  have hl : (gs.take kk).length = kk := by simp; omega
  rw [hl] at a1 a3
  rcases Nat.lt_trichotomy s2 st with q | q | q
  · rcases h1 with r | ⟨r1, r2⟩
    · omega
    · have := a3 (st - 1) (by omega) (by omega)
      rw [own_tg (by omega)] at this
      exact absurd r2 this
  · exact q
  · rcases a2 with r | r
    · omega
    · rw [own_tg (by omega)] at r
      exact absurd r (h2 (s2 - 1) (by omega) (by omega))

theorem pn_606 : plainName "com/example/keep_to_layer/keeptolayer/model/ClassNamesPackageOfPinLaw" = true := by first | (simp [plainName, overriddenIn]; done) | decide +kernel
theorem d_method_2_0 : decode cJ35 0 = .ok (.iload_n 0, 1) := by decide +kernel
theorem d_method_2_1 : decode cJ35 1 = .ok (.iconst 1, 1) := by decide +kernel
theorem d_method_2_2 : decode cJ35 2 = .ok (.iand, 1) := by decide +kernel
theorem d_method_2_3 : decode cJ35 3 = .ok (.ifCond .eq 8, 3) := by decide +kernel
theorem d_method_2_11 : decode cJ35 11 = .ok (.iload_n 0, 1) := by decide +kernel
theorem d_method_2_12 : decode cJ35 12 = .ok (.iconst 1, 1) := by decide +kernel
theorem d_method_2_13 : decode cJ35 13 = .ok (.iushr, 1) := by decide +kernel
theorem d_method_2_14 : decode cJ35 14 = .ok (.ldc 7, 2) := by decide +kernel
theorem d_method_2_16 : decode cJ35 16 = .ok (.iand, 1) := by decide +kernel
theorem d_method_2_17 : decode cJ35 17 = .ok (.i2c, 1) := by decide +kernel
theorem d_method_2_18 : decode cJ35 18 = .ok (.ireturn, 1) := by decide +kernel
theorem d_method_2_6 : decode cJ35 6 = .ok (.bipush 46, 2) := by decide +kernel
theorem d_method_2_8 : decode cJ35 8 = .ok (.goto 10, 3) := by decide +kernel
def Q_ch (Z : State) (p1 : Int32) (h0 : Heap) (v : Option Value) (h : Heap) (L : List Loc) : Prop := ∃ (c : Int32), v = some (.int c) ∧ Fr Z.heap.size L ∧ h = h0 ∧ (¬ c < 0 ∧ ¬ (65535 : Int32) < c)
set_option maxRecDepth 65536 in
set_option maxHeartbeats 40000000 in
theorem rm_ch (l : Launch) (Z : State) (a0 : Array Value) (hw : ∀ d ∈ tables_1, d.before a0 Z = true) (ws : List Jvm.Cond) (p1 : Int32) (h0 : Heap) (OL : Old Z Z.heap.size h0) :
    MetFree l mN1 (head1 (Jvm.Cond.code mN1 method_2_code 1 (some .char) :: ws) rM0) (fun a U => a = #[(.int p1)] ∧ Z.Warmed39 U.vm ∧ U.heap = h0) (fun _ _ _ _ _ => True) (fun _ U o U' => ∃ v L, o = .returned v ∧ Q_ch Z p1 h0 v U'.heap L ∧ FrameEnd U o U' L rM0.cells rM0.slots) := by
  refine MetFree.of_bodySF (plainFor_of_name pn_606) hisR ?_
  intro p e s m args below meth c s₁ Bd hml0 hP hK
  obtain ⟨rfl, hZ, hh⟩ := hP
  have hx := Bd.exec
  have hby := Bd.bytes
  have hml : c.maxLocals = 1 := hml0
  have hown : s.vm.findClass "com/example/keep_to_layer/keeptolayer/model/ClassNamesPackageOfPinLaw" = some m.cls := findClass_of_methodNamed Bd.named
  have hnm := (name_of_methodNamed Bd.named Bd.method).1
  have X0 : Stand p l e rM0 s m #[(.int p1)] below meth c s₁ [] 0 0 := Stand.of_body Bd
  have e0 : s₁.heap = h0 := by rw [← hh, Bd.state]; rfl
  have N0 := Fr.nil Z.heap.size
  have Z0 : Z.heap.size ≤ h0.size := OL.2.1
  show oG p.tables e below (fun o tE => ∃ v L, o = .returned v ∧ Q_ch Z p1 h0 v tE.heap L ∧ FrameEnd s o tE L rM0.cells rM0.slots) (s₁.setTop (entryFrame m #[(.int p1)] 1))
  refine own_hd (fun PP hPP => ?_)
  refine oG.st (fun t k => castTop (ef_98 m p1) k) ?_
  refine oG.st (fun _ k => XS.iloadN X0.here hx rfl (hb hby d_method_2_0) rfl (XS.iconst X0.here hx rfl (hb hby d_method_2_1) (XS.iand X0.here hx rfl (hb hby d_method_2_2) rfl k))) ?_
  show oG _ _ _ _ (s₁.setTop (mkF m 3 #[.val (.int p1)] [(.int (p1 &&& (1 : Int32)))]))
  by_cases hc503 : (p1 &&& (1 : Int32)) = (0 : Int32)
  ·
    refine oG.st (fun _ k => XS.ifYes X0.here hx rfl (pc0 := 3) (pc' := 11) rfl (hb hby d_method_2_3) rfl ((if0 _ _).trans (teq hc503).1) (by decide) (by decide) k) ?_
    refine oG.st (fun _ k => XS.iloadN X0.here hx rfl (hb hby d_method_2_11) rfl (XS.iconst X0.here hx rfl (hb hby d_method_2_12) (XS.iushr X0.here hx rfl (hb hby d_method_2_13) rfl k))) ?_
    show oG _ _ _ _ (s₁.setTop (mkF m 14 #[.val (.int p1)] [(.int ((p1.toUInt32 >>> ((1 : Int32) &&& 31).toUInt32).toInt32))]))
    refine oG.st (X0.ldcInt hx hown (own_v hZ hw 4 rfl) (g := (mkF m 14 #[.val (.int p1)] [(.int ((p1.toUInt32 >>> ((1 : Int32) &&& 31).toUInt32).toInt32))])) rfl (hb hby d_method_2_14)) ?_
    refine oG.st (fun _ k => XS.iand X0.here hx rfl (hb hby d_method_2_16) rfl (XS.i2c X0.here hx rfl (hb hby d_method_2_17) rfl k)) ?_
    show oG _ _ _ _ (s₁.setTop (mkF m 18 #[.val (.int p1)] [(.int ((((p1.toUInt32 >>> ((1 : Int32) &&& 31).toUInt32).toInt32) &&& (65535 : Int32)).toUInt32.toUInt16.toUInt32.toInt32))]))
    obtain ⟨fs504, hr504, hrun504, hend504, hW504, hsm504⟩ := X0.leave (v := some (.int (nar .char ((((p1.toUInt32 >>> ((1 : Int32) &&& 31).toUInt32).toInt32) &&& (65535 : Int32)).toUInt32.toUInt16.toUInt32.toInt32)))) (fun h => by rw [Bd.returns] at h; cases h)
    subst hPP
    refine ⟨_, _, retN X0 hx (t := .char) Bd.returns (by simp) (hb hby d_method_2_18) hr504, hrun504, hend504, _, _, rfl, ?_, ⟨_, rfl⟩, hW504, hsm504.mono (by decide) (by decide)⟩
    · show Q_ch Z _ h0 _ s₁.heap _
      rw [e0]
      exact ⟨((((p1.toUInt32 >>> ((1 : Int32) &&& 31).toUInt32).toInt32) &&& (65535 : Int32)).toUInt32.toUInt16.toUInt32.toInt32), (by rw [own_nar (own_chr _)]), N0, rfl, (own_chr _)⟩
  ·
    refine oG.st (fun _ k => XS.ifNo X0.here hx rfl (hb hby d_method_2_3) rfl ((if0 _ _).trans (feq hc503).1) k) ?_
    refine oG.st (fun _ k => XS.bipush X0.here hx rfl (hb hby d_method_2_6) (XS.goto X0.here hx rfl (pc0 := 8) (pc' := 18) rfl (hb hby d_method_2_8) (by decide) (by decide) k)) ?_
    show oG _ _ _ _ (s₁.setTop (mkF m 18 #[.val (.int p1)] [(.int (46 : Int32))]))
    obtain ⟨fs505, hr505, hrun505, hend505, hW505, hsm505⟩ := X0.leave (v := some (.int (nar .char (46 : Int32)))) (fun h => by rw [Bd.returns] at h; cases h)
    subst hPP
    refine ⟨_, _, retN X0 hx (t := .char) Bd.returns (by simp) (hb hby d_method_2_18) hr505, hrun505, hend505, _, _, rfl, ?_, ⟨_, rfl⟩, hW505, hsm505.mono (by decide) (by decide)⟩
    · show Q_ch Z _ h0 _ s₁.heap _
      rw [e0]
      exact ⟨(46 : Int32), rfl, N0, rfl, (by decide)⟩
theorem ef_620 (m : MethodId) (x0 : Int32) (x1 : Int32) (x2 : Int32) (x3 : Int32) (x4 : Int32) : entryFrame m #[(.int x0), (.int x1), (.int x2), (.int x3), (.int x4)] 5 = mkF m 0 #[.val (.int x0), .val (.int x1), .val (.int x2), .val (.int x3), .val (.int x4)] [] := by first | (simp [entryFrame, mkF, argsToLocals, Value.category]; done) | rfl
theorem d_method_3_0 : decode cJ36 0 = .ok (.iload_n 0, 1) := by decide +kernel
theorem d_method_3_1 : decode cJ36 1 = .ok (.ifCond .ne 14, 3) := by decide +kernel
theorem d_method_3_4 : decode cJ36 4 = .ok (.new 8, 3) := by decide +kernel
theorem d_method_3_7 : decode cJ36 7 = .ok (.dup, 1) := by decide +kernel
theorem d_method_3_8 : decode cJ36 8 = .ok (.iconst 0, 1) := by decide +kernel
theorem d_method_3_9 : decode cJ36 9 = .ok (.newarray .char, 2) := by decide +kernel
theorem pd_627 : parseMethodDescriptor "([C)V" = some ⟨[(.array .char)], none⟩ := by decide +kernel
theorem d_method_3_11 : decode cJ36 11 = .ok (.invokespecial 10, 3) := by decide +kernel
theorem d_method_3_14 : decode cJ36 14 = .ok (.areturn, 1) := by decide +kernel
theorem d_method_3_15 : decode cJ36 15 = .ok (.iload_n 0, 1) := by decide +kernel
theorem d_method_3_16 : decode cJ36 16 = .ok (.iconst 1, 1) := by decide +kernel
theorem d_method_3_17 : decode cJ36 17 = .ok (.if_icmp .ne 18, 3) := by decide +kernel
theorem d_method_3_20 : decode cJ36 20 = .ok (.new 8, 3) := by decide +kernel
theorem d_method_3_23 : decode cJ36 23 = .ok (.dup, 1) := by decide +kernel
theorem d_method_3_24 : decode cJ36 24 = .ok (.iconst 1, 1) := by decide +kernel
theorem d_method_3_25 : decode cJ36 25 = .ok (.newarray .char, 2) := by decide +kernel
theorem d_method_3_27 : decode cJ36 27 = .ok (.dup, 1) := by decide +kernel
theorem d_method_3_28 : decode cJ36 28 = .ok (.iconst 0, 1) := by decide +kernel
theorem d_method_3_29 : decode cJ36 29 = .ok (.iload_n 1, 1) := by decide +kernel
theorem d_method_3_30 : decode cJ36 30 = .ok (.castore, 1) := by decide +kernel
theorem d_method_3_31 : decode cJ36 31 = .ok (.invokespecial 10, 3) := by decide +kernel
theorem d_method_3_34 : decode cJ36 34 = .ok (.areturn, 1) := by decide +kernel
theorem d_method_3_35 : decode cJ36 35 = .ok (.iload_n 0, 1) := by decide +kernel
theorem d_method_3_36 : decode cJ36 36 = .ok (.iconst 2, 1) := by decide +kernel
theorem d_method_3_37 : decode cJ36 37 = .ok (.if_icmp .ne 22, 3) := by decide +kernel
theorem d_method_3_40 : decode cJ36 40 = .ok (.new 8, 3) := by decide +kernel
theorem d_method_3_43 : decode cJ36 43 = .ok (.dup, 1) := by decide +kernel
theorem d_method_3_44 : decode cJ36 44 = .ok (.iconst 2, 1) := by decide +kernel
theorem d_method_3_45 : decode cJ36 45 = .ok (.newarray .char, 2) := by decide +kernel
theorem d_method_3_47 : decode cJ36 47 = .ok (.dup, 1) := by decide +kernel
theorem d_method_3_48 : decode cJ36 48 = .ok (.iconst 0, 1) := by decide +kernel
theorem d_method_3_49 : decode cJ36 49 = .ok (.iload_n 1, 1) := by decide +kernel
theorem d_method_3_50 : decode cJ36 50 = .ok (.castore, 1) := by decide +kernel
theorem d_method_3_51 : decode cJ36 51 = .ok (.dup, 1) := by decide +kernel
theorem d_method_3_52 : decode cJ36 52 = .ok (.iconst 1, 1) := by decide +kernel
theorem d_method_3_53 : decode cJ36 53 = .ok (.iload_n 2, 1) := by decide +kernel
theorem d_method_3_54 : decode cJ36 54 = .ok (.castore, 1) := by decide +kernel
theorem d_method_3_55 : decode cJ36 55 = .ok (.invokespecial 10, 3) := by decide +kernel
theorem d_method_3_58 : decode cJ36 58 = .ok (.areturn, 1) := by decide +kernel
theorem d_method_3_59 : decode cJ36 59 = .ok (.iload_n 0, 1) := by decide +kernel
theorem d_method_3_60 : decode cJ36 60 = .ok (.iconst 3, 1) := by decide +kernel
theorem d_method_3_61 : decode cJ36 61 = .ok (.if_icmp .ne 26, 3) := by decide +kernel
theorem d_method_3_64 : decode cJ36 64 = .ok (.new 8, 3) := by decide +kernel
theorem d_method_3_67 : decode cJ36 67 = .ok (.dup, 1) := by decide +kernel
theorem d_method_3_68 : decode cJ36 68 = .ok (.iconst 3, 1) := by decide +kernel
theorem d_method_3_69 : decode cJ36 69 = .ok (.newarray .char, 2) := by decide +kernel
theorem d_method_3_71 : decode cJ36 71 = .ok (.dup, 1) := by decide +kernel
theorem d_method_3_72 : decode cJ36 72 = .ok (.iconst 0, 1) := by decide +kernel
theorem d_method_3_73 : decode cJ36 73 = .ok (.iload_n 1, 1) := by decide +kernel
theorem d_method_3_74 : decode cJ36 74 = .ok (.castore, 1) := by decide +kernel
theorem d_method_3_75 : decode cJ36 75 = .ok (.dup, 1) := by decide +kernel
theorem d_method_3_76 : decode cJ36 76 = .ok (.iconst 1, 1) := by decide +kernel
theorem d_method_3_77 : decode cJ36 77 = .ok (.iload_n 2, 1) := by decide +kernel
theorem d_method_3_78 : decode cJ36 78 = .ok (.castore, 1) := by decide +kernel
theorem d_method_3_79 : decode cJ36 79 = .ok (.dup, 1) := by decide +kernel
theorem d_method_3_80 : decode cJ36 80 = .ok (.iconst 2, 1) := by decide +kernel
theorem d_method_3_81 : decode cJ36 81 = .ok (.iload_n 3, 1) := by decide +kernel
theorem d_method_3_82 : decode cJ36 82 = .ok (.castore, 1) := by decide +kernel
theorem d_method_3_83 : decode cJ36 83 = .ok (.invokespecial 10, 3) := by decide +kernel
theorem d_method_3_86 : decode cJ36 86 = .ok (.areturn, 1) := by decide +kernel
theorem d_method_3_87 : decode cJ36 87 = .ok (.new 8, 3) := by decide +kernel
theorem d_method_3_90 : decode cJ36 90 = .ok (.dup, 1) := by decide +kernel
theorem d_method_3_91 : decode cJ36 91 = .ok (.iconst 4, 1) := by decide +kernel
theorem d_method_3_92 : decode cJ36 92 = .ok (.newarray .char, 2) := by decide +kernel
theorem d_method_3_94 : decode cJ36 94 = .ok (.dup, 1) := by decide +kernel
theorem d_method_3_95 : decode cJ36 95 = .ok (.iconst 0, 1) := by decide +kernel
theorem d_method_3_96 : decode cJ36 96 = .ok (.iload_n 1, 1) := by decide +kernel
theorem d_method_3_97 : decode cJ36 97 = .ok (.castore, 1) := by decide +kernel
theorem d_method_3_98 : decode cJ36 98 = .ok (.dup, 1) := by decide +kernel
theorem d_method_3_99 : decode cJ36 99 = .ok (.iconst 1, 1) := by decide +kernel
theorem d_method_3_100 : decode cJ36 100 = .ok (.iload_n 2, 1) := by decide +kernel
theorem d_method_3_101 : decode cJ36 101 = .ok (.castore, 1) := by decide +kernel
theorem d_method_3_102 : decode cJ36 102 = .ok (.dup, 1) := by decide +kernel
theorem d_method_3_103 : decode cJ36 103 = .ok (.iconst 2, 1) := by decide +kernel
theorem d_method_3_104 : decode cJ36 104 = .ok (.iload_n 3, 1) := by decide +kernel
theorem d_method_3_105 : decode cJ36 105 = .ok (.castore, 1) := by decide +kernel
theorem d_method_3_106 : decode cJ36 106 = .ok (.dup, 1) := by decide +kernel
theorem d_method_3_107 : decode cJ36 107 = .ok (.iconst 3, 1) := by decide +kernel
theorem d_method_3_108 : decode cJ36 108 = .ok (.iload 4, 2) := by decide +kernel
theorem d_method_3_110 : decode cJ36 110 = .ok (.castore, 1) := by decide +kernel
theorem d_method_3_111 : decode cJ36 111 = .ok (.invokespecial 10, 3) := by decide +kernel
theorem d_method_3_114 : decode cJ36 114 = .ok (.areturn, 1) := by decide +kernel
def Q_make (Z : State) (p1 : Int32) (p2 : Int32) (p3 : Int32) (p4 : Int32) (p5 : Int32) (zc : Int32) (h0 : Heap) (v : Option Value) (h : Heap) (L : List Loc) : Prop := ∃ (x : Nat), ∃ (t : Nat), v = some (.ref x) ∧ Fr Z.heap.size L ∧ Keep h0 h [] ∧ own_Str Z h x t ([p2, p3, p4, p5].take p1.toNatClampNeg)
set_option maxRecDepth 65536 in
set_option maxHeartbeats 40000000 in
theorem rm_make (l : Launch) (Z : State) (a0 : Array Value) (hw : ∀ d ∈ tables_1, d.before a0 Z = true) (ws : List Jvm.Cond) (p1 : Int32) (p2 : Int32) (p3 : Int32) (p4 : Int32) (p5 : Int32) (zc : Int32) (h0 : Heap) (hEL : EW Z a0 consts_1) (OL : Old Z Z.heap.size h0) (st_C : Sta Z Z.heap "java/lang/String" "COMPACT_STRINGS" "Z" (.int zc)) (st_A : Sta Z Z.heap "java/lang/StringUTF16" "$assertionsDisabled" "Z" (.int (1 : Int32))) (st_H : Sta Z Z.heap "java/lang/StringUTF16" "HI_BYTE_SHIFT" "I" (.int (0 : Int32))) (st_L : Sta Z Z.heap "java/lang/StringUTF16" "LO_BYTE_SHIFT" "I" (.int (8 : Int32))) (hzc : ¬ zc = 0) (h : p1 = 0 ∨ p1 = 1 ∨ p1 = 2 ∨ p1 = 3 ∨ p1 = 4) (hr2 : ¬ p2 < 0 ∧ ¬ (65535 : Int32) < p2) (hr3 : ¬ p3 < 0 ∧ ¬ (65535 : Int32) < p3) (hr4 : ¬ p4 < 0 ∧ ¬ (65535 : Int32) < p4) (hr5 : ¬ p5 < 0 ∧ ¬ (65535 : Int32) < p5) :
    MetFree l mN2 (head1 (Jvm.Cond.code mN2 method_3_code 5 (some (.object "java/lang/String")) :: ws) rM25) (fun a U => a = #[(.int p1), (.int p2), (.int p3), (.int p4), (.int p5)] ∧ Z.Warmed39 U.vm ∧ U.heap = h0 ∧ CHv Z consts_1 U.vm h0) (fun _ _ _ _ _ => True) (fun _ U o U' => ∃ v L, o = .returned v ∧ Q_make Z p1 p2 p3 p4 p5 zc h0 v U'.heap L ∧ CHr Z consts_1 U.vm U.heap U'.vm U'.heap ∧ ReturnedEndW U o U' L rM25.cells rM25.slots) := by
  refine MetFree.of_bodySF (plainFor_of_name pn_606) hisR ?_
  intro p e s m args below meth c s₁ Bd hml0 hP hK
  obtain ⟨rfl, hZ, hh, hC0⟩ := hP
  have hx := Bd.exec
  have hby := Bd.bytes
  have hml : c.maxLocals = 5 := hml0
  have hown : s.vm.findClass "com/example/keep_to_layer/keeptolayer/model/ClassNamesPackageOfPinLaw" = some m.cls := findClass_of_methodNamed Bd.named
  have hnm := (name_of_methodNamed Bd.named Bd.method).1
  have X0 : Stand p l e rM25 (s.setVm s.vm) m #[(.int p1), (.int p2), (.int p3), (.int p4), (.int p5)] below meth c s₁ [] 0 0 := Stand.of_body Bd
  have e0 : s₁.heap = h0 := by rw [← hh, Bd.state]; rfl
  have N0 := Fr.nil Z.heap.size
  have Z0 : Z.heap.size ≤ h0.size := OL.2.1
  have hS0 : s.Since s.vm h0.size := (State.WarmedH.refl s).since _
  have wS := own_wS hw
  have R0 : CHr Z consts_1 s.vm h0 s.vm h0 := CHr.refl hC0
  show oG p.tables e below (fun o tE => ∃ v L, o = .returned v ∧ Q_make Z p1 p2 p3 p4 p5 zc h0 v tE.heap L ∧ CHr Z consts_1 s.vm s.heap tE.vm tE.heap ∧ ReturnedEndW s o tE L rM25.cells rM25.slots) (s₁.setTop (entryFrame m #[(.int p1), (.int p2), (.int p3), (.int p4), (.int p5)] 5))
  refine own_hd (fun PP hPP => ?_)
  refine oG.st (fun t k => castTop (ef_620 m p1 p2 p3 p4 p5) k) ?_
  show oG _ _ _ _ (s₁.setTop (mkF m 0 #[.val (.int p1), .val (.int p2), .val (.int p3), .val (.int p4), .val (.int p5)] []))
  rcases h with rfl | rfl | rfl | rfl | rfl
  ·
    refine oG.st (fun _ k => XS.iloadN X0.here hx rfl (hb hby d_method_3_0) rfl k) ?_
    show oG _ _ _ _ (s₁.setTop (mkF m 1 #[.val (.int (0 : Int32)), .val (.int p2), .val (.int p3), .val (.int p4), .val (.int p5)] [(.int (0 : Int32))]))
    refine oG.st (fun _ k => XS.ifNo X0.here hx rfl (hb hby d_method_3_1) rfl ((if0 _ _).trans (teq (rfl : (0 : Int32) = (0 : Int32))).2) k) ?_
    show oG _ _ _ _ (s₁.setTop (mkF m 4 #[.val (.int (0 : Int32)), .val (.int p2), .val (.int p3), .val (.int p4), .val (.int p5)] []))
    obtain ⟨T506, h506, X506, e506, E506, A506, D506, U506, st506⟩ := newO X0 hx hZ hown (own_w hw 9 rfl) (own_w hw 10 rfl) (own_w hw 11 rfl) e0 (g := (mkF m 4 #[.val (.int (0 : Int32)), .val (.int p2), .val (.int p3), .val (.int p4), .val (.int p5)] [])) rfl (hb hby d_method_3_4) (by decide) (by decide)
    obtain ⟨b506, g506⟩ : ∃ z, z = h0.size := ⟨_, rfl⟩
    rw [← g506] at A506 D506 U506 st506
    refine oG.st st506 ?_
    have z506 : h0.size ≤ h506.size := E506.1
    have lt_b506 : @LT.lt Nat _ b506 h506.size := A506.lt
    have f507 : Fld Z h506 b506 "java/lang/String" "value" "[B" .null := D506 (Or.inr (own_w hw 25 rfl)) (ty := (.array .byte)) (by decide)
    have f508 : Fld Z h506 b506 "java/lang/String" "coder" "B" (.int (0 : Int32)) := D506 (Or.inr (own_w hw 26 rfl)) (ty := .byte) (by decide)
    have R506 : CHr Z consts_1 s.vm h0 s.vm h506 := R0.trans (CHr.ext E506 R0.1)
    have Sf506 : Safe Z consts_1 s.vm h506 b506 := (Safe.new (Nat.le_of_eq g506.symm)).ext E506 R0.1
    refine oG.st (fun _ k => XS.dup X506.here hx rfl (hb hby d_method_3_7) rfl rfl (XS.iconst X506.here hx rfl (hb hby d_method_3_8) k)) ?_
    show oG _ _ _ _ (T506.setTop (mkF m 9 #[.val (.int (0 : Int32)), .val (.int p2), .val (.int p3), .val (.int p4), .val (.int p5)] [(.int (0 : Int32)), (.ref b506), (.ref b506)]))
    obtain ⟨T509, h509, k509, X509, e509, E509, A509, st509⟩ := newP X506 hx hZ (own_w hw 12 rfl) e506 (g := (mkF m 9 #[.val (.int (0 : Int32)), .val (.int p2), .val (.int p3), .val (.int p4), .val (.int p5)] [(.int (0 : Int32)), (.ref b506), (.ref b506)])) rfl (hb hby d_method_3_9) rfl (by decide) (cap := 0) (by decide) (by decide) (by decide) (by decide)
    obtain ⟨b509, g509⟩ : ∃ z, z = h506.size := ⟨_, rfl⟩
    rw [← g509] at A509 st509
    refine oG.st st509 ?_
    have z509 : h506.size ≤ h509.size := E509.1
    have f510 : Arv Z h509 b509 k509 .char (0 : Int32) [] (.int (0 : Int32)) := (Arv.new A509 (by decide)).pad (pad_rep [] (.int (0 : Int32)) 0)
    have lt_b509 : @LT.lt Nat _ b509 h509.size := f510.lt
    have R509 : CHr Z consts_1 s.vm h0 s.vm h509 := R506.trans (CHr.ext E509 R506.1)
    have Sf511 : Safe Z consts_1 s.vm h509 b506 := Safe.ext E509 R506.1 Sf506
    show oG _ _ _ _ (T509.setTop (mkF m 11 #[.val (.int (0 : Int32)), .val (.int p2), .val (.int p3), .val (.int p4), .val (.int p5)] [(.ref b509), (.ref b506), (.ref b506)]))
    have f513 : Exa Z h509 b506 "java/lang/String" := A506.ext E509
    have f514 : Fld Z h509 b506 "java/lang/String" "value" "[B" .null := f507.ext E509
    have f515 : Fld Z h509 b506 "java/lang/String" "coder" "B" (.int (0 : Int32)) := f508.ext E509
    have f516 : Old Z Z.heap.size h506 := OL.ext E506
    have f517 : Old Z Z.heap.size h509 := f516.ext E509
    obtain ⟨_, _, ⟨T512, L512, k512, n512⟩, -, X512, hs512, hg512, ⟨Lc512, hQ512, l512, y512, z512, ch512⟩, st512⟩ := X509.specialBackS hx (y := mN6) rfl hown (own_v hZ hw 13 rfl) (own_v hZ hw 14 rfl) (own_v hZ hw 15 rfl) (by decide) (backOfSH (s := s) (vm0 := s.vm) (W := 1) (rm_init1e l Z a0 hw [] b506 b509 k509 [] (.int (0 : Int32)) h509 hEL f517 f513 f514 f515 f510 (by omega)) hZ (own_w hw 15 rfl) (own_w hw 11 rfl) (by decide) (by decide) hEL R509.1) (g := (mkF m 11 #[.val (.int (0 : Int32)), .val (.int p2), .val (.int p3), .val (.int p4), .val (.int p5)] [(.ref b509), (.ref b506), (.ref b506)])) rfl (by rw [hml]; rfl) (Steps.refl _) (a := b506) (argsL := [(.ref b509)]) (rest := [(.ref b506)]) (lenOf pd_627 rfl) rfl (by show 2 * 0 + _ ≤ _; exact Nat.le_of_eq rfl) (hb hby d_method_3_11) (fun _ _ => ⟨rfl, e509, (by decide : 2 + 4 ≤ _), (by decide : 4 + 8 ≤ _)⟩)
    dsimp only [Pt.U, Pt.locs, Pt.cells, Pt.slots] at X512 l512 y512 z512 st512 hQ512 hs512 hg512 ch512
    subst l512 y512 z512
    obtain ⟨t_512, rfl, N512q, K512, f512_0⟩ := hQ512
    have N512 := Fr.app N0 N512q
    obtain ⟨Y512, hS512, hZ512, hown512⟩ := rebS hS0 (n1 := h509.size) (by omega) X512 hs512 (by have := hg512; first | exact this | (rw [← e509]; exact this)) hZ hown
    have z512 : h509.size ≤ T512.heap.size := K512.1
    have R512 : CHr Z consts_1 s.vm h0 T512.vm T512.heap := R509.trans ch512
    have Sf518 : Safe Z consts_1 T512.vm T512.heap b506 := ch512.safe (by show @LT.lt Nat _ b506 _; omega) Sf511
    have lt512_0 : @LT.lt Nat _ b506 T512.heap.size := f512_0.lt
    have ltv512_0 : @LT.lt Nat _ t_512 T512.heap.size := f512_0.ltv
    refine oG.tr st512 ?_
    show oG _ _ _ _ (T512.setTop (mkF m 14 #[.val (.int (0 : Int32)), .val (.int p2), .val (.int p3), .val (.int p4), .val (.int p5)] [(.ref b506)]))
    obtain ⟨fs519, hr519, hrun519, hend519, hret519⟩ := Y512.leaveW hS512 (by omega) (v := some (.ref b506)) (fun h => by rw [Bd.returns] at h; cases h)
    have K520 : Keep h0 h506 [] := (Keep.refl h0 []).ext E506
    have K521 : Keep h0 h509 [] := K520.ext E509
    have K522 : Keep h0 T512.heap [] := K521.trans K512 (allS (Or.inr (by omega)) all0)
    subst hPP
    refine ⟨_, _, own_retA Y512 hx Bd.returns rfl rfl (hb hby d_method_3_14) hr519, hrun519, hend519, _, _, rfl, ?_, ?_, hret519.1, hret519.2.1, hret519.2.2.1, hret519.2.2.2.mono (by decide) (by decide)⟩
    · show Q_make Z _ _ _ _ _ _ h0 _ T512.heap _
      exact ⟨b506, t_512, rfl, N512, K522, f512_0⟩
    · have hfin := R512.trans (CHv.at Y512 hZ512 hEL R512.1)
      rw [← hh] at hfin
      show CHr Z consts_1 s.vm s.heap T512.vm T512.heap
      exact hfin
  ·
    refine oG.st (fun _ k => XS.iloadN X0.here hx rfl (hb hby d_method_3_0) rfl k) ?_
    show oG _ _ _ _ (s₁.setTop (mkF m 1 #[.val (.int (1 : Int32)), .val (.int p2), .val (.int p3), .val (.int p4), .val (.int p5)] [(.int (1 : Int32))]))
    refine oG.st (fun _ k => XS.ifYes X0.here hx rfl (pc0 := 1) (pc' := 15) rfl (hb hby d_method_3_1) rfl ((if0 _ _).trans (feq (by decide : ¬ ((1 : Int32) = (0 : Int32)))).2) (by decide) (by decide) k) ?_
    refine oG.st (fun _ k => XS.iloadN X0.here hx rfl (hb hby d_method_3_15) rfl (XS.iconst X0.here hx rfl (hb hby d_method_3_16) k)) ?_
    show oG _ _ _ _ (s₁.setTop (mkF m 17 #[.val (.int (1 : Int32)), .val (.int p2), .val (.int p3), .val (.int p4), .val (.int p5)] [(.int (1 : Int32)), (.int (1 : Int32))]))
    refine oG.st (fun _ k => XS.icmpNo X0.here hx rfl (hb hby d_method_3_17) rfl (teq (rfl : (1 : Int32) = (1 : Int32))).2 k) ?_
    show oG _ _ _ _ (s₁.setTop (mkF m 20 #[.val (.int (1 : Int32)), .val (.int p2), .val (.int p3), .val (.int p4), .val (.int p5)] []))
    obtain ⟨T523, h523, X523, e523, E523, A523, D523, U523, st523⟩ := newO X0 hx hZ hown (own_w hw 9 rfl) (own_w hw 10 rfl) (own_w hw 11 rfl) e0 (g := (mkF m 20 #[.val (.int (1 : Int32)), .val (.int p2), .val (.int p3), .val (.int p4), .val (.int p5)] [])) rfl (hb hby d_method_3_20) (by decide) (by decide)
    obtain ⟨b523, g523⟩ : ∃ z, z = h0.size := ⟨_, rfl⟩
    rw [← g523] at A523 D523 U523 st523
    refine oG.st st523 ?_
    have z523 : h0.size ≤ h523.size := E523.1
    have lt_b523 : @LT.lt Nat _ b523 h523.size := A523.lt
    have f524 : Fld Z h523 b523 "java/lang/String" "value" "[B" .null := D523 (Or.inr (own_w hw 25 rfl)) (ty := (.array .byte)) (by decide)
    have f525 : Fld Z h523 b523 "java/lang/String" "coder" "B" (.int (0 : Int32)) := D523 (Or.inr (own_w hw 26 rfl)) (ty := .byte) (by decide)
    have R523 : CHr Z consts_1 s.vm h0 s.vm h523 := R0.trans (CHr.ext E523 R0.1)
    have Sf523 : Safe Z consts_1 s.vm h523 b523 := (Safe.new (Nat.le_of_eq g523.symm)).ext E523 R0.1
    refine oG.st (fun _ k => XS.dup X523.here hx rfl (hb hby d_method_3_23) rfl rfl (XS.iconst X523.here hx rfl (hb hby d_method_3_24) k)) ?_
    show oG _ _ _ _ (T523.setTop (mkF m 25 #[.val (.int (1 : Int32)), .val (.int p2), .val (.int p3), .val (.int p4), .val (.int p5)] [(.int (1 : Int32)), (.ref b523), (.ref b523)]))
    obtain ⟨T526, h526, k526, X526, e526, E526, A526, st526⟩ := newP X523 hx hZ (own_w hw 12 rfl) e523 (g := (mkF m 25 #[.val (.int (1 : Int32)), .val (.int p2), .val (.int p3), .val (.int p4), .val (.int p5)] [(.int (1 : Int32)), (.ref b523), (.ref b523)])) rfl (hb hby d_method_3_25) rfl (by decide) (cap := 1) (by decide) (by decide) (by decide) (by decide)
    obtain ⟨b526, g526⟩ : ∃ z, z = h523.size := ⟨_, rfl⟩
    rw [← g526] at A526 st526
    refine oG.st st526 ?_
    have z526 : h523.size ≤ h526.size := E526.1
    have f527 : Arv Z h526 b526 k526 .char (1 : Int32) [(.int (0 : Int32))] (.int (0 : Int32)) := (Arv.new A526 (by decide)).pad (pad_rep [] (.int (0 : Int32)) 1)
    have lt_b526 : @LT.lt Nat _ b526 h526.size := f527.lt
    have R526 : CHr Z consts_1 s.vm h0 s.vm h526 := R523.trans (CHr.ext E526 R523.1)
    have Sf528 : Safe Z consts_1 s.vm h526 b523 := Safe.ext E526 R523.1 Sf523
    refine oG.st (fun _ k => XS.dup X526.here hx rfl (hb hby d_method_3_27) rfl rfl (XS.iconst X526.here hx rfl (hb hby d_method_3_28) (XS.iloadN X526.here hx rfl (hb hby d_method_3_29) rfl k))) ?_
    show oG _ _ _ _ (T526.setTop (mkF m 30 #[.val (.int (1 : Int32)), .val (.int p2), .val (.int p3), .val (.int p4), .val (.int p5)] [(.int p2), (.int (0 : Int32)), (.ref b526), (.ref b526), (.ref b523), (.ref b523)]))
    obtain ⟨c529, Ar529, q529, S529, Nn529, H529, G529⟩ := id f527
    have hin529 : ¬ ((0 : Int32) < 0 ∨ c529.slots.size ≤ ((0 : Int32)).toNatClampNeg) := inb_of S529 ⟨by decide, by decide⟩
    obtain ⟨T529, h529, X529, e529, W529, st529⟩ := stC X526 hx hZ e526 Ar529 (j := (0 : Int32)) hin529 (g := (mkF m 30 #[.val (.int (1 : Int32)), .val (.int p2), .val (.int p3), .val (.int p4), .val (.int p5)] [(.int p2), (.int (0 : Int32)), (.ref b526), (.ref b526), (.ref b523), (.ref b523)])) rfl rfl (hb hby d_method_3_30)
    refine oG.st st529 ?_
    have N529 := Fr.snoc X529 N0 (by omega)
    have Sf531 : Safe Z consts_1 s.vm h526 b526 := Safe.arv hZ.alike f527 (by decide)
    have z529 : h526.size ≤ h529.size := Nat.le_of_eq W529.size.symm
    have f530 := Arv.set Ar529 q529 S529 Nn529 H529 G529 (fits_nar_char _) W529 0 rfl (Nat.le_of_ble_eq_true rfl)
    rw [own_nar hr2] at f530
    have f532 : Arv Z h529 b526 k526 .char (1 : Int32) [(.int p2)] (.int (0 : Int32)) := f530
    have R529 : CHr Z consts_1 s.vm h0 s.vm h529 := R526.trans (CHr.wr W529 Sf531 R526.1)
    have Sf533 : Safe Z consts_1 s.vm h529 b523 := Safe.wr W529 Sf531 R526.1 Sf528
    show oG _ _ _ _ (T529.setTop (mkF m 31 #[.val (.int (1 : Int32)), .val (.int p2), .val (.int p3), .val (.int p4), .val (.int p5)] [(.ref b526), (.ref b523), (.ref b523)]))
    have f535 : Exa Z h526 b523 "java/lang/String" := A523.ext E526
    have f536 : Exa Z h529 b523 "java/lang/String" := f535.wr W529
    have f537 : Fld Z h526 b523 "java/lang/String" "value" "[B" .null := f524.ext E526
    have f538 : Fld Z h529 b523 "java/lang/String" "value" "[B" .null := f537.other W529 (Or.inl (by show @Ne Nat b523 b526; omega))
    have f539 : Fld Z h526 b523 "java/lang/String" "coder" "B" (.int (0 : Int32)) := f525.ext E526
    have f540 : Fld Z h529 b523 "java/lang/String" "coder" "B" (.int (0 : Int32)) := f539.other W529 (Or.inl (by show @Ne Nat b523 b526; omega))
    have f541 : Old Z Z.heap.size h523 := OL.ext E523
    have f542 : Old Z Z.heap.size h526 := f541.ext E526
    have f543 : Old Z Z.heap.size h529 := f542.wr W529 (by omega)
    obtain ⟨_, _, ⟨T534, L534, k534, n534⟩, -, X534, ⟨Lc534, hQ534, l534, y534, z534⟩, st534⟩ := X529.specialBack hx (y := mN6) rfl hown (own_v hZ hw 13 rfl) (own_v hZ hw 14 rfl) (own_v hZ hw 15 rfl) (by decide) (own_backStr (W := 1) (cs := [p2]) hZ hw f543 f536 f538 f540 f532 st_C st_A st_H st_L rfl (Nat.le_of_ble_eq_true rfl) (Nat.le_of_ble_eq_true rfl) (own_aS hr2 own_a0) (by omega) (by first | assumption | decide) (by decide) (by decide)) (g := (mkF m 31 #[.val (.int (1 : Int32)), .val (.int p2), .val (.int p3), .val (.int p4), .val (.int p5)] [(.ref b526), (.ref b523), (.ref b523)])) rfl (by rw [hml]; rfl) (Steps.refl _) (a := b523) (argsL := [(.ref b526)]) (rest := [(.ref b523)]) (lenOf pd_627 rfl) rfl (by show 2 * 0 + _ ≤ _; exact Nat.le_of_eq rfl) (hb hby d_method_3_31) (fun _ _ => ⟨rfl, e529, (by decide : 2 + 2 ≤ _), (by decide : 5 + 12 ≤ _)⟩)
    dsimp only [Pt.U, Pt.locs, Pt.cells, Pt.slots] at X534 l534 y534 z534 st534 hQ534
    subst l534 y534 z534
    obtain ⟨t_534, rfl, N534q, K534, f534_0, pr534_0⟩ := hQ534
    have N534 := Fr.app N529 N534q
    have z534 : h529.size ≤ T534.heap.size := K534.1
    have R534 : CHr Z consts_1 s.vm h0 s.vm T534.heap := R529.trans (CHr.keep K534 (sfS Sf533 sf0) R529.1)
    have Sf544 : Safe Z consts_1 s.vm T534.heap b523 := Safe.keep K534 (sfS Sf533 sf0) R529.1 Sf533
    have lt534_0 : @LT.lt Nat _ b523 T534.heap.size := f534_0.lt
    have ltv534_0 : @LT.lt Nat _ t_534 T534.heap.size := f534_0.ltv
    refine oG.tr st534 ?_
    show oG _ _ _ _ (T534.setTop (mkF m 34 #[.val (.int (1 : Int32)), .val (.int p2), .val (.int p3), .val (.int p4), .val (.int p5)] [(.ref b523)]))
    obtain ⟨fs545, hr545, hrun545, hend545, hret545⟩ := X534.leaveW hS0 (by omega) (v := some (.ref b523)) (fun h => by rw [Bd.returns] at h; cases h)
    have K546 : Keep h0 h523 [] := (Keep.refl h0 []).ext E523
    have K547 : Keep h0 h526 [] := K546.ext E526
    have K548 : Keep h0 h529 [] := K547.wr W529 (Or.inr (by omega))
    have K549 : Keep h0 T534.heap [] := K548.trans K534 (allS (Or.inr (by omega)) all0)
    subst hPP
    refine ⟨_, _, own_retA X534 hx Bd.returns rfl rfl (hb hby d_method_3_34) hr545, hrun545, hend545, _, _, rfl, ?_, ?_, hret545.1, hret545.2.1, hret545.2.2.1, hret545.2.2.2.mono (by decide) (by decide)⟩
    · show Q_make Z _ _ _ _ _ _ h0 _ T534.heap _
      exact ⟨b523, t_534, rfl, N534, K549, f534_0⟩
    · have hfin := R534.trans (CHv.at X534 hZ hEL R534.1)
      rw [← hh] at hfin
      show CHr Z consts_1 s.vm s.heap T534.vm T534.heap
      exact hfin
  ·
    refine oG.st (fun _ k => XS.iloadN X0.here hx rfl (hb hby d_method_3_0) rfl k) ?_
    show oG _ _ _ _ (s₁.setTop (mkF m 1 #[.val (.int (2 : Int32)), .val (.int p2), .val (.int p3), .val (.int p4), .val (.int p5)] [(.int (2 : Int32))]))
    refine oG.st (fun _ k => XS.ifYes X0.here hx rfl (pc0 := 1) (pc' := 15) rfl (hb hby d_method_3_1) rfl ((if0 _ _).trans (feq (by decide : ¬ ((2 : Int32) = (0 : Int32)))).2) (by decide) (by decide) k) ?_
    refine oG.st (fun _ k => XS.iloadN X0.here hx rfl (hb hby d_method_3_15) rfl (XS.iconst X0.here hx rfl (hb hby d_method_3_16) k)) ?_
    show oG _ _ _ _ (s₁.setTop (mkF m 17 #[.val (.int (2 : Int32)), .val (.int p2), .val (.int p3), .val (.int p4), .val (.int p5)] [(.int (1 : Int32)), (.int (2 : Int32))]))
    refine oG.st (fun _ k => XS.icmpYes X0.here hx rfl (pc0 := 17) (pc' := 35) rfl (hb hby d_method_3_17) rfl (feq (by decide : ¬ ((2 : Int32) = (1 : Int32)))).2 (by decide) (by decide) k) ?_
    refine oG.st (fun _ k => XS.iloadN X0.here hx rfl (hb hby d_method_3_35) rfl (XS.iconst X0.here hx rfl (hb hby d_method_3_36) k)) ?_
    show oG _ _ _ _ (s₁.setTop (mkF m 37 #[.val (.int (2 : Int32)), .val (.int p2), .val (.int p3), .val (.int p4), .val (.int p5)] [(.int (2 : Int32)), (.int (2 : Int32))]))
    refine oG.st (fun _ k => XS.icmpNo X0.here hx rfl (hb hby d_method_3_37) rfl (teq (rfl : (2 : Int32) = (2 : Int32))).2 k) ?_
    show oG _ _ _ _ (s₁.setTop (mkF m 40 #[.val (.int (2 : Int32)), .val (.int p2), .val (.int p3), .val (.int p4), .val (.int p5)] []))
    obtain ⟨T550, h550, X550, e550, E550, A550, D550, U550, st550⟩ := newO X0 hx hZ hown (own_w hw 9 rfl) (own_w hw 10 rfl) (own_w hw 11 rfl) e0 (g := (mkF m 40 #[.val (.int (2 : Int32)), .val (.int p2), .val (.int p3), .val (.int p4), .val (.int p5)] [])) rfl (hb hby d_method_3_40) (by decide) (by decide)
    obtain ⟨b550, g550⟩ : ∃ z, z = h0.size := ⟨_, rfl⟩
    rw [← g550] at A550 D550 U550 st550
    refine oG.st st550 ?_
    have z550 : h0.size ≤ h550.size := E550.1
    have lt_b550 : @LT.lt Nat _ b550 h550.size := A550.lt
    have f551 : Fld Z h550 b550 "java/lang/String" "value" "[B" .null := D550 (Or.inr (own_w hw 25 rfl)) (ty := (.array .byte)) (by decide)
    have f552 : Fld Z h550 b550 "java/lang/String" "coder" "B" (.int (0 : Int32)) := D550 (Or.inr (own_w hw 26 rfl)) (ty := .byte) (by decide)
    have R550 : CHr Z consts_1 s.vm h0 s.vm h550 := R0.trans (CHr.ext E550 R0.1)
    have Sf550 : Safe Z consts_1 s.vm h550 b550 := (Safe.new (Nat.le_of_eq g550.symm)).ext E550 R0.1
    refine oG.st (fun _ k => XS.dup X550.here hx rfl (hb hby d_method_3_43) rfl rfl (XS.iconst X550.here hx rfl (hb hby d_method_3_44) k)) ?_
    show oG _ _ _ _ (T550.setTop (mkF m 45 #[.val (.int (2 : Int32)), .val (.int p2), .val (.int p3), .val (.int p4), .val (.int p5)] [(.int (2 : Int32)), (.ref b550), (.ref b550)]))
    obtain ⟨T553, h553, k553, X553, e553, E553, A553, st553⟩ := newP X550 hx hZ (own_w hw 12 rfl) e550 (g := (mkF m 45 #[.val (.int (2 : Int32)), .val (.int p2), .val (.int p3), .val (.int p4), .val (.int p5)] [(.int (2 : Int32)), (.ref b550), (.ref b550)])) rfl (hb hby d_method_3_45) rfl (by decide) (cap := 2) (by decide) (by decide) (by decide) (by decide)
    obtain ⟨b553, g553⟩ : ∃ z, z = h550.size := ⟨_, rfl⟩
    rw [← g553] at A553 st553
    refine oG.st st553 ?_
    have z553 : h550.size ≤ h553.size := E553.1
    have f554 : Arv Z h553 b553 k553 .char (2 : Int32) [(.int (0 : Int32)), (.int (0 : Int32))] (.int (0 : Int32)) := (Arv.new A553 (by decide)).pad (pad_rep [] (.int (0 : Int32)) 2)
    have lt_b553 : @LT.lt Nat _ b553 h553.size := f554.lt
    have R553 : CHr Z consts_1 s.vm h0 s.vm h553 := R550.trans (CHr.ext E553 R550.1)
    have Sf555 : Safe Z consts_1 s.vm h553 b550 := Safe.ext E553 R550.1 Sf550
    refine oG.st (fun _ k => XS.dup X553.here hx rfl (hb hby d_method_3_47) rfl rfl (XS.iconst X553.here hx rfl (hb hby d_method_3_48) (XS.iloadN X553.here hx rfl (hb hby d_method_3_49) rfl k))) ?_
    show oG _ _ _ _ (T553.setTop (mkF m 50 #[.val (.int (2 : Int32)), .val (.int p2), .val (.int p3), .val (.int p4), .val (.int p5)] [(.int p2), (.int (0 : Int32)), (.ref b553), (.ref b553), (.ref b550), (.ref b550)]))
    obtain ⟨c556, Ar556, q556, S556, Nn556, H556, G556⟩ := id f554
    have hin556 : ¬ ((0 : Int32) < 0 ∨ c556.slots.size ≤ ((0 : Int32)).toNatClampNeg) := inb_of S556 ⟨by decide, by decide⟩
    obtain ⟨T556, h556, X556, e556, W556, st556⟩ := stC X553 hx hZ e553 Ar556 (j := (0 : Int32)) hin556 (g := (mkF m 50 #[.val (.int (2 : Int32)), .val (.int p2), .val (.int p3), .val (.int p4), .val (.int p5)] [(.int p2), (.int (0 : Int32)), (.ref b553), (.ref b553), (.ref b550), (.ref b550)])) rfl rfl (hb hby d_method_3_50)
    refine oG.st st556 ?_
    have N556 := Fr.snoc X556 N0 (by omega)
    have Sf558 : Safe Z consts_1 s.vm h553 b553 := Safe.arv hZ.alike f554 (by decide)
    have z556 : h553.size ≤ h556.size := Nat.le_of_eq W556.size.symm
    have f557 := Arv.set Ar556 q556 S556 Nn556 H556 G556 (fits_nar_char _) W556 0 rfl (Nat.le_of_ble_eq_true rfl)
    rw [own_nar hr2] at f557
    have f559 : Arv Z h556 b553 k553 .char (2 : Int32) [(.int p2), (.int (0 : Int32))] (.int (0 : Int32)) := f557
    have R556 : CHr Z consts_1 s.vm h0 s.vm h556 := R553.trans (CHr.wr W556 Sf558 R553.1)
    have Sf560 : Safe Z consts_1 s.vm h556 b550 := Safe.wr W556 Sf558 R553.1 Sf555
    refine oG.st (fun _ k => XS.dup X556.here hx rfl (hb hby d_method_3_51) rfl rfl (XS.iconst X556.here hx rfl (hb hby d_method_3_52) (XS.iloadN X556.here hx rfl (hb hby d_method_3_53) rfl k))) ?_
    show oG _ _ _ _ (T556.setTop (mkF m 54 #[.val (.int (2 : Int32)), .val (.int p2), .val (.int p3), .val (.int p4), .val (.int p5)] [(.int p3), (.int (1 : Int32)), (.ref b553), (.ref b553), (.ref b550), (.ref b550)]))
    obtain ⟨c561, Ar561, q561, S561, Nn561, H561, G561⟩ := id f559
    have hin561 : ¬ ((1 : Int32) < 0 ∨ c561.slots.size ≤ ((1 : Int32)).toNatClampNeg) := inb_of S561 ⟨by decide, by decide⟩
    obtain ⟨T561, h561, X561, e561, W561, st561⟩ := stC X556 hx hZ e556 Ar561 (j := (1 : Int32)) hin561 (g := (mkF m 54 #[.val (.int (2 : Int32)), .val (.int p2), .val (.int p3), .val (.int p4), .val (.int p5)] [(.int p3), (.int (1 : Int32)), (.ref b553), (.ref b553), (.ref b550), (.ref b550)])) rfl rfl (hb hby d_method_3_54)
    refine oG.st st561 ?_
    have N561 := Fr.snoc X561 N556 (by omega)
    have Sf563 : Safe Z consts_1 s.vm h556 b553 := Safe.arv hZ.alike f559 (by decide)
    have z561 : h556.size ≤ h561.size := Nat.le_of_eq W561.size.symm
    have f562 := Arv.set Ar561 q561 S561 Nn561 H561 G561 (fits_nar_char _) W561 1 rfl (Nat.le_of_ble_eq_true rfl)
    rw [own_nar hr3] at f562
    have f564 : Arv Z h561 b553 k553 .char (2 : Int32) [(.int p2), (.int p3)] (.int (0 : Int32)) := f562
    have R561 : CHr Z consts_1 s.vm h0 s.vm h561 := R556.trans (CHr.wr W561 Sf563 R556.1)
    have Sf565 : Safe Z consts_1 s.vm h561 b550 := Safe.wr W561 Sf563 R556.1 Sf560
    show oG _ _ _ _ (T561.setTop (mkF m 55 #[.val (.int (2 : Int32)), .val (.int p2), .val (.int p3), .val (.int p4), .val (.int p5)] [(.ref b553), (.ref b550), (.ref b550)]))
    have f567 : Exa Z h553 b550 "java/lang/String" := A550.ext E553
    have f568 : Exa Z h556 b550 "java/lang/String" := f567.wr W556
    have f569 : Exa Z h561 b550 "java/lang/String" := f568.wr W561
    have f570 : Fld Z h553 b550 "java/lang/String" "value" "[B" .null := f551.ext E553
    have f571 : Fld Z h556 b550 "java/lang/String" "value" "[B" .null := f570.other W556 (Or.inl (by show @Ne Nat b550 b553; omega))
    have f572 : Fld Z h561 b550 "java/lang/String" "value" "[B" .null := f571.other W561 (Or.inl (by show @Ne Nat b550 b553; omega))
    have f573 : Fld Z h553 b550 "java/lang/String" "coder" "B" (.int (0 : Int32)) := f552.ext E553
    have f574 : Fld Z h556 b550 "java/lang/String" "coder" "B" (.int (0 : Int32)) := f573.other W556 (Or.inl (by show @Ne Nat b550 b553; omega))
    have f575 : Fld Z h561 b550 "java/lang/String" "coder" "B" (.int (0 : Int32)) := f574.other W561 (Or.inl (by show @Ne Nat b550 b553; omega))
    have f576 : Old Z Z.heap.size h550 := OL.ext E550
    have f577 : Old Z Z.heap.size h553 := f576.ext E553
    have f578 : Old Z Z.heap.size h556 := f577.wr W556 (by omega)
    have f579 : Old Z Z.heap.size h561 := f578.wr W561 (by omega)
    obtain ⟨_, _, ⟨T566, L566, k566, n566⟩, -, X566, ⟨Lc566, hQ566, l566, y566, z566⟩, st566⟩ := X561.specialBack hx (y := mN6) rfl hown (own_v hZ hw 13 rfl) (own_v hZ hw 14 rfl) (own_v hZ hw 15 rfl) (by decide) (own_backStr (W := 1) (cs := [p2, p3]) hZ hw f579 f569 f572 f575 f564 st_C st_A st_H st_L rfl (Nat.le_of_ble_eq_true rfl) (Nat.le_of_ble_eq_true rfl) (own_aS hr2 (own_aS hr3 own_a0)) (by omega) (by first | assumption | decide) (by decide) (by decide)) (g := (mkF m 55 #[.val (.int (2 : Int32)), .val (.int p2), .val (.int p3), .val (.int p4), .val (.int p5)] [(.ref b553), (.ref b550), (.ref b550)])) rfl (by rw [hml]; rfl) (Steps.refl _) (a := b550) (argsL := [(.ref b553)]) (rest := [(.ref b550)]) (lenOf pd_627 rfl) rfl (by show 2 * 0 + _ ≤ _; exact Nat.le_of_eq rfl) (hb hby d_method_3_55) (fun _ _ => ⟨rfl, e561, (by decide : 2 + 2 ≤ _), (by decide : 6 + 12 ≤ _)⟩)
    dsimp only [Pt.U, Pt.locs, Pt.cells, Pt.slots] at X566 l566 y566 z566 st566 hQ566
    subst l566 y566 z566
    obtain ⟨t_566, rfl, N566q, K566, f566_0, pr566_0⟩ := hQ566
    have N566 := Fr.app N561 N566q
    have z566 : h561.size ≤ T566.heap.size := K566.1
    have R566 : CHr Z consts_1 s.vm h0 s.vm T566.heap := R561.trans (CHr.keep K566 (sfS Sf565 sf0) R561.1)
    have Sf580 : Safe Z consts_1 s.vm T566.heap b550 := Safe.keep K566 (sfS Sf565 sf0) R561.1 Sf565
    have lt566_0 : @LT.lt Nat _ b550 T566.heap.size := f566_0.lt
    have ltv566_0 : @LT.lt Nat _ t_566 T566.heap.size := f566_0.ltv
    refine oG.tr st566 ?_
    show oG _ _ _ _ (T566.setTop (mkF m 58 #[.val (.int (2 : Int32)), .val (.int p2), .val (.int p3), .val (.int p4), .val (.int p5)] [(.ref b550)]))
    obtain ⟨fs581, hr581, hrun581, hend581, hret581⟩ := X566.leaveW hS0 (by omega) (v := some (.ref b550)) (fun h => by rw [Bd.returns] at h; cases h)
    have K582 : Keep h0 h550 [] := (Keep.refl h0 []).ext E550
    have K583 : Keep h0 h553 [] := K582.ext E553
    have K584 : Keep h0 h556 [] := K583.wr W556 (Or.inr (by omega))
    have K585 : Keep h0 h561 [] := K584.wr W561 (Or.inr (by omega))
    have K586 : Keep h0 T566.heap [] := K585.trans K566 (allS (Or.inr (by omega)) all0)
    subst hPP
    refine ⟨_, _, own_retA X566 hx Bd.returns rfl rfl (hb hby d_method_3_58) hr581, hrun581, hend581, _, _, rfl, ?_, ?_, hret581.1, hret581.2.1, hret581.2.2.1, hret581.2.2.2.mono (by decide) (by decide)⟩
    · show Q_make Z _ _ _ _ _ _ h0 _ T566.heap _
      exact ⟨b550, t_566, rfl, N566, K586, f566_0⟩
    · have hfin := R566.trans (CHv.at X566 hZ hEL R566.1)
      rw [← hh] at hfin
      show CHr Z consts_1 s.vm s.heap T566.vm T566.heap
      exact hfin
  ·
    refine oG.st (fun _ k => XS.iloadN X0.here hx rfl (hb hby d_method_3_0) rfl k) ?_
    show oG _ _ _ _ (s₁.setTop (mkF m 1 #[.val (.int (3 : Int32)), .val (.int p2), .val (.int p3), .val (.int p4), .val (.int p5)] [(.int (3 : Int32))]))
    refine oG.st (fun _ k => XS.ifYes X0.here hx rfl (pc0 := 1) (pc' := 15) rfl (hb hby d_method_3_1) rfl ((if0 _ _).trans (feq (by decide : ¬ ((3 : Int32) = (0 : Int32)))).2) (by decide) (by decide) k) ?_
    refine oG.st (fun _ k => XS.iloadN X0.here hx rfl (hb hby d_method_3_15) rfl (XS.iconst X0.here hx rfl (hb hby d_method_3_16) k)) ?_
    show oG _ _ _ _ (s₁.setTop (mkF m 17 #[.val (.int (3 : Int32)), .val (.int p2), .val (.int p3), .val (.int p4), .val (.int p5)] [(.int (1 : Int32)), (.int (3 : Int32))]))
    refine oG.st (fun _ k => XS.icmpYes X0.here hx rfl (pc0 := 17) (pc' := 35) rfl (hb hby d_method_3_17) rfl (feq (by decide : ¬ ((3 : Int32) = (1 : Int32)))).2 (by decide) (by decide) k) ?_
    refine oG.st (fun _ k => XS.iloadN X0.here hx rfl (hb hby d_method_3_35) rfl (XS.iconst X0.here hx rfl (hb hby d_method_3_36) k)) ?_
    show oG _ _ _ _ (s₁.setTop (mkF m 37 #[.val (.int (3 : Int32)), .val (.int p2), .val (.int p3), .val (.int p4), .val (.int p5)] [(.int (2 : Int32)), (.int (3 : Int32))]))
    refine oG.st (fun _ k => XS.icmpYes X0.here hx rfl (pc0 := 37) (pc' := 59) rfl (hb hby d_method_3_37) rfl (feq (by decide : ¬ ((3 : Int32) = (2 : Int32)))).2 (by decide) (by decide) k) ?_
    refine oG.st (fun _ k => XS.iloadN X0.here hx rfl (hb hby d_method_3_59) rfl (XS.iconst X0.here hx rfl (hb hby d_method_3_60) k)) ?_
    show oG _ _ _ _ (s₁.setTop (mkF m 61 #[.val (.int (3 : Int32)), .val (.int p2), .val (.int p3), .val (.int p4), .val (.int p5)] [(.int (3 : Int32)), (.int (3 : Int32))]))
    refine oG.st (fun _ k => XS.icmpNo X0.here hx rfl (hb hby d_method_3_61) rfl (teq (rfl : (3 : Int32) = (3 : Int32))).2 k) ?_
    show oG _ _ _ _ (s₁.setTop (mkF m 64 #[.val (.int (3 : Int32)), .val (.int p2), .val (.int p3), .val (.int p4), .val (.int p5)] []))
    obtain ⟨T587, h587, X587, e587, E587, A587, D587, U587, st587⟩ := newO X0 hx hZ hown (own_w hw 9 rfl) (own_w hw 10 rfl) (own_w hw 11 rfl) e0 (g := (mkF m 64 #[.val (.int (3 : Int32)), .val (.int p2), .val (.int p3), .val (.int p4), .val (.int p5)] [])) rfl (hb hby d_method_3_64) (by decide) (by decide)
    obtain ⟨b587, g587⟩ : ∃ z, z = h0.size := ⟨_, rfl⟩
    rw [← g587] at A587 D587 U587 st587
    refine oG.st st587 ?_
    have z587 : h0.size ≤ h587.size := E587.1
    have lt_b587 : @LT.lt Nat _ b587 h587.size := A587.lt
    have f588 : Fld Z h587 b587 "java/lang/String" "value" "[B" .null := D587 (Or.inr (own_w hw 25 rfl)) (ty := (.array .byte)) (by decide)
    have f589 : Fld Z h587 b587 "java/lang/String" "coder" "B" (.int (0 : Int32)) := D587 (Or.inr (own_w hw 26 rfl)) (ty := .byte) (by decide)
    have R587 : CHr Z consts_1 s.vm h0 s.vm h587 := R0.trans (CHr.ext E587 R0.1)
    have Sf587 : Safe Z consts_1 s.vm h587 b587 := (Safe.new (Nat.le_of_eq g587.symm)).ext E587 R0.1
    refine oG.st (fun _ k => XS.dup X587.here hx rfl (hb hby d_method_3_67) rfl rfl (XS.iconst X587.here hx rfl (hb hby d_method_3_68) k)) ?_
    show oG _ _ _ _ (T587.setTop (mkF m 69 #[.val (.int (3 : Int32)), .val (.int p2), .val (.int p3), .val (.int p4), .val (.int p5)] [(.int (3 : Int32)), (.ref b587), (.ref b587)]))
    obtain ⟨T590, h590, k590, X590, e590, E590, A590, st590⟩ := newP X587 hx hZ (own_w hw 12 rfl) e587 (g := (mkF m 69 #[.val (.int (3 : Int32)), .val (.int p2), .val (.int p3), .val (.int p4), .val (.int p5)] [(.int (3 : Int32)), (.ref b587), (.ref b587)])) rfl (hb hby d_method_3_69) rfl (by decide) (cap := 3) (by decide) (by decide) (by decide) (by decide)
    obtain ⟨b590, g590⟩ : ∃ z, z = h587.size := ⟨_, rfl⟩
    rw [← g590] at A590 st590
    refine oG.st st590 ?_
    have z590 : h587.size ≤ h590.size := E590.1
    have f591 : Arv Z h590 b590 k590 .char (3 : Int32) [(.int (0 : Int32)), (.int (0 : Int32)), (.int (0 : Int32))] (.int (0 : Int32)) := (Arv.new A590 (by decide)).pad (pad_rep [] (.int (0 : Int32)) 3)
    have lt_b590 : @LT.lt Nat _ b590 h590.size := f591.lt
    have R590 : CHr Z consts_1 s.vm h0 s.vm h590 := R587.trans (CHr.ext E590 R587.1)
    have Sf592 : Safe Z consts_1 s.vm h590 b587 := Safe.ext E590 R587.1 Sf587
    refine oG.st (fun _ k => XS.dup X590.here hx rfl (hb hby d_method_3_71) rfl rfl (XS.iconst X590.here hx rfl (hb hby d_method_3_72) (XS.iloadN X590.here hx rfl (hb hby d_method_3_73) rfl k))) ?_
    show oG _ _ _ _ (T590.setTop (mkF m 74 #[.val (.int (3 : Int32)), .val (.int p2), .val (.int p3), .val (.int p4), .val (.int p5)] [(.int p2), (.int (0 : Int32)), (.ref b590), (.ref b590), (.ref b587), (.ref b587)]))
    obtain ⟨c593, Ar593, q593, S593, Nn593, H593, G593⟩ := id f591
    have hin593 : ¬ ((0 : Int32) < 0 ∨ c593.slots.size ≤ ((0 : Int32)).toNatClampNeg) := inb_of S593 ⟨by decide, by decide⟩
    obtain ⟨T593, h593, X593, e593, W593, st593⟩ := stC X590 hx hZ e590 Ar593 (j := (0 : Int32)) hin593 (g := (mkF m 74 #[.val (.int (3 : Int32)), .val (.int p2), .val (.int p3), .val (.int p4), .val (.int p5)] [(.int p2), (.int (0 : Int32)), (.ref b590), (.ref b590), (.ref b587), (.ref b587)])) rfl rfl (hb hby d_method_3_74)
    refine oG.st st593 ?_
    have N593 := Fr.snoc X593 N0 (by omega)
    have Sf595 : Safe Z consts_1 s.vm h590 b590 := Safe.arv hZ.alike f591 (by decide)
    have z593 : h590.size ≤ h593.size := Nat.le_of_eq W593.size.symm
    have f594 := Arv.set Ar593 q593 S593 Nn593 H593 G593 (fits_nar_char _) W593 0 rfl (Nat.le_of_ble_eq_true rfl)
    rw [own_nar hr2] at f594
    have f596 : Arv Z h593 b590 k590 .char (3 : Int32) [(.int p2), (.int (0 : Int32)), (.int (0 : Int32))] (.int (0 : Int32)) := f594
    have R593 : CHr Z consts_1 s.vm h0 s.vm h593 := R590.trans (CHr.wr W593 Sf595 R590.1)
    have Sf597 : Safe Z consts_1 s.vm h593 b587 := Safe.wr W593 Sf595 R590.1 Sf592
    refine oG.st (fun _ k => XS.dup X593.here hx rfl (hb hby d_method_3_75) rfl rfl (XS.iconst X593.here hx rfl (hb hby d_method_3_76) (XS.iloadN X593.here hx rfl (hb hby d_method_3_77) rfl k))) ?_
    show oG _ _ _ _ (T593.setTop (mkF m 78 #[.val (.int (3 : Int32)), .val (.int p2), .val (.int p3), .val (.int p4), .val (.int p5)] [(.int p3), (.int (1 : Int32)), (.ref b590), (.ref b590), (.ref b587), (.ref b587)]))
    obtain ⟨c598, Ar598, q598, S598, Nn598, H598, G598⟩ := id f596
    have hin598 : ¬ ((1 : Int32) < 0 ∨ c598.slots.size ≤ ((1 : Int32)).toNatClampNeg) := inb_of S598 ⟨by decide, by decide⟩
    obtain ⟨T598, h598, X598, e598, W598, st598⟩ := stC X593 hx hZ e593 Ar598 (j := (1 : Int32)) hin598 (g := (mkF m 78 #[.val (.int (3 : Int32)), .val (.int p2), .val (.int p3), .val (.int p4), .val (.int p5)] [(.int p3), (.int (1 : Int32)), (.ref b590), (.ref b590), (.ref b587), (.ref b587)])) rfl rfl (hb hby d_method_3_78)
    refine oG.st st598 ?_
    have N598 := Fr.snoc X598 N593 (by omega)
    have Sf600 : Safe Z consts_1 s.vm h593 b590 := Safe.arv hZ.alike f596 (by decide)
    have z598 : h593.size ≤ h598.size := Nat.le_of_eq W598.size.symm
    have f599 := Arv.set Ar598 q598 S598 Nn598 H598 G598 (fits_nar_char _) W598 1 rfl (Nat.le_of_ble_eq_true rfl)
    rw [own_nar hr3] at f599
    have f601 : Arv Z h598 b590 k590 .char (3 : Int32) [(.int p2), (.int p3), (.int (0 : Int32))] (.int (0 : Int32)) := f599
    have R598 : CHr Z consts_1 s.vm h0 s.vm h598 := R593.trans (CHr.wr W598 Sf600 R593.1)
    have Sf602 : Safe Z consts_1 s.vm h598 b587 := Safe.wr W598 Sf600 R593.1 Sf597
    refine oG.st (fun _ k => XS.dup X598.here hx rfl (hb hby d_method_3_79) rfl rfl (XS.iconst X598.here hx rfl (hb hby d_method_3_80) (XS.iloadN X598.here hx rfl (hb hby d_method_3_81) rfl k))) ?_
    show oG _ _ _ _ (T598.setTop (mkF m 82 #[.val (.int (3 : Int32)), .val (.int p2), .val (.int p3), .val (.int p4), .val (.int p5)] [(.int p4), (.int (2 : Int32)), (.ref b590), (.ref b590), (.ref b587), (.ref b587)]))
    obtain ⟨c603, Ar603, q603, S603, Nn603, H603, G603⟩ := id f601
    have hin603 : ¬ ((2 : Int32) < 0 ∨ c603.slots.size ≤ ((2 : Int32)).toNatClampNeg) := inb_of S603 ⟨by decide, by decide⟩
    obtain ⟨T603, h603, X603, e603, W603, st603⟩ := stC X598 hx hZ e598 Ar603 (j := (2 : Int32)) hin603 (g := (mkF m 82 #[.val (.int (3 : Int32)), .val (.int p2), .val (.int p3), .val (.int p4), .val (.int p5)] [(.int p4), (.int (2 : Int32)), (.ref b590), (.ref b590), (.ref b587), (.ref b587)])) rfl rfl (hb hby d_method_3_82)
    refine oG.st st603 ?_
    have N603 := Fr.snoc X603 N598 (by omega)
    have Sf605 : Safe Z consts_1 s.vm h598 b590 := Safe.arv hZ.alike f601 (by decide)
    have z603 : h598.size ≤ h603.size := Nat.le_of_eq W603.size.symm
    have f604 := Arv.set Ar603 q603 S603 Nn603 H603 G603 (fits_nar_char _) W603 2 rfl (Nat.le_of_ble_eq_true rfl)
    rw [own_nar hr4] at f604
    have f606 : Arv Z h603 b590 k590 .char (3 : Int32) [(.int p2), (.int p3), (.int p4)] (.int (0 : Int32)) := f604
    have R603 : CHr Z consts_1 s.vm h0 s.vm h603 := R598.trans (CHr.wr W603 Sf605 R598.1)
    have Sf607 : Safe Z consts_1 s.vm h603 b587 := Safe.wr W603 Sf605 R598.1 Sf602
    show oG _ _ _ _ (T603.setTop (mkF m 83 #[.val (.int (3 : Int32)), .val (.int p2), .val (.int p3), .val (.int p4), .val (.int p5)] [(.ref b590), (.ref b587), (.ref b587)]))
    have f609 : Exa Z h590 b587 "java/lang/String" := A587.ext E590
    have f610 : Exa Z h593 b587 "java/lang/String" := f609.wr W593
    have f611 : Exa Z h598 b587 "java/lang/String" := f610.wr W598
    have f612 : Exa Z h603 b587 "java/lang/String" := f611.wr W603
    have f613 : Fld Z h590 b587 "java/lang/String" "value" "[B" .null := f588.ext E590
    have f614 : Fld Z h593 b587 "java/lang/String" "value" "[B" .null := f613.other W593 (Or.inl (by show @Ne Nat b587 b590; omega))
    have f615 : Fld Z h598 b587 "java/lang/String" "value" "[B" .null := f614.other W598 (Or.inl (by show @Ne Nat b587 b590; omega))
    have f616 : Fld Z h603 b587 "java/lang/String" "value" "[B" .null := f615.other W603 (Or.inl (by show @Ne Nat b587 b590; omega))
    have f617 : Fld Z h590 b587 "java/lang/String" "coder" "B" (.int (0 : Int32)) := f589.ext E590
    have f618 : Fld Z h593 b587 "java/lang/String" "coder" "B" (.int (0 : Int32)) := f617.other W593 (Or.inl (by show @Ne Nat b587 b590; omega))
    have f619 : Fld Z h598 b587 "java/lang/String" "coder" "B" (.int (0 : Int32)) := f618.other W598 (Or.inl (by show @Ne Nat b587 b590; omega))
    have f620 : Fld Z h603 b587 "java/lang/String" "coder" "B" (.int (0 : Int32)) := f619.other W603 (Or.inl (by show @Ne Nat b587 b590; omega))
    have f621 : Old Z Z.heap.size h587 := OL.ext E587
    have f622 : Old Z Z.heap.size h590 := f621.ext E590
    have f623 : Old Z Z.heap.size h593 := f622.wr W593 (by omega)
    have f624 : Old Z Z.heap.size h598 := f623.wr W598 (by omega)
    have f625 : Old Z Z.heap.size h603 := f624.wr W603 (by omega)
    obtain ⟨_, _, ⟨T608, L608, k608, n608⟩, -, X608, ⟨Lc608, hQ608, l608, y608, z608⟩, st608⟩ := X603.specialBack hx (y := mN6) rfl hown (own_v hZ hw 13 rfl) (own_v hZ hw 14 rfl) (own_v hZ hw 15 rfl) (by decide) (own_backStr (W := 1) (cs := [p2, p3, p4]) hZ hw f625 f612 f616 f620 f606 st_C st_A st_H st_L rfl (Nat.le_of_ble_eq_true rfl) (Nat.le_of_ble_eq_true rfl) (own_aS hr2 (own_aS hr3 (own_aS hr4 own_a0))) (by omega) (by first | assumption | decide) (by decide) (by decide)) (g := (mkF m 83 #[.val (.int (3 : Int32)), .val (.int p2), .val (.int p3), .val (.int p4), .val (.int p5)] [(.ref b590), (.ref b587), (.ref b587)])) rfl (by rw [hml]; rfl) (Steps.refl _) (a := b587) (argsL := [(.ref b590)]) (rest := [(.ref b587)]) (lenOf pd_627 rfl) rfl (by show 2 * 0 + _ ≤ _; exact Nat.le_of_eq rfl) (hb hby d_method_3_83) (fun _ _ => ⟨rfl, e603, (by decide : 2 + 2 ≤ _), (by decide : 7 + 12 ≤ _)⟩)
    dsimp only [Pt.U, Pt.locs, Pt.cells, Pt.slots] at X608 l608 y608 z608 st608 hQ608
    subst l608 y608 z608
    obtain ⟨t_608, rfl, N608q, K608, f608_0, pr608_0⟩ := hQ608
    have N608 := Fr.app N603 N608q
    have z608 : h603.size ≤ T608.heap.size := K608.1
    have R608 : CHr Z consts_1 s.vm h0 s.vm T608.heap := R603.trans (CHr.keep K608 (sfS Sf607 sf0) R603.1)
    have Sf626 : Safe Z consts_1 s.vm T608.heap b587 := Safe.keep K608 (sfS Sf607 sf0) R603.1 Sf607
    have lt608_0 : @LT.lt Nat _ b587 T608.heap.size := f608_0.lt
    have ltv608_0 : @LT.lt Nat _ t_608 T608.heap.size := f608_0.ltv
    refine oG.tr st608 ?_
    show oG _ _ _ _ (T608.setTop (mkF m 86 #[.val (.int (3 : Int32)), .val (.int p2), .val (.int p3), .val (.int p4), .val (.int p5)] [(.ref b587)]))
    obtain ⟨fs627, hr627, hrun627, hend627, hret627⟩ := X608.leaveW hS0 (by omega) (v := some (.ref b587)) (fun h => by rw [Bd.returns] at h; cases h)
    have K628 : Keep h0 h587 [] := (Keep.refl h0 []).ext E587
    have K629 : Keep h0 h590 [] := K628.ext E590
    have K630 : Keep h0 h593 [] := K629.wr W593 (Or.inr (by omega))
    have K631 : Keep h0 h598 [] := K630.wr W598 (Or.inr (by omega))
    have K632 : Keep h0 h603 [] := K631.wr W603 (Or.inr (by omega))
    have K633 : Keep h0 T608.heap [] := K632.trans K608 (allS (Or.inr (by omega)) all0)
    subst hPP
    refine ⟨_, _, own_retA X608 hx Bd.returns rfl rfl (hb hby d_method_3_86) hr627, hrun627, hend627, _, _, rfl, ?_, ?_, hret627.1, hret627.2.1, hret627.2.2.1, hret627.2.2.2.mono (by decide) (by decide)⟩
    · show Q_make Z _ _ _ _ _ _ h0 _ T608.heap _
      exact ⟨b587, t_608, rfl, N608, K633, f608_0⟩
    · have hfin := R608.trans (CHv.at X608 hZ hEL R608.1)
      rw [← hh] at hfin
      show CHr Z consts_1 s.vm s.heap T608.vm T608.heap
      exact hfin
  ·
    refine oG.st (fun _ k => XS.iloadN X0.here hx rfl (hb hby d_method_3_0) rfl k) ?_
    show oG _ _ _ _ (s₁.setTop (mkF m 1 #[.val (.int (4 : Int32)), .val (.int p2), .val (.int p3), .val (.int p4), .val (.int p5)] [(.int (4 : Int32))]))
    refine oG.st (fun _ k => XS.ifYes X0.here hx rfl (pc0 := 1) (pc' := 15) rfl (hb hby d_method_3_1) rfl ((if0 _ _).trans (feq (by decide : ¬ ((4 : Int32) = (0 : Int32)))).2) (by decide) (by decide) k) ?_
    refine oG.st (fun _ k => XS.iloadN X0.here hx rfl (hb hby d_method_3_15) rfl (XS.iconst X0.here hx rfl (hb hby d_method_3_16) k)) ?_
    show oG _ _ _ _ (s₁.setTop (mkF m 17 #[.val (.int (4 : Int32)), .val (.int p2), .val (.int p3), .val (.int p4), .val (.int p5)] [(.int (1 : Int32)), (.int (4 : Int32))]))
    refine oG.st (fun _ k => XS.icmpYes X0.here hx rfl (pc0 := 17) (pc' := 35) rfl (hb hby d_method_3_17) rfl (feq (by decide : ¬ ((4 : Int32) = (1 : Int32)))).2 (by decide) (by decide) k) ?_
    refine oG.st (fun _ k => XS.iloadN X0.here hx rfl (hb hby d_method_3_35) rfl (XS.iconst X0.here hx rfl (hb hby d_method_3_36) k)) ?_
    show oG _ _ _ _ (s₁.setTop (mkF m 37 #[.val (.int (4 : Int32)), .val (.int p2), .val (.int p3), .val (.int p4), .val (.int p5)] [(.int (2 : Int32)), (.int (4 : Int32))]))
    refine oG.st (fun _ k => XS.icmpYes X0.here hx rfl (pc0 := 37) (pc' := 59) rfl (hb hby d_method_3_37) rfl (feq (by decide : ¬ ((4 : Int32) = (2 : Int32)))).2 (by decide) (by decide) k) ?_
    refine oG.st (fun _ k => XS.iloadN X0.here hx rfl (hb hby d_method_3_59) rfl (XS.iconst X0.here hx rfl (hb hby d_method_3_60) k)) ?_
    show oG _ _ _ _ (s₁.setTop (mkF m 61 #[.val (.int (4 : Int32)), .val (.int p2), .val (.int p3), .val (.int p4), .val (.int p5)] [(.int (3 : Int32)), (.int (4 : Int32))]))
    refine oG.st (fun _ k => XS.icmpYes X0.here hx rfl (pc0 := 61) (pc' := 87) rfl (hb hby d_method_3_61) rfl (feq (by decide : ¬ ((4 : Int32) = (3 : Int32)))).2 (by decide) (by decide) k) ?_
    show oG _ _ _ _ (s₁.setTop (mkF m 87 #[.val (.int (4 : Int32)), .val (.int p2), .val (.int p3), .val (.int p4), .val (.int p5)] []))
    obtain ⟨T634, h634, X634, e634, E634, A634, D634, U634, st634⟩ := newO X0 hx hZ hown (own_w hw 9 rfl) (own_w hw 10 rfl) (own_w hw 11 rfl) e0 (g := (mkF m 87 #[.val (.int (4 : Int32)), .val (.int p2), .val (.int p3), .val (.int p4), .val (.int p5)] [])) rfl (hb hby d_method_3_87) (by decide) (by decide)
    obtain ⟨b634, g634⟩ : ∃ z, z = h0.size := ⟨_, rfl⟩
    rw [← g634] at A634 D634 U634 st634
    refine oG.st st634 ?_
    have z634 : h0.size ≤ h634.size := E634.1
    have lt_b634 : @LT.lt Nat _ b634 h634.size := A634.lt
    have f635 : Fld Z h634 b634 "java/lang/String" "value" "[B" .null := D634 (Or.inr (own_w hw 25 rfl)) (ty := (.array .byte)) (by decide)
    have f636 : Fld Z h634 b634 "java/lang/String" "coder" "B" (.int (0 : Int32)) := D634 (Or.inr (own_w hw 26 rfl)) (ty := .byte) (by decide)
    have R634 : CHr Z consts_1 s.vm h0 s.vm h634 := R0.trans (CHr.ext E634 R0.1)
    have Sf634 : Safe Z consts_1 s.vm h634 b634 := (Safe.new (Nat.le_of_eq g634.symm)).ext E634 R0.1
    refine oG.st (fun _ k => XS.dup X634.here hx rfl (hb hby d_method_3_90) rfl rfl (XS.iconst X634.here hx rfl (hb hby d_method_3_91) k)) ?_
    show oG _ _ _ _ (T634.setTop (mkF m 92 #[.val (.int (4 : Int32)), .val (.int p2), .val (.int p3), .val (.int p4), .val (.int p5)] [(.int (4 : Int32)), (.ref b634), (.ref b634)]))
    obtain ⟨T637, h637, k637, X637, e637, E637, A637, st637⟩ := newP X634 hx hZ (own_w hw 12 rfl) e634 (g := (mkF m 92 #[.val (.int (4 : Int32)), .val (.int p2), .val (.int p3), .val (.int p4), .val (.int p5)] [(.int (4 : Int32)), (.ref b634), (.ref b634)])) rfl (hb hby d_method_3_92) rfl (by decide) (cap := 4) (by decide) (by decide) (by decide) (by decide)
    obtain ⟨b637, g637⟩ : ∃ z, z = h634.size := ⟨_, rfl⟩
    rw [← g637] at A637 st637
    refine oG.st st637 ?_
    have z637 : h634.size ≤ h637.size := E637.1
    have f638 : Arv Z h637 b637 k637 .char (4 : Int32) [(.int (0 : Int32)), (.int (0 : Int32)), (.int (0 : Int32)), (.int (0 : Int32))] (.int (0 : Int32)) := (Arv.new A637 (by decide)).pad (pad_rep [] (.int (0 : Int32)) 4)
    have lt_b637 : @LT.lt Nat _ b637 h637.size := f638.lt
    have R637 : CHr Z consts_1 s.vm h0 s.vm h637 := R634.trans (CHr.ext E637 R634.1)
    have Sf639 : Safe Z consts_1 s.vm h637 b634 := Safe.ext E637 R634.1 Sf634
    refine oG.st (fun _ k => XS.dup X637.here hx rfl (hb hby d_method_3_94) rfl rfl (XS.iconst X637.here hx rfl (hb hby d_method_3_95) (XS.iloadN X637.here hx rfl (hb hby d_method_3_96) rfl k))) ?_
    show oG _ _ _ _ (T637.setTop (mkF m 97 #[.val (.int (4 : Int32)), .val (.int p2), .val (.int p3), .val (.int p4), .val (.int p5)] [(.int p2), (.int (0 : Int32)), (.ref b637), (.ref b637), (.ref b634), (.ref b634)]))
    obtain ⟨c640, Ar640, q640, S640, Nn640, H640, G640⟩ := id f638
    have hin640 : ¬ ((0 : Int32) < 0 ∨ c640.slots.size ≤ ((0 : Int32)).toNatClampNeg) := inb_of S640 ⟨by decide, by decide⟩
    obtain ⟨T640, h640, X640, e640, W640, st640⟩ := stC X637 hx hZ e637 Ar640 (j := (0 : Int32)) hin640 (g := (mkF m 97 #[.val (.int (4 : Int32)), .val (.int p2), .val (.int p3), .val (.int p4), .val (.int p5)] [(.int p2), (.int (0 : Int32)), (.ref b637), (.ref b637), (.ref b634), (.ref b634)])) rfl rfl (hb hby d_method_3_97)
    refine oG.st st640 ?_
    have N640 := Fr.snoc X640 N0 (by omega)
    have Sf642 : Safe Z consts_1 s.vm h637 b637 := Safe.arv hZ.alike f638 (by decide)
    have z640 : h637.size ≤ h640.size := Nat.le_of_eq W640.size.symm
    have f641 := Arv.set Ar640 q640 S640 Nn640 H640 G640 (fits_nar_char _) W640 0 rfl (Nat.le_of_ble_eq_true rfl)
    rw [own_nar hr2] at f641
    have f643 : Arv Z h640 b637 k637 .char (4 : Int32) [(.int p2), (.int (0 : Int32)), (.int (0 : Int32)), (.int (0 : Int32))] (.int (0 : Int32)) := f641
    have R640 : CHr Z consts_1 s.vm h0 s.vm h640 := R637.trans (CHr.wr W640 Sf642 R637.1)
    have Sf644 : Safe Z consts_1 s.vm h640 b634 := Safe.wr W640 Sf642 R637.1 Sf639
    refine oG.st (fun _ k => XS.dup X640.here hx rfl (hb hby d_method_3_98) rfl rfl (XS.iconst X640.here hx rfl (hb hby d_method_3_99) (XS.iloadN X640.here hx rfl (hb hby d_method_3_100) rfl k))) ?_
    show oG _ _ _ _ (T640.setTop (mkF m 101 #[.val (.int (4 : Int32)), .val (.int p2), .val (.int p3), .val (.int p4), .val (.int p5)] [(.int p3), (.int (1 : Int32)), (.ref b637), (.ref b637), (.ref b634), (.ref b634)]))
    obtain ⟨c645, Ar645, q645, S645, Nn645, H645, G645⟩ := id f643
    have hin645 : ¬ ((1 : Int32) < 0 ∨ c645.slots.size ≤ ((1 : Int32)).toNatClampNeg) := inb_of S645 ⟨by decide, by decide⟩
    obtain ⟨T645, h645, X645, e645, W645, st645⟩ := stC X640 hx hZ e640 Ar645 (j := (1 : Int32)) hin645 (g := (mkF m 101 #[.val (.int (4 : Int32)), .val (.int p2), .val (.int p3), .val (.int p4), .val (.int p5)] [(.int p3), (.int (1 : Int32)), (.ref b637), (.ref b637), (.ref b634), (.ref b634)])) rfl rfl (hb hby d_method_3_101)
    refine oG.st st645 ?_
    have N645 := Fr.snoc X645 N640 (by omega)
    have Sf647 : Safe Z consts_1 s.vm h640 b637 := Safe.arv hZ.alike f643 (by decide)
    have z645 : h640.size ≤ h645.size := Nat.le_of_eq W645.size.symm
    have f646 := Arv.set Ar645 q645 S645 Nn645 H645 G645 (fits_nar_char _) W645 1 rfl (Nat.le_of_ble_eq_true rfl)
    rw [own_nar hr3] at f646
    have f648 : Arv Z h645 b637 k637 .char (4 : Int32) [(.int p2), (.int p3), (.int (0 : Int32)), (.int (0 : Int32))] (.int (0 : Int32)) := f646
    have R645 : CHr Z consts_1 s.vm h0 s.vm h645 := R640.trans (CHr.wr W645 Sf647 R640.1)
    have Sf649 : Safe Z consts_1 s.vm h645 b634 := Safe.wr W645 Sf647 R640.1 Sf644
    refine oG.st (fun _ k => XS.dup X645.here hx rfl (hb hby d_method_3_102) rfl rfl (XS.iconst X645.here hx rfl (hb hby d_method_3_103) (XS.iloadN X645.here hx rfl (hb hby d_method_3_104) rfl k))) ?_
    show oG _ _ _ _ (T645.setTop (mkF m 105 #[.val (.int (4 : Int32)), .val (.int p2), .val (.int p3), .val (.int p4), .val (.int p5)] [(.int p4), (.int (2 : Int32)), (.ref b637), (.ref b637), (.ref b634), (.ref b634)]))
    obtain ⟨c650, Ar650, q650, S650, Nn650, H650, G650⟩ := id f648
    have hin650 : ¬ ((2 : Int32) < 0 ∨ c650.slots.size ≤ ((2 : Int32)).toNatClampNeg) := inb_of S650 ⟨by decide, by decide⟩
    obtain ⟨T650, h650, X650, e650, W650, st650⟩ := stC X645 hx hZ e645 Ar650 (j := (2 : Int32)) hin650 (g := (mkF m 105 #[.val (.int (4 : Int32)), .val (.int p2), .val (.int p3), .val (.int p4), .val (.int p5)] [(.int p4), (.int (2 : Int32)), (.ref b637), (.ref b637), (.ref b634), (.ref b634)])) rfl rfl (hb hby d_method_3_105)
    refine oG.st st650 ?_
    have N650 := Fr.snoc X650 N645 (by omega)
    have Sf652 : Safe Z consts_1 s.vm h645 b637 := Safe.arv hZ.alike f648 (by decide)
    have z650 : h645.size ≤ h650.size := Nat.le_of_eq W650.size.symm
    have f651 := Arv.set Ar650 q650 S650 Nn650 H650 G650 (fits_nar_char _) W650 2 rfl (Nat.le_of_ble_eq_true rfl)
    rw [own_nar hr4] at f651
    have f653 : Arv Z h650 b637 k637 .char (4 : Int32) [(.int p2), (.int p3), (.int p4), (.int (0 : Int32))] (.int (0 : Int32)) := f651
    have R650 : CHr Z consts_1 s.vm h0 s.vm h650 := R645.trans (CHr.wr W650 Sf652 R645.1)
    have Sf654 : Safe Z consts_1 s.vm h650 b634 := Safe.wr W650 Sf652 R645.1 Sf649
    refine oG.st (fun _ k => XS.dup X650.here hx rfl (hb hby d_method_3_106) rfl rfl (XS.iconst X650.here hx rfl (hb hby d_method_3_107) (XS.iload X650.here hx rfl (hb hby d_method_3_108) rfl k))) ?_
    show oG _ _ _ _ (T650.setTop (mkF m 110 #[.val (.int (4 : Int32)), .val (.int p2), .val (.int p3), .val (.int p4), .val (.int p5)] [(.int p5), (.int (3 : Int32)), (.ref b637), (.ref b637), (.ref b634), (.ref b634)]))
    obtain ⟨c655, Ar655, q655, S655, Nn655, H655, G655⟩ := id f653
    have hin655 : ¬ ((3 : Int32) < 0 ∨ c655.slots.size ≤ ((3 : Int32)).toNatClampNeg) := inb_of S655 ⟨by decide, by decide⟩
    obtain ⟨T655, h655, X655, e655, W655, st655⟩ := stC X650 hx hZ e650 Ar655 (j := (3 : Int32)) hin655 (g := (mkF m 110 #[.val (.int (4 : Int32)), .val (.int p2), .val (.int p3), .val (.int p4), .val (.int p5)] [(.int p5), (.int (3 : Int32)), (.ref b637), (.ref b637), (.ref b634), (.ref b634)])) rfl rfl (hb hby d_method_3_110)
    refine oG.st st655 ?_
    have N655 := Fr.snoc X655 N650 (by omega)
    have Sf657 : Safe Z consts_1 s.vm h650 b637 := Safe.arv hZ.alike f653 (by decide)
    have z655 : h650.size ≤ h655.size := Nat.le_of_eq W655.size.symm
    have f656 := Arv.set Ar655 q655 S655 Nn655 H655 G655 (fits_nar_char _) W655 3 rfl (Nat.le_of_ble_eq_true rfl)
    rw [own_nar hr5] at f656
    have f658 : Arv Z h655 b637 k637 .char (4 : Int32) [(.int p2), (.int p3), (.int p4), (.int p5)] (.int (0 : Int32)) := f656
    have R655 : CHr Z consts_1 s.vm h0 s.vm h655 := R650.trans (CHr.wr W655 Sf657 R650.1)
    have Sf659 : Safe Z consts_1 s.vm h655 b634 := Safe.wr W655 Sf657 R650.1 Sf654
    show oG _ _ _ _ (T655.setTop (mkF m 111 #[.val (.int (4 : Int32)), .val (.int p2), .val (.int p3), .val (.int p4), .val (.int p5)] [(.ref b637), (.ref b634), (.ref b634)]))
    have f661 : Exa Z h637 b634 "java/lang/String" := A634.ext E637
    have f662 : Exa Z h640 b634 "java/lang/String" := f661.wr W640
    have f663 : Exa Z h645 b634 "java/lang/String" := f662.wr W645
    have f664 : Exa Z h650 b634 "java/lang/String" := f663.wr W650
    have f665 : Exa Z h655 b634 "java/lang/String" := f664.wr W655
    have f666 : Fld Z h637 b634 "java/lang/String" "value" "[B" .null := f635.ext E637
    have f667 : Fld Z h640 b634 "java/lang/String" "value" "[B" .null := f666.other W640 (Or.inl (by show @Ne Nat b634 b637; omega))
    have f668 : Fld Z h645 b634 "java/lang/String" "value" "[B" .null := f667.other W645 (Or.inl (by show @Ne Nat b634 b637; omega))
    have f669 : Fld Z h650 b634 "java/lang/String" "value" "[B" .null := f668.other W650 (Or.inl (by show @Ne Nat b634 b637; omega))
    have f670 : Fld Z h655 b634 "java/lang/String" "value" "[B" .null := f669.other W655 (Or.inl (by show @Ne Nat b634 b637; omega))
    have f671 : Fld Z h637 b634 "java/lang/String" "coder" "B" (.int (0 : Int32)) := f636.ext E637
    have f672 : Fld Z h640 b634 "java/lang/String" "coder" "B" (.int (0 : Int32)) := f671.other W640 (Or.inl (by show @Ne Nat b634 b637; omega))
    have f673 : Fld Z h645 b634 "java/lang/String" "coder" "B" (.int (0 : Int32)) := f672.other W645 (Or.inl (by show @Ne Nat b634 b637; omega))
    have f674 : Fld Z h650 b634 "java/lang/String" "coder" "B" (.int (0 : Int32)) := f673.other W650 (Or.inl (by show @Ne Nat b634 b637; omega))
    have f675 : Fld Z h655 b634 "java/lang/String" "coder" "B" (.int (0 : Int32)) := f674.other W655 (Or.inl (by show @Ne Nat b634 b637; omega))
    have f676 : Old Z Z.heap.size h634 := OL.ext E634
    have f677 : Old Z Z.heap.size h637 := f676.ext E637
    have f678 : Old Z Z.heap.size h640 := f677.wr W640 (by omega)
    have f679 : Old Z Z.heap.size h645 := f678.wr W645 (by omega)
    have f680 : Old Z Z.heap.size h650 := f679.wr W650 (by omega)
    have f681 : Old Z Z.heap.size h655 := f680.wr W655 (by omega)
    obtain ⟨_, _, ⟨T660, L660, k660, n660⟩, -, X660, ⟨Lc660, hQ660, l660, y660, z660⟩, st660⟩ := X655.specialBack hx (y := mN6) rfl hown (own_v hZ hw 13 rfl) (own_v hZ hw 14 rfl) (own_v hZ hw 15 rfl) (by decide) (own_backStr (W := 1) (cs := [p2, p3, p4, p5]) hZ hw f681 f665 f670 f675 f658 st_C st_A st_H st_L rfl (Nat.le_of_ble_eq_true rfl) (Nat.le_of_ble_eq_true rfl) (own_aS hr2 (own_aS hr3 (own_aS hr4 (own_aS hr5 own_a0)))) (by omega) (by first | assumption | decide) (by decide) (by decide)) (g := (mkF m 111 #[.val (.int (4 : Int32)), .val (.int p2), .val (.int p3), .val (.int p4), .val (.int p5)] [(.ref b637), (.ref b634), (.ref b634)])) rfl (by rw [hml]; rfl) (Steps.refl _) (a := b634) (argsL := [(.ref b637)]) (rest := [(.ref b634)]) (lenOf pd_627 rfl) rfl (by show 2 * 0 + _ ≤ _; exact Nat.le_of_eq rfl) (hb hby d_method_3_111) (fun _ _ => ⟨rfl, e655, (by decide : 2 + 2 ≤ _), (by decide : 8 + 12 ≤ _)⟩)
    dsimp only [Pt.U, Pt.locs, Pt.cells, Pt.slots] at X660 l660 y660 z660 st660 hQ660
    subst l660 y660 z660
    obtain ⟨t_660, rfl, N660q, K660, f660_0, pr660_0⟩ := hQ660
    have N660 := Fr.app N655 N660q
    have z660 : h655.size ≤ T660.heap.size := K660.1
    have R660 : CHr Z consts_1 s.vm h0 s.vm T660.heap := R655.trans (CHr.keep K660 (sfS Sf659 sf0) R655.1)
    have Sf682 : Safe Z consts_1 s.vm T660.heap b634 := Safe.keep K660 (sfS Sf659 sf0) R655.1 Sf659
    have lt660_0 : @LT.lt Nat _ b634 T660.heap.size := f660_0.lt
    have ltv660_0 : @LT.lt Nat _ t_660 T660.heap.size := f660_0.ltv
    refine oG.tr st660 ?_
    show oG _ _ _ _ (T660.setTop (mkF m 114 #[.val (.int (4 : Int32)), .val (.int p2), .val (.int p3), .val (.int p4), .val (.int p5)] [(.ref b634)]))
    obtain ⟨fs683, hr683, hrun683, hend683, hret683⟩ := X660.leaveW hS0 (by omega) (v := some (.ref b634)) (fun h => by rw [Bd.returns] at h; cases h)
    have K684 : Keep h0 h634 [] := (Keep.refl h0 []).ext E634
    have K685 : Keep h0 h637 [] := K684.ext E637
    have K686 : Keep h0 h640 [] := K685.wr W640 (Or.inr (by omega))
    have K687 : Keep h0 h645 [] := K686.wr W645 (Or.inr (by omega))
    have K688 : Keep h0 h650 [] := K687.wr W650 (Or.inr (by omega))
    have K689 : Keep h0 h655 [] := K688.wr W655 (Or.inr (by omega))
    have K690 : Keep h0 T660.heap [] := K689.trans K660 (allS (Or.inr (by omega)) all0)
    subst hPP
    refine ⟨_, _, own_retA X660 hx Bd.returns rfl rfl (hb hby d_method_3_114) hr683, hrun683, hend683, _, _, rfl, ?_, ?_, hret683.1, hret683.2.1, hret683.2.2.1, hret683.2.2.2.mono (by decide) (by decide)⟩
    · show Q_make Z _ _ _ _ _ _ h0 _ T660.heap _
      exact ⟨b634, t_660, rfl, N660, K690, f660_0⟩
    · have hfin := R660.trans (CHv.at X660 hZ hEL R660.1)
      rw [← hh] at hfin
      show CHr Z consts_1 s.vm s.heap T660.vm T660.heap
      exact hfin
theorem ef_703 (m : MethodId) (x0 : Int32) (x1 : Int32) (x2 : Int32) (x3 : Int32) (x4 : Int32) : entryFrame m #[(.int x0), (.int x1), (.int x2), (.int x3), (.int x4)] maxLocals = mkF m 0 #[.val (.int x0), .val (.int x1), .val (.int x2), .val (.int x3), .val (.int x4), .unset, .unset, .unset, .unset, .unset, .unset, .unset, .unset, .unset] [] := by first | (simp [entryFrame, mkF, argsToLocals, Value.category, maxLocals]; done) | rfl
theorem pd_704 : parseMethodDescriptor "(I)C" = some ⟨[.int], some .char⟩ := by decide +kernel
theorem pd_705 : parseMethodDescriptor "(ICCCC)Ljava/lang/String;" = some ⟨[.int, .char, .char, .char, .char], some (.object "java/lang/String")⟩ := by decide +kernel
theorem pd_706 : parseMethodDescriptor "(Ljava/lang/String;)Ljava/lang/String;" = some ⟨[(.object "java/lang/String")], some (.object "java/lang/String")⟩ := by decide +kernel
def Q_law (Z : State) (p1 : Int32) (p2 : Int32) (p3 : Int32) (p4 : Int32) (p5 : Int32) (zc : Int32) (fm : Value) (h0 : Heap) (v : Option Value) (h : Heap) (L : List Loc) : Prop := v = some (.int (1 : Int32)) ∧ Fr Z.heap.size L ∧ Keep h0 h []
set_option maxRecDepth 65536 in
set_option maxHeartbeats 40000000 in
theorem rm_law (l : Launch) (Z : State) (a0 : Array Value) (hw : ∀ d ∈ tables_1, d.before a0 Z = true) (ws : List Jvm.Cond) (p1 : Int32) (p2 : Int32) (p3 : Int32) (p4 : Int32) (p5 : Int32) (zc : Int32) (fm : Value) (h0 : Heap) (hEL : EW Z a0 consts_1) (OL : Old Z Z.heap.size h0) (st_C : Sta Z Z.heap "java/lang/String" "COMPACT_STRINGS" "Z" (.int zc)) (st_SIOOBE_FORMATTER : Sta Z Z.heap "jdk/internal/util/Preconditions" "SIOOBE_FORMATTER" "Ljava/util/function/BiFunction;" fm) (st_A : Sta Z Z.heap "java/lang/StringUTF16" "$assertionsDisabled" "Z" (.int (1 : Int32))) (st_H : Sta Z Z.heap "java/lang/StringUTF16" "HI_BYTE_SHIFT" "I" (.int (0 : Int32))) (st_L : Sta Z Z.heap "java/lang/StringUTF16" "LO_BYTE_SHIFT" "I" (.int (8 : Int32))) (hzc : ¬ zc = 0) (hfm : fm.isRef = true) :
    MetFree l x (head1 (Jvm.Cond.code x code maxLocals ret :: ws) room_1) (fun a U => a = #[(.int p1), (.int p2), (.int p3), (.int p4), (.int p5)] ∧ Z.Warmed39 U.vm ∧ U.heap = h0 ∧ CHv Z consts_1 U.vm h0) (fun _ _ _ _ _ => True) (fun _ U o U' => ∃ v L, o = .returned v ∧ Q_law Z p1 p2 p3 p4 p5 zc fm h0 v U'.heap L ∧ CHr Z consts_1 U.vm U.heap U'.vm U'.heap ∧ ReturnedEndW U o U' L 32 3264) := by
  refine MetFree.of_bodySF (plainFor_of_name pn_606) hisR ?_
  intro p e s m args below meth c s₁ Bd hml0 hP hK
  obtain ⟨rfl, hZ, hh, hC0⟩ := hP
  have hx := Bd.exec
  have hby := Bd.bytes
  have hml : c.maxLocals = 14 := hml0
  have hown : s.vm.findClass "com/example/keep_to_layer/keeptolayer/model/ClassNamesPackageOfPinLaw" = some m.cls := findClass_of_methodNamed Bd.named
  have hnm := (name_of_methodNamed Bd.named Bd.method).1
  have X0 : Stand p l e room_1 (s.setVm s.vm) m #[(.int p1), (.int p2), (.int p3), (.int p4), (.int p5)] below meth c s₁ [] 0 0 := Stand.of_body Bd
  have e0 : s₁.heap = h0 := by rw [← hh, Bd.state]; rfl
  have N0 := Fr.nil Z.heap.size
  have Z0 : Z.heap.size ≤ h0.size := OL.2.1
  have hS0 : s.Since s.vm h0.size := (State.WarmedH.refl s).since _
  have wS := own_wS hw
  have R0 : CHr Z consts_1 s.vm h0 s.vm h0 := CHr.refl hC0
  show oG p.tables e below (fun o tE => ∃ v L, o = .returned v ∧ Q_law Z p1 p2 p3 p4 p5 zc fm h0 v tE.heap L ∧ CHr Z consts_1 s.vm s.heap tE.vm tE.heap ∧ ReturnedEndW s o tE L 32 3264) (s₁.setTop (entryFrame m #[(.int p1), (.int p2), (.int p3), (.int p4), (.int p5)] maxLocals))
  refine own_hd (fun PP hPP => ?_)
  refine oG.st (fun t k => castTop (ef_703 m p1 p2 p3 p4 p5) k) ?_
  refine oG.st (fun _ k => XS.iloadN X0.here hx rfl (hb hby at_0) rfl k) ?_
  show oG _ _ _ _ (s₁.setTop (mkF m 1 #[.val (.int p1), .val (.int p2), .val (.int p3), .val (.int p4), .val (.int p5), .unset, .unset, .unset, .unset, .unset, .unset, .unset, .unset, .unset] [(.int p1)]))
  obtain ⟨_, _, ⟨T691, L691, k691, n691⟩, -, X691, ⟨Lc691, hQ691, l691, y691, z691⟩, st691⟩ := Jvm.LawKit.callS X0 hx (y := mN1) hown (own_v hZ hw 0 rfl) (own_v hZ hw 1 rfl) (own_v hZ hw 2 rfl) (own_v hZ hw 3 rfl) (by decide) (backOf (W := 0) (rm_ch l Z a0 hw [] p1 h0 OL ) hZ (own_w hw 3 rfl) (own_w hw 2 rfl) (by decide) (by decide)) (g := (mkF m 1 #[.val (.int p1), .val (.int p2), .val (.int p3), .val (.int p4), .val (.int p5), .unset, .unset, .unset, .unset, .unset, .unset, .unset, .unset, .unset] [(.int p1)])) rfl (by rw [hml]; rfl) (argsL := [(.int p1)]) (rest := []) (lenOf pd_704 rfl) rfl (by show 2 * 0 + _ ≤ _; exact Nat.le_of_eq rfl) (hb hby at_1) (fun _ _ => ⟨rfl, e0, (by decide : 0 + 0 ≤ _), (by decide : 0 + 0 ≤ _)⟩)
  dsimp only [Pt.U, Pt.locs, Pt.cells, Pt.slots] at X691 l691 y691 z691 st691 hQ691
  subst l691 y691 z691
  obtain ⟨c_691, rfl, N691q, K691, pr691_0⟩ := hQ691
  have N691 := Fr.app N0 N691q
  refine oG.st st691 ?_
  refine oG.st (fun _ k => XS.istore X691.here hx rfl (hb hby at_4) rfl (l' := #[.val (.int p1), .val (.int p2), .val (.int p3), .val (.int p4), .val (.int p5), .val (.int c_691), .unset, .unset, .unset, .unset, .unset, .unset, .unset, .unset]) rfl (XS.iloadN X691.here hx rfl (hb hby at_6) rfl k)) ?_
  show oG _ _ _ _ (T691.setTop (mkF m 7 #[.val (.int p1), .val (.int p2), .val (.int p3), .val (.int p4), .val (.int p5), .val (.int c_691), .unset, .unset, .unset, .unset, .unset, .unset, .unset, .unset] [(.int p2)]))
  obtain ⟨_, _, ⟨T692, L692, k692, n692⟩, -, X692, ⟨Lc692, hQ692, l692, y692, z692⟩, st692⟩ := Jvm.LawKit.callS X691 hx (y := mN1) hown (own_v hZ hw 0 rfl) (own_v hZ hw 1 rfl) (own_v hZ hw 2 rfl) (own_v hZ hw 3 rfl) (by decide) (backOf (W := 0) (rm_ch l Z a0 hw [] p2 h0 OL ) hZ (own_w hw 3 rfl) (own_w hw 2 rfl) (by decide) (by decide)) (g := (mkF m 7 #[.val (.int p1), .val (.int p2), .val (.int p3), .val (.int p4), .val (.int p5), .val (.int c_691), .unset, .unset, .unset, .unset, .unset, .unset, .unset, .unset] [(.int p2)])) rfl (by rw [hml]; rfl) (argsL := [(.int p2)]) (rest := []) (lenOf pd_704 rfl) rfl (by show 2 * 0 + _ ≤ _; exact Nat.le_of_eq rfl) (hb hby at_7) (fun _ _ => ⟨rfl, K691, (by decide : 0 + 0 ≤ _), (by decide : 0 + 0 ≤ _)⟩)
  dsimp only [Pt.U, Pt.locs, Pt.cells, Pt.slots] at X692 l692 y692 z692 st692 hQ692
  subst l692 y692 z692
  obtain ⟨c_692, rfl, N692q, K692, pr692_0⟩ := hQ692
  have N692 := Fr.app N691 N692q
  refine oG.st st692 ?_
  refine oG.st (fun _ k => XS.istore X692.here hx rfl (hb hby at_10) rfl (l' := #[.val (.int p1), .val (.int p2), .val (.int p3), .val (.int p4), .val (.int p5), .val (.int c_691), .val (.int c_692), .unset, .unset, .unset, .unset, .unset, .unset, .unset]) rfl (XS.iloadN X692.here hx rfl (hb hby at_12) rfl k)) ?_
  show oG _ _ _ _ (T692.setTop (mkF m 13 #[.val (.int p1), .val (.int p2), .val (.int p3), .val (.int p4), .val (.int p5), .val (.int c_691), .val (.int c_692), .unset, .unset, .unset, .unset, .unset, .unset, .unset] [(.int p3)]))
  obtain ⟨_, _, ⟨T693, L693, k693, n693⟩, -, X693, ⟨Lc693, hQ693, l693, y693, z693⟩, st693⟩ := Jvm.LawKit.callS X692 hx (y := mN1) hown (own_v hZ hw 0 rfl) (own_v hZ hw 1 rfl) (own_v hZ hw 2 rfl) (own_v hZ hw 3 rfl) (by decide) (backOf (W := 0) (rm_ch l Z a0 hw [] p3 h0 OL ) hZ (own_w hw 3 rfl) (own_w hw 2 rfl) (by decide) (by decide)) (g := (mkF m 13 #[.val (.int p1), .val (.int p2), .val (.int p3), .val (.int p4), .val (.int p5), .val (.int c_691), .val (.int c_692), .unset, .unset, .unset, .unset, .unset, .unset, .unset] [(.int p3)])) rfl (by rw [hml]; rfl) (argsL := [(.int p3)]) (rest := []) (lenOf pd_704 rfl) rfl (by show 2 * 0 + _ ≤ _; exact Nat.le_of_eq rfl) (hb hby at_13) (fun _ _ => ⟨rfl, K692, (by decide : 0 + 0 ≤ _), (by decide : 0 + 0 ≤ _)⟩)
  dsimp only [Pt.U, Pt.locs, Pt.cells, Pt.slots] at X693 l693 y693 z693 st693 hQ693
  subst l693 y693 z693
  obtain ⟨c_693, rfl, N693q, K693, pr693_0⟩ := hQ693
  have N693 := Fr.app N692 N693q
  refine oG.st st693 ?_
  refine oG.st (fun _ k => XS.istore X693.here hx rfl (hb hby at_16) rfl (l' := #[.val (.int p1), .val (.int p2), .val (.int p3), .val (.int p4), .val (.int p5), .val (.int c_691), .val (.int c_692), .val (.int c_693), .unset, .unset, .unset, .unset, .unset, .unset]) rfl (XS.iloadN X693.here hx rfl (hb hby at_18) rfl k)) ?_
  show oG _ _ _ _ (T693.setTop (mkF m 19 #[.val (.int p1), .val (.int p2), .val (.int p3), .val (.int p4), .val (.int p5), .val (.int c_691), .val (.int c_692), .val (.int c_693), .unset, .unset, .unset, .unset, .unset, .unset] [(.int p4)]))
  obtain ⟨_, _, ⟨T694, L694, k694, n694⟩, -, X694, ⟨Lc694, hQ694, l694, y694, z694⟩, st694⟩ := Jvm.LawKit.callS X693 hx (y := mN1) hown (own_v hZ hw 0 rfl) (own_v hZ hw 1 rfl) (own_v hZ hw 2 rfl) (own_v hZ hw 3 rfl) (by decide) (backOf (W := 0) (rm_ch l Z a0 hw [] p4 h0 OL ) hZ (own_w hw 3 rfl) (own_w hw 2 rfl) (by decide) (by decide)) (g := (mkF m 19 #[.val (.int p1), .val (.int p2), .val (.int p3), .val (.int p4), .val (.int p5), .val (.int c_691), .val (.int c_692), .val (.int c_693), .unset, .unset, .unset, .unset, .unset, .unset] [(.int p4)])) rfl (by rw [hml]; rfl) (argsL := [(.int p4)]) (rest := []) (lenOf pd_704 rfl) rfl (by show 2 * 0 + _ ≤ _; exact Nat.le_of_eq rfl) (hb hby at_19) (fun _ _ => ⟨rfl, K693, (by decide : 0 + 0 ≤ _), (by decide : 0 + 0 ≤ _)⟩)
  dsimp only [Pt.U, Pt.locs, Pt.cells, Pt.slots] at X694 l694 y694 z694 st694 hQ694
  subst l694 y694 z694
  obtain ⟨c_694, rfl, N694q, K694, pr694_0⟩ := hQ694
  have N694 := Fr.app N693 N694q
  refine oG.st st694 ?_
  refine oG.st (fun _ k => XS.istore X694.here hx rfl (hb hby at_22) rfl (l' := #[.val (.int p1), .val (.int p2), .val (.int p3), .val (.int p4), .val (.int p5), .val (.int c_691), .val (.int c_692), .val (.int c_693), .val (.int c_694), .unset, .unset, .unset, .unset, .unset]) rfl (XS.iload X694.here hx rfl (hb hby at_24) rfl k)) ?_
  show oG _ _ _ _ (T694.setTop (mkF m 26 #[.val (.int p1), .val (.int p2), .val (.int p3), .val (.int p4), .val (.int p5), .val (.int c_691), .val (.int c_692), .val (.int c_693), .val (.int c_694), .unset, .unset, .unset, .unset, .unset] [(.int p5)]))
  refine oG.st (X694.ldcInt hx hown (own_v hZ hw 5 rfl) (g := (mkF m 26 #[.val (.int p1), .val (.int p2), .val (.int p3), .val (.int p4), .val (.int p5), .val (.int c_691), .val (.int c_692), .val (.int c_693), .val (.int c_694), .unset, .unset, .unset, .unset, .unset] [(.int p5)])) rfl (hb hby at_26)) ?_
  refine oG.st (fun _ k => XS.iand X694.here hx rfl (hb hby at_28) rfl (XS.iconst X694.here hx rfl (hb hby at_29) k)) ?_
  show oG _ _ _ _ (T694.setTop (mkF m 30 #[.val (.int p1), .val (.int p2), .val (.int p3), .val (.int p4), .val (.int p5), .val (.int c_691), .val (.int c_692), .val (.int c_693), .val (.int c_694), .unset, .unset, .unset, .unset, .unset] [(.int (5 : Int32)), (.int (p5 &&& (2147483647 : Int32)))]))
  refine oG.st (fun _ k => iremM (g := (mkF m 30 #[.val (.int p1), .val (.int p2), .val (.int p3), .val (.int p4), .val (.int p5), .val (.int c_691), .val (.int c_692), .val (.int c_693), .val (.int c_694), .unset, .unset, .unset, .unset, .unset] [(.int (5 : Int32)), (.int (p5 &&& (2147483647 : Int32)))])) X694 hx rfl (hb hby at_30) rfl (by decide) k) ?_
  refine oG.st (fun _ k => XS.istore X694.here hx rfl (hb hby at_31) rfl (l' := #[.val (.int p1), .val (.int p2), .val (.int p3), .val (.int p4), .val (.int p5), .val (.int c_691), .val (.int c_692), .val (.int c_693), .val (.int c_694), .val (.int ((p5 &&& (2147483647 : Int32)) % (5 : Int32))), .unset, .unset, .unset, .unset]) rfl k) ?_
  show oG _ _ _ _ (T694.setTop (mkF m 33 #[.val (.int p1), .val (.int p2), .val (.int p3), .val (.int p4), .val (.int p5), .val (.int c_691), .val (.int c_692), .val (.int c_693), .val (.int c_694), .val (.int ((p5 &&& (2147483647 : Int32)) % (5 : Int32))), .unset, .unset, .unset, .unset] []))
  obtain ⟨kk, hk4, hkk⟩ := own_n5 p5
  rw [hkk]
  refine oG.st (fun _ k => XS.iload X694.here hx rfl (hb hby at_33) rfl (XS.iload X694.here hx rfl (hb hby at_35) rfl (XS.iload X694.here hx rfl (hb hby at_37) rfl (XS.iload X694.here hx rfl (hb hby at_39) rfl (XS.iload X694.here hx rfl (hb hby at_41) rfl k))))) ?_
  show oG _ _ _ _ (T694.setTop (mkF m 43 #[.val (.int p1), .val (.int p2), .val (.int p3), .val (.int p4), .val (.int p5), .val (.int c_691), .val (.int c_692), .val (.int c_693), .val (.int c_694), .val (.int (Int32.ofNat kk)), .unset, .unset, .unset, .unset] [(.int c_694), (.int c_693), (.int c_692), (.int c_691), (.int (Int32.ofNat kk))]))
  obtain ⟨_, _, ⟨T695, L695, k695, n695⟩, -, X695, hs695, hg695, ⟨Lc695, hQ695, l695, y695, z695, ch695⟩, st695⟩ := callSS X694 hx (y := mN2) hown (own_v hZ hw 6 rfl) (own_v hZ hw 7 rfl) (own_v hZ hw 2 rfl) (own_v hZ hw 8 rfl) (by decide) (backOfSH (s := s) (vm0 := s.vm) (W := 0) (rm_make l Z a0 hw [] (Int32.ofNat kk) c_691 c_692 c_693 c_694 zc h0 hEL OL st_C st_A st_H st_L hzc (own_k5 hk4) pr691_0 pr692_0 pr693_0 pr694_0) hZ (own_w hw 8 rfl) (own_w hw 2 rfl) (by decide) (by decide) hEL R0.1) (g := (mkF m 43 #[.val (.int p1), .val (.int p2), .val (.int p3), .val (.int p4), .val (.int p5), .val (.int c_691), .val (.int c_692), .val (.int c_693), .val (.int c_694), .val (.int (Int32.ofNat kk)), .unset, .unset, .unset, .unset] [(.int c_694), (.int c_693), (.int c_692), (.int c_691), (.int (Int32.ofNat kk))])) rfl (by rw [hml]; rfl) (argsL := [(.int (Int32.ofNat kk)), (.int c_691), (.int c_692), (.int c_693), (.int c_694)]) (rest := []) (lenOf pd_705 rfl) rfl (by show 2 * 0 + _ ≤ _; exact Nat.le_of_eq rfl) (hb hby at_43) (fun _ _ => ⟨rfl, K694, (by decide : 0 + 6 ≤ _), (by decide : 0 + 24 ≤ _)⟩)
  dsimp only [Pt.U, Pt.locs, Pt.cells, Pt.slots] at X695 l695 y695 z695 st695 hQ695 hs695 hg695 ch695
  subst l695 y695 z695
  obtain ⟨x_695, t_695, rfl, N695q, K695, f695_0⟩ := hQ695
  have N695 := Fr.app N694 N695q
  obtain ⟨Y695, hS695, hZ695, hown695⟩ := rebS hS0 (n1 := h0.size) (by omega) X695 hs695 (by have := hg695; first | exact this | (rw [← K694]; exact this)) hZ hown
  have z695 : h0.size ≤ T695.heap.size := K695.1
  have R695 : CHr Z consts_1 s.vm h0 T695.vm T695.heap := R0.trans ch695
  have lt695_0 : @LT.lt Nat _ x_695 T695.heap.size := f695_0.lt
  have ltv695_0 : @LT.lt Nat _ t_695 T695.heap.size := f695_0.ltv
  have f696 : own_Str Z T695.heap x_695 t_695 ([c_691, c_692, c_693, c_694].take kk) := by
    have q := f695_0
    rw [own_ofn (by omega)] at q
    exact q
  have hlk : ([c_691, c_692, c_693, c_694].take kk).length = kk := by rw [List.length_take]; exact Nat.min_eq_left hk4
  refine oG.tr st695 ?_
  refine oG.st (fun _ k => XS.astore Y695.here hx rfl (hb hby at_46) rfl rfl (l' := #[.val (.int p1), .val (.int p2), .val (.int p3), .val (.int p4), .val (.int p5), .val (.int c_691), .val (.int c_692), .val (.int c_693), .val (.int c_694), .val (.int (Int32.ofNat kk)), .val (.ref x_695), .unset, .unset, .unset]) rfl (XS.iconst Y695.here hx rfl (hb hby at_48) (XS.istore Y695.here hx rfl (hb hby at_49) rfl (l' := #[.val (.int p1), .val (.int p2), .val (.int p3), .val (.int p4), .val (.int p5), .val (.int c_691), .val (.int c_692), .val (.int c_693), .val (.int c_694), .val (.int (Int32.ofNat kk)), .val (.ref x_695), .val (.int (-1 : Int32)), .unset, .unset]) rfl k))) ?_
  show oG _ _ _ _ (T695.setTop (mkF m 51 #[.val (.int p1), .val (.int p2), .val (.int p3), .val (.int p4), .val (.int p5), .val (.int c_691), .val (.int c_692), .val (.int c_693), .val (.int c_694), .val (.int (Int32.ofNat kk)), .val (.ref x_695), .val (.int (-1 : Int32)), .unset, .unset] []))
  have J697 : ∀ (ld : Int32), (own_D [c_691, c_692, c_693, c_694] kk 1 ld) → oG p.tables e below PP (T695.setTop (mkF m 66 #[.val (.int p1), .val (.int p2), .val (.int p3), .val (.int p4), .val (.int p5), .val (.int c_691), .val (.int c_692), .val (.int c_693), .val (.int c_694), .val (.int (Int32.ofNat kk)), .val (.ref x_695), .val (.int ld), .unset, .unset] [])) := by
    intro ld hJ697
    show oG _ _ _ _ (T695.setTop (mkF m 66 #[.val (.int p1), .val (.int p2), .val (.int p3), .val (.int p4), .val (.int p5), .val (.int c_691), .val (.int c_692), .val (.int c_693), .val (.int c_694), .val (.int (Int32.ofNat kk)), .val (.ref x_695), .val (.int ld), .unset, .unset] []))
    have J698 : ∀ (ld : Int32), (own_D [c_691, c_692, c_693, c_694] kk 2 ld) → oG p.tables e below PP (T695.setTop (mkF m 82 #[.val (.int p1), .val (.int p2), .val (.int p3), .val (.int p4), .val (.int p5), .val (.int c_691), .val (.int c_692), .val (.int c_693), .val (.int c_694), .val (.int (Int32.ofNat kk)), .val (.ref x_695), .val (.int ld), .unset, .unset] [])) := by
      intro ld hJ698
      show oG _ _ _ _ (T695.setTop (mkF m 82 #[.val (.int p1), .val (.int p2), .val (.int p3), .val (.int p4), .val (.int p5), .val (.int c_691), .val (.int c_692), .val (.int c_693), .val (.int c_694), .val (.int (Int32.ofNat kk)), .val (.ref x_695), .val (.int ld), .unset, .unset] []))
      have J699 : ∀ (ld : Int32), (own_D [c_691, c_692, c_693, c_694] kk 3 ld) → oG p.tables e below PP (T695.setTop (mkF m 98 #[.val (.int p1), .val (.int p2), .val (.int p3), .val (.int p4), .val (.int p5), .val (.int c_691), .val (.int c_692), .val (.int c_693), .val (.int c_694), .val (.int (Int32.ofNat kk)), .val (.ref x_695), .val (.int ld), .unset, .unset] [])) := by
        intro ld hJ699
        show oG _ _ _ _ (T695.setTop (mkF m 98 #[.val (.int p1), .val (.int p2), .val (.int p3), .val (.int p4), .val (.int p5), .val (.int c_691), .val (.int c_692), .val (.int c_693), .val (.int c_694), .val (.int (Int32.ofNat kk)), .val (.ref x_695), .val (.int ld), .unset, .unset] []))
        have J700 : ∀ (ld : Int32), (own_D [c_691, c_692, c_693, c_694] kk 4 ld) → oG p.tables e below PP (T695.setTop (mkF m 114 #[.val (.int p1), .val (.int p2), .val (.int p3), .val (.int p4), .val (.int p5), .val (.int c_691), .val (.int c_692), .val (.int c_693), .val (.int c_694), .val (.int (Int32.ofNat kk)), .val (.ref x_695), .val (.int ld), .unset, .unset] [])) := by
          intro ld hJ700
          obtain ⟨st, hst, rfl, hD1, hD2⟩ := hJ700
          show oG _ _ _ _ (T695.setTop (mkF m 114 #[.val (.int p1), .val (.int p2), .val (.int p3), .val (.int p4), .val (.int p5), .val (.int c_691), .val (.int c_692), .val (.int c_693), .val (.int c_694), .val (.int (Int32.ofNat kk)), .val (.ref x_695), .val (.int (own_lds st)), .unset, .unset] []))
          have hD2' : ∀ j, st ≤ j → j < kk → [c_691, c_692, c_693, c_694].getD j 0 ≠ 46 := fun j a b => hD2 j a (by omega) b
          refine oG.st (fun _ k => XS.iload Y695.here hx rfl (hb hby at_114) rfl (XS.iconst Y695.here hx rfl (hb hby at_116) k)) ?_
          show oG _ _ _ _ (T695.setTop (mkF m 117 #[.val (.int p1), .val (.int p2), .val (.int p3), .val (.int p4), .val (.int p5), .val (.int c_691), .val (.int c_692), .val (.int c_693), .val (.int c_694), .val (.int (Int32.ofNat kk)), .val (.ref x_695), .val (.int (own_lds st)), .unset, .unset] [(.int (0 : Int32)), (.int (own_lds st))]))
          have f702 : Old Z Z.heap.size T695.heap := OL.keep K695 all0
          obtain ⟨_, _, ⟨T701, L701, k701, n701⟩, -, X701, ⟨Lc701, hQ701, l701, y701, z701⟩, st701⟩ := Jvm.LawKit.callS Y695 hx (y := mN3) hown695 (own_v hZ695 hw 31 rfl) (own_v hZ695 hw 32 rfl) (own_v hZ695 hw 33 rfl) (own_v hZ695 hw 34 rfl) (by decide) (backOf (W := 0) (rm_mmax l Z a0 hw [] (own_lds st) (0 : Int32) T695.heap f702 ) hZ695 (own_w hw 34 rfl) (own_w hw 33 rfl) (by decide) (by decide)) (g := (mkF m 117 #[.val (.int p1), .val (.int p2), .val (.int p3), .val (.int p4), .val (.int p5), .val (.int c_691), .val (.int c_692), .val (.int c_693), .val (.int c_694), .val (.int (Int32.ofNat kk)), .val (.ref x_695), .val (.int (own_lds st)), .unset, .unset] [(.int (0 : Int32)), (.int (own_lds st))])) rfl (by rw [hml]; rfl) (argsL := [(.int (own_lds st)), (.int (0 : Int32))]) (rest := []) (lenOf pd_222 rfl) rfl (by show 2 * 0 + _ ≤ _; exact Nat.le_of_eq rfl) (hb hby at_117) (fun _ _ => ⟨rfl, rfl, (by decide : 6 + 0 ≤ _), (by decide : 24 + 0 ≤ _)⟩)
          dsimp only [Pt.U, Pt.locs, Pt.cells, Pt.slots] at X701 l701 y701 z701 st701 hQ701
          subst l701 y701 z701
          obtain ⟨rfl, N701q, K701⟩ := hQ701
          have N701 := Fr.app N695 N701q
          refine oG.st st701 ?_
          show oG _ _ _ _ (T701.setTop (mkF m 120 #[.val (.int p1), .val (.int p2), .val (.int p3), .val (.int p4), .val (.int p5), .val (.int c_691), .val (.int c_692), .val (.int c_693), .val (.int c_694), .val (.int (Int32.ofNat kk)), .val (.ref x_695), .val (.int (own_lds st)), .unset, .unset] [(.int (if (own_lds st) < (0 : Int32) then (0 : Int32) else (own_lds st)))]))
          rw [own_ldsM hst]
          refine oG.st (fun _ k => XS.istore X701.here hx rfl (hb hby at_120) rfl (l' := #[.val (.int p1), .val (.int p2), .val (.int p3), .val (.int p4), .val (.int p5), .val (.int c_691), .val (.int c_692), .val (.int c_693), .val (.int c_694), .val (.int (Int32.ofNat kk)), .val (.ref x_695), .val (.int (own_lds st)), .val (.int (Int32.ofNat (st - 1))), .unset]) rfl (XS.aload X701.here hx rfl (hb hby at_122) rfl rfl k)) ?_
          show oG _ _ _ _ (T701.setTop (mkF m 124 #[.val (.int p1), .val (.int p2), .val (.int p3), .val (.int p4), .val (.int p5), .val (.int c_691), .val (.int c_692), .val (.int c_693), .val (.int c_694), .val (.int (Int32.ofNat kk)), .val (.ref x_695), .val (.int (own_lds st)), .val (.int (Int32.ofNat (st - 1))), .unset] [(.ref x_695)]))
          obtain ⟨_, _, ⟨T703, L703, k703, n703⟩, -, X703, hs703, hg703, ⟨Lc703, hQ703, l703, y703, z703, ch703⟩, st703⟩ := callSS X701 hx (y := mN0) hown695 (own_v hZ695 hw 35 rfl) (own_v hZ695 hw 36 rfl) (own_v hZ695 hw 37 rfl) (own_v hZ695 hw 38 rfl) (by decide) (backOfSH (s := s) (vm0 := T695.vm) (W := 0) (rm_packageOf l Z a0 hw [] x_695 t_695 ([c_691, c_692, c_693, c_694].take kk) zc fm T695.heap hEL f702 f696 st_C st_SIOOBE_FORMATTER st_A st_H st_L hzc hfm (by rw [hlk]; exact hk4)) hZ695 (own_w hw 38 rfl) (own_w hw 37 rfl) (by decide) (by decide) hEL R695.1) (g := (mkF m 124 #[.val (.int p1), .val (.int p2), .val (.int p3), .val (.int p4), .val (.int p5), .val (.int c_691), .val (.int c_692), .val (.int c_693), .val (.int c_694), .val (.int (Int32.ofNat kk)), .val (.ref x_695), .val (.int (own_lds st)), .val (.int (Int32.ofNat (st - 1))), .unset] [(.ref x_695)])) rfl (by rw [hml]; rfl) (argsL := [(.ref x_695)]) (rest := []) (lenOf pd_706 rfl) rfl (by show 2 * 0 + _ ≤ _; exact Nat.le_of_eq rfl) (hb hby at_124) (fun _ _ => ⟨rfl, K701, (by decide : 6 + 3 ≤ _), (by decide : 24 + 16 ≤ _)⟩)
          dsimp only [Pt.U, Pt.locs, Pt.cells, Pt.slots] at X703 l703 y703 z703 st703 hQ703 hs703 hg703 ch703
          subst l703 y703 z703
          obtain ⟨x_703, t_703, st_703, rfl, N703q, K703, f703_0, pr703_0⟩ := hQ703
          have N703 := Fr.app N701 N703q
          obtain ⟨Y703, hS703, hZ703, hown703⟩ := rebS hS695 (n1 := T695.heap.size) (by omega) X703 hs703 (by have := hg703; first | exact this | (rw [← K701]; exact this)) hZ695 hown695
          have z703 : T695.heap.size ≤ T703.heap.size := K703.1
          have R703 : CHr Z consts_1 s.vm h0 T703.vm T703.heap := R695.trans ch703
          have lt703_0 : @LT.lt Nat _ x_703 T703.heap.size := f703_0.lt
          have ltv703_0 : @LT.lt Nat _ t_703 T703.heap.size := f703_0.ltv
          have hs2 : st_703 = st := own_uni4 hk4 pr703_0 hD1 hD2'
          have hLd2 := pr703_0.1
          rw [hlk, hs2] at hLd2
          have f704 : own_Str Z T703.heap x_703 t_703 (([c_691, c_692, c_693, c_694].take kk).take (st - 1)) := hs2 ▸ f703_0
          have hRl : (([c_691, c_692, c_693, c_694].take kk).take (st - 1)).length = st - 1 := by rw [List.length_take, hlk]; omega
          refine oG.tr st703 ?_
          refine oG.st (fun _ k => XS.astore Y703.here hx rfl (hb hby at_127) rfl rfl (l' := #[.val (.int p1), .val (.int p2), .val (.int p3), .val (.int p4), .val (.int p5), .val (.int c_691), .val (.int c_692), .val (.int c_693), .val (.int c_694), .val (.int (Int32.ofNat kk)), .val (.ref x_695), .val (.int (own_lds st)), .val (.int (Int32.ofNat (st - 1))), .val (.ref x_703)]) rfl (XS.aload Y703.here hx rfl (hb hby at_129) rfl rfl k)) ?_
          show oG _ _ _ _ (T703.setTop (mkF m 131 #[.val (.int p1), .val (.int p2), .val (.int p3), .val (.int p4), .val (.int p5), .val (.int c_691), .val (.int c_692), .val (.int c_693), .val (.int c_694), .val (.int (Int32.ofNat kk)), .val (.ref x_695), .val (.int (own_lds st)), .val (.int (Int32.ofNat (st - 1))), .val (.ref x_703)] [(.ref x_703)]))
          obtain ⟨kb706, cd706, N706_, vs706, s1706, s2706, s3706, s4706, s5706, s6706, s7706⟩ := id f704
          have f707 : Old Z Z.heap.size T703.heap := f702.keep K703 all0
          obtain ⟨cq705, kq705, q705a, q705b, q705c⟩ := isOf hZ703 rfl f704.exa
          obtain ⟨_, _, ⟨T705, L705, k705, n705⟩, -, X705, ⟨Lc705, hQ705, l705, y705, z705⟩, st705⟩ := Y703.virtualBack hx (y := mN15) (z := mN15) hown703 (own_v hZ703 hw 89 rfl) (own_v hZ703 hw 45 rfl) (notFace_of_selects (args := #[]) (own_v hZ703 hw 47 rfl)) (own_v hZ703 hw 47 rfl) (own_v hZ703 hw 46 rfl) (by decide) (StrChars.Road.lenW (W := 0) hZ703 (own_hln hw) (kI := 4) (own_w hw 10 rfl) s1706 s2706 s3706 s4706 s5706 s6706 (st_C.ext f707.2) hzc s7706 (by decide) (by decide)) q705a q705c (g := (mkF m 131 #[.val (.int p1), .val (.int p2), .val (.int p3), .val (.int p4), .val (.int p5), .val (.int c_691), .val (.int c_692), .val (.int c_693), .val (.int c_694), .val (.int (Int32.ofNat kk)), .val (.ref x_695), .val (.int (own_lds st)), .val (.int (Int32.ofNat (st - 1))), .val (.ref x_703)] [(.ref x_703)])) rfl (by rw [hml]; rfl) (Steps.refl _) (argsL := []) (rest := []) (lenOf pd_427 rfl) rfl (by show 2 * 0 + _ ≤ _; exact Nat.le_of_eq rfl) (hb hby at_131) (fun _ _ => ⟨rfl, rfl, (by decide : 9 + 0 ≤ _), (by decide : 40 + 0 ≤ _)⟩)
          dsimp only [Pt.U, Pt.locs, Pt.cells, Pt.slots] at X705 l705 y705 z705 st705 hQ705
          subst l705 y705 z705
          obtain ⟨rfl, rfl, K705⟩ := hQ705
          have N705 := Fr.app N703 (Fr.nil Z.heap.size)
          refine oG.tr st705 ?_
          refine oG.st (fun _ k => XS.iload X705.here hx rfl (hb hby at_134) rfl k) ?_
          show oG _ _ _ _ (T705.setTop (mkF m 136 #[.val (.int p1), .val (.int p2), .val (.int p3), .val (.int p4), .val (.int p5), .val (.int c_691), .val (.int c_692), .val (.int c_693), .val (.int c_694), .val (.int (Int32.ofNat kk)), .val (.ref x_695), .val (.int (own_lds st)), .val (.int (Int32.ofNat (st - 1))), .val (.ref x_703)] [(.int (Int32.ofNat (st - 1))), (.int (Int32.ofNat (([c_691, c_692, c_693, c_694].take kk).take (st - 1)).length))]))
          have hc708 : (Int32.ofNat (([c_691, c_692, c_693, c_694].take kk).take (st - 1)).length) = (Int32.ofNat (st - 1)) := by rw [hRl]
          refine oG.st (fun _ k => XS.icmpYes X705.here hx rfl (pc0 := 136) (pc' := 141) rfl (hb hby at_136) rfl (teq hc708).1 (by decide) (by decide) k) ?_
          refine oG.st (fun _ k => XS.iload X705.here hx rfl (hb hby at_141) rfl (XS.iconst X705.here hx rfl (hb hby at_143) k)) ?_
          show oG _ _ _ _ (T705.setTop (mkF m 144 #[.val (.int p1), .val (.int p2), .val (.int p3), .val (.int p4), .val (.int p5), .val (.int c_691), .val (.int c_692), .val (.int c_693), .val (.int c_694), .val (.int (Int32.ofNat kk)), .val (.ref x_695), .val (.int (own_lds st)), .val (.int (Int32.ofNat (st - 1))), .val (.ref x_703)] [(.int (1 : Int32)), (.int (Int32.ofNat (st - 1)))]))
          by_cases hN0 : (Int32.ofNat (st - 1)) < (1 : Int32)
          ·
            refine oG.st (fun _ k => XS.icmpYes X705.here hx rfl (pc0 := 144) (pc' := 158) rfl (hb hby at_144) rfl (tlt hN0).1 (by decide) (by decide) k) ?_
            refine oG.st (fun _ k => XS.iload X705.here hx rfl (hb hby at_158) rfl (XS.iconst X705.here hx rfl (hb hby at_160) k)) ?_
            show oG _ _ _ _ (T705.setTop (mkF m 161 #[.val (.int p1), .val (.int p2), .val (.int p3), .val (.int p4), .val (.int p5), .val (.int c_691), .val (.int c_692), .val (.int c_693), .val (.int c_694), .val (.int (Int32.ofNat kk)), .val (.ref x_695), .val (.int (own_lds st)), .val (.int (Int32.ofNat (st - 1))), .val (.ref x_703)] [(.int (2 : Int32)), (.int (Int32.ofNat (st - 1)))]))
            by_cases hN1 : (Int32.ofNat (st - 1)) < (2 : Int32)
            ·
              refine oG.st (fun _ k => XS.icmpYes X705.here hx rfl (pc0 := 161) (pc' := 175) rfl (hb hby at_161) rfl (tlt hN1).1 (by decide) (by decide) k) ?_
              refine oG.st (fun _ k => XS.iload X705.here hx rfl (hb hby at_175) rfl (XS.iconst X705.here hx rfl (hb hby at_177) k)) ?_
              show oG _ _ _ _ (T705.setTop (mkF m 178 #[.val (.int p1), .val (.int p2), .val (.int p3), .val (.int p4), .val (.int p5), .val (.int c_691), .val (.int c_692), .val (.int c_693), .val (.int c_694), .val (.int (Int32.ofNat kk)), .val (.ref x_695), .val (.int (own_lds st)), .val (.int (Int32.ofNat (st - 1))), .val (.ref x_703)] [(.int (3 : Int32)), (.int (Int32.ofNat (st - 1)))]))
              by_cases hN2 : (Int32.ofNat (st - 1)) < (3 : Int32)
              ·
                refine oG.st (fun _ k => XS.icmpYes X705.here hx rfl (pc0 := 178) (pc' := 192) rfl (hb hby at_178) rfl (tlt hN2).1 (by decide) (by decide) k) ?_
                refine oG.st (fun _ k => XS.iconst X705.here hx rfl (hb hby at_192) (XS.goto X705.here hx rfl (pc0 := 193) (pc' := 197) rfl (hb hby at_193) (by decide) (by decide) k)) ?_
                show oG _ _ _ _ (T705.setTop (mkF m 197 #[.val (.int p1), .val (.int p2), .val (.int p3), .val (.int p4), .val (.int p5), .val (.int c_691), .val (.int c_692), .val (.int c_693), .val (.int c_694), .val (.int (Int32.ofNat kk)), .val (.ref x_695), .val (.int (own_lds st)), .val (.int (Int32.ofNat (st - 1))), .val (.ref x_703)] [(.int (1 : Int32))]))
                obtain ⟨fs709, hr709, hrun709, hend709, hret709⟩ := X705.leaveW hS703 (by rw [K705]; exact (by omega)) (v := some (.int (nar .boolean (1 : Int32)))) (fun h => by rw [Bd.returns] at h; cases h)
                have K710 : Keep h0 T695.heap [] := (Keep.refl h0 []).trans K695 all0
                have K711 : Keep h0 T703.heap [] := K710.trans K703 all0
                subst hPP
                refine ⟨_, _, retN X705 hx (t := .boolean) Bd.returns (by simp) (hb hby at_197) hr709, hrun709, hend709, _, _, rfl, ?_, ?_, hret709.1, hret709.2.1, hret709.2.2.1, hret709.2.2.2.mono (by decide) (by decide)⟩
                · show Q_law Z _ _ _ _ _ _ _ h0 _ T705.heap _
                  rw [K705]
                  exact ⟨rfl, N705, K711⟩
                · have hfin := R703.trans (CHv.at X705 hZ703 hEL R703.1)
                  rw [← hh] at hfin
                  show CHr Z consts_1 s.vm s.heap T705.vm T705.heap
                  rw [K705]
                  exact hfin
              ·
                refine oG.st (fun _ k => XS.icmpNo X705.here hx rfl (hb hby at_178) rfl (flt hN2).1 k) ?_
                have hn2 : 2 < st - 1 := by
                  have : ¬ (st - 1) < 3 := fun q => hN2 ((own_oflt (j := 3) (by omega) (by omega)).mpr q)
                  omega
                refine oG.st (fun _ k => XS.aload X705.here hx rfl (hb hby at_181) rfl rfl (XS.iconst X705.here hx rfl (hb hby at_183) k)) ?_
                show oG _ _ _ _ (T705.setTop (mkF m 184 #[.val (.int p1), .val (.int p2), .val (.int p3), .val (.int p4), .val (.int p5), .val (.int c_691), .val (.int c_692), .val (.int c_693), .val (.int c_694), .val (.int (Int32.ofNat kk)), .val (.ref x_695), .val (.int (own_lds st)), .val (.int (Int32.ofNat (st - 1))), .val (.ref x_703)] [(.int (2 : Int32)), (.ref x_703)]))
                obtain ⟨cq712, kq712, q712a, q712b, q712c⟩ := isOf hZ703 K705 f704.exa
                obtain ⟨_, _, ⟨T712, L712, k712, n712⟩, -, X712, ⟨Lc712, hQ712, l712, y712, z712⟩, st712⟩ := X705.virtualBack hx (y := mN8) (z := mN8) hown703 (own_v hZ703 hw 170 rfl) (own_v hZ703 hw 171 rfl) (notFace_of_selects (args := #[]) (own_v hZ703 hw 173 rfl)) (own_v hZ703 hw 173 rfl) (own_v hZ703 hw 172 rfl) (by decide) (backOf (W := 0) (rm_charAt2 l Z a0 hw [] x_703 (2 : Int32) t_703 (([c_691, c_692, c_693, c_694].take kk).take (st - 1)) zc 2 fm T703.heap f707 f704 st_C st_SIOOBE_FORMATTER st_A st_H st_L rfl (by rw [hRl]; exact hn2) (by rw [hRl]; omega) hzc hfm) hZ703 (own_w hw 174 rfl) (own_w hw 11 rfl) (by decide) (by decide)) q712a q712c (g := (mkF m 184 #[.val (.int p1), .val (.int p2), .val (.int p3), .val (.int p4), .val (.int p5), .val (.int c_691), .val (.int c_692), .val (.int c_693), .val (.int c_694), .val (.int (Int32.ofNat kk)), .val (.ref x_695), .val (.int (own_lds st)), .val (.int (Int32.ofNat (st - 1))), .val (.ref x_703)] [(.int (2 : Int32)), (.ref x_703)])) rfl (by rw [hml]; rfl) (Steps.refl _) (argsL := [(.int (2 : Int32))]) (rest := []) (lenOf pd_704 rfl) rfl (by show 2 * 0 + _ ≤ _; exact Nat.le_of_eq rfl) (hb hby at_184) (fun _ _ => ⟨rfl, K705, (by decide : 9 + 0 ≤ _), (by decide : 40 + 0 ≤ _)⟩)
                dsimp only [Pt.U, Pt.locs, Pt.cells, Pt.slots] at X712 l712 y712 z712 st712 hQ712
                subst l712 y712 z712
                obtain ⟨rfl, N712q, K712⟩ := hQ712
                have N712 := Fr.app N705 N712q
                refine oG.tr st712 ?_
                refine oG.st (fun _ k => XS.iload X712.here hx rfl (hb hby at_187) rfl k) ?_
                show oG _ _ _ _ (T712.setTop (mkF m 189 #[.val (.int p1), .val (.int p2), .val (.int p3), .val (.int p4), .val (.int p5), .val (.int c_691), .val (.int c_692), .val (.int c_693), .val (.int c_694), .val (.int (Int32.ofNat kk)), .val (.ref x_695), .val (.int (own_lds st)), .val (.int (Int32.ofNat (st - 1))), .val (.ref x_703)] [(.int c_693), (.int ((([c_691, c_692, c_693, c_694].take kk).take (st - 1)).getD 2 0))]))
                have hc713 : ((([c_691, c_692, c_693, c_694].take kk).take (st - 1)).getD 2 0) = c_693 := by rw [own_tkG hn2, own_tkG (by omega)]; rfl
                refine oG.st (fun _ k => XS.icmpNo X712.here hx rfl (hb hby at_189) rfl (teq hc713).2 k) ?_
                refine oG.st (fun _ k => XS.iconst X712.here hx rfl (hb hby at_192) (XS.goto X712.here hx rfl (pc0 := 193) (pc' := 197) rfl (hb hby at_193) (by decide) (by decide) k)) ?_
                show oG _ _ _ _ (T712.setTop (mkF m 197 #[.val (.int p1), .val (.int p2), .val (.int p3), .val (.int p4), .val (.int p5), .val (.int c_691), .val (.int c_692), .val (.int c_693), .val (.int c_694), .val (.int (Int32.ofNat kk)), .val (.ref x_695), .val (.int (own_lds st)), .val (.int (Int32.ofNat (st - 1))), .val (.ref x_703)] [(.int (1 : Int32))]))
                obtain ⟨fs714, hr714, hrun714, hend714, hret714⟩ := X712.leaveW hS703 (by rw [K712]; exact (by omega)) (v := some (.int (nar .boolean (1 : Int32)))) (fun h => by rw [Bd.returns] at h; cases h)
                have K715 : Keep h0 T695.heap [] := (Keep.refl h0 []).trans K695 all0
                have K716 : Keep h0 T703.heap [] := K715.trans K703 all0
                subst hPP
                refine ⟨_, _, retN X712 hx (t := .boolean) Bd.returns (by simp) (hb hby at_197) hr714, hrun714, hend714, _, _, rfl, ?_, ?_, hret714.1, hret714.2.1, hret714.2.2.1, hret714.2.2.2.mono (by decide) (by decide)⟩
                · show Q_law Z _ _ _ _ _ _ _ h0 _ T712.heap _
                  rw [K712]
                  exact ⟨rfl, N712, K716⟩
                · have hfin := R703.trans (CHv.at X712 hZ703 hEL R703.1)
                  rw [← hh] at hfin
                  show CHr Z consts_1 s.vm s.heap T712.vm T712.heap
                  rw [K712]
                  exact hfin
            ·
              refine oG.st (fun _ k => XS.icmpNo X705.here hx rfl (hb hby at_161) rfl (flt hN1).1 k) ?_
              have hn1 : 1 < st - 1 := by
                have : ¬ (st - 1) < 2 := fun q => hN1 ((own_oflt (j := 2) (by omega) (by omega)).mpr q)
                omega
              refine oG.st (fun _ k => XS.aload X705.here hx rfl (hb hby at_164) rfl rfl (XS.iconst X705.here hx rfl (hb hby at_166) k)) ?_
              show oG _ _ _ _ (T705.setTop (mkF m 167 #[.val (.int p1), .val (.int p2), .val (.int p3), .val (.int p4), .val (.int p5), .val (.int c_691), .val (.int c_692), .val (.int c_693), .val (.int c_694), .val (.int (Int32.ofNat kk)), .val (.ref x_695), .val (.int (own_lds st)), .val (.int (Int32.ofNat (st - 1))), .val (.ref x_703)] [(.int (1 : Int32)), (.ref x_703)]))
              obtain ⟨cq717, kq717, q717a, q717b, q717c⟩ := isOf hZ703 K705 f704.exa
              obtain ⟨_, _, ⟨T717, L717, k717, n717⟩, -, X717, ⟨Lc717, hQ717, l717, y717, z717⟩, st717⟩ := X705.virtualBack hx (y := mN8) (z := mN8) hown703 (own_v hZ703 hw 170 rfl) (own_v hZ703 hw 171 rfl) (notFace_of_selects (args := #[]) (own_v hZ703 hw 173 rfl)) (own_v hZ703 hw 173 rfl) (own_v hZ703 hw 172 rfl) (by decide) (backOf (W := 0) (rm_charAt2 l Z a0 hw [] x_703 (1 : Int32) t_703 (([c_691, c_692, c_693, c_694].take kk).take (st - 1)) zc 1 fm T703.heap f707 f704 st_C st_SIOOBE_FORMATTER st_A st_H st_L rfl (by rw [hRl]; exact hn1) (by rw [hRl]; omega) hzc hfm) hZ703 (own_w hw 174 rfl) (own_w hw 11 rfl) (by decide) (by decide)) q717a q717c (g := (mkF m 167 #[.val (.int p1), .val (.int p2), .val (.int p3), .val (.int p4), .val (.int p5), .val (.int c_691), .val (.int c_692), .val (.int c_693), .val (.int c_694), .val (.int (Int32.ofNat kk)), .val (.ref x_695), .val (.int (own_lds st)), .val (.int (Int32.ofNat (st - 1))), .val (.ref x_703)] [(.int (1 : Int32)), (.ref x_703)])) rfl (by rw [hml]; rfl) (Steps.refl _) (argsL := [(.int (1 : Int32))]) (rest := []) (lenOf pd_704 rfl) rfl (by show 2 * 0 + _ ≤ _; exact Nat.le_of_eq rfl) (hb hby at_167) (fun _ _ => ⟨rfl, K705, (by decide : 9 + 0 ≤ _), (by decide : 40 + 0 ≤ _)⟩)
              dsimp only [Pt.U, Pt.locs, Pt.cells, Pt.slots] at X717 l717 y717 z717 st717 hQ717
              subst l717 y717 z717
              obtain ⟨rfl, N717q, K717⟩ := hQ717
              have N717 := Fr.app N705 N717q
              refine oG.tr st717 ?_
              refine oG.st (fun _ k => XS.iload X717.here hx rfl (hb hby at_170) rfl k) ?_
              show oG _ _ _ _ (T717.setTop (mkF m 172 #[.val (.int p1), .val (.int p2), .val (.int p3), .val (.int p4), .val (.int p5), .val (.int c_691), .val (.int c_692), .val (.int c_693), .val (.int c_694), .val (.int (Int32.ofNat kk)), .val (.ref x_695), .val (.int (own_lds st)), .val (.int (Int32.ofNat (st - 1))), .val (.ref x_703)] [(.int c_692), (.int ((([c_691, c_692, c_693, c_694].take kk).take (st - 1)).getD 1 0))]))
              have hc718 : ((([c_691, c_692, c_693, c_694].take kk).take (st - 1)).getD 1 0) = c_692 := by rw [own_tkG hn1, own_tkG (by omega)]; rfl
              refine oG.st (fun _ k => XS.icmpNo X717.here hx rfl (hb hby at_172) rfl (teq hc718).2 k) ?_
              refine oG.st (fun _ k => XS.iload X717.here hx rfl (hb hby at_175) rfl (XS.iconst X717.here hx rfl (hb hby at_177) k)) ?_
              show oG _ _ _ _ (T717.setTop (mkF m 178 #[.val (.int p1), .val (.int p2), .val (.int p3), .val (.int p4), .val (.int p5), .val (.int c_691), .val (.int c_692), .val (.int c_693), .val (.int c_694), .val (.int (Int32.ofNat kk)), .val (.ref x_695), .val (.int (own_lds st)), .val (.int (Int32.ofNat (st - 1))), .val (.ref x_703)] [(.int (3 : Int32)), (.int (Int32.ofNat (st - 1)))]))
              by_cases hN2 : (Int32.ofNat (st - 1)) < (3 : Int32)
              ·
                refine oG.st (fun _ k => XS.icmpYes X717.here hx rfl (pc0 := 178) (pc' := 192) rfl (hb hby at_178) rfl (tlt hN2).1 (by decide) (by decide) k) ?_
                refine oG.st (fun _ k => XS.iconst X717.here hx rfl (hb hby at_192) (XS.goto X717.here hx rfl (pc0 := 193) (pc' := 197) rfl (hb hby at_193) (by decide) (by decide) k)) ?_
                show oG _ _ _ _ (T717.setTop (mkF m 197 #[.val (.int p1), .val (.int p2), .val (.int p3), .val (.int p4), .val (.int p5), .val (.int c_691), .val (.int c_692), .val (.int c_693), .val (.int c_694), .val (.int (Int32.ofNat kk)), .val (.ref x_695), .val (.int (own_lds st)), .val (.int (Int32.ofNat (st - 1))), .val (.ref x_703)] [(.int (1 : Int32))]))
                obtain ⟨fs719, hr719, hrun719, hend719, hret719⟩ := X717.leaveW hS703 (by rw [K717]; exact (by omega)) (v := some (.int (nar .boolean (1 : Int32)))) (fun h => by rw [Bd.returns] at h; cases h)
                have K720 : Keep h0 T695.heap [] := (Keep.refl h0 []).trans K695 all0
                have K721 : Keep h0 T703.heap [] := K720.trans K703 all0
                subst hPP
                refine ⟨_, _, retN X717 hx (t := .boolean) Bd.returns (by simp) (hb hby at_197) hr719, hrun719, hend719, _, _, rfl, ?_, ?_, hret719.1, hret719.2.1, hret719.2.2.1, hret719.2.2.2.mono (by decide) (by decide)⟩
                · show Q_law Z _ _ _ _ _ _ _ h0 _ T717.heap _
                  rw [K717]
                  exact ⟨rfl, N717, K721⟩
                · have hfin := R703.trans (CHv.at X717 hZ703 hEL R703.1)
                  rw [← hh] at hfin
                  show CHr Z consts_1 s.vm s.heap T717.vm T717.heap
                  rw [K717]
                  exact hfin
              ·
                refine oG.st (fun _ k => XS.icmpNo X717.here hx rfl (hb hby at_178) rfl (flt hN2).1 k) ?_
                have hn2 : 2 < st - 1 := by
                  have : ¬ (st - 1) < 3 := fun q => hN2 ((own_oflt (j := 3) (by omega) (by omega)).mpr q)
                  omega
                refine oG.st (fun _ k => XS.aload X717.here hx rfl (hb hby at_181) rfl rfl (XS.iconst X717.here hx rfl (hb hby at_183) k)) ?_
                show oG _ _ _ _ (T717.setTop (mkF m 184 #[.val (.int p1), .val (.int p2), .val (.int p3), .val (.int p4), .val (.int p5), .val (.int c_691), .val (.int c_692), .val (.int c_693), .val (.int c_694), .val (.int (Int32.ofNat kk)), .val (.ref x_695), .val (.int (own_lds st)), .val (.int (Int32.ofNat (st - 1))), .val (.ref x_703)] [(.int (2 : Int32)), (.ref x_703)]))
                obtain ⟨cq722, kq722, q722a, q722b, q722c⟩ := isOf hZ703 K717 f704.exa
                obtain ⟨_, _, ⟨T722, L722, k722, n722⟩, -, X722, ⟨Lc722, hQ722, l722, y722, z722⟩, st722⟩ := X717.virtualBack hx (y := mN8) (z := mN8) hown703 (own_v hZ703 hw 170 rfl) (own_v hZ703 hw 171 rfl) (notFace_of_selects (args := #[]) (own_v hZ703 hw 173 rfl)) (own_v hZ703 hw 173 rfl) (own_v hZ703 hw 172 rfl) (by decide) (backOf (W := 0) (rm_charAt2 l Z a0 hw [] x_703 (2 : Int32) t_703 (([c_691, c_692, c_693, c_694].take kk).take (st - 1)) zc 2 fm T703.heap f707 f704 st_C st_SIOOBE_FORMATTER st_A st_H st_L rfl (by rw [hRl]; exact hn2) (by rw [hRl]; omega) hzc hfm) hZ703 (own_w hw 174 rfl) (own_w hw 11 rfl) (by decide) (by decide)) q722a q722c (g := (mkF m 184 #[.val (.int p1), .val (.int p2), .val (.int p3), .val (.int p4), .val (.int p5), .val (.int c_691), .val (.int c_692), .val (.int c_693), .val (.int c_694), .val (.int (Int32.ofNat kk)), .val (.ref x_695), .val (.int (own_lds st)), .val (.int (Int32.ofNat (st - 1))), .val (.ref x_703)] [(.int (2 : Int32)), (.ref x_703)])) rfl (by rw [hml]; rfl) (Steps.refl _) (argsL := [(.int (2 : Int32))]) (rest := []) (lenOf pd_704 rfl) rfl (by show 2 * 0 + _ ≤ _; exact Nat.le_of_eq rfl) (hb hby at_184) (fun _ _ => ⟨rfl, K717, (by decide : 9 + 0 ≤ _), (by decide : 40 + 0 ≤ _)⟩)
                dsimp only [Pt.U, Pt.locs, Pt.cells, Pt.slots] at X722 l722 y722 z722 st722 hQ722
                subst l722 y722 z722
                obtain ⟨rfl, N722q, K722⟩ := hQ722
                have N722 := Fr.app N717 N722q
                refine oG.tr st722 ?_
                refine oG.st (fun _ k => XS.iload X722.here hx rfl (hb hby at_187) rfl k) ?_
                show oG _ _ _ _ (T722.setTop (mkF m 189 #[.val (.int p1), .val (.int p2), .val (.int p3), .val (.int p4), .val (.int p5), .val (.int c_691), .val (.int c_692), .val (.int c_693), .val (.int c_694), .val (.int (Int32.ofNat kk)), .val (.ref x_695), .val (.int (own_lds st)), .val (.int (Int32.ofNat (st - 1))), .val (.ref x_703)] [(.int c_693), (.int ((([c_691, c_692, c_693, c_694].take kk).take (st - 1)).getD 2 0))]))
                have hc723 : ((([c_691, c_692, c_693, c_694].take kk).take (st - 1)).getD 2 0) = c_693 := by rw [own_tkG hn2, own_tkG (by omega)]; rfl
                refine oG.st (fun _ k => XS.icmpNo X722.here hx rfl (hb hby at_189) rfl (teq hc723).2 k) ?_
                refine oG.st (fun _ k => XS.iconst X722.here hx rfl (hb hby at_192) (XS.goto X722.here hx rfl (pc0 := 193) (pc' := 197) rfl (hb hby at_193) (by decide) (by decide) k)) ?_
                show oG _ _ _ _ (T722.setTop (mkF m 197 #[.val (.int p1), .val (.int p2), .val (.int p3), .val (.int p4), .val (.int p5), .val (.int c_691), .val (.int c_692), .val (.int c_693), .val (.int c_694), .val (.int (Int32.ofNat kk)), .val (.ref x_695), .val (.int (own_lds st)), .val (.int (Int32.ofNat (st - 1))), .val (.ref x_703)] [(.int (1 : Int32))]))
                obtain ⟨fs724, hr724, hrun724, hend724, hret724⟩ := X722.leaveW hS703 (by rw [K722]; exact (by omega)) (v := some (.int (nar .boolean (1 : Int32)))) (fun h => by rw [Bd.returns] at h; cases h)
                have K725 : Keep h0 T695.heap [] := (Keep.refl h0 []).trans K695 all0
                have K726 : Keep h0 T703.heap [] := K725.trans K703 all0
                subst hPP
                refine ⟨_, _, retN X722 hx (t := .boolean) Bd.returns (by simp) (hb hby at_197) hr724, hrun724, hend724, _, _, rfl, ?_, ?_, hret724.1, hret724.2.1, hret724.2.2.1, hret724.2.2.2.mono (by decide) (by decide)⟩
                · show Q_law Z _ _ _ _ _ _ _ h0 _ T722.heap _
                  rw [K722]
                  exact ⟨rfl, N722, K726⟩
                · have hfin := R703.trans (CHv.at X722 hZ703 hEL R703.1)
                  rw [← hh] at hfin
                  show CHr Z consts_1 s.vm s.heap T722.vm T722.heap
                  rw [K722]
                  exact hfin
          ·
            refine oG.st (fun _ k => XS.icmpNo X705.here hx rfl (hb hby at_144) rfl (flt hN0).1 k) ?_
            have hn0 : 0 < st - 1 := by
              have : ¬ (st - 1) < 1 := fun q => hN0 ((own_oflt (j := 1) (by omega) (by omega)).mpr q)
              omega
            refine oG.st (fun _ k => XS.aload X705.here hx rfl (hb hby at_147) rfl rfl (XS.iconst X705.here hx rfl (hb hby at_149) k)) ?_
            show oG _ _ _ _ (T705.setTop (mkF m 150 #[.val (.int p1), .val (.int p2), .val (.int p3), .val (.int p4), .val (.int p5), .val (.int c_691), .val (.int c_692), .val (.int c_693), .val (.int c_694), .val (.int (Int32.ofNat kk)), .val (.ref x_695), .val (.int (own_lds st)), .val (.int (Int32.ofNat (st - 1))), .val (.ref x_703)] [(.int (0 : Int32)), (.ref x_703)]))
            obtain ⟨cq727, kq727, q727a, q727b, q727c⟩ := isOf hZ703 K705 f704.exa
            obtain ⟨_, _, ⟨T727, L727, k727, n727⟩, -, X727, ⟨Lc727, hQ727, l727, y727, z727⟩, st727⟩ := X705.virtualBack hx (y := mN8) (z := mN8) hown703 (own_v hZ703 hw 170 rfl) (own_v hZ703 hw 171 rfl) (notFace_of_selects (args := #[]) (own_v hZ703 hw 173 rfl)) (own_v hZ703 hw 173 rfl) (own_v hZ703 hw 172 rfl) (by decide) (backOf (W := 0) (rm_charAt2 l Z a0 hw [] x_703 (0 : Int32) t_703 (([c_691, c_692, c_693, c_694].take kk).take (st - 1)) zc 0 fm T703.heap f707 f704 st_C st_SIOOBE_FORMATTER st_A st_H st_L rfl (by rw [hRl]; exact hn0) (by rw [hRl]; omega) hzc hfm) hZ703 (own_w hw 174 rfl) (own_w hw 11 rfl) (by decide) (by decide)) q727a q727c (g := (mkF m 150 #[.val (.int p1), .val (.int p2), .val (.int p3), .val (.int p4), .val (.int p5), .val (.int c_691), .val (.int c_692), .val (.int c_693), .val (.int c_694), .val (.int (Int32.ofNat kk)), .val (.ref x_695), .val (.int (own_lds st)), .val (.int (Int32.ofNat (st - 1))), .val (.ref x_703)] [(.int (0 : Int32)), (.ref x_703)])) rfl (by rw [hml]; rfl) (Steps.refl _) (argsL := [(.int (0 : Int32))]) (rest := []) (lenOf pd_704 rfl) rfl (by show 2 * 0 + _ ≤ _; exact Nat.le_of_eq rfl) (hb hby at_150) (fun _ _ => ⟨rfl, K705, (by decide : 9 + 0 ≤ _), (by decide : 40 + 0 ≤ _)⟩)
            dsimp only [Pt.U, Pt.locs, Pt.cells, Pt.slots] at X727 l727 y727 z727 st727 hQ727
            subst l727 y727 z727
            obtain ⟨rfl, N727q, K727⟩ := hQ727
            have N727 := Fr.app N705 N727q
            refine oG.tr st727 ?_
            refine oG.st (fun _ k => XS.iload X727.here hx rfl (hb hby at_153) rfl k) ?_
            show oG _ _ _ _ (T727.setTop (mkF m 155 #[.val (.int p1), .val (.int p2), .val (.int p3), .val (.int p4), .val (.int p5), .val (.int c_691), .val (.int c_692), .val (.int c_693), .val (.int c_694), .val (.int (Int32.ofNat kk)), .val (.ref x_695), .val (.int (own_lds st)), .val (.int (Int32.ofNat (st - 1))), .val (.ref x_703)] [(.int c_691), (.int ((([c_691, c_692, c_693, c_694].take kk).take (st - 1)).getD 0 0))]))
            have hc728 : ((([c_691, c_692, c_693, c_694].take kk).take (st - 1)).getD 0 0) = c_691 := by rw [own_tkG hn0, own_tkG (by omega)]; rfl
            refine oG.st (fun _ k => XS.icmpNo X727.here hx rfl (hb hby at_155) rfl (teq hc728).2 k) ?_
            refine oG.st (fun _ k => XS.iload X727.here hx rfl (hb hby at_158) rfl (XS.iconst X727.here hx rfl (hb hby at_160) k)) ?_
            show oG _ _ _ _ (T727.setTop (mkF m 161 #[.val (.int p1), .val (.int p2), .val (.int p3), .val (.int p4), .val (.int p5), .val (.int c_691), .val (.int c_692), .val (.int c_693), .val (.int c_694), .val (.int (Int32.ofNat kk)), .val (.ref x_695), .val (.int (own_lds st)), .val (.int (Int32.ofNat (st - 1))), .val (.ref x_703)] [(.int (2 : Int32)), (.int (Int32.ofNat (st - 1)))]))
            by_cases hN1 : (Int32.ofNat (st - 1)) < (2 : Int32)
            ·
              refine oG.st (fun _ k => XS.icmpYes X727.here hx rfl (pc0 := 161) (pc' := 175) rfl (hb hby at_161) rfl (tlt hN1).1 (by decide) (by decide) k) ?_
              refine oG.st (fun _ k => XS.iload X727.here hx rfl (hb hby at_175) rfl (XS.iconst X727.here hx rfl (hb hby at_177) k)) ?_
              show oG _ _ _ _ (T727.setTop (mkF m 178 #[.val (.int p1), .val (.int p2), .val (.int p3), .val (.int p4), .val (.int p5), .val (.int c_691), .val (.int c_692), .val (.int c_693), .val (.int c_694), .val (.int (Int32.ofNat kk)), .val (.ref x_695), .val (.int (own_lds st)), .val (.int (Int32.ofNat (st - 1))), .val (.ref x_703)] [(.int (3 : Int32)), (.int (Int32.ofNat (st - 1)))]))
              by_cases hN2 : (Int32.ofNat (st - 1)) < (3 : Int32)
              ·
                refine oG.st (fun _ k => XS.icmpYes X727.here hx rfl (pc0 := 178) (pc' := 192) rfl (hb hby at_178) rfl (tlt hN2).1 (by decide) (by decide) k) ?_
                refine oG.st (fun _ k => XS.iconst X727.here hx rfl (hb hby at_192) (XS.goto X727.here hx rfl (pc0 := 193) (pc' := 197) rfl (hb hby at_193) (by decide) (by decide) k)) ?_
                show oG _ _ _ _ (T727.setTop (mkF m 197 #[.val (.int p1), .val (.int p2), .val (.int p3), .val (.int p4), .val (.int p5), .val (.int c_691), .val (.int c_692), .val (.int c_693), .val (.int c_694), .val (.int (Int32.ofNat kk)), .val (.ref x_695), .val (.int (own_lds st)), .val (.int (Int32.ofNat (st - 1))), .val (.ref x_703)] [(.int (1 : Int32))]))
                obtain ⟨fs729, hr729, hrun729, hend729, hret729⟩ := X727.leaveW hS703 (by rw [K727]; exact (by omega)) (v := some (.int (nar .boolean (1 : Int32)))) (fun h => by rw [Bd.returns] at h; cases h)
                have K730 : Keep h0 T695.heap [] := (Keep.refl h0 []).trans K695 all0
                have K731 : Keep h0 T703.heap [] := K730.trans K703 all0
                subst hPP
                refine ⟨_, _, retN X727 hx (t := .boolean) Bd.returns (by simp) (hb hby at_197) hr729, hrun729, hend729, _, _, rfl, ?_, ?_, hret729.1, hret729.2.1, hret729.2.2.1, hret729.2.2.2.mono (by decide) (by decide)⟩
                · show Q_law Z _ _ _ _ _ _ _ h0 _ T727.heap _
                  rw [K727]
                  exact ⟨rfl, N727, K731⟩
                · have hfin := R703.trans (CHv.at X727 hZ703 hEL R703.1)
                  rw [← hh] at hfin
                  show CHr Z consts_1 s.vm s.heap T727.vm T727.heap
                  rw [K727]
                  exact hfin
              ·
                refine oG.st (fun _ k => XS.icmpNo X727.here hx rfl (hb hby at_178) rfl (flt hN2).1 k) ?_
                have hn2 : 2 < st - 1 := by
                  have : ¬ (st - 1) < 3 := fun q => hN2 ((own_oflt (j := 3) (by omega) (by omega)).mpr q)
                  omega
                refine oG.st (fun _ k => XS.aload X727.here hx rfl (hb hby at_181) rfl rfl (XS.iconst X727.here hx rfl (hb hby at_183) k)) ?_
                show oG _ _ _ _ (T727.setTop (mkF m 184 #[.val (.int p1), .val (.int p2), .val (.int p3), .val (.int p4), .val (.int p5), .val (.int c_691), .val (.int c_692), .val (.int c_693), .val (.int c_694), .val (.int (Int32.ofNat kk)), .val (.ref x_695), .val (.int (own_lds st)), .val (.int (Int32.ofNat (st - 1))), .val (.ref x_703)] [(.int (2 : Int32)), (.ref x_703)]))
                obtain ⟨cq732, kq732, q732a, q732b, q732c⟩ := isOf hZ703 K727 f704.exa
                obtain ⟨_, _, ⟨T732, L732, k732, n732⟩, -, X732, ⟨Lc732, hQ732, l732, y732, z732⟩, st732⟩ := X727.virtualBack hx (y := mN8) (z := mN8) hown703 (own_v hZ703 hw 170 rfl) (own_v hZ703 hw 171 rfl) (notFace_of_selects (args := #[]) (own_v hZ703 hw 173 rfl)) (own_v hZ703 hw 173 rfl) (own_v hZ703 hw 172 rfl) (by decide) (backOf (W := 0) (rm_charAt2 l Z a0 hw [] x_703 (2 : Int32) t_703 (([c_691, c_692, c_693, c_694].take kk).take (st - 1)) zc 2 fm T703.heap f707 f704 st_C st_SIOOBE_FORMATTER st_A st_H st_L rfl (by rw [hRl]; exact hn2) (by rw [hRl]; omega) hzc hfm) hZ703 (own_w hw 174 rfl) (own_w hw 11 rfl) (by decide) (by decide)) q732a q732c (g := (mkF m 184 #[.val (.int p1), .val (.int p2), .val (.int p3), .val (.int p4), .val (.int p5), .val (.int c_691), .val (.int c_692), .val (.int c_693), .val (.int c_694), .val (.int (Int32.ofNat kk)), .val (.ref x_695), .val (.int (own_lds st)), .val (.int (Int32.ofNat (st - 1))), .val (.ref x_703)] [(.int (2 : Int32)), (.ref x_703)])) rfl (by rw [hml]; rfl) (Steps.refl _) (argsL := [(.int (2 : Int32))]) (rest := []) (lenOf pd_704 rfl) rfl (by show 2 * 0 + _ ≤ _; exact Nat.le_of_eq rfl) (hb hby at_184) (fun _ _ => ⟨rfl, K727, (by decide : 9 + 0 ≤ _), (by decide : 40 + 0 ≤ _)⟩)
                dsimp only [Pt.U, Pt.locs, Pt.cells, Pt.slots] at X732 l732 y732 z732 st732 hQ732
                subst l732 y732 z732
                obtain ⟨rfl, N732q, K732⟩ := hQ732
                have N732 := Fr.app N727 N732q
                refine oG.tr st732 ?_
                refine oG.st (fun _ k => XS.iload X732.here hx rfl (hb hby at_187) rfl k) ?_
                show oG _ _ _ _ (T732.setTop (mkF m 189 #[.val (.int p1), .val (.int p2), .val (.int p3), .val (.int p4), .val (.int p5), .val (.int c_691), .val (.int c_692), .val (.int c_693), .val (.int c_694), .val (.int (Int32.ofNat kk)), .val (.ref x_695), .val (.int (own_lds st)), .val (.int (Int32.ofNat (st - 1))), .val (.ref x_703)] [(.int c_693), (.int ((([c_691, c_692, c_693, c_694].take kk).take (st - 1)).getD 2 0))]))
                have hc733 : ((([c_691, c_692, c_693, c_694].take kk).take (st - 1)).getD 2 0) = c_693 := by rw [own_tkG hn2, own_tkG (by omega)]; rfl
                refine oG.st (fun _ k => XS.icmpNo X732.here hx rfl (hb hby at_189) rfl (teq hc733).2 k) ?_
                refine oG.st (fun _ k => XS.iconst X732.here hx rfl (hb hby at_192) (XS.goto X732.here hx rfl (pc0 := 193) (pc' := 197) rfl (hb hby at_193) (by decide) (by decide) k)) ?_
                show oG _ _ _ _ (T732.setTop (mkF m 197 #[.val (.int p1), .val (.int p2), .val (.int p3), .val (.int p4), .val (.int p5), .val (.int c_691), .val (.int c_692), .val (.int c_693), .val (.int c_694), .val (.int (Int32.ofNat kk)), .val (.ref x_695), .val (.int (own_lds st)), .val (.int (Int32.ofNat (st - 1))), .val (.ref x_703)] [(.int (1 : Int32))]))
                obtain ⟨fs734, hr734, hrun734, hend734, hret734⟩ := X732.leaveW hS703 (by rw [K732]; exact (by omega)) (v := some (.int (nar .boolean (1 : Int32)))) (fun h => by rw [Bd.returns] at h; cases h)
                have K735 : Keep h0 T695.heap [] := (Keep.refl h0 []).trans K695 all0
                have K736 : Keep h0 T703.heap [] := K735.trans K703 all0
                subst hPP
                refine ⟨_, _, retN X732 hx (t := .boolean) Bd.returns (by simp) (hb hby at_197) hr734, hrun734, hend734, _, _, rfl, ?_, ?_, hret734.1, hret734.2.1, hret734.2.2.1, hret734.2.2.2.mono (by decide) (by decide)⟩
                · show Q_law Z _ _ _ _ _ _ _ h0 _ T732.heap _
                  rw [K732]
                  exact ⟨rfl, N732, K736⟩
                · have hfin := R703.trans (CHv.at X732 hZ703 hEL R703.1)
                  rw [← hh] at hfin
                  show CHr Z consts_1 s.vm s.heap T732.vm T732.heap
                  rw [K732]
                  exact hfin
            ·
              refine oG.st (fun _ k => XS.icmpNo X727.here hx rfl (hb hby at_161) rfl (flt hN1).1 k) ?_
              have hn1 : 1 < st - 1 := by
                have : ¬ (st - 1) < 2 := fun q => hN1 ((own_oflt (j := 2) (by omega) (by omega)).mpr q)
                omega
              refine oG.st (fun _ k => XS.aload X727.here hx rfl (hb hby at_164) rfl rfl (XS.iconst X727.here hx rfl (hb hby at_166) k)) ?_
              show oG _ _ _ _ (T727.setTop (mkF m 167 #[.val (.int p1), .val (.int p2), .val (.int p3), .val (.int p4), .val (.int p5), .val (.int c_691), .val (.int c_692), .val (.int c_693), .val (.int c_694), .val (.int (Int32.ofNat kk)), .val (.ref x_695), .val (.int (own_lds st)), .val (.int (Int32.ofNat (st - 1))), .val (.ref x_703)] [(.int (1 : Int32)), (.ref x_703)]))
              obtain ⟨cq737, kq737, q737a, q737b, q737c⟩ := isOf hZ703 K727 f704.exa
              obtain ⟨_, _, ⟨T737, L737, k737, n737⟩, -, X737, ⟨Lc737, hQ737, l737, y737, z737⟩, st737⟩ := X727.virtualBack hx (y := mN8) (z := mN8) hown703 (own_v hZ703 hw 170 rfl) (own_v hZ703 hw 171 rfl) (notFace_of_selects (args := #[]) (own_v hZ703 hw 173 rfl)) (own_v hZ703 hw 173 rfl) (own_v hZ703 hw 172 rfl) (by decide) (backOf (W := 0) (rm_charAt2 l Z a0 hw [] x_703 (1 : Int32) t_703 (([c_691, c_692, c_693, c_694].take kk).take (st - 1)) zc 1 fm T703.heap f707 f704 st_C st_SIOOBE_FORMATTER st_A st_H st_L rfl (by rw [hRl]; exact hn1) (by rw [hRl]; omega) hzc hfm) hZ703 (own_w hw 174 rfl) (own_w hw 11 rfl) (by decide) (by decide)) q737a q737c (g := (mkF m 167 #[.val (.int p1), .val (.int p2), .val (.int p3), .val (.int p4), .val (.int p5), .val (.int c_691), .val (.int c_692), .val (.int c_693), .val (.int c_694), .val (.int (Int32.ofNat kk)), .val (.ref x_695), .val (.int (own_lds st)), .val (.int (Int32.ofNat (st - 1))), .val (.ref x_703)] [(.int (1 : Int32)), (.ref x_703)])) rfl (by rw [hml]; rfl) (Steps.refl _) (argsL := [(.int (1 : Int32))]) (rest := []) (lenOf pd_704 rfl) rfl (by show 2 * 0 + _ ≤ _; exact Nat.le_of_eq rfl) (hb hby at_167) (fun _ _ => ⟨rfl, K727, (by decide : 9 + 0 ≤ _), (by decide : 40 + 0 ≤ _)⟩)
              dsimp only [Pt.U, Pt.locs, Pt.cells, Pt.slots] at X737 l737 y737 z737 st737 hQ737
              subst l737 y737 z737
              obtain ⟨rfl, N737q, K737⟩ := hQ737
              have N737 := Fr.app N727 N737q
              refine oG.tr st737 ?_
              refine oG.st (fun _ k => XS.iload X737.here hx rfl (hb hby at_170) rfl k) ?_
              show oG _ _ _ _ (T737.setTop (mkF m 172 #[.val (.int p1), .val (.int p2), .val (.int p3), .val (.int p4), .val (.int p5), .val (.int c_691), .val (.int c_692), .val (.int c_693), .val (.int c_694), .val (.int (Int32.ofNat kk)), .val (.ref x_695), .val (.int (own_lds st)), .val (.int (Int32.ofNat (st - 1))), .val (.ref x_703)] [(.int c_692), (.int ((([c_691, c_692, c_693, c_694].take kk).take (st - 1)).getD 1 0))]))
              have hc738 : ((([c_691, c_692, c_693, c_694].take kk).take (st - 1)).getD 1 0) = c_692 := by rw [own_tkG hn1, own_tkG (by omega)]; rfl
              refine oG.st (fun _ k => XS.icmpNo X737.here hx rfl (hb hby at_172) rfl (teq hc738).2 k) ?_
              refine oG.st (fun _ k => XS.iload X737.here hx rfl (hb hby at_175) rfl (XS.iconst X737.here hx rfl (hb hby at_177) k)) ?_
              show oG _ _ _ _ (T737.setTop (mkF m 178 #[.val (.int p1), .val (.int p2), .val (.int p3), .val (.int p4), .val (.int p5), .val (.int c_691), .val (.int c_692), .val (.int c_693), .val (.int c_694), .val (.int (Int32.ofNat kk)), .val (.ref x_695), .val (.int (own_lds st)), .val (.int (Int32.ofNat (st - 1))), .val (.ref x_703)] [(.int (3 : Int32)), (.int (Int32.ofNat (st - 1)))]))
              by_cases hN2 : (Int32.ofNat (st - 1)) < (3 : Int32)
              ·
                refine oG.st (fun _ k => XS.icmpYes X737.here hx rfl (pc0 := 178) (pc' := 192) rfl (hb hby at_178) rfl (tlt hN2).1 (by decide) (by decide) k) ?_
                refine oG.st (fun _ k => XS.iconst X737.here hx rfl (hb hby at_192) (XS.goto X737.here hx rfl (pc0 := 193) (pc' := 197) rfl (hb hby at_193) (by decide) (by decide) k)) ?_
                show oG _ _ _ _ (T737.setTop (mkF m 197 #[.val (.int p1), .val (.int p2), .val (.int p3), .val (.int p4), .val (.int p5), .val (.int c_691), .val (.int c_692), .val (.int c_693), .val (.int c_694), .val (.int (Int32.ofNat kk)), .val (.ref x_695), .val (.int (own_lds st)), .val (.int (Int32.ofNat (st - 1))), .val (.ref x_703)] [(.int (1 : Int32))]))
                obtain ⟨fs739, hr739, hrun739, hend739, hret739⟩ := X737.leaveW hS703 (by rw [K737]; exact (by omega)) (v := some (.int (nar .boolean (1 : Int32)))) (fun h => by rw [Bd.returns] at h; cases h)
                have K740 : Keep h0 T695.heap [] := (Keep.refl h0 []).trans K695 all0
                have K741 : Keep h0 T703.heap [] := K740.trans K703 all0
                subst hPP
                refine ⟨_, _, retN X737 hx (t := .boolean) Bd.returns (by simp) (hb hby at_197) hr739, hrun739, hend739, _, _, rfl, ?_, ?_, hret739.1, hret739.2.1, hret739.2.2.1, hret739.2.2.2.mono (by decide) (by decide)⟩
                · show Q_law Z _ _ _ _ _ _ _ h0 _ T737.heap _
                  rw [K737]
                  exact ⟨rfl, N737, K741⟩
                · have hfin := R703.trans (CHv.at X737 hZ703 hEL R703.1)
                  rw [← hh] at hfin
                  show CHr Z consts_1 s.vm s.heap T737.vm T737.heap
                  rw [K737]
                  exact hfin
              ·
                refine oG.st (fun _ k => XS.icmpNo X737.here hx rfl (hb hby at_178) rfl (flt hN2).1 k) ?_
                have hn2 : 2 < st - 1 := by
                  have : ¬ (st - 1) < 3 := fun q => hN2 ((own_oflt (j := 3) (by omega) (by omega)).mpr q)
                  omega
                refine oG.st (fun _ k => XS.aload X737.here hx rfl (hb hby at_181) rfl rfl (XS.iconst X737.here hx rfl (hb hby at_183) k)) ?_
                show oG _ _ _ _ (T737.setTop (mkF m 184 #[.val (.int p1), .val (.int p2), .val (.int p3), .val (.int p4), .val (.int p5), .val (.int c_691), .val (.int c_692), .val (.int c_693), .val (.int c_694), .val (.int (Int32.ofNat kk)), .val (.ref x_695), .val (.int (own_lds st)), .val (.int (Int32.ofNat (st - 1))), .val (.ref x_703)] [(.int (2 : Int32)), (.ref x_703)]))
                obtain ⟨cq742, kq742, q742a, q742b, q742c⟩ := isOf hZ703 K737 f704.exa
                obtain ⟨_, _, ⟨T742, L742, k742, n742⟩, -, X742, ⟨Lc742, hQ742, l742, y742, z742⟩, st742⟩ := X737.virtualBack hx (y := mN8) (z := mN8) hown703 (own_v hZ703 hw 170 rfl) (own_v hZ703 hw 171 rfl) (notFace_of_selects (args := #[]) (own_v hZ703 hw 173 rfl)) (own_v hZ703 hw 173 rfl) (own_v hZ703 hw 172 rfl) (by decide) (backOf (W := 0) (rm_charAt2 l Z a0 hw [] x_703 (2 : Int32) t_703 (([c_691, c_692, c_693, c_694].take kk).take (st - 1)) zc 2 fm T703.heap f707 f704 st_C st_SIOOBE_FORMATTER st_A st_H st_L rfl (by rw [hRl]; exact hn2) (by rw [hRl]; omega) hzc hfm) hZ703 (own_w hw 174 rfl) (own_w hw 11 rfl) (by decide) (by decide)) q742a q742c (g := (mkF m 184 #[.val (.int p1), .val (.int p2), .val (.int p3), .val (.int p4), .val (.int p5), .val (.int c_691), .val (.int c_692), .val (.int c_693), .val (.int c_694), .val (.int (Int32.ofNat kk)), .val (.ref x_695), .val (.int (own_lds st)), .val (.int (Int32.ofNat (st - 1))), .val (.ref x_703)] [(.int (2 : Int32)), (.ref x_703)])) rfl (by rw [hml]; rfl) (Steps.refl _) (argsL := [(.int (2 : Int32))]) (rest := []) (lenOf pd_704 rfl) rfl (by show 2 * 0 + _ ≤ _; exact Nat.le_of_eq rfl) (hb hby at_184) (fun _ _ => ⟨rfl, K737, (by decide : 9 + 0 ≤ _), (by decide : 40 + 0 ≤ _)⟩)
                dsimp only [Pt.U, Pt.locs, Pt.cells, Pt.slots] at X742 l742 y742 z742 st742 hQ742
                subst l742 y742 z742
                obtain ⟨rfl, N742q, K742⟩ := hQ742
                have N742 := Fr.app N737 N742q
                refine oG.tr st742 ?_
                refine oG.st (fun _ k => XS.iload X742.here hx rfl (hb hby at_187) rfl k) ?_
                show oG _ _ _ _ (T742.setTop (mkF m 189 #[.val (.int p1), .val (.int p2), .val (.int p3), .val (.int p4), .val (.int p5), .val (.int c_691), .val (.int c_692), .val (.int c_693), .val (.int c_694), .val (.int (Int32.ofNat kk)), .val (.ref x_695), .val (.int (own_lds st)), .val (.int (Int32.ofNat (st - 1))), .val (.ref x_703)] [(.int c_693), (.int ((([c_691, c_692, c_693, c_694].take kk).take (st - 1)).getD 2 0))]))
                have hc743 : ((([c_691, c_692, c_693, c_694].take kk).take (st - 1)).getD 2 0) = c_693 := by rw [own_tkG hn2, own_tkG (by omega)]; rfl
                refine oG.st (fun _ k => XS.icmpNo X742.here hx rfl (hb hby at_189) rfl (teq hc743).2 k) ?_
                refine oG.st (fun _ k => XS.iconst X742.here hx rfl (hb hby at_192) (XS.goto X742.here hx rfl (pc0 := 193) (pc' := 197) rfl (hb hby at_193) (by decide) (by decide) k)) ?_
                show oG _ _ _ _ (T742.setTop (mkF m 197 #[.val (.int p1), .val (.int p2), .val (.int p3), .val (.int p4), .val (.int p5), .val (.int c_691), .val (.int c_692), .val (.int c_693), .val (.int c_694), .val (.int (Int32.ofNat kk)), .val (.ref x_695), .val (.int (own_lds st)), .val (.int (Int32.ofNat (st - 1))), .val (.ref x_703)] [(.int (1 : Int32))]))
                obtain ⟨fs744, hr744, hrun744, hend744, hret744⟩ := X742.leaveW hS703 (by rw [K742]; exact (by omega)) (v := some (.int (nar .boolean (1 : Int32)))) (fun h => by rw [Bd.returns] at h; cases h)
                have K745 : Keep h0 T695.heap [] := (Keep.refl h0 []).trans K695 all0
                have K746 : Keep h0 T703.heap [] := K745.trans K703 all0
                subst hPP
                refine ⟨_, _, retN X742 hx (t := .boolean) Bd.returns (by simp) (hb hby at_197) hr744, hrun744, hend744, _, _, rfl, ?_, ?_, hret744.1, hret744.2.1, hret744.2.2.1, hret744.2.2.2.mono (by decide) (by decide)⟩
                · show Q_law Z _ _ _ _ _ _ _ h0 _ T742.heap _
                  rw [K742]
                  exact ⟨rfl, N742, K746⟩
                · have hfin := R703.trans (CHv.at X742 hZ703 hEL R703.1)
                  rw [← hh] at hfin
                  show CHr Z consts_1 s.vm s.heap T742.vm T742.heap
                  rw [K742]
                  exact hfin
        refine oG.st (fun _ k => XS.iload Y695.here hx rfl (hb hby at_98) rfl (XS.iconst Y695.here hx rfl (hb hby at_100) k)) ?_
        show oG _ _ _ _ (T695.setTop (mkF m 101 #[.val (.int p1), .val (.int p2), .val (.int p3), .val (.int p4), .val (.int p5), .val (.int c_691), .val (.int c_692), .val (.int c_693), .val (.int c_694), .val (.int (Int32.ofNat kk)), .val (.ref x_695), .val (.int ld), .unset, .unset] [(.int (3 : Int32)), (.int (Int32.ofNat kk))]))
        by_cases hA3 : (3 : Int32) < (Int32.ofNat kk)
        ·
          refine oG.st (fun _ k => XS.icmpNo Y695.here hx rfl (hb hby at_101) rfl (tlt hA3).2.2.2 k) ?_
          refine oG.st (fun _ k => XS.iload Y695.here hx rfl (hb hby at_104) rfl (XS.bipush Y695.here hx rfl (hb hby at_106) k)) ?_
          show oG _ _ _ _ (T695.setTop (mkF m 108 #[.val (.int p1), .val (.int p2), .val (.int p3), .val (.int p4), .val (.int p5), .val (.int c_691), .val (.int c_692), .val (.int c_693), .val (.int c_694), .val (.int (Int32.ofNat kk)), .val (.ref x_695), .val (.int ld), .unset, .unset] [(.int (46 : Int32)), (.int c_694)]))
          by_cases hB3 : c_694 = (46 : Int32)
          ·
            refine oG.st (fun _ k => XS.icmpNo Y695.here hx rfl (hb hby at_108) rfl (teq hB3).2 k) ?_
            refine oG.st (fun _ k => XS.iconst Y695.here hx rfl (hb hby at_111) (XS.istore Y695.here hx rfl (hb hby at_112) rfl (l' := #[.val (.int p1), .val (.int p2), .val (.int p3), .val (.int p4), .val (.int p5), .val (.int c_691), .val (.int c_692), .val (.int c_693), .val (.int c_694), .val (.int (Int32.ofNat kk)), .val (.ref x_695), .val (.int (3 : Int32)), .unset, .unset]) rfl k)) ?_
            show oG _ _ _ _ (T695.setTop (mkF m 114 #[.val (.int p1), .val (.int p2), .val (.int p3), .val (.int p4), .val (.int p5), .val (.int c_691), .val (.int c_692), .val (.int c_693), .val (.int c_694), .val (.int (Int32.ofNat kk)), .val (.ref x_695), .val (.int (3 : Int32)), .unset, .unset] []))
            exact J700 (3 : Int32) (own_DY 3 (by decide) ⟨(own_oflt (i := 3) (by omega) (by omega)).mp hA3, hB3⟩)
          ·
            refine oG.st (fun _ k => XS.icmpYes Y695.here hx rfl (pc0 := 108) (pc' := 114) rfl (hb hby at_108) rfl (feq hB3).2 (by decide) (by decide) k) ?_
            show oG _ _ _ _ (T695.setTop (mkF m 114 #[.val (.int p1), .val (.int p2), .val (.int p3), .val (.int p4), .val (.int p5), .val (.int c_691), .val (.int c_692), .val (.int c_693), .val (.int c_694), .val (.int (Int32.ofNat kk)), .val (.ref x_695), .val (.int ld), .unset, .unset] []))
            exact J700 ld (own_DN hJ699 (fun q => hB3 q.2))
        ·
          refine oG.st (fun _ k => XS.icmpYes Y695.here hx rfl (pc0 := 101) (pc' := 114) rfl (hb hby at_101) rfl (flt hA3).2.2.2 (by decide) (by decide) k) ?_
          show oG _ _ _ _ (T695.setTop (mkF m 114 #[.val (.int p1), .val (.int p2), .val (.int p3), .val (.int p4), .val (.int p5), .val (.int c_691), .val (.int c_692), .val (.int c_693), .val (.int c_694), .val (.int (Int32.ofNat kk)), .val (.ref x_695), .val (.int ld), .unset, .unset] []))
          exact J700 ld (own_DN hJ699 (fun q => hA3 ((own_oflt (i := 3) (by omega) (by omega)).mpr q.1)))
      refine oG.st (fun _ k => XS.iload Y695.here hx rfl (hb hby at_82) rfl (XS.iconst Y695.here hx rfl (hb hby at_84) k)) ?_
      show oG _ _ _ _ (T695.setTop (mkF m 85 #[.val (.int p1), .val (.int p2), .val (.int p3), .val (.int p4), .val (.int p5), .val (.int c_691), .val (.int c_692), .val (.int c_693), .val (.int c_694), .val (.int (Int32.ofNat kk)), .val (.ref x_695), .val (.int ld), .unset, .unset] [(.int (2 : Int32)), (.int (Int32.ofNat kk))]))
      by_cases hA2 : (2 : Int32) < (Int32.ofNat kk)
      ·
        refine oG.st (fun _ k => XS.icmpNo Y695.here hx rfl (hb hby at_85) rfl (tlt hA2).2.2.2 k) ?_
        refine oG.st (fun _ k => XS.iload Y695.here hx rfl (hb hby at_88) rfl (XS.bipush Y695.here hx rfl (hb hby at_90) k)) ?_
        show oG _ _ _ _ (T695.setTop (mkF m 92 #[.val (.int p1), .val (.int p2), .val (.int p3), .val (.int p4), .val (.int p5), .val (.int c_691), .val (.int c_692), .val (.int c_693), .val (.int c_694), .val (.int (Int32.ofNat kk)), .val (.ref x_695), .val (.int ld), .unset, .unset] [(.int (46 : Int32)), (.int c_693)]))
        by_cases hB2 : c_693 = (46 : Int32)
        ·
          refine oG.st (fun _ k => XS.icmpNo Y695.here hx rfl (hb hby at_92) rfl (teq hB2).2 k) ?_
          refine oG.st (fun _ k => XS.iconst Y695.here hx rfl (hb hby at_95) (XS.istore Y695.here hx rfl (hb hby at_96) rfl (l' := #[.val (.int p1), .val (.int p2), .val (.int p3), .val (.int p4), .val (.int p5), .val (.int c_691), .val (.int c_692), .val (.int c_693), .val (.int c_694), .val (.int (Int32.ofNat kk)), .val (.ref x_695), .val (.int (2 : Int32)), .unset, .unset]) rfl k)) ?_
          show oG _ _ _ _ (T695.setTop (mkF m 98 #[.val (.int p1), .val (.int p2), .val (.int p3), .val (.int p4), .val (.int p5), .val (.int c_691), .val (.int c_692), .val (.int c_693), .val (.int c_694), .val (.int (Int32.ofNat kk)), .val (.ref x_695), .val (.int (2 : Int32)), .unset, .unset] []))
          exact J699 (2 : Int32) (own_DY 2 (by decide) ⟨(own_oflt (i := 2) (by omega) (by omega)).mp hA2, hB2⟩)
        ·
          refine oG.st (fun _ k => XS.icmpYes Y695.here hx rfl (pc0 := 92) (pc' := 98) rfl (hb hby at_92) rfl (feq hB2).2 (by decide) (by decide) k) ?_
          show oG _ _ _ _ (T695.setTop (mkF m 98 #[.val (.int p1), .val (.int p2), .val (.int p3), .val (.int p4), .val (.int p5), .val (.int c_691), .val (.int c_692), .val (.int c_693), .val (.int c_694), .val (.int (Int32.ofNat kk)), .val (.ref x_695), .val (.int ld), .unset, .unset] []))
          exact J699 ld (own_DN hJ698 (fun q => hB2 q.2))
      ·
        refine oG.st (fun _ k => XS.icmpYes Y695.here hx rfl (pc0 := 85) (pc' := 98) rfl (hb hby at_85) rfl (flt hA2).2.2.2 (by decide) (by decide) k) ?_
        show oG _ _ _ _ (T695.setTop (mkF m 98 #[.val (.int p1), .val (.int p2), .val (.int p3), .val (.int p4), .val (.int p5), .val (.int c_691), .val (.int c_692), .val (.int c_693), .val (.int c_694), .val (.int (Int32.ofNat kk)), .val (.ref x_695), .val (.int ld), .unset, .unset] []))
        exact J699 ld (own_DN hJ698 (fun q => hA2 ((own_oflt (i := 2) (by omega) (by omega)).mpr q.1)))
    refine oG.st (fun _ k => XS.iload Y695.here hx rfl (hb hby at_66) rfl (XS.iconst Y695.here hx rfl (hb hby at_68) k)) ?_
    show oG _ _ _ _ (T695.setTop (mkF m 69 #[.val (.int p1), .val (.int p2), .val (.int p3), .val (.int p4), .val (.int p5), .val (.int c_691), .val (.int c_692), .val (.int c_693), .val (.int c_694), .val (.int (Int32.ofNat kk)), .val (.ref x_695), .val (.int ld), .unset, .unset] [(.int (1 : Int32)), (.int (Int32.ofNat kk))]))
    by_cases hA1 : (1 : Int32) < (Int32.ofNat kk)
    ·
      refine oG.st (fun _ k => XS.icmpNo Y695.here hx rfl (hb hby at_69) rfl (tlt hA1).2.2.2 k) ?_
      refine oG.st (fun _ k => XS.iload Y695.here hx rfl (hb hby at_72) rfl (XS.bipush Y695.here hx rfl (hb hby at_74) k)) ?_
      show oG _ _ _ _ (T695.setTop (mkF m 76 #[.val (.int p1), .val (.int p2), .val (.int p3), .val (.int p4), .val (.int p5), .val (.int c_691), .val (.int c_692), .val (.int c_693), .val (.int c_694), .val (.int (Int32.ofNat kk)), .val (.ref x_695), .val (.int ld), .unset, .unset] [(.int (46 : Int32)), (.int c_692)]))
      by_cases hB1 : c_692 = (46 : Int32)
      ·
        refine oG.st (fun _ k => XS.icmpNo Y695.here hx rfl (hb hby at_76) rfl (teq hB1).2 k) ?_
        refine oG.st (fun _ k => XS.iconst Y695.here hx rfl (hb hby at_79) (XS.istore Y695.here hx rfl (hb hby at_80) rfl (l' := #[.val (.int p1), .val (.int p2), .val (.int p3), .val (.int p4), .val (.int p5), .val (.int c_691), .val (.int c_692), .val (.int c_693), .val (.int c_694), .val (.int (Int32.ofNat kk)), .val (.ref x_695), .val (.int (1 : Int32)), .unset, .unset]) rfl k)) ?_
        show oG _ _ _ _ (T695.setTop (mkF m 82 #[.val (.int p1), .val (.int p2), .val (.int p3), .val (.int p4), .val (.int p5), .val (.int c_691), .val (.int c_692), .val (.int c_693), .val (.int c_694), .val (.int (Int32.ofNat kk)), .val (.ref x_695), .val (.int (1 : Int32)), .unset, .unset] []))
        exact J698 (1 : Int32) (own_DY 1 (by decide) ⟨(own_oflt (i := 1) (by omega) (by omega)).mp hA1, hB1⟩)
      ·
        refine oG.st (fun _ k => XS.icmpYes Y695.here hx rfl (pc0 := 76) (pc' := 82) rfl (hb hby at_76) rfl (feq hB1).2 (by decide) (by decide) k) ?_
        show oG _ _ _ _ (T695.setTop (mkF m 82 #[.val (.int p1), .val (.int p2), .val (.int p3), .val (.int p4), .val (.int p5), .val (.int c_691), .val (.int c_692), .val (.int c_693), .val (.int c_694), .val (.int (Int32.ofNat kk)), .val (.ref x_695), .val (.int ld), .unset, .unset] []))
        exact J698 ld (own_DN hJ697 (fun q => hB1 q.2))
    ·
      refine oG.st (fun _ k => XS.icmpYes Y695.here hx rfl (pc0 := 69) (pc' := 82) rfl (hb hby at_69) rfl (flt hA1).2.2.2 (by decide) (by decide) k) ?_
      show oG _ _ _ _ (T695.setTop (mkF m 82 #[.val (.int p1), .val (.int p2), .val (.int p3), .val (.int p4), .val (.int p5), .val (.int c_691), .val (.int c_692), .val (.int c_693), .val (.int c_694), .val (.int (Int32.ofNat kk)), .val (.ref x_695), .val (.int ld), .unset, .unset] []))
      exact J698 ld (own_DN hJ697 (fun q => hA1 ((own_oflt (i := 1) (by omega) (by omega)).mpr q.1)))
  refine oG.st (fun _ k => XS.iload Y695.here hx rfl (hb hby at_51) rfl k) ?_
  show oG _ _ _ _ (T695.setTop (mkF m 53 #[.val (.int p1), .val (.int p2), .val (.int p3), .val (.int p4), .val (.int p5), .val (.int c_691), .val (.int c_692), .val (.int c_693), .val (.int c_694), .val (.int (Int32.ofNat kk)), .val (.ref x_695), .val (.int (-1 : Int32)), .unset, .unset] [(.int (Int32.ofNat kk))]))
  by_cases hA0 : (0 : Int32) < (Int32.ofNat kk)
  ·
    refine oG.st (fun _ k => XS.ifNo Y695.here hx rfl (hb hby at_53) rfl ((if0 _ _).trans (tlt hA0).2.2.2) k) ?_
    refine oG.st (fun _ k => XS.iload Y695.here hx rfl (hb hby at_56) rfl (XS.bipush Y695.here hx rfl (hb hby at_58) k)) ?_
    show oG _ _ _ _ (T695.setTop (mkF m 60 #[.val (.int p1), .val (.int p2), .val (.int p3), .val (.int p4), .val (.int p5), .val (.int c_691), .val (.int c_692), .val (.int c_693), .val (.int c_694), .val (.int (Int32.ofNat kk)), .val (.ref x_695), .val (.int (-1 : Int32)), .unset, .unset] [(.int (46 : Int32)), (.int c_691)]))
    by_cases hB0 : c_691 = (46 : Int32)
    ·
      refine oG.st (fun _ k => XS.icmpNo Y695.here hx rfl (hb hby at_60) rfl (teq hB0).2 k) ?_
      refine oG.st (fun _ k => XS.iconst Y695.here hx rfl (hb hby at_63) (XS.istore Y695.here hx rfl (hb hby at_64) rfl (l' := #[.val (.int p1), .val (.int p2), .val (.int p3), .val (.int p4), .val (.int p5), .val (.int c_691), .val (.int c_692), .val (.int c_693), .val (.int c_694), .val (.int (Int32.ofNat kk)), .val (.ref x_695), .val (.int (0 : Int32)), .unset, .unset]) rfl k)) ?_
      show oG _ _ _ _ (T695.setTop (mkF m 66 #[.val (.int p1), .val (.int p2), .val (.int p3), .val (.int p4), .val (.int p5), .val (.int c_691), .val (.int c_692), .val (.int c_693), .val (.int c_694), .val (.int (Int32.ofNat kk)), .val (.ref x_695), .val (.int (0 : Int32)), .unset, .unset] []))
      exact J697 (0 : Int32) (own_DY 0 (by decide) ⟨(own_oflt (i := 0) (by omega) (by omega)).mp hA0, hB0⟩)
    ·
      refine oG.st (fun _ k => XS.icmpYes Y695.here hx rfl (pc0 := 60) (pc' := 66) rfl (hb hby at_60) rfl (feq hB0).2 (by decide) (by decide) k) ?_
      show oG _ _ _ _ (T695.setTop (mkF m 66 #[.val (.int p1), .val (.int p2), .val (.int p3), .val (.int p4), .val (.int p5), .val (.int c_691), .val (.int c_692), .val (.int c_693), .val (.int c_694), .val (.int (Int32.ofNat kk)), .val (.ref x_695), .val (.int (-1 : Int32)), .unset, .unset] []))
      exact J697 (-1 : Int32) (own_DN own_D0 (fun q => hB0 q.2))
  ·
    refine oG.st (fun _ k => XS.ifYes Y695.here hx rfl (pc0 := 53) (pc' := 66) rfl (hb hby at_53) rfl ((if0 _ _).trans (flt hA0).2.2.2) (by decide) (by decide) k) ?_
    show oG _ _ _ _ (T695.setTop (mkF m 66 #[.val (.int p1), .val (.int p2), .val (.int p3), .val (.int p4), .val (.int p5), .val (.int c_691), .val (.int c_692), .val (.int c_693), .val (.int c_694), .val (.int (Int32.ofNat kk)), .val (.ref x_695), .val (.int (-1 : Int32)), .unset, .unset] []))
    exact J697 (-1 : Int32) (own_DN own_D0 (fun q => hA0 ((own_oflt (i := 0) (by omega) (by omega)).mpr q.1)))

theorem own_staEq {s : State} {args : Array Value} {C n d : String} {v : Int32} (h : (Jvm.Cond.eq (Jvm.Term.static C n d) (Jvm.Term.int v)).before args s = true) (hi : (Jvm.Cond.initializedFor C n d).before args s = true) : Sta s s.heap C n d (.int v) := by
  obtain ⟨x, y, e1, e2, -, -⟩ := cmp_v (Or.inl (Cond.before_iff.mp h))
  have e3 : y = .int v := by simpa [Term.eval] using e2.symm
  subst e3
  have e4 : x = .int v := by
    have q := Cond.before_iff.mp h
    simp only [Cond.value, e1, e2] at q
    cases x <;> simp_all
  subst e4
  exact Sta.start e1 (Or.inl hi)

set_option maxRecDepth 65536 in
set_option maxHeartbeats 40000000 in
theorem comes_1 {Post : Tables → Env → Array Value → State → Outcome → State → Prop} (hpost : ∀ tb e args s v u, (limb_1_1.after args s (.returned v) u = true ∧ limb_1_2.after args s (.returned v) u = true ∧ True) → ReturnedEndW s (.returned v) u (Jvm.fieldLocs frame_1_writes args s ++ Jvm.arrayLocs frame_1_arrays args s ++ Jvm.staticLocs frame_1_statics s) 32 3264 → Post tb e args s (.returned v) u) :
    ArmFor flags0 classFile x code maxLocals ret World_1 tables_1 room_1 Calls_1 rest_1 Pre_1 Post := by
  intro l hfl _ _ p e ha hc hk s m args below hf hA hF happ hP
  obtain ⟨hcalls, hrest, hpre⟩ := hP
  obtain ⟨-, -, -, hnamed, -, -, -, hat⟩ := (Spec.applies_iff hf).mp happ
  obtain ⟨hg, hn⟩ := and_e (Cond.before_iff.mp (show (Jvm.Cond.and given_1 narrow_1).before args s = true from hpre))
  obtain ⟨g0, r0⟩ := and_e hg
  obtain ⟨g1, r1⟩ := and_e r0
  obtain ⟨g2, r2⟩ := and_e r1
  obtain ⟨g3, r3⟩ := and_e r2
  obtain ⟨g4, r4⟩ := and_e r3
  obtain ⟨w0, w1, w2, w3, w4, rfl⟩ : ∃ w0 w1 w2 w3 w4 : Value, args = #[w0, w1, w2, w3, w4] := by
    have hs : args.size = 5 := by simpa [Cond.value, given_1] using g0
    obtain ⟨L⟩ := args
    match L, hs with
    | [w0, w1, w2, w3, w4], _ => exact ⟨w0, w1, w2, w3, w4, rfl⟩
  have hw := fun d (hd : d ∈ tables_1) => atoms_spec (ws := Jvm.Cond.code x code maxLocals ret :: tables_1) hat d (List.mem_cons_of_mem _ hd)
  obtain ⟨hsets, hown0⟩ := atoms_of _ (rest_1_c_eq ▸ (show rest_1_c.before _ s = true from hrest))
  have hfit : Fit s := fun {y c} hc i hi => by
    obtain ⟨ha, rfl⟩ := Array.getElem?_eq_some_iff.mp hc
    have q := List.all_eq_true.mp ((Array.all_eq_true_iff_forall_mem.mp hF) _ (Array.getElem_mem ha)) i (List.mem_range.mpr hi)
    simpa [Array.getElem?_eq_getElem hi] using q
  obtain ⟨i0, e0⟩ := is_v g1
  obtain rfl : w0 = (.int i0) := Option.some.inj e0
  obtain ⟨i1, e1⟩ := is_v g2
  obtain rfl : w1 = (.int i1) := Option.some.inj e1
  obtain ⟨i2, e2⟩ := is_v g3
  obtain rfl : w2 = (.int i2) := Option.some.inj e2
  obtain ⟨i3, e3⟩ := is_v g4
  obtain rfl : w3 = (.int i3) := Option.some.inj e3
  obtain ⟨i4, e4⟩ := is_v r4
  obtain rfl : w4 = (.int i4) := Option.some.inj e4
  obtain ⟨zc, ez⟩ := is_v (Cond.before_iff.mp (hsets _ (List.mem_of_getElem? (i := 1) rfl)))
  have st_zc : Sta s s.heap "java/lang/String" "COMPACT_STRINGS" "Z" (.int zc) := Sta.start ez (Or.inl (hsets _ (List.mem_of_getElem? (i := 0) rfl)))
  have hzc : ¬ (zc = (0 : Int32)) := gotF (Cond.eq_ints ez (Term.int_eval (0))) (not_v (Cond.before_iff.mp (hsets _ (List.mem_of_getElem? (i := 2) rfl))))
  obtain ⟨fm, ef, hfm⟩ := isR_v (Cond.before_iff.mp (hsets _ (List.mem_of_getElem? (i := 8) rfl)))
  have st_fm : Sta s s.heap "jdk/internal/util/Preconditions" "SIOOBE_FORMATTER" "Ljava/util/function/BiFunction;" fm := Sta.start ef (Or.inl (hsets _ (List.mem_of_getElem? (i := 7) rfl)))
  have hEL : EW s _ consts_1 := (EW.cons (own_w hw 23 rfl) (by decide) (EW.cons (own_w hw 103 rfl) (by decide) (EW.cons (own_w hw 194 rfl) (by decide) EW.nil)))
  have hC0 : CHv s consts_1 s.vm s.heap := CHv.start hEL (fun p hp => hcalls.1 p hp) (hsets _ (List.mem_of_getElem? (i := 2) rfl)) (own_w hw 24 rfl) (own_w hw 10 rfl)
  have st_A : Sta s s.heap "java/lang/StringUTF16" "$assertionsDisabled" "Z" (.int (1 : Int32)) := own_staEq (hsets _ (List.mem_of_getElem? (i := 12) rfl)) (hsets _ (List.mem_of_getElem? (i := 11) rfl))
  have st_H : Sta s s.heap "java/lang/StringUTF16" "HI_BYTE_SHIFT" "I" (.int (0 : Int32)) := own_staEq (hsets _ (List.mem_of_getElem? (i := 15) rfl)) (hsets _ (List.mem_of_getElem? (i := 14) rfl))
  have st_L : Sta s s.heap "java/lang/StringUTF16" "LO_BYTE_SHIFT" "I" (.int (8 : Int32)) := own_staEq (hsets _ (List.mem_of_getElem? (i := 18) rfl)) (hsets _ (List.mem_of_getElem? (i := 17) rfl))
  obtain ⟨n, o, h1, h2, h3, _, L, rfl, ⟨rfl, N, -⟩, -, hq⟩ := rm_law l s _ hw tables_1 i0 i1 i2 i3 i4 zc fm s.heap hEL (Old.start s)  st_zc st_fm st_A st_H st_L hzc hfm p e ha hc hk s m _ below hf ((Spec.applies_iff_loose hf).mp happ).1 ⟨rfl, State.Warmed39.refl s, rfl, hC0⟩ trivial
  refine ⟨n, _, h1, h2, h3, hpost _ _ _ _ _ _ ⟨Cond.after_iff.mpr rfl, Cond.after_iff.mpr (eq_i res_at (Term.int_eval (1)) rfl), trivial⟩ ⟨hq.1, hq.2.1, hq.2.2.1, (hq.2.2.2.sift fun y hy => Or.inr (N y hy)).mono (by decide) (by decide)⟩⟩
theorem main_1_1 : Claimed_1_1 := comes_1 fun _ _ _ _ _ _ h hF => ⟨h.1, hF⟩
theorem main_1_2 : Claimed_1_2 := comes_1 fun _ _ _ _ _ _ h hF => ⟨h.2.1, hF⟩
end Jvm.Pilot.@@N@@
namespace Jvm.Pilot.@@N@@
open Jvm Jvm.ClassFile Sem Op Lib Jvm.Free Jvm.Stand Jvm.Pilot.@@N@@.Jvm.D
/-! MADE BY PROGRAM (witnessworld.py) out of the Statement's table words and the real class files: 23 classes; the members and pool entries that the words name. The judged class is class 1, her method 3. -/
namespace start1
open Jvm.ClassFile
def u (s : String) : CpInfo := .utf8 (stringToUtf16 s)
/-- a pool by its gaps: so many unusable entries, then the entry; so many at the end -/
def gap : Nat → List CpInfo → List CpInfo
  | 0, r => r
  | n + 1, r => .unusable :: gap n r
def poolList (es : List (Nat × CpInfo)) (last : Nat) : List CpInfo := es.foldr (fun e r => gap e.1 (e.2 :: r)) (gap last [])
def pool (es : List (Nat × CpInfo)) (last : Nat) : Array CpInfo := ⟨poolList es last⟩
def fileOf (pool : Array CpInfo) (this : Nat) (attrs : Array Attribute := #[]) (ms : Array MethodInfo := #[]) (fl : Nat := 33) (sup : Nat := 0) (ifs : Array Nat := #[]) (fds : Array FieldInfo := #[]) : ClassFile where
  minorVersion := 0
  majorVersion := 65
  constantPool := pool
  accessFlags := fl
  thisClass := this
  superClass := sup
  interfaces := ifs
  fields := fds
  methods := ms
  attributes := attrs
def plain (name : String) (sup : Option ClassId) : Class where
  name := name
  kind := .ordinary
  loader := none
  accessFlags := 33
  super := sup
  interfaces := #[]
  cf := none
  fields := #[]
  methods := #[]
  instanceTypes := #[]
  staticTypes := #[]
  resolved := #[]
  callSites := []
  init := .initialized
  statics := none
  mirror := none

def pool0 : Array CpInfo := pool [(5, u "<init>"), (0, u "()V"), (1, .class_ 10), (1, u "java/lang/Object")] 113

def k0c0 : Code := { maxStack := 0, maxLocals := 1, code := object_method_1_code, exceptionTable := #[], attributes := #[] }
def k0m0 : Method := { name := "<init>", desc := "()V", sig := { parameters := [], returnType := none }, accessFlags := 1, code := some k0c0 }
/-- java/lang/Object -/
def k0 : Class := { plain "java/lang/Object" none with
  accessFlags := 33
  interfaces := #[]
  cf := some (fileOf pool0 8 #[] #[{ accessFlags := 1, nameIndex := 5, descriptorIndex := 6, attributes := #[] }] 33 0 #[] #[])
  fields := #[]
  methods := #[k0m0]
  instanceTypes := #[]
  staticTypes := #[]
  resolved := Array.replicate 124 none
  statics := none }

def pool1 : Array CpInfo := pool [(2, .class_ 4), (1, u "java/lang/Object"), (0, u "<init>"), (0, u "()V"), (0, .integer 65535), (0, .class_ 9), (0, u "java/lang/String"), (0, .methodref 8 11), (0, .nameAndType 5 12), (0, u "([C)V"), (0, .methodref 14 15), (0, .class_ 16), (0, .nameAndType 17 18), (0, u "com/example/keep_to_layer/keeptolayer/model/ClassNamesPackageOfPinLaw"), (0, u "ch"), (0, u "(I)C"), (0, .integer 2147483647), (0, .methodref 14 21), (0, .nameAndType 22 23), (0, u "make"), (0, u "(ICCCC)Ljava/lang/String;"), (0, .methodref 25 26), (0, .class_ 27), (0, .nameAndType 28 29), (0, u "java/lang/Math"), (0, u "max"), (0, u "(II)I"), (0, .methodref 31 32), (0, .class_ 33), (0, .nameAndType 34 35), (0, u "com/example/keep_to_layer/keeptolayer/model/ClassNames"), (0, u "packageOf"), (0, u "(Ljava/lang/String;)Ljava/lang/String;"), (0, .methodref 8 37), (0, .nameAndType 38 39), (0, u "length"), (0, u "()I"), (0, .methodref 8 41), (0, .nameAndType 42 18), (0, u "charAt"), (3, u "law"), (0, u "(IIIII)Z")] 2

def k1m0 : Method := { name := "<init>", desc := "()V", sig := { parameters := [], returnType := none }, accessFlags := 2, code := none }
def k1c1 : Code := { maxStack := 2, maxLocals := 1, code := method_2_code, exceptionTable := #[], attributes := #[] }
def k1m1 : Method := { name := "ch", desc := "(I)C", sig := { parameters := [.int], returnType := some .char }, accessFlags := 10, code := some k1c1 }
def k1c2 : Code := { maxStack := 6, maxLocals := 5, code := method_3_code, exceptionTable := #[], attributes := #[] }
def k1m2 : Method := { name := "make", desc := "(ICCCC)Ljava/lang/String;", sig := { parameters := [.int, .char, .char, .char, .char], returnType := some (.object "java/lang/String") }, accessFlags := 10, code := some k1c2 }
def k1c3 : Code := { maxStack := 5, maxLocals := 14, code := code, exceptionTable := #[], attributes := #[] }
def k1m3 : Method := { name := "law", desc := "(IIIII)Z", sig := { parameters := [.int, .int, .int, .int, .int], returnType := some .boolean }, accessFlags := 9, code := some k1c3 }
/-- com/example/keep_to_layer/keeptolayer/model/ClassNamesPackageOfPinLaw -/
def k1 : Class := { plain "com/example/keep_to_layer/keeptolayer/model/ClassNamesPackageOfPinLaw" (some 0) with
  accessFlags := 49
  interfaces := #[]
  cf := some (fileOf pool1 14 #[] #[{ accessFlags := 2, nameIndex := 5, descriptorIndex := 6, attributes := #[] }, { accessFlags := 10, nameIndex := 17, descriptorIndex := 18, attributes := #[] }, { accessFlags := 10, nameIndex := 22, descriptorIndex := 23, attributes := #[] }, { accessFlags := 9, nameIndex := 46, descriptorIndex := 47, attributes := #[] }] 49 2 #[] #[])
  fields := #[]
  methods := #[k1m0, k1m1, k1m2, k1m3]
  instanceTypes := #[]
  staticTypes := #[]
  resolved := Array.replicate 50 none
  statics := none }

def pool2 : Array CpInfo := pool [(1, .class_ 2), (0, u "java/io/Serializable"), (0, .class_ 4), (0, u "java/lang/Object")] 2

/-- java/io/Serializable -/
def k2 : Class := { plain "java/io/Serializable" (some 0) with
  accessFlags := 1537
  interfaces := #[]
  cf := some (fileOf pool2 1 #[] #[] 1537 3 #[] #[])
  fields := #[]
  methods := #[]
  instanceTypes := #[]
  staticTypes := #[]
  resolved := Array.replicate 7 none
  statics := none }

def pool3 : Array CpInfo := pool [(1, .class_ 2), (0, u "java/lang/Comparable"), (0, .class_ 4), (0, u "java/lang/Object")] 7

/-- java/lang/Comparable -/
def k3 : Class := { plain "java/lang/Comparable" (some 0) with
  accessFlags := 1537
  interfaces := #[]
  cf := some (fileOf pool3 1 #[] #[] 1537 3 #[] #[])
  fields := #[]
  methods := #[]
  instanceTypes := #[]
  staticTypes := #[]
  resolved := Array.replicate 12 none
  statics := none }

def pool4 : Array CpInfo := pool [(2, .class_ 4), (1, u "java/lang/CharSequence"), (42, .class_ 48), (0, u "java/lang/CharSequence$1CodePointIterator"), (10, .class_ 60), (0, u "java/lang/CharSequence$1CharIterator"), (5, .class_ 67), (0, u "java/lang/Object")] 63

/-- java/lang/CharSequence -/
def k4 : Class := { plain "java/lang/CharSequence" (some 0) with
  accessFlags := 1537
  interfaces := #[]
  cf := some (fileOf pool4 2 #[.nestMembers #[47, 59]] #[] 1537 66 #[] #[])
  fields := #[]
  methods := #[]
  instanceTypes := #[]
  staticTypes := #[]
  resolved := Array.replicate 131 none
  statics := none }

def pool5 : Array CpInfo := pool [(1, .class_ 2), (0, u "java/lang/constant/Constable"), (0, .class_ 4), (0, u "java/lang/Object")] 6

/-- java/lang/constant/Constable -/
def k5 : Class := { plain "java/lang/constant/Constable" (some 0) with
  accessFlags := 1537
  interfaces := #[]
  cf := some (fileOf pool5 1 #[] #[] 1537 3 #[] #[])
  fields := #[]
  methods := #[]
  instanceTypes := #[]
  staticTypes := #[]
  resolved := Array.replicate 11 none
  statics := none }

def pool6 : Array CpInfo := pool [(1, .class_ 2), (0, u "java/lang/constant/ConstantDesc"), (0, .class_ 4), (0, u "java/lang/Object")] 32

/-- java/lang/constant/ConstantDesc -/
def k6 : Class := { plain "java/lang/constant/ConstantDesc" (some 0) with
  accessFlags := 1537
  interfaces := #[]
  cf := some (fileOf pool6 1 #[] #[] 1537 3 #[] #[])
  fields := #[]
  methods := #[]
  instanceTypes := #[]
  staticTypes := #[]
  resolved := Array.replicate 37 none
  statics := none }

def pool7 : Array CpInfo := pool [(1, .methodref 2 3), (0, .class_ 4), (0, .nameAndType 5 6), (0, u "java/lang/Object"), (0, u "<init>"), (0, u "()V"), (0, .string 8), (0, u ""), (0, .fieldref 10 11), (0, .class_ 12), (0, .nameAndType 13 14), (0, u "java/lang/String"), (0, u "value"), (0, u "[B"), (0, .fieldref 10 16), (0, .nameAndType 17 18), (0, u "coder"), (0, u "B"), (2, u "hash"), (0, u "I"), (2, u "hashIsZero"), (0, u "Z"), (0, .methodref 10 28), (0, .nameAndType 5 29), (0, u "([CIILjava/lang/Void;)V"), (6, u "checkBoundsOffCount"), (0, u "(III)I"), (0, .fieldref 10 39), (0, .nameAndType 40 26), (0, u "COMPACT_STRINGS"), (1, .class_ 44), (1, u "java/lang/StringUTF16"), (0, u "compress"), (1, .methodref 42 48), (0, .nameAndType 49 50), (0, u "coderFromArrayLen"), (0, u "([BI)B"), (46, u "([BII)I"), (9, .class_ 109), (1, u "java/lang/StringLatin1"), (32, u "()Z"), (34, .methodref 42 178), (0, .nameAndType 45 179), (0, u "([CII)[B"), (31, u "([BB)V"), (122, u "()I"), (0, .methodref 10 336), (0, .nameAndType 17 337), (0, u "()B"), (25, u "([BI)C"), (27, u "(II)V"), (35, u "(I)C"), (64, .methodref 10 493), (0, .nameAndType 494 142), (0, u "isLatin1"), (0, .methodref 107 496), (0, .nameAndType 497 363), (0, u "charAt"), (0, .methodref 42 496), (2, u "checkIndex"), (3, .methodref 10 506), (0, .nameAndType 507 334), (0, u "length"), (5, u "checkFromToIndex"), (7, .methodref 10 522), (0, .nameAndType 523 524), (0, u "checkBoundsBeginEnd"), (0, u "(III)V"), (50, .class_ 576), (0, u "java/lang/CharSequence"), (22, u "CASE_INSENSITIVE_ORDER"), (0, u "Ljava/util/Comparator;"), (35, u "(II)I"), (4, .methodref 10 642), (0, .nameAndType 643 636), (0, u "lastIndexOf"), (0, .methodref 107 645), (0, .nameAndType 643 97), (0, .methodref 42 645), (36, u "substring"), (0, u "(II)Ljava/lang/String;"), (0, .methodref 107 686), (0, .nameAndType 687 688), (0, u "newString"), (0, u "([BII)Ljava/lang/String;"), (0, .methodref 42 686), (75, u "(I)I"), (244, u "([C)V"), (42, .fieldref 1054 1055), (0, .class_ 1056), (0, .nameAndType 1057 1058), (0, u "jdk/internal/util/Preconditions"), (0, u "SIOOBE_FORMATTER"), (0, u "Ljava/util/function/BiFunction;"), (0, .methodref 1054 1060), (0, .nameAndType 501 1061), (0, u "(IILjava/util/function/BiFunction;)I"), (0, .methodref 1054 1063), (0, .nameAndType 513 1064), (0, u "(IIILjava/util/function/BiFunction;)I"), (0, .methodref 1054 1066), (0, .nameAndType 1067 1064), (0, u "checkFromIndexSize"), (33, u "serialPersistentFields"), (0, u "[Ljava/io/ObjectStreamField;"), (0, .class_ 1104), (0, u "java/lang/String$CaseInsensitiveComparator"), (1, .class_ 1107), (0, u "java/io/Serializable"), (0, .class_ 1109), (0, u "java/lang/Comparable"), (0, .class_ 1111), (0, u "java/lang/constant/Constable"), (0, .class_ 1113), (0, u "java/lang/constant/ConstantDesc"), (2, u "serialVersionUID"), (0, u "J"), (3, u "REPL"), (0, u "C"), (2, u "LATIN1"), (1, u "UTF16")] 323

def k7m0 : Method := { name := "<init>", desc := "()V", sig := { parameters := [], returnType := none }, accessFlags := 1, code := none }
def k7c1 : Code := { maxStack := 5, maxLocals := 2, code := jdk_42_method_3_code, exceptionTable := #[], attributes := #[] }
def k7m1 : Method := { name := "<init>", desc := "([C)V", sig := { parameters := [(.array .char)], returnType := none }, accessFlags := 1, code := some k7c1 }
def k7c2 : Code := { maxStack := 2, maxLocals := 1, code := jdk_42_method_54_code, exceptionTable := #[], attributes := #[] }
def k7m2 : Method := { name := "length", desc := "()I", sig := { parameters := [], returnType := some .int }, accessFlags := 1, code := some k7c2 }
def k7c3 : Code := { maxStack := 2, maxLocals := 2, code := jdk_42_method_56_code, exceptionTable := #[], attributes := #[] }
def k7m3 : Method := { name := "charAt", desc := "(I)C", sig := { parameters := [.int], returnType := some .char }, accessFlags := 1, code := some k7c3 }
def k7c4 : Code := { maxStack := 4, maxLocals := 2, code := jdk_42_method_82_code, exceptionTable := #[], attributes := #[] }
def k7m4 : Method := { name := "lastIndexOf", desc := "(I)I", sig := { parameters := [.int], returnType := some .int }, accessFlags := 1, code := some k7c4 }
def k7c5 : Code := { maxStack := 3, maxLocals := 3, code := jdk_42_method_83_code, exceptionTable := #[], attributes := #[] }
def k7m5 : Method := { name := "lastIndexOf", desc := "(II)I", sig := { parameters := [.int, .int], returnType := some .int }, accessFlags := 1, code := some k7c5 }
def k7c6 : Code := { maxStack := 3, maxLocals := 5, code := jdk_42_method_92_code, exceptionTable := #[], attributes := #[] }
def k7m6 : Method := { name := "substring", desc := "(II)Ljava/lang/String;", sig := { parameters := [.int, .int], returnType := some (.object "java/lang/String") }, accessFlags := 1, code := some k7c6 }
def k7c7 : Code := { maxStack := 4, maxLocals := 6, code := jdk_42_method_149_code, exceptionTable := #[], attributes := #[] }
def k7m7 : Method := { name := "<init>", desc := "([CIILjava/lang/Void;)V", sig := { parameters := [(.array .char), .int, .int, (.object "java/lang/Void")], returnType := none }, accessFlags := 2, code := some k7c7 }
def k7c8 : Code := { maxStack := 2, maxLocals := 3, code := jdk_42_method_151_code, exceptionTable := #[], attributes := #[] }
def k7m8 : Method := { name := "<init>", desc := "([BB)V", sig := { parameters := [(.array .byte), .byte], returnType := none }, accessFlags := 0, code := some k7c8 }
def k7c9 : Code := { maxStack := 1, maxLocals := 1, code := jdk_42_method_152_code, exceptionTable := #[], attributes := #[] }
def k7m9 : Method := { name := "coder", desc := "()B", sig := { parameters := [], returnType := some .byte }, accessFlags := 0, code := some k7c9 }
def k7c10 : Code := { maxStack := 1, maxLocals := 1, code := jdk_42_method_154_code, exceptionTable := #[], attributes := #[] }
def k7m10 : Method := { name := "isLatin1", desc := "()Z", sig := { parameters := [], returnType := some .boolean }, accessFlags := 0, code := some k7c10 }
def k7c11 : Code := { maxStack := 3, maxLocals := 2, code := jdk_42_method_155_code, exceptionTable := #[], attributes := #[] }
def k7m11 : Method := { name := "checkIndex", desc := "(II)V", sig := { parameters := [.int, .int], returnType := none }, accessFlags := 8, code := some k7c11 }
def k7c12 : Code := { maxStack := 4, maxLocals := 3, code := jdk_42_method_157_code, exceptionTable := #[], attributes := #[] }
def k7m12 : Method := { name := "checkBoundsOffCount", desc := "(III)I", sig := { parameters := [.int, .int, .int], returnType := some .int }, accessFlags := 8, code := some k7c12 }
def k7c13 : Code := { maxStack := 4, maxLocals := 3, code := jdk_42_method_158_code, exceptionTable := #[], attributes := #[] }
def k7m13 : Method := { name := "checkBoundsBeginEnd", desc := "(III)V", sig := { parameters := [.int, .int, .int], returnType := none }, accessFlags := 8, code := some k7c13 }
/-- java/lang/String -/
def k7 : Class := { plain "java/lang/String" (some 0) with
  accessFlags := 49
  interfaces := #[2, 3, 4, 5, 6]
  cf := some (fileOf pool7 10 #[.nestMembers #[1103]] #[{ accessFlags := 1, nameIndex := 5, descriptorIndex := 6, attributes := #[] }, { accessFlags := 1, nameIndex := 5, descriptorIndex := 1010, attributes := #[] }, { accessFlags := 1, nameIndex := 507, descriptorIndex := 334, attributes := #[] }, { accessFlags := 1, nameIndex := 497, descriptorIndex := 427, attributes := #[] }, { accessFlags := 1, nameIndex := 643, descriptorIndex := 765, attributes := #[] }, { accessFlags := 1, nameIndex := 643, descriptorIndex := 636, attributes := #[] }, { accessFlags := 1, nameIndex := 683, descriptorIndex := 684, attributes := #[] }, { accessFlags := 2, nameIndex := 5, descriptorIndex := 29, attributes := #[] }, { accessFlags := 0, nameIndex := 5, descriptorIndex := 211, attributes := #[] }, { accessFlags := 0, nameIndex := 17, descriptorIndex := 337, attributes := #[] }, { accessFlags := 0, nameIndex := 494, descriptorIndex := 142, attributes := #[] }, { accessFlags := 8, nameIndex := 501, descriptorIndex := 391, attributes := #[] }, { accessFlags := 8, nameIndex := 36, descriptorIndex := 37, attributes := #[] }, { accessFlags := 8, nameIndex := 523, descriptorIndex := 524, attributes := #[] }] 49 2 #[1106, 1108, 575, 1110, 1112] #[{ accessFlags := 18, nameIndex := 13, descriptorIndex := 14, attributes := #[] }, { accessFlags := 18, nameIndex := 17, descriptorIndex := 18, attributes := #[] }, { accessFlags := 2, nameIndex := 21, descriptorIndex := 22, attributes := #[] }, { accessFlags := 2, nameIndex := 25, descriptorIndex := 26, attributes := #[] }, { accessFlags := 26, nameIndex := 1116, descriptorIndex := 1117, attributes := #[] }, { accessFlags := 24, nameIndex := 40, descriptorIndex := 26, attributes := #[] }, { accessFlags := 26, nameIndex := 1101, descriptorIndex := 1102, attributes := #[] }, { accessFlags := 26, nameIndex := 1121, descriptorIndex := 1122, attributes := #[] }, { accessFlags := 25, nameIndex := 599, descriptorIndex := 600, attributes := #[] }, { accessFlags := 24, nameIndex := 1125, descriptorIndex := 18, attributes := #[] }, { accessFlags := 24, nameIndex := 1127, descriptorIndex := 18, attributes := #[] }])
  fields := #[{ name := "value", type := (.array .byte), accessFlags := 18, slot := 0, constantValue := 0 }, { name := "coder", type := .byte, accessFlags := 18, slot := 1, constantValue := 0 }, { name := "hash", type := .int, accessFlags := 2, slot := 2, constantValue := 0 }, { name := "hashIsZero", type := .boolean, accessFlags := 2, slot := 3, constantValue := 0 }, { name := "serialVersionUID", type := .long, accessFlags := 26, slot := 0, constantValue := 0 }, { name := "COMPACT_STRINGS", type := .boolean, accessFlags := 24, slot := 1, constantValue := 0 }, { name := "serialPersistentFields", type := (.array (.object "java/io/ObjectStreamField")), accessFlags := 26, slot := 2, constantValue := 0 }, { name := "REPL", type := .char, accessFlags := 26, slot := 3, constantValue := 0 }, { name := "CASE_INSENSITIVE_ORDER", type := (.object "java/util/Comparator"), accessFlags := 25, slot := 4, constantValue := 0 }, { name := "LATIN1", type := .byte, accessFlags := 24, slot := 5, constantValue := 0 }, { name := "UTF16", type := .byte, accessFlags := 24, slot := 6, constantValue := 0 }]
  methods := #[k7m0, k7m1, k7m2, k7m3, k7m4, k7m5, k7m6, k7m7, k7m8, k7m9, k7m10, k7m11, k7m12, k7m13]
  instanceTypes := #[(.array .byte), .byte, .int, .boolean]
  staticTypes := #[.long, .boolean, (.array (.object "java/io/ObjectStreamField")), .char, (.object "java/util/Comparator"), .byte, .byte]
  resolved := Array.replicate 1451 none
  statics := some 0 }

def pool8 : Array CpInfo := pool [(1, .class_ 2), (0, u "java/lang/Math"), (1, .class_ 6), (1, u "java/lang/Object"), (0, u "<init>"), (0, u "()V"), (89, .class_ 100), (1, u "java/lang/Math$RandomNumberGeneratorHolder"), (71, u "negativeZeroFloatBits"), (0, u "J"), (2, u "negativeZeroDoubleBits"), (21, u "max"), (2, u "min"), (43, u "$assertionsDisabled"), (0, u "Z"), (88, u "(II)I"), (2, u "twoToTheDoubleScaleDown"), (0, u "D"), (4, u "twoToTheDoubleScaleUp"), (9, u "E"), (3, u "PI"), (2, u "TAU"), (2, u "DEGREES_TO_RADIANS"), (0, u "RADIANS_TO_DEGREES")] 94

def k8m0 : Method := { name := "<init>", desc := "()V", sig := { parameters := [], returnType := none }, accessFlags := 2, code := none }
def k8c1 : Code := { maxStack := 2, maxLocals := 2, code := jdk_29_method_65_code, exceptionTable := #[], attributes := #[] }
def k8m1 : Method := { name := "max", desc := "(II)I", sig := { parameters := [.int, .int], returnType := some .int }, accessFlags := 9, code := some k8c1 }
def k8c2 : Code := { maxStack := 2, maxLocals := 2, code := jdk_29_method_69_code, exceptionTable := #[], attributes := #[] }
def k8m2 : Method := { name := "min", desc := "(II)I", sig := { parameters := [.int, .int], returnType := some .int }, accessFlags := 9, code := some k8c2 }
/-- java/lang/Math -/
def k8 : Class := { plain "java/lang/Math" (some 0) with
  accessFlags := 49
  interfaces := #[]
  cf := some (fileOf pool8 1 #[.nestMembers #[98]] #[{ accessFlags := 2, nameIndex := 7, descriptorIndex := 8, attributes := #[] }, { accessFlags := 9, nameIndex := 198, descriptorIndex := 335, attributes := #[] }, { accessFlags := 9, nameIndex := 201, descriptorIndex := 335, attributes := #[] }] 49 4 #[] #[{ accessFlags := 25, nameIndex := 354, descriptorIndex := 339, attributes := #[] }, { accessFlags := 25, nameIndex := 358, descriptorIndex := 339, attributes := #[] }, { accessFlags := 25, nameIndex := 361, descriptorIndex := 339, attributes := #[] }, { accessFlags := 26, nameIndex := 364, descriptorIndex := 339, attributes := #[] }, { accessFlags := 26, nameIndex := 365, descriptorIndex := 339, attributes := #[] }, { accessFlags := 26, nameIndex := 172, descriptorIndex := 173, attributes := #[] }, { accessFlags := 26, nameIndex := 176, descriptorIndex := 173, attributes := #[] }, { accessFlags := 8, nameIndex := 344, descriptorIndex := 339, attributes := #[] }, { accessFlags := 8, nameIndex := 338, descriptorIndex := 339, attributes := #[] }, { accessFlags := 4120, nameIndex := 245, descriptorIndex := 246, attributes := #[] }])
  fields := #[{ name := "E", type := .double, accessFlags := 25, slot := 0, constantValue := 0 }, { name := "PI", type := .double, accessFlags := 25, slot := 1, constantValue := 0 }, { name := "TAU", type := .double, accessFlags := 25, slot := 2, constantValue := 0 }, { name := "DEGREES_TO_RADIANS", type := .double, accessFlags := 26, slot := 3, constantValue := 0 }, { name := "RADIANS_TO_DEGREES", type := .double, accessFlags := 26, slot := 4, constantValue := 0 }, { name := "negativeZeroFloatBits", type := .long, accessFlags := 26, slot := 5, constantValue := 0 }, { name := "negativeZeroDoubleBits", type := .long, accessFlags := 26, slot := 6, constantValue := 0 }, { name := "twoToTheDoubleScaleUp", type := .double, accessFlags := 8, slot := 7, constantValue := 0 }, { name := "twoToTheDoubleScaleDown", type := .double, accessFlags := 8, slot := 8, constantValue := 0 }, { name := "$assertionsDisabled", type := .boolean, accessFlags := 4120, slot := 9, constantValue := 0 }]
  methods := #[k8m0, k8m1, k8m2]
  instanceTypes := #[]
  staticTypes := #[.double, .double, .double, .double, .double, .long, .long, .double, .double, .boolean]
  resolved := Array.replicate 460 none
  statics := none }

def pool9 : Array CpInfo := pool [(2, .class_ 4), (1, u "java/lang/Object"), (0, u "<init>"), (0, u "()V"), (3, .class_ 12), (1, u "java/lang/String"), (9, u "(I)I"), (25, u "(Ljava/lang/String;)Ljava/lang/String;"), (10, .methodref 10 60), (0, .nameAndType 61 22), (0, u "lastIndexOf"), (0, .methodref 63 64), (0, .class_ 65), (0, .nameAndType 66 67), (0, u "java/lang/Math"), (0, u "max"), (0, u "(II)I"), (0, .methodref 10 69), (0, .nameAndType 70 71), (0, u "substring"), (0, u "(II)Ljava/lang/String;"), (4, .class_ 78), (1, u "com/example/keep_to_layer/keeptolayer/model/ClassNames"), (32, u "packageOf")] 38

def k9m0 : Method := { name := "<init>", desc := "()V", sig := { parameters := [], returnType := none }, accessFlags := 2, code := none }
def k9c1 : Code := { maxStack := 4, maxLocals := 1, code := prog_14_method_4_code, exceptionTable := #[], attributes := #[] }
def k9m1 : Method := { name := "packageOf", desc := "(Ljava/lang/String;)Ljava/lang/String;", sig := { parameters := [(.object "java/lang/String")], returnType := some (.object "java/lang/String") }, accessFlags := 9, code := some k9c1 }
/-- com/example/keep_to_layer/keeptolayer/model/ClassNames -/
def k9 : Class := { plain "com/example/keep_to_layer/keeptolayer/model/ClassNames" (some 0) with
  accessFlags := 33
  interfaces := #[]
  cf := some (fileOf pool9 76 #[] #[{ accessFlags := 2, nameIndex := 5, descriptorIndex := 6, attributes := #[] }, { accessFlags := 9, nameIndex := 111, descriptorIndex := 48, attributes := #[] }] 33 2 #[] #[])
  fields := #[]
  methods := #[k9m0, k9m1]
  instanceTypes := #[]
  staticTypes := #[]
  resolved := Array.replicate 150 none
  statics := none }

def pool10 : Array CpInfo := pool [(1, .class_ 2), (0, u "java/lang/String"), (1, .class_ 6), (1, u "java/lang/Object"), (0, u "<init>"), (0, u "()V"), (0, .methodref 1 10), (0, .nameAndType 11 12), (0, u "checkIndex"), (0, u "(II)V"), (1, .class_ 16), (1, u "java/lang/StringLatin1"), (21, .methodref 39 40), (0, .class_ 41), (0, .nameAndType 42 43), (0, u "java/lang/Math"), (0, u "min"), (0, u "(II)I"), (9, u "([BI)C"), (34, .methodref 14 89), (0, .nameAndType 90 91), (0, u "canEncode"), (0, u "(I)Z"), (20, .methodref 1 113), (0, .nameAndType 7 114), (0, u "([BB)V"), (6, u "$assertionsDisabled"), (0, u "Z"), (8, .class_ 133), (1, u "java/util/Arrays"), (17, .string 152), (0, u ""), (43, u "newString"), (0, u "([BII)Ljava/lang/String;"), (23, .class_ 223), (1, u "java/lang/StringLatin1$LinesSpliterator"), (8, .methodref 131 233), (0, .nameAndType 234 235), (0, u "copyOfRange"), (0, u "([BII)[B"), (16, u "charAt"), (8, u "([BII)I"), (47, u "lastIndexOf"), (80, .class_ 391), (0, u "java/lang/StringLatin1$CharsSpliterator")] 3

def k10m0 : Method := { name := "<init>", desc := "()V", sig := { parameters := [], returnType := none }, accessFlags := 0, code := none }
def k10c1 : Code := { maxStack := 2, maxLocals := 2, code := jdk_43_method_2_code, exceptionTable := #[], attributes := #[] }
def k10m1 : Method := { name := "charAt", desc := "([BI)C", sig := { parameters := [(.array .byte), .int], returnType := some .char }, accessFlags := 9, code := some k10c1 }
def k10c2 : Code := { maxStack := 2, maxLocals := 1, code := jdk_43_method_4_code, exceptionTable := #[], attributes := #[] }
def k10m2 : Method := { name := "canEncode", desc := "(I)Z", sig := { parameters := [.int], returnType := some .boolean }, accessFlags := 9, code := some k10c2 }
def k10c3 : Code := { maxStack := 3, maxLocals := 4, code := jdk_43_method_27_code, exceptionTable := #[], attributes := #[] }
def k10m3 : Method := { name := "lastIndexOf", desc := "([BII)I", sig := { parameters := [(.array .byte), .int, .int], returnType := some .int }, accessFlags := 9, code := some k10c3 }
def k10c4 : Code := { maxStack := 6, maxLocals := 3, code := jdk_43_method_47_code, exceptionTable := #[], attributes := #[] }
def k10m4 : Method := { name := "newString", desc := "([BII)Ljava/lang/String;", sig := { parameters := [(.array .byte), .int, .int], returnType := some (.object "java/lang/String") }, accessFlags := 9, code := some k10c4 }
/-- java/lang/StringLatin1 -/
def k10 : Class := { plain "java/lang/StringLatin1" (some 0) with
  accessFlags := 48
  interfaces := #[]
  cf := some (fileOf pool10 14 #[.nestMembers #[390, 221]] #[{ accessFlags := 0, nameIndex := 7, descriptorIndex := 8, attributes := #[] }, { accessFlags := 9, nameIndex := 252, descriptorIndex := 53, attributes := #[] }, { accessFlags := 9, nameIndex := 90, descriptorIndex := 91, attributes := #[] }, { accessFlags := 9, nameIndex := 309, descriptorIndex := 261, attributes := #[] }, { accessFlags := 9, nameIndex := 196, descriptorIndex := 197, attributes := #[] }] 48 4 #[] #[{ accessFlags := 4120, nameIndex := 121, descriptorIndex := 122, attributes := #[] }])
  fields := #[{ name := "$assertionsDisabled", type := .boolean, accessFlags := 4120, slot := 0, constantValue := 0 }]
  methods := #[k10m0, k10m1, k10m2, k10m3, k10m4]
  instanceTypes := #[]
  staticTypes := #[.boolean]
  resolved := Array.replicate 395 none
  statics := none }

def pool11 : Array CpInfo := pool [(2, .class_ 4), (1, u "java/lang/Object"), (0, u "<init>"), (0, u "()V"), (17, .class_ 26), (1, u "jdk/internal/util/Preconditions"), (6, u "checkIndex"), (13, u "checkFromToIndex"), (1, u "checkFromIndexSize"), (5, .class_ 56), (0, u "jdk/internal/util/Preconditions$4"), (57, .class_ 115), (0, u "jdk/internal/util/Preconditions$1"), (7, u "SIOOBE_FORMATTER"), (0, u "Ljava/util/function/BiFunction;"), (0, .class_ 126), (0, u "jdk/internal/util/Preconditions$2"), (3, u "AIOOBE_FORMATTER"), (0, .class_ 132), (0, u "jdk/internal/util/Preconditions$3"), (3, u "IOOBE_FORMATTER"), (41, u "(IILjava/util/function/BiFunction;)I"), (4, u "(IIILjava/util/function/BiFunction;)I")] 10

def k11m0 : Method := { name := "<init>", desc := "()V", sig := { parameters := [], returnType := none }, accessFlags := 1, code := none }
def k11c1 : Code := { maxStack := 3, maxLocals := 3, code := jdk_41_method_11_code, exceptionTable := #[], attributes := #[] }
def k11m1 : Method := { name := "checkIndex", desc := "(IILjava/util/function/BiFunction;)I", sig := { parameters := [.int, .int, (.object "java/util/function/BiFunction")], returnType := some .int }, accessFlags := 9, code := some k11c1 }
def k11c2 : Code := { maxStack := 4, maxLocals := 4, code := jdk_41_method_12_code, exceptionTable := #[], attributes := #[] }
def k11m2 : Method := { name := "checkFromToIndex", desc := "(IIILjava/util/function/BiFunction;)I", sig := { parameters := [.int, .int, .int, (.object "java/util/function/BiFunction")], returnType := some .int }, accessFlags := 9, code := some k11c2 }
def k11c3 : Code := { maxStack := 4, maxLocals := 4, code := jdk_41_method_13_code, exceptionTable := #[], attributes := #[] }
def k11m3 : Method := { name := "checkFromIndexSize", desc := "(IIILjava/util/function/BiFunction;)I", sig := { parameters := [.int, .int, .int, (.object "java/util/function/BiFunction")], returnType := some .int }, accessFlags := 9, code := some k11c3 }
/-- jdk/internal/util/Preconditions -/
def k11 : Class := { plain "jdk/internal/util/Preconditions" (some 0) with
  accessFlags := 33
  interfaces := #[]
  cf := some (fileOf pool11 24 #[.nestMembers #[55, 131, 125, 114]] #[{ accessFlags := 1, nameIndex := 5, descriptorIndex := 6, attributes := #[] }, { accessFlags := 9, nameIndex := 33, descriptorIndex := 178, attributes := #[] }, { accessFlags := 9, nameIndex := 47, descriptorIndex := 183, attributes := #[] }, { accessFlags := 9, nameIndex := 49, descriptorIndex := 183, attributes := #[] }] 33 2 #[] #[{ accessFlags := 25, nameIndex := 123, descriptorIndex := 124, attributes := #[] }, { accessFlags := 25, nameIndex := 130, descriptorIndex := 124, attributes := #[] }, { accessFlags := 25, nameIndex := 136, descriptorIndex := 124, attributes := #[] }])
  fields := #[{ name := "SIOOBE_FORMATTER", type := (.object "java/util/function/BiFunction"), accessFlags := 25, slot := 0, constantValue := 0 }, { name := "AIOOBE_FORMATTER", type := (.object "java/util/function/BiFunction"), accessFlags := 25, slot := 1, constantValue := 0 }, { name := "IOOBE_FORMATTER", type := (.object "java/util/function/BiFunction"), accessFlags := 25, slot := 2, constantValue := 0 }]
  methods := #[k11m0, k11m1, k11m2, k11m3]
  instanceTypes := #[]
  staticTypes := #[(.object "java/util/function/BiFunction"), (.object "java/util/function/BiFunction"), (.object "java/util/function/BiFunction")]
  resolved := Array.replicate 194 none
  statics := some 1 }

def pool12 : Array CpInfo := pool [(3, .class_ 4), (0, u "java/lang/String"), (1, .class_ 8), (1, u "java/lang/Object"), (0, u "<init>"), (0, u "()V"), (0, .methodref 12 13), (0, .class_ 14), (0, .nameAndType 15 16), (0, u "java/lang/StringUTF16"), (0, u "newBytesLength"), (0, u "(I)I"), (3, .integer 1073741823), (23, .fieldref 12 45), (0, .nameAndType 46 47), (0, u "$assertionsDisabled"), (0, u "Z"), (0, .methodref 12 49), (0, .nameAndType 50 51), (0, u "length"), (0, u "([B)I"), (7, .fieldref 12 60), (0, .nameAndType 61 62), (0, u "HI_BYTE_SHIFT"), (0, u "I"), (0, .fieldref 12 64), (0, .nameAndType 65 62), (0, u "LO_BYTE_SHIFT"), (1, .methodref 12 68), (0, .nameAndType 69 70), (0, u "checkIndex"), (0, u "(I[B)V"), (0, .methodref 12 72), (0, .nameAndType 73 74), (0, u "getChar"), (0, u "([BI)C"), (24, u "(II[B)V"), (7, .methodref 12 108), (0, .nameAndType 109 110), (0, u "newBytesFor"), (0, u "(I)[B"), (0, .methodref 12 112), (0, .nameAndType 113 114), (0, u "putChar"), (0, u "([BII)V"), (0, .methodref 12 116), (0, .nameAndType 117 118), (0, u "compress"), (0, u "([CI[BII)I"), (0, .methodref 12 120), (0, .nameAndType 121 122), (0, u "toBytes"), (0, u "([CII)[B"), (0, .methodref 12 124), (0, .nameAndType 117 125), (0, u "([BI[BII)I"), (0, .methodref 127 128), (0, .class_ 129), (0, .nameAndType 130 131), (0, u "java/util/Arrays"), (0, u "copyOfRange"), (0, u "([BII)[B"), (41, .methodref 12 174), (0, .nameAndType 175 99), (0, u "checkBoundsOffCount"), (7, .methodref 184 185), (0, .class_ 186), (0, .nameAndType 187 188), (0, u "java/lang/Math"), (0, u "min"), (0, u "(II)I"), (38, .integer 65536), (22, u "([BII)I"), (0, .fieldref 3 252), (0, .nameAndType 253 47), (0, u "COMPACT_STRINGS"), (3, .methodref 12 258), (0, .nameAndType 117 131), (0, .methodref 12 260), (0, .nameAndType 261 262), (0, u "coderFromArrayLen"), (0, u "([BI)B"), (0, .methodref 3 264), (0, .nameAndType 9 265), (0, u "([BB)V"), (15, u "(III)I"), (13, .string 296), (0, u ""), (30, u "newString"), (0, u "([BII)Ljava/lang/String;"), (40, .class_ 371), (1, u "java/lang/StringUTF16$LinesSpliterator"), (20, u "charAt"), (21, .methodref 3 415), (0, .nameAndType 69 416), (0, u "(II)V"), (2, .methodref 3 420), (0, .nameAndType 175 281), (9, u "MAX_LENGTH"), (90, u "lastIndexOf"), (105, .class_ 628), (0, u "java/lang/StringUTF16$CodePointsSpliterator"), (0, .class_ 630), (0, u "java/lang/StringUTF16$CharsSpliterator")] 4

def k12m0 : Method := { name := "<init>", desc := "()V", sig := { parameters := [], returnType := none }, accessFlags := 0, code := none }
def k12c1 : Code := { maxStack := 1, maxLocals := 1, code := jdk_52_method_2_code, exceptionTable := #[], attributes := #[] }
def k12m1 : Method := { name := "newBytesFor", desc := "(I)[B", sig := { parameters := [.int], returnType := some (.array .byte) }, accessFlags := 9, code := some k12c1 }
def k12c2 : Code := { maxStack := 4, maxLocals := 1, code := jdk_52_method_3_code, exceptionTable := #[], attributes := #[] }
def k12m2 : Method := { name := "newBytesLength", desc := "(I)I", sig := { parameters := [.int], returnType := some .int }, accessFlags := 9, code := some k12c2 }
def k12c3 : Code := { maxStack := 4, maxLocals := 3, code := jdk_52_method_4_code, exceptionTable := #[], attributes := #[] }
def k12m3 : Method := { name := "putChar", desc := "([BII)V", sig := { parameters := [(.array .byte), .int, .int], returnType := none }, accessFlags := 8, code := some k12c3 }
def k12c4 : Code := { maxStack := 3, maxLocals := 2, code := jdk_52_method_5_code, exceptionTable := #[], attributes := #[] }
def k12m4 : Method := { name := "getChar", desc := "([BI)C", sig := { parameters := [(.array .byte), .int], returnType := some .char }, accessFlags := 8, code := some k12c4 }
def k12c5 : Code := { maxStack := 2, maxLocals := 1, code := jdk_52_method_6_code, exceptionTable := #[], attributes := #[] }
def k12m5 : Method := { name := "length", desc := "([B)I", sig := { parameters := [(.array .byte)], returnType := some .int }, accessFlags := 9, code := some k12c5 }
def k12c6 : Code := { maxStack := 4, maxLocals := 5, code := jdk_52_method_14_code, exceptionTable := #[], attributes := #[] }
def k12m6 : Method := { name := "toBytes", desc := "([CII)[B", sig := { parameters := [(.array .char), .int, .int], returnType := some (.array .byte) }, accessFlags := 9, code := some k12c6 }
def k12c7 : Code := { maxStack := 2, maxLocals := 2, code := jdk_52_method_15_code, exceptionTable := #[], attributes := #[] }
def k12m7 : Method := { name := "coderFromArrayLen", desc := "([BI)B", sig := { parameters := [(.array .byte), .int], returnType := some .byte }, accessFlags := 8, code := some k12c7 }
def k12c8 : Code := { maxStack := 5, maxLocals := 6, code := jdk_52_method_16_code, exceptionTable := #[], attributes := #[] }
def k12m8 : Method := { name := "compress", desc := "([CII)[B", sig := { parameters := [(.array .char), .int, .int], returnType := some (.array .byte) }, accessFlags := 9, code := some k12c8 }
def k12c9 : Code := { maxStack := 5, maxLocals := 6, code := jdk_52_method_17_code, exceptionTable := #[], attributes := #[] }
def k12m9 : Method := { name := "compress", desc := "([BII)[B", sig := { parameters := [(.array .byte), .int, .int], returnType := some (.array .byte) }, accessFlags := 9, code := some k12c9 }
def k12c10 : Code := { maxStack := 3, maxLocals := 7, code := jdk_52_method_21_code, exceptionTable := #[], attributes := #[] }
def k12m10 : Method := { name := "compress", desc := "([CI[BII)I", sig := { parameters := [(.array .char), .int, (.array .byte), .int, .int], returnType := some .int }, accessFlags := 9, code := some k12c10 }
def k12c11 : Code := { maxStack := 3, maxLocals := 7, code := jdk_52_method_22_code, exceptionTable := #[], attributes := #[] }
def k12m11 : Method := { name := "compress", desc := "([BI[BII)I", sig := { parameters := [(.array .byte), .int, (.array .byte), .int, .int], returnType := some .int }, accessFlags := 9, code := some k12c11 }
def k12c12 : Code := { maxStack := 3, maxLocals := 4, code := jdk_52_method_51_code, exceptionTable := #[], attributes := #[] }
def k12m12 : Method := { name := "lastIndexOf", desc := "([BII)I", sig := { parameters := [(.array .byte), .int, .int], returnType := some .int }, accessFlags := 9, code := some k12c12 }
def k12c13 : Code := { maxStack := 6, maxLocals := 5, code := jdk_52_method_69_code, exceptionTable := #[], attributes := #[] }
def k12m13 : Method := { name := "newString", desc := "([BII)Ljava/lang/String;", sig := { parameters := [(.array .byte), .int, .int], returnType := some (.object "java/lang/String") }, accessFlags := 9, code := some k12c13 }
def k12c14 : Code := { maxStack := 2, maxLocals := 2, code := jdk_52_method_83_code, exceptionTable := #[], attributes := #[] }
def k12m14 : Method := { name := "charAt", desc := "([BI)C", sig := { parameters := [(.array .byte), .int], returnType := some .char }, accessFlags := 9, code := some k12c14 }
def k12c15 : Code := { maxStack := 2, maxLocals := 2, code := jdk_52_method_91_code, exceptionTable := #[], attributes := #[] }
def k12m15 : Method := { name := "checkIndex", desc := "(I[B)V", sig := { parameters := [.int, (.array .byte)], returnType := none }, accessFlags := 9, code := some k12c15 }
def k12c16 : Code := { maxStack := 3, maxLocals := 3, code := jdk_52_method_94_code, exceptionTable := #[], attributes := #[] }
def k12m16 : Method := { name := "checkBoundsOffCount", desc := "(II[B)V", sig := { parameters := [.int, .int, (.array .byte)], returnType := none }, accessFlags := 9, code := some k12c16 }
/-- java/lang/StringUTF16 -/
def k12 : Class := { plain "java/lang/StringUTF16" (some 0) with
  accessFlags := 48
  interfaces := #[]
  cf := some (fileOf pool12 12 #[.nestMembers #[627, 629, 369]] #[{ accessFlags := 0, nameIndex := 9, descriptorIndex := 10, attributes := #[] }, { accessFlags := 9, nameIndex := 109, descriptorIndex := 110, attributes := #[] }, { accessFlags := 9, nameIndex := 15, descriptorIndex := 16, attributes := #[] }, { accessFlags := 8, nameIndex := 113, descriptorIndex := 114, attributes := #[] }, { accessFlags := 8, nameIndex := 73, descriptorIndex := 74, attributes := #[] }, { accessFlags := 9, nameIndex := 50, descriptorIndex := 51, attributes := #[] }, { accessFlags := 9, nameIndex := 121, descriptorIndex := 122, attributes := #[] }, { accessFlags := 8, nameIndex := 261, descriptorIndex := 262, attributes := #[] }, { accessFlags := 9, nameIndex := 117, descriptorIndex := 122, attributes := #[] }, { accessFlags := 9, nameIndex := 117, descriptorIndex := 131, attributes := #[] }, { accessFlags := 9, nameIndex := 117, descriptorIndex := 118, attributes := #[] }, { accessFlags := 9, nameIndex := 117, descriptorIndex := 125, attributes := #[] }, { accessFlags := 9, nameIndex := 521, descriptorIndex := 250, attributes := #[] }, { accessFlags := 9, nameIndex := 327, descriptorIndex := 328, attributes := #[] }, { accessFlags := 9, nameIndex := 392, descriptorIndex := 74, attributes := #[] }, { accessFlags := 9, nameIndex := 69, descriptorIndex := 70, attributes := #[] }, { accessFlags := 9, nameIndex := 175, descriptorIndex := 99, attributes := #[] }] 48 6 #[] #[{ accessFlags := 26, nameIndex := 61, descriptorIndex := 62, attributes := #[] }, { accessFlags := 26, nameIndex := 65, descriptorIndex := 62, attributes := #[] }, { accessFlags := 24, nameIndex := 430, descriptorIndex := 62, attributes := #[] }, { accessFlags := 4120, nameIndex := 46, descriptorIndex := 47, attributes := #[] }])
  fields := #[{ name := "HI_BYTE_SHIFT", type := .int, accessFlags := 26, slot := 0, constantValue := 0 }, { name := "LO_BYTE_SHIFT", type := .int, accessFlags := 26, slot := 1, constantValue := 0 }, { name := "MAX_LENGTH", type := .int, accessFlags := 24, slot := 2, constantValue := 0 }, { name := "$assertionsDisabled", type := .boolean, accessFlags := 4120, slot := 3, constantValue := 0 }]
  methods := #[k12m0, k12m1, k12m2, k12m3, k12m4, k12m5, k12m6, k12m7, k12m8, k12m9, k12m10, k12m11, k12m12, k12m13, k12m14, k12m15, k12m16]
  instanceTypes := #[]
  staticTypes := #[.int, .int, .int, .boolean]
  resolved := Array.replicate 635 none
  statics := some 2 }

def pool13 : Array CpInfo := pool [(2, .class_ 4), (1, u "java/lang/Object"), (0, u "<init>"), (0, u "()V"), (7, .class_ 16), (1, u "java/util/Arrays"), (57, .class_ 76), (1, u "java/util/Arrays$NaturalOrder"), (36, .class_ 115), (1, u "java/util/Arrays$LegacyMergeSort"), (1, u "Z"), (21, u "copyOfRange"), (10, .methodref 151 152), (0, .class_ 153), (0, .nameAndType 154 155), (0, u "java/lang/System"), (0, u "arraycopy"), (0, u "(Ljava/lang/Object;ILjava/lang/Object;II)V"), (148, .methodref 305 306), (0, .class_ 307), (0, .nameAndType 308 309), (0, u "java/lang/Math"), (0, u "min"), (0, u "(II)I"), (29, .methodref 14 340), (0, .nameAndType 341 342), (0, u "copyOfRangeByte"), (0, u "([BII)[B"), (0, .methodref 14 344), (0, .nameAndType 345 346), (0, u "checkLength"), (0, u "(II)V"), (28, .class_ 376), (0, u "java/util/Arrays$ArrayList"), (68, u "$assertionsDisabled"), (269, u "MIN_ARRAY_SORT_GRAN"), (0, u "I"), (2, u "INSERTIONSORT_THRESHOLD"), (255, .class_ 976), (0, u "java/util/Arrays$ArrayItr")] 52

def k13m0 : Method := { name := "<init>", desc := "()V", sig := { parameters := [], returnType := none }, accessFlags := 2, code := none }
def k13c1 : Code := { maxStack := 4, maxLocals := 2, code := jdk_65_method_131_code, exceptionTable := #[], attributes := #[] }
def k13m1 : Method := { name := "checkLength", desc := "(II)V", sig := { parameters := [.int, .int], returnType := none }, accessFlags := 10, code := some k13c1 }
def k13c2 : Code := { maxStack := 3, maxLocals := 3, code := jdk_65_method_132_code, exceptionTable := #[], attributes := #[] }
def k13m2 : Method := { name := "copyOfRange", desc := "([BII)[B", sig := { parameters := [(.array .byte), .int, .int], returnType := some (.array .byte) }, accessFlags := 9, code := some k13c2 }
def k13c3 : Code := { maxStack := 6, maxLocals := 5, code := jdk_65_method_133_code, exceptionTable := #[], attributes := #[] }
def k13m3 : Method := { name := "copyOfRangeByte", desc := "([BII)[B", sig := { parameters := [(.array .byte), .int, .int], returnType := some (.array .byte) }, accessFlags := 10, code := some k13c3 }
/-- java/util/Arrays -/
def k13 : Class := { plain "java/util/Arrays" (some 0) with
  accessFlags := 49
  interfaces := #[]
  cf := some (fileOf pool13 14 #[.nestMembers #[975, 375, 113, 74]] #[{ accessFlags := 2, nameIndex := 5, descriptorIndex := 6, attributes := #[] }, { accessFlags := 10, nameIndex := 345, descriptorIndex := 346, attributes := #[] }, { accessFlags := 9, nameIndex := 139, descriptorIndex := 342, attributes := #[] }, { accessFlags := 10, nameIndex := 341, descriptorIndex := 342, attributes := #[] }] 49 2 #[] #[{ accessFlags := 26, nameIndex := 715, descriptorIndex := 716, attributes := #[] }, { accessFlags := 26, nameIndex := 719, descriptorIndex := 716, attributes := #[] }, { accessFlags := 4120, nameIndex := 445, descriptorIndex := 117, attributes := #[] }])
  fields := #[{ name := "MIN_ARRAY_SORT_GRAN", type := .int, accessFlags := 26, slot := 0, constantValue := 0 }, { name := "INSERTIONSORT_THRESHOLD", type := .int, accessFlags := 26, slot := 1, constantValue := 0 }, { name := "$assertionsDisabled", type := .boolean, accessFlags := 4120, slot := 2, constantValue := 0 }]
  methods := #[k13m0, k13m1, k13m2, k13m3]
  instanceTypes := #[]
  staticTypes := #[.int, .int, .boolean]
  resolved := Array.replicate 1029 none
  statics := none }

def pool14 : Array CpInfo := pool [(2, .class_ 4), (1, u "java/lang/Object"), (0, u "<init>"), (0, u "()V"), (1, .class_ 10), (1, u "java/lang/System"), (0, u "allowSecurityManager"), (0, u "I"), (16, u "cons"), (0, u "Ljava/io/Console;"), (77, .class_ 110), (1, u "java/lang/System$CallersHolder"), (43, u "initialErrStream"), (0, u "Ljava/io/PrintStream;"), (19, u "security"), (0, u "Ljava/lang/SecurityManager;"), (31, .class_ 209), (0, u "java/lang/System$1"), (7, u "props"), (0, u "Ljava/util/Properties;"), (2, u "lineSeparator"), (0, u "Ljava/lang/String;"), (96, .class_ 321), (1, u "java/lang/System$LoggerFinder"), (5, .class_ 328), (0, u "java/lang/System$Logger"), (67, u "err"), (2, u "out"), (91, u "notSupportedJnuEncoding"), (15, u "in"), (17, u "initialIn"), (0, u "Ljava/io/InputStream;"), (35, u "bootLayer"), (0, u "Ljava/lang/ModuleLayer;"), (99, .class_ 664), (0, u "java/lang/System$2"), (9, u "NEVER"), (2, u "MAYBE"), (49, u "arraycopy"), (0, u "(Ljava/lang/Object;ILjava/lang/Object;II)V"), (72, .class_ 802), (0, u "java/lang/System$Logger$Level")] 31

def k14m0 : Method := { name := "<init>", desc := "()V", sig := { parameters := [], returnType := none }, accessFlags := 2, code := none }
def k14m1 : Method := { name := "arraycopy", desc := "(Ljava/lang/Object;ILjava/lang/Object;II)V", sig := { parameters := [(.object "java/lang/Object"), .int, (.object "java/lang/Object"), .int, .int], returnType := none }, accessFlags := 265, code := none }
/-- java/lang/System -/
def k14 : Class := { plain "java/lang/System" (some 0) with
  accessFlags := 49
  interfaces := #[]
  cf := some (fileOf pool14 8 #[.nestMembers #[319, 327, 801, 108, 663, 208]] #[{ accessFlags := 2, nameIndex := 5, descriptorIndex := 6, attributes := #[] }, { accessFlags := 265, nameIndex := 727, descriptorIndex := 728, attributes := #[] }] 49 2 #[] #[{ accessFlags := 25, nameIndex := 507, descriptorIndex := 526, attributes := #[] }, { accessFlags := 25, nameIndex := 399, descriptorIndex := 155, attributes := #[] }, { accessFlags := 25, nameIndex := 396, descriptorIndex := 155, attributes := #[] }, { accessFlags := 10, nameIndex := 525, descriptorIndex := 526, attributes := #[] }, { accessFlags := 26, nameIndex := 674, descriptorIndex := 12, attributes := #[] }, { accessFlags := 26, nameIndex := 677, descriptorIndex := 12, attributes := #[] }, { accessFlags := 10, nameIndex := 11, descriptorIndex := 12, attributes := #[] }, { accessFlags := 74, nameIndex := 175, descriptorIndex := 176, attributes := #[] }, { accessFlags := 10, nameIndex := 491, descriptorIndex := 222, attributes := #[] }, { accessFlags := 74, nameIndex := 29, descriptorIndex := 30, attributes := #[] }, { accessFlags := 74, nameIndex := 154, descriptorIndex := 155, attributes := #[] }, { accessFlags := 10, nameIndex := 217, descriptorIndex := 218, attributes := #[] }, { accessFlags := 10, nameIndex := 221, descriptorIndex := 222, attributes := #[] }, { accessFlags := 8, nameIndex := 562, descriptorIndex := 563, attributes := #[] }])
  fields := #[{ name := "in", type := (.object "java/io/InputStream"), accessFlags := 25, slot := 0, constantValue := 0 }, { name := "out", type := (.object "java/io/PrintStream"), accessFlags := 25, slot := 1, constantValue := 0 }, { name := "err", type := (.object "java/io/PrintStream"), accessFlags := 25, slot := 2, constantValue := 0 }, { name := "initialIn", type := (.object "java/io/InputStream"), accessFlags := 10, slot := 3, constantValue := 0 }, { name := "NEVER", type := .int, accessFlags := 26, slot := 4, constantValue := 0 }, { name := "MAYBE", type := .int, accessFlags := 26, slot := 5, constantValue := 0 }, { name := "allowSecurityManager", type := .int, accessFlags := 10, slot := 6, constantValue := 0 }, { name := "security", type := (.object "java/lang/SecurityManager"), accessFlags := 74, slot := 7, constantValue := 0 }, { name := "notSupportedJnuEncoding", type := (.object "java/lang/String"), accessFlags := 10, slot := 8, constantValue := 0 }, { name := "cons", type := (.object "java/io/Console"), accessFlags := 74, slot := 9, constantValue := 0 }, { name := "initialErrStream", type := (.object "java/io/PrintStream"), accessFlags := 74, slot := 10, constantValue := 0 }, { name := "props", type := (.object "java/util/Properties"), accessFlags := 10, slot := 11, constantValue := 0 }, { name := "lineSeparator", type := (.object "java/lang/String"), accessFlags := 10, slot := 12, constantValue := 0 }, { name := "bootLayer", type := (.object "java/lang/ModuleLayer"), accessFlags := 8, slot := 13, constantValue := 0 }]
  methods := #[k14m0, k14m1]
  instanceTypes := #[]
  staticTypes := #[(.object "java/io/InputStream"), (.object "java/io/PrintStream"), (.object "java/io/PrintStream"), (.object "java/io/InputStream"), .int, .int, .int, (.object "java/lang/SecurityManager"), (.object "java/lang/String"), (.object "java/io/Console"), (.object "java/io/PrintStream"), (.object "java/util/Properties"), (.object "java/lang/String"), (.object "java/lang/ModuleLayer")]
  resolved := Array.replicate 834 none
  statics := none }

def pool15 : Array CpInfo := pool [(9, u "<init>"), (6, .class_ 18), (1, u "java/lang/Object"), (0, u "()V"), (1, .class_ 23), (1, u "jdk/internal/util/ArraysSupport"), (0, u "LOG2_ARRAY_LONG_INDEX_SCALE"), (0, u "I"), (2, u "U"), (0, u "Ljdk/internal/misc/Unsafe;"), (8, u "BIG_ENDIAN"), (0, u "Z"), (8, u "LOG2_BYTE_BIT_SIZE"), (4, u "LOG2_ARRAY_INT_INDEX_SCALE"), (54, u "JLA"), (0, u "Ljdk/internal/access/JavaLangAccess;"), (11, u "LOG2_ARRAY_BOOLEAN_INDEX_SCALE"), (9, u "LOG2_ARRAY_BYTE_INDEX_SCALE"), (5, u "LOG2_ARRAY_CHAR_INDEX_SCALE"), (5, u "LOG2_ARRAY_SHORT_INDEX_SCALE"), (18, u "LOG2_ARRAY_FLOAT_INDEX_SCALE"), (24, u "LOG2_ARRAY_DOUBLE_INDEX_SCALE"), (89, u "T_BOOLEAN"), (2, u "T_CHAR"), (1, u "T_FLOAT"), (1, u "T_DOUBLE"), (1, u "T_BYTE"), (1, u "T_SHORT"), (1, u "T_INT"), (1, u "T_LONG"), (1, u "SOFT_MAX_ARRAY_LENGTH")] 83

def k15m0 : Method := { name := "<init>", desc := "()V", sig := { parameters := [], returnType := none }, accessFlags := 2, code := none }
/-- jdk/internal/util/ArraysSupport -/
def k15 : Class := { plain "jdk/internal/util/ArraysSupport" (some 0) with
  accessFlags := 33
  interfaces := #[]
  cf := some (fileOf pool15 21 #[] #[{ accessFlags := 2, nameIndex := 9, descriptorIndex := 19, attributes := #[] }] 33 16 #[] #[{ accessFlags := 24, nameIndex := 28, descriptorIndex := 29, attributes := #[] }, { accessFlags := 26, nameIndex := 38, descriptorIndex := 39, attributes := #[] }, { accessFlags := 25, nameIndex := 121, descriptorIndex := 25, attributes := #[] }, { accessFlags := 25, nameIndex := 131, descriptorIndex := 25, attributes := #[] }, { accessFlags := 25, nameIndex := 137, descriptorIndex := 25, attributes := #[] }, { accessFlags := 25, nameIndex := 143, descriptorIndex := 25, attributes := #[] }, { accessFlags := 25, nameIndex := 53, descriptorIndex := 25, attributes := #[] }, { accessFlags := 25, nameIndex := 24, descriptorIndex := 25, attributes := #[] }, { accessFlags := 25, nameIndex := 162, descriptorIndex := 25, attributes := #[] }, { accessFlags := 25, nameIndex := 187, descriptorIndex := 25, attributes := #[] }, { accessFlags := 26, nameIndex := 48, descriptorIndex := 25, attributes := #[] }, { accessFlags := 25, nameIndex := 277, descriptorIndex := 25, attributes := #[] }, { accessFlags := 25, nameIndex := 280, descriptorIndex := 25, attributes := #[] }, { accessFlags := 25, nameIndex := 282, descriptorIndex := 25, attributes := #[] }, { accessFlags := 25, nameIndex := 284, descriptorIndex := 25, attributes := #[] }, { accessFlags := 25, nameIndex := 286, descriptorIndex := 25, attributes := #[] }, { accessFlags := 25, nameIndex := 288, descriptorIndex := 25, attributes := #[] }, { accessFlags := 25, nameIndex := 290, descriptorIndex := 25, attributes := #[] }, { accessFlags := 25, nameIndex := 292, descriptorIndex := 25, attributes := #[] }, { accessFlags := 26, nameIndex := 108, descriptorIndex := 109, attributes := #[] }, { accessFlags := 25, nameIndex := 294, descriptorIndex := 25, attributes := #[] }])
  fields := #[{ name := "U", type := (.object "jdk/internal/misc/Unsafe"), accessFlags := 24, slot := 0, constantValue := 0 }, { name := "BIG_ENDIAN", type := .boolean, accessFlags := 26, slot := 1, constantValue := 0 }, { name := "LOG2_ARRAY_BOOLEAN_INDEX_SCALE", type := .int, accessFlags := 25, slot := 2, constantValue := 0 }, { name := "LOG2_ARRAY_BYTE_INDEX_SCALE", type := .int, accessFlags := 25, slot := 3, constantValue := 0 }, { name := "LOG2_ARRAY_CHAR_INDEX_SCALE", type := .int, accessFlags := 25, slot := 4, constantValue := 0 }, { name := "LOG2_ARRAY_SHORT_INDEX_SCALE", type := .int, accessFlags := 25, slot := 5, constantValue := 0 }, { name := "LOG2_ARRAY_INT_INDEX_SCALE", type := .int, accessFlags := 25, slot := 6, constantValue := 0 }, { name := "LOG2_ARRAY_LONG_INDEX_SCALE", type := .int, accessFlags := 25, slot := 7, constantValue := 0 }, { name := "LOG2_ARRAY_FLOAT_INDEX_SCALE", type := .int, accessFlags := 25, slot := 8, constantValue := 0 }, { name := "LOG2_ARRAY_DOUBLE_INDEX_SCALE", type := .int, accessFlags := 25, slot := 9, constantValue := 0 }, { name := "LOG2_BYTE_BIT_SIZE", type := .int, accessFlags := 26, slot := 10, constantValue := 0 }, { name := "T_BOOLEAN", type := .int, accessFlags := 25, slot := 11, constantValue := 0 }, { name := "T_CHAR", type := .int, accessFlags := 25, slot := 12, constantValue := 0 }, { name := "T_FLOAT", type := .int, accessFlags := 25, slot := 13, constantValue := 0 }, { name := "T_DOUBLE", type := .int, accessFlags := 25, slot := 14, constantValue := 0 }, { name := "T_BYTE", type := .int, accessFlags := 25, slot := 15, constantValue := 0 }, { name := "T_SHORT", type := .int, accessFlags := 25, slot := 16, constantValue := 0 }, { name := "T_INT", type := .int, accessFlags := 25, slot := 17, constantValue := 0 }, { name := "T_LONG", type := .int, accessFlags := 25, slot := 18, constantValue := 0 }, { name := "JLA", type := (.object "jdk/internal/access/JavaLangAccess"), accessFlags := 26, slot := 19, constantValue := 0 }, { name := "SOFT_MAX_ARRAY_LENGTH", type := .int, accessFlags := 25, slot := 20, constantValue := 0 }]
  methods := #[k15m0]
  instanceTypes := #[]
  staticTypes := #[(.object "jdk/internal/misc/Unsafe"), .boolean, .int, .int, .int, .int, .int, .int, .int, .int, .int, .int, .int, .int, .int, .int, .int, .int, .int, (.object "jdk/internal/access/JavaLangAccess"), .int]
  resolved := Array.replicate 378 none
  statics := none }

def pool16 : Array CpInfo := pool [(1, u "java/lang/Cloneable"), (0, .class_ 1), (0, u "java/lang/Object"), (0, .class_ 3)] 3

/-- java/lang/Cloneable -/
def k16 : Class := { plain "java/lang/Cloneable" (some 0) with
  accessFlags := 1537
  interfaces := #[]
  cf := some (fileOf pool16 2 #[] #[] 1537 4 #[] #[])
  fields := #[]
  methods := #[]
  instanceTypes := #[]
  staticTypes := #[]
  resolved := Array.replicate 8 none
  statics := none }

/-- the primitive byte -/
def k17 : Class := { plain "byte" none with kind := .primitive 'B', accessFlags := 0x411 }
/-- [B -/
def k18 : Class := { plain "[B" (some 0) with kind := .array 17 .byte, interfaces := #[16, 2], accessFlags := 1041 }

/-- the primitive char -/
def k19 : Class := { plain "char" none with kind := .primitive 'C', accessFlags := 0x411 }
/-- [C -/
def k20 : Class := { plain "[C" (some 0) with kind := .array 19 .char, interfaces := #[16, 2], accessFlags := 1041 }

/-- the primitive int -/
def k21 : Class := { plain "int" none with kind := .primitive 'I', accessFlags := 0x411 }
/-- [I -/
def k22 : Class := { plain "[I" (some 0) with kind := .array 21 .int, interfaces := #[16, 2], accessFlags := 1041 }

def heap : Heap := #[{ cls := 7, slots := #[.long 0, .int 1, .null, .int 0, .null, .int 0, .int 0], vm := .statics 7 },
  { cls := 11, slots := #[.null, .null, .null], vm := .statics 11 },
  { cls := 12, slots := #[.int 0, .int 8, .int 0, .int 1], vm := .statics 12 }]
def classes : Array Class := #[k0, k1, k2, k3, k4, k5, k6, k7, k8, k9, k10, k11, k12, k13, k14, k15, k16, k17, k18, k19, k20, k21, k22]
def interned : List (Array UInt16 × Addr) := []
def slotsUsed : Nat := 14
def theMethod : MethodId := ⟨1, 3⟩
def args0 : Array Value := #[.int 3, .int 2, .int 9, .int 8, .int 7]
def aboutOver (below : List Frame) : State where
  vm := { classes := classes, interned := interned.toArray }
  heap := heap
  slotsUsed := slotsUsed
  threads := #[{ frames := .invoking theMethod args0 :: below }]
def below0 : List Frame := [.native { method := ⟨0, 0⟩, args := #[] }]
def about1 : State := aboutOver below0
def p0 : Program := .bare "" "" ""
def e0 : Env := launch0.env 0 0 0
theorem w_frames : about1.frames = Frame.invoking theMethod args0 :: below0 := rfl
set_option maxRecDepth 65536 in
theorem w_args : argsFit about1.vm theMethod args0 = true := by decide +kernel
set_option maxRecDepth 65536 in
theorem w_heap : heapFits about1 = true := by decide +kernel
set_option maxRecDepth 65536 in
theorem w_runnable : about1.curStatus? = some .runnable := by decide +kernel
set_option maxRecDepth 65536 in
theorem w_alone : about1.alone = true := by decide +kernel
set_option maxRecDepth 65536 in
theorem w_named : about1.methodNamed? x = some theMethod := by decide +kernel
set_option maxRecDepth 65536 in
theorem w_hears : about1.hears theMethod below0 = true := by decide +kernel
set_option maxRecDepth 65536 in
theorem w_ripe : about1.ripe theMethod args0 below0 = true := by decide +kernel
theorem w_running : about1.status = .running := rfl
set_option maxRecDepth 65536 in
theorem w_room : about1.hasRoom e0.platform room_1 = true :=
  launch0.hasRoom_least _ room_1 (by decide +kernel) (by decide +kernel) (by decide +kernel) (by decide +kernel) (by decide +kernel) (by decide +kernel)
theorem allAtoms_all (ts : List Jvm.Cond) (a : Array Jvm.Value) (st : Jvm.State) : (allAtoms ts).before a st = ts.all (fun c => c.before a st) := by
  induction ts with
  | nil => rfl
  | cons c t ih =>
    show (Jvm.Cond.and c (allAtoms t)).before a st = _
    rw [Jvm.Cond.before_and, ih, List.all_cons]
def words1 : List Jvm.Cond := Jvm.Cond.code x code maxLocals ret :: tables_1
/-- a 'code' word, met by the world's own term for the bytes: nothing is compared byte by byte -/
theorem code_word {y : MethodName} {bytes : ByteArray} {mx : Nat} {rt : Option FieldType} {a : Array Value} {s : State} {m : MethodId} {meth : Method} {c : Code} (h1 : s.methodNamed? y = some m) (h2 : s.vm.method? m = some meth) (h3 : meth.code = some c) (h4 : c.code = bytes)
    (h5 : (c.maxLocals == mx && c.exceptionTable.isEmpty && decide (c.maxStack ≤ mostOperands) && decide (meth.sig.returnType = rt) && !meth.locks && decide (parseMethodDescriptor y.desc = some meth.sig)) = true) : (Jvm.Cond.code y bytes mx rt).before a s = true := by
  simp only [Bool.and_eq_true, beq_iff_eq, Bool.not_eq_true', decide_eq_true_eq] at h5
  obtain ⟨⟨⟨⟨⟨g1, g2⟩, g3⟩, g4⟩, g5⟩, g6⟩ := h5
  simp [Cond.before, Cond.holds, Cond.value, h1, h2, h3, h4, g1, g2, g3, g4, g5, g6]
def isCode : Jvm.Cond → Bool
  | .code _ _ _ _ => true
  | _ => false
theorem all_split {L : List Jvm.Cond} {P : Jvm.Cond → Bool} (h1 : L.all (fun c => isCode c || P c) = true) (h2 : ∀ c ∈ L.filter isCode, P c = true) : L.all P = true := by
  refine List.all_eq_true.mpr fun c hc => ?_
  have h := List.all_eq_true.mp h1 c hc
  rcases Bool.eq_false_or_eq_true (isCode c) with hi | hi
  · exact h2 c (List.mem_filter.mpr ⟨hc, hi⟩)
  · simpa [hi] using h
set_option maxRecDepth 65536 in
theorem w_c0 : (Jvm.Cond.code x code maxLocals ret).before args0 about1 = true := code_word (m := ⟨1, 3⟩) (meth := k1m3) (c := k1c3) (by decide +kernel) rfl rfl rfl (by decide +kernel)
set_option maxRecDepth 65536 in
theorem w_c1 : (Jvm.Cond.code ({ cls := "com/example/keep_to_layer/keeptolayer/model/ClassNamesPackageOfPinLaw", name := "ch", desc := "(I)C" } : Jvm.MethodName) method_2_code (1 : Nat) (Option.some Jvm.ClassFile.FieldType.char)).before args0 about1 = true := code_word (m := ⟨1, 1⟩) (meth := k1m1) (c := k1c1) (by decide +kernel) rfl rfl rfl (by decide +kernel)
set_option maxRecDepth 65536 in
theorem w_c2 : (Jvm.Cond.code ({ cls := "com/example/keep_to_layer/keeptolayer/model/ClassNamesPackageOfPinLaw", name := "make", desc := "(ICCCC)Ljava/lang/String;" } : Jvm.MethodName) method_3_code (5 : Nat) (Option.some (Jvm.ClassFile.FieldType.object "java/lang/String"))).before args0 about1 = true := code_word (m := ⟨1, 2⟩) (meth := k1m2) (c := k1c2) (by decide +kernel) rfl rfl rfl (by decide +kernel)
set_option maxRecDepth 65536 in
theorem w_c3 : (Jvm.Cond.code ({ cls := "java/lang/String", name := "<init>", desc := "([C)V" } : Jvm.MethodName) jdk_42_method_3_code (2 : Nat) (Option.none : Option Jvm.ClassFile.FieldType)).before args0 about1 = true := code_word (m := ⟨7, 1⟩) (meth := k7m1) (c := k7c1) (by decide +kernel) rfl rfl rfl (by decide +kernel)
set_option maxRecDepth 65536 in
theorem w_c4 : (Jvm.Cond.code ({ cls := "java/lang/String", name := "<init>", desc := "([CIILjava/lang/Void;)V" } : Jvm.MethodName) jdk_42_method_149_code (6 : Nat) (Option.none : Option Jvm.ClassFile.FieldType)).before args0 about1 = true := code_word (m := ⟨7, 7⟩) (meth := k7m7) (c := k7c7) (by decide +kernel) rfl rfl rfl (by decide +kernel)
set_option maxRecDepth 65536 in
theorem w_c5 : (Jvm.Cond.code ({ cls := "java/lang/Object", name := "<init>", desc := "()V" } : Jvm.MethodName) object_method_1_code (1 : Nat) (Option.none : Option Jvm.ClassFile.FieldType)).before args0 about1 = true := code_word (m := ⟨0, 0⟩) (meth := k0m0) (c := k0c0) (by decide +kernel) rfl rfl rfl (by decide +kernel)
set_option maxRecDepth 65536 in
theorem w_c6 : (Jvm.Cond.code ({ cls := "java/lang/Math", name := "max", desc := "(II)I" } : Jvm.MethodName) jdk_29_method_65_code (2 : Nat) (Option.some Jvm.ClassFile.FieldType.int)).before args0 about1 = true := code_word (m := ⟨8, 1⟩) (meth := k8m1) (c := k8c1) (by decide +kernel) rfl rfl rfl (by decide +kernel)
set_option maxRecDepth 65536 in
theorem w_c7 : (Jvm.Cond.code ({ cls := "com/example/keep_to_layer/keeptolayer/model/ClassNames", name := "packageOf", desc := "(Ljava/lang/String;)Ljava/lang/String;" } : Jvm.MethodName) prog_14_method_4_code (1 : Nat) (Option.some (Jvm.ClassFile.FieldType.object "java/lang/String"))).before args0 about1 = true := code_word (m := ⟨9, 1⟩) (meth := k9m1) (c := k9c1) (by decide +kernel) rfl rfl rfl (by decide +kernel)
set_option maxRecDepth 65536 in
theorem w_c8 : (Jvm.Cond.code ({ cls := "java/lang/String", name := "lastIndexOf", desc := "(I)I" } : Jvm.MethodName) jdk_42_method_82_code (2 : Nat) (Option.some Jvm.ClassFile.FieldType.int)).before args0 about1 = true := code_word (m := ⟨7, 4⟩) (meth := k7m4) (c := k7c4) (by decide +kernel) rfl rfl rfl (by decide +kernel)
set_option maxRecDepth 65536 in
theorem w_c9 : (Jvm.Cond.code ({ cls := "java/lang/String", name := "length", desc := "()I" } : Jvm.MethodName) jdk_42_method_54_code (1 : Nat) (Option.some Jvm.ClassFile.FieldType.int)).before args0 about1 = true := code_word (m := ⟨7, 2⟩) (meth := k7m2) (c := k7c2) (by decide +kernel) rfl rfl rfl (by decide +kernel)
set_option maxRecDepth 65536 in
theorem w_c10 : (Jvm.Cond.code ({ cls := "java/lang/String", name := "coder", desc := "()B" } : Jvm.MethodName) jdk_42_method_152_code (1 : Nat) (Option.some Jvm.ClassFile.FieldType.byte)).before args0 about1 = true := code_word (m := ⟨7, 9⟩) (meth := k7m9) (c := k7c9) (by decide +kernel) rfl rfl rfl (by decide +kernel)
set_option maxRecDepth 65536 in
theorem w_c11 : (Jvm.Cond.code ({ cls := "java/lang/String", name := "lastIndexOf", desc := "(II)I" } : Jvm.MethodName) jdk_42_method_83_code (3 : Nat) (Option.some Jvm.ClassFile.FieldType.int)).before args0 about1 = true := code_word (m := ⟨7, 5⟩) (meth := k7m5) (c := k7c5) (by decide +kernel) rfl rfl rfl (by decide +kernel)
set_option maxRecDepth 65536 in
theorem w_c12 : (Jvm.Cond.code ({ cls := "java/lang/String", name := "isLatin1", desc := "()Z" } : Jvm.MethodName) jdk_42_method_154_code (1 : Nat) (Option.some Jvm.ClassFile.FieldType.boolean)).before args0 about1 = true := code_word (m := ⟨7, 10⟩) (meth := k7m10) (c := k7c10) (by decide +kernel) rfl rfl rfl (by decide +kernel)
set_option maxRecDepth 65536 in
theorem w_c13 : (Jvm.Cond.code ({ cls := "java/lang/StringLatin1", name := "lastIndexOf", desc := "([BII)I" } : Jvm.MethodName) jdk_43_method_27_code (4 : Nat) (Option.some Jvm.ClassFile.FieldType.int)).before args0 about1 = true := code_word (m := ⟨10, 3⟩) (meth := k10m3) (c := k10c3) (by decide +kernel) rfl rfl rfl (by decide +kernel)
set_option maxRecDepth 65536 in
theorem w_c14 : (Jvm.Cond.code ({ cls := "java/lang/StringLatin1", name := "canEncode", desc := "(I)Z" } : Jvm.MethodName) jdk_43_method_4_code (1 : Nat) (Option.some Jvm.ClassFile.FieldType.boolean)).before args0 about1 = true := code_word (m := ⟨10, 2⟩) (meth := k10m2) (c := k10c2) (by decide +kernel) rfl rfl rfl (by decide +kernel)
set_option maxRecDepth 65536 in
theorem w_c15 : (Jvm.Cond.code ({ cls := "java/lang/Math", name := "min", desc := "(II)I" } : Jvm.MethodName) jdk_29_method_69_code (2 : Nat) (Option.some Jvm.ClassFile.FieldType.int)).before args0 about1 = true := code_word (m := ⟨8, 2⟩) (meth := k8m2) (c := k8c2) (by decide +kernel) rfl rfl rfl (by decide +kernel)
set_option maxRecDepth 65536 in
theorem w_c16 : (Jvm.Cond.code ({ cls := "java/lang/String", name := "substring", desc := "(II)Ljava/lang/String;" } : Jvm.MethodName) jdk_42_method_92_code (5 : Nat) (Option.some (Jvm.ClassFile.FieldType.object "java/lang/String"))).before args0 about1 = true := code_word (m := ⟨7, 6⟩) (meth := k7m6) (c := k7c6) (by decide +kernel) rfl rfl rfl (by decide +kernel)
set_option maxRecDepth 65536 in
theorem w_c17 : (Jvm.Cond.code ({ cls := "java/lang/String", name := "checkBoundsBeginEnd", desc := "(III)V" } : Jvm.MethodName) jdk_42_method_158_code (3 : Nat) (Option.none : Option Jvm.ClassFile.FieldType)).before args0 about1 = true := code_word (m := ⟨7, 13⟩) (meth := k7m13) (c := k7c13) (by decide +kernel) rfl rfl rfl (by decide +kernel)
set_option maxRecDepth 65536 in
theorem w_c18 : (Jvm.Cond.code ({ cls := "jdk/internal/util/Preconditions", name := "checkFromToIndex", desc := "(IIILjava/util/function/BiFunction;)I" } : Jvm.MethodName) jdk_41_method_12_code (4 : Nat) (Option.some Jvm.ClassFile.FieldType.int)).before args0 about1 = true := code_word (m := ⟨11, 2⟩) (meth := k11m2) (c := k11c2) (by decide +kernel) rfl rfl rfl (by decide +kernel)
set_option maxRecDepth 65536 in
theorem w_c19 : (Jvm.Cond.code ({ cls := "java/lang/StringUTF16", name := "compress", desc := "([CII)[B" } : Jvm.MethodName) jdk_52_method_16_code (6 : Nat) (Option.some (Jvm.ClassFile.FieldType.array Jvm.ClassFile.FieldType.byte))).before args0 about1 = true := code_word (m := ⟨12, 8⟩) (meth := k12m8) (c := k12c8) (by decide +kernel) rfl rfl rfl (by decide +kernel)
set_option maxRecDepth 65536 in
theorem w_c20 : (Jvm.Cond.code ({ cls := "java/lang/StringUTF16", name := "compress", desc := "([CI[BII)I" } : Jvm.MethodName) jdk_52_method_21_code (7 : Nat) (Option.some Jvm.ClassFile.FieldType.int)).before args0 about1 = true := code_word (m := ⟨12, 10⟩) (meth := k12m10) (c := k12c10) (by decide +kernel) rfl rfl rfl (by decide +kernel)
set_option maxRecDepth 65536 in
theorem w_c21 : (Jvm.Cond.code ({ cls := "java/lang/StringUTF16", name := "coderFromArrayLen", desc := "([BI)B" } : Jvm.MethodName) jdk_52_method_15_code (2 : Nat) (Option.some Jvm.ClassFile.FieldType.byte)).before args0 about1 = true := code_word (m := ⟨12, 7⟩) (meth := k12m7) (c := k12c7) (by decide +kernel) rfl rfl rfl (by decide +kernel)
set_option maxRecDepth 65536 in
theorem w_c22 : (Jvm.Cond.code ({ cls := "java/lang/StringLatin1", name := "newString", desc := "([BII)Ljava/lang/String;" } : Jvm.MethodName) jdk_43_method_47_code (3 : Nat) (Option.some (Jvm.ClassFile.FieldType.object "java/lang/String"))).before args0 about1 = true := code_word (m := ⟨10, 4⟩) (meth := k10m4) (c := k10c4) (by decide +kernel) rfl rfl rfl (by decide +kernel)
set_option maxRecDepth 65536 in
theorem w_c23 : (Jvm.Cond.code ({ cls := "java/lang/StringUTF16", name := "toBytes", desc := "([CII)[B" } : Jvm.MethodName) jdk_52_method_14_code (5 : Nat) (Option.some (Jvm.ClassFile.FieldType.array Jvm.ClassFile.FieldType.byte))).before args0 about1 = true := code_word (m := ⟨12, 6⟩) (meth := k12m6) (c := k12c6) (by decide +kernel) rfl rfl rfl (by decide +kernel)
set_option maxRecDepth 65536 in
theorem w_c24 : (Jvm.Cond.code ({ cls := "java/lang/StringUTF16", name := "newBytesFor", desc := "(I)[B" } : Jvm.MethodName) jdk_52_method_2_code (1 : Nat) (Option.some (Jvm.ClassFile.FieldType.array Jvm.ClassFile.FieldType.byte))).before args0 about1 = true := code_word (m := ⟨12, 1⟩) (meth := k12m1) (c := k12c1) (by decide +kernel) rfl rfl rfl (by decide +kernel)
set_option maxRecDepth 65536 in
theorem w_c25 : (Jvm.Cond.code ({ cls := "java/lang/StringUTF16", name := "newBytesLength", desc := "(I)I" } : Jvm.MethodName) jdk_52_method_3_code (1 : Nat) (Option.some Jvm.ClassFile.FieldType.int)).before args0 about1 = true := code_word (m := ⟨12, 2⟩) (meth := k12m2) (c := k12c2) (by decide +kernel) rfl rfl rfl (by decide +kernel)
set_option maxRecDepth 65536 in
theorem w_c26 : (Jvm.Cond.code ({ cls := "java/lang/StringUTF16", name := "putChar", desc := "([BII)V" } : Jvm.MethodName) jdk_52_method_4_code (3 : Nat) (Option.none : Option Jvm.ClassFile.FieldType)).before args0 about1 = true := code_word (m := ⟨12, 3⟩) (meth := k12m3) (c := k12c3) (by decide +kernel) rfl rfl rfl (by decide +kernel)
set_option maxRecDepth 65536 in
theorem w_c27 : (Jvm.Cond.code ({ cls := "java/lang/StringUTF16", name := "getChar", desc := "([BI)C" } : Jvm.MethodName) jdk_52_method_5_code (2 : Nat) (Option.some Jvm.ClassFile.FieldType.char)).before args0 about1 = true := code_word (m := ⟨12, 4⟩) (meth := k12m4) (c := k12c4) (by decide +kernel) rfl rfl rfl (by decide +kernel)
set_option maxRecDepth 65536 in
theorem w_c28 : (Jvm.Cond.code ({ cls := "java/lang/StringUTF16", name := "lastIndexOf", desc := "([BII)I" } : Jvm.MethodName) jdk_52_method_51_code (4 : Nat) (Option.some Jvm.ClassFile.FieldType.int)).before args0 about1 = true := code_word (m := ⟨12, 12⟩) (meth := k12m12) (c := k12c12) (by decide +kernel) rfl rfl rfl (by decide +kernel)
set_option maxRecDepth 65536 in
theorem w_c29 : (Jvm.Cond.code ({ cls := "java/lang/StringUTF16", name := "newString", desc := "([BII)Ljava/lang/String;" } : Jvm.MethodName) jdk_52_method_69_code (5 : Nat) (Option.some (Jvm.ClassFile.FieldType.object "java/lang/String"))).before args0 about1 = true := code_word (m := ⟨12, 13⟩) (meth := k12m13) (c := k12c13) (by decide +kernel) rfl rfl rfl (by decide +kernel)
set_option maxRecDepth 65536 in
theorem w_c30 : (Jvm.Cond.code ({ cls := "java/lang/StringUTF16", name := "compress", desc := "([BII)[B" } : Jvm.MethodName) jdk_52_method_17_code (6 : Nat) (Option.some (Jvm.ClassFile.FieldType.array Jvm.ClassFile.FieldType.byte))).before args0 about1 = true := code_word (m := ⟨12, 9⟩) (meth := k12m9) (c := k12c9) (by decide +kernel) rfl rfl rfl (by decide +kernel)
set_option maxRecDepth 65536 in
theorem w_c31 : (Jvm.Cond.code ({ cls := "java/lang/StringUTF16", name := "compress", desc := "([BI[BII)I" } : Jvm.MethodName) jdk_52_method_22_code (7 : Nat) (Option.some Jvm.ClassFile.FieldType.int)).before args0 about1 = true := code_word (m := ⟨12, 11⟩) (meth := k12m11) (c := k12c11) (by decide +kernel) rfl rfl rfl (by decide +kernel)
set_option maxRecDepth 65536 in
theorem w_c32 : (Jvm.Cond.code ({ cls := "java/lang/StringUTF16", name := "checkBoundsOffCount", desc := "(II[B)V" } : Jvm.MethodName) jdk_52_method_94_code (3 : Nat) (Option.none : Option Jvm.ClassFile.FieldType)).before args0 about1 = true := code_word (m := ⟨12, 16⟩) (meth := k12m16) (c := k12c16) (by decide +kernel) rfl rfl rfl (by decide +kernel)
set_option maxRecDepth 65536 in
theorem w_c33 : (Jvm.Cond.code ({ cls := "java/lang/StringUTF16", name := "length", desc := "([B)I" } : Jvm.MethodName) jdk_52_method_6_code (1 : Nat) (Option.some Jvm.ClassFile.FieldType.int)).before args0 about1 = true := code_word (m := ⟨12, 5⟩) (meth := k12m5) (c := k12c5) (by decide +kernel) rfl rfl rfl (by decide +kernel)
set_option maxRecDepth 65536 in
theorem w_c34 : (Jvm.Cond.code ({ cls := "java/lang/String", name := "checkBoundsOffCount", desc := "(III)I" } : Jvm.MethodName) jdk_42_method_157_code (3 : Nat) (Option.some Jvm.ClassFile.FieldType.int)).before args0 about1 = true := code_word (m := ⟨7, 12⟩) (meth := k7m12) (c := k7c12) (by decide +kernel) rfl rfl rfl (by decide +kernel)
set_option maxRecDepth 65536 in
theorem w_c35 : (Jvm.Cond.code ({ cls := "jdk/internal/util/Preconditions", name := "checkFromIndexSize", desc := "(IIILjava/util/function/BiFunction;)I" } : Jvm.MethodName) jdk_41_method_13_code (4 : Nat) (Option.some Jvm.ClassFile.FieldType.int)).before args0 about1 = true := code_word (m := ⟨11, 3⟩) (meth := k11m3) (c := k11c3) (by decide +kernel) rfl rfl rfl (by decide +kernel)
set_option maxRecDepth 65536 in
theorem w_c36 : (Jvm.Cond.code ({ cls := "java/util/Arrays", name := "copyOfRange", desc := "([BII)[B" } : Jvm.MethodName) jdk_65_method_132_code (3 : Nat) (Option.some (Jvm.ClassFile.FieldType.array Jvm.ClassFile.FieldType.byte))).before args0 about1 = true := code_word (m := ⟨13, 2⟩) (meth := k13m2) (c := k13c2) (by decide +kernel) rfl rfl rfl (by decide +kernel)
set_option maxRecDepth 65536 in
theorem w_c37 : (Jvm.Cond.code ({ cls := "java/util/Arrays", name := "copyOfRangeByte", desc := "([BII)[B" } : Jvm.MethodName) jdk_65_method_133_code (5 : Nat) (Option.some (Jvm.ClassFile.FieldType.array Jvm.ClassFile.FieldType.byte))).before args0 about1 = true := code_word (m := ⟨13, 3⟩) (meth := k13m3) (c := k13c3) (by decide +kernel) rfl rfl rfl (by decide +kernel)
set_option maxRecDepth 65536 in
theorem w_c38 : (Jvm.Cond.code ({ cls := "java/util/Arrays", name := "checkLength", desc := "(II)V" } : Jvm.MethodName) jdk_65_method_131_code (2 : Nat) (Option.none : Option Jvm.ClassFile.FieldType)).before args0 about1 = true := code_word (m := ⟨13, 1⟩) (meth := k13m1) (c := k13c1) (by decide +kernel) rfl rfl rfl (by decide +kernel)
set_option maxRecDepth 65536 in
theorem w_c39 : (Jvm.Cond.code ({ cls := "java/lang/String", name := "<init>", desc := "([BB)V" } : Jvm.MethodName) jdk_42_method_151_code (3 : Nat) (Option.none : Option Jvm.ClassFile.FieldType)).before args0 about1 = true := code_word (m := ⟨7, 8⟩) (meth := k7m8) (c := k7c8) (by decide +kernel) rfl rfl rfl (by decide +kernel)
set_option maxRecDepth 65536 in
theorem w_c40 : (Jvm.Cond.code ({ cls := "java/lang/String", name := "charAt", desc := "(I)C" } : Jvm.MethodName) jdk_42_method_56_code (2 : Nat) (Option.some Jvm.ClassFile.FieldType.char)).before args0 about1 = true := code_word (m := ⟨7, 3⟩) (meth := k7m3) (c := k7c3) (by decide +kernel) rfl rfl rfl (by decide +kernel)
set_option maxRecDepth 65536 in
theorem w_c41 : (Jvm.Cond.code ({ cls := "java/lang/StringUTF16", name := "charAt", desc := "([BI)C" } : Jvm.MethodName) jdk_52_method_83_code (2 : Nat) (Option.some Jvm.ClassFile.FieldType.char)).before args0 about1 = true := code_word (m := ⟨12, 14⟩) (meth := k12m14) (c := k12c14) (by decide +kernel) rfl rfl rfl (by decide +kernel)
set_option maxRecDepth 65536 in
theorem w_c42 : (Jvm.Cond.code ({ cls := "java/lang/StringUTF16", name := "checkIndex", desc := "(I[B)V" } : Jvm.MethodName) jdk_52_method_91_code (2 : Nat) (Option.none : Option Jvm.ClassFile.FieldType)).before args0 about1 = true := code_word (m := ⟨12, 15⟩) (meth := k12m15) (c := k12c15) (by decide +kernel) rfl rfl rfl (by decide +kernel)
set_option maxRecDepth 65536 in
theorem w_c43 : (Jvm.Cond.code ({ cls := "java/lang/String", name := "checkIndex", desc := "(II)V" } : Jvm.MethodName) jdk_42_method_155_code (2 : Nat) (Option.none : Option Jvm.ClassFile.FieldType)).before args0 about1 = true := code_word (m := ⟨7, 11⟩) (meth := k7m11) (c := k7c11) (by decide +kernel) rfl rfl rfl (by decide +kernel)
set_option maxRecDepth 65536 in
theorem w_c44 : (Jvm.Cond.code ({ cls := "jdk/internal/util/Preconditions", name := "checkIndex", desc := "(IILjava/util/function/BiFunction;)I" } : Jvm.MethodName) jdk_41_method_11_code (3 : Nat) (Option.some Jvm.ClassFile.FieldType.int)).before args0 about1 = true := code_word (m := ⟨11, 1⟩) (meth := k11m1) (c := k11c1) (by decide +kernel) rfl rfl rfl (by decide +kernel)
set_option maxRecDepth 65536 in
theorem w_c45 : (Jvm.Cond.code ({ cls := "java/lang/StringLatin1", name := "charAt", desc := "([BI)C" } : Jvm.MethodName) jdk_43_method_2_code (2 : Nat) (Option.some Jvm.ClassFile.FieldType.char)).before args0 about1 = true := code_word (m := ⟨10, 1⟩) (meth := k10m1) (c := k10c1) (by decide +kernel) rfl rfl rfl (by decide +kernel)
def codes1 : List Jvm.Cond := [Jvm.Cond.code x code maxLocals ret, Jvm.Cond.code ({ cls := "com/example/keep_to_layer/keeptolayer/model/ClassNamesPackageOfPinLaw", name := "ch", desc := "(I)C" } : Jvm.MethodName) method_2_code (1 : Nat) (Option.some Jvm.ClassFile.FieldType.char), Jvm.Cond.code ({ cls := "com/example/keep_to_layer/keeptolayer/model/ClassNamesPackageOfPinLaw", name := "make", desc := "(ICCCC)Ljava/lang/String;" } : Jvm.MethodName) method_3_code (5 : Nat) (Option.some (Jvm.ClassFile.FieldType.object "java/lang/String")), Jvm.Cond.code ({ cls := "java/lang/String", name := "<init>", desc := "([C)V" } : Jvm.MethodName) jdk_42_method_3_code (2 : Nat) (Option.none : Option Jvm.ClassFile.FieldType), Jvm.Cond.code ({ cls := "java/lang/String", name := "<init>", desc := "([CIILjava/lang/Void;)V" } : Jvm.MethodName) jdk_42_method_149_code (6 : Nat) (Option.none : Option Jvm.ClassFile.FieldType), Jvm.Cond.code ({ cls := "java/lang/Object", name := "<init>", desc := "()V" } : Jvm.MethodName) object_method_1_code (1 : Nat) (Option.none : Option Jvm.ClassFile.FieldType), Jvm.Cond.code ({ cls := "java/lang/Math", name := "max", desc := "(II)I" } : Jvm.MethodName) jdk_29_method_65_code (2 : Nat) (Option.some Jvm.ClassFile.FieldType.int), Jvm.Cond.code ({ cls := "com/example/keep_to_layer/keeptolayer/model/ClassNames", name := "packageOf", desc := "(Ljava/lang/String;)Ljava/lang/String;" } : Jvm.MethodName) prog_14_method_4_code (1 : Nat) (Option.some (Jvm.ClassFile.FieldType.object "java/lang/String")), Jvm.Cond.code ({ cls := "java/lang/String", name := "lastIndexOf", desc := "(I)I" } : Jvm.MethodName) jdk_42_method_82_code (2 : Nat) (Option.some Jvm.ClassFile.FieldType.int), Jvm.Cond.code ({ cls := "java/lang/String", name := "length", desc := "()I" } : Jvm.MethodName) jdk_42_method_54_code (1 : Nat) (Option.some Jvm.ClassFile.FieldType.int), Jvm.Cond.code ({ cls := "java/lang/String", name := "coder", desc := "()B" } : Jvm.MethodName) jdk_42_method_152_code (1 : Nat) (Option.some Jvm.ClassFile.FieldType.byte), Jvm.Cond.code ({ cls := "java/lang/String", name := "lastIndexOf", desc := "(II)I" } : Jvm.MethodName) jdk_42_method_83_code (3 : Nat) (Option.some Jvm.ClassFile.FieldType.int), Jvm.Cond.code ({ cls := "java/lang/String", name := "isLatin1", desc := "()Z" } : Jvm.MethodName) jdk_42_method_154_code (1 : Nat) (Option.some Jvm.ClassFile.FieldType.boolean), Jvm.Cond.code ({ cls := "java/lang/StringLatin1", name := "lastIndexOf", desc := "([BII)I" } : Jvm.MethodName) jdk_43_method_27_code (4 : Nat) (Option.some Jvm.ClassFile.FieldType.int), Jvm.Cond.code ({ cls := "java/lang/StringLatin1", name := "canEncode", desc := "(I)Z" } : Jvm.MethodName) jdk_43_method_4_code (1 : Nat) (Option.some Jvm.ClassFile.FieldType.boolean), Jvm.Cond.code ({ cls := "java/lang/Math", name := "min", desc := "(II)I" } : Jvm.MethodName) jdk_29_method_69_code (2 : Nat) (Option.some Jvm.ClassFile.FieldType.int), Jvm.Cond.code ({ cls := "java/lang/String", name := "substring", desc := "(II)Ljava/lang/String;" } : Jvm.MethodName) jdk_42_method_92_code (5 : Nat) (Option.some (Jvm.ClassFile.FieldType.object "java/lang/String")), Jvm.Cond.code ({ cls := "java/lang/String", name := "checkBoundsBeginEnd", desc := "(III)V" } : Jvm.MethodName) jdk_42_method_158_code (3 : Nat) (Option.none : Option Jvm.ClassFile.FieldType), Jvm.Cond.code ({ cls := "jdk/internal/util/Preconditions", name := "checkFromToIndex", desc := "(IIILjava/util/function/BiFunction;)I" } : Jvm.MethodName) jdk_41_method_12_code (4 : Nat) (Option.some Jvm.ClassFile.FieldType.int), Jvm.Cond.code ({ cls := "java/lang/StringUTF16", name := "compress", desc := "([CII)[B" } : Jvm.MethodName) jdk_52_method_16_code (6 : Nat) (Option.some (Jvm.ClassFile.FieldType.array Jvm.ClassFile.FieldType.byte)), Jvm.Cond.code ({ cls := "java/lang/StringUTF16", name := "compress", desc := "([CI[BII)I" } : Jvm.MethodName) jdk_52_method_21_code (7 : Nat) (Option.some Jvm.ClassFile.FieldType.int), Jvm.Cond.code ({ cls := "java/lang/StringUTF16", name := "coderFromArrayLen", desc := "([BI)B" } : Jvm.MethodName) jdk_52_method_15_code (2 : Nat) (Option.some Jvm.ClassFile.FieldType.byte), Jvm.Cond.code ({ cls := "java/lang/StringLatin1", name := "newString", desc := "([BII)Ljava/lang/String;" } : Jvm.MethodName) jdk_43_method_47_code (3 : Nat) (Option.some (Jvm.ClassFile.FieldType.object "java/lang/String")), Jvm.Cond.code ({ cls := "java/lang/StringUTF16", name := "toBytes", desc := "([CII)[B" } : Jvm.MethodName) jdk_52_method_14_code (5 : Nat) (Option.some (Jvm.ClassFile.FieldType.array Jvm.ClassFile.FieldType.byte)), Jvm.Cond.code ({ cls := "java/lang/StringUTF16", name := "newBytesFor", desc := "(I)[B" } : Jvm.MethodName) jdk_52_method_2_code (1 : Nat) (Option.some (Jvm.ClassFile.FieldType.array Jvm.ClassFile.FieldType.byte)), Jvm.Cond.code ({ cls := "java/lang/StringUTF16", name := "newBytesLength", desc := "(I)I" } : Jvm.MethodName) jdk_52_method_3_code (1 : Nat) (Option.some Jvm.ClassFile.FieldType.int), Jvm.Cond.code ({ cls := "java/lang/StringUTF16", name := "putChar", desc := "([BII)V" } : Jvm.MethodName) jdk_52_method_4_code (3 : Nat) (Option.none : Option Jvm.ClassFile.FieldType), Jvm.Cond.code ({ cls := "java/lang/StringUTF16", name := "getChar", desc := "([BI)C" } : Jvm.MethodName) jdk_52_method_5_code (2 : Nat) (Option.some Jvm.ClassFile.FieldType.char), Jvm.Cond.code ({ cls := "java/lang/StringUTF16", name := "lastIndexOf", desc := "([BII)I" } : Jvm.MethodName) jdk_52_method_51_code (4 : Nat) (Option.some Jvm.ClassFile.FieldType.int), Jvm.Cond.code ({ cls := "java/lang/StringUTF16", name := "newString", desc := "([BII)Ljava/lang/String;" } : Jvm.MethodName) jdk_52_method_69_code (5 : Nat) (Option.some (Jvm.ClassFile.FieldType.object "java/lang/String")), Jvm.Cond.code ({ cls := "java/lang/StringUTF16", name := "compress", desc := "([BII)[B" } : Jvm.MethodName) jdk_52_method_17_code (6 : Nat) (Option.some (Jvm.ClassFile.FieldType.array Jvm.ClassFile.FieldType.byte)), Jvm.Cond.code ({ cls := "java/lang/StringUTF16", name := "compress", desc := "([BI[BII)I" } : Jvm.MethodName) jdk_52_method_22_code (7 : Nat) (Option.some Jvm.ClassFile.FieldType.int), Jvm.Cond.code ({ cls := "java/lang/StringUTF16", name := "checkBoundsOffCount", desc := "(II[B)V" } : Jvm.MethodName) jdk_52_method_94_code (3 : Nat) (Option.none : Option Jvm.ClassFile.FieldType), Jvm.Cond.code ({ cls := "java/lang/StringUTF16", name := "length", desc := "([B)I" } : Jvm.MethodName) jdk_52_method_6_code (1 : Nat) (Option.some Jvm.ClassFile.FieldType.int), Jvm.Cond.code ({ cls := "java/lang/String", name := "checkBoundsOffCount", desc := "(III)I" } : Jvm.MethodName) jdk_42_method_157_code (3 : Nat) (Option.some Jvm.ClassFile.FieldType.int), Jvm.Cond.code ({ cls := "jdk/internal/util/Preconditions", name := "checkFromIndexSize", desc := "(IIILjava/util/function/BiFunction;)I" } : Jvm.MethodName) jdk_41_method_13_code (4 : Nat) (Option.some Jvm.ClassFile.FieldType.int), Jvm.Cond.code ({ cls := "java/util/Arrays", name := "copyOfRange", desc := "([BII)[B" } : Jvm.MethodName) jdk_65_method_132_code (3 : Nat) (Option.some (Jvm.ClassFile.FieldType.array Jvm.ClassFile.FieldType.byte)), Jvm.Cond.code ({ cls := "java/util/Arrays", name := "copyOfRangeByte", desc := "([BII)[B" } : Jvm.MethodName) jdk_65_method_133_code (5 : Nat) (Option.some (Jvm.ClassFile.FieldType.array Jvm.ClassFile.FieldType.byte)), Jvm.Cond.code ({ cls := "java/util/Arrays", name := "checkLength", desc := "(II)V" } : Jvm.MethodName) jdk_65_method_131_code (2 : Nat) (Option.none : Option Jvm.ClassFile.FieldType), Jvm.Cond.code ({ cls := "java/lang/String", name := "<init>", desc := "([BB)V" } : Jvm.MethodName) jdk_42_method_151_code (3 : Nat) (Option.none : Option Jvm.ClassFile.FieldType), Jvm.Cond.code ({ cls := "java/lang/String", name := "charAt", desc := "(I)C" } : Jvm.MethodName) jdk_42_method_56_code (2 : Nat) (Option.some Jvm.ClassFile.FieldType.char), Jvm.Cond.code ({ cls := "java/lang/StringUTF16", name := "charAt", desc := "([BI)C" } : Jvm.MethodName) jdk_52_method_83_code (2 : Nat) (Option.some Jvm.ClassFile.FieldType.char), Jvm.Cond.code ({ cls := "java/lang/StringUTF16", name := "checkIndex", desc := "(I[B)V" } : Jvm.MethodName) jdk_52_method_91_code (2 : Nat) (Option.none : Option Jvm.ClassFile.FieldType), Jvm.Cond.code ({ cls := "java/lang/String", name := "checkIndex", desc := "(II)V" } : Jvm.MethodName) jdk_42_method_155_code (2 : Nat) (Option.none : Option Jvm.ClassFile.FieldType), Jvm.Cond.code ({ cls := "jdk/internal/util/Preconditions", name := "checkIndex", desc := "(IILjava/util/function/BiFunction;)I" } : Jvm.MethodName) jdk_41_method_11_code (3 : Nat) (Option.some Jvm.ClassFile.FieldType.int), Jvm.Cond.code ({ cls := "java/lang/StringLatin1", name := "charAt", desc := "([BI)C" } : Jvm.MethodName) jdk_43_method_2_code (2 : Nat) (Option.some Jvm.ClassFile.FieldType.char)]
set_option maxRecDepth 65536 in
theorem codes_eq : words1.filter isCode = codes1 := rfl
theorem w_codes : ∀ c ∈ words1.filter isCode, c.before args0 about1 = true := by
  rw [codes_eq]
  intro c hc
  simp only [codes1, List.mem_cons, List.not_mem_nil, or_false] at hc
  rcases hc with rfl | rfl | rfl | rfl | rfl | rfl | rfl | rfl | rfl | rfl | rfl | rfl | rfl | rfl | rfl | rfl | rfl | rfl | rfl | rfl | rfl | rfl | rfl | rfl | rfl | rfl | rfl | rfl | rfl | rfl | rfl | rfl | rfl | rfl | rfl | rfl | rfl | rfl | rfl | rfl | rfl | rfl | rfl | rfl | rfl | rfl
  · exact w_c0
  · exact w_c1
  · exact w_c2
  · exact w_c3
  · exact w_c4
  · exact w_c5
  · exact w_c6
  · exact w_c7
  · exact w_c8
  · exact w_c9
  · exact w_c10
  · exact w_c11
  · exact w_c12
  · exact w_c13
  · exact w_c14
  · exact w_c15
  · exact w_c16
  · exact w_c17
  · exact w_c18
  · exact w_c19
  · exact w_c20
  · exact w_c21
  · exact w_c22
  · exact w_c23
  · exact w_c24
  · exact w_c25
  · exact w_c26
  · exact w_c27
  · exact w_c28
  · exact w_c29
  · exact w_c30
  · exact w_c31
  · exact w_c32
  · exact w_c33
  · exact w_c34
  · exact w_c35
  · exact w_c36
  · exact w_c37
  · exact w_c38
  · exact w_c39
  · exact w_c40
  · exact w_c41
  · exact w_c42
  · exact w_c43
  · exact w_c44
  · exact w_c45
set_option maxRecDepth 65536 in
theorem w_t1 : (words1.take 24).all (fun c => isCode c || c.before args0 about1) = true := by decide +kernel
set_option maxRecDepth 65536 in
theorem w_t2 : ((words1.drop 24).take 24).all (fun c => isCode c || c.before args0 about1) = true := by decide +kernel
set_option maxRecDepth 65536 in
theorem w_t3 : (((words1.drop 24).drop 24).take 24).all (fun c => isCode c || c.before args0 about1) = true := by decide +kernel
set_option maxRecDepth 65536 in
theorem w_t4 : ((((words1.drop 24).drop 24).drop 24).take 24).all (fun c => isCode c || c.before args0 about1) = true := by decide +kernel
set_option maxRecDepth 65536 in
theorem w_t5 : (((((words1.drop 24).drop 24).drop 24).drop 24).take 24).all (fun c => isCode c || c.before args0 about1) = true := by decide +kernel
set_option maxRecDepth 65536 in
theorem w_t6 : ((((((words1.drop 24).drop 24).drop 24).drop 24).drop 24).take 24).all (fun c => isCode c || c.before args0 about1) = true := by decide +kernel
set_option maxRecDepth 65536 in
theorem w_t7 : (((((((words1.drop 24).drop 24).drop 24).drop 24).drop 24).drop 24).take 24).all (fun c => isCode c || c.before args0 about1) = true := by decide +kernel
set_option maxRecDepth 65536 in
theorem w_t8 : ((((((((words1.drop 24).drop 24).drop 24).drop 24).drop 24).drop 24).drop 24).take 24).all (fun c => isCode c || c.before args0 about1) = true := by decide +kernel
set_option maxRecDepth 65536 in
theorem w_t9 : ((((((((words1.drop 24).drop 24).drop 24).drop 24).drop 24).drop 24).drop 24).drop 24).all (fun c => isCode c || c.before args0 about1) = true := by decide +kernel
theorem w_tables : (allAtoms (Jvm.Cond.code x code maxLocals ret :: tables_1)).before args0 about1 = true := by
  rw [allAtoms_all]
  show words1.all (fun c => c.before args0 about1) = true
  refine all_split ?_ w_codes
  rw [← List.take_append_drop 24 words1, List.all_append, w_t1, ← List.take_append_drop 24 (words1.drop 24), List.all_append, w_t2, ← List.take_append_drop 24 ((words1.drop 24).drop 24), List.all_append, w_t3, ← List.take_append_drop 24 (((words1.drop 24).drop 24).drop 24), List.all_append, w_t4, ← List.take_append_drop 24 ((((words1.drop 24).drop 24).drop 24).drop 24), List.all_append, w_t5, ← List.take_append_drop 24 (((((words1.drop 24).drop 24).drop 24).drop 24).drop 24), List.all_append, w_t6, ← List.take_append_drop 24 ((((((words1.drop 24).drop 24).drop 24).drop 24).drop 24).drop 24), List.all_append, w_t7, ← List.take_append_drop 24 (((((((words1.drop 24).drop 24).drop 24).drop 24).drop 24).drop 24).drop 24), List.all_append, w_t8, w_t9]
  rfl
set_option maxRecDepth 65536 in
theorem w_rest : rest_1_c.before args0 about1 = true := by decide +kernel
set_option maxRecDepth 65536 in
theorem w_case : (Jvm.Cond.and given_1 narrow_1).before args0 about1 = true := by decide +kernel
set_option maxRecDepth 65536 in
theorem w_consts : constsHeld consts_1 about1 := Jvm.Lit.constsHeldB_iff.mp (by decide +kernel)
theorem w_applies : (headSpec (Jvm.Cond.code x code maxLocals ret :: tables_1) room_1).applies x e0.platform about1 = true :=
  (Spec.applies_iff w_frames).mpr ⟨w_running, w_runnable, w_alone, w_named, w_hears, w_ripe, w_room, w_tables⟩
theorem atStart : AtStart classFile x code maxLocals ret World_1 tables_1 room_1 Calls_1 rest_1 Pre_1 launch0 p0 e0 about1 theMethod args0 below0 :=
  ⟨lists_1, trivial, launch0.admits_env _ _ _, launch0.least_env, fairChoices_fair.cas, fairChoices_fair.clock, w_frames, w_args, w_heap, w_applies, ⟨w_consts, trivial⟩, w_rest, w_case⟩
end start1
theorem witness_1 : WitnessClaimed_1 := ⟨start1.p0, start1.e0, start1.about1, start1.theMethod, start1.args0, start1.below0, start1.atStart⟩
end Jvm.Pilot.@@N@@
