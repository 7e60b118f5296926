import JvmDerived
import JvmDerived.Pilot.@@N@@Statement
import JvmDerived.Pilot.@@N@@Code
set_option linter.unusedVariables false
set_option linter.unusedSimpArgs false

/- laws to paste: Road.backV, Road.lenW, Road.codOf, pair_says, lo8_mask (cut by pick.py; bodies as the Statement names them) -/
namespace Jvm.Pilot.@@N@@
namespace StrChars
open Jvm Sem ClassFile Op Lib Jvm.Stand Jvm.Free.XT Jvm.Free.ALB Jvm.Free.JM Jvm.Free
open Jvm.Lib.Cold (StaticIs)
/-- a char array whose places are chars -/
def Ch (a : Addr) (A : Cell) (U : State) : Prop := Arr .char a A U ∧ Typed .char A
theorem Ch.mv {a : Addr} {A : Cell} {U U' : State} (h : Ch a A U) (hal : U.vm.Alike U'.vm) (hh : U'.heap = U.heap) : Ch a A U' := ⟨h.1.mv hal hh, h.2⟩
theorem Ch.keep {a : Addr} {A : Cell} {U U' : State} (h : Ch a A U) (hal : U.vm.Alike U'.vm) (hk : U'.heap[a]? = some A) : Ch a A U' := ⟨h.1.keep hal hk, h.2⟩
/-- what place i of a char[]'s cell holds -/
def cv (A : Cell) (i : Nat) : Int32 := match A.slots[i]? with | some (.int x) => x | _ => 0
theorem Ch.get {a : Addr} {A : Cell} {U : State} (h : Ch a A U) {i : Nat} (hi : i < A.slots.size) : A.slots[i]? = some (.int (cv A i)) := by
  have e := Array.getElem?_eq_getElem hi
  have f := h.2 i _ e
  unfold cv; rw [e]
  generalize A.slots[i] = v at f
  cases v <;> simp [fits] at f ⊢
/-- the byte that i2b leaves of a char -/
def lo8 (x : Int32) : Int32 := x.toInt8.toInt32
theorem fits_lo8 (y : Int32) : fits .byte (.int (lo8 y)) = true := by
  have h1 := y.toInt8.le_toInt
  have h2 := y.toInt8.toInt_lt
  simp only [lo8, fits, Bool.and_eq_true, decide_eq_true_eq, Int32.le_iff_toInt_le, Int8.toInt_toInt32, show (-128 : Int32).toInt = -128 from by decide, show (127 : Int32).toInt = 127 from by decide]
  omega
/-- A' is A but that each place j of lo .. hi - 1 holds f j -/
def Laid (A A' : Cell) (lo hi : Nat) (f : Nat → Value) : Prop := A'.cls = A.cls ∧ A'.vm = A.vm ∧ A'.slots.size = A.slots.size ∧ ∀ i, A'.slots[i]? = if lo ≤ i ∧ i < hi then some (f i) else A.slots[i]?
theorem Laid.zero (A : Cell) (lo : Nat) (f : Nat → Value) : Laid A A lo (lo + 0) f := ⟨rfl, rfl, rfl, fun i => by rw [if_neg (by omega)]⟩
theorem Laid.step {A Ak : Cell} {lo k : Nat} {f : Nat → Value} {v : Value} (h : Laid A Ak lo k f) (hlo : lo ≤ k) (hk : k < Ak.slots.size) (hv : v = f k) : Laid A (Ak.setSlot k v) lo (k + 1) f := by
  refine ⟨h.1, h.2.1, by simpa [Cell.setSlot] using h.2.2.1, fun i => ?_⟩
  by_cases e : k = i
  · subst e; rw [Cell.slots_setSlot_self v hk, if_pos (by omega), hv]
  · rw [Cell.slots_setSlot_ne v e, h.2.2.2 i]
    by_cases q : lo ≤ i ∧ i < k
    · rw [if_pos q, if_pos (by omega)]
    · rw [if_neg q, if_neg (by omega)]
def U16 : String := "java/lang/StringUTF16"
namespace Cmp5
def yN : MethodName := ⟨"java/lang/StringUTF16", "compress", "([CI[BII)I"⟩
abbrev yB : ByteArray := jdk_52_method_21_code
theorem d0 : decode yB 0 = .ok (.iconst 0, 1) := by decide +kernel
theorem d1 : decode yB 1 = .ok (.istore 5, 2) := by decide +kernel
theorem d3 : decode yB 3 = .ok (.iload 5, 2) := by decide +kernel
theorem d5 : decode yB 5 = .ok (.iload 4, 2) := by decide +kernel
theorem d7 : decode yB 7 = .ok (.if_icmp (.ge) 37, 3) := by decide +kernel
theorem d10 : decode yB 10 = .ok (.aload_n 0, 1) := by decide +kernel
theorem d11 : decode yB 11 = .ok (.iload_n 1, 1) := by decide +kernel
theorem d12 : decode yB 12 = .ok (.caload, 1) := by decide +kernel
theorem d13 : decode yB 13 = .ok (.istore 6, 2) := by decide +kernel
theorem d15 : decode yB 15 = .ok (.iload 6, 2) := by decide +kernel
theorem d17 : decode yB 17 = .ok (.sipush 255, 3) := by decide +kernel
theorem d20 : decode yB 20 = .ok (.if_icmp (.le) 6, 3) := by decide +kernel
theorem d26 : decode yB 26 = .ok (.aload_n 2, 1) := by decide +kernel
theorem d27 : decode yB 27 = .ok (.iload_n 3, 1) := by decide +kernel
theorem d28 : decode yB 28 = .ok (.iload 6, 2) := by decide +kernel
theorem d30 : decode yB 30 = .ok (.i2b, 1) := by decide +kernel
theorem d31 : decode yB 31 = .ok (.bastore, 1) := by decide +kernel
theorem d32 : decode yB 32 = .ok (.iinc 1 1, 3) := by decide +kernel
theorem d35 : decode yB 35 = .ok (.iinc 3 1, 3) := by decide +kernel
theorem d38 : decode yB 38 = .ok (.iinc 5 1, 3) := by decide +kernel
theorem d41 : decode yB 41 = .ok (.goto (-38), 3) := by decide +kernel
theorem d44 : decode yB 44 = .ok (.iload 4, 2) := by decide +kernel
theorem d46 : decode yB 46 = .ok (.ireturn, 1) := by decide +kernel
def site : List Cond := []
def tab : Cond := tabOf yN yB 7 (some .int) site
def P (b : Addr) (A : Cell) (d : Addr) (B : Cell) (o q len : Nat) (args : Array Value) (s : State) : Prop := args = #[.ref b, .int (Int32.ofNat o), .ref d, .int (Int32.ofNat q), .int (Int32.ofNat len)] ∧ Ch b A s ∧ Arr .byte d B s ∧ b ≠ d ∧ o + len ≤ A.slots.size ∧ q + len ≤ B.slots.size ∧ ∀ i, i < len → ¬ 255 < cv A (o + i)
def E (b : Addr) (A : Cell) (d : Addr) (B : Cell) (o q len : Nat) (r : Option Value) (s u : State) : Prop := r = some (.int (Int32.ofNat len)) ∧ ∃ B', Put d B' s u ∧ Laid B B' q (q + len) (fun j => Value.int (lo8 (cv A (o + (j - q)))))
/-- no char of the range above 255: len; the places written hold each char's low byte -/
theorem law (l : Launch) (b : Addr) (A : Cell) (d : Addr) (B : Cell) (o q len : Nat) : Law l yN 5 5 0 0 yB 7 (some .int) site (P b A d B o q len) (E b A d B o q len) (copyLocs d q len) 0 0 := by
  refine Law.of_walk (plainFor_of_name (by decide +kernel)) (by decide +kernel) (by decide +kernel) (by decide) (fun _ _ h => by rw [h.1]; rfl) (fun _ U U' hal hh h => ⟨h.1, h.2.1.mv hal hh, h.2.2.1.mv hal hh, h.2.2.2⟩) (fun r U U' V V' h1 hal h2 h => ⟨h.1, h.2.elim fun B' q => ⟨B', q.1.mv h1 h2, q.2⟩⟩) ?_
  intro p e s m args below meth c s₁ X0 hexec hbytes hml hret hlk hnm hown hh0 W hP
  obtain ⟨rfl, hA, hB, hne, l1, l2, hp⟩ := hP
  have c1 : Steps p.tables e below (s₁.setTop (entryFrame m #[.ref b, .int (Int32.ofNat o), .ref d, .int (Int32.ofNat q), .int (Int32.ofNat len)] 7)) (s₁.setTop (mkF m 0 #[.val (.ref b), .val (.int (Int32.ofNat o)), .val (.ref d), .val (.int (Int32.ofNat q)), .val (.int (Int32.ofNat len)), .unset, .unset] [])) := entry rfl
  have hA0 := hA.1.mv X0.warmed.alike hh0
  have hB0 := hB.mv X0.warmed.alike hh0
  have a31 := hA.1.2.2.2
  have c2 : Steps p.tables e below (s₁.setTop (entryFrame m #[.ref b, .int (Int32.ofNat o), .ref d, .int (Int32.ofNat q), .int (Int32.ofNat len)] 7)) (s₁.setTop (mkF m 3 #[.val (.ref b), .val (.int (Int32.ofNat o)), .val (.ref d), .val (.int (Int32.ofNat q)), .val (.int (Int32.ofNat len)), .val (.int 0), .unset] [])) := c1.trans (by
    refine iconstV X0.here hexec rfl 0 (hb hbytes d0) (by decide) ?_
    refine XS.istore X0.here hexec rfl (hb hbytes d1) rfl rfl ?_
    exact Steps.refl _)
  have loop : ∀ (r i : Nat), i + r = len → ∀ (z : Slot), (z = .unset ∨ ∃ w, z = .val w ∧ w.category = 1) → ∀ (Tl : State) (Bk : Cell), Stand p l e { frames := 0, locals := 0, cells := 0, slots := 0 } s m #[.ref b, .int (Int32.ofNat o), .ref d, .int (Int32.ofNat q), .int (Int32.ofNat len)] below meth c Tl ([] ++ copyLocs d q i) 0 0 → Put d Bk s₁ Tl → Laid B Bk q (q + i) (fun j => Value.int (lo8 (cv A (o + (j - q))))) →
      Steps p.tables e below (s₁.setTop (entryFrame m #[.ref b, .int (Int32.ofNat o), .ref d, .int (Int32.ofNat q), .int (Int32.ofNat len)] 7)) (Tl.setTop (mkF m 3 #[.val (.ref b), .val (.int (Int32.ofNat (o + i))), .val (.ref d), .val (.int (Int32.ofNat (q + i))), .val (.int (Int32.ofNat len)), .val (.int (Int32.ofNat i)), z] [])) → ∃ (T' : State) (B' : Cell) (z' : Slot), Stand p l e { frames := 0, locals := 0, cells := 0, slots := 0 } s m #[.ref b, .int (Int32.ofNat o), .ref d, .int (Int32.ofNat q), .int (Int32.ofNat len)] below meth c T' ([] ++ copyLocs d q len) 0 0 ∧ Put d B' s₁ T' ∧ Laid B B' q (q + len) (fun j => Value.int (lo8 (cv A (o + (j - q))))) ∧
      Steps p.tables e below (s₁.setTop (entryFrame m #[.ref b, .int (Int32.ofNat o), .ref d, .int (Int32.ofNat q), .int (Int32.ofNat len)] 7)) (T'.setTop (mkF m 3 #[.val (.ref b), .val (.int (Int32.ofNat (o + len))), .val (.ref d), .val (.int (Int32.ofNat (q + len))), .val (.int (Int32.ofNat len)), .val (.int (Int32.ofNat len)), z'] [])) := by
    intro r
    induction r with
    | zero =>
      intro i hi z hz Tl Bk Xl pl fl cl
      have hil : i = len := by omega
      rw [hil] at Xl fl cl
      exact ⟨Tl, Bk, z, Xl, pl, fl, cl⟩
    | succ r ih =>
      intro i hi z hz Tl Bk Xl pl fl cl
      have all := X0.warmed.alike.symm.trans Xl.warmed.alike
      have hAl := hA0.keep all (pl.other hne hA0.1)
      have hBk := hB0.like all pl.1 fl.1 fl.2.1 fl.2.2.1
      have hlt : q + i < Bk.slots.size := by rw [fl.2.2.1]; omega
      have c3 : Steps p.tables e below (s₁.setTop (entryFrame m #[.ref b, .int (Int32.ofNat o), .ref d, .int (Int32.ofNat q), .int (Int32.ofNat len)] 7)) (Tl.setTop (mkF m 12 #[.val (.ref b), .val (.int (Int32.ofNat (o + i))), .val (.ref d), .val (.int (Int32.ofNat (q + i))), .val (.int (Int32.ofNat len)), .val (.int (Int32.ofNat i)), z] [.int (Int32.ofNat (o + i)), .ref b])) := cl.trans (by
        refine XS.iload Xl.here hexec rfl (hb hbytes d3) rfl ?_
        refine XS.iload Xl.here hexec rfl (hb hbytes d5) rfl ?_
        refine XS.icmpNo Xl.here hexec rfl (hb hbytes d7) rfl (ii_ge_f (lt32 (by omega) (by omega))) ?_
        refine XS.aloadN Xl.here hexec rfl (hb hbytes d10) rfl rfl ?_
        refine XS.iloadN Xl.here hexec rfl (hb hbytes d11) rfl ?_
        exact Steps.refl _)
      have c4 : Steps p.tables e below (s₁.setTop (entryFrame m #[.ref b, .int (Int32.ofNat o), .ref d, .int (Int32.ofNat q), .int (Int32.ofNat len)] 7)) (Tl.setTop (mkF m 13 #[.val (.ref b), .val (.int (Int32.ofNat (o + i))), .val (.ref d), .val (.int (Int32.ofNat (q + i))), .val (.int (Int32.ofNat len)), .val (.int (Int32.ofNat i)), z] [.int (cv A (o + i))])) := c3.trans (by
        refine Xl.aget hexec hAl rfl (hA.get (i := o + i) (by omega)) rfl rfl (hb hbytes d12) ?_
        exact Steps.refl _)
      have c5 : Steps p.tables e below (s₁.setTop (entryFrame m #[.ref b, .int (Int32.ofNat o), .ref d, .int (Int32.ofNat q), .int (Int32.ofNat len)] 7)) (Tl.setTop (mkF m 15 #[.val (.ref b), .val (.int (Int32.ofNat (o + i))), .val (.ref d), .val (.int (Int32.ofNat (q + i))), .val (.int (Int32.ofNat len)), .val (.int (Int32.ofNat i)), .val (.int (cv A (o + i)))] [])) := c4.trans (by
        refine XS.istoreS Xl.here hexec rfl (hb hbytes d13) rfl rfl hz ?_
        exact Steps.refl _)
      have c6 : Steps p.tables e below (s₁.setTop (entryFrame m #[.ref b, .int (Int32.ofNat o), .ref d, .int (Int32.ofNat q), .int (Int32.ofNat len)] 7)) (Tl.setTop (mkF m 31 #[.val (.ref b), .val (.int (Int32.ofNat (o + i))), .val (.ref d), .val (.int (Int32.ofNat (q + i))), .val (.int (Int32.ofNat len)), .val (.int (Int32.ofNat i)), .val (.int (cv A (o + i)))] [.int (lo8 (cv A (o + i))), .int (Int32.ofNat (q + i)), .ref d])) := c5.trans (by
        refine XS.iload Xl.here hexec rfl (hb hbytes d15) rfl ?_
        refine sipushV Xl.here hexec rfl 255 (hb hbytes d17) (by decide) ?_
        refine XS.icmpYes Xl.here hexec rfl (pc0 := 20) rfl (hb hbytes d20) rfl (ii_le_t (hp i (by omega))) (by decide) rfl ?_
        refine XS.aloadN Xl.here hexec rfl (hb hbytes d26) rfl rfl ?_
        refine XS.iloadN Xl.here hexec rfl (hb hbytes d27) rfl ?_
        refine XS.iload Xl.here hexec rfl (hb hbytes d28) rfl ?_
        refine i2b Xl.here hexec rfl (hb hbytes d30) rfl ?_
        exact Steps.refl _)
      obtain ⟨T7, X7, p7, st7⟩ := Xl.aput hexec hBk rfl hlt rfl (fits_lo8 (cv A (o + i))) (g := (mkF m 31 #[.val (.ref b), .val (.int (Int32.ofNat (o + i))), .val (.ref d), .val (.int (Int32.ofNat (q + i))), .val (.int (Int32.ofNat len)), .val (.int (Int32.ofNat i)), .val (.int (cv A (o + i)))] [.int (lo8 (cv A (o + i))), .int (Int32.ofNat (q + i)), .ref d])) rfl (rest := []) rfl (hb hbytes d31)
      have c8 : Steps p.tables e below (s₁.setTop (entryFrame m #[.ref b, .int (Int32.ofNat o), .ref d, .int (Int32.ofNat q), .int (Int32.ofNat len)] 7)) (T7.setTop (mkF m 32 #[.val (.ref b), .val (.int (Int32.ofNat (o + i))), .val (.ref d), .val (.int (Int32.ofNat (q + i))), .val (.int (Int32.ofNat len)), .val (.int (Int32.ofNat i)), .val (.int (cv A (o + i)))] [])) := c6.trans (st7 _ (Steps.refl _))
      have c9 : Steps p.tables e below (s₁.setTop (entryFrame m #[.ref b, .int (Int32.ofNat o), .ref d, .int (Int32.ofNat q), .int (Int32.ofNat len)] 7)) (T7.setTop (mkF m 3 #[.val (.ref b), .val (.int (Int32.ofNat (o + i) + 1)), .val (.ref d), .val (.int (Int32.ofNat (q + i) + 1)), .val (.int (Int32.ofNat len)), .val (.int (Int32.ofNat i + 1)), .val (.int (cv A (o + i)))] [])) := c8.trans (by
        refine iincV X7.here hexec rfl 1 (hb hbytes d32) (by decide) rfl rfl ?_
        refine iincV X7.here hexec rfl 1 (hb hbytes d35) (by decide) rfl rfl ?_
        refine iincV X7.here hexec rfl 1 (hb hbytes d38) (by decide) rfl rfl ?_
        refine XS.goto X7.here hexec rfl (pc0 := 41) rfl (hb hbytes d41) (by decide) rfl ?_
        exact Steps.refl _)
      have c10 : Steps p.tables e below (s₁.setTop (entryFrame m #[.ref b, .int (Int32.ofNat o), .ref d, .int (Int32.ofNat q), .int (Int32.ofNat len)] 7)) (T7.setTop (mkF m 3 #[.val (.ref b), .val (.int (Int32.ofNat (o + (i + 1)))), .val (.ref d), .val (.int (Int32.ofNat (q + (i + 1)))), .val (.int (Int32.ofNat len)), .val (.int (Int32.ofNat (i + 1))), .val (.int (cv A (o + i)))] [])) := by
        have := c9
        rw [succ32, succ32, succ32] at this
        exact this
      exact ih (i + 1) (by omega) _ (Or.inr ⟨_, rfl, rfl⟩) T7 _ (by rw [copyLocs_step, ← List.append_assoc]; exact X7) (pl.trans p7) (fl.step (by omega) hlt (by simp)) c10
  obtain ⟨T9, B9, z9, X9, p9, f9, g9⟩ := loop len 0 (by omega) .unset (Or.inl rfl) s₁ B (by simpa [copyLocs] using X0) ⟨hB0.1, fun _ _ => rfl, rfl⟩ (Laid.zero _ _ _) c2
  have c11 : Steps p.tables e below (s₁.setTop (entryFrame m #[.ref b, .int (Int32.ofNat o), .ref d, .int (Int32.ofNat q), .int (Int32.ofNat len)] 7)) (T9.setTop (mkF m 46 #[.val (.ref b), .val (.int (Int32.ofNat (o + len))), .val (.ref d), .val (.int (Int32.ofNat (q + len))), .val (.int (Int32.ofNat len)), .val (.int (Int32.ofNat len)), z9] [.int (Int32.ofNat len)])) := g9.trans (by
    refine XS.iload X9.here hexec rfl (hb hbytes d3) rfl ?_
    refine XS.iload X9.here hexec rfl (hb hbytes d5) rfl ?_
    refine XS.icmpYes X9.here hexec rfl (pc0 := 7) rfl (hb hbytes d7) rfl (ii_ge_t (nlt32 (by omega) (Nat.le_refl _))) (by decide) rfl ?_
    refine XS.iload X9.here hexec rfl (hb hbytes d44) rfl ?_
    exact Steps.refl _)
  exact ⟨T9, some (.int (Int32.ofNat len)), _, _, _, X9, by simp, rfl, rfl, (fun h => by cases h), ⟨rfl, B9, p9.from hh0, f9⟩, fun fs hl => c11.trans (X9.ireturnOut hexec hret rfl (Or.inl rfl) (hb hbytes d46) hl)⟩
end Cmp5
namespace Cmp3
def yN : MethodName := ⟨"java/lang/StringUTF16", "compress", "([CII)[B"⟩
abbrev yB : ByteArray := jdk_52_method_16_code
theorem d0 : decode yB 0 = .ok (.iload_n 2, 1) := by decide +kernel
theorem d1 : decode yB 1 = .ok (.newarray .byte, 2) := by decide +kernel
theorem d3 : decode yB 3 = .ok (.astore_n 3, 1) := by decide +kernel
theorem d4 : decode yB 4 = .ok (.aload_n 0, 1) := by decide +kernel
theorem d5 : decode yB 5 = .ok (.iload_n 1, 1) := by decide +kernel
theorem d6 : decode yB 6 = .ok (.aload_n 3, 1) := by decide +kernel
theorem d7 : decode yB 7 = .ok (.iconst 0, 1) := by decide +kernel
theorem d8 : decode yB 8 = .ok (.iload_n 2, 1) := by decide +kernel
theorem d9 : decode yB 9 = .ok (.invokestatic 115, 3) := by decide +kernel
theorem d12 : decode yB 12 = .ok (.istore 4, 2) := by decide +kernel
theorem d14 : decode yB 14 = .ok (.iload 4, 2) := by decide +kernel
theorem d16 : decode yB 16 = .ok (.iload_n 2, 1) := by decide +kernel
theorem d17 : decode yB 17 = .ok (.if_icmp (.eq) 40, 3) := by decide +kernel
theorem d57 : decode yB 57 = .ok (.aload_n 3, 1) := by decide +kernel
theorem d58 : decode yB 58 = .ok (.areturn, 1) := by decide +kernel
def site : List Cond := [.arrayClass .byte, Cmp5.tab] ++ staticW U16 115 Cmp5.yN
def tab : Cond := tabOf yN yB 6 (some (.array .byte)) site
def P (b : Addr) (A : Cell) (o len : Nat) (args : Array Value) (s : State) : Prop := args = #[.ref b, .int (Int32.ofNat o), .int (Int32.ofNat len)] ∧ Ch b A s ∧ o + len ≤ A.slots.size ∧ len ≤ 536870912 ∧ ∀ i, i < len → ¬ 255 < cv A (o + i)
def E (b : Addr) (A : Cell) (o len : Nat) (r : Option Value) (s u : State) : Prop := NewArr .byte "[B" len (fun j => .int (lo8 (cv A (o + j)))) r s u ∧ u.heap.size = s.heap.size + 1
/-- no char of the range above 255: a new byte[] of their low bytes -/
theorem law (l : Launch) (b : Addr) (A : Cell) (o len : Nat) : Law l yN 3 3 1 18 yB 6 (some (.array .byte)) site (P b A o len) (E b A o len) [] 1 len := by
  refine Law.of_walk (plainFor_of_name (by decide +kernel)) (by decide +kernel) (by decide +kernel) (by decide) (fun _ _ h => by rw [h.1]; rfl) (fun _ U U' hal hh h => ⟨h.1, h.2.1.mv hal hh, h.2.2⟩) (fun r U U' V V' h1 hal h2 h => ⟨NewArr.mv r U U' V V' h1 hal h2 h.1, by rw [h1, h2]; exact h.2⟩) ?_
  intro p e s m args below meth c s₁ X0 hexec hbytes hml hret hlk hnm hown hh0 W hP
  obtain ⟨rfl, hA, l1, l2, hp⟩ := hP
  have a31 := hA.1.2.2.2
  have c1 : Steps p.tables e below (s₁.setTop (entryFrame m #[.ref b, .int (Int32.ofNat o), .int (Int32.ofNat len)] 6)) (s₁.setTop (mkF m 0 #[.val (.ref b), .val (.int (Int32.ofNat o)), .val (.int (Int32.ofNat len)), .unset, .unset, .unset] [])) := entry rfl
  have c2 : Steps p.tables e below (s₁.setTop (entryFrame m #[.ref b, .int (Int32.ofNat o), .int (Int32.ofNat len)] 6)) (s₁.setTop (mkF m 1 #[.val (.ref b), .val (.int (Int32.ofNat o)), .val (.int (Int32.ofNat len)), .unset, .unset, .unset] [.int (Int32.ofNat len)])) := c1.trans (by
    refine XS.iloadN X0.here hexec rfl (hb hbytes d0) rfl ?_
    exact Steps.refl _)
  obtain ⟨T3, B3, X3, ba3, bs3, bv3, bh3, bf3, st3⟩ := X0.anew hexec (atype := .byte) (wk W (.arrayClass .byte)) rfl (by show len * 1 ≤ _; omega) (by omega) (g := (mkF m 1 #[.val (.ref b), .val (.int (Int32.ofNat o)), .val (.int (Int32.ofNat len)), .unset, .unset, .unset] [.int (Int32.ofNat len)])) rfl (hb hbytes d1) (rest := []) rfl (Nat.le_refl _) (by show 0 + len ≤ len; omega)
  rw [hh0] at ba3 st3
  have kp3 : XT.Kept s T3 := (XT.Kept.of_eq hh0).push bh3
  have hA3 := hA.keep X3.warmed.alike (kp3 _ _ hA.1.1)
  have hne : b ≠ s.heap.size := hA.1.ne
  have c4 : Steps p.tables e below (s₁.setTop (entryFrame m #[.ref b, .int (Int32.ofNat o), .int (Int32.ofNat len)] 6)) (T3.setTop (mkF m 3 #[.val (.ref b), .val (.int (Int32.ofNat o)), .val (.int (Int32.ofNat len)), .unset, .unset, .unset] [.ref s.heap.size])) := c2.trans (st3 _ (Steps.refl _))
  have c5 : Steps p.tables e below (s₁.setTop (entryFrame m #[.ref b, .int (Int32.ofNat o), .int (Int32.ofNat len)] 6)) (T3.setTop (mkF m 9 #[.val (.ref b), .val (.int (Int32.ofNat o)), .val (.int (Int32.ofNat len)), .val (.ref s.heap.size), .unset, .unset] [.int (Int32.ofNat len), .int 0, .ref s.heap.size, .int (Int32.ofNat o), .ref b])) := c4.trans (by
    refine XS.astoreN X3.here hexec rfl (hb hbytes d3) rfl rfl rfl ?_
    refine XS.aloadN X3.here hexec rfl (hb hbytes d4) rfl rfl ?_
    refine XS.iloadN X3.here hexec rfl (hb hbytes d5) rfl ?_
    refine XS.aloadN X3.here hexec rfl (hb hbytes d6) rfl rfl ?_
    refine iconstV X3.here hexec rfl 0 (hb hbytes d7) (by decide) ?_
    refine XS.iloadN X3.here hexec rfl (hb hbytes d8) rfl ?_
    exact Steps.refl _)
  obtain ⟨v6, T6, X6, E6, g6⟩ := X3.callS hexec (Cmp5.law l b A s.heap.size B3 o 0 len) hown (wks W (staticW U16 115 Cmp5.yN)) (wk W Cmp5.tab) (W := 0) (Nat.le_of_ble_eq_true rfl) (Nat.le_of_ble_eq_true rfl) (Nat.le_refl _) (by show 0 + len + 0 ≤ len; omega) (g := (mkF m 9 #[.val (.ref b), .val (.int (Int32.ofNat o)), .val (.int (Int32.ofNat len)), .val (.ref s.heap.size), .unset, .unset] [.int (Int32.ofNat len), .int (Int32.ofNat 0), .ref s.heap.size, .int (Int32.ofNat o), .ref b])) rfl (by rw [hml]; rfl) c5 (argsL := [.ref b, .int (Int32.ofNat o), .ref s.heap.size, .int (Int32.ofNat 0), .int (Int32.ofNat len)]) (rest := []) rfl rfl (by show 2 * 0 + 0 ≤ _; decide) (hb hbytes d9) (⟨rfl, hA3, ba3, hne, l1, by rw [bs3]; simp, hp⟩)
  obtain ⟨rfl, B6, p6, f6⟩ := E6
  have c7 : Steps p.tables e below (s₁.setTop (entryFrame m #[.ref b, .int (Int32.ofNat o), .int (Int32.ofNat len)] 6)) (T6.setTop (mkF m 12 #[.val (.ref b), .val (.int (Int32.ofNat o)), .val (.int (Int32.ofNat len)), .val (.ref s.heap.size), .unset, .unset] [.int (Int32.ofNat len)])) := g6
  have c8 : Steps p.tables e below (s₁.setTop (entryFrame m #[.ref b, .int (Int32.ofNat o), .int (Int32.ofNat len)] 6)) (T6.setTop (mkF m 58 #[.val (.ref b), .val (.int (Int32.ofNat o)), .val (.int (Int32.ofNat len)), .val (.ref s.heap.size), .val (.int (Int32.ofNat len)), .unset] [.ref s.heap.size])) := c7.trans (by
    refine XS.istore X6.here hexec rfl (hb hbytes d12) rfl rfl ?_
    refine XS.iload X6.here hexec rfl (hb hbytes d14) rfl ?_
    refine XS.iloadN X6.here hexec rfl (hb hbytes d16) rfl ?_
    refine XS.icmpYes X6.here hexec rfl (pc0 := 17) rfl (hb hbytes d17) rfl (ii_eq_t rfl) (by decide) rfl ?_
    refine XS.aloadN X6.here hexec rfl (hb hbytes d57) rfl rfl ?_
    exact Steps.refl _)
  have X8 := X6.wide (L' := []) (cells' := 1) (slots' := len) (fun x hx hlt => by
    simp only [List.nil_append, copyLocs, List.mem_map, List.mem_range] at hx
    obtain ⟨i, -, rfl⟩ := hx
    exact absurd hlt (Nat.lt_irrefl _)) (Nat.le_refl _) (by omega)
  exact ⟨T6, some (.ref s.heap.size), _, _, _, X8, rfl, rfl, rfl, (fun h => by cases h), ⟨⟨rfl, B6, ba3.like (X3.warmed.alike.symm.trans X6.warmed.alike) p6.1 f6.1 f6.2.1 f6.2.2.1, f6.2.1.trans bv3, by rw [X6.warmed.alike.findClass, f6.1]; exact bf3, by rw [f6.2.2.1, bs3]; simp, fun j hj => by rw [f6.2.2.2 j, if_pos (by omega)]; rfl, kp3.put p6 (Nat.le_refl _)⟩, by rw [p6.2.2, bh3, hh0]; simp⟩, fun fs hl => c8.trans (X8.areturnOut hexec rfl hret rfl (hb hbytes d58) hl)⟩
end Cmp3
namespace CodL
def yN : MethodName := ⟨"java/lang/StringUTF16", "coderFromArrayLen", "([BI)B"⟩
abbrev yB : ByteArray := jdk_52_method_15_code
theorem d0 : decode yB 0 = .ok (.iload_n 1, 1) := by decide +kernel
theorem d1 : decode yB 1 = .ok (.aload_n 0, 1) := by decide +kernel
theorem d2 : decode yB 2 = .ok (.arraylength, 1) := by decide +kernel
theorem d3 : decode yB 3 = .ok (.isub, 1) := by decide +kernel
theorem d4 : decode yB 4 = .ok (.bipush 31, 2) := by decide +kernel
theorem d6 : decode yB 6 = .ok (.iushr, 1) := by decide +kernel
theorem d7 : decode yB 7 = .ok (.i2b, 1) := by decide +kernel
theorem d8 : decode yB 8 = .ok (.ireturn, 1) := by decide +kernel
def site : List Cond := []
def tab : Cond := tabOf yN yB 2 (some .byte) site
def P (d : Addr) (B : Cell) (args : Array Value) (s : State) : Prop := args = #[.ref d, .int (Int32.ofNat B.slots.size)] ∧ Arr .byte d B s
def E (r : Option Value) (s u : State) : Prop := XT.PureE (some (.int 0)) r s u
/-- an array as long as the number of chars: LATIN1 -/
theorem law (l : Launch) (d : Addr) (B : Cell) : Law l yN 2 2 0 0 yB 2 (some .byte) site (P d B) E [] 0 0 := by
  refine Law.of_walk (plainFor_of_name (by decide +kernel)) (by decide +kernel) (by decide +kernel) (by decide) (fun _ _ h => by rw [h.1]; rfl) (fun _ U U' hal hh h => ⟨h.1, h.2.mv hal hh⟩) (fun r U U' V V' h1 hal h2 h => XT.PureE.mv r U U' V V' h1 hal h2 h) ?_
  intro p e s m args below meth c s₁ X0 hexec hbytes hml hret hlk hnm hown hh0 W hP
  obtain ⟨rfl, hB⟩ := hP
  have hB0 := hB.mv X0.warmed.alike hh0
  have c1 : Steps p.tables e below (s₁.setTop (entryFrame m #[.ref d, .int (Int32.ofNat B.slots.size)] 2)) (s₁.setTop (mkF m 0 #[.val (.ref d), .val (.int (Int32.ofNat B.slots.size))] [])) := entry rfl
  have c2 : Steps p.tables e below (s₁.setTop (entryFrame m #[.ref d, .int (Int32.ofNat B.slots.size)] 2)) (s₁.setTop (mkF m 2 #[.val (.ref d), .val (.int (Int32.ofNat B.slots.size))] [.ref d, .int (Int32.ofNat B.slots.size)])) := c1.trans (by
    refine XS.iloadN X0.here hexec rfl (hb hbytes d0) rfl ?_
    refine XS.aloadN X0.here hexec rfl (hb hbytes d1) rfl rfl ?_
    exact Steps.refl _)
  have c3 : Steps p.tables e below (s₁.setTop (entryFrame m #[.ref d, .int (Int32.ofNat B.slots.size)] 2)) (s₁.setTop (mkF m 8 #[.val (.ref d), .val (.int (Int32.ofNat B.slots.size))] [.int (lo8 (ushr (Int32.ofNat B.slots.size - Int32.ofNat B.slots.size) 31))])) := c2.trans (by
    refine X0.alen hexec hB0 rfl rfl (hb hbytes d2) ?_
    refine XS.isub X0.here hexec rfl (hb hbytes d3) rfl ?_
    refine bipushV X0.here hexec rfl 31 (hb hbytes d4) (by decide) ?_
    refine iushr X0.here hexec rfl (hb hbytes d6) rfl ?_
    refine i2b X0.here hexec rfl (hb hbytes d7) rfl ?_
    exact Steps.refl _)
  have e0 : lo8 (ushr (Int32.ofNat B.slots.size - Int32.ofNat B.slots.size) 31) = 0 := by rw [Int32.sub_self]; decide
  rw [e0] at c3
  exact ⟨s₁, some (.int 0), _, _, _, X0, rfl, rfl, rfl, (fun h => by cases h), ⟨rfl, hh0⟩, fun fs hl => c3.trans (X0.ireturnOut hexec hret rfl (Or.inr (Or.inr (Or.inl rfl))) (hb hbytes d8) hl)⟩
end CodL
/-- the String at a is Latin-1 over a new byte[] (the heap's one new cell): the low bytes of the len chars of A from o on; every cell but a is kept -/
def Got (a : Addr) (D : Cell) (fV fC : Field) (A : Cell) (o len : Nat) (r : Option Value) (s u : State) : Prop := r = none ∧ ∃ D' V : Cell, Blank "java/lang/String" a D' u ∧ Same D D' [fV.slot, fC.slot] ∧ D'.slots[fV.slot]? = some (.ref s.heap.size) ∧ D'.slots[fC.slot]? = some (.int 0) ∧ Arr .byte s.heap.size V u ∧ V.vm = .none ∧ u.vm.findClass "[B" = some V.cls ∧ V.slots.size = len ∧ (∀ j, j < len → V.slots[j]? = some (.int (lo8 (cv A (o + j))))) ∧ (∀ (y : Addr) (c : Cell), y ≠ a → s.heap[y]? = some c → u.heap[y]? = some c) ∧ u.heap.size = s.heap.size + 1
theorem Got.mv {a : Addr} {D A : Cell} {fV fC : Field} {o len : Nat} : ∀ r (U U' V V' : State), U'.heap = U.heap → V.vm.Alike V'.vm → V'.heap = V.heap → Got a D fV fC A o len r U V → Got a D fV fC A o len r U' V' :=
  fun r U U' V V' h1 hal h2 ⟨e0, D', X, a1, a2, a3, a4, a5, a6, a7, a8, a9, a10, a11⟩ => ⟨e0, D', X, a1.mv hal h2, a2, by rw [h1]; exact a3, a4, by rw [h1]; exact a5.mv hal h2, a6, by rw [hal.findClass]; exact a7, a8, a9, by rw [h1, h2]; exact a10, by rw [h1, h2]; exact a11⟩
namespace New4
def yN : MethodName := ⟨"java/lang/String", "<init>", "([CIILjava/lang/Void;)V"⟩
abbrev yB : ByteArray := jdk_42_method_149_code
theorem d0 : decode yB 0 = .ok (.aload_n 0, 1) := by decide +kernel
theorem d1 : decode yB 1 = .ok (.invokespecial 1, 3) := by decide +kernel
theorem d4 : decode yB 4 = .ok (.iload_n 3, 1) := by decide +kernel
theorem d5 : decode yB 5 = .ok (.ifCond (.ne) 22, 3) := by decide +kernel
theorem d27 : decode yB 27 = .ok (.getstatic 38, 3) := by decide +kernel
theorem d30 : decode yB 30 = .ok (.ifCond (.eq) 28, 3) := by decide +kernel
theorem d33 : decode yB 33 = .ok (.aload_n 1, 1) := by decide +kernel
theorem d34 : decode yB 34 = .ok (.iload_n 2, 1) := by decide +kernel
theorem d35 : decode yB 35 = .ok (.iload_n 3, 1) := by decide +kernel
theorem d36 : decode yB 36 = .ok (.invokestatic 177, 3) := by decide +kernel
theorem d39 : decode yB 39 = .ok (.astore 5, 2) := by decide +kernel
theorem d41 : decode yB 41 = .ok (.aload_n 0, 1) := by decide +kernel
theorem d42 : decode yB 42 = .ok (.aload 5, 2) := by decide +kernel
theorem d44 : decode yB 44 = .ok (.iload_n 3, 1) := by decide +kernel
theorem d45 : decode yB 45 = .ok (.invokestatic 47, 3) := by decide +kernel
theorem d48 : decode yB 48 = .ok (.putfield 15, 3) := by decide +kernel
theorem d51 : decode yB 51 = .ok (.aload_n 0, 1) := by decide +kernel
theorem d52 : decode yB 52 = .ok (.aload 5, 2) := by decide +kernel
theorem d54 : decode yB 54 = .ok (.putfield 9, 3) := by decide +kernel
theorem d57 : decode yB 57 = .ok (.return_, 1) := by decide +kernel
def site : List Cond := [.fieldLink "java/lang/String" 38 "java/lang/String" "COMPACT_STRINGS" "Z", Cmp3.tab, CodL.tab, .laysFinal "java/lang/String" "java/lang/String" "value" "[B", .fieldLink "java/lang/String" 9 "java/lang/String" "value" "[B", .laysFinal "java/lang/String" "java/lang/String" "coder" "B", .fieldLink "java/lang/String" 15 "java/lang/String" "coder" "B"] ++ objW "java/lang/String" 1 ++ staticW "java/lang/String" 177 Cmp3.yN ++ staticW "java/lang/String" 47 CodL.yN
def tab : Cond := tabOf yN yB 6 none site
def P (a : Addr) (D : Cell) (fV fC : Field) (b : Addr) (A : Cell) (z : Int32) (o len : Nat) (args : Array Value) (s : State) : Prop := args = #[.ref a, .ref b, .int (Int32.ofNat o), .int (Int32.ofNat len), .null] ∧ Blank "java/lang/String" a D s ∧ Found "java/lang/String" "value" "[B" fV s ∧ Found "java/lang/String" "coder" "B" fC s ∧ Ch b A s ∧ StaticIs s "java/lang/String" "COMPACT_STRINGS" "Z" (.int z) ∧ ¬ z = 0 ∧ 0 < len ∧ o + len ≤ A.slots.size ∧ len ≤ 536870912 ∧ ∀ i, i < len → ¬ 255 < cv A (o + i)
def E (a : Addr) (D : Cell) (fV fC : Field) (A : Cell) (o len : Nat) (r : Option Value) (s u : State) : Prop := Got a D fV fC A o len r s u
/-- len > 0, no char of the range above 255: a Latin-1 String of their low bytes -/
theorem law (l : Launch) (a : Addr) (D : Cell) (fV fC : Field) (b : Addr) (A : Cell) (z : Int32) (o len : Nat) : Law l yN 5 4 2 35 yB 6 none site (P a D fV fC b A z o len) (E a D fV fC A o len) [⟨a, fC.slot⟩, ⟨a, fV.slot⟩] 1 len := by
  refine Law.of_walk (plainFor_of_name (by decide +kernel)) (by decide +kernel) (by decide +kernel) (by decide) (fun _ _ h => by rw [h.1]; rfl) (fun _ U U' hal hh h => ⟨h.1, h.2.1.mv hal hh, h.2.2.1.al hal, h.2.2.2.1.al hal, h.2.2.2.2.1.mv hal hh, h.2.2.2.2.2.1.there hal hh, h.2.2.2.2.2.2⟩) (fun r U U' V V' h1 hal h2 h => Got.mv r U U' V V' h1 hal h2 h) ?_
  intro p e s m args below meth c s₁ X0 hexec hbytes hml hret hlk hnm hown hh0 W hP
  obtain ⟨rfl, hB, f1, f2, hA, s1, hz, l0, l1, l2, hp⟩ := hP
  have a31 := hA.1.2.2.2
  have c1 : Steps p.tables e below (s₁.setTop (entryFrame m #[.ref a, .ref b, .int (Int32.ofNat o), .int (Int32.ofNat len), .null] 6)) (s₁.setTop (mkF m 0 #[.val (.ref a), .val (.ref b), .val (.int (Int32.ofNat o)), .val (.int (Int32.ofNat len)), .val .null, .unset] [])) := entry rfl
  have c2 : Steps p.tables e below (s₁.setTop (entryFrame m #[.ref a, .ref b, .int (Int32.ofNat o), .int (Int32.ofNat len), .null] 6)) (s₁.setTop (mkF m 1 #[.val (.ref a), .val (.ref b), .val (.int (Int32.ofNat o)), .val (.int (Int32.ofNat len)), .val .null, .unset] [.ref a])) := c1.trans (by
    refine XS.aloadN X0.here hexec rfl (hb hbytes d0) rfl rfl ?_
    exact Steps.refl _)
  obtain ⟨T3, X3, q3, st3⟩ := X0.oinit hexec hown (wks W (objW "java/lang/String" 1)) (g := (mkF m 1 #[.val (.ref a), .val (.ref b), .val (.int (Int32.ofNat o)), .val (.int (Int32.ofNat len)), .val .null, .unset] [.ref a])) rfl (by rw [hml]; rfl) (rest := []) rfl (hb hbytes d1) (W := 0) (by show 2 * 0 + 0 ≤ _; decide) (Nat.le_of_ble_eq_true rfl) (Nat.le_of_ble_eq_true rfl)
  have hh3 := q3.trans hh0
  have c4 : Steps p.tables e below (s₁.setTop (entryFrame m #[.ref a, .ref b, .int (Int32.ofNat o), .int (Int32.ofNat len), .null] 6)) (T3.setTop (mkF m 27 #[.val (.ref a), .val (.ref b), .val (.int (Int32.ofNat o)), .val (.int (Int32.ofNat len)), .val .null, .unset] [])) := (c2.trans (st3 _ (Steps.refl _))).trans (by
    refine XS.iloadN X3.here hexec rfl (hb hbytes d4) rfl ?_
    refine XS.ifYes X3.here hexec rfl (pc0 := 5) rfl (hb hbytes d5) rfl (i0_ne_t (nz32 (by omega) l0)) (by decide) rfl ?_
    exact Steps.refl _)
  obtain ⟨T5, X5, q5, st5⟩ := X3.sget hexec hown (wk W (.fieldLink "java/lang/String" 38 "java/lang/String" "COMPACT_STRINGS" "Z")) s1 (fun _ _ h => by rw [hh3]; exact h) (g := (mkF m 27 #[.val (.ref a), .val (.ref b), .val (.int (Int32.ofNat o)), .val (.int (Int32.ofNat len)), .val .null, .unset] [])) rfl (hb hbytes d27)
  have hh5 := q5.trans hh3
  have c6 : Steps p.tables e below (s₁.setTop (entryFrame m #[.ref a, .ref b, .int (Int32.ofNat o), .int (Int32.ofNat len), .null] 6)) (T5.setTop (mkF m 30 #[.val (.ref a), .val (.ref b), .val (.int (Int32.ofNat o)), .val (.int (Int32.ofNat len)), .val .null, .unset] [.int z])) := c4.trans (st5 _ (Steps.refl _))
  have c7 : Steps p.tables e below (s₁.setTop (entryFrame m #[.ref a, .ref b, .int (Int32.ofNat o), .int (Int32.ofNat len), .null] 6)) (T5.setTop (mkF m 36 #[.val (.ref a), .val (.ref b), .val (.int (Int32.ofNat o)), .val (.int (Int32.ofNat len)), .val .null, .unset] [.int (Int32.ofNat len), .int (Int32.ofNat o), .ref b])) := c6.trans (by
    refine XS.ifNo X5.here hexec rfl (hb hbytes d30) rfl (i0_eq_f hz) ?_
    refine XS.aloadN X5.here hexec rfl (hb hbytes d33) rfl rfl ?_
    refine XS.iloadN X5.here hexec rfl (hb hbytes d34) rfl ?_
    refine XS.iloadN X5.here hexec rfl (hb hbytes d35) rfl ?_
    exact Steps.refl _)
  obtain ⟨v8, T8, X8, E8, g8⟩ := X5.callS hexec (Cmp3.law l b A o len) hown (wks W (staticW "java/lang/String" 177 Cmp3.yN)) (wk W Cmp3.tab) (W := 0) (Nat.le_of_ble_eq_true rfl) (Nat.le_of_ble_eq_true rfl) (Nat.le_refl _) (by show 0 + len ≤ len; omega) (g := (mkF m 36 #[.val (.ref a), .val (.ref b), .val (.int (Int32.ofNat o)), .val (.int (Int32.ofNat len)), .val .null, .unset] [.int (Int32.ofNat len), .int (Int32.ofNat o), .ref b])) rfl (by rw [hml]; rfl) c7 (argsL := [.ref b, .int (Int32.ofNat o), .int (Int32.ofNat len)]) (rest := []) rfl rfl (by show 2 * 0 + 0 ≤ _; decide) (hb hbytes d36) (⟨rfl, hA.mv X5.warmed.alike hh5, l1, l2, hp⟩)
  obtain ⟨e8, z8⟩ := E8
  obtain ⟨rfl, N, n1, n2, n3, n4, n5, n6⟩ := NewArr.mv _ T5 s _ _ hh5.symm (Vm.Alike.refl _) rfl e8
  rw [hh5] at z8
  have hB1 := hB.keep X8.warmed.alike (n6 _ _ hB.1)
  have hne : s.heap.size ≠ a := (Nat.ne_of_lt (Array.getElem?_eq_some_iff.mp hB.1).1).symm
  have c9 : Steps p.tables e below (s₁.setTop (entryFrame m #[.ref a, .ref b, .int (Int32.ofNat o), .int (Int32.ofNat len), .null] 6)) (T8.setTop (mkF m 39 #[.val (.ref a), .val (.ref b), .val (.int (Int32.ofNat o)), .val (.int (Int32.ofNat len)), .val .null, .unset] [.ref s.heap.size])) := g8
  have c10 : Steps p.tables e below (s₁.setTop (entryFrame m #[.ref a, .ref b, .int (Int32.ofNat o), .int (Int32.ofNat len), .null] 6)) (T8.setTop (mkF m 45 #[.val (.ref a), .val (.ref b), .val (.int (Int32.ofNat o)), .val (.int (Int32.ofNat len)), .val .null, .val (.ref s.heap.size)] [.int (Int32.ofNat N.slots.size), .ref s.heap.size, .ref a])) := by
    have hc : Steps p.tables e below (s₁.setTop (entryFrame m #[.ref a, .ref b, .int (Int32.ofNat o), .int (Int32.ofNat len), .null] 6)) (T8.setTop (mkF m 45 #[.val (.ref a), .val (.ref b), .val (.int (Int32.ofNat o)), .val (.int (Int32.ofNat len)), .val .null, .val (.ref s.heap.size)] [.int (Int32.ofNat len), .ref s.heap.size, .ref a])) := c9.trans (by
      refine XS.astore X8.here hexec rfl (hb hbytes d39) rfl rfl rfl ?_
      refine XS.aloadN X8.here hexec rfl (hb hbytes d41) rfl rfl ?_
      refine XS.aload X8.here hexec rfl (hb hbytes d42) rfl rfl ?_
      refine XS.iloadN X8.here hexec rfl (hb hbytes d44) rfl ?_
      exact Steps.refl _)
    rw [n4]; exact hc
  obtain ⟨v11, T11, X11, E11, g11⟩ := X8.callS hexec (CodL.law l s.heap.size N) hown (wks W (staticW "java/lang/String" 47 CodL.yN)) (wk W CodL.tab) (W := 1) (Nat.le_of_ble_eq_true rfl) (Nat.le_of_ble_eq_true rfl) (Nat.le_refl _) (by show 0 + len + 0 ≤ len; omega) (g := (mkF m 45 #[.val (.ref a), .val (.ref b), .val (.int (Int32.ofNat o)), .val (.int (Int32.ofNat len)), .val .null, .val (.ref s.heap.size)] [.int (Int32.ofNat N.slots.size), .ref s.heap.size, .ref a])) rfl (by rw [hml]; rfl) c10 (argsL := [.ref s.heap.size, .int (Int32.ofNat N.slots.size)]) (rest := [.ref a]) rfl rfl (by show 2 * 0 + (1 + 0) ≤ _; decide) (hb hbytes d45) (⟨rfl, n1⟩)
  obtain ⟨rfl, q11⟩ := E11
  have hB11 := hB1.mv (X8.warmed.alike.symm.trans X11.warmed.alike) q11
  have c12 : Steps p.tables e below (s₁.setTop (entryFrame m #[.ref a, .ref b, .int (Int32.ofNat o), .int (Int32.ofNat len), .null] 6)) (T11.setTop (mkF m 48 #[.val (.ref a), .val (.ref b), .val (.int (Int32.ofNat o)), .val (.int (Int32.ofNat len)), .val .null, .val (.ref s.heap.size)] [.int 0, .ref a])) := g11
  obtain ⟨T13, X13, p13, bl13, sl13, st13⟩ := X11.finit hexec hown (wk W (.fieldLink "java/lang/String" 15 "java/lang/String" "coder" "B")) (Or.inr ⟨_, (wk W (.laysFinal "java/lang/String" "java/lang/String" "coder" "B"))⟩) (Or.inl ⟨rfl, hnm⟩) f2 (Or.inl rfl) hB11 (t := .byte) (by decide +kernel) rfl (g := (mkF m 48 #[.val (.ref a), .val (.ref b), .val (.int (Int32.ofNat o)), .val (.int (Int32.ofNat len)), .val .null, .val (.ref s.heap.size)] [.int 0, .ref a])) rfl (rest := []) rfl (hb hbytes d48)
  have c14 : Steps p.tables e below (s₁.setTop (entryFrame m #[.ref a, .ref b, .int (Int32.ofNat o), .int (Int32.ofNat len), .null] 6)) (T13.setTop (mkF m 54 #[.val (.ref a), .val (.ref b), .val (.int (Int32.ofNat o)), .val (.int (Int32.ofNat len)), .val .null, .val (.ref s.heap.size)] [.ref s.heap.size, .ref a])) := (c12.trans (st13 _ (Steps.refl _))).trans (by
    refine XS.aloadN X13.here hexec rfl (hb hbytes d51) rfl rfl ?_
    refine XS.aload X13.here hexec rfl (hb hbytes d52) rfl rfl ?_
    exact Steps.refl _)
  obtain ⟨T15, X15, p15, bl15, sl15, st15⟩ := X13.finit hexec hown (wk W (.fieldLink "java/lang/String" 9 "java/lang/String" "value" "[B")) (Or.inr ⟨_, (wk W (.laysFinal "java/lang/String" "java/lang/String" "value" "[B"))⟩) (Or.inl ⟨rfl, hnm⟩) f1 (Or.inl rfl) bl13 (t := (.array .byte)) (by decide +kernel) rfl (g := (mkF m 54 #[.val (.ref a), .val (.ref b), .val (.int (Int32.ofNat o)), .val (.int (Int32.ofNat len)), .val .null, .val (.ref s.heap.size)] [.ref s.heap.size, .ref a])) rfl (rest := []) rfl (hb hbytes d54)
  have c16 : Steps p.tables e below (s₁.setTop (entryFrame m #[.ref a, .ref b, .int (Int32.ofNat o), .int (Int32.ofNat len), .null] 6)) (T15.setTop (mkF m 57 #[.val (.ref a), .val (.ref b), .val (.int (Int32.ofNat o)), .val (.int (Int32.ofNat len)), .val .null, .val (.ref s.heap.size)] [])) := c14.trans (st15 _ (Steps.refl _))
  have ap := apart (Or.inr ⟨_, (wk W (.laysFinal "java/lang/String" "java/lang/String" "value" "[B"))⟩) (Or.inr ⟨_, (wk W (.laysFinal "java/lang/String" "java/lang/String" "coder" "B"))⟩) f1 f2 (t₁ := .array .byte) (t₂ := .byte) (by decide +kernel) (by decide +kernel) (by decide)
  have al := X8.warmed.alike.symm.trans X15.warmed.alike
  have n7 : T11.heap[s.heap.size]? = some N := by rw [q11]; exact n1.1
  exact ⟨T15, none, _, _, _, X15, by simp, rfl, by omega, (fun _ => rfl), ⟨rfl, _, N, bl15, ((Same.refl D _).set _ (by simp)).set _ (by simp), sl15, (Cell.slots_setSlot_ne _ ap).trans sl13, n1.keep al (p15.other hne (p13.other hne n7)), n2, by rw [al.findClass]; exact n3, n4, n5, fun y c h1 h2 => p15.other h1 (p13.other h1 (by rw [q11]; exact n6 y c h2)), by rw [p15.2.2, p13.2.2, q11]; exact z8⟩, fun fs hl => c16.trans (X15.returnOut hexec hret (hb hbytes d57) hl)⟩
end New4
namespace New1
def yN : MethodName := ⟨"java/lang/String", "<init>", "([C)V"⟩
abbrev yB : ByteArray := jdk_42_method_3_code
theorem d0 : decode yB 0 = .ok (.aload_n 0, 1) := by decide +kernel
theorem d1 : decode yB 1 = .ok (.aload_n 1, 1) := by decide +kernel
theorem d2 : decode yB 2 = .ok (.iconst 0, 1) := by decide +kernel
theorem d3 : decode yB 3 = .ok (.aload_n 1, 1) := by decide +kernel
theorem d4 : decode yB 4 = .ok (.arraylength, 1) := by decide +kernel
theorem d5 : decode yB 5 = .ok (.aconst_null, 1) := by decide +kernel
theorem d6 : decode yB 6 = .ok (.invokespecial 27, 3) := by decide +kernel
theorem d9 : decode yB 9 = .ok (.return_, 1) := by decide +kernel
def site : List Cond := [New4.tab] ++ initW "java/lang/String" 27 New4.yN
def tab : Cond := tabOf yN yB 2 none site
def P (a : Addr) (D : Cell) (fV fC : Field) (b : Addr) (A : Cell) (z : Int32) (args : Array Value) (s : State) : Prop := args = #[.ref a, .ref b] ∧ Blank "java/lang/String" a D s ∧ Found "java/lang/String" "value" "[B" fV s ∧ Found "java/lang/String" "coder" "B" fC s ∧ Ch b A s ∧ StaticIs s "java/lang/String" "COMPACT_STRINGS" "Z" (.int z) ∧ ¬ z = 0 ∧ 0 < A.slots.size ∧ A.slots.size ≤ 536870912 ∧ ∀ i, i < A.slots.size → ¬ 255 < cv A i
def E (a : Addr) (D : Cell) (fV fC : Field) (A : Cell) (r : Option Value) (s u : State) : Prop := Got a D fV fC A 0 A.slots.size r s u
/-- new String(chars), not empty, no char above 255: a Latin-1 String of their low bytes -/
theorem law (l : Launch) (a : Addr) (D : Cell) (fV fC : Field) (b : Addr) (A : Cell) (z : Int32) : Law l yN 2 1 3 52 yB 2 none site (P a D fV fC b A z) (E a D fV fC A) [⟨a, fC.slot⟩, ⟨a, fV.slot⟩] 1 A.slots.size := by
  refine Law.of_walk (plainFor_of_name (by decide +kernel)) (by decide +kernel) (by decide +kernel) (by decide) (fun _ _ h => by rw [h.1]; rfl) (fun _ U U' hal hh h => ⟨h.1, h.2.1.mv hal hh, h.2.2.1.al hal, h.2.2.2.1.al hal, h.2.2.2.2.1.mv hal hh, h.2.2.2.2.2.1.there hal hh, h.2.2.2.2.2.2⟩) (fun r U U' V V' h1 hal h2 h => Got.mv r U U' V V' h1 hal h2 h) ?_
  intro p e s m args below meth c s₁ X0 hexec hbytes hml hret hlk hnm hown hh0 W hP
  obtain ⟨rfl, hB, f1, f2, hA, s1, hz, l0, l2, hp⟩ := hP
  have c1 : Steps p.tables e below (s₁.setTop (entryFrame m #[.ref a, .ref b] 2)) (s₁.setTop (mkF m 0 #[.val (.ref a), .val (.ref b)] [])) := entry rfl
  have c2 : Steps p.tables e below (s₁.setTop (entryFrame m #[.ref a, .ref b] 2)) (s₁.setTop (mkF m 6 #[.val (.ref a), .val (.ref b)] [.null, .int (Int32.ofNat A.slots.size), .int 0, .ref b, .ref a])) := c1.trans (by
    refine XS.aloadN X0.here hexec rfl (hb hbytes d0) rfl rfl ?_
    refine XS.aloadN X0.here hexec rfl (hb hbytes d1) rfl rfl ?_
    refine iconstV X0.here hexec rfl 0 (hb hbytes d2) (by decide) ?_
    refine XS.aloadN X0.here hexec rfl (hb hbytes d3) rfl rfl ?_
    refine X0.alen hexec (hA.1.mv X0.warmed.alike hh0) rfl rfl (hb hbytes d4) ?_
    refine XS.aconstNull X0.here hexec rfl (hb hbytes d5) ?_
    exact Steps.refl _)
  obtain ⟨v3, T3, X3, E3, g3⟩ := X0.callN hexec (New4.law l a D fV fC b A z 0 A.slots.size) rfl hown (wks W (initW "java/lang/String" 27 New4.yN)) (W New4.tab (by simp only [site, List.mem_cons, List.mem_append, true_or, or_true])) (W := 0) (Nat.le_of_ble_eq_true rfl) (Nat.le_of_ble_eq_true rfl) (Nat.le_refl _) (by show 0 + A.slots.size ≤ A.slots.size; omega) (g := (mkF m 6 #[.val (.ref a), .val (.ref b)] [.null, .int (Int32.ofNat A.slots.size), .int (Int32.ofNat 0), .ref b, .ref a])) rfl (by rw [hml]; rfl) c2 (argsL := [.ref b, .int (Int32.ofNat 0), .int (Int32.ofNat A.slots.size), .null]) (rest := []) rfl rfl (by show 2 * 0 + 0 ≤ _; decide) (hb hbytes d6) (⟨rfl, hB.mv X0.warmed.alike hh0, f1.al X0.warmed.alike, f2.al X0.warmed.alike, hA.mv X0.warmed.alike hh0, s1.there X0.warmed.alike hh0, hz, l0, by omega, l2, fun i hi => by rw [Nat.zero_add]; exact hp i hi⟩)
  have e0 := Got.mv _ s₁ s _ _ hh0.symm (Vm.Alike.refl _) rfl E3
  obtain rfl := e0.1
  have c4 : Steps p.tables e below (s₁.setTop (entryFrame m #[.ref a, .ref b] 2)) (T3.setTop (mkF m 9 #[.val (.ref a), .val (.ref b)] [])) := g3
  exact ⟨T3, none, _, _, _, X3, by simp, rfl, by omega, (fun _ => rfl), e0, fun fs hl => c4.trans (X3.returnOut hexec hret (hb hbytes d9) hl)⟩
theorem pays {l : Launch} {R : Room} {p : Program} {e : Env} {below : List Frame} {s : State} {sargs : Array Value} {len W : Nat} (a : Addr) (D : Cell) (fV fC : Field) (b : Addr) (A : Cell) (z : Int32) (htab : tab.before sargs s = true) (hfr : 4 ≤ R.frames) (hlo : W + 65 ≤ R.locals) :
    Back l R p e below s sargs yN len W (fun A₁ a₁ => A₁.cells + 1 ≤ R.cells ∧ A₁.slots + A.slots.size ≤ R.slots ∧ P a D fV fC b A z a₁ A₁.U) (fun A₁ _ v₁ B₁ => E a D fV fC A v₁ A₁.U B₁.U ∧ B₁.locs = A₁.locs ++ [⟨a, fC.slot⟩, ⟨a, fV.slot⟩] ∧ B₁.cells = A₁.cells + 1 ∧ B₁.slots = A₁.slots + A.slots.size) :=
  (law l a D fV fC b A z).pays htab hfr (by omega)
end New1
/-- the byte, read back as charAt reads it, is the char -/
theorem lo8_mask {x : Int32} (h0 : ¬ x < 0) (h1 : ¬ 255 < x) : lo8 x &&& 255 = x := by
  have t : ∀ k : Fin 256, lo8 (Int32.ofNat k.val) &&& 255 = Int32.ofNat k.val := by decide +kernel
  rw [Int32.lt_iff_toInt_lt] at h0 h1
  have e0 : (0 : Int32).toInt = 0 := rfl
  have e1 : (255 : Int32).toInt = 255 := rfl
  obtain ⟨k, hk⟩ : ∃ k : Nat, x.toInt = k := ⟨x.toInt.toNat, by omega⟩
  have hx : x = Int32.ofNat k := Int32.toInt_inj.mp (by rw [hk, Int32.toInt_ofNat_small (by omega)])
  rw [hx]
  exact t ⟨k, by omega⟩
end StrChars
namespace StrChars.Road
open Jvm Sem ClassFile Op Lib Jvm.Stand Jvm.Free Jvm.Free.XT
open Jvm.Lib.Cold (StaticIs)
abbrev ST : String := "java/lang/String"
/-- every table word that New1's law asks, flat -/
abbrev words : List Jvm.Cond := [.code New1.yN New1.yB 2 none, .initialized ST, .methodLink ST 27 New4.yN, .instanceMethod New4.yN,
  .code New4.yN New4.yB 6 none, .fieldLink ST 38 ST "COMPACT_STRINGS" "Z", .laysFinal ST ST "value" "[B", .fieldLink ST 9 ST "value" "[B", .laysFinal ST ST "coder" "B", .fieldLink ST 15 ST "coder" "B",
  .methodLink ST 1 Lib.objectInit, .instanceMethod Lib.objectInit, .code Lib.objectInit ⟨#[0xb1]⟩ 1 none, .methodLink ST 177 Cmp3.yN, .static Cmp3.yN, .methodLink ST 47 CodL.yN, .static CodL.yN,
  .code Cmp3.yN Cmp3.yB 6 (some (.array .byte)), .initialized U16, .arrayClass .byte, .methodLink U16 115 Cmp5.yN, .static Cmp5.yN, .code Cmp5.yN Cmp5.yB 7 (some .int), .code CodL.yN CodL.yB 2 (some .byte)]
theorem tab_of {a : Array Value} {s : State} (h : ∀ w ∈ words, w.before a s = true) : New1.tab.before a s = true := by
  have h5 : Cmp5.tab.before a s = true := unparts (wk h (.code Cmp5.yN Cmp5.yB 7 (some .int))) (wks h (.initialized Cmp5.yN.cls :: Cmp5.site))
  have hc : CodL.tab.before a s = true := unparts (wk h (.code CodL.yN CodL.yB 2 (some .byte))) (wks h (.initialized CodL.yN.cls :: CodL.site))
  have q5 : ∀ w ∈ Cmp5.tab :: words, w.before a s = true := fun w hw => (List.mem_cons.mp hw).elim (fun e => e ▸ h5) (h w)
  have h3 : Cmp3.tab.before a s = true := unparts (wk q5 (.code Cmp3.yN Cmp3.yB 6 (some (.array .byte)))) (wks q5 (.initialized Cmp3.yN.cls :: Cmp3.site))
  have q3 : ∀ w ∈ Cmp3.tab :: CodL.tab :: words, w.before a s = true := fun w hw => (List.mem_cons.mp hw).elim (fun e => e ▸ h3) fun hw => (List.mem_cons.mp hw).elim (fun e => e ▸ hc) (h w)
  have h4 : New4.tab.before a s = true := unparts (wk q3 (.code New4.yN New4.yB 6 none)) (wks q3 (.initialized New4.yN.cls :: New4.site))
  have q4 : ∀ w ∈ New4.tab :: words, w.before a s = true := fun w hw => (List.mem_cons.mp hw).elim (fun e => e ▸ h4) (h w)
  exact unparts (wk q4 (.code New1.yN New1.yB 2 none)) (wks q4 (.initialized New1.yN.cls :: New1.site))
/-- the words ride from the start Z to the walk's own state -/
theorem moved {Z s : State} {a0 args : Array Value} (hZ : Z.Warmed39 s.vm) (hw : ∀ d ∈ words, d.before a0 Z = true) : ∀ d ∈ words, d.before args s = true := fun d hd => by
  have q := hw d hd
  have t : ∀ d ∈ words, d = .arrayClass .byte ∨ (d.onTables && d.keepsFace) = true := by decide +kernel
  rcases t d hd with rfl | t
  · exact RoadKit.mvA hZ q
  · exact RoadKit.mv hZ q t
/-- WHAT COMES BACK, over the tables of the start Z: h the heap at the call, h' behind it -/
def Q (Z : State) (x : Addr) (A : Cell) (h : Heap) (v : Option Value) (h' : Heap) (L : List Loc) : Prop := v = none ∧ (∀ y ∈ L, y.base = x) ∧ RoadKit.Keep h h' [x] ∧ h'.size = h.size + 1 ∧ RoadKit.Exa Z h' x ST ∧ RoadKit.Fld Z h' x ST "value" "[B" (.ref h.size) ∧ RoadKit.Fld Z h' x ST "coder" "B" (.int 0) ∧
  (∃ V : Cell, RoadKit.Arr Z h' h.size V .byte ∧ V.vm = .none ∧ Z.vm.findClass "[B" = some V.cls ∧ V.slots.size = A.slots.size ∧ ∀ j, j < A.slots.size → V.slots[j]? = some (.int (lo8 (cv A j)))) ∧
  ∀ (O n d : String) (w : Value), RoadKit.Fld Z h x O n d w → RoadKit.slotOf Z O n d ≠ RoadKit.slotOf Z ST "value" "[B" → RoadKit.slotOf Z O n d ≠ RoadKit.slotOf Z ST "coder" "B" → RoadKit.Fld Z h' x O n d w
/-- **new String(chars) AT A CALL, IN THE ROAD'S FORM**: for specialBack behind newO: x the fresh String, b the char[] with the cell A -/
theorem back {p : Program} {l : Launch} {e : Env} {R : Room} {s : State} {args : Array Value} {below : List Frame} {len W : Nat} {Z : State} {a0 : Array Value} {h : Heap} (hZ : Z.Warmed39 s.vm) (hw : ∀ d ∈ words, d.before a0 Z = true) {kI : Nat} (wi : (Jvm.Cond.instantiable ST kI).before a0 Z = true)
    {x b : Addr} {A : Cell} {z : Int32} {v0 c0 : Value} (E : RoadKit.Exa Z h x ST) (V : RoadKit.Fld Z h x ST "value" "[B" v0) (C : RoadKit.Fld Z h x ST "coder" "B" c0) (K : RoadKit.Arr Z h b A .char) (hty : Typed .char A) (S : RoadKit.Sta Z h ST "COMPACT_STRINGS" "Z" (.int z)) (hz : ¬ z = 0)
    (l0 : 0 < A.slots.size) (l2 : A.slots.size ≤ 536870912) (hp : ∀ i, i < A.slots.size → ¬ 255 < cv A i) (hfr : 4 ≤ R.frames) (hlo : W + 65 ≤ R.locals) :
    Back l R p e below s args New1.yN len W (fun P a => a = #[.ref x, .ref b] ∧ P.U.heap = h ∧ P.cells + 1 ≤ R.cells ∧ P.slots + A.slots.size ≤ R.slots)
      (fun P _ v B => ∃ L, Q Z x A h v B.U.heap L ∧ B.locs = P.locs ++ L ∧ B.cells = P.cells + 1 ∧ B.slots = P.slots + A.slots.size) := by
  intro m meth c P g ig mk a X hg hsize hdg hW hn hp'
  obtain ⟨rfl, rfl, r1, r2⟩ := hp'
  have al : Z.vm.Alike P.U.vm := hZ.alike.trans X.warmed.alike
  obtain ⟨D, cfV, kV, iV, fV, hD, gV, stV, knV, obV, asV, slV⟩ := id V
  obtain ⟨D', cfC, kC, iC, fC, hD', gC, stC, -, -, asC, slC⟩ := id C
  cases hD.symm.trans hD'
  obtain ⟨D2, kD, e1, e2, e3, e4, e5⟩ := id E
  cases hD.symm.trans e1
  obtain ⟨c2, k2, i1, i2, i3, -⟩ := Cond.instantiable_spec wi
  cases e2.symm.trans i1
  cases e3.symm.trans i2
  obtain ⟨kU, u1, u2⟩ := al.2.2 _ _ e3
  have hB : Blank ST x D P.U := ⟨hD, ⟨knV, fun q hq => by rw [hq] at obV; cases obV⟩, by rw [al.findClass]; exact e2, kU, u1, by rw [u2]; exact i3, by rw [u2]; exact e5 i3⟩
  have F1 : Found ST "value" "[B" fV P.U := ⟨SBG.found_only al ⟨cfV, kV, iV, gV⟩, stV⟩
  have F2 : Found ST "coder" "B" fC P.U := ⟨SBG.found_only al ⟨cfC, kC, iC, gC⟩, stC⟩
  have hA : Ch b A P.U := ⟨⟨K.1, State.isArrayOf_alike al K.2.1, K.2.2, by omega⟩, hty⟩
  have hS : StaticIs P.U ST "COMPACT_STRINGS" "Z" (.int z) := by
    obtain ⟨cfS, iS, kS, fS, st, cS, t1, t2, t3, t4, t5, t6, t7⟩ := S
    exact StaticIs.there (s := { Z with heap := P.U.heap }) ⟨cfS, iS, kS, fS, st, cS, t1, t2, t3, t4, t5, (fun q => by rw [q] at t6; cases t6), t7⟩ al rfl
  obtain ⟨v, B, X', ⟨⟨hv, E', V', q1, q2, q3, q4, q5, q6, q7, q8, q9, q10, q11⟩, hl, hc, hs⟩, st⟩ := New1.pays x D fV fC b A z (tab_of (moved hZ hw)) hfr hlo m meth c P g ig mk _ X hg hsize hdg hW hn ⟨r1, r2, rfl, hB, F1, F2, hA, hS, hz, l0, l2, hp⟩
  have al' : Z.vm.Alike B.U.vm := hZ.alike.trans X'.warmed.alike
  have hsz : E'.slots.size = D.slots.size := by
    obtain ⟨-, -, -, kB, w1, w2, w3⟩ := q1
    obtain ⟨kB', y1, y2⟩ := al'.2.2 _ _ e3
    rw [q2.2.1] at w1
    cases w1.symm.trans y1
    rw [w3, e5 i3, y2]
  refine ⟨v, B, X', ⟨_, ⟨hv, ?_, ⟨by omega, fun y cy hy hn' => q10 y cy (by simpa using hn') hy, fun y cy hy => ?_⟩, q11, ⟨E', _, q1.1, by rw [q2.2.1]; exact e2, by rw [q2.2.1]; exact e3, by rw [q2.1]; exact obV, fun _ => by rw [hsz]; exact e5 i3⟩,
    ⟨E', cfV, kV, iV, fV, q1.1, gV, stV, by rw [q2.1]; exact knV, by rw [q2.1]; exact obV, by rw [q2.2.1]; exact asV, q3⟩, ⟨E', cfC, kC, iC, fC, q1.1, gC, stC, by rw [q2.1]; exact knV, by rw [q2.1]; exact obV, by rw [q2.2.1]; exact asC, q4⟩,
    ⟨V', ⟨q5.1, State.isArrayOf_alike al'.symm q5.2.1, q5.2.2.1⟩, q6, by rw [← al'.findClass]; exact q7, q8, fun j hj => by have := q9 j hj; rwa [Nat.zero_add] at this⟩, fun O n d w F n1 n2 => ?_⟩, hl, hc, hs⟩, st⟩
  · intro y hy
    simp only [List.mem_cons, List.not_mem_nil, or_false] at hy
    rcases hy with rfl | rfl <;> rfl
  · by_cases q : y = x
    · subst q
      cases hD.symm.trans hy
      exact ⟨E', q1.1, q2.2.1, q2.1, hsz⟩
    · exact ⟨cy, q10 y cy q hy, rfl, rfl, rfl⟩
  · obtain ⟨D3, cf, k, i, f, g1, g2, g3, g4, g5, g6, g7⟩ := F
    cases hD.symm.trans g1
    simp only [RoadKit.slotOf, g2, gV, gC, Option.map_some, Option.getD_some] at n1 n2
    exact ⟨E', cf, k, i, f, q1.1, g2, g3, by rw [q2.1]; exact g4, by rw [q2.1]; exact g5, by rw [q2.2.1]; exact g6, by rw [q2.2.2 f.slot (by simp [n1, n2])]; exact g7⟩
end StrChars.Road
namespace StrChars.Road
open Jvm Sem ClassFile Op Lib Jvm.Stand Jvm.Free Jvm.Free.XT
/-- WHAT COMES BACK, the byte[] as a list of values -/
def QA (Z : State) (x : Addr) (zn : Int32) (cs : List Int32) (h : Heap) (v : Option Value) (h' : Heap) (L : List Loc) : Prop := v = none ∧ (∀ y ∈ L, y.base = x) ∧ RoadKit.Keep h h' [x] ∧ h'.size = h.size + 1 ∧ RoadKit.Exa Z h' x ST ∧ RoadKit.Fld Z h' x ST "value" "[B" (.ref h.size) ∧ RoadKit.Fld Z h' x ST "coder" "B" (.int 0) ∧
  (∃ kb, Z.vm.findClass "[B" = some kb ∧ RoadKit.Arv Z h' h.size kb .byte zn (cs.map fun c => .int (lo8 c)) (.int 0)) ∧
  ∀ (O n d : String) (w : Value), RoadKit.Fld Z h x O n d w → RoadKit.slotOf Z O n d ≠ RoadKit.slotOf Z ST "value" "[B" → RoadKit.slotOf Z O n d ≠ RoadKit.slotOf Z ST "coder" "B" → RoadKit.Fld Z h' x O n d w
/-- **new String(chars) AT A CALL, THE ARRAYS AS LISTS**: the char[] at b holds cs, not empty, no char above 255 -/
theorem backArv {p : Program} {l : Launch} {e : Env} {R : Room} {s : State} {args : Array Value} {below : List Frame} {len W : Nat} {Z : State} {a0 : Array Value} {h : Heap} (hZ : Z.Warmed39 s.vm) (hw : ∀ d ∈ words, d.before a0 Z = true) {kI : Nat} (wi : (Jvm.Cond.instantiable ST kI).before a0 Z = true)
    {x b : Addr} {k : ClassId} {zn z : Int32} {cs : List Int32} {dv v0 c0 : Value} (E : RoadKit.Exa Z h x ST) (V : RoadKit.Fld Z h x ST "value" "[B" v0) (C : RoadKit.Fld Z h x ST "coder" "B" c0) (K : RoadKit.Arv Z h b k .char zn (cs.map Value.int) dv) (S : RoadKit.Sta Z h ST "COMPACT_STRINGS" "Z" (.int z)) (hz : ¬ z = 0)
    (hlen : zn.toNatClampNeg = cs.length) (h0 : 0 < cs.length) (hbig : cs.length ≤ 536870912) (hall : ∀ c ∈ cs, ¬ 255 < c) (hfr : 4 ≤ R.frames) (hlo : W + 65 ≤ R.locals) :
    Back l R p e below s args New1.yN len W (fun P a => a = #[.ref x, .ref b] ∧ P.U.heap = h ∧ P.cells + 1 ≤ R.cells ∧ P.slots + cs.length ≤ R.slots)
      (fun P _ v B => ∃ L, QA Z x zn cs h v B.U.heap L ∧ B.locs = P.locs ++ L ∧ B.cells = P.cells + 1 ∧ B.slots = P.slots + cs.length) := by
  obtain ⟨A, K1, K2, K3, K4, K5, K6⟩ := K
  have e : A.slots.size = cs.length := K3.trans hlen
  have hat : ∀ (i : Nat) (hi : i < cs.length), A.slots[i]? = some (.int cs[i]) := fun i hi => by rw [K5 i (by omega)]; simp [List.getD_eq_getElem?_getD, hi]
  have hcv : ∀ (i : Nat) (hi : i < cs.length), cv A i = cs[i] := fun i hi => by unfold cv; rw [hat i hi]
  have hty : Typed .char A := fun i v hv => by
    have hi : i < A.slots.size := (Array.getElem?_eq_some_iff.mp hv).1
    have q := K5 i hi
    rw [hv] at q
    rw [Option.some.inj q]
    exact K6 i hi
  refine Back.mono (back hZ hw wi E V C K1 hty S hz (by omega) (by omega) (fun i hi => by rw [hcv i (by omega)]; exact hall _ (List.getElem_mem _)) hfr hlo) (fun P a hp => ⟨hp.1, hp.2.1, hp.2.2.1, by rw [e]; exact hp.2.2.2⟩) (fun P a v B hp hq => ?_)
  obtain ⟨L, ⟨q1, q2, q3, q4, q5, q6, q7, ⟨V', v1, v2, v3, v4, v5⟩, q9⟩, hl, hc, hs⟩ := hq
  refine ⟨L, ⟨q1, q2, q3, q4, q5, q6, q7, ⟨V'.cls, v3, V', v1, rfl, by rw [v4, e, hlen], K4, fun i hi => ?_, fun i hi => ?_⟩, q9⟩, hl, hc, by rw [hs, e]⟩
  · have hi' : i < cs.length := by omega
    rw [v5 i (by omega), hcv i hi']; simp [List.getD_eq_getElem?_getD, hi']
  · have hi' : i < cs.length := by omega
    simp only [List.getD_eq_getElem?_getD, List.getElem?_map, List.getElem?_eq_getElem hi', Option.map_some, Option.getD_some]
    exact fits_lo8 _
end StrChars.Road
namespace StrChars.Road
open Jvm Sem ClassFile Op Lib Jvm.Stand Jvm.Free Jvm.Free.XT
/-- WHAT COMES BACK, in the writer's own shape -/
def QV (Z : State) (x : Addr) (N : Int32) (bs : List Int32) (h : Heap) (n0 : Nat) (v : Option Value) (h' : Heap) (L : List Loc) : Prop := v = none ∧ RoadKit.Fr n0 L ∧ RoadKit.Keep h h' [x] ∧ RoadKit.Exa Z h' x ST ∧ RoadKit.Fld Z h' x ST "coder" "B" (.int 0) ∧
  ∃ (t : Addr) (kb : ClassId), n0 ≤ t ∧ h.size ≤ t ∧ ¬ t = x ∧ RoadKit.Fld Z h' x ST "value" "[B" (.ref t) ∧ RoadKit.Arv Z h' t kb .byte N (bs.map Value.int) (.int 0)
/-- **new String(chars) AT A CALL, FOR THE WRITER**: a char[] of n known ints, each 0 to 255 -/
theorem backV {p : Program} {l : Launch} {e : Env} {R : Room} {s : State} {args : Array Value} {below : List Frame} {len W : Nat} {Z : State} {a0 : Array Value} {h : Heap} (hZ : Z.Warmed39 s.vm) (hw : ∀ d ∈ words, d.before a0 Z = true) {kI : Nat} (wi : (Jvm.Cond.instantiable ST kI).before a0 Z = true)
    {x b : Addr} {kC : ClassId} {cs bs : List Int32} {d v0 c0 : Value} {z N : Int32} {n n0 : Nat} (hx0 : n0 ≤ x) (hh0 : n0 ≤ h.size) (E : RoadKit.Exa Z h x ST) (V : RoadKit.Fld Z h x ST "value" "[B" v0) (C : RoadKit.Fld Z h x ST "coder" "B" c0) (K : RoadKit.Arv Z h b kC .char N (cs.map Value.int) d) (S : RoadKit.Sta Z h ST "COMPACT_STRINGS" "Z" (.int z)) (hz : ¬ z = 0)
    (hn : cs.length = n) (hN : N = Int32.ofNat n) (l0 : 0 < n) (l2 : n ≤ 4000) (hp : ∀ c ∈ cs, ¬ c < 0 ∧ ¬ (255 : Int32) < c) (hb : bs = cs.map (fun c => c.toInt8.toInt32)) (hfr : 4 ≤ R.frames) (hlo : W + 65 ≤ R.locals) :
    Back l R p e below s args (⟨"java/lang/String", "<init>", "([C)V"⟩ : MethodName) len W (fun P a => a = #[.ref x, .ref b] ∧ P.U.heap = h ∧ P.cells + 1 ≤ R.cells ∧ P.slots + n ≤ R.slots)
      (fun P _ v B => ∃ L, QV Z x N bs h n0 v B.U.heap L ∧ B.locs = P.locs ++ L ∧ B.cells = P.cells + 1 ∧ B.slots = P.slots + n) := by
  subst hn hN hb
  refine Back.mono (backArv hZ hw wi E V C K S hz (n32 (by omega)) l0 (by omega) (fun c hc => (hp c hc).2) hfr hlo) (fun P a hp => hp) (fun P a v B hp hq => ?_)
  obtain ⟨L, ⟨q1, q2, q3, q4, q5, q6, q7, ⟨kb, v1, v2⟩, q9⟩, hl, hc, hs⟩ := hq
  exact ⟨L, ⟨q1, fun y hy => by rw [q2 y hy]; exact hx0, q3, q5, q7, h.size, kb, hh0, Nat.le_refl _, Nat.ne_of_gt E.lt, q6, by rw [List.map_map]; exact v2⟩, hl, hc, hs⟩
end StrChars.Road
namespace StrChars
open Jvm Sem ClassFile Op Lib Jvm.Stand Jvm.Free.XT Jvm.Free.ALB Jvm.Free.JM Jvm.Free
open Jvm.Lib.Cold (StaticIs)
def hi8 (x : Int32) : Int32 := lo8 (x >>> ((8 : Int32) &&& 31))
/-- what StringUTF16.getChar makes of two bytes -/
def pairCh (u v : Int32) : Int32 := (((u &&& 255) <<< ((0 : Int32) &&& 31)) ||| ((v &&& 255) <<< ((8 : Int32) &&& 31))).toUInt32.toUInt16.toUInt32.toInt32
theorem shr0 (c : Int32) : c >>> ((0 : Int32) &&& 31) = c := by
  have e : ((0 : Int32) &&& 31) = 0 := by decide
  rw [e]
  apply Int32.toBitVec_inj.mp
  rw [Int32.toBitVec_shiftRight]
  have e1 : ((0 : Int32).toBitVec.smod 32) = 0#32 := by decide
  rw [e1, BitVec.sshiftRight_eq']
  exact BitVec.sshiftRight_zero
theorem lo8_and (x : Int32) : (lo8 x &&& 255).toBitVec.toNat = x.toBitVec.toNat % 256 := by
  have h : (lo8 x).toBitVec = (x.toBitVec.signExtend 8).signExtend 32 := by rw [lo8, Int8.toBitVec_toInt32, Int32.toBitVec_toInt8]
  rw [Int32.toBitVec_and, BitVec.toNat_and, h]
  have e : ((x.toBitVec.signExtend 8).signExtend 32).toNat % 256 = x.toBitVec.toNat % 256 := by
    rw [BitVec.toNat_signExtend]
    have hlt := x.toBitVec.isLt
    simp only [BitVec.toNat_setWidth, BitVec.toNat_signExtend]
    split <;> split <;> omega
  rw [← e]
  exact Nat.and_two_pow_sub_one_eq_mod _ 8
theorem pair_says {c : Int32} (h0 : ¬ c < 0) (h1 : ¬ 65535 < c) : pairCh (lo8 c) (hi8 c) = c := by
  rw [Int32.lt_iff_toInt_lt] at h0 h1
  have e0 : (0 : Int32).toInt = 0 := rfl
  have e1 : (65535 : Int32).toInt = 65535 := rfl
  have hc : c.toInt = c.toBitVec.toNat := by
    have := c.toBitVec.isLt
    have e : c.toInt = c.toBitVec.toInt := rfl
    rw [e] at h0 h1
    rw [e]
    rw [BitVec.toInt_eq_toNat_cond] at h0 h1 ⊢
    split at h0 <;> split <;> omega
  have hn : c.toBitVec.toNat < 65536 := by omega
  have a1 := lo8_and c
  have a2 : (hi8 c &&& 255).toBitVec.toNat = c.toBitVec.toNat / 256 := by
    rw [hi8, lo8_and]
    have e : ((8 : Int32) &&& 31) = 8 := by decide
    rw [e, Int32.toBitVec_shiftRight]
    have e2 : ((8 : Int32).toBitVec.smod 32) = 8#32 := by decide
    rw [e2, BitVec.sshiftRight_eq', BitVec.toNat_sshiftRight_of_msb_false (by rw [BitVec.msb_eq_false_iff_two_mul_lt]; omega)]
    show c.toBitVec.toNat >>> 8 % 256 = _
    rw [Nat.shiftRight_eq_div_pow]
    omega
  unfold pairCh
  apply Int32.toBitVec_inj.mp
  apply BitVec.eq_of_toNat_eq
  have f0 : ((0 : Int32) &&& 31) = 0 := by decide
  have f8 : ((8 : Int32) &&& 31) = 8 := by decide
  rw [f0, f8]
  have g : (((lo8 c &&& 255) <<< (0 : Int32)) ||| ((hi8 c &&& 255) <<< (8 : Int32))).toBitVec.toNat = c.toBitVec.toNat := by
    rw [Int32.toBitVec_or, Int32.toBitVec_shiftLeft, Int32.toBitVec_shiftLeft]
    have s0 : ((0 : Int32).toBitVec.smod 32) = 0#32 := by decide
    have s8 : ((8 : Int32).toBitVec.smod 32) = 8#32 := by decide
    rw [s0, s8, BitVec.toNat_or]
    simp only [BitVec.shiftLeft_eq', BitVec.toNat_shiftLeft, a1, a2]
    show (c.toBitVec.toNat % 256) <<< 0 % 2 ^ 32 ||| (c.toBitVec.toNat / 256) <<< 8 % 2 ^ 32 = _
    rw [Nat.shiftLeft_zero, Nat.mod_eq_of_lt (show c.toBitVec.toNat % 256 < 2 ^ 32 by omega), Nat.mod_eq_of_lt (show (c.toBitVec.toNat / 256) <<< 8 < 2 ^ 32 by rw [Nat.shiftLeft_eq]; omega), Nat.or_comm, ← Nat.shiftLeft_add_eq_or_of_lt (by omega), Nat.shiftLeft_eq]
    omega
  show BitVec.toNat (((((lo8 c &&& 255) <<< (0 : Int32)) ||| ((hi8 c &&& 255) <<< (8 : Int32))).toBitVec.setWidth 16).setWidth 32) = _
  rw [BitVec.toNat_setWidth, BitVec.toNat_setWidth, g]
  omega
end StrChars
namespace StrChars
open Jvm Sem ClassFile Op Lib Jvm.Stand Jvm.Free.XT Jvm.Free.ALB Jvm.Free.JM Jvm.Free
open Jvm.Lib.Cold (StaticIs)
theorem shr1 {n : Nat} (h : 2 * n < 2 ^ 31) : Int32.ofNat (2 * n) >>> ((1 : Int32) &&& 31) = Int32.ofNat n := by
  have e : ((1 : Int32) &&& 31) = 1 := by decide
  rw [e]
  apply Int32.toBitVec_inj.mp
  rw [Int32.toBitVec_shiftRight]
  have e1 : ((1 : Int32).toBitVec.smod 32) = 1#32 := by decide
  have hm : (BitVec.ofNat 32 (2 * n)).toNat = 2 * n := by rw [BitVec.toNat_ofNat, Nat.mod_eq_of_lt (by omega)]
  rw [e1, BitVec.sshiftRight_eq']
  apply BitVec.eq_of_toNat_eq
  show ((BitVec.ofNat 32 (2 * n)).sshiftRight 1).toNat = (BitVec.ofNat 32 n).toNat
  rw [BitVec.toNat_sshiftRight_of_msb_false (by rw [BitVec.msb_eq_false_iff_two_mul_lt, hm]; omega), hm, BitVec.toNat_ofNat, Nat.shiftRight_eq_div_pow]
  omega
/-- the array's cell V codes the n chars f 0 .. f (n - 1) by the coder cd, as the JDK does: coder 1 just where some char is above 255 -/
def Cod (cd : Int32) (n : Nat) (f : Nat → Int32) (V : Cell) : Prop := (cd = 0 ∧ V.slots.size = n ∧ ∀ j, j < n → V.slots[j]? = some (.int (lo8 (f j))) ∧ ¬ 255 < f j) ∨ (cd = 1 ∧ V.slots.size = 2 * n ∧ (∀ j, j < n → V.slots[2 * j]? = some (.int (lo8 (f j))) ∧ V.slots[2 * j + 1]? = some (.int (hi8 (f j)))) ∧ ∃ j, j < n ∧ 255 < f j)
theorem Cod.cd {cd : Int32} {n : Nat} {f : Nat → Int32} {V : Cell} (h : Cod cd n f V) : cd = 0 ∨ cd = 1 := h.imp (fun q => q.1) fun q => q.1
theorem Cod.len {cd : Int32} {n : Nat} {f : Nat → Int32} {V : Cell} (h : Cod cd n f V) (hs : V.slots.size < 2 ^ 31) : Int32.ofNat V.slots.size >>> (cd &&& 31) = Int32.ofNat n := by
  rcases h with ⟨rfl, h, -⟩ | ⟨rfl, h, -⟩
  · rw [shr0, h]
  · rw [h, shr1 (by omega)]
/-- **x is a String of the n chars f 0 .. f (n - 1)**, Latin-1 or UTF-16; its array at t has the cell V -/
def Txt (x t : Addr) (V : Cell) (cd : Int32) (n : Nat) (f : Nat → Int32) (U : State) : Prop := Exact "java/lang/String" x U ∧ Has x "java/lang/String" "value" "[B" (.ref t) U ∧ Has x "java/lang/String" "coder" "B" (.int cd) U ∧ XT.Arr .byte t V U ∧ Cod cd n f V ∧ ∀ j, j < n → ¬ f j < 0 ∧ ¬ 65535 < f j
theorem Txt.mv {x t : Addr} {V : Cell} {cd : Int32} {n : Nat} {f : Nat → Int32} {U U' : State} (h : Txt x t V cd n f U) (hal : U.vm.Alike U'.vm) (hh : U'.heap = U.heap) : Txt x t V cd n f U' := ⟨h.1.mv hal hh, h.2.1.mv hal hh, h.2.2.1.mv hal hh, h.2.2.2.1.mv hal hh, h.2.2.2.2⟩
namespace Cdr
def yN : MethodName := ⟨"java/lang/String", "coder", "()B"⟩
abbrev yB : ByteArray := jdk_42_method_152_code
theorem d0 : decode yB 0 = .ok (.getstatic 38, 3) := by decide +kernel
theorem d3 : decode yB 3 = .ok (.ifCond (.eq) 10, 3) := by decide +kernel
theorem d6 : decode yB 6 = .ok (.aload_n 0, 1) := by decide +kernel
theorem d7 : decode yB 7 = .ok (.getfield 15, 3) := by decide +kernel
theorem d10 : decode yB 10 = .ok (.goto 4, 3) := by decide +kernel
theorem d14 : decode yB 14 = .ok (.ireturn, 1) := by decide +kernel
def site : List Cond := [.fieldLink "java/lang/String" 38 "java/lang/String" "COMPACT_STRINGS" "Z", .fieldLink "java/lang/String" 15 "java/lang/String" "coder" "B"]
def tab : Cond := tabOf yN yB 1 (some .byte) site
def P (x : Addr) (cd z : Int32) (args : Array Value) (s : State) : Prop := args = #[.ref x] ∧ Has x "java/lang/String" "coder" "B" (.int cd) s ∧ (cd = 0 ∨ cd = 1) ∧ StaticIs s "java/lang/String" "COMPACT_STRINGS" "Z" (.int z) ∧ ¬ z = 0
def E (cd : Int32) (r : Option Value) (s u : State) : Prop := XT.PureE (some (.int cd)) r s u
theorem law (l : Launch) (x : Addr) (cd z : Int32) : Law l yN 1 0 0 0 yB 1 (some .byte) site (P x cd z) (E cd) [] 0 0 := by
  refine Law.of_walk (plainFor_of_name (by decide +kernel)) (by decide +kernel) (by decide +kernel) (by decide) (fun _ _ h => by rw [h.1]; rfl) (fun _ U U' hal hh h => ⟨h.1, h.2.1.mv hal hh, h.2.2.1, h.2.2.2.1.there hal hh, h.2.2.2.2⟩) (fun r U U' V V' h1 hal h2 h => XT.PureE.mv r U U' V V' h1 hal h2 h) ?_
  intro p e s m args below meth c s₁ X0 hexec hbytes hml hret hlk hnm hown hh0 W hP
  obtain ⟨rfl, hx, hc, s1, hz⟩ := hP
  have c1 : Steps p.tables e below (s₁.setTop (entryFrame m #[.ref x] 1)) (s₁.setTop (mkF m 0 #[.val (.ref x)] [])) := entry rfl
  obtain ⟨T2, X2, q2, st2⟩ := X0.sget hexec hown (wk W (.fieldLink "java/lang/String" 38 "java/lang/String" "COMPACT_STRINGS" "Z")) s1 (fun _ _ h => by rw [hh0]; exact h) (g := (mkF m 0 #[.val (.ref x)] [])) rfl (hb hbytes d0)
  have hh2 := q2.trans hh0
  have c3 : Steps p.tables e below (s₁.setTop (entryFrame m #[.ref x] 1)) (T2.setTop (mkF m 7 #[.val (.ref x)] [.ref x])) := (c1.trans (st2 _ (Steps.refl _))).trans (by
    refine XS.ifNo X2.here hexec rfl (hb hbytes d3) rfl (i0_eq_f hz) ?_
    refine XS.aloadN X2.here hexec rfl (hb hbytes d6) rfl rfl ?_
    exact Steps.refl _)
  obtain ⟨T4, X4, q4, st4⟩ := X2.hget hexec hown (wk W (.fieldLink "java/lang/String" 15 "java/lang/String" "coder" "B")) (hx.mv X2.warmed.alike hh2) (g := (mkF m 7 #[.val (.ref x)] [.ref x])) rfl (rest := []) rfl (hb hbytes d7)
  have c5 : Steps p.tables e below (s₁.setTop (entryFrame m #[.ref x] 1)) (T4.setTop (mkF m 14 #[.val (.ref x)] [.int cd])) := (c3.trans (st4 _ (Steps.refl _))).trans (by
    refine XS.goto X4.here hexec rfl (pc0 := 10) rfl (hb hbytes d10) (by decide) rfl ?_
    exact Steps.refl _)
  exact ⟨T4, some (.int cd), _, _, _, X4, rfl, rfl, rfl, (fun h => by cases h), ⟨rfl, q4.trans hh2⟩, fun fs hl => c5.trans (X4.ireturnOut hexec hret (by rcases hc with rfl | rfl <;> rfl) (Or.inr (Or.inr (Or.inl rfl))) (hb hbytes d14) hl)⟩
end Cdr
namespace Len
def yN : MethodName := ⟨"java/lang/String", "length", "()I"⟩
abbrev yB : ByteArray := jdk_42_method_54_code
theorem d0 : decode yB 0 = .ok (.aload_n 0, 1) := by decide +kernel
theorem d1 : decode yB 1 = .ok (.getfield 9, 3) := by decide +kernel
theorem d4 : decode yB 4 = .ok (.arraylength, 1) := by decide +kernel
theorem d5 : decode yB 5 = .ok (.aload_n 0, 1) := by decide +kernel
theorem d6 : decode yB 6 = .ok (.invokevirtual 335, 3) := by decide +kernel
theorem d9 : decode yB 9 = .ok (.ishr, 1) := by decide +kernel
theorem d10 : decode yB 10 = .ok (.ireturn, 1) := by decide +kernel
def site : List Cond := [.fieldLink "java/lang/String" 9 "java/lang/String" "value" "[B", Cdr.tab] ++ virtW "java/lang/String" 335 "java/lang/String" Cdr.yN Cdr.yN
def tab : Cond := tabOf yN yB 1 (some .int) site
def P (x t : Addr) (V : Cell) (cd : Int32) (n : Nat) (f : Nat → Int32) (z : Int32) (args : Array Value) (s : State) : Prop := args = #[.ref x] ∧ Txt x t V cd n f s ∧ StaticIs s "java/lang/String" "COMPACT_STRINGS" "Z" (.int z) ∧ ¬ z = 0
def E (n : Nat) (r : Option Value) (s u : State) : Prop := XT.PureE (some (.int (Int32.ofNat n))) r s u
/-- length() of a String of n chars, in either coding -/
theorem law (l : Launch) (x t : Addr) (V : Cell) (cd : Int32) (n : Nat) (f : Nat → Int32) (z : Int32) : Law l yN 1 0 1 13 yB 1 (some .int) site (P x t V cd n f z) (E n) [] 0 0 := by
  refine Law.of_walk (plainFor_of_name (by decide +kernel)) (by decide +kernel) (by decide +kernel) (by decide) (fun _ _ h => by rw [h.1]; rfl) (fun _ U U' hal hh h => ⟨h.1, h.2.1.mv hal hh, h.2.2.1.there hal hh, h.2.2.2⟩) (fun r U U' V V' h1 hal h2 h => XT.PureE.mv r U U' V V' h1 hal h2 h) ?_
  intro p e s m args below meth c s₁ X0 hexec hbytes hml hret hlk hnm hown hh0 W hP
  obtain ⟨rfl, hx, s1, hz⟩ := hP
  have v31 := hx.2.2.2.1.2.2.2
  have c1 : Steps p.tables e below (s₁.setTop (entryFrame m #[.ref x] 1)) (s₁.setTop (mkF m 1 #[.val (.ref x)] [.ref x])) := Steps.trans (entry rfl) (by
    show Steps p.tables e below (s₁.setTop (mkF m 0 #[.val (.ref x)] [])) _
    refine XS.aloadN X0.here hexec rfl (hb hbytes d0) rfl rfl ?_
    exact Steps.refl _)
  obtain ⟨T2, X2, q2, st2⟩ := X0.hget hexec hown (wk W (.fieldLink "java/lang/String" 9 "java/lang/String" "value" "[B")) (hx.mv X0.warmed.alike hh0).2.1 (g := (mkF m 1 #[.val (.ref x)] [.ref x])) rfl (rest := []) rfl (hb hbytes d1)
  have hh2 := q2.trans hh0
  have hx2 := hx.mv X2.warmed.alike hh2
  have c3 : Steps p.tables e below (s₁.setTop (entryFrame m #[.ref x] 1)) (T2.setTop (mkF m 6 #[.val (.ref x)] [.ref x, .int (Int32.ofNat V.slots.size)])) := (c1.trans (st2 _ (Steps.refl _))).trans (by
    refine X2.alen hexec hx2.2.2.2.1 rfl rfl (hb hbytes d4) ?_
    refine XS.aloadN X2.here hexec rfl (hb hbytes d5) rfl rfl ?_
    exact Steps.refl _)
  obtain ⟨v4, T4, X4, E4, g4⟩ := X2.callV hexec (Cdr.law l x cd z) hown (wks W (virtW "java/lang/String" 335 "java/lang/String" Cdr.yN Cdr.yN)) rfl (by decide) (wk W Cdr.tab) (W := 1) (Nat.le_of_ble_eq_true rfl) (Nat.le_of_ble_eq_true rfl) (Nat.le_refl _) (Nat.le_refl _) (hx2.1.fc X2.warmed.alike) hx2.1.is (g := (mkF m 6 #[.val (.ref x)] [.ref x, .int (Int32.ofNat V.slots.size)])) rfl (by rw [hml]; rfl) c3 (argsL := []) (rest := [.int (Int32.ofNat V.slots.size)]) rfl rfl (by show 2 * 0 + (1 + 0) ≤ _; decide) (hb hbytes d6) (⟨rfl, hx2.2.2.1, hx.2.2.2.2.1.cd, s1.there X2.warmed.alike hh2, hz⟩)
  obtain ⟨rfl, q4⟩ := E4
  have c5 : Steps p.tables e below (s₁.setTop (entryFrame m #[.ref x] 1)) (T4.setTop (mkF m 10 #[.val (.ref x)] [.int (Int32.ofNat V.slots.size >>> (cd &&& 31))])) := Steps.trans g4 (by
    refine ishr X4.here hexec rfl (hb hbytes d9) rfl ?_
    exact Steps.refl _)
  rw [hx.2.2.2.2.1.len v31] at c5
  exact ⟨T4, some (.int (Int32.ofNat n)), _, _, _, X4, rfl, rfl, rfl, (fun h => by cases h), ⟨rfl, q4.trans hh2⟩, fun fs hl => c5.trans (X4.ireturnOut hexec hret rfl (Or.inl rfl) (hb hbytes d10) hl)⟩
theorem pays {l : Launch} {R : Room} {p : Program} {e : Env} {below : List Frame} {s : State} {sargs : Array Value} {len W : Nat} (x t : Addr) (V : Cell) (cd : Int32) (n : Nat) (f : Nat → Int32) (z : Int32) (htab : tab.before sargs s = true) (hfr : 2 ≤ R.frames) (hlo : W + 25 ≤ R.locals) :
    Back l R p e below s sargs yN len W (fun A₁ a₁ => A₁.cells + 0 ≤ R.cells ∧ A₁.slots + 0 ≤ R.slots ∧ P x t V cd n f z a₁ A₁.U) (fun A₁ _ v₁ B₁ => E n v₁ A₁.U B₁.U ∧ B₁.locs = A₁.locs ++ [] ∧ B₁.cells = A₁.cells + 0 ∧ B₁.slots = A₁.slots + 0) :=
  (law l x t V cd n f z).pays htab hfr (by omega)
end Len
end StrChars
namespace StrChars.Road
open Jvm Sem ClassFile Op Lib Jvm.Stand Jvm.Free Jvm.Free.XT
open Jvm.Lib.Cold (StaticIs)
theorem consq {a : Array Value} {s : State} {c : Jvm.Cond} {L : List Jvm.Cond} (h0 : c.before a s = true) (h : ∀ w ∈ L, w.before a s = true) : ∀ w ∈ c :: L, w.before a s = true := fun w hw => (List.mem_cons.mp hw).elim (fun e => e ▸ h0) (h w)
/-- the words of String.length(), either coding -/
abbrev wordsLen : List Jvm.Cond := [.code Len.yN Len.yB 1 (some .int), .initialized ST, .fieldLink ST 9 ST "value" "[B", .fieldLink ST 38 ST "COMPACT_STRINGS" "Z", .fieldLink ST 15 ST "coder" "B", .code Cdr.yN Cdr.yB 1 (some .byte), .methodLink ST 335 Cdr.yN, .declares Cdr.yN, .selects ST Cdr.yN Cdr.yN, .instanceMethod Cdr.yN]
theorem tabLen_of {a : Array Value} {s : State} (h : ∀ w ∈ wordsLen, w.before a s = true) : Len.tab.before a s = true := by
  have hc : Cdr.tab.before a s = true := unparts (wk h (.code Cdr.yN Cdr.yB 1 (some .byte))) (wks h (.initialized Cdr.yN.cls :: Cdr.site))
  have q := consq hc h
  exact unparts (wk q (.code Len.yN Len.yB 1 (some .int))) (wks q (.initialized Len.yN.cls :: Len.site))
theorem movedLen {Z s : State} {a0 args : Array Value} (hZ : Z.Warmed39 s.vm) (hw : ∀ d ∈ wordsLen, d.before a0 Z = true) : ∀ d ∈ wordsLen, d.before args s = true := fun d hd => by
  have q := hw d hd
  have t : ∀ d ∈ wordsLen, d = .arrayClass .byte ∨ (d.onTables && d.keepsFace) = true := by decide +kernel
  rcases t d hd with rfl | t
  · exact RoadKit.mvA hZ q
  · exact RoadKit.mv hZ q t
/-- the bytes of the chars cs, low before high -/
def wideBytes : List Int32 → List Value
  | [] => []
  | c :: cs => .int (lo8 c) :: .int (hi8 c) :: wideBytes cs
theorem wide_lo (d : Value) : ∀ (cs : List Int32) (j : Nat), j < cs.length → (wideBytes cs).getD (2 * j) d = .int (lo8 (cs.getD j 0))
  | [], j, h => absurd h (Nat.not_lt_zero j)
  | c :: cs, 0, _ => rfl
  | c :: cs, j + 1, h => by
    have q := wide_lo d cs j (by simpa using h)
    rw [show 2 * (j + 1) = 2 * j + 1 + 1 from by omega]
    simpa [wideBytes] using q
theorem wide_hi (d : Value) : ∀ (cs : List Int32) (j : Nat), j < cs.length → (wideBytes cs).getD (2 * j + 1) d = .int (hi8 (cs.getD j 0))
  | [], j, h => absurd h (Nat.not_lt_zero j)
  | c :: cs, 0, _ => rfl
  | c :: cs, j + 1, h => by
    have q := wide_hi d cs j (by simpa using h)
    rw [show 2 * (j + 1) + 1 = 2 * j + 1 + 1 + 1 from by omega]
    simpa [wideBytes] using q
theorem low_at (d : Value) (cs : List Int32) (j : Nat) (h : j < cs.length) : (cs.map fun c => Value.int (lo8 c)).getD j d = .int (lo8 (cs.getD j 0)) := by
  simp [List.getD_eq_getElem?_getD, h]
/-- an array of N2 bytes vs codes the chars cs by the coder cd -/
def CodA (cs : List Int32) (cd N2 : Int32) (vs : List Value) : Prop := (cd = 0 ∧ N2 = Int32.ofNat cs.length ∧ vs = (cs.map fun c => Value.int (lo8 c)) ∧ ∀ c ∈ cs, ¬ 255 < c) ∨ (cd = 1 ∧ N2 = Int32.ofNat (2 * cs.length) ∧ vs = wideBytes cs ∧ ∃ c ∈ cs, 255 < c)
theorem CodA.cod {cs : List Int32} {cd N2 : Int32} {vs : List Value} {V : Cell} (h : CodA cs cd N2 vs) (hn : 2 * cs.length < 2 ^ 31) (hs : V.slots.size = N2.toNatClampNeg) (hv : RoadKit.Has V vs (.int 0)) : Cod cd cs.length (fun j => cs.getD j 0) V := by
  rcases h with ⟨rfl, rfl, rfl, h⟩ | ⟨rfl, rfl, rfl, c, hc, hw⟩
  · rw [n32 (by omega)] at hs
    exact Or.inl ⟨rfl, hs, fun j hj => ⟨by rw [hv j (by omega), low_at _ _ _ hj], by
      have e : cs.getD j 0 = cs[j] := by simp [List.getD_eq_getElem?_getD, hj]
      show ¬ 255 < cs.getD j 0
      rw [e]; exact h _ (List.getElem_mem _)⟩⟩
  · rw [n32 (by omega)] at hs
    obtain ⟨j, hj, rfl⟩ := List.getElem_of_mem hc
    exact Or.inr ⟨rfl, hs, fun j hj => ⟨by rw [hv _ (by omega), wide_lo _ _ _ hj], by rw [hv _ (by omega), wide_hi _ _ _ hj]⟩, j, hj, by
      have e : cs.getD j 0 = cs[j] := by simp [List.getD_eq_getElem?_getD, hj]
      show 255 < cs.getD j 0
      rw [e]; exact hw⟩
/-- an object of exactly java/lang/String, its two fields found: as the laws ask it -/
theorem strObj {Z U : State} {a0 : Array Value} {kI : Nat} (wi : (Jvm.Cond.instantiable ST kI).before a0 Z = true) (al : Z.vm.Alike U.vm) {x : Addr} {v0 c0 : Value} (E : RoadKit.Exa Z U.heap x ST) (V : RoadKit.Fld Z U.heap x ST "value" "[B" v0) (C : RoadKit.Fld Z U.heap x ST "coder" "B" c0) :
    ∃ (D : Cell) (fV fC : Field), Blank ST x D U ∧ Found ST "value" "[B" fV U ∧ Found ST "coder" "B" fC U ∧ D.slots[fV.slot]? = some v0 ∧ D.slots[fC.slot]? = some c0 ∧ RoadKit.slotOf Z ST "value" "[B" = fV.slot ∧ RoadKit.slotOf Z ST "coder" "B" = fC.slot := by
  obtain ⟨D, cfV, kV, iV, fV, hD, gV, stV, knV, obV, asV, slV⟩ := V
  obtain ⟨D', cfC, kC, iC, fC, hD', gC, stC, -, -, asC, slC⟩ := C
  cases hD.symm.trans hD'
  obtain ⟨D2, kD, e1, e2, e3, e4, e5⟩ := E
  cases hD.symm.trans e1
  obtain ⟨c2, k2, i1, i2, i3, -⟩ := Cond.instantiable_spec wi
  cases e2.symm.trans i1
  cases e3.symm.trans i2
  obtain ⟨kU, u1, u2⟩ := al.2.2 _ _ e3
  exact ⟨D, fV, fC, ⟨hD, ⟨knV, fun q hq => by rw [hq] at obV; cases obV⟩, by rw [al.findClass]; exact e2, kU, u1, by rw [u2]; exact i3, by rw [u2]; exact e5 i3⟩, ⟨SBG.found_only al ⟨cfV, kV, iV, gV⟩, stV⟩, ⟨SBG.found_only al ⟨cfC, kC, iC, gC⟩, stC⟩, slV, slC, by simp [RoadKit.slotOf, gV], by simp [RoadKit.slotOf, gC]⟩
theorem sta_is {Z U : State} (al : Z.vm.Alike U.vm) {C n d : String} {v : Value} (S : RoadKit.Sta Z U.heap C n d v) : StaticIs U C n d v := by
  obtain ⟨cfS, iS, kS, fS, st, cS, t1, t2, t3, t4, t5, t6, t7⟩ := S
  exact StaticIs.there (s := { Z with heap := U.heap }) ⟨cfS, iS, kS, fS, st, cS, t1, t2, t3, t4, t5, (fun q => by rw [q] at t6; cases t6), t7⟩ al rfl
/-- **length() OF SUCH A STRING** -/
theorem lenW {p : Program} {l : Launch} {e : Env} {R : Room} {s : State} {args : Array Value} {below : List Frame} {len W : Nat} {Z : State} {a0 : Array Value} {h : Heap} (hZ : Z.Warmed39 s.vm) (hw : ∀ d ∈ wordsLen, d.before a0 Z = true) {kI : Nat} (wi : (Jvm.Cond.instantiable ST kI).before a0 Z = true)
    {x t : Addr} {kb : ClassId} {cs : List Int32} {cd N2 z : Int32} {vs : List Value} (E : RoadKit.Exa Z h x ST) (V : RoadKit.Fld Z h x ST "value" "[B" (.ref t)) (C : RoadKit.Fld Z h x ST "coder" "B" (.int cd)) (K : RoadKit.Arv Z h t kb .byte N2 vs (.int 0)) (hc : CodA cs cd N2 vs) (hb : ∀ c ∈ cs, ¬ c < 0 ∧ ¬ (65535 : Int32) < c)
    (S : RoadKit.Sta Z h ST "COMPACT_STRINGS" "Z" (.int z)) (hz : ¬ z = 0) (l2 : cs.length ≤ 4000) (hfr : 2 ≤ R.frames) (hlo : W + 25 ≤ R.locals) :
    Back l R p e below s args (⟨"java/lang/String", "length", "()I"⟩ : MethodName) len W (fun P a => a = #[.ref x] ∧ P.U.heap = h ∧ P.cells + 0 ≤ R.cells ∧ P.slots + 0 ≤ R.slots)
      (fun P _ v B => ∃ L, (v = some (.int (Int32.ofNat cs.length)) ∧ L = [] ∧ B.U.heap = h) ∧ B.locs = P.locs ++ L ∧ B.cells = P.cells + 0 ∧ B.slots = P.slots + 0) := by
  obtain ⟨A, K1, K2, K3, K4, K5, K6⟩ := K
  have hcod := hc.cod (by omega) K3 K5
  intro m meth c P g ig mk a X hg hsize hdg hW hn hp'
  obtain ⟨rfl, rfl, r1, r2⟩ := hp'
  have al : Z.vm.Alike P.U.vm := hZ.alike.trans X.warmed.alike
  obtain ⟨D, fV, fC, hB, F1, F2, g1, g2, -, -⟩ := strObj wi al E V C
  have hx : Txt x t A cd cs.length (fun j => cs.getD j 0) P.U := ⟨⟨_, hB.2.2.1, D, hB.1, rfl, by cases q : D.vm <;> first | rfl | exact absurd q (hB.2.1.2 _)⟩, Has.of hB F1 g1, Has.of hB F2 g2, ⟨K1.1, State.isArrayOf_alike al K1.2.1, K1.2.2, by rcases hcod with ⟨-, q, -⟩ | ⟨-, q, -⟩ <;> omega⟩, hcod, fun j hj => by
    have e : cs.getD j 0 = cs[j] := by simp [List.getD_eq_getElem?_getD, hj]
    show ¬ cs.getD j 0 < 0 ∧ ¬ 65535 < cs.getD j 0
    rw [e]; exact hb _ (List.getElem_mem _)⟩
  obtain ⟨v, B, X', ⟨⟨hv, hh⟩, hl, hk, hs⟩, st⟩ := Len.pays x t A cd cs.length (fun j => cs.getD j 0) z (tabLen_of (movedLen hZ hw)) hfr hlo m meth c P g ig mk _ X hg hsize hdg hW hn ⟨r1, r2, rfl, hx, sta_is al S, hz⟩
  exact ⟨v, B, X', ⟨[], ⟨hv, rfl, hh⟩, hl, hk, hs⟩, st⟩
end StrChars.Road
namespace StrChars.Road
open Jvm Sem ClassFile Op Lib Jvm.Stand Jvm.Free Jvm.Free.XT
open Jvm.Lib.Cold (StaticIs)
/-- what backV says of its String, as the contracts of this text ask it: cs's low bytes, coder 0 -/
theorem codOf {cs : List Int32} {n : Nat} (hn : cs.length = n) (hb : ∀ c ∈ cs, ¬ 255 < c) : CodA cs 0 (Int32.ofNat n) ((cs.map lo8).map Value.int) := Or.inl ⟨rfl, by rw [hn], by simp [List.map_map, Function.comp_def], hb⟩
end StrChars.Road
end Jvm.Pilot.@@N@@


namespace Jvm.Pilot.@@N@@
open Jvm Jvm.ClassFile Sem Op Lib Jvm.Free Jvm.Stand Jvm.LawKit Jvm.RoadKit Bundle Jvm.Pilot.@@N@@.Jvm.D
def own_Go (tb : Tables) (e : Env) (below : List Frame) (P : Outcome → State → Prop) (U : State) : Prop := ∃ s₂ o, Steps tb e below U s₂ ∧ s₂.status = .running ∧ Ended s₂ below o ∧ P o s₂
theorem own_Go.st {tb : Tables} {e : Env} {below : List Frame} {P : Outcome → State → Prop} {U U' : State} (h : ∀ t, Steps tb e below U' t → Steps tb e below U t) (k : own_Go tb e below P U') : own_Go tb e below P U := by
  obtain ⟨t, o, a, r⟩ := k
  exact ⟨t, o, h t a, r⟩
theorem own_Go.tr {tb : Tables} {e : Env} {below : List Frame} {P : Outcome → State → Prop} {U U' : State} (h : Steps tb e below U U') (k : own_Go tb e below P U') : own_Go tb e below P U := own_Go.st (fun _ a => h.trans a) k
section OwnRet
variable {p : Program} {l : Launch} {e : Env} {R : Room} {s : State} {m : MethodId} {args : Array Value} {below : List Frame} {meth : Method} {c : Code} {T : State} {locs : List Loc} {cells slots : Nat}
theorem own_retI (X : Stand p l e R s m args below meth c T locs cells slots) (hx : p.tables.exec = Jvm.exec) {pc : Nat} {Ls : Array Slot} {z : Int32} {rest : List Value} (hret : meth.sig.returnType = some .int) (hd : decode c.code pc = .ok (.ireturn, 1)) {fs : List Frame}
    (hl : ∀ (f : JFrame) (acts : List Action), f.method = m → f.locked = none → f.entered = [] → (doReturn e (T.setTop f) acts (some (.int z))).1 = T.setFrames fs) : Steps p.tables e below (T.setTop (mkF m pc Ls (.int z :: rest))) (T.setFrames fs) :=
  retOut X hx hret rfl (Or.inl ⟨rfl, Or.inl rfl, z, rfl⟩) hd hl
theorem own_retL (X : Stand p l e R s m args below meth c T locs cells slots) (hx : p.tables.exec = Jvm.exec) {pc : Nat} {Ls : Array Slot} {z : Int64} {rest : List Value} (hret : meth.sig.returnType = some .long) (hd : decode c.code pc = .ok (.lreturn, 1)) {fs : List Frame}
    (hl : ∀ (f : JFrame) (acts : List Action), f.method = m → f.locked = none → f.entered = [] → (doReturn e (T.setTop f) acts (some (.long z))).1 = T.setFrames fs) : Steps p.tables e below (T.setTop (mkF m pc Ls (.long z :: rest))) (T.setFrames fs) :=
  retOut X hx hret rfl (Or.inr (Or.inl ⟨rfl, rfl, z, rfl⟩)) hd hl
theorem own_narRef {t : FieldType} {w : Value} (ht : t.isReference = true) (hw : w.isRef = true) : narrow t w = w := by
  cases t <;> first | rfl | (simp [FieldType.isReference] at ht; done) | (cases w <;> first | rfl | simp [Value.isRef] at hw)
theorem own_retA (X : Stand p l e R s m args below meth c T locs cells slots) (hx : p.tables.exec = Jvm.exec) {pc : Nat} {Ls : Array Slot} {w : Value} {t : FieldType} {rest : List Value} (hret : meth.sig.returnType = some t) (ht : t.isReference = true) (hw : w.isRef = true) (hd : decode c.code pc = .ok (.areturn, 1)) {fs : List Frame}
    (hl : ∀ (f : JFrame) (acts : List Action), f.method = m → f.locked = none → f.entered = [] → (doReturn e (T.setTop f) acts (some w)).1 = T.setFrames fs) : Steps p.tables e below (T.setTop (mkF m pc Ls (w :: rest))) (T.setFrames fs) :=
  retOut X hx hret (own_narRef ht hw) (Or.inr (Or.inr (Or.inr (Or.inr ⟨rfl, ht, hw⟩)))) hd hl
end OwnRet
theorem own_nar {x : Int32} (h : ¬ x < 0 ∧ ¬ (65535 : Int32) < x) : nar .char x = x := by
  have q := c_i2c x
  have h1 := h.1; have h2 := h.2
  rw [Int32.lt_iff_toInt_lt] at h1 h2
  have e1 : (0 : Int32).toInt = 0 := by decide
  have e2 : (65535 : Int32).toInt = 65535 := by decide
  rw [e1] at h1; rw [e2] at h2
  show x.toUInt32.toUInt16.toUInt32.toInt32 = x
  apply Int32.toInt_inj.mp
  omega
theorem own_up {x : Int32} (h : ¬ x < 0 ∧ ¬ (255 : Int32) < x) : ¬ x < 0 ∧ ¬ (65535 : Int32) < x := by
  refine ⟨h.1, fun q => h.2 ?_⟩
  rw [Int32.lt_iff_toInt_lt] at q ⊢
  have e1 : (255 : Int32).toInt = 255 := by decide
  have e2 : (65535 : Int32).toInt = 65535 := by decide
  omega
theorem own_arvTy {Z : State} {h : Heap} {a b : Addr} {k k' : ClassId} {ty ty' : FieldType} {n n' : Int32} {vs vs' : List Value} {d d' : Value} (A : Arv Z h a k ty n vs d) (B : Arv Z h b k' ty' n' vs' d') (ht : ty ≠ ty') : a ≠ b := fun q => by
  subst q
  obtain ⟨c, C, -⟩ := A
  obtain ⟨c', C', -⟩ := B
  cases C.1.symm.trans C'.1
  obtain ⟨-, k1, j1, cp1, j2⟩ := C.2.1
  obtain ⟨-, k2, i1, cp2, i2⟩ := C'.2.1
  cases j1.symm.trans i1
  rw [j2] at i2
  cases i2
  exact ht rfl


def own_Str (Z : State) (h : Heap) (x t : Addr) (cs : List Int32) : Prop := ∃ (kb : ClassId) (cd N2 : Int32) (vs : List Value), Exa Z h x "java/lang/String" ∧ Fld Z h x "java/lang/String" "value" "[B" (.ref t) ∧ Fld Z h x "java/lang/String" "coder" "B" (.int cd) ∧ Arv Z h t kb .byte N2 vs (.int 0) ∧ StrChars.Road.CodA cs cd N2 vs ∧ (∀ c ∈ cs, ¬ c < 0 ∧ ¬ (65535 : Int32) < c) ∧ cs.length ≤ 4000
section OwnStr
variable {Z : State} {h h' : Heap} {x t a : Addr} {cs : List Int32} {sl : Nat} {v : Value} {ws : List Addr}
theorem own_Str.ext (F : own_Str Z h x t cs) (E : Ext h h') : own_Str Z h' x t cs := by
  obtain ⟨kb, cd, N2, vs, h1, h2, h3, h4, r⟩ := F
  exact ⟨kb, cd, N2, vs, h1.ext E, h2.ext E, h3.ext E, h4.ext E, r⟩
theorem own_Str.other (F : own_Str Z h x t cs) (W : Wr h h' a sl v) (n1 : x ≠ a) (n2 : t ≠ a) : own_Str Z h' x t cs := by
  obtain ⟨kb, cd, N2, vs, h1, h2, h3, h4, r⟩ := F
  exact ⟨kb, cd, N2, vs, h1.wr W, h2.other W (Or.inl n1), h3.other W (Or.inl n1), h4.other W n2, r⟩
theorem own_Str.keep (F : own_Str Z h x t cs) (K : Keep h h' ws) (n1 : x ∉ ws) (n2 : t ∉ ws) : own_Str Z h' x t cs := by
  obtain ⟨kb, cd, N2, vs, h1, h2, h3, h4, r⟩ := F
  exact ⟨kb, cd, N2, vs, h1.keep K, h2.keep K n1, h3.keep K n1, h4.keep K n2, r⟩
theorem own_Str.exa (F : own_Str Z h x t cs) : Exa Z h x "java/lang/String" := by obtain ⟨kb, cd, N2, vs, h1, -⟩ := F; exact h1
theorem own_Str.lt (F : own_Str Z h x t cs) : x < h.size := F.exa.lt
theorem own_Str.ltv (F : own_Str Z h x t cs) : t < h.size := by obtain ⟨kb, cd, N2, vs, -, -, -, h4, -⟩ := F; exact h4.lt
theorem own_Str.le (F : own_Str Z h x t cs) : cs.length ≤ 4000 := by obtain ⟨kb, cd, N2, vs, -, -, -, -, -, -, h⟩ := F; exact h
theorem own_Str.rng (F : own_Str Z h x t cs) : ∀ c ∈ cs, ¬ c < 0 ∧ ¬ (65535 : Int32) < c := by obtain ⟨kb, cd, N2, vs, -, -, -, -, -, h, -⟩ := F; exact h
theorem own_Str.neArv {b : Addr} {k : ClassId} {ty : FieldType} {n : Int32} {us : List Value} {d : Value} {a0 : Array Value} {kI : Nat} (F : own_Str Z h x t cs) (B : Arv Z h b k ty n us d) (wi : (Jvm.Cond.instantiable "java/lang/String" kI).before a0 Z = true) : x ≠ b := F.exa.neArv B wi
theorem own_Str.neTy {b : Addr} {k : ClassId} {ty : FieldType} {n : Int32} {us : List Value} {d : Value} (F : own_Str Z h x t cs) (B : Arv Z h b k ty n us d) (ht : .byte ≠ ty) : t ≠ b := by
  obtain ⟨kb, cd, N2, vs, -, -, -, h4, -⟩ := F
  exact own_arvTy h4 B ht
end OwnStr


theorem own_a0 {P : Int32 → Prop} : ∀ c ∈ ([] : List Int32), P c := fun _ q => nomatch q
theorem own_aS {P : Int32 → Prop} {x : Int32} {L : List Int32} (h : P x) (r : ∀ c ∈ L, P c) : ∀ c ∈ x :: L, P c := fun c q => (List.mem_cons.mp q).elim (fun u => u ▸ h) (r c)
theorem own_upL {cs : List Int32} (h : ∀ c ∈ cs, ¬ c < 0 ∧ ¬ (255 : Int32) < c) : ∀ c ∈ cs, ¬ c < 0 ∧ ¬ (65535 : Int32) < c := fun c q => own_up (h c q)


theorem own_Str.lat {Z : State} {h : Heap} {x t : Addr} {cs : List Int32} (F : own_Str Z h x t cs) (hl : ∀ c ∈ cs, ¬ (255 : Int32) < c) : ∃ (kb : ClassId) (N2 : Int32) (vs : List Value), Exa Z h x "java/lang/String" ∧ Fld Z h x "java/lang/String" "value" "[B" (.ref t) ∧ Fld Z h x "java/lang/String" "coder" "B" (.int 0) ∧ Arv Z h t kb .byte N2 vs (.int 0) ∧ StrChars.Road.CodA cs 0 N2 vs := by
  obtain ⟨kb, cd, N2, vs, h1, h2, h3, h4, h5, -⟩ := F
  rcases h5 with ⟨rfl, a, b, c⟩ | ⟨-, -, -, c, hc, q⟩
  · exact ⟨kb, N2, vs, h1, h2, h3, h4, Or.inl ⟨rfl, a, b, c⟩⟩
  · exact absurd q (hl c hc)


theorem own_eqv {v : Option Value} {A : Prop} (h : (v = some (.int 1) ∧ A) ∨ (v = some (.int 0) ∧ ¬ A)) : ∃ r : Int32, v = some (.int r) ∧ ((r = 1 ∧ A) ∨ (r = 0 ∧ ¬ A)) := by
  rcases h with ⟨a, b⟩ | ⟨a, b⟩
  · exact ⟨1, a, Or.inl ⟨rfl, b⟩⟩
  · exact ⟨0, a, Or.inr ⟨rfl, b⟩⟩

theorem own_hws {a0 : Array Value} {Z : State} (hw : ∀ d ∈ tables_1, d.before a0 Z = true) : ∀ d ∈ StrChars.Road.words, d.before a0 Z = true := fun d hd => hw d ((by decide +kernel : ∀ d ∈ StrChars.Road.words, d ∈ tables_1) d hd)
theorem own_hln {a0 : Array Value} {Z : State} (hw : ∀ d ∈ tables_1, d.before a0 Z = true) : ∀ d ∈ StrChars.Road.wordsLen, d.before a0 Z = true := fun d hd => hw d ((by decide +kernel : ∀ d ∈ StrChars.Road.wordsLen, d ∈ tables_1) d hd)

theorem own_wS {a0 : Array Value} {Z : State} (hw : ∀ d ∈ tables_1, d.before a0 Z = true) : ∀ d ∈ Bundle.stringAtoms, d.before a0 Z = true := fun d hd => hw d ((by decide +kernel : ∀ d ∈ Bundle.stringAtoms, d ∈ tables_1) d hd)
theorem own_safeNull {Z : State} {EL : List (String × Nat)} {vm : Vm} {h : Heap} {x : Addr} (hal : Z.vm.Alike vm) (E : Exa Z h x "java/lang/String") (F : Fld Z h x "java/lang/String" "value" "[B" .null) : Safe Z EL vm h x := fun B => by
  obtain ⟨p, -, u, a, -, q, -, G, hx | hx⟩ := B
  · obtain ⟨cS, ⟨S1, -, -⟩, -⟩ := G
    obtain ⟨g1, -, -, ⟨c', k', i', g2, -⟩, -, -, -, g3, -⟩ := S1
    obtain ⟨cell, cf, k, i, f, e1, e2, -, -, -, -, e3⟩ := F
    obtain ⟨k2, g4⟩ := ff_back (U := Wst Z vm h) hal g2
    rw [hx] at e1
    have e4 : cell = q.sC := Option.some.inj (e1.symm.trans g1)
    have e5 : f = q.fSV := by
      have e6 := Option.some.inj (e2.symm.trans g4)
      simp only [Prod.mk.injEq] at e6
      exact e6.2.2.2
    rw [e4, e5, g3] at e3
    cases e3
  · have hd := G.hd
    obtain ⟨cS, -, -, f, -⟩ := G
    obtain ⟨cell, k, e1, e2, -⟩ := E
    rw [hx] at e1
    have e4 : cell = q.SA := Option.some.inj (e1.symm.trans hd)
    have f' : Z.vm.findClass "[B" = some q.SA.cls := by rw [← hal.findClass]; exact f
    rw [e4] at e2
    obtain ⟨k1, q1, q2⟩ := Vm.findClass_spec f'
    obtain ⟨k2, q3, q4⟩ := Vm.findClass_spec e2
    cases q1.symm.trans q3
    exact absurd (q2.symm.trans q4) (by decide)

theorem pn_0 : plainName "java/lang/String" = true := by first | (simp [plainName, overriddenIn]; done) | decide +kernel
theorem ef_1 (m : MethodId) (x0 : Nat) (x1 : Nat) (x2 : Int32) (x3 : Int32) : entryFrame m #[(.ref x0), (.ref x1), (.int x2), (.int x3), .null] 6 = mkF m 0 #[.val (.ref x0), .val (.ref x1), .val (.int x2), .val (.int x3), .val .null, .unset] [] := by first | (simp [entryFrame, mkF, argsToLocals, Value.category]; done) | rfl
theorem d_jdk_42_method_149_0 : decode jdk_42_method_149_code 0 = .ok (.aload_n 0, 1) := by decide +kernel
theorem d_jdk_42_method_149_1 : decode jdk_42_method_149_code 1 = .ok (.invokespecial 1, 3) := by decide +kernel
theorem d_jdk_42_method_149_4 : decode jdk_42_method_149_code 4 = .ok (.iload_n 3, 1) := by decide +kernel
theorem d_jdk_42_method_149_5 : decode jdk_42_method_149_code 5 = .ok (.ifCond .ne 22, 3) := by decide +kernel
theorem d_jdk_42_method_149_8 : decode jdk_42_method_149_code 8 = .ok (.aload_n 0, 1) := by decide +kernel
theorem d_jdk_42_method_149_9 : decode jdk_42_method_149_code 9 = .ok (.ldc 7, 2) := by decide +kernel
theorem d_jdk_42_method_149_11 : decode jdk_42_method_149_code 11 = .ok (.getfield 9, 3) := by decide +kernel
theorem d_jdk_42_method_149_14 : decode jdk_42_method_149_code 14 = .ok (.putfield 9, 3) := by decide +kernel
theorem d_jdk_42_method_149_17 : decode jdk_42_method_149_code 17 = .ok (.aload_n 0, 1) := by decide +kernel
theorem d_jdk_42_method_149_18 : decode jdk_42_method_149_code 18 = .ok (.ldc 7, 2) := by decide +kernel
theorem d_jdk_42_method_149_20 : decode jdk_42_method_149_code 20 = .ok (.getfield 15, 3) := by decide +kernel
theorem d_jdk_42_method_149_23 : decode jdk_42_method_149_code 23 = .ok (.putfield 15, 3) := by decide +kernel
theorem d_jdk_42_method_149_26 : decode jdk_42_method_149_code 26 = .ok (.return_, 1) := by decide +kernel
def Q_init4e (Z : State) (a1 : Nat) (a2 : Nat) (h0 : Heap) (v : Option Value) (h : Heap) (L : List Loc) : Prop := ∃ (t : Nat), v = none ∧ Fr Z.heap.size L ∧ Keep h0 h [a1] ∧ own_Str Z h a1 t []
set_option maxRecDepth 65536 in
set_option maxHeartbeats 40000000 in
theorem rm_init4e (l : Launch) (Z : State) (a0 : Array Value) (hw : ∀ d ∈ tables_1, d.before a0 Z = true) (ws : List Jvm.Cond) (a1 : Nat) (a2 : Nat) (h0 : Heap) (hEL : EW Z a0 consts_1) (OL : Old Z Z.heap.size h0) (p0_ : Exa Z h0 a1 "java/lang/String") (p1_ : Fld Z h0 a1 "java/lang/String" "value" "[B" .null) (p2_ : Fld Z h0 a1 "java/lang/String" "coder" "B" (.int (0 : Int32))) (hn0 : Z.heap.size ≤ a1) :
    MetFree l (⟨"java/lang/String", "<init>", "([CIILjava/lang/Void;)V"⟩ : MethodName) (head1 (Jvm.Cond.code (⟨"java/lang/String", "<init>", "([CIILjava/lang/Void;)V"⟩ : MethodName) jdk_42_method_149_code 6 none :: ws) ({ frames := 1, cells := 4, slots := 8, locals := 12 } : Room)) (fun a U => a = #[(.ref a1), (.ref a2), (.int (0 : Int32)), (.int (0 : Int32)), .null] ∧ Z.Warmed39 U.vm ∧ U.heap = h0 ∧ CHv Z consts_1 U.vm h0) (fun _ _ _ _ _ => True) (fun _ U o U' => ∃ v L, o = .returned v ∧ Q_init4e Z a1 a2 h0 v U'.heap L ∧ CHr Z consts_1 U.vm U.heap U'.vm U'.heap ∧ ReturnedEndW U o U' L ({ frames := 1, cells := 4, slots := 8, locals := 12 } : Room).cells ({ frames := 1, cells := 4, slots := 8, locals := 12 } : Room).slots) := by
  refine MetFree.of_bodySF (plainFor_of_name pn_0) hisR ?_
  intro p e s m args below meth c s₁ Bd hml0 hP hK
  obtain ⟨rfl, hZ, hh, hC0⟩ := hP
  have hx := Bd.exec
  have hby := Bd.bytes
  have hml : c.maxLocals = 6 := hml0
  have hown : s.vm.findClass "java/lang/String" = some m.cls := findClass_of_methodNamed Bd.named
  have hnm := (name_of_methodNamed Bd.named Bd.method).1
  have X0 : Stand p l e ({ frames := 1, cells := 4, slots := 8, locals := 12 } : Room) (s.setVm s.vm) m #[(.ref a1), (.ref a2), (.int (0 : Int32)), (.int (0 : Int32)), .null] below meth c s₁ [] 0 0 := Stand.of_body Bd
  have e0 : s₁.heap = h0 := by rw [← hh, Bd.state]; rfl
  have N0 := Fr.nil Z.heap.size
  have Z0 : Z.heap.size ≤ h0.size := OL.2.1
  have hS0 : s.Since s.vm h0.size := (State.WarmedH.refl s).since _
  have wS := own_wS hw
  have R0 : CHr Z consts_1 s.vm h0 s.vm h0 := CHr.refl hC0
  have lt_0 : @LT.lt Nat _ a1 h0.size := p0_.lt
  have lt_1 : @LT.lt Nat _ a1 h0.size := p1_.lt
  have lt_2 : @LT.lt Nat _ a1 h0.size := p2_.lt
  obtain ⟨PP, hPP⟩ : ∃ PP : Outcome → State → Prop, PP = (fun o tE => ∃ v L, o = .returned v ∧ Q_init4e Z a1 a2 h0 v tE.heap L ∧ CHr Z consts_1 s.vm s.heap tE.vm tE.heap ∧ ReturnedEndW s o tE L ({ frames := 1, cells := 4, slots := 8, locals := 12 } : Room).cells ({ frames := 1, cells := 4, slots := 8, locals := 12 } : Room).slots) := ⟨_, rfl⟩
  show own_Go p.tables e below (fun o tE => ∃ v L, o = .returned v ∧ Q_init4e Z a1 a2 h0 v tE.heap L ∧ CHr Z consts_1 s.vm s.heap tE.vm tE.heap ∧ ReturnedEndW s o tE L ({ frames := 1, cells := 4, slots := 8, locals := 12 } : Room).cells ({ frames := 1, cells := 4, slots := 8, locals := 12 } : Room).slots) (s₁.setTop (entryFrame m #[(.ref a1), (.ref a2), (.int (0 : Int32)), (.int (0 : Int32)), .null] 6))
  rw [← hPP]
  refine own_Go.st (fun t k => castTop (ef_1 m a1 a2 (0 : Int32) (0 : Int32)) k) ?_
  show own_Go _ _ _ _ (s₁.setTop (mkF m 0 #[.val (.ref a1), .val (.ref a2), .val (.int (0 : Int32)), .val (.int (0 : Int32)), .val .null, .unset] []))
  refine own_Go.st (fun _ k => XS.aloadN X0.here hx rfl (hb hby d_jdk_42_method_149_0) rfl rfl k) ?_
  show own_Go _ _ _ _ (s₁.setTop (mkF m 1 #[.val (.ref a1), .val (.ref a2), .val (.int (0 : Int32)), .val (.int (0 : Int32)), .val .null, .unset] [(.ref a1)]))
  obtain ⟨T101, X101, e101, st101⟩ := initO X0 hx hZ hown (hw _ (List.mem_of_getElem? (i := 23) rfl)) (hw _ (List.mem_of_getElem? (i := 24) rfl)) (hw _ (List.mem_of_getElem? (i := 25) rfl)) e0 (g := (mkF m 1 #[.val (.ref a1), .val (.ref a2), .val (.int (0 : Int32)), .val (.int (0 : Int32)), .val .null, .unset] [(.ref a1)])) rfl (by rw [hml]; rfl) rfl (hb hby d_jdk_42_method_149_1) (by decide) (W := 0) (by show 2 * 0 + _ ≤ _; exact Nat.le_of_eq rfl) (by decide)
  refine own_Go.st st101 ?_
  show own_Go _ _ _ _ (T101.setTop (mkF m 4 #[.val (.ref a1), .val (.ref a2), .val (.int (0 : Int32)), .val (.int (0 : Int32)), .val .null, .unset] []))
  refine own_Go.st (fun _ k => XS.iloadN X101.here hx rfl (hb hby d_jdk_42_method_149_4) rfl k) ?_
  show own_Go _ _ _ _ (T101.setTop (mkF m 5 #[.val (.ref a1), .val (.ref a2), .val (.int (0 : Int32)), .val (.int (0 : Int32)), .val .null, .unset] [(.int (0 : Int32))]))
  refine own_Go.st (fun _ k => XS.ifNo X101.here hx rfl (hb hby d_jdk_42_method_149_5) rfl ((if0 _ _).trans (teq (rfl : (0 : Int32) = (0 : Int32))).2) k) ?_
  show own_Go _ _ _ _ (T101.setTop (mkF m 8 #[.val (.ref a1), .val (.ref a2), .val (.int (0 : Int32)), .val (.int (0 : Int32)), .val .null, .unset] []))
  refine own_Go.st (fun _ k => XS.aloadN X101.here hx rfl (hb hby d_jdk_42_method_149_8) rfl rfl k) ?_
  show own_Go _ _ _ _ (T101.setTop (mkF m 9 #[.val (.ref a1), .val (.ref a2), .val (.int (0 : Int32)), .val (.int (0 : Int32)), .val .null, .unset] [(.ref a1)]))
  obtain ⟨a102, T102, h102, kk102, t102, kb102, X102, e102, E102, hS102, hk102, hZ102, hown102, A102, C102, V102, B102, la102, lb102, ch102, Li102, sf102, st102⟩ := ldcCH X101 hx hZ hown (hw _ (List.mem_of_getElem? (i := 26) rfl)) wS e101 hS0 (by omega) hEL (by decide) R0.1 (vs := []) (z := (0 : Int32)) (by decide) (by decide) (by decide) (g := (mkF m 9 #[.val (.ref a1), .val (.ref a2), .val (.int (0 : Int32)), .val (.int (0 : Int32)), .val .null, .unset] [(.ref a1)])) rfl (hb hby d_jdk_42_method_149_9) (n := 0) (by decide) (by decide) (by decide) (by decide)
  refine own_Go.st st102 ?_
  have z102 : h0.size ≤ h102.size := E102.1
  have la102' : @LT.lt Nat _ a102 h102.size := la102
  have lb102' : @LT.lt Nat _ t102 h102.size := lb102
  have R102 : CHr Z consts_1 s.vm h0 T102.vm h102 := R0.trans ch102
  have fT102 : own_Str Z h102 a102 t102 ([] : List Int32) := ⟨kb102, 0, (0 : Int32), [], A102, V102, C102, B102, Or.inl ⟨rfl, rfl, rfl, (by decide)⟩, (by decide), (by decide)⟩
  show own_Go _ _ _ _ (T102.setTop (mkF m 11 #[.val (.ref a1), .val (.ref a2), .val (.int (0 : Int32)), .val (.int (0 : Int32)), .val .null, .unset] [(.ref a102), (.ref a1)]))
  obtain ⟨T103, X103, e103, st103⟩ := getF X102 hx hZ102 hown102 (host := "") (Or.inl (hw _ (List.mem_of_getElem? (i := 32) rfl))) Via.refl e102 V102 (g := (mkF m 11 #[.val (.ref a1), .val (.ref a2), .val (.int (0 : Int32)), .val (.int (0 : Int32)), .val .null, .unset] [(.ref a102), (.ref a1)])) rfl rfl (hb hby d_jdk_42_method_149_11)
  refine own_Go.st st103 ?_
  show own_Go _ _ _ _ (T103.setTop (mkF m 14 #[.val (.ref a1), .val (.ref a2), .val (.int (0 : Int32)), .val (.int (0 : Int32)), .val .null, .unset] [(.ref t102), (.ref a1)]))
  have f104 : Fld Z h102 a1 "java/lang/String" "value" "[B" .null := p1_.ext E102
  have f105 : Exa Z h102 a1 "java/lang/String" := p0_.ext E102
  obtain ⟨T106, h106, X106, e106, W106, st106⟩ := putF X103 hx hZ102 hown102 (host := "") (Or.inl (hw _ (List.mem_of_getElem? (i := 32) rfl))) Via.refl e103 f104 f105 (Or.inr ⟨(hw _ (List.mem_of_getElem? (i := 28) rfl)), rfl, hnm⟩) (hw _ (List.mem_of_getElem? (i := 13) rfl)) (ty := (.array .byte)) (by decide) rfl rfl (g := (mkF m 14 #[.val (.ref a1), .val (.ref a2), .val (.int (0 : Int32)), .val (.int (0 : Int32)), .val .null, .unset] [(.ref t102), (.ref a1)])) rfl rfl (hb hby d_jdk_42_method_149_14)
  refine own_Go.st st106 ?_
  have N106 := Fr.snoc X106 N0 (by omega)
  have Sf108 : Safe Z consts_1 T102.vm h102 a1 := own_safeNull hZ102.alike f105 f104
  have z106 : h102.size ≤ h106.size := Nat.le_of_eq W106.size.symm
  have f107 : Fld Z h106 a1 "java/lang/String" "value" "[B" (.ref t102) := f104.same W106
  have R106 : CHr Z consts_1 s.vm h0 T102.vm h106 := R102.trans (CHr.wr W106 Sf108 R102.1)
  have Sf109 : Safe Z consts_1 T102.vm h106 a1 := Safe.wr W106 Sf108 R102.1 Sf108
  show own_Go _ _ _ _ (T106.setTop (mkF m 17 #[.val (.ref a1), .val (.ref a2), .val (.int (0 : Int32)), .val (.int (0 : Int32)), .val .null, .unset] []))
  refine own_Go.st (fun _ k => XS.aloadN X106.here hx rfl (hb hby d_jdk_42_method_149_17) rfl rfl k) ?_
  show own_Go _ _ _ _ (T106.setTop (mkF m 18 #[.val (.ref a1), .val (.ref a2), .val (.int (0 : Int32)), .val (.int (0 : Int32)), .val .null, .unset] [(.ref a1)]))
  obtain ⟨a110, T110, h110, kk110, t110, kb110, X110, e110, E110, hS110, hk110, hZ110, hown110, A110, C110, V110, B110, la110, lb110, ch110, Li110, sf110, st110⟩ := ldcCH X106 hx hZ102 hown102 (hw _ (List.mem_of_getElem? (i := 26) rfl)) wS e106 hS102 (by omega) hEL (by decide) R106.1 (vs := []) (z := (0 : Int32)) (by decide) (by decide) (by decide) (g := (mkF m 18 #[.val (.ref a1), .val (.ref a2), .val (.int (0 : Int32)), .val (.int (0 : Int32)), .val .null, .unset] [(.ref a1)])) rfl (hb hby d_jdk_42_method_149_18) (n := 0) (by decide) (by decide) (by decide) (by decide)
  refine own_Go.st st110 ?_
  have z110 : h106.size ≤ h110.size := E110.1
  have la110' : @LT.lt Nat _ a110 h110.size := la110
  have lb110' : @LT.lt Nat _ t110 h110.size := lb110
  have R110 : CHr Z consts_1 s.vm h0 T110.vm h110 := R106.trans ch110
  have Sf111 : Safe Z consts_1 T110.vm h110 a1 := ch110.safe (by show @LT.lt Nat _ a1 _; omega) Sf109
  have fT110 : own_Str Z h110 a110 t110 ([] : List Int32) := ⟨kb110, 0, (0 : Int32), [], A110, V110, C110, B110, Or.inl ⟨rfl, rfl, rfl, (by decide)⟩, (by decide), (by decide)⟩
  show own_Go _ _ _ _ (T110.setTop (mkF m 20 #[.val (.ref a1), .val (.ref a2), .val (.int (0 : Int32)), .val (.int (0 : Int32)), .val .null, .unset] [(.ref a110), (.ref a1)]))
  obtain ⟨T112, X112, e112, st112⟩ := getF X110 hx hZ110 hown110 (host := "") (Or.inl (hw _ (List.mem_of_getElem? (i := 33) rfl))) Via.refl e110 C110 (g := (mkF m 20 #[.val (.ref a1), .val (.ref a2), .val (.int (0 : Int32)), .val (.int (0 : Int32)), .val .null, .unset] [(.ref a110), (.ref a1)])) rfl rfl (hb hby d_jdk_42_method_149_20)
  refine own_Go.st st112 ?_
  show own_Go _ _ _ _ (T112.setTop (mkF m 23 #[.val (.ref a1), .val (.ref a2), .val (.int (0 : Int32)), .val (.int (0 : Int32)), .val .null, .unset] [(.int 0), (.ref a1)]))
  have f113 : Fld Z h102 a1 "java/lang/String" "coder" "B" (.int (0 : Int32)) := p2_.ext E102
  have f114 : Fld Z h106 a1 "java/lang/String" "coder" "B" (.int (0 : Int32)) := f113.other W106 (Or.inr (slot_ne (Or.inr (hw _ (List.mem_of_getElem? (i := 29) rfl))) (Or.inr (hw _ (List.mem_of_getElem? (i := 28) rfl))) (by decide) (t := .byte) (t' := (.array .byte)) (by decide) (by decide)))
  have f115 : Fld Z h110 a1 "java/lang/String" "coder" "B" (.int (0 : Int32)) := f114.ext E110
  have f116 : Exa Z h106 a1 "java/lang/String" := f105.wr W106
  have f117 : Exa Z h110 a1 "java/lang/String" := f116.ext E110
  obtain ⟨T118, h118, X118, e118, W118, st118⟩ := putF X112 hx hZ110 hown110 (host := "") (Or.inl (hw _ (List.mem_of_getElem? (i := 33) rfl))) Via.refl e112 f115 f117 (Or.inr ⟨(hw _ (List.mem_of_getElem? (i := 29) rfl)), rfl, hnm⟩) (hw _ (List.mem_of_getElem? (i := 13) rfl)) (ty := .byte) (by decide) rfl (by decide) (g := (mkF m 23 #[.val (.ref a1), .val (.ref a2), .val (.int (0 : Int32)), .val (.int (0 : Int32)), .val .null, .unset] [(.int 0), (.ref a1)])) rfl rfl (hb hby d_jdk_42_method_149_23)
  refine own_Go.st st118 ?_
  have N118 := Fr.snoc X118 N106 (by omega)
  have z118 : h110.size ≤ h118.size := Nat.le_of_eq W118.size.symm
  have f119 : Fld Z h118 a1 "java/lang/String" "coder" "B" (.int 0) := f115.same W118
  have R118 : CHr Z consts_1 s.vm h0 T110.vm h118 := R110.trans (CHr.wr W118 Sf111 R110.1)
  have Sf120 : Safe Z consts_1 T110.vm h118 a1 := Safe.wr W118 Sf111 R110.1 Sf111
  show own_Go _ _ _ _ (T118.setTop (mkF m 26 #[.val (.ref a1), .val (.ref a2), .val (.int (0 : Int32)), .val (.int (0 : Int32)), .val .null, .unset] []))
  obtain ⟨fs121, hr121, hrun121, hend121, hret121⟩ := X118.leaveW hS110 (by rw [e118]; exact (by omega)) (v := none) (fun _ => rfl)
  have f122 : Fld Z h110 a1 "java/lang/String" "value" "[B" (.ref t102) := f107.ext E110
  have f123 : Fld Z h118 a1 "java/lang/String" "value" "[B" (.ref t102) := f122.other W118 (Or.inr (slot_ne (Or.inr (hw _ (List.mem_of_getElem? (i := 28) rfl))) (Or.inr (hw _ (List.mem_of_getElem? (i := 29) rfl))) (by decide) (t := (.array .byte)) (t' := .byte) (by decide) (by decide)))
  have f124 : Exa Z h118 a1 "java/lang/String" := f117.wr W118
  have ne125 : @Ne Nat a1 t102 := Exa.neArv f105 B102 (hw _ (List.mem_of_getElem? (i := 13) rfl))
  have f126 : Arv Z h106 t102 kb102 .byte (0 : Int32) [] (.int 0) := B102.other W106 (Ne.symm ne125)
  have f127 : Arv Z h110 t102 kb102 .byte (0 : Int32) [] (.int 0) := f126.ext E110
  have f128 : Arv Z h118 t102 kb102 .byte (0 : Int32) [] (.int 0) := f127.other W118 (Ne.symm ne125)
  have K129 : Keep h0 h102 [a1] := (Keep.refl h0 [a1]).ext E102
  have K130 : Keep h0 h106 [a1] := K129.wr W106 (Or.inl (List.mem_of_getElem? (i := 0) rfl))
  have K131 : Keep h0 h110 [a1] := K130.ext E110
  have K132 : Keep h0 h118 [a1] := K131.wr W118 (Or.inl (List.mem_of_getElem? (i := 0) rfl))
  subst hPP
  refine ⟨_, _, X118.returnOut hx Bd.returns (hb hby d_jdk_42_method_149_26) hr121, hrun121, hend121, _, _, rfl, ?_, ?_, hret121.1, hret121.2.1, hret121.2.2.1, hret121.2.2.2.mono (by decide) (by decide)⟩
  · show Q_init4e Z _ _ h0 _ T118.heap _
    rw [e118]
    exact ⟨t102, rfl, N118, K132, ⟨kb102, 0, 0, [], f124, f123, f119, f128, Or.inl ⟨rfl, rfl, rfl, own_a0⟩, own_a0, by decide⟩⟩
  · have hfin := R118.trans (CHv.at X118 hZ110 hEL R118.1)
    rw [← hh] at hfin
    show CHr Z consts_1 s.vm s.heap T118.vm T118.heap
    rw [e118]
    exact hfin
theorem ef_15 (m : MethodId) (x0 : Nat) (x1 : Nat) : entryFrame m #[(.ref x0), (.ref x1)] 2 = mkF m 0 #[.val (.ref x0), .val (.ref x1)] [] := by first | (simp [entryFrame, mkF, argsToLocals, Value.category]; done) | rfl
theorem d_jdk_42_method_3_0 : decode jdk_42_method_3_code 0 = .ok (.aload_n 0, 1) := by decide +kernel
theorem d_jdk_42_method_3_1 : decode jdk_42_method_3_code 1 = .ok (.aload_n 1, 1) := by decide +kernel
theorem d_jdk_42_method_3_2 : decode jdk_42_method_3_code 2 = .ok (.iconst 0, 1) := by decide +kernel
theorem d_jdk_42_method_3_3 : decode jdk_42_method_3_code 3 = .ok (.aload_n 1, 1) := by decide +kernel
theorem d_jdk_42_method_3_4 : decode jdk_42_method_3_code 4 = .ok (.arraylength, 1) := by decide +kernel
theorem d_jdk_42_method_3_5 : decode jdk_42_method_3_code 5 = .ok (.aconst_null, 1) := by decide +kernel
theorem pd_22 : parseMethodDescriptor "([CIILjava/lang/Void;)V" = some ⟨[(.array .char), .int, .int, (.object "java/lang/Void")], none⟩ := by decide +kernel
theorem d_jdk_42_method_3_6 : decode jdk_42_method_3_code 6 = .ok (.invokespecial 27, 3) := by decide +kernel
theorem d_jdk_42_method_3_9 : decode jdk_42_method_3_code 9 = .ok (.return_, 1) := by decide +kernel
def Q_init1e (Z : State) (a1 : Nat) (a2 : Nat) (k : ClassId) (vs : List Value) (d : Value) (h0 : Heap) (v : Option Value) (h : Heap) (L : List Loc) : Prop := ∃ (t : Nat), v = none ∧ Fr Z.heap.size L ∧ Keep h0 h [a1] ∧ own_Str Z h a1 t []
set_option maxRecDepth 65536 in
set_option maxHeartbeats 40000000 in
theorem rm_init1e (l : Launch) (Z : State) (a0 : Array Value) (hw : ∀ d ∈ tables_1, d.before a0 Z = true) (ws : List Jvm.Cond) (a1 : Nat) (a2 : Nat) (k : ClassId) (vs : List Value) (d : Value) (h0 : Heap) (hEL : EW Z a0 consts_1) (OL : Old Z Z.heap.size h0) (p0_ : Exa Z h0 a1 "java/lang/String") (p1_ : Fld Z h0 a1 "java/lang/String" "value" "[B" .null) (p2_ : Fld Z h0 a1 "java/lang/String" "coder" "B" (.int (0 : Int32))) (p3_ : Arv Z h0 a2 k .char (0 : Int32) vs d) (hn0 : Z.heap.size ≤ a1) :
    MetFree l (⟨"java/lang/String", "<init>", "([C)V"⟩ : MethodName) (head1 (Jvm.Cond.code (⟨"java/lang/String", "<init>", "([C)V"⟩ : MethodName) jdk_42_method_3_code 2 none :: ws) ({ frames := 2, cells := 4, slots := 8, locals := 29 } : Room)) (fun a U => a = #[(.ref a1), (.ref a2)] ∧ Z.Warmed39 U.vm ∧ U.heap = h0 ∧ CHv Z consts_1 U.vm h0) (fun _ _ _ _ _ => True) (fun _ U o U' => ∃ v L, o = .returned v ∧ Q_init1e Z a1 a2 k vs d h0 v U'.heap L ∧ CHr Z consts_1 U.vm U.heap U'.vm U'.heap ∧ ReturnedEndW U o U' L ({ frames := 2, cells := 4, slots := 8, locals := 29 } : Room).cells ({ frames := 2, cells := 4, slots := 8, locals := 29 } : Room).slots) := by
  refine MetFree.of_bodySF (plainFor_of_name pn_0) hisR ?_
  intro p e s m args below meth c s₁ Bd hml0 hP hK
  obtain ⟨rfl, hZ, hh, hC0⟩ := hP
  have hx := Bd.exec
  have hby := Bd.bytes
  have hml : c.maxLocals = 2 := hml0
  have hown : s.vm.findClass "java/lang/String" = some m.cls := findClass_of_methodNamed Bd.named
  have hnm := (name_of_methodNamed Bd.named Bd.method).1
  have X0 : Stand p l e ({ frames := 2, cells := 4, slots := 8, locals := 29 } : Room) (s.setVm s.vm) m #[(.ref a1), (.ref a2)] below meth c s₁ [] 0 0 := Stand.of_body Bd
  have e0 : s₁.heap = h0 := by rw [← hh, Bd.state]; rfl
  have N0 := Fr.nil Z.heap.size
  have Z0 : Z.heap.size ≤ h0.size := OL.2.1
  have hS0 : s.Since s.vm h0.size := (State.WarmedH.refl s).since _
  have wS := own_wS hw
  have R0 : CHr Z consts_1 s.vm h0 s.vm h0 := CHr.refl hC0
  have lt_0 : @LT.lt Nat _ a1 h0.size := p0_.lt
  have lt_1 : @LT.lt Nat _ a1 h0.size := p1_.lt
  have lt_2 : @LT.lt Nat _ a1 h0.size := p2_.lt
  have lt_3 : @LT.lt Nat _ a2 h0.size := p3_.lt
  obtain ⟨PP, hPP⟩ : ∃ PP : Outcome → State → Prop, PP = (fun o tE => ∃ v L, o = .returned v ∧ Q_init1e Z a1 a2 k vs d h0 v tE.heap L ∧ CHr Z consts_1 s.vm s.heap tE.vm tE.heap ∧ ReturnedEndW s o tE L ({ frames := 2, cells := 4, slots := 8, locals := 29 } : Room).cells ({ frames := 2, cells := 4, slots := 8, locals := 29 } : Room).slots) := ⟨_, rfl⟩
  show own_Go p.tables e below (fun o tE => ∃ v L, o = .returned v ∧ Q_init1e Z a1 a2 k vs d h0 v tE.heap L ∧ CHr Z consts_1 s.vm s.heap tE.vm tE.heap ∧ ReturnedEndW s o tE L ({ frames := 2, cells := 4, slots := 8, locals := 29 } : Room).cells ({ frames := 2, cells := 4, slots := 8, locals := 29 } : Room).slots) (s₁.setTop (entryFrame m #[(.ref a1), (.ref a2)] 2))
  rw [← hPP]
  refine own_Go.st (fun t k => castTop (ef_15 m a1 a2) k) ?_
  show own_Go _ _ _ _ (s₁.setTop (mkF m 0 #[.val (.ref a1), .val (.ref a2)] []))
  refine own_Go.st (fun _ k => XS.aloadN X0.here hx rfl (hb hby d_jdk_42_method_3_0) rfl rfl k) ?_
  show own_Go _ _ _ _ (s₁.setTop (mkF m 1 #[.val (.ref a1), .val (.ref a2)] [(.ref a1)]))
  refine own_Go.st (fun _ k => XS.aloadN X0.here hx rfl (hb hby d_jdk_42_method_3_1) rfl rfl k) ?_
  show own_Go _ _ _ _ (s₁.setTop (mkF m 2 #[.val (.ref a1), .val (.ref a2)] [(.ref a2), (.ref a1)]))
  refine own_Go.st (fun _ k => XS.iconst X0.here hx rfl (hb hby d_jdk_42_method_3_2) k) ?_
  show own_Go _ _ _ _ (s₁.setTop (mkF m 3 #[.val (.ref a1), .val (.ref a2)] [(.int (0 : Int32)), (.ref a2), (.ref a1)]))
  refine own_Go.st (fun _ k => XS.aloadN X0.here hx rfl (hb hby d_jdk_42_method_3_3) rfl rfl k) ?_
  show own_Go _ _ _ _ (s₁.setTop (mkF m 4 #[.val (.ref a1), .val (.ref a2)] [(.ref a2), (.int (0 : Int32)), (.ref a2), (.ref a1)]))
  obtain ⟨c133, Ar133, q133, S133, Nn133, H133, G133⟩ := id p3_
  refine own_Go.st (X0.arraylength hx (by rw [e0]; exact Ar133.1) (State.isArrayOf_alike hZ.alike Ar133.2.1) (g := (mkF m 4 #[.val (.ref a1), .val (.ref a2)] [(.ref a2), (.int (0 : Int32)), (.ref a2), (.ref a1)])) rfl rfl (hb hby d_jdk_42_method_3_4)) ?_
  rw [len_of S133 Nn133]
  show own_Go _ _ _ _ (s₁.setTop (mkF m 5 #[.val (.ref a1), .val (.ref a2)] [(.int (0 : Int32)), (.int (0 : Int32)), (.ref a2), (.ref a1)]))
  refine own_Go.st (fun _ k => XS.aconstNull X0.here hx rfl (hb hby d_jdk_42_method_3_5) k) ?_
  show own_Go _ _ _ _ (s₁.setTop (mkF m 6 #[.val (.ref a1), .val (.ref a2)] [.null, (.int (0 : Int32)), (.int (0 : Int32)), (.ref a2), (.ref a1)]))
  obtain ⟨_, _, ⟨T134, L134, k134, n134⟩, -, X134, hs134, hg134, ⟨Lc134, hQ134, l134, y134, z134, ch134⟩, st134⟩ := X0.specialBackS hx (y := (⟨"java/lang/String", "<init>", "([CIILjava/lang/Void;)V"⟩ : MethodName)) rfl hown (mvT hZ (hw _ (List.mem_of_getElem? (i := 19) rfl))) (mvT hZ (hw _ (List.mem_of_getElem? (i := 20) rfl))) (mvT hZ (hw _ (List.mem_of_getElem? (i := 22) rfl))) (by decide) (backOfSH (s := s) (vm0 := s.vm) (W := 0) (rm_init4e l Z a0 hw [] a1 a2 h0 hEL OL p0_ p1_ p2_ (by first | assumption | decide)) hZ (hw _ (List.mem_of_getElem? (i := 22) rfl)) (hw _ (List.mem_of_getElem? (i := 14) rfl)) (by decide) (by decide) hEL R0.1) (g := (mkF m 6 #[.val (.ref a1), .val (.ref a2)] [.null, (.int (0 : Int32)), (.int (0 : Int32)), (.ref a2), (.ref a1)])) rfl (by rw [hml]; rfl) (Steps.refl _) (a := a1) (argsL := [(.ref a2), (.int (0 : Int32)), (.int (0 : Int32)), .null]) (rest := []) (lenOf pd_22 rfl) rfl (by show 2 * 0 + _ ≤ _; exact Nat.le_of_eq rfl) (hb hby d_jdk_42_method_3_6) (fun _ _ => ⟨rfl, e0, (by decide : 0 + 4 ≤ _), (by decide : 0 + 8 ≤ _)⟩)
  dsimp only [Pt.U, Pt.locs, Pt.cells, Pt.slots] at X134 l134 y134 z134 st134 hQ134 hs134 hg134 ch134
  subst l134 y134 z134
  obtain ⟨t_134, rfl, N134q, K134, f134_0⟩ := hQ134
  have N134 := Fr.app N0 N134q
  obtain ⟨Y134, hS134, hZ134, hown134⟩ := rebS hS0 (n1 := h0.size) (by omega) X134 hs134 (by have := hg134; first | exact this | (rw [← e0]; exact this)) hZ hown
  have z134 : h0.size ≤ T134.heap.size := K134.1
  have R134 : CHr Z consts_1 s.vm h0 T134.vm T134.heap := R0.trans ch134
  have lt134_0 : @LT.lt Nat _ a1 T134.heap.size := f134_0.lt
  have ltv134_0 : @LT.lt Nat _ t_134 T134.heap.size := f134_0.ltv
  refine own_Go.tr st134 ?_
  show own_Go _ _ _ _ (T134.setTop (mkF m 9 #[.val (.ref a1), .val (.ref a2)] []))
  obtain ⟨fs135, hr135, hrun135, hend135, hret135⟩ := Y134.leaveW hS134 (by omega) (v := none) (fun _ => rfl)
  have K136 : Keep h0 T134.heap [a1] := (Keep.refl h0 [a1]).trans K134 (allS (Or.inl (List.mem_of_getElem? (i := 0) rfl)) all0)
  subst hPP
  refine ⟨_, _, Y134.returnOut hx Bd.returns (hb hby d_jdk_42_method_3_9) hr135, hrun135, hend135, _, _, rfl, ?_, ?_, hret135.1, hret135.2.1, hret135.2.2.1, hret135.2.2.2.mono (by decide) (by decide)⟩
  · show Q_init1e Z _ _ _ _ _ h0 _ T134.heap _
    exact ⟨t_134, rfl, N134, K136, f134_0⟩
  · have hfin := R134.trans (CHv.at Y134 hZ134 hEL R134.1)
    rw [← hh] at hfin
    show CHr Z consts_1 s.vm s.heap T134.vm T134.heap
    exact hfin

theorem own_of {i : Nat} (h : i < 2147483648) : (Int32.ofNat i).toInt = i := Int32.toInt_ofNat_small h
theorem own_ofn {i : Nat} (h : i < 2147483648) : (Int32.ofNat i).toNatClampNeg = i := by
  have := own_of h
  simp only [Int32.toNatClampNeg, this]
  omega
theorem own_of0 {i : Nat} (h : i < 2147483648) : ¬ (Int32.ofNat i) < 0 := by
  have := own_of h
  have e0 : (0 : Int32).toInt = 0 := by decide
  rw [Int32.lt_iff_toInt_lt, this, e0]
  omega
theorem own_oflt {i j : Nat} (hi : i < 2147483648) (hj : j < 2147483648) : (Int32.ofNat i) < (Int32.ofNat j) ↔ i < j := by
  rw [Int32.lt_iff_toInt_lt, own_of hi, own_of hj]
  omega
theorem own_ofS {i : Nat} (h : i < 1073741823) : Int32.ofNat i + (1 : Int32) = Int32.ofNat (i + 1) := by
  apply Int32.toInt_inj.mp
  have a := c_iadd (Int32.ofNat i) 1
  have b := own_of (i := i) (by omega)
  have c := own_of (i := i + 1) (by omega)
  have r := rng32 (Int32.ofNat i + 1)
  have e1 : (1 : Int32).toInt = 1 := by decide
  omega
theorem own_getD {cs : List Int32} {i : Nat} (hi : i < cs.length) (hl : cs.length ≤ 4000) (d : Value) : (cs.map Value.int).getD (Int32.ofNat i).toNatClampNeg d = .int (cs.getD i 0) := by
  rw [own_ofn (by omega)]
  simp [List.getD_eq_getElem?_getD, hi]
theorem own_arvAny {Z : State} {h h' : Heap} {a : Addr} {k : ClassId} {ty : FieldType} {n j : Int32} {vs : List Value} {d v : Value} (F : Arv Z h a k ty n vs d) (hv : fits ty v = true) (hj : ¬ j < 0 ∧ j < n) (W : Wr h h' a j.toNatClampNeg v) : ∃ vs', Arv Z h' a k ty n vs' d := by
  have F' := F.pad (pad_rep vs d (j.toNatClampNeg + 1))
  obtain ⟨c, A, q1, S, q3, H, G⟩ := F'
  exact ⟨_, Arv.set A q1 S q3 H G hv W j.toNatClampNeg rfl (by simp only [List.length_append, List.length_replicate]; omega)⟩


theorem own_shl1 {i : Nat} (h : i < 1000000) : (Int32.ofNat i) <<< ((1 : Int32) &&& 31) = Int32.ofNat (2 * i) := by
  apply Int32.toInt_inj.mp
  have a := c_ishl (Int32.ofNat i) 1 1 (by decide)
  have b := own_of (i := i) (by omega)
  have c := own_of (i := 2 * i) (by omega)
  have r := rng32 (Int32.ofNat i <<< ((1 : Int32) &&& 31))
  omega
theorem own_wlen (cs : List Int32) : (StrChars.Road.wideBytes cs).length = 2 * cs.length := by
  induction cs with
  | nil => rfl
  | cons c r ih => simp only [StrChars.Road.wideBytes, List.length_cons, ih]; omega
theorem own_cfal {i : Nat} (h : 0 < i ∧ i ≤ 4000) : nar .byte ((((Int32.ofNat i - Int32.ofNat (2 * i)).toUInt32 >>> ((31 : Int32) &&& 31).toUInt32).toInt32).toInt8.toInt32) = 1 := by
  have a := c_isub (Int32.ofNat i) (Int32.ofNat (2 * i))
  have b := own_of (i := i) (by omega)
  have c := own_of (i := 2 * i) (by omega)
  have r := rng32 (Int32.ofNat i - Int32.ofNat (2 * i))
  have s := c_iushr (Int32.ofNat i - Int32.ofNat (2 * i)) 31 31 (by decide) (by decide)
  have t := c_i2b (((Int32.ofNat i - Int32.ofNat (2 * i)).toUInt32 >>> ((31 : Int32) &&& 31).toUInt32).toInt32)
  have u := c_i2b ((((Int32.ofNat i - Int32.ofNat (2 * i)).toUInt32 >>> ((31 : Int32) &&& 31).toUInt32).toInt32).toInt8.toInt32)
  apply Int32.toInt_inj.mp
  have e1 : (1 : Int32).toInt = 1 := by decide
  simp only [nar]
  omega
theorem own_i2b2 (x : Int32) : (x.toInt8.toInt32).toInt8.toInt32 = x.toInt8.toInt32 := by simp
theorem own_narB (x : Int32) : nar .byte (x.toInt8.toInt32) = StrChars.lo8 x := by
  show (x.toInt8.toInt32).toInt8.toInt32 = x.toInt8.toInt32
  simp
theorem own_setget {vs : List Value} {i j : Nat} {v d : Value} (h : i < vs.length) : (vs.set i v).getD j d = if i = j then v else vs.getD j d := by
  simp only [List.getD_eq_getElem?_getD, List.getElem?_set]
  split
  · rename_i q; subst q; simp [h]
  · rfl
theorem own_wide (cs : List Int32) (d : Value) : ∀ (vs : List Value), vs.length = 2 * cs.length → (∀ j, j < cs.length → vs.getD (2 * j) d = .int (StrChars.lo8 (cs.getD j 0)) ∧ vs.getD (2 * j + 1) d = .int (StrChars.hi8 (cs.getD j 0))) → vs = StrChars.Road.wideBytes cs := by
  induction cs with
  | nil => intro vs h _; simp at h; subst h; rfl
  | cons c r ih =>
    intro vs h q
    match vs, h with
    | a :: b :: t, h =>
      have q0 := q 0 (by simp)
      have e1 : a = .int (StrChars.lo8 c) := by simpa using q0.1
      have e2 : b = .int (StrChars.hi8 c) := by simpa using q0.2
      have e3 : t = StrChars.Road.wideBytes r := ih t (by simp at h; omega) (fun j hj => by
        have := q (j + 1) (by simp; omega)
        have w1 : 2 * (j + 1) = 2 * j + 1 + 1 := by omega
        rw [w1] at this
        simpa using this)
      rw [e1, e2, e3]
      rfl
    | [a], h => simp at h; omega
    | [], h => simp at h

theorem pn_25 : plainName "java/lang/StringUTF16" = true := by first | (simp [plainName, overriddenIn]; done) | decide +kernel
theorem ef_26 (m : MethodId) (x0 : Nat) (x1 : Int32) (x2 : Nat) (x3 : Int32) (x4 : Int32) : entryFrame m #[(.ref x0), (.int x1), (.ref x2), (.int x3), (.int x4)] 7 = mkF m 0 #[.val (.ref x0), .val (.int x1), .val (.ref x2), .val (.int x3), .val (.int x4), .unset, .unset] [] := by first | (simp [entryFrame, mkF, argsToLocals, Value.category]; done) | rfl
theorem d_jdk_52_method_21_0 : decode jdk_52_method_21_code 0 = .ok (.iconst 0, 1) := by decide +kernel
theorem d_jdk_52_method_21_1 : decode jdk_52_method_21_code 1 = .ok (.istore 5, 2) := by decide +kernel
theorem d_jdk_52_method_21_3 : decode jdk_52_method_21_code 3 = .ok (.iload 5, 2) := by decide +kernel
theorem d_jdk_52_method_21_5 : decode jdk_52_method_21_code 5 = .ok (.iload 4, 2) := by decide +kernel
theorem d_jdk_52_method_21_7 : decode jdk_52_method_21_code 7 = .ok (.if_icmp .ge 37, 3) := by decide +kernel
theorem d_jdk_52_method_21_10 : decode jdk_52_method_21_code 10 = .ok (.aload_n 0, 1) := by decide +kernel
theorem d_jdk_52_method_21_11 : decode jdk_52_method_21_code 11 = .ok (.iload_n 1, 1) := by decide +kernel
theorem d_jdk_52_method_21_12 : decode jdk_52_method_21_code 12 = .ok (.caload, 1) := by decide +kernel
theorem d_jdk_52_method_21_13 : decode jdk_52_method_21_code 13 = .ok (.istore 6, 2) := by decide +kernel
theorem d_jdk_52_method_21_15 : decode jdk_52_method_21_code 15 = .ok (.iload 6, 2) := by decide +kernel
theorem d_jdk_52_method_21_17 : decode jdk_52_method_21_code 17 = .ok (.sipush 255, 3) := by decide +kernel
theorem d_jdk_52_method_21_20 : decode jdk_52_method_21_code 20 = .ok (.if_icmp .le 6, 3) := by decide +kernel
theorem d_jdk_52_method_21_23 : decode jdk_52_method_21_code 23 = .ok (.iload 5, 2) := by decide +kernel
theorem d_jdk_52_method_21_25 : decode jdk_52_method_21_code 25 = .ok (.ireturn, 1) := by decide +kernel
theorem d_jdk_52_method_21_26 : decode jdk_52_method_21_code 26 = .ok (.aload_n 2, 1) := by decide +kernel
theorem d_jdk_52_method_21_27 : decode jdk_52_method_21_code 27 = .ok (.iload_n 3, 1) := by decide +kernel
theorem d_jdk_52_method_21_28 : decode jdk_52_method_21_code 28 = .ok (.iload 6, 2) := by decide +kernel
theorem d_jdk_52_method_21_30 : decode jdk_52_method_21_code 30 = .ok (.i2b, 1) := by decide +kernel
theorem d_jdk_52_method_21_31 : decode jdk_52_method_21_code 31 = .ok (.bastore, 1) := by decide +kernel
theorem d_jdk_52_method_21_32 : decode jdk_52_method_21_code 32 = .ok (.iinc 1 1, 3) := by decide +kernel
theorem d_jdk_52_method_21_35 : decode jdk_52_method_21_code 35 = .ok (.iinc 3 1, 3) := by decide +kernel
theorem d_jdk_52_method_21_38 : decode jdk_52_method_21_code 38 = .ok (.iinc 5 1, 3) := by decide +kernel
theorem d_jdk_52_method_21_41 : decode jdk_52_method_21_code 41 = .ok (.goto (-38), 3) := by decide +kernel
def Q_cmp5 (Z : State) (a1 : Nat) (a3 : Nat) (nn : Int32) (cs : List Int32) (k1 : ClassId) (d1 : Value) (k3 : ClassId) (vs3 : List Value) (d3 : Value) (h0 : Heap) (v : Option Value) (h : Heap) (L : List Loc) : Prop := ∃ (f : Nat), ∃ (vs4 : List Value), v = some (.int (Int32.ofNat f)) ∧ Fr Z.heap.size L ∧ Keep h0 h [a3] ∧ Arv Z h a3 k3 .byte nn vs4 d3 ∧ (f < cs.length) ∧ ((255 : Int32) < cs.getD f 0)
set_option maxRecDepth 65536 in
set_option maxHeartbeats 40000000 in
theorem rm_cmp5 (l : Launch) (Z : State) (a0 : Array Value) (hw : ∀ d ∈ tables_1, d.before a0 Z = true) (ws : List Jvm.Cond) (a1 : Nat) (a3 : Nat) (nn : Int32) (cs : List Int32) (k1 : ClassId) (d1 : Value) (k3 : ClassId) (vs3 : List Value) (d3 : Value) (h0 : Heap) (OL : Old Z Z.heap.size h0) (p0_ : Arv Z h0 a1 k1 .char nn (cs.map Value.int) d1) (p1_ : Arv Z h0 a3 k3 .byte nn vs3 d3) (hnn : nn = Int32.ofNat cs.length) (hle : cs.length ≤ 4000) (hbig : ∃ c ∈ cs, (255 : Int32) < c) (hn0 : Z.heap.size ≤ a3) :
    MetFree l (⟨"java/lang/StringUTF16", "compress", "([CI[BII)I"⟩ : MethodName) (head1 (Jvm.Cond.code (⟨"java/lang/StringUTF16", "compress", "([CI[BII)I"⟩ : MethodName) jdk_52_method_21_code 7 (some .int) :: ws) ({ frames := 0, cells := 0, slots := 0, locals := 0 } : Room)) (fun a U => a = #[(.ref a1), (.int (0 : Int32)), (.ref a3), (.int (0 : Int32)), (.int nn)] ∧ Z.Warmed39 U.vm ∧ U.heap = h0) (fun _ _ _ _ _ => True) (fun _ U o U' => ∃ v L, o = .returned v ∧ Q_cmp5 Z a1 a3 nn cs k1 d1 k3 vs3 d3 h0 v U'.heap L ∧ FrameEnd U o U' L ({ frames := 0, cells := 0, slots := 0, locals := 0 } : Room).cells ({ frames := 0, cells := 0, slots := 0, locals := 0 } : Room).slots) := by
  refine MetFree.of_bodySF (plainFor_of_name pn_25) hisR ?_
  intro p e s m args below meth c s₁ Bd hml0 hP hK
  obtain ⟨rfl, hZ, hh⟩ := hP
  have hx := Bd.exec
  have hby := Bd.bytes
  have hml : c.maxLocals = 7 := hml0
  have hown : s.vm.findClass "java/lang/StringUTF16" = some m.cls := findClass_of_methodNamed Bd.named
  have hnm := (name_of_methodNamed Bd.named Bd.method).1
  have X0 : Stand p l e ({ frames := 0, cells := 0, slots := 0, locals := 0 } : Room) s m #[(.ref a1), (.int (0 : Int32)), (.ref a3), (.int (0 : Int32)), (.int nn)] below meth c s₁ [] 0 0 := Stand.of_body Bd
  have e0 : s₁.heap = h0 := by rw [← hh, Bd.state]; rfl
  have N0 := Fr.nil Z.heap.size
  have Z0 : Z.heap.size ≤ h0.size := OL.2.1
  have lt_0 : @LT.lt Nat _ a1 h0.size := p0_.lt
  have lt_1 : @LT.lt Nat _ a3 h0.size := p1_.lt
  obtain ⟨PP, hPP⟩ : ∃ PP : Outcome → State → Prop, PP = (fun o tE => ∃ v L, o = .returned v ∧ Q_cmp5 Z a1 a3 nn cs k1 d1 k3 vs3 d3 h0 v tE.heap L ∧ FrameEnd s o tE L ({ frames := 0, cells := 0, slots := 0, locals := 0 } : Room).cells ({ frames := 0, cells := 0, slots := 0, locals := 0 } : Room).slots) := ⟨_, rfl⟩
  show own_Go p.tables e below (fun o tE => ∃ v L, o = .returned v ∧ Q_cmp5 Z a1 a3 nn cs k1 d1 k3 vs3 d3 h0 v tE.heap L ∧ FrameEnd s o tE L ({ frames := 0, cells := 0, slots := 0, locals := 0 } : Room).cells ({ frames := 0, cells := 0, slots := 0, locals := 0 } : Room).slots) (s₁.setTop (entryFrame m #[(.ref a1), (.int (0 : Int32)), (.ref a3), (.int (0 : Int32)), (.int nn)] 7))
  rw [← hPP]
  refine own_Go.st (fun t k => castTop (ef_26 m a1 (0 : Int32) a3 (0 : Int32) nn) k) ?_
  show own_Go _ _ _ _ (s₁.setTop (mkF m 0 #[.val (.ref a1), .val (.int (0 : Int32)), .val (.ref a3), .val (.int (0 : Int32)), .val (.int nn), .unset, .unset] []))
  refine own_Go.st (fun _ k => XS.iconst X0.here hx rfl (hb hby d_jdk_52_method_21_0) k) ?_
  show own_Go _ _ _ _ (s₁.setTop (mkF m 1 #[.val (.ref a1), .val (.int (0 : Int32)), .val (.ref a3), .val (.int (0 : Int32)), .val (.int nn), .unset, .unset] [(.int (0 : Int32))]))
  refine own_Go.st (fun _ k => XS.istore X0.here hx rfl (hb hby d_jdk_52_method_21_1) rfl (l' := #[.val (.ref a1), .val (.int (0 : Int32)), .val (.ref a3), .val (.int (0 : Int32)), .val (.int nn), .val (.int (0 : Int32)), .unset]) rfl k) ?_
  show own_Go _ _ _ _ (s₁.setTop (mkF m 3 #[.val (.ref a1), .val (.int (0 : Int32)), .val (.ref a3), .val (.int (0 : Int32)), .val (.int nn), .val (.int (0 : Int32)), .unset] []))
  have LP137 : ∀ (nL : Nat) (i : Nat) (s6 : Slot) (vsL : List Value) (TL137 : State) (hL137 : Heap) (lL137 : List Loc), (i ≤ cs.length) → (One s6) → (∀ j, j < i → ¬ (255 : Int32) < cs.getD j 0) → (Stand p l e ({ frames := 0, cells := 0, slots := 0, locals := 0 } : Room) s m #[(.ref a1), (.int (0 : Int32)), (.ref a3), (.int (0 : Int32)), (.int nn)] below meth c TL137 lL137 0 0) → (TL137.heap = hL137) → (Fr Z.heap.size lL137) → (Keep h0 hL137 [a3]) → (Old Z Z.heap.size hL137) → (Arv Z hL137 a1 k1 .char nn (cs.map Value.int) d1) → (Arv Z hL137 a3 k3 .byte nn vsL d3) → cs.length - i = nL → own_Go p.tables e below PP (TL137.setTop (mkF m 3 #[.val (.ref a1), .val (.int (Int32.ofNat i)), .val (.ref a3), .val (.int (Int32.ofNat i)), .val (.int nn), .val (.int (Int32.ofNat i)), s6] [])) := by
    intro nL
    induction nL using Nat.strongRecOn with
    | _ nL ihL =>
      intro i s6 vsL TL137 hL137 lL137 hi hs6 hlow XL137 eL137 NL137 KL137 OL137 fL137_0 fL137_1 hmL
      have zL137 : h0.size ≤ hL137.size := KL137.1
      have ltL137_0 : @LT.lt Nat _ a1 hL137.size := fL137_0.lt
      have ltL137_1 : @LT.lt Nat _ a3 hL137.size := fL137_1.lt
      refine own_Go.st (fun _ k => XS.iload XL137.here hx rfl (hb hby d_jdk_52_method_21_3) rfl k) ?_
      show own_Go _ _ _ _ (TL137.setTop (mkF m 5 #[.val (.ref a1), .val (.int (Int32.ofNat i)), .val (.ref a3), .val (.int (Int32.ofNat i)), .val (.int nn), .val (.int (Int32.ofNat i)), s6] [(.int (Int32.ofNat i))]))
      refine own_Go.st (fun _ k => XS.iload XL137.here hx rfl (hb hby d_jdk_52_method_21_5) rfl k) ?_
      show own_Go _ _ _ _ (TL137.setTop (mkF m 7 #[.val (.ref a1), .val (.int (Int32.ofNat i)), .val (.ref a3), .val (.int (Int32.ofNat i)), .val (.int nn), .val (.int (Int32.ofNat i)), s6] [(.int nn), (.int (Int32.ofNat i))]))
      by_cases h7 : (Int32.ofNat i) < nn
      ·
        refine own_Go.st (fun _ k => XS.icmpNo XL137.here hx rfl (hb hby d_jdk_52_method_21_7) rfl (tlt h7).2.1 k) ?_
        show own_Go _ _ _ _ (TL137.setTop (mkF m 10 #[.val (.ref a1), .val (.int (Int32.ofNat i)), .val (.ref a3), .val (.int (Int32.ofNat i)), .val (.int nn), .val (.int (Int32.ofNat i)), s6] []))
        have hi7 : i < cs.length := (own_oflt (by omega) (by omega)).mp (hnn ▸ h7)
        refine own_Go.st (fun _ k => XS.aloadN XL137.here hx rfl (hb hby d_jdk_52_method_21_10) rfl rfl k) ?_
        show own_Go _ _ _ _ (TL137.setTop (mkF m 11 #[.val (.ref a1), .val (.int (Int32.ofNat i)), .val (.ref a3), .val (.int (Int32.ofNat i)), .val (.int nn), .val (.int (Int32.ofNat i)), s6] [(.ref a1)]))
        refine own_Go.st (fun _ k => XS.iloadN XL137.here hx rfl (hb hby d_jdk_52_method_21_11) rfl k) ?_
        show own_Go _ _ _ _ (TL137.setTop (mkF m 12 #[.val (.ref a1), .val (.int (Int32.ofNat i)), .val (.ref a3), .val (.int (Int32.ofNat i)), .val (.int nn), .val (.int (Int32.ofNat i)), s6] [(.int (Int32.ofNat i)), (.ref a1)]))
        obtain ⟨c138, Ar138, q138, S138, Nn138, H138, G138⟩ := id fL137_0
        have hin138 : ¬ ((Int32.ofNat i) < 0 ∨ c138.slots.size ≤ ((Int32.ofNat i)).toNatClampNeg) := inb_of S138 ⟨own_of0 (by omega), h7⟩
        have hat138 : c138.slots[((Int32.ofNat i)).toNatClampNeg]? = some (.int (cs.getD i 0)) := H138.at hin138 (own_getD hi7 hle _)
        refine own_Go.st (XL137.caload hx (j := (Int32.ofNat i)) (v := (.int (cs.getD i 0))) (by rw [eL137]; exact Ar138.1) (State.isArrayOf_alike hZ.alike Ar138.2.1) Ar138.2.2 hin138 hat138 (g := (mkF m 12 #[.val (.ref a1), .val (.int (Int32.ofNat i)), .val (.ref a3), .val (.int (Int32.ofNat i)), .val (.int nn), .val (.int (Int32.ofNat i)), s6] [(.int (Int32.ofNat i)), (.ref a1)])) rfl rfl (hb hby d_jdk_52_method_21_12)) ?_
        show own_Go _ _ _ _ (TL137.setTop (mkF m 13 #[.val (.ref a1), .val (.int (Int32.ofNat i)), .val (.ref a3), .val (.int (Int32.ofNat i)), .val (.int nn), .val (.int (Int32.ofNat i)), s6] [(.int (cs.getD i 0))]))
        refine own_Go.st (fun _ k => XS.istoreS XL137.here hx rfl (hb hby d_jdk_52_method_21_13) rfl rfl hs6 k) ?_
        show own_Go _ _ _ _ (TL137.setTop (mkF m 15 #[.val (.ref a1), .val (.int (Int32.ofNat i)), .val (.ref a3), .val (.int (Int32.ofNat i)), .val (.int nn), .val (.int (Int32.ofNat i)), .val (.int (cs.getD i 0))] []))
        refine own_Go.st (fun _ k => XS.iload XL137.here hx rfl (hb hby d_jdk_52_method_21_15) rfl k) ?_
        show own_Go _ _ _ _ (TL137.setTop (mkF m 17 #[.val (.ref a1), .val (.int (Int32.ofNat i)), .val (.ref a3), .val (.int (Int32.ofNat i)), .val (.int nn), .val (.int (Int32.ofNat i)), .val (.int (cs.getD i 0))] [(.int (cs.getD i 0))]))
        refine own_Go.st (fun _ k => XS.sipush XL137.here hx rfl (hb hby d_jdk_52_method_21_17) k) ?_
        show own_Go _ _ _ _ (TL137.setTop (mkF m 20 #[.val (.ref a1), .val (.int (Int32.ofNat i)), .val (.ref a3), .val (.int (Int32.ofNat i)), .val (.int nn), .val (.int (Int32.ofNat i)), .val (.int (cs.getD i 0))] [(.int (255 : Int32)), (.int (cs.getD i 0))]))
        by_cases hc139 : (255 : Int32) < (cs.getD i 0)
        ·
          refine own_Go.st (fun _ k => XS.icmpNo XL137.here hx rfl (hb hby d_jdk_52_method_21_20) rfl (tlt hc139).2.2.2 k) ?_
          show own_Go _ _ _ _ (TL137.setTop (mkF m 23 #[.val (.ref a1), .val (.int (Int32.ofNat i)), .val (.ref a3), .val (.int (Int32.ofNat i)), .val (.int nn), .val (.int (Int32.ofNat i)), .val (.int (cs.getD i 0))] []))
          refine own_Go.st (fun _ k => XS.iload XL137.here hx rfl (hb hby d_jdk_52_method_21_23) rfl k) ?_
          show own_Go _ _ _ _ (TL137.setTop (mkF m 25 #[.val (.ref a1), .val (.int (Int32.ofNat i)), .val (.ref a3), .val (.int (Int32.ofNat i)), .val (.int nn), .val (.int (Int32.ofNat i)), .val (.int (cs.getD i 0))] [(.int (Int32.ofNat i))]))
          obtain ⟨fs140, hr140, hrun140, hend140, hW140, hsm140⟩ := XL137.leave (v := some (.int (Int32.ofNat i))) (fun h => by rw [Bd.returns] at h; cases h)
          subst hPP
          refine ⟨_, _, own_retI XL137 hx Bd.returns (hb hby d_jdk_52_method_21_25) hr140, hrun140, hend140, _, _, rfl, ?_, ⟨_, rfl⟩, hW140, hsm140.mono (by decide) (by decide)⟩
          · show Q_cmp5 Z _ _ _ _ _ _ _ _ _ h0 _ TL137.heap _
            rw [eL137]
            exact ⟨i, vsL, rfl, NL137, KL137, fL137_1, hi7, hc139⟩
        ·
          refine own_Go.st (fun _ k => XS.icmpYes XL137.here hx rfl (pc0 := 20) (pc' := 26) rfl (hb hby d_jdk_52_method_21_20) rfl (flt hc139).2.2.2 (by decide) (by decide) k) ?_
          show own_Go _ _ _ _ (TL137.setTop (mkF m 26 #[.val (.ref a1), .val (.int (Int32.ofNat i)), .val (.ref a3), .val (.int (Int32.ofNat i)), .val (.int nn), .val (.int (Int32.ofNat i)), .val (.int (cs.getD i 0))] []))
          refine own_Go.st (fun _ k => XS.aloadN XL137.here hx rfl (hb hby d_jdk_52_method_21_26) rfl rfl k) ?_
          show own_Go _ _ _ _ (TL137.setTop (mkF m 27 #[.val (.ref a1), .val (.int (Int32.ofNat i)), .val (.ref a3), .val (.int (Int32.ofNat i)), .val (.int nn), .val (.int (Int32.ofNat i)), .val (.int (cs.getD i 0))] [(.ref a3)]))
          refine own_Go.st (fun _ k => XS.iloadN XL137.here hx rfl (hb hby d_jdk_52_method_21_27) rfl k) ?_
          show own_Go _ _ _ _ (TL137.setTop (mkF m 28 #[.val (.ref a1), .val (.int (Int32.ofNat i)), .val (.ref a3), .val (.int (Int32.ofNat i)), .val (.int nn), .val (.int (Int32.ofNat i)), .val (.int (cs.getD i 0))] [(.int (Int32.ofNat i)), (.ref a3)]))
          refine own_Go.st (fun _ k => XS.iload XL137.here hx rfl (hb hby d_jdk_52_method_21_28) rfl k) ?_
          show own_Go _ _ _ _ (TL137.setTop (mkF m 30 #[.val (.ref a1), .val (.int (Int32.ofNat i)), .val (.ref a3), .val (.int (Int32.ofNat i)), .val (.int nn), .val (.int (Int32.ofNat i)), .val (.int (cs.getD i 0))] [(.int (cs.getD i 0)), (.int (Int32.ofNat i)), (.ref a3)]))
          refine own_Go.st (fun _ k => XS.i2b XL137.here hx rfl (hb hby d_jdk_52_method_21_30) rfl k) ?_
          show own_Go _ _ _ _ (TL137.setTop (mkF m 31 #[.val (.ref a1), .val (.int (Int32.ofNat i)), .val (.ref a3), .val (.int (Int32.ofNat i)), .val (.int nn), .val (.int (Int32.ofNat i)), .val (.int (cs.getD i 0))] [(.int ((cs.getD i 0).toInt8.toInt32)), (.int (Int32.ofNat i)), (.ref a3)]))
          obtain ⟨c141, Ar141, q141, S141, Nn141, H141, G141⟩ := id fL137_1
          have hin141 : ¬ ((Int32.ofNat i) < 0 ∨ c141.slots.size ≤ ((Int32.ofNat i)).toNatClampNeg) := inb_of S141 ⟨own_of0 (by omega), h7⟩
          obtain ⟨T141, h141, X141, e141, W141, st141⟩ := stB XL137 hx hZ eL137 Ar141 (j := (Int32.ofNat i)) hin141 (g := (mkF m 31 #[.val (.ref a1), .val (.int (Int32.ofNat i)), .val (.ref a3), .val (.int (Int32.ofNat i)), .val (.int nn), .val (.int (Int32.ofNat i)), .val (.int (cs.getD i 0))] [(.int ((cs.getD i 0).toInt8.toInt32)), (.int (Int32.ofNat i)), (.ref a3)])) rfl rfl (hb hby d_jdk_52_method_21_31)
          refine own_Go.st st141 ?_
          have N141 := Fr.snoc X141 NL137 (by omega)
          have z141 : hL137.size ≤ h141.size := Nat.le_of_eq W141.size.symm
          obtain ⟨vs144, f143⟩ := own_arvAny fL137_1 (fits_nar_byte _) ⟨own_of0 (by omega), h7⟩ W141
          show own_Go _ _ _ _ (T141.setTop (mkF m 32 #[.val (.ref a1), .val (.int (Int32.ofNat i)), .val (.ref a3), .val (.int (Int32.ofNat i)), .val (.int nn), .val (.int (Int32.ofNat i)), .val (.int (cs.getD i 0))] []))
          refine own_Go.st (fun _ k => XS.iinc X141.here hx rfl (hb hby d_jdk_52_method_21_32) rfl (l' := #[.val (.ref a1), .val (.int ((Int32.ofNat i) + (1 : Int32))), .val (.ref a3), .val (.int (Int32.ofNat i)), .val (.int nn), .val (.int (Int32.ofNat i)), .val (.int (cs.getD i 0))]) rfl k) ?_
          show own_Go _ _ _ _ (T141.setTop (mkF m 35 #[.val (.ref a1), .val (.int ((Int32.ofNat i) + (1 : Int32))), .val (.ref a3), .val (.int (Int32.ofNat i)), .val (.int nn), .val (.int (Int32.ofNat i)), .val (.int (cs.getD i 0))] []))
          refine own_Go.st (fun _ k => XS.iinc X141.here hx rfl (hb hby d_jdk_52_method_21_35) rfl (l' := #[.val (.ref a1), .val (.int ((Int32.ofNat i) + (1 : Int32))), .val (.ref a3), .val (.int ((Int32.ofNat i) + (1 : Int32))), .val (.int nn), .val (.int (Int32.ofNat i)), .val (.int (cs.getD i 0))]) rfl k) ?_
          show own_Go _ _ _ _ (T141.setTop (mkF m 38 #[.val (.ref a1), .val (.int ((Int32.ofNat i) + (1 : Int32))), .val (.ref a3), .val (.int ((Int32.ofNat i) + (1 : Int32))), .val (.int nn), .val (.int (Int32.ofNat i)), .val (.int (cs.getD i 0))] []))
          refine own_Go.st (fun _ k => XS.iinc X141.here hx rfl (hb hby d_jdk_52_method_21_38) rfl (l' := #[.val (.ref a1), .val (.int ((Int32.ofNat i) + (1 : Int32))), .val (.ref a3), .val (.int ((Int32.ofNat i) + (1 : Int32))), .val (.int nn), .val (.int ((Int32.ofNat i) + (1 : Int32))), .val (.int (cs.getD i 0))]) rfl k) ?_
          show own_Go _ _ _ _ (T141.setTop (mkF m 41 #[.val (.ref a1), .val (.int ((Int32.ofNat i) + (1 : Int32))), .val (.ref a3), .val (.int ((Int32.ofNat i) + (1 : Int32))), .val (.int nn), .val (.int ((Int32.ofNat i) + (1 : Int32))), .val (.int (cs.getD i 0))] []))
          rw [own_ofS (by omega : i < 1073741823)]
          show own_Go _ _ _ _ (T141.setTop (mkF m 41 #[.val (.ref a1), .val (.int (Int32.ofNat (i + 1))), .val (.ref a3), .val (.int (Int32.ofNat (i + 1))), .val (.int nn), .val (.int (Int32.ofNat (i + 1))), .val (.int (cs.getD i 0))] []))
          refine own_Go.st (fun _ k => XS.goto X141.here hx rfl (pc0 := 41) (pc' := 3) rfl (hb hby d_jdk_52_method_21_41) (by decide) (by decide) k) ?_
          show own_Go _ _ _ _ (T141.setTop (mkF m 3 #[.val (.ref a1), .val (.int (Int32.ofNat (i + 1))), .val (.ref a3), .val (.int (Int32.ofNat (i + 1))), .val (.int nn), .val (.int (Int32.ofNat (i + 1))), .val (.int (cs.getD i 0))] []))
          have K145 : Keep h0 h141 [a3] := KL137.wr W141 (Or.inl (List.mem_of_getElem? (i := 0) rfl))
          have f146 : Old Z Z.heap.size h141 := OL137.wr W141 (by omega)
          have f147 : Arv Z h141 a1 k1 .char nn (cs.map Value.int) d1 := fL137_0.other W141 (own_arvTy p0_ p1_ (by decide))
          exact ihL _ (by omega) (i + 1) _ vs144 T141 h141 _ (by omega) (One.val rfl) (fun j hj => by rcases Nat.lt_succ_iff_lt_or_eq.mp hj with q | q; exact hlow j q; exact q ▸ hc139) X141 e141 N141 K145 f146 f147 f143 rfl
      ·
        refine own_Go.st (fun _ k => XS.icmpYes XL137.here hx rfl (pc0 := 7) (pc' := 44) rfl (hb hby d_jdk_52_method_21_7) rfl (flt h7).2.1 (by decide) (by decide) k) ?_
        show own_Go _ _ _ _ (TL137.setTop (mkF m 44 #[.val (.ref a1), .val (.int (Int32.ofNat i)), .val (.ref a3), .val (.int (Int32.ofNat i)), .val (.int nn), .val (.int (Int32.ofNat i)), s6] []))
        exfalso
        obtain ⟨c, hc, hcb⟩ := hbig
        obtain ⟨j, hj, rfl⟩ := List.getElem_of_mem hc
        have h7' : ¬ i < cs.length := fun q => h7 (hnn ▸ (own_oflt (by omega) (by omega)).mpr q)
        exact hlow j (by omega) (by simpa [List.getD_eq_getElem?_getD, hj] using hcb)
  exact LP137 _ 0 .unset vs3 s₁ h0 _ (Nat.zero_le _) One.u (fun j hj => absurd hj (Nat.not_lt_zero j)) X0 e0 N0 (Keep.refl h0 [a3]) OL p0_ p1_ rfl
theorem ef_50 (m : MethodId) (x0 : Nat) (x1 : Int32) (x2 : Int32) : entryFrame m #[(.ref x0), (.int x1), (.int x2)] 3 = mkF m 0 #[.val (.ref x0), .val (.int x1), .val (.int x2)] [] := by first | (simp [entryFrame, mkF, argsToLocals, Value.category]; done) | rfl
theorem d_jdk_52_method_4_0 : decode jdk_52_method_4_code 0 = .ok (.getstatic 44, 3) := by decide +kernel
theorem d_jdk_52_method_4_3 : decode jdk_52_method_4_code 3 = .ok (.ifCond .ne 25, 3) := by decide +kernel
theorem d_jdk_52_method_4_28 : decode jdk_52_method_4_code 28 = .ok (.iload_n 1, 1) := by decide +kernel
theorem d_jdk_52_method_4_29 : decode jdk_52_method_4_code 29 = .ok (.iconst 1, 1) := by decide +kernel
theorem d_jdk_52_method_4_30 : decode jdk_52_method_4_code 30 = .ok (.ishl, 1) := by decide +kernel
theorem d_jdk_52_method_4_31 : decode jdk_52_method_4_code 31 = .ok (.istore_n 1, 1) := by decide +kernel
theorem d_jdk_52_method_4_32 : decode jdk_52_method_4_code 32 = .ok (.aload_n 0, 1) := by decide +kernel
theorem d_jdk_52_method_4_33 : decode jdk_52_method_4_code 33 = .ok (.iload_n 1, 1) := by decide +kernel
theorem d_jdk_52_method_4_34 : decode jdk_52_method_4_code 34 = .ok (.iinc 1 1, 3) := by decide +kernel
theorem d_jdk_52_method_4_37 : decode jdk_52_method_4_code 37 = .ok (.iload_n 2, 1) := by decide +kernel
theorem d_jdk_52_method_4_38 : decode jdk_52_method_4_code 38 = .ok (.getstatic 59, 3) := by decide +kernel
theorem d_jdk_52_method_4_41 : decode jdk_52_method_4_code 41 = .ok (.ishr, 1) := by decide +kernel
theorem d_jdk_52_method_4_42 : decode jdk_52_method_4_code 42 = .ok (.i2b, 1) := by decide +kernel
theorem d_jdk_52_method_4_43 : decode jdk_52_method_4_code 43 = .ok (.bastore, 1) := by decide +kernel
theorem d_jdk_52_method_4_44 : decode jdk_52_method_4_code 44 = .ok (.aload_n 0, 1) := by decide +kernel
theorem d_jdk_52_method_4_45 : decode jdk_52_method_4_code 45 = .ok (.iload_n 1, 1) := by decide +kernel
theorem d_jdk_52_method_4_46 : decode jdk_52_method_4_code 46 = .ok (.iload_n 2, 1) := by decide +kernel
theorem d_jdk_52_method_4_47 : decode jdk_52_method_4_code 47 = .ok (.getstatic 63, 3) := by decide +kernel
theorem d_jdk_52_method_4_50 : decode jdk_52_method_4_code 50 = .ok (.ishr, 1) := by decide +kernel
theorem d_jdk_52_method_4_51 : decode jdk_52_method_4_code 51 = .ok (.i2b, 1) := by decide +kernel
theorem d_jdk_52_method_4_52 : decode jdk_52_method_4_code 52 = .ok (.bastore, 1) := by decide +kernel
theorem d_jdk_52_method_4_53 : decode jdk_52_method_4_code 53 = .ok (.return_, 1) := by decide +kernel
def Q_putc (Z : State) (a1 : Nat) (p2 : Int32) (p3 : Int32) (i : Nat) (k : ClassId) (n : Int32) (vs : List Value) (d : Value) (h0 : Heap) (v : Option Value) (h : Heap) (L : List Loc) : Prop := v = none ∧ Fr Z.heap.size L ∧ Keep h0 h [a1] ∧ Arv Z h a1 k .byte n ((vs.set (2 * i) (.int (StrChars.lo8 p3))).set (2 * i + 1) (.int (StrChars.hi8 p3))) d
set_option maxRecDepth 65536 in
set_option maxHeartbeats 40000000 in
theorem rm_putc (l : Launch) (Z : State) (a0 : Array Value) (hw : ∀ d ∈ tables_1, d.before a0 Z = true) (ws : List Jvm.Cond) (a1 : Nat) (p2 : Int32) (p3 : Int32) (i : Nat) (k : ClassId) (n : Int32) (vs : List Value) (d : Value) (h0 : Heap) (OL : Old Z Z.heap.size h0) (p0_ : Arv Z h0 a1 k .byte n vs d) (st__assertionsDisabled : Sta Z Z.heap "java/lang/StringUTF16" "$assertionsDisabled" "Z" (.int (1 : Int32))) (st_HI_BYTE_SHIFT : Sta Z Z.heap "java/lang/StringUTF16" "HI_BYTE_SHIFT" "I" (.int (0 : Int32))) (st_LO_BYTE_SHIFT : Sta Z Z.heap "java/lang/StringUTF16" "LO_BYTE_SHIFT" "I" (.int (8 : Int32))) (hp2 : p2 = Int32.ofNat i) (hin : 2 * i + 1 < vs.length) (hvl : n = Int32.ofNat vs.length) (hvs : vs.length ≤ 8000) (hn0 : Z.heap.size ≤ a1) :
    MetFree l (⟨"java/lang/StringUTF16", "putChar", "([BII)V"⟩ : MethodName) (head1 (Jvm.Cond.code (⟨"java/lang/StringUTF16", "putChar", "([BII)V"⟩ : MethodName) jdk_52_method_4_code 3 none :: ws) ({ frames := 0, cells := 0, slots := 0, locals := 0 } : Room)) (fun a U => a = #[(.ref a1), (.int p2), (.int p3)] ∧ Z.Warmed39 U.vm ∧ U.heap = h0) (fun _ _ _ _ _ => True) (fun _ U o U' => ∃ v L, o = .returned v ∧ Q_putc Z a1 p2 p3 i k n vs d h0 v U'.heap L ∧ FrameEnd U o U' L ({ frames := 0, cells := 0, slots := 0, locals := 0 } : Room).cells ({ frames := 0, cells := 0, slots := 0, locals := 0 } : Room).slots) := by
  refine MetFree.of_bodySF (plainFor_of_name pn_25) hisR ?_
  intro p e s m args below meth c s₁ Bd hml0 hP hK
  obtain ⟨rfl, hZ, hh⟩ := hP
  have hx := Bd.exec
  have hby := Bd.bytes
  have hml : c.maxLocals = 3 := hml0
  have hown : s.vm.findClass "java/lang/StringUTF16" = some m.cls := findClass_of_methodNamed Bd.named
  have hnm := (name_of_methodNamed Bd.named Bd.method).1
  have X0 : Stand p l e ({ frames := 0, cells := 0, slots := 0, locals := 0 } : Room) s m #[(.ref a1), (.int p2), (.int p3)] below meth c s₁ [] 0 0 := Stand.of_body Bd
  have e0 : s₁.heap = h0 := by rw [← hh, Bd.state]; rfl
  have N0 := Fr.nil Z.heap.size
  have Z0 : Z.heap.size ≤ h0.size := OL.2.1
  have lt_0 : @LT.lt Nat _ a1 h0.size := p0_.lt
  obtain ⟨PP, hPP⟩ : ∃ PP : Outcome → State → Prop, PP = (fun o tE => ∃ v L, o = .returned v ∧ Q_putc Z a1 p2 p3 i k n vs d h0 v tE.heap L ∧ FrameEnd s o tE L ({ frames := 0, cells := 0, slots := 0, locals := 0 } : Room).cells ({ frames := 0, cells := 0, slots := 0, locals := 0 } : Room).slots) := ⟨_, rfl⟩
  show own_Go p.tables e below (fun o tE => ∃ v L, o = .returned v ∧ Q_putc Z a1 p2 p3 i k n vs d h0 v tE.heap L ∧ FrameEnd s o tE L ({ frames := 0, cells := 0, slots := 0, locals := 0 } : Room).cells ({ frames := 0, cells := 0, slots := 0, locals := 0 } : Room).slots) (s₁.setTop (entryFrame m #[(.ref a1), (.int p2), (.int p3)] 3))
  rw [← hPP]
  refine own_Go.st (fun t k => castTop (ef_50 m a1 p2 p3) k) ?_
  subst hp2
  show own_Go _ _ _ _ (s₁.setTop (mkF m 0 #[.val (.ref a1), .val (.int (Int32.ofNat i)), .val (.int p3)] []))
  obtain ⟨T148, X148, e148, st148⟩ := getS2 X0 hx hZ hown (host := "") (Or.inl (hw _ (List.mem_of_getElem? (i := 89) rfl))) Via.refl e0 (st__assertionsDisabled.ext OL.2) (g := (mkF m 0 #[.val (.ref a1), .val (.int (Int32.ofNat i)), .val (.int p3)] [])) rfl (hb hby d_jdk_52_method_4_0)
  refine own_Go.st st148 ?_
  show own_Go _ _ _ _ (T148.setTop (mkF m 3 #[.val (.ref a1), .val (.int (Int32.ofNat i)), .val (.int p3)] [(.int (1 : Int32))]))
  refine own_Go.st (fun _ k => XS.ifYes X148.here hx rfl (pc0 := 3) (pc' := 28) rfl (hb hby d_jdk_52_method_4_3) rfl ((if0 _ _).trans (feq (by decide : ¬ ((1 : Int32) = (0 : Int32)))).2) (by decide) (by decide) k) ?_
  show own_Go _ _ _ _ (T148.setTop (mkF m 28 #[.val (.ref a1), .val (.int (Int32.ofNat i)), .val (.int p3)] []))
  refine own_Go.st (fun _ k => XS.iloadN X148.here hx rfl (hb hby d_jdk_52_method_4_28) rfl k) ?_
  show own_Go _ _ _ _ (T148.setTop (mkF m 29 #[.val (.ref a1), .val (.int (Int32.ofNat i)), .val (.int p3)] [(.int (Int32.ofNat i))]))
  refine own_Go.st (fun _ k => XS.iconst X148.here hx rfl (hb hby d_jdk_52_method_4_29) k) ?_
  show own_Go _ _ _ _ (T148.setTop (mkF m 30 #[.val (.ref a1), .val (.int (Int32.ofNat i)), .val (.int p3)] [(.int (1 : Int32)), (.int (Int32.ofNat i))]))
  refine own_Go.st (fun _ k => XS.ishl X148.here hx rfl (hb hby d_jdk_52_method_4_30) rfl k) ?_
  show own_Go _ _ _ _ (T148.setTop (mkF m 31 #[.val (.ref a1), .val (.int (Int32.ofNat i)), .val (.int p3)] [(.int ((Int32.ofNat i) <<< ((1 : Int32) &&& 31)))]))
  refine own_Go.st (fun _ k => XS.istoreN X148.here hx rfl (hb hby d_jdk_52_method_4_31) rfl (l' := #[.val (.ref a1), .val (.int ((Int32.ofNat i) <<< ((1 : Int32) &&& 31))), .val (.int p3)]) rfl k) ?_
  show own_Go _ _ _ _ (T148.setTop (mkF m 32 #[.val (.ref a1), .val (.int ((Int32.ofNat i) <<< ((1 : Int32) &&& 31))), .val (.int p3)] []))
  rw [own_shl1 (by omega : i < 1000000)]
  show own_Go _ _ _ _ (T148.setTop (mkF m 32 #[.val (.ref a1), .val (.int (Int32.ofNat (2 * i))), .val (.int p3)] []))
  refine own_Go.st (fun _ k => XS.aloadN X148.here hx rfl (hb hby d_jdk_52_method_4_32) rfl rfl k) ?_
  show own_Go _ _ _ _ (T148.setTop (mkF m 33 #[.val (.ref a1), .val (.int (Int32.ofNat (2 * i))), .val (.int p3)] [(.ref a1)]))
  refine own_Go.st (fun _ k => XS.iloadN X148.here hx rfl (hb hby d_jdk_52_method_4_33) rfl k) ?_
  show own_Go _ _ _ _ (T148.setTop (mkF m 34 #[.val (.ref a1), .val (.int (Int32.ofNat (2 * i))), .val (.int p3)] [(.int (Int32.ofNat (2 * i))), (.ref a1)]))
  refine own_Go.st (fun _ k => XS.iinc X148.here hx rfl (hb hby d_jdk_52_method_4_34) rfl (l' := #[.val (.ref a1), .val (.int ((Int32.ofNat (2 * i)) + (1 : Int32))), .val (.int p3)]) rfl k) ?_
  show own_Go _ _ _ _ (T148.setTop (mkF m 37 #[.val (.ref a1), .val (.int ((Int32.ofNat (2 * i)) + (1 : Int32))), .val (.int p3)] [(.int (Int32.ofNat (2 * i))), (.ref a1)]))
  rw [own_ofS (by omega : 2 * i < 1073741823)]
  show own_Go _ _ _ _ (T148.setTop (mkF m 37 #[.val (.ref a1), .val (.int (Int32.ofNat (2 * i + 1))), .val (.int p3)] [(.int (Int32.ofNat (2 * i))), (.ref a1)]))
  refine own_Go.st (fun _ k => XS.iloadN X148.here hx rfl (hb hby d_jdk_52_method_4_37) rfl k) ?_
  show own_Go _ _ _ _ (T148.setTop (mkF m 38 #[.val (.ref a1), .val (.int (Int32.ofNat (2 * i + 1))), .val (.int p3)] [(.int p3), (.int (Int32.ofNat (2 * i))), (.ref a1)]))
  obtain ⟨T149, X149, e149, st149⟩ := getS2 X148 hx hZ hown (host := "") (Or.inl (hw _ (List.mem_of_getElem? (i := 90) rfl))) Via.refl e148 (st_HI_BYTE_SHIFT.ext OL.2) (g := (mkF m 38 #[.val (.ref a1), .val (.int (Int32.ofNat (2 * i + 1))), .val (.int p3)] [(.int p3), (.int (Int32.ofNat (2 * i))), (.ref a1)])) rfl (hb hby d_jdk_52_method_4_38)
  refine own_Go.st st149 ?_
  show own_Go _ _ _ _ (T149.setTop (mkF m 41 #[.val (.ref a1), .val (.int (Int32.ofNat (2 * i + 1))), .val (.int p3)] [(.int (0 : Int32)), (.int p3), (.int (Int32.ofNat (2 * i))), (.ref a1)]))
  refine own_Go.st (fun _ k => XS.ishr X149.here hx rfl (hb hby d_jdk_52_method_4_41) rfl k) ?_
  show own_Go _ _ _ _ (T149.setTop (mkF m 42 #[.val (.ref a1), .val (.int (Int32.ofNat (2 * i + 1))), .val (.int p3)] [(.int (p3 >>> ((0 : Int32) &&& 31))), (.int (Int32.ofNat (2 * i))), (.ref a1)]))
  refine own_Go.st (fun _ k => XS.i2b X149.here hx rfl (hb hby d_jdk_52_method_4_42) rfl k) ?_
  show own_Go _ _ _ _ (T149.setTop (mkF m 43 #[.val (.ref a1), .val (.int (Int32.ofNat (2 * i + 1))), .val (.int p3)] [(.int ((p3 >>> ((0 : Int32) &&& 31)).toInt8.toInt32)), (.int (Int32.ofNat (2 * i))), (.ref a1)]))
  obtain ⟨c150, Ar150, q150, S150, Nn150, H150, G150⟩ := id p0_
  have hin150 : ¬ ((Int32.ofNat (2 * i)) < 0 ∨ c150.slots.size ≤ ((Int32.ofNat (2 * i))).toNatClampNeg) := inb_of S150 ⟨own_of0 (by omega), by rw [hvl]; exact (own_oflt (by omega) (by omega)).mpr (by omega)⟩
  obtain ⟨T150, h150, X150, e150, W150, st150⟩ := stB X149 hx hZ e149 Ar150 (j := (Int32.ofNat (2 * i))) hin150 (g := (mkF m 43 #[.val (.ref a1), .val (.int (Int32.ofNat (2 * i + 1))), .val (.int p3)] [(.int ((p3 >>> ((0 : Int32) &&& 31)).toInt8.toInt32)), (.int (Int32.ofNat (2 * i))), (.ref a1)])) rfl rfl (hb hby d_jdk_52_method_4_43)
  refine own_Go.st st150 ?_
  have N150 := Fr.snoc X150 N0 (by omega)
  have z150 : h0.size ≤ h150.size := Nat.le_of_eq W150.size.symm
  have f152 := Arv.set Ar150 q150 S150 Nn150 H150 G150 (fits_nar_byte _) W150 (2 * i) (own_ofn (by omega)) (by (try simp only [List.length_set]); omega)
  rw [own_i2b2, StrChars.shr0] at f152
  have f153 : Arv Z h150 a1 k .byte n (vs.set (2 * i) (.int (StrChars.lo8 p3))) d := f152
  show own_Go _ _ _ _ (T150.setTop (mkF m 44 #[.val (.ref a1), .val (.int (Int32.ofNat (2 * i + 1))), .val (.int p3)] []))
  refine own_Go.st (fun _ k => XS.aloadN X150.here hx rfl (hb hby d_jdk_52_method_4_44) rfl rfl k) ?_
  show own_Go _ _ _ _ (T150.setTop (mkF m 45 #[.val (.ref a1), .val (.int (Int32.ofNat (2 * i + 1))), .val (.int p3)] [(.ref a1)]))
  refine own_Go.st (fun _ k => XS.iloadN X150.here hx rfl (hb hby d_jdk_52_method_4_45) rfl k) ?_
  show own_Go _ _ _ _ (T150.setTop (mkF m 46 #[.val (.ref a1), .val (.int (Int32.ofNat (2 * i + 1))), .val (.int p3)] [(.int (Int32.ofNat (2 * i + 1))), (.ref a1)]))
  refine own_Go.st (fun _ k => XS.iloadN X150.here hx rfl (hb hby d_jdk_52_method_4_46) rfl k) ?_
  show own_Go _ _ _ _ (T150.setTop (mkF m 47 #[.val (.ref a1), .val (.int (Int32.ofNat (2 * i + 1))), .val (.int p3)] [(.int p3), (.int (Int32.ofNat (2 * i + 1))), (.ref a1)]))
  have f154 : Old Z Z.heap.size h150 := OL.wr W150 (by omega)
  obtain ⟨T155, X155, e155, st155⟩ := getS2 X150 hx hZ hown (host := "") (Or.inl (hw _ (List.mem_of_getElem? (i := 91) rfl))) Via.refl e150 (st_LO_BYTE_SHIFT.ext f154.2) (g := (mkF m 47 #[.val (.ref a1), .val (.int (Int32.ofNat (2 * i + 1))), .val (.int p3)] [(.int p3), (.int (Int32.ofNat (2 * i + 1))), (.ref a1)])) rfl (hb hby d_jdk_52_method_4_47)
  refine own_Go.st st155 ?_
  show own_Go _ _ _ _ (T155.setTop (mkF m 50 #[.val (.ref a1), .val (.int (Int32.ofNat (2 * i + 1))), .val (.int p3)] [(.int (8 : Int32)), (.int p3), (.int (Int32.ofNat (2 * i + 1))), (.ref a1)]))
  refine own_Go.st (fun _ k => XS.ishr X155.here hx rfl (hb hby d_jdk_52_method_4_50) rfl k) ?_
  show own_Go _ _ _ _ (T155.setTop (mkF m 51 #[.val (.ref a1), .val (.int (Int32.ofNat (2 * i + 1))), .val (.int p3)] [(.int (p3 >>> ((8 : Int32) &&& 31))), (.int (Int32.ofNat (2 * i + 1))), (.ref a1)]))
  refine own_Go.st (fun _ k => XS.i2b X155.here hx rfl (hb hby d_jdk_52_method_4_51) rfl k) ?_
  show own_Go _ _ _ _ (T155.setTop (mkF m 52 #[.val (.ref a1), .val (.int (Int32.ofNat (2 * i + 1))), .val (.int p3)] [(.int ((p3 >>> ((8 : Int32) &&& 31)).toInt8.toInt32)), (.int (Int32.ofNat (2 * i + 1))), (.ref a1)]))
  obtain ⟨c156, Ar156, q156, S156, Nn156, H156, G156⟩ := id f153
  have hin156 : ¬ ((Int32.ofNat (2 * i + 1)) < 0 ∨ c156.slots.size ≤ ((Int32.ofNat (2 * i + 1))).toNatClampNeg) := inb_of S156 ⟨own_of0 (by omega), by rw [hvl]; exact (own_oflt (by omega) (by omega)).mpr (by omega)⟩
  obtain ⟨T156, h156, X156, e156, W156, st156⟩ := stB X155 hx hZ e155 Ar156 (j := (Int32.ofNat (2 * i + 1))) hin156 (g := (mkF m 52 #[.val (.ref a1), .val (.int (Int32.ofNat (2 * i + 1))), .val (.int p3)] [(.int ((p3 >>> ((8 : Int32) &&& 31)).toInt8.toInt32)), (.int (Int32.ofNat (2 * i + 1))), (.ref a1)])) rfl rfl (hb hby d_jdk_52_method_4_52)
  refine own_Go.st st156 ?_
  have N156 := Fr.snoc X156 N150 (by omega)
  have z156 : h150.size ≤ h156.size := Nat.le_of_eq W156.size.symm
  have f158 := Arv.set Ar156 q156 S156 Nn156 H156 G156 (fits_nar_byte _) W156 (2 * i + 1) (own_ofn (by omega)) (by (try simp only [List.length_set]); omega)
  rw [own_i2b2] at f158
  have f159 : Arv Z h156 a1 k .byte n ((vs.set (2 * i) (.int (StrChars.lo8 p3))).set (2 * i + 1) (.int (StrChars.hi8 p3))) d := f158
  show own_Go _ _ _ _ (T156.setTop (mkF m 53 #[.val (.ref a1), .val (.int (Int32.ofNat (2 * i + 1))), .val (.int p3)] []))
  obtain ⟨fs160, hr160, hrun160, hend160, hW160, hsm160⟩ := X156.leave (v := none) (fun _ => rfl)
  have K161 : Keep h0 h150 [a1] := (Keep.refl h0 [a1]).wr W150 (Or.inl (List.mem_of_getElem? (i := 0) rfl))
  have K162 : Keep h0 h156 [a1] := K161.wr W156 (Or.inl (List.mem_of_getElem? (i := 0) rfl))
  subst hPP
  refine ⟨_, _, X156.returnOut hx Bd.returns (hb hby d_jdk_52_method_4_53) hr160, hrun160, hend160, _, _, rfl, ?_, ⟨_, rfl⟩, hW160, hsm160.mono (by decide) (by decide)⟩
  · show Q_putc Z _ _ _ _ _ _ _ _ h0 _ T156.heap _
    rw [e156]
    exact ⟨rfl, N156, K162, f159⟩
theorem ef_73 (m : MethodId) (x0 : Nat) (x1 : Int32) : entryFrame m #[(.ref x0), (.int x1)] 2 = mkF m 0 #[.val (.ref x0), .val (.int x1)] [] := by first | (simp [entryFrame, mkF, argsToLocals, Value.category]; done) | rfl
theorem d_jdk_52_method_5_0 : decode jdk_52_method_5_code 0 = .ok (.getstatic 44, 3) := by decide +kernel
theorem d_jdk_52_method_5_3 : decode jdk_52_method_5_code 3 = .ok (.ifCond .ne 25, 3) := by decide +kernel
theorem d_jdk_52_method_5_28 : decode jdk_52_method_5_code 28 = .ok (.iload_n 1, 1) := by decide +kernel
theorem d_jdk_52_method_5_29 : decode jdk_52_method_5_code 29 = .ok (.iconst 1, 1) := by decide +kernel
theorem d_jdk_52_method_5_30 : decode jdk_52_method_5_code 30 = .ok (.ishl, 1) := by decide +kernel
theorem d_jdk_52_method_5_31 : decode jdk_52_method_5_code 31 = .ok (.istore_n 1, 1) := by decide +kernel
theorem d_jdk_52_method_5_32 : decode jdk_52_method_5_code 32 = .ok (.aload_n 0, 1) := by decide +kernel
theorem d_jdk_52_method_5_33 : decode jdk_52_method_5_code 33 = .ok (.iload_n 1, 1) := by decide +kernel
theorem d_jdk_52_method_5_34 : decode jdk_52_method_5_code 34 = .ok (.iinc 1 1, 3) := by decide +kernel
theorem d_jdk_52_method_5_37 : decode jdk_52_method_5_code 37 = .ok (.baload, 1) := by decide +kernel
theorem d_jdk_52_method_5_38 : decode jdk_52_method_5_code 38 = .ok (.sipush 255, 3) := by decide +kernel
theorem d_jdk_52_method_5_41 : decode jdk_52_method_5_code 41 = .ok (.iand, 1) := by decide +kernel
theorem d_jdk_52_method_5_42 : decode jdk_52_method_5_code 42 = .ok (.getstatic 59, 3) := by decide +kernel
theorem d_jdk_52_method_5_45 : decode jdk_52_method_5_code 45 = .ok (.ishl, 1) := by decide +kernel
theorem d_jdk_52_method_5_46 : decode jdk_52_method_5_code 46 = .ok (.aload_n 0, 1) := by decide +kernel
theorem d_jdk_52_method_5_47 : decode jdk_52_method_5_code 47 = .ok (.iload_n 1, 1) := by decide +kernel
theorem d_jdk_52_method_5_48 : decode jdk_52_method_5_code 48 = .ok (.baload, 1) := by decide +kernel
theorem d_jdk_52_method_5_49 : decode jdk_52_method_5_code 49 = .ok (.sipush 255, 3) := by decide +kernel
theorem d_jdk_52_method_5_52 : decode jdk_52_method_5_code 52 = .ok (.iand, 1) := by decide +kernel
theorem d_jdk_52_method_5_53 : decode jdk_52_method_5_code 53 = .ok (.getstatic 63, 3) := by decide +kernel
theorem d_jdk_52_method_5_56 : decode jdk_52_method_5_code 56 = .ok (.ishl, 1) := by decide +kernel
theorem d_jdk_52_method_5_57 : decode jdk_52_method_5_code 57 = .ok (.ior, 1) := by decide +kernel
theorem d_jdk_52_method_5_58 : decode jdk_52_method_5_code 58 = .ok (.i2c, 1) := by decide +kernel
theorem d_jdk_52_method_5_59 : decode jdk_52_method_5_code 59 = .ok (.ireturn, 1) := by decide +kernel
def Q_getc (Z : State) (a1 : Nat) (p2 : Int32) (i : Nat) (k : ClassId) (n : Int32) (vs : List Value) (d : Value) (ch : Int32) (h0 : Heap) (v : Option Value) (h : Heap) (L : List Loc) : Prop := v = some (.int ch) ∧ Fr Z.heap.size L ∧ h = h0
set_option maxRecDepth 65536 in
set_option maxHeartbeats 40000000 in
theorem rm_getc (l : Launch) (Z : State) (a0 : Array Value) (hw : ∀ d ∈ tables_1, d.before a0 Z = true) (ws : List Jvm.Cond) (a1 : Nat) (p2 : Int32) (i : Nat) (k : ClassId) (n : Int32) (vs : List Value) (d : Value) (ch : Int32) (h0 : Heap) (OL : Old Z Z.heap.size h0) (p0_ : Arv Z h0 a1 k .byte n vs d) (st__assertionsDisabled : Sta Z Z.heap "java/lang/StringUTF16" "$assertionsDisabled" "Z" (.int (1 : Int32))) (st_HI_BYTE_SHIFT : Sta Z Z.heap "java/lang/StringUTF16" "HI_BYTE_SHIFT" "I" (.int (0 : Int32))) (st_LO_BYTE_SHIFT : Sta Z Z.heap "java/lang/StringUTF16" "LO_BYTE_SHIFT" "I" (.int (8 : Int32))) (hp2 : p2 = Int32.ofNat i) (hin : 2 * i + 1 < vs.length) (hvl : n = Int32.ofNat vs.length) (hvs : vs.length ≤ 8000) (hlo : vs.getD (2 * i) d = .int (StrChars.lo8 ch)) (hhi : vs.getD (2 * i + 1) d = .int (StrChars.hi8 ch)) (hch : ¬ ch < 0 ∧ ¬ (65535 : Int32) < ch) :
    MetFree l (⟨"java/lang/StringUTF16", "getChar", "([BI)C"⟩ : MethodName) (head1 (Jvm.Cond.code (⟨"java/lang/StringUTF16", "getChar", "([BI)C"⟩ : MethodName) jdk_52_method_5_code 2 (some .char) :: ws) ({ frames := 0, cells := 0, slots := 0, locals := 0 } : Room)) (fun a U => a = #[(.ref a1), (.int p2)] ∧ Z.Warmed39 U.vm ∧ U.heap = h0) (fun _ _ _ _ _ => True) (fun _ U o U' => ∃ v L, o = .returned v ∧ Q_getc Z a1 p2 i k n vs d ch h0 v U'.heap L ∧ FrameEnd U o U' L ({ frames := 0, cells := 0, slots := 0, locals := 0 } : Room).cells ({ frames := 0, cells := 0, slots := 0, locals := 0 } : Room).slots) := by
  refine MetFree.of_bodySF (plainFor_of_name pn_25) hisR ?_
  intro p e s m args below meth c s₁ Bd hml0 hP hK
  obtain ⟨rfl, hZ, hh⟩ := hP
  have hx := Bd.exec
  have hby := Bd.bytes
  have hml : c.maxLocals = 2 := hml0
  have hown : s.vm.findClass "java/lang/StringUTF16" = some m.cls := findClass_of_methodNamed Bd.named
  have hnm := (name_of_methodNamed Bd.named Bd.method).1
  have X0 : Stand p l e ({ frames := 0, cells := 0, slots := 0, locals := 0 } : Room) s m #[(.ref a1), (.int p2)] below meth c s₁ [] 0 0 := Stand.of_body Bd
  have e0 : s₁.heap = h0 := by rw [← hh, Bd.state]; rfl
  have N0 := Fr.nil Z.heap.size
  have Z0 : Z.heap.size ≤ h0.size := OL.2.1
  have lt_0 : @LT.lt Nat _ a1 h0.size := p0_.lt
  obtain ⟨PP, hPP⟩ : ∃ PP : Outcome → State → Prop, PP = (fun o tE => ∃ v L, o = .returned v ∧ Q_getc Z a1 p2 i k n vs d ch h0 v tE.heap L ∧ FrameEnd s o tE L ({ frames := 0, cells := 0, slots := 0, locals := 0 } : Room).cells ({ frames := 0, cells := 0, slots := 0, locals := 0 } : Room).slots) := ⟨_, rfl⟩
  show own_Go p.tables e below (fun o tE => ∃ v L, o = .returned v ∧ Q_getc Z a1 p2 i k n vs d ch h0 v tE.heap L ∧ FrameEnd s o tE L ({ frames := 0, cells := 0, slots := 0, locals := 0 } : Room).cells ({ frames := 0, cells := 0, slots := 0, locals := 0 } : Room).slots) (s₁.setTop (entryFrame m #[(.ref a1), (.int p2)] 2))
  rw [← hPP]
  refine own_Go.st (fun t k => castTop (ef_73 m a1 p2) k) ?_
  subst hp2
  show own_Go _ _ _ _ (s₁.setTop (mkF m 0 #[.val (.ref a1), .val (.int (Int32.ofNat i))] []))
  obtain ⟨T163, X163, e163, st163⟩ := getS2 X0 hx hZ hown (host := "") (Or.inl (hw _ (List.mem_of_getElem? (i := 89) rfl))) Via.refl e0 (st__assertionsDisabled.ext OL.2) (g := (mkF m 0 #[.val (.ref a1), .val (.int (Int32.ofNat i))] [])) rfl (hb hby d_jdk_52_method_5_0)
  refine own_Go.st st163 ?_
  show own_Go _ _ _ _ (T163.setTop (mkF m 3 #[.val (.ref a1), .val (.int (Int32.ofNat i))] [(.int (1 : Int32))]))
  refine own_Go.st (fun _ k => XS.ifYes X163.here hx rfl (pc0 := 3) (pc' := 28) rfl (hb hby d_jdk_52_method_5_3) rfl ((if0 _ _).trans (feq (by decide : ¬ ((1 : Int32) = (0 : Int32)))).2) (by decide) (by decide) k) ?_
  show own_Go _ _ _ _ (T163.setTop (mkF m 28 #[.val (.ref a1), .val (.int (Int32.ofNat i))] []))
  refine own_Go.st (fun _ k => XS.iloadN X163.here hx rfl (hb hby d_jdk_52_method_5_28) rfl k) ?_
  show own_Go _ _ _ _ (T163.setTop (mkF m 29 #[.val (.ref a1), .val (.int (Int32.ofNat i))] [(.int (Int32.ofNat i))]))
  refine own_Go.st (fun _ k => XS.iconst X163.here hx rfl (hb hby d_jdk_52_method_5_29) k) ?_
  show own_Go _ _ _ _ (T163.setTop (mkF m 30 #[.val (.ref a1), .val (.int (Int32.ofNat i))] [(.int (1 : Int32)), (.int (Int32.ofNat i))]))
  refine own_Go.st (fun _ k => XS.ishl X163.here hx rfl (hb hby d_jdk_52_method_5_30) rfl k) ?_
  show own_Go _ _ _ _ (T163.setTop (mkF m 31 #[.val (.ref a1), .val (.int (Int32.ofNat i))] [(.int ((Int32.ofNat i) <<< ((1 : Int32) &&& 31)))]))
  refine own_Go.st (fun _ k => XS.istoreN X163.here hx rfl (hb hby d_jdk_52_method_5_31) rfl (l' := #[.val (.ref a1), .val (.int ((Int32.ofNat i) <<< ((1 : Int32) &&& 31)))]) rfl k) ?_
  show own_Go _ _ _ _ (T163.setTop (mkF m 32 #[.val (.ref a1), .val (.int ((Int32.ofNat i) <<< ((1 : Int32) &&& 31)))] []))
  rw [own_shl1 (by omega : i < 1000000)]
  show own_Go _ _ _ _ (T163.setTop (mkF m 32 #[.val (.ref a1), .val (.int (Int32.ofNat (2 * i)))] []))
  refine own_Go.st (fun _ k => XS.aloadN X163.here hx rfl (hb hby d_jdk_52_method_5_32) rfl rfl k) ?_
  show own_Go _ _ _ _ (T163.setTop (mkF m 33 #[.val (.ref a1), .val (.int (Int32.ofNat (2 * i)))] [(.ref a1)]))
  refine own_Go.st (fun _ k => XS.iloadN X163.here hx rfl (hb hby d_jdk_52_method_5_33) rfl k) ?_
  show own_Go _ _ _ _ (T163.setTop (mkF m 34 #[.val (.ref a1), .val (.int (Int32.ofNat (2 * i)))] [(.int (Int32.ofNat (2 * i))), (.ref a1)]))
  refine own_Go.st (fun _ k => XS.iinc X163.here hx rfl (hb hby d_jdk_52_method_5_34) rfl (l' := #[.val (.ref a1), .val (.int ((Int32.ofNat (2 * i)) + (1 : Int32)))]) rfl k) ?_
  show own_Go _ _ _ _ (T163.setTop (mkF m 37 #[.val (.ref a1), .val (.int ((Int32.ofNat (2 * i)) + (1 : Int32)))] [(.int (Int32.ofNat (2 * i))), (.ref a1)]))
  rw [own_ofS (by omega : 2 * i < 1073741823)]
  show own_Go _ _ _ _ (T163.setTop (mkF m 37 #[.val (.ref a1), .val (.int (Int32.ofNat (2 * i + 1)))] [(.int (Int32.ofNat (2 * i))), (.ref a1)]))
  obtain ⟨c164, Ar164, q164, S164, Nn164, H164, G164⟩ := id p0_
  have hin164 : ¬ ((Int32.ofNat (2 * i)) < 0 ∨ c164.slots.size ≤ ((Int32.ofNat (2 * i))).toNatClampNeg) := inb_of S164 ⟨own_of0 (by omega), by rw [hvl]; exact (own_oflt (by omega) (by omega)).mpr (by omega)⟩
  have hat164 : c164.slots[((Int32.ofNat (2 * i))).toNatClampNeg]? = some (.int (StrChars.lo8 ch)) := H164.at hin164 (by rw [own_ofn (by omega)]; exact hlo)
  refine own_Go.st (X163.baloadBytes hx (j := (Int32.ofNat (2 * i))) (v := (.int (StrChars.lo8 ch))) (by rw [e163]; exact Ar164.1) (State.isArrayOf_alike hZ.alike Ar164.2.1) Ar164.2.2 hin164 hat164 (g := (mkF m 37 #[.val (.ref a1), .val (.int (Int32.ofNat (2 * i + 1)))] [(.int (Int32.ofNat (2 * i))), (.ref a1)])) rfl rfl (hb hby d_jdk_52_method_5_37)) ?_
  show own_Go _ _ _ _ (T163.setTop (mkF m 38 #[.val (.ref a1), .val (.int (Int32.ofNat (2 * i + 1)))] [(.int (StrChars.lo8 ch))]))
  refine own_Go.st (fun _ k => XS.sipush X163.here hx rfl (hb hby d_jdk_52_method_5_38) k) ?_
  show own_Go _ _ _ _ (T163.setTop (mkF m 41 #[.val (.ref a1), .val (.int (Int32.ofNat (2 * i + 1)))] [(.int (255 : Int32)), (.int (StrChars.lo8 ch))]))
  refine own_Go.st (fun _ k => XS.iand X163.here hx rfl (hb hby d_jdk_52_method_5_41) rfl k) ?_
  show own_Go _ _ _ _ (T163.setTop (mkF m 42 #[.val (.ref a1), .val (.int (Int32.ofNat (2 * i + 1)))] [(.int ((StrChars.lo8 ch) &&& (255 : Int32)))]))
  obtain ⟨T165, X165, e165, st165⟩ := getS2 X163 hx hZ hown (host := "") (Or.inl (hw _ (List.mem_of_getElem? (i := 90) rfl))) Via.refl e163 (st_HI_BYTE_SHIFT.ext OL.2) (g := (mkF m 42 #[.val (.ref a1), .val (.int (Int32.ofNat (2 * i + 1)))] [(.int ((StrChars.lo8 ch) &&& (255 : Int32)))])) rfl (hb hby d_jdk_52_method_5_42)
  refine own_Go.st st165 ?_
  show own_Go _ _ _ _ (T165.setTop (mkF m 45 #[.val (.ref a1), .val (.int (Int32.ofNat (2 * i + 1)))] [(.int (0 : Int32)), (.int ((StrChars.lo8 ch) &&& (255 : Int32)))]))
  refine own_Go.st (fun _ k => XS.ishl X165.here hx rfl (hb hby d_jdk_52_method_5_45) rfl k) ?_
  show own_Go _ _ _ _ (T165.setTop (mkF m 46 #[.val (.ref a1), .val (.int (Int32.ofNat (2 * i + 1)))] [(.int (((StrChars.lo8 ch) &&& (255 : Int32)) <<< ((0 : Int32) &&& 31)))]))
  refine own_Go.st (fun _ k => XS.aloadN X165.here hx rfl (hb hby d_jdk_52_method_5_46) rfl rfl k) ?_
  show own_Go _ _ _ _ (T165.setTop (mkF m 47 #[.val (.ref a1), .val (.int (Int32.ofNat (2 * i + 1)))] [(.ref a1), (.int (((StrChars.lo8 ch) &&& (255 : Int32)) <<< ((0 : Int32) &&& 31)))]))
  refine own_Go.st (fun _ k => XS.iloadN X165.here hx rfl (hb hby d_jdk_52_method_5_47) rfl k) ?_
  show own_Go _ _ _ _ (T165.setTop (mkF m 48 #[.val (.ref a1), .val (.int (Int32.ofNat (2 * i + 1)))] [(.int (Int32.ofNat (2 * i + 1))), (.ref a1), (.int (((StrChars.lo8 ch) &&& (255 : Int32)) <<< ((0 : Int32) &&& 31)))]))
  obtain ⟨c166, Ar166, q166, S166, Nn166, H166, G166⟩ := id p0_
  have hin166 : ¬ ((Int32.ofNat (2 * i + 1)) < 0 ∨ c166.slots.size ≤ ((Int32.ofNat (2 * i + 1))).toNatClampNeg) := inb_of S166 ⟨own_of0 (by omega), by rw [hvl]; exact (own_oflt (by omega) (by omega)).mpr (by omega)⟩
  have hat166 : c166.slots[((Int32.ofNat (2 * i + 1))).toNatClampNeg]? = some (.int (StrChars.hi8 ch)) := H166.at hin166 (by rw [own_ofn (by omega)]; exact hhi)
  refine own_Go.st (X165.baloadBytes hx (j := (Int32.ofNat (2 * i + 1))) (v := (.int (StrChars.hi8 ch))) (by rw [e165]; exact Ar166.1) (State.isArrayOf_alike hZ.alike Ar166.2.1) Ar166.2.2 hin166 hat166 (g := (mkF m 48 #[.val (.ref a1), .val (.int (Int32.ofNat (2 * i + 1)))] [(.int (Int32.ofNat (2 * i + 1))), (.ref a1), (.int (((StrChars.lo8 ch) &&& (255 : Int32)) <<< ((0 : Int32) &&& 31)))])) rfl rfl (hb hby d_jdk_52_method_5_48)) ?_
  show own_Go _ _ _ _ (T165.setTop (mkF m 49 #[.val (.ref a1), .val (.int (Int32.ofNat (2 * i + 1)))] [(.int (StrChars.hi8 ch)), (.int (((StrChars.lo8 ch) &&& (255 : Int32)) <<< ((0 : Int32) &&& 31)))]))
  refine own_Go.st (fun _ k => XS.sipush X165.here hx rfl (hb hby d_jdk_52_method_5_49) k) ?_
  show own_Go _ _ _ _ (T165.setTop (mkF m 52 #[.val (.ref a1), .val (.int (Int32.ofNat (2 * i + 1)))] [(.int (255 : Int32)), (.int (StrChars.hi8 ch)), (.int (((StrChars.lo8 ch) &&& (255 : Int32)) <<< ((0 : Int32) &&& 31)))]))
  refine own_Go.st (fun _ k => XS.iand X165.here hx rfl (hb hby d_jdk_52_method_5_52) rfl k) ?_
  show own_Go _ _ _ _ (T165.setTop (mkF m 53 #[.val (.ref a1), .val (.int (Int32.ofNat (2 * i + 1)))] [(.int ((StrChars.hi8 ch) &&& (255 : Int32))), (.int (((StrChars.lo8 ch) &&& (255 : Int32)) <<< ((0 : Int32) &&& 31)))]))
  obtain ⟨T167, X167, e167, st167⟩ := getS2 X165 hx hZ hown (host := "") (Or.inl (hw _ (List.mem_of_getElem? (i := 91) rfl))) Via.refl e165 (st_LO_BYTE_SHIFT.ext OL.2) (g := (mkF m 53 #[.val (.ref a1), .val (.int (Int32.ofNat (2 * i + 1)))] [(.int ((StrChars.hi8 ch) &&& (255 : Int32))), (.int (((StrChars.lo8 ch) &&& (255 : Int32)) <<< ((0 : Int32) &&& 31)))])) rfl (hb hby d_jdk_52_method_5_53)
  refine own_Go.st st167 ?_
  show own_Go _ _ _ _ (T167.setTop (mkF m 56 #[.val (.ref a1), .val (.int (Int32.ofNat (2 * i + 1)))] [(.int (8 : Int32)), (.int ((StrChars.hi8 ch) &&& (255 : Int32))), (.int (((StrChars.lo8 ch) &&& (255 : Int32)) <<< ((0 : Int32) &&& 31)))]))
  refine own_Go.st (fun _ k => XS.ishl X167.here hx rfl (hb hby d_jdk_52_method_5_56) rfl k) ?_
  show own_Go _ _ _ _ (T167.setTop (mkF m 57 #[.val (.ref a1), .val (.int (Int32.ofNat (2 * i + 1)))] [(.int (((StrChars.hi8 ch) &&& (255 : Int32)) <<< ((8 : Int32) &&& 31))), (.int (((StrChars.lo8 ch) &&& (255 : Int32)) <<< ((0 : Int32) &&& 31)))]))
  refine own_Go.st (fun _ k => XS.ior X167.here hx rfl (hb hby d_jdk_52_method_5_57) rfl k) ?_
  show own_Go _ _ _ _ (T167.setTop (mkF m 58 #[.val (.ref a1), .val (.int (Int32.ofNat (2 * i + 1)))] [(.int ((((StrChars.lo8 ch) &&& (255 : Int32)) <<< ((0 : Int32) &&& 31)) ||| (((StrChars.hi8 ch) &&& (255 : Int32)) <<< ((8 : Int32) &&& 31))))]))
  refine own_Go.st (fun _ k => XS.i2c X167.here hx rfl (hb hby d_jdk_52_method_5_58) rfl k) ?_
  show own_Go _ _ _ _ (T167.setTop (mkF m 59 #[.val (.ref a1), .val (.int (Int32.ofNat (2 * i + 1)))] [(.int (((((StrChars.lo8 ch) &&& (255 : Int32)) <<< ((0 : Int32) &&& 31)) ||| (((StrChars.hi8 ch) &&& (255 : Int32)) <<< ((8 : Int32) &&& 31))).toUInt32.toUInt16.toUInt32.toInt32))]))
  obtain ⟨fs168, hr168, hrun168, hend168, hW168, hsm168⟩ := X167.leave (v := some (.int (nar .char (((((StrChars.lo8 ch) &&& (255 : Int32)) <<< ((0 : Int32) &&& 31)) ||| (((StrChars.hi8 ch) &&& (255 : Int32)) <<< ((8 : Int32) &&& 31))).toUInt32.toUInt16.toUInt32.toInt32)))) (fun h => by rw [Bd.returns] at h; cases h)
  subst hPP
  refine ⟨_, _, retN X167 hx (t := .char) Bd.returns (by simp) (hb hby d_jdk_52_method_5_59) hr168, hrun168, hend168, _, _, rfl, ?_, ⟨_, rfl⟩, hW168, hsm168.mono (by decide) (by decide)⟩
  · show Q_getc Z _ _ _ _ _ _ _ _ h0 _ T167.heap _
    rw [e167]
    exact ⟨(by have q := StrChars.pair_says hch.1 hch.2; unfold StrChars.pairCh at q; rw [q, own_nar hch]), N0, rfl⟩
theorem ef_98 (m : MethodId) (x0 : Int32) : entryFrame m #[(.int x0)] 1 = mkF m 0 #[.val (.int x0)] [] := by first | (simp [entryFrame, mkF, argsToLocals, Value.category]; done) | rfl
theorem d_jdk_52_method_3_0 : decode jdk_52_method_3_code 0 = .ok (.iload_n 0, 1) := by decide +kernel
theorem d_jdk_52_method_3_1 : decode jdk_52_method_3_code 1 = .ok (.ifCond .ge 11, 3) := by decide +kernel
theorem d_jdk_52_method_3_12 : decode jdk_52_method_3_code 12 = .ok (.iload_n 0, 1) := by decide +kernel
theorem d_jdk_52_method_3_13 : decode jdk_52_method_3_code 13 = .ok (.ldc 20, 2) := by decide +kernel
theorem d_jdk_52_method_3_15 : decode jdk_52_method_3_code 15 = .ok (.if_icmp .lt 40, 3) := by decide +kernel
theorem d_jdk_52_method_3_55 : decode jdk_52_method_3_code 55 = .ok (.iload_n 0, 1) := by decide +kernel
theorem d_jdk_52_method_3_56 : decode jdk_52_method_3_code 56 = .ok (.iconst 1, 1) := by decide +kernel
theorem d_jdk_52_method_3_57 : decode jdk_52_method_3_code 57 = .ok (.ishl, 1) := by decide +kernel
theorem d_jdk_52_method_3_58 : decode jdk_52_method_3_code 58 = .ok (.ireturn, 1) := by decide +kernel
def Q_nbl (Z : State) (p1 : Int32) (i : Nat) (h0 : Heap) (v : Option Value) (h : Heap) (L : List Loc) : Prop := v = some (.int (Int32.ofNat (2 * i))) ∧ Fr Z.heap.size L ∧ h = h0
set_option maxRecDepth 65536 in
set_option maxHeartbeats 40000000 in
theorem rm_nbl (l : Launch) (Z : State) (a0 : Array Value) (hw : ∀ d ∈ tables_1, d.before a0 Z = true) (ws : List Jvm.Cond) (p1 : Int32) (i : Nat) (h0 : Heap) (OL : Old Z Z.heap.size h0) (hp1 : p1 = Int32.ofNat i) (hle : i ≤ 4000) :
    MetFree l (⟨"java/lang/StringUTF16", "newBytesLength", "(I)I"⟩ : MethodName) (head1 (Jvm.Cond.code (⟨"java/lang/StringUTF16", "newBytesLength", "(I)I"⟩ : MethodName) jdk_52_method_3_code 1 (some .int) :: ws) ({ frames := 0, cells := 0, slots := 0, locals := 0 } : Room)) (fun a U => a = #[(.int p1)] ∧ Z.Warmed39 U.vm ∧ U.heap = h0) (fun _ _ _ _ _ => True) (fun _ U o U' => ∃ v L, o = .returned v ∧ Q_nbl Z p1 i h0 v U'.heap L ∧ FrameEnd U o U' L ({ frames := 0, cells := 0, slots := 0, locals := 0 } : Room).cells ({ frames := 0, cells := 0, slots := 0, locals := 0 } : Room).slots) := by
  refine MetFree.of_bodySF (plainFor_of_name pn_25) hisR ?_
  intro p e s m args below meth c s₁ Bd hml0 hP hK
  obtain ⟨rfl, hZ, hh⟩ := hP
  have hx := Bd.exec
  have hby := Bd.bytes
  have hml : c.maxLocals = 1 := hml0
  have hown : s.vm.findClass "java/lang/StringUTF16" = some m.cls := findClass_of_methodNamed Bd.named
  have hnm := (name_of_methodNamed Bd.named Bd.method).1
  have X0 : Stand p l e ({ frames := 0, cells := 0, slots := 0, locals := 0 } : Room) s m #[(.int p1)] below meth c s₁ [] 0 0 := Stand.of_body Bd
  have e0 : s₁.heap = h0 := by rw [← hh, Bd.state]; rfl
  have N0 := Fr.nil Z.heap.size
  have Z0 : Z.heap.size ≤ h0.size := OL.2.1
  obtain ⟨PP, hPP⟩ : ∃ PP : Outcome → State → Prop, PP = (fun o tE => ∃ v L, o = .returned v ∧ Q_nbl Z p1 i h0 v tE.heap L ∧ FrameEnd s o tE L ({ frames := 0, cells := 0, slots := 0, locals := 0 } : Room).cells ({ frames := 0, cells := 0, slots := 0, locals := 0 } : Room).slots) := ⟨_, rfl⟩
  show own_Go p.tables e below (fun o tE => ∃ v L, o = .returned v ∧ Q_nbl Z p1 i h0 v tE.heap L ∧ FrameEnd s o tE L ({ frames := 0, cells := 0, slots := 0, locals := 0 } : Room).cells ({ frames := 0, cells := 0, slots := 0, locals := 0 } : Room).slots) (s₁.setTop (entryFrame m #[(.int p1)] 1))
  rw [← hPP]
  refine own_Go.st (fun t k => castTop (ef_98 m p1) k) ?_
  subst hp1
  show own_Go _ _ _ _ (s₁.setTop (mkF m 0 #[.val (.int (Int32.ofNat i))] []))
  refine own_Go.st (fun _ k => XS.iloadN X0.here hx rfl (hb hby d_jdk_52_method_3_0) rfl k) ?_
  show own_Go _ _ _ _ (s₁.setTop (mkF m 1 #[.val (.int (Int32.ofNat i))] [(.int (Int32.ofNat i))]))
  have hc169 : ¬ ((Int32.ofNat i) < (0 : Int32)) := own_of0 (by omega)
  refine own_Go.st (fun _ k => XS.ifYes X0.here hx rfl (pc0 := 1) (pc' := 12) rfl (hb hby d_jdk_52_method_3_1) rfl ((if0 _ _).trans (flt hc169).2.1) (by decide) (by decide) k) ?_
  show own_Go _ _ _ _ (s₁.setTop (mkF m 12 #[.val (.int (Int32.ofNat i))] []))
  refine own_Go.st (fun _ k => XS.iloadN X0.here hx rfl (hb hby d_jdk_52_method_3_12) rfl k) ?_
  show own_Go _ _ _ _ (s₁.setTop (mkF m 13 #[.val (.int (Int32.ofNat i))] [(.int (Int32.ofNat i))]))
  refine own_Go.st (X0.ldcInt hx hown (mvT hZ (hw _ (List.mem_of_getElem? (i := 85) rfl))) (g := (mkF m 13 #[.val (.int (Int32.ofNat i))] [(.int (Int32.ofNat i))])) rfl (hb hby d_jdk_52_method_3_13)) ?_
  show own_Go _ _ _ _ (s₁.setTop (mkF m 15 #[.val (.int (Int32.ofNat i))] [(.int (1073741823 : Int32)), (.int (Int32.ofNat i))]))
  have hc170 : (Int32.ofNat i) < (1073741823 : Int32) := by have e1 : (1073741823 : Int32).toInt = 1073741823 := (by decide); rw [Int32.lt_iff_toInt_lt, own_of (by omega), e1]; omega
  refine own_Go.st (fun _ k => XS.icmpYes X0.here hx rfl (pc0 := 15) (pc' := 55) rfl (hb hby d_jdk_52_method_3_15) rfl (tlt hc170).1 (by decide) (by decide) k) ?_
  show own_Go _ _ _ _ (s₁.setTop (mkF m 55 #[.val (.int (Int32.ofNat i))] []))
  refine own_Go.st (fun _ k => XS.iloadN X0.here hx rfl (hb hby d_jdk_52_method_3_55) rfl k) ?_
  show own_Go _ _ _ _ (s₁.setTop (mkF m 56 #[.val (.int (Int32.ofNat i))] [(.int (Int32.ofNat i))]))
  refine own_Go.st (fun _ k => XS.iconst X0.here hx rfl (hb hby d_jdk_52_method_3_56) k) ?_
  show own_Go _ _ _ _ (s₁.setTop (mkF m 57 #[.val (.int (Int32.ofNat i))] [(.int (1 : Int32)), (.int (Int32.ofNat i))]))
  refine own_Go.st (fun _ k => XS.ishl X0.here hx rfl (hb hby d_jdk_52_method_3_57) rfl k) ?_
  show own_Go _ _ _ _ (s₁.setTop (mkF m 58 #[.val (.int (Int32.ofNat i))] [(.int ((Int32.ofNat i) <<< ((1 : Int32) &&& 31)))]))
  obtain ⟨fs171, hr171, hrun171, hend171, hW171, hsm171⟩ := X0.leave (v := some (.int ((Int32.ofNat i) <<< ((1 : Int32) &&& 31)))) (fun h => by rw [Bd.returns] at h; cases h)
  subst hPP
  refine ⟨_, _, own_retI X0 hx Bd.returns (hb hby d_jdk_52_method_3_58) hr171, hrun171, hend171, _, _, rfl, ?_, ⟨_, rfl⟩, hW171, hsm171.mono (by decide) (by decide)⟩
  · show Q_nbl Z _ _ h0 _ s₁.heap _
    rw [e0]
    exact ⟨(by rw [own_shl1 (by omega)]), N0, rfl⟩
theorem d_jdk_52_method_2_0 : decode jdk_52_method_2_code 0 = .ok (.iload_n 0, 1) := by decide +kernel
theorem pd_109 : parseMethodDescriptor "(I)I" = some ⟨[.int], some .int⟩ := by decide +kernel
theorem d_jdk_52_method_2_1 : decode jdk_52_method_2_code 1 = .ok (.invokestatic 11, 3) := by decide +kernel
theorem d_jdk_52_method_2_4 : decode jdk_52_method_2_code 4 = .ok (.newarray .byte, 2) := by decide +kernel
theorem d_jdk_52_method_2_6 : decode jdk_52_method_2_code 6 = .ok (.areturn, 1) := by decide +kernel
def Q_nbf (Z : State) (p1 : Int32) (i : Nat) (h0 : Heap) (v : Option Value) (h : Heap) (L : List Loc) : Prop := ∃ (x : Nat), ∃ (k : ClassId), v = some (.ref x) ∧ Fr Z.heap.size L ∧ Keep h0 h [] ∧ Arv Z h x k .byte (Int32.ofNat (2 * i)) [] (.int (0 : Int32)) ∧ (h0.size ≤ x)
set_option maxRecDepth 65536 in
set_option maxHeartbeats 40000000 in
theorem rm_nbf (l : Launch) (Z : State) (a0 : Array Value) (hw : ∀ d ∈ tables_1, d.before a0 Z = true) (ws : List Jvm.Cond) (p1 : Int32) (i : Nat) (h0 : Heap) (OL : Old Z Z.heap.size h0) (hp1 : p1 = Int32.ofNat i) (hle : i ≤ 4) :
    MetFree l (⟨"java/lang/StringUTF16", "newBytesFor", "(I)[B"⟩ : MethodName) (head1 (Jvm.Cond.code (⟨"java/lang/StringUTF16", "newBytesFor", "(I)[B"⟩ : MethodName) jdk_52_method_2_code 1 (some (.array .byte)) :: ws) ({ frames := 1, cells := 1, slots := 8, locals := 12 } : Room)) (fun a U => a = #[(.int p1)] ∧ Z.Warmed39 U.vm ∧ U.heap = h0) (fun _ _ _ _ _ => True) (fun _ U o U' => ∃ v L, o = .returned v ∧ Q_nbf Z p1 i h0 v U'.heap L ∧ FrameEnd U o U' L ({ frames := 1, cells := 1, slots := 8, locals := 12 } : Room).cells ({ frames := 1, cells := 1, slots := 8, locals := 12 } : Room).slots) := by
  refine MetFree.of_bodySF (plainFor_of_name pn_25) hisR ?_
  intro p e s m args below meth c s₁ Bd hml0 hP hK
  obtain ⟨rfl, hZ, hh⟩ := hP
  have hx := Bd.exec
  have hby := Bd.bytes
  have hml : c.maxLocals = 1 := hml0
  have hown : s.vm.findClass "java/lang/StringUTF16" = some m.cls := findClass_of_methodNamed Bd.named
  have hnm := (name_of_methodNamed Bd.named Bd.method).1
  have X0 : Stand p l e ({ frames := 1, cells := 1, slots := 8, locals := 12 } : Room) s m #[(.int p1)] below meth c s₁ [] 0 0 := Stand.of_body Bd
  have e0 : s₁.heap = h0 := by rw [← hh, Bd.state]; rfl
  have N0 := Fr.nil Z.heap.size
  have Z0 : Z.heap.size ≤ h0.size := OL.2.1
  obtain ⟨PP, hPP⟩ : ∃ PP : Outcome → State → Prop, PP = (fun o tE => ∃ v L, o = .returned v ∧ Q_nbf Z p1 i h0 v tE.heap L ∧ FrameEnd s o tE L ({ frames := 1, cells := 1, slots := 8, locals := 12 } : Room).cells ({ frames := 1, cells := 1, slots := 8, locals := 12 } : Room).slots) := ⟨_, rfl⟩
  show own_Go p.tables e below (fun o tE => ∃ v L, o = .returned v ∧ Q_nbf Z p1 i h0 v tE.heap L ∧ FrameEnd s o tE L ({ frames := 1, cells := 1, slots := 8, locals := 12 } : Room).cells ({ frames := 1, cells := 1, slots := 8, locals := 12 } : Room).slots) (s₁.setTop (entryFrame m #[(.int p1)] 1))
  rw [← hPP]
  refine own_Go.st (fun t k => castTop (ef_98 m p1) k) ?_
  show own_Go _ _ _ _ (s₁.setTop (mkF m 0 #[.val (.int p1)] []))
  refine own_Go.st (fun _ k => XS.iloadN X0.here hx rfl (hb hby d_jdk_52_method_2_0) rfl k) ?_
  show own_Go _ _ _ _ (s₁.setTop (mkF m 1 #[.val (.int p1)] [(.int p1)]))
  obtain ⟨_, _, ⟨T172, L172, k172, n172⟩, -, X172, ⟨Lc172, hQ172, l172, y172, z172⟩, st172⟩ := Jvm.LawKit.callS X0 hx (y := (⟨"java/lang/StringUTF16", "newBytesLength", "(I)I"⟩ : MethodName)) hown (mvT hZ (hw _ (List.mem_of_getElem? (i := 82) rfl))) (mvT hZ (hw _ (List.mem_of_getElem? (i := 83) rfl))) (mvT hZ (hw _ (List.mem_of_getElem? (i := 61) rfl))) (mvT hZ (hw _ (List.mem_of_getElem? (i := 84) rfl))) (by decide) (backOf (W := 0) (rm_nbl l Z a0 hw [] p1 i h0 OL hp1 (by omega)) hZ (hw _ (List.mem_of_getElem? (i := 84) rfl)) (hw _ (List.mem_of_getElem? (i := 61) rfl)) (by decide) (by decide)) (g := (mkF m 1 #[.val (.int p1)] [(.int p1)])) rfl (by rw [hml]; rfl) (argsL := [(.int p1)]) (rest := []) (lenOf pd_109 rfl) rfl (by show 2 * 0 + _ ≤ _; exact Nat.le_of_eq rfl) (hb hby d_jdk_52_method_2_1) (fun _ _ => ⟨rfl, e0, (by decide : 0 + 0 ≤ _), (by decide : 0 + 0 ≤ _)⟩)
  dsimp only [Pt.U, Pt.locs, Pt.cells, Pt.slots] at X172 l172 y172 z172 st172 hQ172
  subst l172 y172 z172
  obtain ⟨rfl, N172q, K172⟩ := hQ172
  have N172 := Fr.app N0 N172q
  refine own_Go.st st172 ?_
  show own_Go _ _ _ _ (T172.setTop (mkF m 4 #[.val (.int p1)] [(.int (Int32.ofNat (2 * i)))]))
  obtain ⟨T173, h173, k173, X173, e173, E173, A173, st173⟩ := newP X172 hx hZ (hw _ (List.mem_of_getElem? (i := 27) rfl)) K172 (g := (mkF m 4 #[.val (.int p1)] [(.int (Int32.ofNat (2 * i)))])) rfl (hb hby d_jdk_52_method_2_4) rfl (own_of0 (by omega)) (cap := 8) (by rw [own_ofn (by omega)]; omega) (by decide) (by decide) (by decide)
  obtain ⟨b173, g173⟩ : ∃ z, z = h0.size := ⟨_, rfl⟩
  rw [← g173] at A173 st173
  refine own_Go.st st173 ?_
  have z173 : h0.size ≤ h173.size := E173.1
  have f174 : Arv Z h173 b173 k173 .byte (Int32.ofNat (2 * i)) [] (.int (0 : Int32)) := Arv.new A173 (own_of0 (by omega))
  have lt_b173 : @LT.lt Nat _ b173 h173.size := f174.lt
  show own_Go _ _ _ _ (T173.setTop (mkF m 6 #[.val (.int p1)] [(.ref b173)]))
  obtain ⟨fs175, hr175, hrun175, hend175, hW175, hsm175⟩ := X173.leave (v := some (.ref b173)) (fun h => by rw [Bd.returns] at h; cases h)
  have K176 : Keep h0 h173 [] := (Keep.refl h0 []).ext E173
  subst hPP
  refine ⟨_, _, own_retA X173 hx Bd.returns rfl rfl (hb hby d_jdk_52_method_2_6) hr175, hrun175, hend175, _, _, rfl, ?_, ⟨_, rfl⟩, hW175, hsm175.mono (by decide) (by decide)⟩
  · show Q_nbf Z _ _ h0 _ T173.heap _
    rw [e173]
    exact ⟨b173, k173, rfl, N172, K176, f174, (by omega)⟩
theorem ef_113 (m : MethodId) (x0 : Nat) (x1 : Int32) (x2 : Int32) : entryFrame m #[(.ref x0), (.int x1), (.int x2)] 5 = mkF m 0 #[.val (.ref x0), .val (.int x1), .val (.int x2), .unset, .unset] [] := by first | (simp [entryFrame, mkF, argsToLocals, Value.category]; done) | rfl
theorem d_jdk_52_method_14_0 : decode jdk_52_method_14_code 0 = .ok (.iload_n 2, 1) := by decide +kernel
theorem pd_115 : parseMethodDescriptor "(I)[B" = some ⟨[.int], some (.array .byte)⟩ := by decide +kernel
theorem d_jdk_52_method_14_1 : decode jdk_52_method_14_code 1 = .ok (.invokestatic 107, 3) := by decide +kernel
theorem d_jdk_52_method_14_4 : decode jdk_52_method_14_code 4 = .ok (.astore_n 3, 1) := by decide +kernel
theorem d_jdk_52_method_14_5 : decode jdk_52_method_14_code 5 = .ok (.iconst 0, 1) := by decide +kernel
theorem d_jdk_52_method_14_6 : decode jdk_52_method_14_code 6 = .ok (.istore 4, 2) := by decide +kernel
theorem d_jdk_52_method_14_8 : decode jdk_52_method_14_code 8 = .ok (.iload 4, 2) := by decide +kernel
theorem d_jdk_52_method_14_10 : decode jdk_52_method_14_code 10 = .ok (.iload_n 2, 1) := by decide +kernel
theorem d_jdk_52_method_14_11 : decode jdk_52_method_14_code 11 = .ok (.if_icmp .ge 21, 3) := by decide +kernel
theorem d_jdk_52_method_14_14 : decode jdk_52_method_14_code 14 = .ok (.aload_n 3, 1) := by decide +kernel
theorem d_jdk_52_method_14_15 : decode jdk_52_method_14_code 15 = .ok (.iload 4, 2) := by decide +kernel
theorem d_jdk_52_method_14_17 : decode jdk_52_method_14_code 17 = .ok (.aload_n 0, 1) := by decide +kernel
theorem d_jdk_52_method_14_18 : decode jdk_52_method_14_code 18 = .ok (.iload_n 1, 1) := by decide +kernel
theorem d_jdk_52_method_14_19 : decode jdk_52_method_14_code 19 = .ok (.caload, 1) := by decide +kernel
theorem pd_128 : parseMethodDescriptor "([BII)V" = some ⟨[(.array .byte), .int, .int], none⟩ := by decide +kernel
theorem d_jdk_52_method_14_20 : decode jdk_52_method_14_code 20 = .ok (.invokestatic 111, 3) := by decide +kernel
theorem d_jdk_52_method_14_23 : decode jdk_52_method_14_code 23 = .ok (.iinc 1 1, 3) := by decide +kernel
theorem d_jdk_52_method_14_26 : decode jdk_52_method_14_code 26 = .ok (.iinc 4 1, 3) := by decide +kernel
theorem d_jdk_52_method_14_29 : decode jdk_52_method_14_code 29 = .ok (.goto (-21), 3) := by decide +kernel
theorem d_jdk_52_method_14_32 : decode jdk_52_method_14_code 32 = .ok (.aload_n 3, 1) := by decide +kernel
theorem d_jdk_52_method_14_33 : decode jdk_52_method_14_code 33 = .ok (.areturn, 1) := by decide +kernel
def Q_tob (Z : State) (a1 : Nat) (nn : Int32) (cs : List Int32) (k1 : ClassId) (d1 : Value) (h0 : Heap) (v : Option Value) (h : Heap) (L : List Loc) : Prop := ∃ (x : Nat), ∃ (k : ClassId), v = some (.ref x) ∧ Fr Z.heap.size L ∧ Keep h0 h [] ∧ Arv Z h x k .byte (Int32.ofNat (2 * cs.length)) (StrChars.Road.wideBytes cs) (.int (0 : Int32)) ∧ (h0.size ≤ x)
set_option maxRecDepth 65536 in
set_option maxHeartbeats 40000000 in
theorem rm_tob (l : Launch) (Z : State) (a0 : Array Value) (hw : ∀ d ∈ tables_1, d.before a0 Z = true) (ws : List Jvm.Cond) (a1 : Nat) (nn : Int32) (cs : List Int32) (k1 : ClassId) (d1 : Value) (h0 : Heap) (OL : Old Z Z.heap.size h0) (p0_ : Arv Z h0 a1 k1 .char nn (cs.map Value.int) d1) (st__assertionsDisabled : Sta Z Z.heap "java/lang/StringUTF16" "$assertionsDisabled" "Z" (.int (1 : Int32))) (st_HI_BYTE_SHIFT : Sta Z Z.heap "java/lang/StringUTF16" "HI_BYTE_SHIFT" "I" (.int (0 : Int32))) (st_LO_BYTE_SHIFT : Sta Z Z.heap "java/lang/StringUTF16" "LO_BYTE_SHIFT" "I" (.int (8 : Int32))) (hnn : nn = Int32.ofNat cs.length) (hle : cs.length ≤ 4) :
    MetFree l (⟨"java/lang/StringUTF16", "toBytes", "([CII)[B"⟩ : MethodName) (head1 (Jvm.Cond.code (⟨"java/lang/StringUTF16", "toBytes", "([CII)[B"⟩ : MethodName) jdk_52_method_14_code 5 (some (.array .byte)) :: ws) ({ frames := 2, cells := 1, slots := 8, locals := 24 } : Room)) (fun a U => a = #[(.ref a1), (.int (0 : Int32)), (.int nn)] ∧ Z.Warmed39 U.vm ∧ U.heap = h0) (fun _ _ _ _ _ => True) (fun _ U o U' => ∃ v L, o = .returned v ∧ Q_tob Z a1 nn cs k1 d1 h0 v U'.heap L ∧ FrameEnd U o U' L ({ frames := 2, cells := 1, slots := 8, locals := 24 } : Room).cells ({ frames := 2, cells := 1, slots := 8, locals := 24 } : Room).slots) := by
  refine MetFree.of_bodySF (plainFor_of_name pn_25) hisR ?_
  intro p e s m args below meth c s₁ Bd hml0 hP hK
  obtain ⟨rfl, hZ, hh⟩ := hP
  have hx := Bd.exec
  have hby := Bd.bytes
  have hml : c.maxLocals = 5 := hml0
  have hown : s.vm.findClass "java/lang/StringUTF16" = some m.cls := findClass_of_methodNamed Bd.named
  have hnm := (name_of_methodNamed Bd.named Bd.method).1
  have X0 : Stand p l e ({ frames := 2, cells := 1, slots := 8, locals := 24 } : Room) s m #[(.ref a1), (.int (0 : Int32)), (.int nn)] below meth c s₁ [] 0 0 := Stand.of_body Bd
  have e0 : s₁.heap = h0 := by rw [← hh, Bd.state]; rfl
  have N0 := Fr.nil Z.heap.size
  have Z0 : Z.heap.size ≤ h0.size := OL.2.1
  have lt_0 : @LT.lt Nat _ a1 h0.size := p0_.lt
  obtain ⟨PP, hPP⟩ : ∃ PP : Outcome → State → Prop, PP = (fun o tE => ∃ v L, o = .returned v ∧ Q_tob Z a1 nn cs k1 d1 h0 v tE.heap L ∧ FrameEnd s o tE L ({ frames := 2, cells := 1, slots := 8, locals := 24 } : Room).cells ({ frames := 2, cells := 1, slots := 8, locals := 24 } : Room).slots) := ⟨_, rfl⟩
  show own_Go p.tables e below (fun o tE => ∃ v L, o = .returned v ∧ Q_tob Z a1 nn cs k1 d1 h0 v tE.heap L ∧ FrameEnd s o tE L ({ frames := 2, cells := 1, slots := 8, locals := 24 } : Room).cells ({ frames := 2, cells := 1, slots := 8, locals := 24 } : Room).slots) (s₁.setTop (entryFrame m #[(.ref a1), (.int (0 : Int32)), (.int nn)] 5))
  rw [← hPP]
  refine own_Go.st (fun t k => castTop (ef_113 m a1 (0 : Int32) nn) k) ?_
  show own_Go _ _ _ _ (s₁.setTop (mkF m 0 #[.val (.ref a1), .val (.int (0 : Int32)), .val (.int nn), .unset, .unset] []))
  refine own_Go.st (fun _ k => XS.iloadN X0.here hx rfl (hb hby d_jdk_52_method_14_0) rfl k) ?_
  show own_Go _ _ _ _ (s₁.setTop (mkF m 1 #[.val (.ref a1), .val (.int (0 : Int32)), .val (.int nn), .unset, .unset] [(.int nn)]))
  obtain ⟨_, _, ⟨T177, L177, k177, n177⟩, -, X177, ⟨Lc177, hQ177, l177, y177, z177⟩, st177⟩ := Jvm.LawKit.callS X0 hx (y := (⟨"java/lang/StringUTF16", "newBytesFor", "(I)[B"⟩ : MethodName)) hown (mvT hZ (hw _ (List.mem_of_getElem? (i := 79) rfl))) (mvT hZ (hw _ (List.mem_of_getElem? (i := 80) rfl))) (mvT hZ (hw _ (List.mem_of_getElem? (i := 61) rfl))) (mvT hZ (hw _ (List.mem_of_getElem? (i := 81) rfl))) (by decide) (backOf (W := 0) (rm_nbf l Z a0 hw [] nn cs.length h0 OL hnn hle) hZ (hw _ (List.mem_of_getElem? (i := 81) rfl)) (hw _ (List.mem_of_getElem? (i := 61) rfl)) (by decide) (by decide)) (g := (mkF m 1 #[.val (.ref a1), .val (.int (0 : Int32)), .val (.int nn), .unset, .unset] [(.int nn)])) rfl (by rw [hml]; rfl) (argsL := [(.int nn)]) (rest := []) (lenOf pd_115 rfl) rfl (by show 2 * 0 + _ ≤ _; exact Nat.le_of_eq rfl) (hb hby d_jdk_52_method_14_1) (fun _ _ => ⟨rfl, e0, (by decide : 0 + 1 ≤ _), (by decide : 0 + 8 ≤ _)⟩)
  dsimp only [Pt.U, Pt.locs, Pt.cells, Pt.slots] at X177 l177 y177 z177 st177 hQ177
  subst l177 y177 z177
  obtain ⟨x_177, k_177, rfl, N177q, K177, f177_0, pr177_0⟩ := hQ177
  have N177 := Fr.app N0 N177q
  have z177 : h0.size ≤ T177.heap.size := K177.1
  have lt177_0 : @LT.lt Nat _ x_177 T177.heap.size := f177_0.lt
  have hx1 := pr177_0
  refine own_Go.st st177 ?_
  show own_Go _ _ _ _ (T177.setTop (mkF m 4 #[.val (.ref a1), .val (.int (0 : Int32)), .val (.int nn), .unset, .unset] [(.ref x_177)]))
  refine own_Go.st (fun _ k => XS.astoreN X177.here hx rfl (hb hby d_jdk_52_method_14_4) rfl rfl (l' := #[.val (.ref a1), .val (.int (0 : Int32)), .val (.int nn), .val (.ref x_177), .unset]) rfl k) ?_
  show own_Go _ _ _ _ (T177.setTop (mkF m 5 #[.val (.ref a1), .val (.int (0 : Int32)), .val (.int nn), .val (.ref x_177), .unset] []))
  refine own_Go.st (fun _ k => XS.iconst X177.here hx rfl (hb hby d_jdk_52_method_14_5) k) ?_
  show own_Go _ _ _ _ (T177.setTop (mkF m 6 #[.val (.ref a1), .val (.int (0 : Int32)), .val (.int nn), .val (.ref x_177), .unset] [(.int (0 : Int32))]))
  refine own_Go.st (fun _ k => XS.istore X177.here hx rfl (hb hby d_jdk_52_method_14_6) rfl (l' := #[.val (.ref a1), .val (.int (0 : Int32)), .val (.int nn), .val (.ref x_177), .val (.int (0 : Int32))]) rfl k) ?_
  show own_Go _ _ _ _ (T177.setTop (mkF m 8 #[.val (.ref a1), .val (.int (0 : Int32)), .val (.int nn), .val (.ref x_177), .val (.int (0 : Int32))] []))
  have f178 : Arv Z T177.heap x_177 k_177 .byte (Int32.ofNat (2 * cs.length)) ([] ++ List.replicate (2 * cs.length) (.int (0 : Int32))) (.int (0 : Int32)) := f177_0.pad (pad_rep [] _ _)
  have LP179 : ∀ (nL : Nat) (i : Nat) (vsL : List Value) (TL179 : State) (hL179 : Heap) (lL179 : List Loc), (i ≤ cs.length) → (vsL.length = 2 * cs.length) → (∀ j, j < i → vsL.getD (2 * j) (.int (0 : Int32)) = .int (StrChars.lo8 (cs.getD j 0)) ∧ vsL.getD (2 * j + 1) (.int (0 : Int32)) = .int (StrChars.hi8 (cs.getD j 0))) → (Stand p l e ({ frames := 2, cells := 1, slots := 8, locals := 24 } : Room) s m #[(.ref a1), (.int (0 : Int32)), (.int nn)] below meth c TL179 lL179 1 8) → (TL179.heap = hL179) → (Fr Z.heap.size lL179) → (Keep h0 hL179 []) → (Old Z Z.heap.size hL179) → (Arv Z hL179 a1 k1 .char nn (cs.map Value.int) d1) → (Arv Z hL179 x_177 k_177 .byte (Int32.ofNat (2 * cs.length)) vsL (.int (0 : Int32))) → cs.length - i = nL → own_Go p.tables e below PP (TL179.setTop (mkF m 8 #[.val (.ref a1), .val (.int (Int32.ofNat i)), .val (.int nn), .val (.ref x_177), .val (.int (Int32.ofNat i))] [])) := by
    intro nL
    induction nL using Nat.strongRecOn with
    | _ nL ihL =>
      intro i vsL TL179 hL179 lL179 hi hvL hinv XL179 eL179 NL179 KL179 OL179 fL179_0 fL179_1 hmL
      have zL179 : h0.size ≤ hL179.size := KL179.1
      have ltL179_0 : @LT.lt Nat _ a1 hL179.size := fL179_0.lt
      have ltL179_1 : @LT.lt Nat _ x_177 hL179.size := fL179_1.lt
      refine own_Go.st (fun _ k => XS.iload XL179.here hx rfl (hb hby d_jdk_52_method_14_8) rfl k) ?_
      show own_Go _ _ _ _ (TL179.setTop (mkF m 10 #[.val (.ref a1), .val (.int (Int32.ofNat i)), .val (.int nn), .val (.ref x_177), .val (.int (Int32.ofNat i))] [(.int (Int32.ofNat i))]))
      refine own_Go.st (fun _ k => XS.iloadN XL179.here hx rfl (hb hby d_jdk_52_method_14_10) rfl k) ?_
      show own_Go _ _ _ _ (TL179.setTop (mkF m 11 #[.val (.ref a1), .val (.int (Int32.ofNat i)), .val (.int nn), .val (.ref x_177), .val (.int (Int32.ofNat i))] [(.int nn), (.int (Int32.ofNat i))]))
      by_cases h11 : (Int32.ofNat i) < nn
      ·
        refine own_Go.st (fun _ k => XS.icmpNo XL179.here hx rfl (hb hby d_jdk_52_method_14_11) rfl (tlt h11).2.1 k) ?_
        show own_Go _ _ _ _ (TL179.setTop (mkF m 14 #[.val (.ref a1), .val (.int (Int32.ofNat i)), .val (.int nn), .val (.ref x_177), .val (.int (Int32.ofNat i))] []))
        have hi7 : i < cs.length := (own_oflt (by omega) (by omega)).mp (hnn ▸ h11)
        refine own_Go.st (fun _ k => XS.aloadN XL179.here hx rfl (hb hby d_jdk_52_method_14_14) rfl rfl k) ?_
        show own_Go _ _ _ _ (TL179.setTop (mkF m 15 #[.val (.ref a1), .val (.int (Int32.ofNat i)), .val (.int nn), .val (.ref x_177), .val (.int (Int32.ofNat i))] [(.ref x_177)]))
        refine own_Go.st (fun _ k => XS.iload XL179.here hx rfl (hb hby d_jdk_52_method_14_15) rfl k) ?_
        show own_Go _ _ _ _ (TL179.setTop (mkF m 17 #[.val (.ref a1), .val (.int (Int32.ofNat i)), .val (.int nn), .val (.ref x_177), .val (.int (Int32.ofNat i))] [(.int (Int32.ofNat i)), (.ref x_177)]))
        refine own_Go.st (fun _ k => XS.aloadN XL179.here hx rfl (hb hby d_jdk_52_method_14_17) rfl rfl k) ?_
        show own_Go _ _ _ _ (TL179.setTop (mkF m 18 #[.val (.ref a1), .val (.int (Int32.ofNat i)), .val (.int nn), .val (.ref x_177), .val (.int (Int32.ofNat i))] [(.ref a1), (.int (Int32.ofNat i)), (.ref x_177)]))
        refine own_Go.st (fun _ k => XS.iloadN XL179.here hx rfl (hb hby d_jdk_52_method_14_18) rfl k) ?_
        show own_Go _ _ _ _ (TL179.setTop (mkF m 19 #[.val (.ref a1), .val (.int (Int32.ofNat i)), .val (.int nn), .val (.ref x_177), .val (.int (Int32.ofNat i))] [(.int (Int32.ofNat i)), (.ref a1), (.int (Int32.ofNat i)), (.ref x_177)]))
        obtain ⟨c180, Ar180, q180, S180, Nn180, H180, G180⟩ := id fL179_0
        have hin180 : ¬ ((Int32.ofNat i) < 0 ∨ c180.slots.size ≤ ((Int32.ofNat i)).toNatClampNeg) := inb_of S180 ⟨own_of0 (by omega), h11⟩
        have hat180 : c180.slots[((Int32.ofNat i)).toNatClampNeg]? = some (.int (cs.getD i 0)) := H180.at hin180 (own_getD hi7 (by omega) _)
        refine own_Go.st (XL179.caload hx (j := (Int32.ofNat i)) (v := (.int (cs.getD i 0))) (by rw [eL179]; exact Ar180.1) (State.isArrayOf_alike hZ.alike Ar180.2.1) Ar180.2.2 hin180 hat180 (g := (mkF m 19 #[.val (.ref a1), .val (.int (Int32.ofNat i)), .val (.int nn), .val (.ref x_177), .val (.int (Int32.ofNat i))] [(.int (Int32.ofNat i)), (.ref a1), (.int (Int32.ofNat i)), (.ref x_177)])) rfl rfl (hb hby d_jdk_52_method_14_19)) ?_
        show own_Go _ _ _ _ (TL179.setTop (mkF m 20 #[.val (.ref a1), .val (.int (Int32.ofNat i)), .val (.int nn), .val (.ref x_177), .val (.int (Int32.ofNat i))] [(.int (cs.getD i 0)), (.int (Int32.ofNat i)), (.ref x_177)]))
        obtain ⟨_, _, ⟨T181, L181, k181, n181⟩, -, X181, ⟨Lc181, hQ181, l181, y181, z181⟩, st181⟩ := Jvm.LawKit.callS XL179 hx (y := (⟨"java/lang/StringUTF16", "putChar", "([BII)V"⟩ : MethodName)) hown (mvT hZ (hw _ (List.mem_of_getElem? (i := 86) rfl))) (mvT hZ (hw _ (List.mem_of_getElem? (i := 87) rfl))) (mvT hZ (hw _ (List.mem_of_getElem? (i := 61) rfl))) (mvT hZ (hw _ (List.mem_of_getElem? (i := 88) rfl))) (by decide) (backOf (W := 0) (rm_putc l Z a0 hw [] x_177 (Int32.ofNat i) (cs.getD i 0) i k_177 (Int32.ofNat (2 * cs.length)) vsL (.int (0 : Int32)) hL179 OL179 fL179_1 st__assertionsDisabled st_HI_BYTE_SHIFT st_LO_BYTE_SHIFT rfl (by omega) (by rw [hvL]) (by omega) (by omega)) hZ (hw _ (List.mem_of_getElem? (i := 88) rfl)) (hw _ (List.mem_of_getElem? (i := 61) rfl)) (by decide) (by decide)) (g := (mkF m 20 #[.val (.ref a1), .val (.int (Int32.ofNat i)), .val (.int nn), .val (.ref x_177), .val (.int (Int32.ofNat i))] [(.int (cs.getD i 0)), (.int (Int32.ofNat i)), (.ref x_177)])) rfl (by rw [hml]; rfl) (argsL := [(.ref x_177), (.int (Int32.ofNat i)), (.int (cs.getD i 0))]) (rest := []) (lenOf pd_128 rfl) rfl (by show 2 * 0 + _ ≤ _; exact Nat.le_of_eq rfl) (hb hby d_jdk_52_method_14_20) (fun _ _ => ⟨rfl, eL179, (by decide : 1 + 0 ≤ _), (by decide : 8 + 0 ≤ _)⟩)
        dsimp only [Pt.U, Pt.locs, Pt.cells, Pt.slots] at X181 l181 y181 z181 st181 hQ181
        subst l181 y181 z181
        obtain ⟨rfl, N181q, K181, f181_0⟩ := hQ181
        have N181 := Fr.app NL179 N181q
        have z181 : hL179.size ≤ T181.heap.size := K181.1
        have lt181_0 : @LT.lt Nat _ x_177 T181.heap.size := f181_0.lt
        refine own_Go.st st181 ?_
        show own_Go _ _ _ _ (T181.setTop (mkF m 23 #[.val (.ref a1), .val (.int (Int32.ofNat i)), .val (.int nn), .val (.ref x_177), .val (.int (Int32.ofNat i))] []))
        refine own_Go.st (fun _ k => XS.iinc X181.here hx rfl (hb hby d_jdk_52_method_14_23) rfl (l' := #[.val (.ref a1), .val (.int ((Int32.ofNat i) + (1 : Int32))), .val (.int nn), .val (.ref x_177), .val (.int (Int32.ofNat i))]) rfl k) ?_
        show own_Go _ _ _ _ (T181.setTop (mkF m 26 #[.val (.ref a1), .val (.int ((Int32.ofNat i) + (1 : Int32))), .val (.int nn), .val (.ref x_177), .val (.int (Int32.ofNat i))] []))
        refine own_Go.st (fun _ k => XS.iinc X181.here hx rfl (hb hby d_jdk_52_method_14_26) rfl (l' := #[.val (.ref a1), .val (.int ((Int32.ofNat i) + (1 : Int32))), .val (.int nn), .val (.ref x_177), .val (.int ((Int32.ofNat i) + (1 : Int32)))]) rfl k) ?_
        show own_Go _ _ _ _ (T181.setTop (mkF m 29 #[.val (.ref a1), .val (.int ((Int32.ofNat i) + (1 : Int32))), .val (.int nn), .val (.ref x_177), .val (.int ((Int32.ofNat i) + (1 : Int32)))] []))
        rw [own_ofS (by omega : i < 1073741823)]
        show own_Go _ _ _ _ (T181.setTop (mkF m 29 #[.val (.ref a1), .val (.int (Int32.ofNat (i + 1))), .val (.int nn), .val (.ref x_177), .val (.int (Int32.ofNat (i + 1)))] []))
        refine own_Go.st (fun _ k => XS.goto X181.here hx rfl (pc0 := 29) (pc' := 8) rfl (hb hby d_jdk_52_method_14_29) (by decide) (by decide) k) ?_
        show own_Go _ _ _ _ (T181.setTop (mkF m 8 #[.val (.ref a1), .val (.int (Int32.ofNat (i + 1))), .val (.int nn), .val (.ref x_177), .val (.int (Int32.ofNat (i + 1)))] []))
        have K182 : Keep h0 T181.heap [] := KL179.trans K181 (allS (Or.inr (by omega)) all0)
        have f183 : Old Z Z.heap.size T181.heap := OL179.keep K181 (allS (by omega) all0)
        have f184 : Arv Z T181.heap a1 k1 .char nn (cs.map Value.int) d1 := fL179_0.keep K181 (ninS (by show @Ne Nat a1 x_177; omega) nin0)
        exact ihL _ (by omega) (i + 1) ((vsL.set (2 * i) (.int (StrChars.lo8 (cs.getD i 0)))).set (2 * i + 1) (.int (StrChars.hi8 (cs.getD i 0)))) T181 T181.heap _ (by omega) (by simp only [List.length_set]; exact hvL) (fun j hj => by
          rw [own_setget (by simp only [List.length_set]; omega), own_setget (by omega), own_setget (by simp only [List.length_set]; omega), own_setget (by omega)]
          rcases Nat.lt_succ_iff_lt_or_eq.mp hj with q | q
          · have := hinv j q
            rw [if_neg (by omega), if_neg (by omega), if_neg (by omega), if_neg (by omega)]; exact this
          · subst q; rw [if_neg (by omega), if_pos rfl, if_pos rfl]; exact ⟨rfl, rfl⟩) X181 rfl N181 K182 f183 f184 f181_0 rfl
      ·
        refine own_Go.st (fun _ k => XS.icmpYes XL179.here hx rfl (pc0 := 11) (pc' := 32) rfl (hb hby d_jdk_52_method_14_11) rfl (flt h11).2.1 (by decide) (by decide) k) ?_
        show own_Go _ _ _ _ (TL179.setTop (mkF m 32 #[.val (.ref a1), .val (.int (Int32.ofNat i)), .val (.int nn), .val (.ref x_177), .val (.int (Int32.ofNat i))] []))
        have hi8 : i = cs.length := by
          have : ¬ i < cs.length := fun q => h11 (hnn ▸ (own_oflt (by omega) (by omega)).mpr q)
          omega
        refine own_Go.st (fun _ k => XS.aloadN XL179.here hx rfl (hb hby d_jdk_52_method_14_32) rfl rfl k) ?_
        show own_Go _ _ _ _ (TL179.setTop (mkF m 33 #[.val (.ref a1), .val (.int (Int32.ofNat i)), .val (.int nn), .val (.ref x_177), .val (.int (Int32.ofNat i))] [(.ref x_177)]))
        obtain ⟨fs185, hr185, hrun185, hend185, hW185, hsm185⟩ := XL179.leave (v := some (.ref x_177)) (fun h => by rw [Bd.returns] at h; cases h)
        have hwide : vsL = StrChars.Road.wideBytes cs := own_wide cs (.int (0 : Int32)) vsL hvL (fun j hj => hinv j (by omega))
        rw [hwide] at fL179_1
        subst hPP
        refine ⟨_, _, own_retA XL179 hx Bd.returns rfl rfl (hb hby d_jdk_52_method_14_33) hr185, hrun185, hend185, _, _, rfl, ?_, ⟨_, rfl⟩, hW185, hsm185.mono (by decide) (by decide)⟩
        · show Q_tob Z _ _ _ _ _ h0 _ TL179.heap _
          rw [eL179]
          exact ⟨x_177, k_177, rfl, NL179, KL179, fL179_1, (by omega)⟩
  have K186 : Keep h0 T177.heap [] := (Keep.refl h0 []).trans K177 all0
  have f187 : Old Z Z.heap.size T177.heap := OL.keep K177 all0
  have f188 : Arv Z T177.heap a1 k1 .char nn (cs.map Value.int) d1 := p0_.keep K177 nin0
  exact LP179 _ 0 ([] ++ List.replicate (2 * cs.length) (.int (0 : Int32))) T177 T177.heap _ (Nat.zero_le _) (by simp) (fun j hj => absurd hj (Nat.not_lt_zero j)) X177 rfl N177 K186 f187 f188 f178 rfl
theorem ef_135 (m : MethodId) (x0 : Nat) (x1 : Int32) (x2 : Int32) : entryFrame m #[(.ref x0), (.int x1), (.int x2)] 6 = mkF m 0 #[.val (.ref x0), .val (.int x1), .val (.int x2), .unset, .unset, .unset] [] := by first | (simp [entryFrame, mkF, argsToLocals, Value.category]; done) | rfl
theorem d_jdk_52_method_16_0 : decode jdk_52_method_16_code 0 = .ok (.iload_n 2, 1) := by decide +kernel
theorem d_jdk_52_method_16_1 : decode jdk_52_method_16_code 1 = .ok (.newarray .byte, 2) := by decide +kernel
theorem d_jdk_52_method_16_3 : decode jdk_52_method_16_code 3 = .ok (.astore_n 3, 1) := by decide +kernel
theorem d_jdk_52_method_16_4 : decode jdk_52_method_16_code 4 = .ok (.aload_n 0, 1) := by decide +kernel
theorem d_jdk_52_method_16_5 : decode jdk_52_method_16_code 5 = .ok (.iload_n 1, 1) := by decide +kernel
theorem d_jdk_52_method_16_6 : decode jdk_52_method_16_code 6 = .ok (.aload_n 3, 1) := by decide +kernel
theorem d_jdk_52_method_16_7 : decode jdk_52_method_16_code 7 = .ok (.iconst 0, 1) := by decide +kernel
theorem d_jdk_52_method_16_8 : decode jdk_52_method_16_code 8 = .ok (.iload_n 2, 1) := by decide +kernel
theorem pd_144 : parseMethodDescriptor "([CI[BII)I" = some ⟨[(.array .char), .int, (.array .byte), .int, .int], some .int⟩ := by decide +kernel
theorem d_jdk_52_method_16_9 : decode jdk_52_method_16_code 9 = .ok (.invokestatic 115, 3) := by decide +kernel
theorem d_jdk_52_method_16_12 : decode jdk_52_method_16_code 12 = .ok (.istore 4, 2) := by decide +kernel
theorem d_jdk_52_method_16_14 : decode jdk_52_method_16_code 14 = .ok (.iload 4, 2) := by decide +kernel
theorem d_jdk_52_method_16_16 : decode jdk_52_method_16_code 16 = .ok (.iload_n 2, 1) := by decide +kernel
theorem d_jdk_52_method_16_17 : decode jdk_52_method_16_code 17 = .ok (.if_icmp .eq 40, 3) := by decide +kernel
theorem d_jdk_52_method_16_20 : decode jdk_52_method_16_code 20 = .ok (.aload_n 0, 1) := by decide +kernel
theorem d_jdk_52_method_16_21 : decode jdk_52_method_16_code 21 = .ok (.iload_n 1, 1) := by decide +kernel
theorem d_jdk_52_method_16_22 : decode jdk_52_method_16_code 22 = .ok (.iload_n 2, 1) := by decide +kernel
theorem pd_153 : parseMethodDescriptor "([CII)[B" = some ⟨[(.array .char), .int, .int], some (.array .byte)⟩ := by decide +kernel
theorem d_jdk_52_method_16_23 : decode jdk_52_method_16_code 23 = .ok (.invokestatic 119, 3) := by decide +kernel
theorem d_jdk_52_method_16_26 : decode jdk_52_method_16_code 26 = .ok (.astore 5, 2) := by decide +kernel
theorem d_jdk_52_method_16_28 : decode jdk_52_method_16_code 28 = .ok (.aload 5, 2) := by decide +kernel
theorem d_jdk_52_method_16_30 : decode jdk_52_method_16_code 30 = .ok (.iload 4, 2) := by decide +kernel
theorem pd_158 : parseMethodDescriptor "([BI)C" = some ⟨[(.array .byte), .int], some .char⟩ := by decide +kernel
theorem d_jdk_52_method_16_32 : decode jdk_52_method_16_code 32 = .ok (.invokestatic 71, 3) := by decide +kernel
theorem d_jdk_52_method_16_35 : decode jdk_52_method_16_code 35 = .ok (.sipush 255, 3) := by decide +kernel
theorem d_jdk_52_method_16_38 : decode jdk_52_method_16_code 38 = .ok (.if_icmp .gt 16, 3) := by decide +kernel
theorem d_jdk_52_method_16_54 : decode jdk_52_method_16_code 54 = .ok (.aload 5, 2) := by decide +kernel
theorem d_jdk_52_method_16_56 : decode jdk_52_method_16_code 56 = .ok (.areturn, 1) := by decide +kernel
def Q_cmp3 (Z : State) (a1 : Nat) (nn : Int32) (cs : List Int32) (k1 : ClassId) (d1 : Value) (h0 : Heap) (v : Option Value) (h : Heap) (L : List Loc) : Prop := ∃ (x : Nat), ∃ (k : ClassId), v = some (.ref x) ∧ Fr Z.heap.size L ∧ Keep h0 h [] ∧ Arv Z h x k .byte (Int32.ofNat (2 * cs.length)) (StrChars.Road.wideBytes cs) (.int (0 : Int32)) ∧ (h0.size ≤ x)
set_option maxRecDepth 65536 in
set_option maxHeartbeats 40000000 in
theorem rm_cmp3 (l : Launch) (Z : State) (a0 : Array Value) (hw : ∀ d ∈ tables_1, d.before a0 Z = true) (ws : List Jvm.Cond) (a1 : Nat) (nn : Int32) (cs : List Int32) (k1 : ClassId) (d1 : Value) (h0 : Heap) (OL : Old Z Z.heap.size h0) (p0_ : Arv Z h0 a1 k1 .char nn (cs.map Value.int) d1) (st__assertionsDisabled : Sta Z Z.heap "java/lang/StringUTF16" "$assertionsDisabled" "Z" (.int (1 : Int32))) (st_HI_BYTE_SHIFT : Sta Z Z.heap "java/lang/StringUTF16" "HI_BYTE_SHIFT" "I" (.int (0 : Int32))) (st_LO_BYTE_SHIFT : Sta Z Z.heap "java/lang/StringUTF16" "LO_BYTE_SHIFT" "I" (.int (8 : Int32))) (hnn : nn = Int32.ofNat cs.length) (hle : cs.length ≤ 4) (hbig : ∃ c ∈ cs, (255 : Int32) < c) (hrng : ∀ c ∈ cs, ¬ c < 0 ∧ ¬ (65535 : Int32) < c) :
    MetFree l (⟨"java/lang/StringUTF16", "compress", "([CII)[B"⟩ : MethodName) (head1 (Jvm.Cond.code (⟨"java/lang/StringUTF16", "compress", "([CII)[B"⟩ : MethodName) jdk_52_method_16_code 6 (some (.array .byte)) :: ws) ({ frames := 3, cells := 2, slots := 12, locals := 42 } : Room)) (fun a U => a = #[(.ref a1), (.int (0 : Int32)), (.int nn)] ∧ Z.Warmed39 U.vm ∧ U.heap = h0) (fun _ _ _ _ _ => True) (fun _ U o U' => ∃ v L, o = .returned v ∧ Q_cmp3 Z a1 nn cs k1 d1 h0 v U'.heap L ∧ FrameEnd U o U' L ({ frames := 3, cells := 2, slots := 12, locals := 42 } : Room).cells ({ frames := 3, cells := 2, slots := 12, locals := 42 } : Room).slots) := by
  refine MetFree.of_bodySF (plainFor_of_name pn_25) hisR ?_
  intro p e s m args below meth c s₁ Bd hml0 hP hK
  obtain ⟨rfl, hZ, hh⟩ := hP
  have hx := Bd.exec
  have hby := Bd.bytes
  have hml : c.maxLocals = 6 := hml0
  have hown : s.vm.findClass "java/lang/StringUTF16" = some m.cls := findClass_of_methodNamed Bd.named
  have hnm := (name_of_methodNamed Bd.named Bd.method).1
  have X0 : Stand p l e ({ frames := 3, cells := 2, slots := 12, locals := 42 } : Room) s m #[(.ref a1), (.int (0 : Int32)), (.int nn)] below meth c s₁ [] 0 0 := Stand.of_body Bd
  have e0 : s₁.heap = h0 := by rw [← hh, Bd.state]; rfl
  have N0 := Fr.nil Z.heap.size
  have Z0 : Z.heap.size ≤ h0.size := OL.2.1
  have lt_0 : @LT.lt Nat _ a1 h0.size := p0_.lt
  obtain ⟨PP, hPP⟩ : ∃ PP : Outcome → State → Prop, PP = (fun o tE => ∃ v L, o = .returned v ∧ Q_cmp3 Z a1 nn cs k1 d1 h0 v tE.heap L ∧ FrameEnd s o tE L ({ frames := 3, cells := 2, slots := 12, locals := 42 } : Room).cells ({ frames := 3, cells := 2, slots := 12, locals := 42 } : Room).slots) := ⟨_, rfl⟩
  show own_Go p.tables e below (fun o tE => ∃ v L, o = .returned v ∧ Q_cmp3 Z a1 nn cs k1 d1 h0 v tE.heap L ∧ FrameEnd s o tE L ({ frames := 3, cells := 2, slots := 12, locals := 42 } : Room).cells ({ frames := 3, cells := 2, slots := 12, locals := 42 } : Room).slots) (s₁.setTop (entryFrame m #[(.ref a1), (.int (0 : Int32)), (.int nn)] 6))
  rw [← hPP]
  refine own_Go.st (fun t k => castTop (ef_135 m a1 (0 : Int32) nn) k) ?_
  show own_Go _ _ _ _ (s₁.setTop (mkF m 0 #[.val (.ref a1), .val (.int (0 : Int32)), .val (.int nn), .unset, .unset, .unset] []))
  refine own_Go.st (fun _ k => XS.iloadN X0.here hx rfl (hb hby d_jdk_52_method_16_0) rfl k) ?_
  show own_Go _ _ _ _ (s₁.setTop (mkF m 1 #[.val (.ref a1), .val (.int (0 : Int32)), .val (.int nn), .unset, .unset, .unset] [(.int nn)]))
  obtain ⟨T189, h189, k189, X189, e189, E189, A189, st189⟩ := newP X0 hx hZ (hw _ (List.mem_of_getElem? (i := 27) rfl)) e0 (g := (mkF m 1 #[.val (.ref a1), .val (.int (0 : Int32)), .val (.int nn), .unset, .unset, .unset] [(.int nn)])) rfl (hb hby d_jdk_52_method_16_1) rfl (by rw [hnn]; exact own_of0 (by omega)) (cap := 4) (by rw [hnn, own_ofn (by omega)]; omega) (by decide) (by decide) (by decide)
  obtain ⟨b189, g189⟩ : ∃ z, z = h0.size := ⟨_, rfl⟩
  rw [← g189] at A189 st189
  refine own_Go.st st189 ?_
  have z189 : h0.size ≤ h189.size := E189.1
  have f190 : Arv Z h189 b189 k189 .byte nn [] (.int (0 : Int32)) := Arv.new A189 (by rw [hnn]; exact own_of0 (by omega))
  have lt_b189 : @LT.lt Nat _ b189 h189.size := f190.lt
  show own_Go _ _ _ _ (T189.setTop (mkF m 3 #[.val (.ref a1), .val (.int (0 : Int32)), .val (.int nn), .unset, .unset, .unset] [(.ref b189)]))
  refine own_Go.st (fun _ k => XS.astoreN X189.here hx rfl (hb hby d_jdk_52_method_16_3) rfl rfl (l' := #[.val (.ref a1), .val (.int (0 : Int32)), .val (.int nn), .val (.ref b189), .unset, .unset]) rfl k) ?_
  show own_Go _ _ _ _ (T189.setTop (mkF m 4 #[.val (.ref a1), .val (.int (0 : Int32)), .val (.int nn), .val (.ref b189), .unset, .unset] []))
  refine own_Go.st (fun _ k => XS.aloadN X189.here hx rfl (hb hby d_jdk_52_method_16_4) rfl rfl k) ?_
  show own_Go _ _ _ _ (T189.setTop (mkF m 5 #[.val (.ref a1), .val (.int (0 : Int32)), .val (.int nn), .val (.ref b189), .unset, .unset] [(.ref a1)]))
  refine own_Go.st (fun _ k => XS.iloadN X189.here hx rfl (hb hby d_jdk_52_method_16_5) rfl k) ?_
  show own_Go _ _ _ _ (T189.setTop (mkF m 6 #[.val (.ref a1), .val (.int (0 : Int32)), .val (.int nn), .val (.ref b189), .unset, .unset] [(.int (0 : Int32)), (.ref a1)]))
  refine own_Go.st (fun _ k => XS.aloadN X189.here hx rfl (hb hby d_jdk_52_method_16_6) rfl rfl k) ?_
  show own_Go _ _ _ _ (T189.setTop (mkF m 7 #[.val (.ref a1), .val (.int (0 : Int32)), .val (.int nn), .val (.ref b189), .unset, .unset] [(.ref b189), (.int (0 : Int32)), (.ref a1)]))
  refine own_Go.st (fun _ k => XS.iconst X189.here hx rfl (hb hby d_jdk_52_method_16_7) k) ?_
  show own_Go _ _ _ _ (T189.setTop (mkF m 8 #[.val (.ref a1), .val (.int (0 : Int32)), .val (.int nn), .val (.ref b189), .unset, .unset] [(.int (0 : Int32)), (.ref b189), (.int (0 : Int32)), (.ref a1)]))
  refine own_Go.st (fun _ k => XS.iloadN X189.here hx rfl (hb hby d_jdk_52_method_16_8) rfl k) ?_
  show own_Go _ _ _ _ (T189.setTop (mkF m 9 #[.val (.ref a1), .val (.int (0 : Int32)), .val (.int nn), .val (.ref b189), .unset, .unset] [(.int nn), (.int (0 : Int32)), (.ref b189), (.int (0 : Int32)), (.ref a1)]))
  have f192 : Arv Z h189 a1 k1 .char nn (cs.map Value.int) d1 := p0_.ext E189
  have f193 : Old Z Z.heap.size h189 := OL.ext E189
  obtain ⟨_, _, ⟨T191, L191, k191, n191⟩, -, X191, ⟨Lc191, hQ191, l191, y191, z191⟩, st191⟩ := Jvm.LawKit.callS X189 hx (y := (⟨"java/lang/StringUTF16", "compress", "([CI[BII)I"⟩ : MethodName)) hown (mvT hZ (hw _ (List.mem_of_getElem? (i := 63) rfl))) (mvT hZ (hw _ (List.mem_of_getElem? (i := 64) rfl))) (mvT hZ (hw _ (List.mem_of_getElem? (i := 61) rfl))) (mvT hZ (hw _ (List.mem_of_getElem? (i := 65) rfl))) (by decide) (backOf (W := 0) (rm_cmp5 l Z a0 hw [] a1 b189 nn cs k1 d1 k189 [] (.int (0 : Int32)) h189 f193 f192 f190 (by first | assumption | decide) (by omega) (by first | assumption | decide) (by omega)) hZ (hw _ (List.mem_of_getElem? (i := 65) rfl)) (hw _ (List.mem_of_getElem? (i := 61) rfl)) (by decide) (by decide)) (g := (mkF m 9 #[.val (.ref a1), .val (.int (0 : Int32)), .val (.int nn), .val (.ref b189), .unset, .unset] [(.int nn), (.int (0 : Int32)), (.ref b189), (.int (0 : Int32)), (.ref a1)])) rfl (by rw [hml]; rfl) (argsL := [(.ref a1), (.int (0 : Int32)), (.ref b189), (.int (0 : Int32)), (.int nn)]) (rest := []) (lenOf pd_144 rfl) rfl (by show 2 * 0 + _ ≤ _; exact Nat.le_of_eq rfl) (hb hby d_jdk_52_method_16_9) (fun _ _ => ⟨rfl, e189, (by decide : 1 + 0 ≤ _), (by decide : 4 + 0 ≤ _)⟩)
  dsimp only [Pt.U, Pt.locs, Pt.cells, Pt.slots] at X191 l191 y191 z191 st191 hQ191
  subst l191 y191 z191
  obtain ⟨f_191, vs4_191, rfl, N191q, K191, f191_0, pr191_0, pr191_1⟩ := hQ191
  have N191 := Fr.app N0 N191q
  have z191 : h189.size ≤ T191.heap.size := K191.1
  have lt191_0 : @LT.lt Nat _ b189 T191.heap.size := f191_0.lt
  have hf1 := pr191_0
  have hf2 := pr191_1
  refine own_Go.st st191 ?_
  show own_Go _ _ _ _ (T191.setTop (mkF m 12 #[.val (.ref a1), .val (.int (0 : Int32)), .val (.int nn), .val (.ref b189), .unset, .unset] [(.int (Int32.ofNat f_191))]))
  refine own_Go.st (fun _ k => XS.istore X191.here hx rfl (hb hby d_jdk_52_method_16_12) rfl (l' := #[.val (.ref a1), .val (.int (0 : Int32)), .val (.int nn), .val (.ref b189), .val (.int (Int32.ofNat f_191)), .unset]) rfl k) ?_
  show own_Go _ _ _ _ (T191.setTop (mkF m 14 #[.val (.ref a1), .val (.int (0 : Int32)), .val (.int nn), .val (.ref b189), .val (.int (Int32.ofNat f_191)), .unset] []))
  refine own_Go.st (fun _ k => XS.iload X191.here hx rfl (hb hby d_jdk_52_method_16_14) rfl k) ?_
  show own_Go _ _ _ _ (T191.setTop (mkF m 16 #[.val (.ref a1), .val (.int (0 : Int32)), .val (.int nn), .val (.ref b189), .val (.int (Int32.ofNat f_191)), .unset] [(.int (Int32.ofNat f_191))]))
  refine own_Go.st (fun _ k => XS.iloadN X191.here hx rfl (hb hby d_jdk_52_method_16_16) rfl k) ?_
  show own_Go _ _ _ _ (T191.setTop (mkF m 17 #[.val (.ref a1), .val (.int (0 : Int32)), .val (.int nn), .val (.ref b189), .val (.int (Int32.ofNat f_191)), .unset] [(.int nn), (.int (Int32.ofNat f_191))]))
  have hc194 : ¬ ((Int32.ofNat f_191) = nn) := by rw [hnn]; intro q; have := congrArg Int32.toInt q; rw [own_of (by omega), own_of (by omega)] at this; omega
  refine own_Go.st (fun _ k => XS.icmpNo X191.here hx rfl (hb hby d_jdk_52_method_16_17) rfl (feq hc194).1 k) ?_
  show own_Go _ _ _ _ (T191.setTop (mkF m 20 #[.val (.ref a1), .val (.int (0 : Int32)), .val (.int nn), .val (.ref b189), .val (.int (Int32.ofNat f_191)), .unset] []))
  refine own_Go.st (fun _ k => XS.aloadN X191.here hx rfl (hb hby d_jdk_52_method_16_20) rfl rfl k) ?_
  show own_Go _ _ _ _ (T191.setTop (mkF m 21 #[.val (.ref a1), .val (.int (0 : Int32)), .val (.int nn), .val (.ref b189), .val (.int (Int32.ofNat f_191)), .unset] [(.ref a1)]))
  refine own_Go.st (fun _ k => XS.iloadN X191.here hx rfl (hb hby d_jdk_52_method_16_21) rfl k) ?_
  show own_Go _ _ _ _ (T191.setTop (mkF m 22 #[.val (.ref a1), .val (.int (0 : Int32)), .val (.int nn), .val (.ref b189), .val (.int (Int32.ofNat f_191)), .unset] [(.int (0 : Int32)), (.ref a1)]))
  refine own_Go.st (fun _ k => XS.iloadN X191.here hx rfl (hb hby d_jdk_52_method_16_22) rfl k) ?_
  show own_Go _ _ _ _ (T191.setTop (mkF m 23 #[.val (.ref a1), .val (.int (0 : Int32)), .val (.int nn), .val (.ref b189), .val (.int (Int32.ofNat f_191)), .unset] [(.int nn), (.int (0 : Int32)), (.ref a1)]))
  have f196 : Arv Z T191.heap a1 k1 .char nn (cs.map Value.int) d1 := f192.keep K191 (ninS (by show @Ne Nat a1 b189; omega) nin0)
  have f197 : Old Z Z.heap.size T191.heap := f193.keep K191 (allS (by omega) all0)
  obtain ⟨_, _, ⟨T195, L195, k195, n195⟩, -, X195, ⟨Lc195, hQ195, l195, y195, z195⟩, st195⟩ := Jvm.LawKit.callS X191 hx (y := (⟨"java/lang/StringUTF16", "toBytes", "([CII)[B"⟩ : MethodName)) hown (mvT hZ (hw _ (List.mem_of_getElem? (i := 76) rfl))) (mvT hZ (hw _ (List.mem_of_getElem? (i := 77) rfl))) (mvT hZ (hw _ (List.mem_of_getElem? (i := 61) rfl))) (mvT hZ (hw _ (List.mem_of_getElem? (i := 78) rfl))) (by decide) (backOf (W := 0) (rm_tob l Z a0 hw [] a1 nn cs k1 d1 T191.heap f197 f196 st__assertionsDisabled st_HI_BYTE_SHIFT st_LO_BYTE_SHIFT (by first | assumption | decide) (by first | assumption | decide)) hZ (hw _ (List.mem_of_getElem? (i := 78) rfl)) (hw _ (List.mem_of_getElem? (i := 61) rfl)) (by decide) (by decide)) (g := (mkF m 23 #[.val (.ref a1), .val (.int (0 : Int32)), .val (.int nn), .val (.ref b189), .val (.int (Int32.ofNat f_191)), .unset] [(.int nn), (.int (0 : Int32)), (.ref a1)])) rfl (by rw [hml]; rfl) (argsL := [(.ref a1), (.int (0 : Int32)), (.int nn)]) (rest := []) (lenOf pd_153 rfl) rfl (by show 2 * 0 + _ ≤ _; exact Nat.le_of_eq rfl) (hb hby d_jdk_52_method_16_23) (fun _ _ => ⟨rfl, rfl, (by decide : 1 + 1 ≤ _), (by decide : 4 + 8 ≤ _)⟩)
  dsimp only [Pt.U, Pt.locs, Pt.cells, Pt.slots] at X195 l195 y195 z195 st195 hQ195
  subst l195 y195 z195
  obtain ⟨x_195, k_195, rfl, N195q, K195, f195_0, pr195_0⟩ := hQ195
  have N195 := Fr.app N191 N195q
  have z195 : T191.heap.size ≤ T195.heap.size := K195.1
  have lt195_0 : @LT.lt Nat _ x_195 T195.heap.size := f195_0.lt
  refine own_Go.st st195 ?_
  show own_Go _ _ _ _ (T195.setTop (mkF m 26 #[.val (.ref a1), .val (.int (0 : Int32)), .val (.int nn), .val (.ref b189), .val (.int (Int32.ofNat f_191)), .unset] [(.ref x_195)]))
  refine own_Go.st (fun _ k => XS.astore X195.here hx rfl (hb hby d_jdk_52_method_16_26) rfl rfl (l' := #[.val (.ref a1), .val (.int (0 : Int32)), .val (.int nn), .val (.ref b189), .val (.int (Int32.ofNat f_191)), .val (.ref x_195)]) rfl k) ?_
  show own_Go _ _ _ _ (T195.setTop (mkF m 28 #[.val (.ref a1), .val (.int (0 : Int32)), .val (.int nn), .val (.ref b189), .val (.int (Int32.ofNat f_191)), .val (.ref x_195)] []))
  refine own_Go.st (fun _ k => XS.aload X195.here hx rfl (hb hby d_jdk_52_method_16_28) rfl rfl k) ?_
  show own_Go _ _ _ _ (T195.setTop (mkF m 30 #[.val (.ref a1), .val (.int (0 : Int32)), .val (.int nn), .val (.ref b189), .val (.int (Int32.ofNat f_191)), .val (.ref x_195)] [(.ref x_195)]))
  refine own_Go.st (fun _ k => XS.iload X195.here hx rfl (hb hby d_jdk_52_method_16_30) rfl k) ?_
  show own_Go _ _ _ _ (T195.setTop (mkF m 32 #[.val (.ref a1), .val (.int (0 : Int32)), .val (.int nn), .val (.ref b189), .val (.int (Int32.ofNat f_191)), .val (.ref x_195)] [(.int (Int32.ofNat f_191)), (.ref x_195)]))
  have f199 : Old Z Z.heap.size T195.heap := f197.keep K195 all0
  obtain ⟨_, _, ⟨T198, L198, k198, n198⟩, -, X198, ⟨Lc198, hQ198, l198, y198, z198⟩, st198⟩ := Jvm.LawKit.callS X195 hx (y := (⟨"java/lang/StringUTF16", "getChar", "([BI)C"⟩ : MethodName)) hown (mvT hZ (hw _ (List.mem_of_getElem? (i := 92) rfl))) (mvT hZ (hw _ (List.mem_of_getElem? (i := 93) rfl))) (mvT hZ (hw _ (List.mem_of_getElem? (i := 61) rfl))) (mvT hZ (hw _ (List.mem_of_getElem? (i := 94) rfl))) (by decide) (backOf (W := 0) (rm_getc l Z a0 hw [] x_195 (Int32.ofNat f_191) f_191 k_195 (Int32.ofNat (2 * cs.length)) (StrChars.Road.wideBytes cs) (.int (0 : Int32)) (cs.getD f_191 0) T195.heap f199 f195_0 st__assertionsDisabled st_HI_BYTE_SHIFT st_LO_BYTE_SHIFT rfl (by rw [own_wlen]; omega) (by rw [own_wlen]) (by rw [own_wlen]; omega) (StrChars.Road.wide_lo _ _ _ hf1) (StrChars.Road.wide_hi _ _ _ hf1) (hrng _ (by rw [List.getD_eq_getElem?_getD, List.getElem?_eq_getElem hf1]; exact List.getElem_mem _))) hZ (hw _ (List.mem_of_getElem? (i := 94) rfl)) (hw _ (List.mem_of_getElem? (i := 61) rfl)) (by decide) (by decide)) (g := (mkF m 32 #[.val (.ref a1), .val (.int (0 : Int32)), .val (.int nn), .val (.ref b189), .val (.int (Int32.ofNat f_191)), .val (.ref x_195)] [(.int (Int32.ofNat f_191)), (.ref x_195)])) rfl (by rw [hml]; rfl) (argsL := [(.ref x_195), (.int (Int32.ofNat f_191))]) (rest := []) (lenOf pd_158 rfl) rfl (by show 2 * 0 + _ ≤ _; exact Nat.le_of_eq rfl) (hb hby d_jdk_52_method_16_32) (fun _ _ => ⟨rfl, rfl, (by decide : 2 + 0 ≤ _), (by decide : 12 + 0 ≤ _)⟩)
  dsimp only [Pt.U, Pt.locs, Pt.cells, Pt.slots] at X198 l198 y198 z198 st198 hQ198
  subst l198 y198 z198
  obtain ⟨rfl, N198q, K198⟩ := hQ198
  have N198 := Fr.app N195 N198q
  refine own_Go.st st198 ?_
  show own_Go _ _ _ _ (T198.setTop (mkF m 35 #[.val (.ref a1), .val (.int (0 : Int32)), .val (.int nn), .val (.ref b189), .val (.int (Int32.ofNat f_191)), .val (.ref x_195)] [(.int (cs.getD f_191 0))]))
  refine own_Go.st (fun _ k => XS.sipush X198.here hx rfl (hb hby d_jdk_52_method_16_35) k) ?_
  show own_Go _ _ _ _ (T198.setTop (mkF m 38 #[.val (.ref a1), .val (.int (0 : Int32)), .val (.int nn), .val (.ref b189), .val (.int (Int32.ofNat f_191)), .val (.ref x_195)] [(.int (255 : Int32)), (.int (cs.getD f_191 0))]))
  have hc200 : (255 : Int32) < (cs.getD f_191 0) := hf2
  refine own_Go.st (fun _ k => XS.icmpYes X198.here hx rfl (pc0 := 38) (pc' := 54) rfl (hb hby d_jdk_52_method_16_38) rfl (tlt hc200).2.2.1 (by decide) (by decide) k) ?_
  show own_Go _ _ _ _ (T198.setTop (mkF m 54 #[.val (.ref a1), .val (.int (0 : Int32)), .val (.int nn), .val (.ref b189), .val (.int (Int32.ofNat f_191)), .val (.ref x_195)] []))
  refine own_Go.st (fun _ k => XS.aload X198.here hx rfl (hb hby d_jdk_52_method_16_54) rfl rfl k) ?_
  show own_Go _ _ _ _ (T198.setTop (mkF m 56 #[.val (.ref a1), .val (.int (0 : Int32)), .val (.int nn), .val (.ref b189), .val (.int (Int32.ofNat f_191)), .val (.ref x_195)] [(.ref x_195)]))
  obtain ⟨fs201, hr201, hrun201, hend201, hW201, hsm201⟩ := X198.leave (v := some (.ref x_195)) (fun h => by rw [Bd.returns] at h; cases h)
  have K202 : Keep h0 h189 [] := (Keep.refl h0 []).ext E189
  have K203 : Keep h0 T191.heap [] := K202.trans K191 (allS (Or.inr (by omega)) all0)
  have K204 : Keep h0 T195.heap [] := K203.trans K195 all0
  subst hPP
  refine ⟨_, _, own_retA X198 hx Bd.returns rfl rfl (hb hby d_jdk_52_method_16_56) hr201, hrun201, hend201, _, _, rfl, ?_, ⟨_, rfl⟩, hW201, hsm201.mono (by decide) (by decide)⟩
  · show Q_cmp3 Z _ _ _ _ _ h0 _ T198.heap _
    rw [K198]
    exact ⟨x_195, k_195, rfl, N198, K204, f195_0, (by omega)⟩
theorem d_jdk_52_method_15_0 : decode jdk_52_method_15_code 0 = .ok (.iload_n 1, 1) := by decide +kernel
theorem d_jdk_52_method_15_1 : decode jdk_52_method_15_code 1 = .ok (.aload_n 0, 1) := by decide +kernel
theorem d_jdk_52_method_15_2 : decode jdk_52_method_15_code 2 = .ok (.arraylength, 1) := by decide +kernel
theorem d_jdk_52_method_15_3 : decode jdk_52_method_15_code 3 = .ok (.isub, 1) := by decide +kernel
theorem d_jdk_52_method_15_4 : decode jdk_52_method_15_code 4 = .ok (.bipush 31, 2) := by decide +kernel
theorem d_jdk_52_method_15_6 : decode jdk_52_method_15_code 6 = .ok (.iushr, 1) := by decide +kernel
theorem d_jdk_52_method_15_7 : decode jdk_52_method_15_code 7 = .ok (.i2b, 1) := by decide +kernel
theorem d_jdk_52_method_15_8 : decode jdk_52_method_15_code 8 = .ok (.ireturn, 1) := by decide +kernel
def Q_cfal (Z : State) (a1 : Nat) (p2 : Int32) (i : Nat) (k : ClassId) (n : Int32) (vs : List Value) (d : Value) (h0 : Heap) (v : Option Value) (h : Heap) (L : List Loc) : Prop := v = some (.int (1 : Int32)) ∧ Fr Z.heap.size L ∧ h = h0
set_option maxRecDepth 65536 in
set_option maxHeartbeats 40000000 in
theorem rm_cfal (l : Launch) (Z : State) (a0 : Array Value) (hw : ∀ d ∈ tables_1, d.before a0 Z = true) (ws : List Jvm.Cond) (a1 : Nat) (p2 : Int32) (i : Nat) (k : ClassId) (n : Int32) (vs : List Value) (d : Value) (h0 : Heap) (OL : Old Z Z.heap.size h0) (p0_ : Arv Z h0 a1 k .byte n vs d) (hp2 : p2 = Int32.ofNat i) (hn2 : n = Int32.ofNat (2 * i)) (hi : 0 < i ∧ i ≤ 4000) :
    MetFree l (⟨"java/lang/StringUTF16", "coderFromArrayLen", "([BI)B"⟩ : MethodName) (head1 (Jvm.Cond.code (⟨"java/lang/StringUTF16", "coderFromArrayLen", "([BI)B"⟩ : MethodName) jdk_52_method_15_code 2 (some .byte) :: ws) ({ frames := 0, cells := 0, slots := 0, locals := 0 } : Room)) (fun a U => a = #[(.ref a1), (.int p2)] ∧ Z.Warmed39 U.vm ∧ U.heap = h0) (fun _ _ _ _ _ => True) (fun _ U o U' => ∃ v L, o = .returned v ∧ Q_cfal Z a1 p2 i k n vs d h0 v U'.heap L ∧ FrameEnd U o U' L ({ frames := 0, cells := 0, slots := 0, locals := 0 } : Room).cells ({ frames := 0, cells := 0, slots := 0, locals := 0 } : Room).slots) := by
  refine MetFree.of_bodySF (plainFor_of_name pn_25) hisR ?_
  intro p e s m args below meth c s₁ Bd hml0 hP hK
  obtain ⟨rfl, hZ, hh⟩ := hP
  have hx := Bd.exec
  have hby := Bd.bytes
  have hml : c.maxLocals = 2 := hml0
  have hown : s.vm.findClass "java/lang/StringUTF16" = some m.cls := findClass_of_methodNamed Bd.named
  have hnm := (name_of_methodNamed Bd.named Bd.method).1
  have X0 : Stand p l e ({ frames := 0, cells := 0, slots := 0, locals := 0 } : Room) s m #[(.ref a1), (.int p2)] below meth c s₁ [] 0 0 := Stand.of_body Bd
  have e0 : s₁.heap = h0 := by rw [← hh, Bd.state]; rfl
  have N0 := Fr.nil Z.heap.size
  have Z0 : Z.heap.size ≤ h0.size := OL.2.1
  have lt_0 : @LT.lt Nat _ a1 h0.size := p0_.lt
  obtain ⟨PP, hPP⟩ : ∃ PP : Outcome → State → Prop, PP = (fun o tE => ∃ v L, o = .returned v ∧ Q_cfal Z a1 p2 i k n vs d h0 v tE.heap L ∧ FrameEnd s o tE L ({ frames := 0, cells := 0, slots := 0, locals := 0 } : Room).cells ({ frames := 0, cells := 0, slots := 0, locals := 0 } : Room).slots) := ⟨_, rfl⟩
  show own_Go p.tables e below (fun o tE => ∃ v L, o = .returned v ∧ Q_cfal Z a1 p2 i k n vs d h0 v tE.heap L ∧ FrameEnd s o tE L ({ frames := 0, cells := 0, slots := 0, locals := 0 } : Room).cells ({ frames := 0, cells := 0, slots := 0, locals := 0 } : Room).slots) (s₁.setTop (entryFrame m #[(.ref a1), (.int p2)] 2))
  rw [← hPP]
  refine own_Go.st (fun t k => castTop (ef_73 m a1 p2) k) ?_
  show own_Go _ _ _ _ (s₁.setTop (mkF m 0 #[.val (.ref a1), .val (.int p2)] []))
  refine own_Go.st (fun _ k => XS.iloadN X0.here hx rfl (hb hby d_jdk_52_method_15_0) rfl k) ?_
  show own_Go _ _ _ _ (s₁.setTop (mkF m 1 #[.val (.ref a1), .val (.int p2)] [(.int p2)]))
  refine own_Go.st (fun _ k => XS.aloadN X0.here hx rfl (hb hby d_jdk_52_method_15_1) rfl rfl k) ?_
  show own_Go _ _ _ _ (s₁.setTop (mkF m 2 #[.val (.ref a1), .val (.int p2)] [(.ref a1), (.int p2)]))
  obtain ⟨c205, Ar205, q205, S205, Nn205, H205, G205⟩ := id p0_
  refine own_Go.st (X0.arraylength hx (by rw [e0]; exact Ar205.1) (State.isArrayOf_alike hZ.alike Ar205.2.1) (g := (mkF m 2 #[.val (.ref a1), .val (.int p2)] [(.ref a1), (.int p2)])) rfl rfl (hb hby d_jdk_52_method_15_2)) ?_
  rw [len_of S205 Nn205]
  show own_Go _ _ _ _ (s₁.setTop (mkF m 3 #[.val (.ref a1), .val (.int p2)] [(.int n), (.int p2)]))
  refine own_Go.st (fun _ k => XS.isub X0.here hx rfl (hb hby d_jdk_52_method_15_3) rfl k) ?_
  show own_Go _ _ _ _ (s₁.setTop (mkF m 4 #[.val (.ref a1), .val (.int p2)] [(.int (p2 - n))]))
  refine own_Go.st (fun _ k => XS.bipush X0.here hx rfl (hb hby d_jdk_52_method_15_4) k) ?_
  show own_Go _ _ _ _ (s₁.setTop (mkF m 6 #[.val (.ref a1), .val (.int p2)] [(.int (31 : Int32)), (.int (p2 - n))]))
  refine own_Go.st (fun _ k => XS.iushr X0.here hx rfl (hb hby d_jdk_52_method_15_6) rfl k) ?_
  show own_Go _ _ _ _ (s₁.setTop (mkF m 7 #[.val (.ref a1), .val (.int p2)] [(.int (((p2 - n).toUInt32 >>> ((31 : Int32) &&& 31).toUInt32).toInt32))]))
  refine own_Go.st (fun _ k => XS.i2b X0.here hx rfl (hb hby d_jdk_52_method_15_7) rfl k) ?_
  show own_Go _ _ _ _ (s₁.setTop (mkF m 8 #[.val (.ref a1), .val (.int p2)] [(.int ((((p2 - n).toUInt32 >>> ((31 : Int32) &&& 31).toUInt32).toInt32).toInt8.toInt32))]))
  obtain ⟨fs206, hr206, hrun206, hend206, hW206, hsm206⟩ := X0.leave (v := some (.int (nar .byte ((((p2 - n).toUInt32 >>> ((31 : Int32) &&& 31).toUInt32).toInt32).toInt8.toInt32)))) (fun h => by rw [Bd.returns] at h; cases h)
  subst hPP
  refine ⟨_, _, retN X0 hx (t := .byte) Bd.returns (by simp) (hb hby d_jdk_52_method_15_8) hr206, hrun206, hend206, _, _, rfl, ?_, ⟨_, rfl⟩, hW206, hsm206.mono (by decide) (by decide)⟩
  · show Q_cfal Z _ _ _ _ _ _ _ h0 _ s₁.heap _
    rw [e0]
    exact ⟨(by rw [hp2, hn2, own_cfal hi]), N0, rfl⟩
theorem d_jdk_42_method_149_27 : decode jdk_42_method_149_code 27 = .ok (.getstatic 38, 3) := by decide +kernel
theorem d_jdk_42_method_149_30 : decode jdk_42_method_149_code 30 = .ok (.ifCond .eq 28, 3) := by decide +kernel
theorem d_jdk_42_method_149_33 : decode jdk_42_method_149_code 33 = .ok (.aload_n 1, 1) := by decide +kernel
theorem d_jdk_42_method_149_34 : decode jdk_42_method_149_code 34 = .ok (.iload_n 2, 1) := by decide +kernel
theorem d_jdk_42_method_149_35 : decode jdk_42_method_149_code 35 = .ok (.iload_n 3, 1) := by decide +kernel
theorem d_jdk_42_method_149_36 : decode jdk_42_method_149_code 36 = .ok (.invokestatic 177, 3) := by decide +kernel
theorem d_jdk_42_method_149_39 : decode jdk_42_method_149_code 39 = .ok (.astore 5, 2) := by decide +kernel
theorem d_jdk_42_method_149_41 : decode jdk_42_method_149_code 41 = .ok (.aload_n 0, 1) := by decide +kernel
theorem d_jdk_42_method_149_42 : decode jdk_42_method_149_code 42 = .ok (.aload 5, 2) := by decide +kernel
theorem d_jdk_42_method_149_44 : decode jdk_42_method_149_code 44 = .ok (.iload_n 3, 1) := by decide +kernel
theorem pd_182 : parseMethodDescriptor "([BI)B" = some ⟨[(.array .byte), .int], some .byte⟩ := by decide +kernel
theorem d_jdk_42_method_149_45 : decode jdk_42_method_149_code 45 = .ok (.invokestatic 47, 3) := by decide +kernel
theorem d_jdk_42_method_149_48 : decode jdk_42_method_149_code 48 = .ok (.putfield 15, 3) := by decide +kernel
theorem d_jdk_42_method_149_51 : decode jdk_42_method_149_code 51 = .ok (.aload_n 0, 1) := by decide +kernel
theorem d_jdk_42_method_149_52 : decode jdk_42_method_149_code 52 = .ok (.aload 5, 2) := by decide +kernel
theorem d_jdk_42_method_149_54 : decode jdk_42_method_149_code 54 = .ok (.putfield 9, 3) := by decide +kernel
theorem d_jdk_42_method_149_57 : decode jdk_42_method_149_code 57 = .ok (.return_, 1) := by decide +kernel
def Q_init4u (Z : State) (a1 : Nat) (a2 : Nat) (nn : Int32) (cs : List Int32) (k1 : ClassId) (d1 : Value) (zc : Int32) (h0 : Heap) (v : Option Value) (h : Heap) (L : List Loc) : Prop := ∃ (t : Nat), v = none ∧ Fr Z.heap.size L ∧ Keep h0 h [a1] ∧ own_Str Z h a1 t cs ∧ (h0.size ≤ t)
set_option maxRecDepth 65536 in
set_option maxHeartbeats 40000000 in
theorem rm_init4u (l : Launch) (Z : State) (a0 : Array Value) (hw : ∀ d ∈ tables_1, d.before a0 Z = true) (ws : List Jvm.Cond) (a1 : Nat) (a2 : Nat) (nn : Int32) (cs : List Int32) (k1 : ClassId) (d1 : Value) (zc : Int32) (h0 : Heap) (OL : Old Z Z.heap.size h0) (p0_ : Exa Z h0 a1 "java/lang/String") (p1_ : Fld Z h0 a1 "java/lang/String" "value" "[B" .null) (p2_ : Fld Z h0 a1 "java/lang/String" "coder" "B" (.int (0 : Int32))) (p3_ : Arv Z h0 a2 k1 .char nn (cs.map Value.int) d1) (st_COMPACT_STRINGS : Sta Z Z.heap "java/lang/String" "COMPACT_STRINGS" "Z" (.int zc)) (st__assertionsDisabled : Sta Z Z.heap "java/lang/StringUTF16" "$assertionsDisabled" "Z" (.int (1 : Int32))) (st_HI_BYTE_SHIFT : Sta Z Z.heap "java/lang/StringUTF16" "HI_BYTE_SHIFT" "I" (.int (0 : Int32))) (st_LO_BYTE_SHIFT : Sta Z Z.heap "java/lang/StringUTF16" "LO_BYTE_SHIFT" "I" (.int (8 : Int32))) (hnn : nn = Int32.ofNat cs.length) (hle : cs.length ≤ 4) (hbig : ∃ c ∈ cs, (255 : Int32) < c) (hrng : ∀ c ∈ cs, ¬ c < 0 ∧ ¬ (65535 : Int32) < c) (hn0 : Z.heap.size ≤ a1) (hzc : ¬ zc = 0) :
    MetFree l (⟨"java/lang/String", "<init>", "([CIILjava/lang/Void;)V"⟩ : MethodName) (head1 (Jvm.Cond.code (⟨"java/lang/String", "<init>", "([CIILjava/lang/Void;)V"⟩ : MethodName) jdk_42_method_149_code 6 none :: ws) ({ frames := 4, cells := 2, slots := 12, locals := 59 } : Room)) (fun a U => a = #[(.ref a1), (.ref a2), (.int (0 : Int32)), (.int nn), .null] ∧ Z.Warmed39 U.vm ∧ U.heap = h0) (fun _ _ _ _ _ => True) (fun _ U o U' => ∃ v L, o = .returned v ∧ Q_init4u Z a1 a2 nn cs k1 d1 zc h0 v U'.heap L ∧ FrameEnd U o U' L ({ frames := 4, cells := 2, slots := 12, locals := 59 } : Room).cells ({ frames := 4, cells := 2, slots := 12, locals := 59 } : Room).slots) := by
  refine MetFree.of_bodySF (plainFor_of_name pn_0) hisR ?_
  intro p e s m args below meth c s₁ Bd hml0 hP hK
  obtain ⟨rfl, hZ, hh⟩ := hP
  have hx := Bd.exec
  have hby := Bd.bytes
  have hml : c.maxLocals = 6 := hml0
  have hown : s.vm.findClass "java/lang/String" = some m.cls := findClass_of_methodNamed Bd.named
  have hnm := (name_of_methodNamed Bd.named Bd.method).1
  have X0 : Stand p l e ({ frames := 4, cells := 2, slots := 12, locals := 59 } : Room) s m #[(.ref a1), (.ref a2), (.int (0 : Int32)), (.int nn), .null] below meth c s₁ [] 0 0 := Stand.of_body Bd
  have e0 : s₁.heap = h0 := by rw [← hh, Bd.state]; rfl
  have N0 := Fr.nil Z.heap.size
  have Z0 : Z.heap.size ≤ h0.size := OL.2.1
  have lt_0 : @LT.lt Nat _ a1 h0.size := p0_.lt
  have lt_1 : @LT.lt Nat _ a1 h0.size := p1_.lt
  have lt_2 : @LT.lt Nat _ a1 h0.size := p2_.lt
  have lt_3 : @LT.lt Nat _ a2 h0.size := p3_.lt
  obtain ⟨PP, hPP⟩ : ∃ PP : Outcome → State → Prop, PP = (fun o tE => ∃ v L, o = .returned v ∧ Q_init4u Z a1 a2 nn cs k1 d1 zc h0 v tE.heap L ∧ FrameEnd s o tE L ({ frames := 4, cells := 2, slots := 12, locals := 59 } : Room).cells ({ frames := 4, cells := 2, slots := 12, locals := 59 } : Room).slots) := ⟨_, rfl⟩
  show own_Go p.tables e below (fun o tE => ∃ v L, o = .returned v ∧ Q_init4u Z a1 a2 nn cs k1 d1 zc h0 v tE.heap L ∧ FrameEnd s o tE L ({ frames := 4, cells := 2, slots := 12, locals := 59 } : Room).cells ({ frames := 4, cells := 2, slots := 12, locals := 59 } : Room).slots) (s₁.setTop (entryFrame m #[(.ref a1), (.ref a2), (.int (0 : Int32)), (.int nn), .null] 6))
  rw [← hPP]
  refine own_Go.st (fun t k => castTop (ef_1 m a1 a2 (0 : Int32) nn) k) ?_
  show own_Go _ _ _ _ (s₁.setTop (mkF m 0 #[.val (.ref a1), .val (.ref a2), .val (.int (0 : Int32)), .val (.int nn), .val .null, .unset] []))
  refine own_Go.st (fun _ k => XS.aloadN X0.here hx rfl (hb hby d_jdk_42_method_149_0) rfl rfl k) ?_
  show own_Go _ _ _ _ (s₁.setTop (mkF m 1 #[.val (.ref a1), .val (.ref a2), .val (.int (0 : Int32)), .val (.int nn), .val .null, .unset] [(.ref a1)]))
  obtain ⟨T207, X207, e207, st207⟩ := initO X0 hx hZ hown (hw _ (List.mem_of_getElem? (i := 23) rfl)) (hw _ (List.mem_of_getElem? (i := 24) rfl)) (hw _ (List.mem_of_getElem? (i := 25) rfl)) e0 (g := (mkF m 1 #[.val (.ref a1), .val (.ref a2), .val (.int (0 : Int32)), .val (.int nn), .val .null, .unset] [(.ref a1)])) rfl (by rw [hml]; rfl) rfl (hb hby d_jdk_42_method_149_1) (by decide) (W := 0) (by show 2 * 0 + _ ≤ _; exact Nat.le_of_eq rfl) (by decide)
  refine own_Go.st st207 ?_
  show own_Go _ _ _ _ (T207.setTop (mkF m 4 #[.val (.ref a1), .val (.ref a2), .val (.int (0 : Int32)), .val (.int nn), .val .null, .unset] []))
  refine own_Go.st (fun _ k => XS.iloadN X207.here hx rfl (hb hby d_jdk_42_method_149_4) rfl k) ?_
  show own_Go _ _ _ _ (T207.setTop (mkF m 5 #[.val (.ref a1), .val (.ref a2), .val (.int (0 : Int32)), .val (.int nn), .val .null, .unset] [(.int nn)]))
  have hc208 : ¬ (nn = (0 : Int32)) := by have e0 : (0 : Int32).toInt = 0 := (by decide); have hl : 0 < cs.length := (by obtain ⟨c, hc, -⟩ := hbig; exact List.length_pos_of_mem hc); rw [hnn]; intro q; have q2 := congrArg Int32.toInt q; rw [own_of (by omega), e0] at q2; omega
  refine own_Go.st (fun _ k => XS.ifYes X207.here hx rfl (pc0 := 5) (pc' := 27) rfl (hb hby d_jdk_42_method_149_5) rfl ((if0 _ _).trans (feq hc208).2) (by decide) (by decide) k) ?_
  show own_Go _ _ _ _ (T207.setTop (mkF m 27 #[.val (.ref a1), .val (.ref a2), .val (.int (0 : Int32)), .val (.int nn), .val .null, .unset] []))
  obtain ⟨T209, X209, e209, st209⟩ := getS2 X207 hx hZ hown (host := "") (Or.inl (hw _ (List.mem_of_getElem? (i := 48) rfl))) Via.refl e207 (st_COMPACT_STRINGS.ext OL.2) (g := (mkF m 27 #[.val (.ref a1), .val (.ref a2), .val (.int (0 : Int32)), .val (.int nn), .val .null, .unset] [])) rfl (hb hby d_jdk_42_method_149_27)
  refine own_Go.st st209 ?_
  show own_Go _ _ _ _ (T209.setTop (mkF m 30 #[.val (.ref a1), .val (.ref a2), .val (.int (0 : Int32)), .val (.int nn), .val .null, .unset] [(.int zc)]))
  have hc210 : ¬ (zc = (0 : Int32)) := hzc
  refine own_Go.st (fun _ k => XS.ifNo X209.here hx rfl (hb hby d_jdk_42_method_149_30) rfl ((if0 _ _).trans (feq hc210).1) k) ?_
  show own_Go _ _ _ _ (T209.setTop (mkF m 33 #[.val (.ref a1), .val (.ref a2), .val (.int (0 : Int32)), .val (.int nn), .val .null, .unset] []))
  refine own_Go.st (fun _ k => XS.aloadN X209.here hx rfl (hb hby d_jdk_42_method_149_33) rfl rfl k) ?_
  show own_Go _ _ _ _ (T209.setTop (mkF m 34 #[.val (.ref a1), .val (.ref a2), .val (.int (0 : Int32)), .val (.int nn), .val .null, .unset] [(.ref a2)]))
  refine own_Go.st (fun _ k => XS.iloadN X209.here hx rfl (hb hby d_jdk_42_method_149_34) rfl k) ?_
  show own_Go _ _ _ _ (T209.setTop (mkF m 35 #[.val (.ref a1), .val (.ref a2), .val (.int (0 : Int32)), .val (.int nn), .val .null, .unset] [(.int (0 : Int32)), (.ref a2)]))
  refine own_Go.st (fun _ k => XS.iloadN X209.here hx rfl (hb hby d_jdk_42_method_149_35) rfl k) ?_
  show own_Go _ _ _ _ (T209.setTop (mkF m 36 #[.val (.ref a1), .val (.ref a2), .val (.int (0 : Int32)), .val (.int nn), .val .null, .unset] [(.int nn), (.int (0 : Int32)), (.ref a2)]))
  obtain ⟨_, _, ⟨T211, L211, k211, n211⟩, -, X211, ⟨Lc211, hQ211, l211, y211, z211⟩, st211⟩ := Jvm.LawKit.callS X209 hx (y := (⟨"java/lang/StringUTF16", "compress", "([CII)[B"⟩ : MethodName)) hown (mvT hZ (hw _ (List.mem_of_getElem? (i := 59) rfl))) (mvT hZ (hw _ (List.mem_of_getElem? (i := 60) rfl))) (mvT hZ (hw _ (List.mem_of_getElem? (i := 61) rfl))) (mvT hZ (hw _ (List.mem_of_getElem? (i := 62) rfl))) (by decide) (backOf (W := 0) (rm_cmp3 l Z a0 hw [] a2 nn cs k1 d1 h0 OL p3_ st__assertionsDisabled st_HI_BYTE_SHIFT st_LO_BYTE_SHIFT (by first | assumption | decide) (by first | assumption | decide) (by first | assumption | decide) (by first | assumption | decide)) hZ (hw _ (List.mem_of_getElem? (i := 62) rfl)) (hw _ (List.mem_of_getElem? (i := 61) rfl)) (by decide) (by decide)) (g := (mkF m 36 #[.val (.ref a1), .val (.ref a2), .val (.int (0 : Int32)), .val (.int nn), .val .null, .unset] [(.int nn), (.int (0 : Int32)), (.ref a2)])) rfl (by rw [hml]; rfl) (argsL := [(.ref a2), (.int (0 : Int32)), (.int nn)]) (rest := []) (lenOf pd_153 rfl) rfl (by show 2 * 0 + _ ≤ _; exact Nat.le_of_eq rfl) (hb hby d_jdk_42_method_149_36) (fun _ _ => ⟨rfl, e209, (by decide : 0 + 2 ≤ _), (by decide : 0 + 12 ≤ _)⟩)
  dsimp only [Pt.U, Pt.locs, Pt.cells, Pt.slots] at X211 l211 y211 z211 st211 hQ211
  subst l211 y211 z211
  obtain ⟨x_211, k_211, rfl, N211q, K211, f211_0, pr211_0⟩ := hQ211
  have N211 := Fr.app N0 N211q
  have z211 : h0.size ≤ T211.heap.size := K211.1
  have lt211_0 : @LT.lt Nat _ x_211 T211.heap.size := f211_0.lt
  refine own_Go.st st211 ?_
  show own_Go _ _ _ _ (T211.setTop (mkF m 39 #[.val (.ref a1), .val (.ref a2), .val (.int (0 : Int32)), .val (.int nn), .val .null, .unset] [(.ref x_211)]))
  refine own_Go.st (fun _ k => XS.astore X211.here hx rfl (hb hby d_jdk_42_method_149_39) rfl rfl (l' := #[.val (.ref a1), .val (.ref a2), .val (.int (0 : Int32)), .val (.int nn), .val .null, .val (.ref x_211)]) rfl k) ?_
  show own_Go _ _ _ _ (T211.setTop (mkF m 41 #[.val (.ref a1), .val (.ref a2), .val (.int (0 : Int32)), .val (.int nn), .val .null, .val (.ref x_211)] []))
  refine own_Go.st (fun _ k => XS.aloadN X211.here hx rfl (hb hby d_jdk_42_method_149_41) rfl rfl k) ?_
  show own_Go _ _ _ _ (T211.setTop (mkF m 42 #[.val (.ref a1), .val (.ref a2), .val (.int (0 : Int32)), .val (.int nn), .val .null, .val (.ref x_211)] [(.ref a1)]))
  refine own_Go.st (fun _ k => XS.aload X211.here hx rfl (hb hby d_jdk_42_method_149_42) rfl rfl k) ?_
  show own_Go _ _ _ _ (T211.setTop (mkF m 44 #[.val (.ref a1), .val (.ref a2), .val (.int (0 : Int32)), .val (.int nn), .val .null, .val (.ref x_211)] [(.ref x_211), (.ref a1)]))
  refine own_Go.st (fun _ k => XS.iloadN X211.here hx rfl (hb hby d_jdk_42_method_149_44) rfl k) ?_
  show own_Go _ _ _ _ (T211.setTop (mkF m 45 #[.val (.ref a1), .val (.ref a2), .val (.int (0 : Int32)), .val (.int nn), .val .null, .val (.ref x_211)] [(.int nn), (.ref x_211), (.ref a1)]))
  have f213 : Old Z Z.heap.size T211.heap := OL.keep K211 all0
  obtain ⟨_, _, ⟨T212, L212, k212, n212⟩, -, X212, ⟨Lc212, hQ212, l212, y212, z212⟩, st212⟩ := Jvm.LawKit.callS X211 hx (y := (⟨"java/lang/StringUTF16", "coderFromArrayLen", "([BI)B"⟩ : MethodName)) hown (mvT hZ (hw _ (List.mem_of_getElem? (i := 66) rfl))) (mvT hZ (hw _ (List.mem_of_getElem? (i := 67) rfl))) (mvT hZ (hw _ (List.mem_of_getElem? (i := 61) rfl))) (mvT hZ (hw _ (List.mem_of_getElem? (i := 68) rfl))) (by decide) (backOf (W := 1) (rm_cfal l Z a0 hw [] x_211 nn cs.length k_211 (Int32.ofNat (2 * cs.length)) (StrChars.Road.wideBytes cs) (.int (0 : Int32)) T211.heap f213 f211_0 hnn rfl ⟨(by obtain ⟨c, hc, -⟩ := hbig; exact List.length_pos_of_mem hc), by omega⟩) hZ (hw _ (List.mem_of_getElem? (i := 68) rfl)) (hw _ (List.mem_of_getElem? (i := 61) rfl)) (by decide) (by decide)) (g := (mkF m 45 #[.val (.ref a1), .val (.ref a2), .val (.int (0 : Int32)), .val (.int nn), .val .null, .val (.ref x_211)] [(.int nn), (.ref x_211), (.ref a1)])) rfl (by rw [hml]; rfl) (argsL := [(.ref x_211), (.int nn)]) (rest := [(.ref a1)]) (lenOf pd_182 rfl) rfl (by show 2 * 0 + _ ≤ _; exact Nat.le_of_eq rfl) (hb hby d_jdk_42_method_149_45) (fun _ _ => ⟨rfl, rfl, (by decide : 2 + 0 ≤ _), (by decide : 12 + 0 ≤ _)⟩)
  dsimp only [Pt.U, Pt.locs, Pt.cells, Pt.slots] at X212 l212 y212 z212 st212 hQ212
  subst l212 y212 z212
  obtain ⟨rfl, N212q, K212⟩ := hQ212
  have N212 := Fr.app N211 N212q
  refine own_Go.st st212 ?_
  show own_Go _ _ _ _ (T212.setTop (mkF m 48 #[.val (.ref a1), .val (.ref a2), .val (.int (0 : Int32)), .val (.int nn), .val .null, .val (.ref x_211)] [(.int (1 : Int32)), (.ref a1)]))
  have f214 : Fld Z T211.heap a1 "java/lang/String" "coder" "B" (.int (0 : Int32)) := p2_.keep K211 nin0
  have f215 : Exa Z T211.heap a1 "java/lang/String" := p0_.keep K211
  obtain ⟨T216, h216, X216, e216, W216, st216⟩ := putF X212 hx hZ hown (host := "") (Or.inl (hw _ (List.mem_of_getElem? (i := 33) rfl))) Via.refl K212 f214 f215 (Or.inr ⟨(hw _ (List.mem_of_getElem? (i := 29) rfl)), rfl, hnm⟩) (hw _ (List.mem_of_getElem? (i := 13) rfl)) (ty := .byte) (by decide) rfl (by decide) (g := (mkF m 48 #[.val (.ref a1), .val (.ref a2), .val (.int (0 : Int32)), .val (.int nn), .val .null, .val (.ref x_211)] [(.int (1 : Int32)), (.ref a1)])) rfl rfl (hb hby d_jdk_42_method_149_48)
  refine own_Go.st st216 ?_
  have N216 := Fr.snoc X216 N212 (by omega)
  have z216 : T211.heap.size ≤ h216.size := Nat.le_of_eq W216.size.symm
  have f217 : Fld Z h216 a1 "java/lang/String" "coder" "B" (.int (1 : Int32)) := f214.same W216
  show own_Go _ _ _ _ (T216.setTop (mkF m 51 #[.val (.ref a1), .val (.ref a2), .val (.int (0 : Int32)), .val (.int nn), .val .null, .val (.ref x_211)] []))
  refine own_Go.st (fun _ k => XS.aloadN X216.here hx rfl (hb hby d_jdk_42_method_149_51) rfl rfl k) ?_
  show own_Go _ _ _ _ (T216.setTop (mkF m 52 #[.val (.ref a1), .val (.ref a2), .val (.int (0 : Int32)), .val (.int nn), .val .null, .val (.ref x_211)] [(.ref a1)]))
  refine own_Go.st (fun _ k => XS.aload X216.here hx rfl (hb hby d_jdk_42_method_149_52) rfl rfl k) ?_
  show own_Go _ _ _ _ (T216.setTop (mkF m 54 #[.val (.ref a1), .val (.ref a2), .val (.int (0 : Int32)), .val (.int nn), .val .null, .val (.ref x_211)] [(.ref x_211), (.ref a1)]))
  have f218 : Fld Z T211.heap a1 "java/lang/String" "value" "[B" .null := p1_.keep K211 nin0
  have f219 : Fld Z h216 a1 "java/lang/String" "value" "[B" .null := f218.other W216 (Or.inr (slot_ne (Or.inr (hw _ (List.mem_of_getElem? (i := 28) rfl))) (Or.inr (hw _ (List.mem_of_getElem? (i := 29) rfl))) (by decide) (t := (.array .byte)) (t' := .byte) (by decide) (by decide)))
  have f220 : Exa Z h216 a1 "java/lang/String" := f215.wr W216
  obtain ⟨T221, h221, X221, e221, W221, st221⟩ := putF X216 hx hZ hown (host := "") (Or.inl (hw _ (List.mem_of_getElem? (i := 32) rfl))) Via.refl e216 f219 f220 (Or.inr ⟨(hw _ (List.mem_of_getElem? (i := 28) rfl)), rfl, hnm⟩) (hw _ (List.mem_of_getElem? (i := 13) rfl)) (ty := (.array .byte)) (by decide) rfl rfl (g := (mkF m 54 #[.val (.ref a1), .val (.ref a2), .val (.int (0 : Int32)), .val (.int nn), .val .null, .val (.ref x_211)] [(.ref x_211), (.ref a1)])) rfl rfl (hb hby d_jdk_42_method_149_54)
  refine own_Go.st st221 ?_
  have N221 := Fr.snoc X221 N216 (by omega)
  have z221 : h216.size ≤ h221.size := Nat.le_of_eq W221.size.symm
  have f222 : Fld Z h221 a1 "java/lang/String" "value" "[B" (.ref x_211) := f219.same W221
  show own_Go _ _ _ _ (T221.setTop (mkF m 57 #[.val (.ref a1), .val (.ref a2), .val (.int (0 : Int32)), .val (.int nn), .val .null, .val (.ref x_211)] []))
  obtain ⟨fs223, hr223, hrun223, hend223, hW223, hsm223⟩ := X221.leave (v := none) (fun _ => rfl)
  have f224 : Fld Z h221 a1 "java/lang/String" "coder" "B" (.int (1 : Int32)) := f217.other W221 (Or.inr (slot_ne (Or.inr (hw _ (List.mem_of_getElem? (i := 29) rfl))) (Or.inr (hw _ (List.mem_of_getElem? (i := 28) rfl))) (by decide) (t := .byte) (t' := (.array .byte)) (by decide) (by decide)))
  have f225 : Exa Z h221 a1 "java/lang/String" := f220.wr W221
  have ne226 : @Ne Nat a1 x_211 := Exa.neArv f215 f211_0 (hw _ (List.mem_of_getElem? (i := 13) rfl))
  have f227 : Arv Z h216 x_211 k_211 .byte (Int32.ofNat (2 * cs.length)) (StrChars.Road.wideBytes cs) (.int (0 : Int32)) := f211_0.other W216 (Ne.symm ne226)
  have f228 : Arv Z h221 x_211 k_211 .byte (Int32.ofNat (2 * cs.length)) (StrChars.Road.wideBytes cs) (.int (0 : Int32)) := f227.other W221 (Ne.symm ne226)
  have K229 : Keep h0 T211.heap [a1] := (Keep.refl h0 [a1]).trans K211 all0
  have K230 : Keep h0 h216 [a1] := K229.wr W216 (Or.inl (List.mem_of_getElem? (i := 0) rfl))
  have K231 : Keep h0 h221 [a1] := K230.wr W221 (Or.inl (List.mem_of_getElem? (i := 0) rfl))
  subst hPP
  refine ⟨_, _, X221.returnOut hx Bd.returns (hb hby d_jdk_42_method_149_57) hr223, hrun223, hend223, _, _, rfl, ?_, ⟨_, rfl⟩, hW223, hsm223.mono (by decide) (by decide)⟩
  · show Q_init4u Z _ _ _ _ _ _ _ h0 _ T221.heap _
    rw [e221]
    exact ⟨x_211, rfl, N221, K231, ⟨k_211, 1, _, _, f225, f222, f224, f228, Or.inr ⟨rfl, rfl, rfl, hbig⟩, hrng, by omega⟩, (by omega)⟩
def Q_init1u (Z : State) (a1 : Nat) (a2 : Nat) (nn : Int32) (cs : List Int32) (k1 : ClassId) (d1 : Value) (zc : Int32) (h0 : Heap) (v : Option Value) (h : Heap) (L : List Loc) : Prop := ∃ (t : Nat), v = none ∧ Fr Z.heap.size L ∧ Keep h0 h [a1] ∧ own_Str Z h a1 t cs ∧ (h0.size ≤ t)
set_option maxRecDepth 65536 in
set_option maxHeartbeats 40000000 in
theorem rm_init1u (l : Launch) (Z : State) (a0 : Array Value) (hw : ∀ d ∈ tables_1, d.before a0 Z = true) (ws : List Jvm.Cond) (a1 : Nat) (a2 : Nat) (nn : Int32) (cs : List Int32) (k1 : ClassId) (d1 : Value) (zc : Int32) (h0 : Heap) (OL : Old Z Z.heap.size h0) (p0_ : Exa Z h0 a1 "java/lang/String") (p1_ : Fld Z h0 a1 "java/lang/String" "value" "[B" .null) (p2_ : Fld Z h0 a1 "java/lang/String" "coder" "B" (.int (0 : Int32))) (p3_ : Arv Z h0 a2 k1 .char nn (cs.map Value.int) d1) (st_COMPACT_STRINGS : Sta Z Z.heap "java/lang/String" "COMPACT_STRINGS" "Z" (.int zc)) (st__assertionsDisabled : Sta Z Z.heap "java/lang/StringUTF16" "$assertionsDisabled" "Z" (.int (1 : Int32))) (st_HI_BYTE_SHIFT : Sta Z Z.heap "java/lang/StringUTF16" "HI_BYTE_SHIFT" "I" (.int (0 : Int32))) (st_LO_BYTE_SHIFT : Sta Z Z.heap "java/lang/StringUTF16" "LO_BYTE_SHIFT" "I" (.int (8 : Int32))) (hnn : nn = Int32.ofNat cs.length) (hle : cs.length ≤ 4) (hbig : ∃ c ∈ cs, (255 : Int32) < c) (hrng : ∀ c ∈ cs, ¬ c < 0 ∧ ¬ (65535 : Int32) < c) (hn0 : Z.heap.size ≤ a1) (hzc : ¬ zc = 0) :
    MetFree l (⟨"java/lang/String", "<init>", "([C)V"⟩ : MethodName) (head1 (Jvm.Cond.code (⟨"java/lang/String", "<init>", "([C)V"⟩ : MethodName) jdk_42_method_3_code 2 none :: ws) ({ frames := 5, cells := 2, slots := 12, locals := 76 } : Room)) (fun a U => a = #[(.ref a1), (.ref a2)] ∧ Z.Warmed39 U.vm ∧ U.heap = h0) (fun _ _ _ _ _ => True) (fun _ U o U' => ∃ v L, o = .returned v ∧ Q_init1u Z a1 a2 nn cs k1 d1 zc h0 v U'.heap L ∧ FrameEnd U o U' L ({ frames := 5, cells := 2, slots := 12, locals := 76 } : Room).cells ({ frames := 5, cells := 2, slots := 12, locals := 76 } : Room).slots) := by
  refine MetFree.of_bodySF (plainFor_of_name pn_0) hisR ?_
  intro p e s m args below meth c s₁ Bd hml0 hP hK
  obtain ⟨rfl, hZ, hh⟩ := hP
  have hx := Bd.exec
  have hby := Bd.bytes
  have hml : c.maxLocals = 2 := hml0
  have hown : s.vm.findClass "java/lang/String" = some m.cls := findClass_of_methodNamed Bd.named
  have hnm := (name_of_methodNamed Bd.named Bd.method).1
  have X0 : Stand p l e ({ frames := 5, cells := 2, slots := 12, locals := 76 } : Room) s m #[(.ref a1), (.ref a2)] below meth c s₁ [] 0 0 := Stand.of_body Bd
  have e0 : s₁.heap = h0 := by rw [← hh, Bd.state]; rfl
  have N0 := Fr.nil Z.heap.size
  have Z0 : Z.heap.size ≤ h0.size := OL.2.1
  have lt_0 : @LT.lt Nat _ a1 h0.size := p0_.lt
  have lt_1 : @LT.lt Nat _ a1 h0.size := p1_.lt
  have lt_2 : @LT.lt Nat _ a1 h0.size := p2_.lt
  have lt_3 : @LT.lt Nat _ a2 h0.size := p3_.lt
  obtain ⟨PP, hPP⟩ : ∃ PP : Outcome → State → Prop, PP = (fun o tE => ∃ v L, o = .returned v ∧ Q_init1u Z a1 a2 nn cs k1 d1 zc h0 v tE.heap L ∧ FrameEnd s o tE L ({ frames := 5, cells := 2, slots := 12, locals := 76 } : Room).cells ({ frames := 5, cells := 2, slots := 12, locals := 76 } : Room).slots) := ⟨_, rfl⟩
  show own_Go p.tables e below (fun o tE => ∃ v L, o = .returned v ∧ Q_init1u Z a1 a2 nn cs k1 d1 zc h0 v tE.heap L ∧ FrameEnd s o tE L ({ frames := 5, cells := 2, slots := 12, locals := 76 } : Room).cells ({ frames := 5, cells := 2, slots := 12, locals := 76 } : Room).slots) (s₁.setTop (entryFrame m #[(.ref a1), (.ref a2)] 2))
  rw [← hPP]
  refine own_Go.st (fun t k => castTop (ef_15 m a1 a2) k) ?_
  show own_Go _ _ _ _ (s₁.setTop (mkF m 0 #[.val (.ref a1), .val (.ref a2)] []))
  refine own_Go.st (fun _ k => XS.aloadN X0.here hx rfl (hb hby d_jdk_42_method_3_0) rfl rfl k) ?_
  show own_Go _ _ _ _ (s₁.setTop (mkF m 1 #[.val (.ref a1), .val (.ref a2)] [(.ref a1)]))
  refine own_Go.st (fun _ k => XS.aloadN X0.here hx rfl (hb hby d_jdk_42_method_3_1) rfl rfl k) ?_
  show own_Go _ _ _ _ (s₁.setTop (mkF m 2 #[.val (.ref a1), .val (.ref a2)] [(.ref a2), (.ref a1)]))
  refine own_Go.st (fun _ k => XS.iconst X0.here hx rfl (hb hby d_jdk_42_method_3_2) k) ?_
  show own_Go _ _ _ _ (s₁.setTop (mkF m 3 #[.val (.ref a1), .val (.ref a2)] [(.int (0 : Int32)), (.ref a2), (.ref a1)]))
  refine own_Go.st (fun _ k => XS.aloadN X0.here hx rfl (hb hby d_jdk_42_method_3_3) rfl rfl k) ?_
  show own_Go _ _ _ _ (s₁.setTop (mkF m 4 #[.val (.ref a1), .val (.ref a2)] [(.ref a2), (.int (0 : Int32)), (.ref a2), (.ref a1)]))
  obtain ⟨c232, Ar232, q232, S232, Nn232, H232, G232⟩ := id p3_
  refine own_Go.st (X0.arraylength hx (by rw [e0]; exact Ar232.1) (State.isArrayOf_alike hZ.alike Ar232.2.1) (g := (mkF m 4 #[.val (.ref a1), .val (.ref a2)] [(.ref a2), (.int (0 : Int32)), (.ref a2), (.ref a1)])) rfl rfl (hb hby d_jdk_42_method_3_4)) ?_
  rw [len_of S232 Nn232]
  show own_Go _ _ _ _ (s₁.setTop (mkF m 5 #[.val (.ref a1), .val (.ref a2)] [(.int nn), (.int (0 : Int32)), (.ref a2), (.ref a1)]))
  refine own_Go.st (fun _ k => XS.aconstNull X0.here hx rfl (hb hby d_jdk_42_method_3_5) k) ?_
  show own_Go _ _ _ _ (s₁.setTop (mkF m 6 #[.val (.ref a1), .val (.ref a2)] [.null, (.int nn), (.int (0 : Int32)), (.ref a2), (.ref a1)]))
  obtain ⟨_, _, ⟨T233, L233, k233, n233⟩, -, X233, ⟨Lc233, hQ233, l233, y233, z233⟩, st233⟩ := X0.specialBack hx (y := (⟨"java/lang/String", "<init>", "([CIILjava/lang/Void;)V"⟩ : MethodName)) rfl hown (mvT hZ (hw _ (List.mem_of_getElem? (i := 19) rfl))) (mvT hZ (hw _ (List.mem_of_getElem? (i := 20) rfl))) (mvT hZ (hw _ (List.mem_of_getElem? (i := 22) rfl))) (by decide) (backOf (W := 0) (rm_init4u l Z a0 hw [] a1 a2 nn cs k1 d1 zc h0 OL p0_ p1_ p2_ p3_ st_COMPACT_STRINGS st__assertionsDisabled st_HI_BYTE_SHIFT st_LO_BYTE_SHIFT (by first | assumption | decide) (by first | assumption | decide) (by first | assumption | decide) (by first | assumption | decide) (by first | assumption | decide) (by first | assumption | decide)) hZ (hw _ (List.mem_of_getElem? (i := 22) rfl)) (hw _ (List.mem_of_getElem? (i := 14) rfl)) (by decide) (by decide)) (g := (mkF m 6 #[.val (.ref a1), .val (.ref a2)] [.null, (.int nn), (.int (0 : Int32)), (.ref a2), (.ref a1)])) rfl (by rw [hml]; rfl) (Steps.refl _) (a := a1) (argsL := [(.ref a2), (.int (0 : Int32)), (.int nn), .null]) (rest := []) (lenOf pd_22 rfl) rfl (by show 2 * 0 + _ ≤ _; exact Nat.le_of_eq rfl) (hb hby d_jdk_42_method_3_6) (fun _ _ => ⟨rfl, e0, (by decide : 0 + 2 ≤ _), (by decide : 0 + 12 ≤ _)⟩)
  dsimp only [Pt.U, Pt.locs, Pt.cells, Pt.slots] at X233 l233 y233 z233 st233 hQ233
  subst l233 y233 z233
  obtain ⟨t_233, rfl, N233q, K233, f233_0, pr233_0⟩ := hQ233
  have N233 := Fr.app N0 N233q
  have z233 : h0.size ≤ T233.heap.size := K233.1
  have lt233_0 : @LT.lt Nat _ a1 T233.heap.size := f233_0.lt
  have ltv233_0 : @LT.lt Nat _ t_233 T233.heap.size := f233_0.ltv
  refine own_Go.tr st233 ?_
  show own_Go _ _ _ _ (T233.setTop (mkF m 9 #[.val (.ref a1), .val (.ref a2)] []))
  obtain ⟨fs234, hr234, hrun234, hend234, hW234, hsm234⟩ := X233.leave (v := none) (fun _ => rfl)
  have K235 : Keep h0 T233.heap [a1] := (Keep.refl h0 [a1]).trans K233 (allS (Or.inl (List.mem_of_getElem? (i := 0) rfl)) all0)
  subst hPP
  refine ⟨_, _, X233.returnOut hx Bd.returns (hb hby d_jdk_42_method_3_9) hr234, hrun234, hend234, _, _, rfl, ?_, ⟨_, rfl⟩, hW234, hsm234.mono (by decide) (by decide)⟩
  · show Q_init1u Z _ _ _ _ _ _ _ h0 _ T233.heap _
    exact ⟨t_233, rfl, N233, K235, f233_0, (by omega)⟩

set_option maxHeartbeats 4000000 in
theorem own_backStr {p : Program} {l : Launch} {e : Env} {R : Room} {s : State} {args : Array Value} {below : List Frame} {len W : Nat} {Z : State} {a0 : Array Value} {h : Heap} (hZ : Z.Warmed39 s.vm) (hw : ∀ d ∈ tables_1, d.before a0 Z = true)
    {x b : Addr} {nn : Int32} {cs : List Int32} {k1 : ClassId} {d1 : Value} {zc : Int32} (OL : Old Z Z.heap.size h) (E : Exa Z h x "java/lang/String") (V : Fld Z h x "java/lang/String" "value" "[B" .null) (C : Fld Z h x "java/lang/String" "coder" "B" (.int (0 : Int32))) (K : Arv Z h b k1 .char nn (cs.map Value.int) d1)
    (s1 : Sta Z Z.heap "java/lang/String" "COMPACT_STRINGS" "Z" (.int zc)) (s2 : Sta Z Z.heap "java/lang/StringUTF16" "$assertionsDisabled" "Z" (.int (1 : Int32))) (s3 : Sta Z Z.heap "java/lang/StringUTF16" "HI_BYTE_SHIFT" "I" (.int (0 : Int32))) (s4 : Sta Z Z.heap "java/lang/StringUTF16" "LO_BYTE_SHIFT" "I" (.int (8 : Int32)))
    (hnn : nn = Int32.ofNat cs.length) (hlen : 0 < cs.length) (hle : cs.length ≤ 4) (hrng : ∀ c ∈ cs, ¬ c < 0 ∧ ¬ (65535 : Int32) < c) (hn0 : Z.heap.size ≤ x) (hzc : ¬ zc = 0) (hfr : 6 ≤ R.frames) (hlo : W + (2 + 11) + 76 ≤ R.locals) :
    Back l R p e below s args (⟨"java/lang/String", "<init>", "([C)V"⟩ : MethodName) len W (fun P a => a = #[.ref x, .ref b] ∧ P.U.heap = h ∧ P.cells + 2 ≤ R.cells ∧ P.slots + 12 ≤ R.slots)
      (fun P _ v B => ∃ L, Q_init1u Z x b nn cs k1 d1 zc h v B.U.heap L ∧ B.locs = P.locs ++ L ∧ B.cells = P.cells + 2 ∧ B.slots = P.slots + 12) := by
  by_cases hbig : ∃ c ∈ cs, (255 : Int32) < c
  · exact backOf (rm := ({ frames := 5, cells := 2, slots := 12, locals := 76 } : Room)) (rm_init1u l Z a0 hw [] x b nn cs k1 d1 zc h OL E V C K s1 s2 s3 s4 hnn hle hbig hrng hn0 hzc) hZ (hw _ (List.mem_of_getElem? (i := 18) rfl)) (hw _ (List.mem_of_getElem? (i := 14) rfl)) hfr hlo
  · have hp : ∀ c ∈ cs, ¬ c < 0 ∧ ¬ (255 : Int32) < c := fun c hc => ⟨(hrng c hc).1, fun q => hbig ⟨c, hc, q⟩⟩
    have hb := StrChars.Road.backV (p := p) (l := l) (e := e) (R := R) (s := s) (args := args) (below := below) (len := len) (W := W) hZ (own_hws hw) (kI := 4) (hw _ (List.mem_of_getElem? (i := 13) rfl)) (cs := cs) (bs := cs.map (fun c => c.toInt8.toInt32)) (n := cs.length) (n0 := Z.heap.size) hn0 (OL.2.1) E V C K (s1.ext OL.2) hzc rfl hnn hlen (by omega) hp rfl (by omega) (by omega)
    intro m meth c A g ig mk a X hg hs hd hW hm hpre
    obtain ⟨hp1, hp2, hp3, hp4⟩ := hpre
    obtain ⟨v, B, X', ⟨L, hq, hl, hc, hsl⟩, st⟩ := hb m meth c A g ig mk a X hg hs hd hW hm ⟨hp1, hp2, by omega, by omega⟩
    refine ⟨v, ⟨B.U, B.locs, A.cells + 2, A.slots + 12⟩, ?_, ⟨L, ?_, hl, rfl, rfl⟩, st⟩
    · exact X'.wide (fun x hx _ => hx) (by show B.cells ≤ A.cells + 2; omega) (by show B.slots ≤ A.slots + 12; omega)
    · obtain ⟨rfl, N, Kp, Ex, Cd, t, kb, u1, u2, u3, Vl, Ar⟩ := hq
      exact ⟨t, rfl, N, Kp, ⟨kb, 0, nn, _, Ex, Vl, Cd, Ar, hnn ▸ StrChars.Road.codOf rfl (fun c q => (hp c q).2), own_upL hp, by omega⟩, u2⟩


def own_hi (c : Int32) : Prop := ¬ c < (55296 : Int32) ∧ c < (56320 : Int32)
def own_lo (c : Int32) : Prop := ¬ c < (56320 : Int32) ∧ c < (57344 : Int32)
instance (c : Int32) : Decidable (own_hi c) := by unfold own_hi; infer_instance
instance (c : Int32) : Decidable (own_lo c) := by unfold own_lo; infer_instance
theorem own_lohi {c : Int32} (h : own_lo c) : ¬ own_hi c := fun q => h.1 q.2
def own_pairs : List Int32 → Nat
  | [] => 0
  | [_] => 0
  | a :: b :: r => if own_hi a ∧ own_lo b then 1 + own_pairs r else own_pairs (b :: r)
theorem own_pairs_le : ∀ cs : List Int32, own_pairs cs ≤ cs.length
  | [] => Nat.le_refl _
  | [_] => Nat.zero_le _
  | a :: b :: r => by
    have h1 := own_pairs_le r
    have h2 := own_pairs_le (b :: r)
    simp only [own_pairs]
    split <;> simp at h2 ⊢ <;> omega
theorem own_pairs_drop {cs : List Int32} {i : Nat} (h : i + 1 < cs.length) : own_pairs (cs.drop i) = if own_hi (cs.getD i 0) ∧ own_lo (cs.getD (i + 1) 0) then 1 + own_pairs (cs.drop (i + 2)) else own_pairs (cs.drop (i + 1)) := by
  rw [List.drop_eq_getElem_cons (by omega : i < cs.length), List.drop_eq_getElem_cons (by omega : i + 1 < cs.length)]
  simp only [own_pairs]
  have e1 : cs.getD i 0 = cs[i] := by simp [List.getD_eq_getElem?_getD, (by omega : i < cs.length)]
  have e2 : cs.getD (i + 1) 0 = cs[i + 1] := by simp [List.getD_eq_getElem?_getD, h]
  rw [e1, e2]
theorem own_pairs_end {cs : List Int32} {i : Nat} (h : ¬ i + 1 < cs.length) : own_pairs (cs.drop i) = 0 := by
  have hl : (cs.drop i).length ≤ 1 := by rw [List.length_drop]; omega
  match hq : cs.drop i with
  | [] => rfl
  | [_] => rfl
  | a :: b :: r => rw [hq] at hl; simp at hl
theorem own_lat_pairs : ∀ {cs : List Int32}, (∀ c ∈ cs, ¬ (255 : Int32) < c) → own_pairs cs = 0
  | [], _ => rfl
  | [_], _ => rfl
  | a :: b :: r, h => by
    have h1 : ¬ own_hi a := fun q => by
      have q1 := h a (by simp)
      have q2 := q.1
      rw [Int32.lt_iff_toInt_lt] at q1 q2
      have e1 : (255 : Int32).toInt = 255 := by decide
      have e2 : (55296 : Int32).toInt = 55296 := by decide
      omega
    simp only [own_pairs, h1, false_and, if_false]
    exact own_lat_pairs (fun c hc => h c (List.mem_cons_of_mem _ hc))
def own_pr (a b r : Int32) : Prop := (r = 1 ∧ own_hi a ∧ own_lo b) ∨ (r = 0 ∧ ¬ (own_hi a ∧ own_lo b))
theorem own_ofP {r : Nat} (h1 : 0 < r) (h : r ≤ 4000) : Int32.ofNat r + (-1 : Int32) = Int32.ofNat (r - 1) := by
  apply Int32.toInt_inj.mp
  have a := c_iadd (Int32.ofNat r) (-1)
  have b := own_of (i := r) (by omega)
  have c := own_of (i := r - 1) (by omega)
  have q := rng32 (Int32.ofNat r + (-1))
  have e1 : (-1 : Int32).toInt = -1 := by decide
  omega
theorem own_ofM {r : Nat} (h1 : 0 < r) (h : r ≤ 4000) : Int32.ofNat r - (1 : Int32) = Int32.ofNat (r - 1) := by
  apply Int32.toInt_inj.mp
  have a := c_isub (Int32.ofNat r) 1
  have b := own_of (i := r) (by omega)
  have c := own_of (i := r - 1) (by omega)
  have q := rng32 (Int32.ofNat r - 1)
  have e1 : (1 : Int32).toInt = 1 := by decide
  omega
theorem own_sub0 (x : Int32) : x - (0 : Int32) = x := by simp
theorem own_narI (x : Int32) : nar .int x = x := rfl

theorem pn_189 : plainName "java/lang/Character" = true := by first | (simp [plainName, overriddenIn]; done) | decide +kernel
theorem d_jdk_89_method_14_0 : decode jdk_89_method_14_code 0 = .ok (.iload_n 0, 1) := by decide +kernel
theorem d_jdk_89_method_14_1 : decode jdk_89_method_14_code 1 = .ok (.ldc 75, 2) := by decide +kernel
theorem d_jdk_89_method_14_3 : decode jdk_89_method_14_code 3 = .ok (.if_icmp .lt 13, 3) := by decide +kernel
theorem d_jdk_89_method_14_16 : decode jdk_89_method_14_code 16 = .ok (.iconst 0, 1) := by decide +kernel
theorem d_jdk_89_method_14_17 : decode jdk_89_method_14_code 17 = .ok (.ireturn, 1) := by decide +kernel
theorem d_jdk_89_method_14_6 : decode jdk_89_method_14_code 6 = .ok (.iload_n 0, 1) := by decide +kernel
theorem d_jdk_89_method_14_7 : decode jdk_89_method_14_code 7 = .ok (.ldc 76, 2) := by decide +kernel
theorem d_jdk_89_method_14_9 : decode jdk_89_method_14_code 9 = .ok (.if_icmp .ge 7, 3) := by decide +kernel
theorem d_jdk_89_method_14_12 : decode jdk_89_method_14_code 12 = .ok (.iconst 1, 1) := by decide +kernel
theorem d_jdk_89_method_14_13 : decode jdk_89_method_14_code 13 = .ok (.goto 4, 3) := by decide +kernel
def Q_ish (Z : State) (p1 : Int32) (h0 : Heap) (v : Option Value) (h : Heap) (L : List Loc) : Prop := ∃ (r : Int32), v = some (.int r) ∧ Fr Z.heap.size L ∧ h = h0 ∧ ((r = 1 ∧ own_hi p1) ∨ (r = 0 ∧ ¬ own_hi p1))
set_option maxRecDepth 65536 in
set_option maxHeartbeats 40000000 in
theorem rm_ish (l : Launch) (Z : State) (a0 : Array Value) (hw : ∀ d ∈ tables_1, d.before a0 Z = true) (ws : List Jvm.Cond) (p1 : Int32) (h0 : Heap) (OL : Old Z Z.heap.size h0) :
    MetFree l (⟨"java/lang/Character", "isHighSurrogate", "(C)Z"⟩ : MethodName) (head1 (Jvm.Cond.code (⟨"java/lang/Character", "isHighSurrogate", "(C)Z"⟩ : MethodName) jdk_89_method_14_code 1 (some .boolean) :: ws) ({ frames := 0, cells := 0, slots := 0, locals := 0 } : Room)) (fun a U => a = #[(.int p1)] ∧ Z.Warmed39 U.vm ∧ U.heap = h0) (fun _ _ _ _ _ => True) (fun _ U o U' => ∃ v L, o = .returned v ∧ Q_ish Z p1 h0 v U'.heap L ∧ FrameEnd U o U' L ({ frames := 0, cells := 0, slots := 0, locals := 0 } : Room).cells ({ frames := 0, cells := 0, slots := 0, locals := 0 } : Room).slots) := by
  refine MetFree.of_bodySF (plainFor_of_name pn_189) hisR ?_
  intro p e s m args below meth c s₁ Bd hml0 hP hK
  obtain ⟨rfl, hZ, hh⟩ := hP
  have hx := Bd.exec
  have hby := Bd.bytes
  have hml : c.maxLocals = 1 := hml0
  have hown : s.vm.findClass "java/lang/Character" = some m.cls := findClass_of_methodNamed Bd.named
  have hnm := (name_of_methodNamed Bd.named Bd.method).1
  have X0 : Stand p l e ({ frames := 0, cells := 0, slots := 0, locals := 0 } : Room) s m #[(.int p1)] below meth c s₁ [] 0 0 := Stand.of_body Bd
  have e0 : s₁.heap = h0 := by rw [← hh, Bd.state]; rfl
  have N0 := Fr.nil Z.heap.size
  have Z0 : Z.heap.size ≤ h0.size := OL.2.1
  obtain ⟨PP, hPP⟩ : ∃ PP : Outcome → State → Prop, PP = (fun o tE => ∃ v L, o = .returned v ∧ Q_ish Z p1 h0 v tE.heap L ∧ FrameEnd s o tE L ({ frames := 0, cells := 0, slots := 0, locals := 0 } : Room).cells ({ frames := 0, cells := 0, slots := 0, locals := 0 } : Room).slots) := ⟨_, rfl⟩
  show own_Go p.tables e below (fun o tE => ∃ v L, o = .returned v ∧ Q_ish Z p1 h0 v tE.heap L ∧ FrameEnd s o tE L ({ frames := 0, cells := 0, slots := 0, locals := 0 } : Room).cells ({ frames := 0, cells := 0, slots := 0, locals := 0 } : Room).slots) (s₁.setTop (entryFrame m #[(.int p1)] 1))
  rw [← hPP]
  refine own_Go.st (fun t k => castTop (ef_98 m p1) k) ?_
  show own_Go _ _ _ _ (s₁.setTop (mkF m 0 #[.val (.int p1)] []))
  refine own_Go.st (fun _ k => XS.iloadN X0.here hx rfl (hb hby d_jdk_89_method_14_0) rfl k) ?_
  show own_Go _ _ _ _ (s₁.setTop (mkF m 1 #[.val (.int p1)] [(.int p1)]))
  refine own_Go.st (X0.ldcInt hx hown (mvT hZ (hw _ (List.mem_of_getElem? (i := 123) rfl))) (g := (mkF m 1 #[.val (.int p1)] [(.int p1)])) rfl (hb hby d_jdk_89_method_14_1)) ?_
  show own_Go _ _ _ _ (s₁.setTop (mkF m 3 #[.val (.int p1)] [(.int (55296 : Int32)), (.int p1)]))
  by_cases hc236 : p1 < (55296 : Int32)
  ·
    refine own_Go.st (fun _ k => XS.icmpYes X0.here hx rfl (pc0 := 3) (pc' := 16) rfl (hb hby d_jdk_89_method_14_3) rfl (tlt hc236).1 (by decide) (by decide) k) ?_
    show own_Go _ _ _ _ (s₁.setTop (mkF m 16 #[.val (.int p1)] []))
    refine own_Go.st (fun _ k => XS.iconst X0.here hx rfl (hb hby d_jdk_89_method_14_16) k) ?_
    show own_Go _ _ _ _ (s₁.setTop (mkF m 17 #[.val (.int p1)] [(.int (0 : Int32))]))
    obtain ⟨fs237, hr237, hrun237, hend237, hW237, hsm237⟩ := X0.leave (v := some (.int (nar .boolean (0 : Int32)))) (fun h => by rw [Bd.returns] at h; cases h)
    subst hPP
    refine ⟨_, _, retN X0 hx (t := .boolean) Bd.returns (by simp) (hb hby d_jdk_89_method_14_17) hr237, hrun237, hend237, _, _, rfl, ?_, ⟨_, rfl⟩, hW237, hsm237.mono (by decide) (by decide)⟩
    · show Q_ish Z _ h0 _ s₁.heap _
      rw [e0]
      exact ⟨_, rfl, N0, rfl, (Or.inr ⟨rfl, fun q => q.1 hc236⟩)⟩
  ·
    refine own_Go.st (fun _ k => XS.icmpNo X0.here hx rfl (hb hby d_jdk_89_method_14_3) rfl (flt hc236).1 k) ?_
    show own_Go _ _ _ _ (s₁.setTop (mkF m 6 #[.val (.int p1)] []))
    refine own_Go.st (fun _ k => XS.iloadN X0.here hx rfl (hb hby d_jdk_89_method_14_6) rfl k) ?_
    show own_Go _ _ _ _ (s₁.setTop (mkF m 7 #[.val (.int p1)] [(.int p1)]))
    refine own_Go.st (X0.ldcInt hx hown (mvT hZ (hw _ (List.mem_of_getElem? (i := 124) rfl))) (g := (mkF m 7 #[.val (.int p1)] [(.int p1)])) rfl (hb hby d_jdk_89_method_14_7)) ?_
    show own_Go _ _ _ _ (s₁.setTop (mkF m 9 #[.val (.int p1)] [(.int (56320 : Int32)), (.int p1)]))
    by_cases hc238 : p1 < (56320 : Int32)
    ·
      refine own_Go.st (fun _ k => XS.icmpNo X0.here hx rfl (hb hby d_jdk_89_method_14_9) rfl (tlt hc238).2.1 k) ?_
      show own_Go _ _ _ _ (s₁.setTop (mkF m 12 #[.val (.int p1)] []))
      refine own_Go.st (fun _ k => XS.iconst X0.here hx rfl (hb hby d_jdk_89_method_14_12) k) ?_
      show own_Go _ _ _ _ (s₁.setTop (mkF m 13 #[.val (.int p1)] [(.int (1 : Int32))]))
      refine own_Go.st (fun _ k => XS.goto X0.here hx rfl (pc0 := 13) (pc' := 17) rfl (hb hby d_jdk_89_method_14_13) (by decide) (by decide) k) ?_
      show own_Go _ _ _ _ (s₁.setTop (mkF m 17 #[.val (.int p1)] [(.int (1 : Int32))]))
      obtain ⟨fs239, hr239, hrun239, hend239, hW239, hsm239⟩ := X0.leave (v := some (.int (nar .boolean (1 : Int32)))) (fun h => by rw [Bd.returns] at h; cases h)
      subst hPP
      refine ⟨_, _, retN X0 hx (t := .boolean) Bd.returns (by simp) (hb hby d_jdk_89_method_14_17) hr239, hrun239, hend239, _, _, rfl, ?_, ⟨_, rfl⟩, hW239, hsm239.mono (by decide) (by decide)⟩
      · show Q_ish Z _ h0 _ s₁.heap _
        rw [e0]
        exact ⟨_, rfl, N0, rfl, (Or.inl ⟨rfl, hc236, hc238⟩)⟩
    ·
      refine own_Go.st (fun _ k => XS.icmpYes X0.here hx rfl (pc0 := 9) (pc' := 16) rfl (hb hby d_jdk_89_method_14_9) rfl (flt hc238).2.1 (by decide) (by decide) k) ?_
      show own_Go _ _ _ _ (s₁.setTop (mkF m 16 #[.val (.int p1)] []))
      refine own_Go.st (fun _ k => XS.iconst X0.here hx rfl (hb hby d_jdk_89_method_14_16) k) ?_
      show own_Go _ _ _ _ (s₁.setTop (mkF m 17 #[.val (.int p1)] [(.int (0 : Int32))]))
      obtain ⟨fs240, hr240, hrun240, hend240, hW240, hsm240⟩ := X0.leave (v := some (.int (nar .boolean (0 : Int32)))) (fun h => by rw [Bd.returns] at h; cases h)
      subst hPP
      refine ⟨_, _, retN X0 hx (t := .boolean) Bd.returns (by simp) (hb hby d_jdk_89_method_14_17) hr240, hrun240, hend240, _, _, rfl, ?_, ⟨_, rfl⟩, hW240, hsm240.mono (by decide) (by decide)⟩
      · show Q_ish Z _ h0 _ s₁.heap _
        rw [e0]
        exact ⟨_, rfl, N0, rfl, (Or.inr ⟨rfl, fun q => hc238 q.2⟩)⟩
theorem d_jdk_89_method_15_0 : decode jdk_89_method_15_code 0 = .ok (.iload_n 0, 1) := by decide +kernel
theorem d_jdk_89_method_15_1 : decode jdk_89_method_15_code 1 = .ok (.ldc 76, 2) := by decide +kernel
theorem d_jdk_89_method_15_3 : decode jdk_89_method_15_code 3 = .ok (.if_icmp .lt 13, 3) := by decide +kernel
theorem d_jdk_89_method_15_16 : decode jdk_89_method_15_code 16 = .ok (.iconst 0, 1) := by decide +kernel
theorem d_jdk_89_method_15_17 : decode jdk_89_method_15_code 17 = .ok (.ireturn, 1) := by decide +kernel
theorem d_jdk_89_method_15_6 : decode jdk_89_method_15_code 6 = .ok (.iload_n 0, 1) := by decide +kernel
theorem d_jdk_89_method_15_7 : decode jdk_89_method_15_code 7 = .ok (.ldc 77, 2) := by decide +kernel
theorem d_jdk_89_method_15_9 : decode jdk_89_method_15_code 9 = .ok (.if_icmp .ge 7, 3) := by decide +kernel
theorem d_jdk_89_method_15_12 : decode jdk_89_method_15_code 12 = .ok (.iconst 1, 1) := by decide +kernel
theorem d_jdk_89_method_15_13 : decode jdk_89_method_15_code 13 = .ok (.goto 4, 3) := by decide +kernel
def Q_isl (Z : State) (p1 : Int32) (h0 : Heap) (v : Option Value) (h : Heap) (L : List Loc) : Prop := ∃ (r : Int32), v = some (.int r) ∧ Fr Z.heap.size L ∧ h = h0 ∧ ((r = 1 ∧ own_lo p1) ∨ (r = 0 ∧ ¬ own_lo p1))
set_option maxRecDepth 65536 in
set_option maxHeartbeats 40000000 in
theorem rm_isl (l : Launch) (Z : State) (a0 : Array Value) (hw : ∀ d ∈ tables_1, d.before a0 Z = true) (ws : List Jvm.Cond) (p1 : Int32) (h0 : Heap) (OL : Old Z Z.heap.size h0) :
    MetFree l (⟨"java/lang/Character", "isLowSurrogate", "(C)Z"⟩ : MethodName) (head1 (Jvm.Cond.code (⟨"java/lang/Character", "isLowSurrogate", "(C)Z"⟩ : MethodName) jdk_89_method_15_code 1 (some .boolean) :: ws) ({ frames := 0, cells := 0, slots := 0, locals := 0 } : Room)) (fun a U => a = #[(.int p1)] ∧ Z.Warmed39 U.vm ∧ U.heap = h0) (fun _ _ _ _ _ => True) (fun _ U o U' => ∃ v L, o = .returned v ∧ Q_isl Z p1 h0 v U'.heap L ∧ FrameEnd U o U' L ({ frames := 0, cells := 0, slots := 0, locals := 0 } : Room).cells ({ frames := 0, cells := 0, slots := 0, locals := 0 } : Room).slots) := by
  refine MetFree.of_bodySF (plainFor_of_name pn_189) hisR ?_
  intro p e s m args below meth c s₁ Bd hml0 hP hK
  obtain ⟨rfl, hZ, hh⟩ := hP
  have hx := Bd.exec
  have hby := Bd.bytes
  have hml : c.maxLocals = 1 := hml0
  have hown : s.vm.findClass "java/lang/Character" = some m.cls := findClass_of_methodNamed Bd.named
  have hnm := (name_of_methodNamed Bd.named Bd.method).1
  have X0 : Stand p l e ({ frames := 0, cells := 0, slots := 0, locals := 0 } : Room) s m #[(.int p1)] below meth c s₁ [] 0 0 := Stand.of_body Bd
  have e0 : s₁.heap = h0 := by rw [← hh, Bd.state]; rfl
  have N0 := Fr.nil Z.heap.size
  have Z0 : Z.heap.size ≤ h0.size := OL.2.1
  obtain ⟨PP, hPP⟩ : ∃ PP : Outcome → State → Prop, PP = (fun o tE => ∃ v L, o = .returned v ∧ Q_isl Z p1 h0 v tE.heap L ∧ FrameEnd s o tE L ({ frames := 0, cells := 0, slots := 0, locals := 0 } : Room).cells ({ frames := 0, cells := 0, slots := 0, locals := 0 } : Room).slots) := ⟨_, rfl⟩
  show own_Go p.tables e below (fun o tE => ∃ v L, o = .returned v ∧ Q_isl Z p1 h0 v tE.heap L ∧ FrameEnd s o tE L ({ frames := 0, cells := 0, slots := 0, locals := 0 } : Room).cells ({ frames := 0, cells := 0, slots := 0, locals := 0 } : Room).slots) (s₁.setTop (entryFrame m #[(.int p1)] 1))
  rw [← hPP]
  refine own_Go.st (fun t k => castTop (ef_98 m p1) k) ?_
  show own_Go _ _ _ _ (s₁.setTop (mkF m 0 #[.val (.int p1)] []))
  refine own_Go.st (fun _ k => XS.iloadN X0.here hx rfl (hb hby d_jdk_89_method_15_0) rfl k) ?_
  show own_Go _ _ _ _ (s₁.setTop (mkF m 1 #[.val (.int p1)] [(.int p1)]))
  refine own_Go.st (X0.ldcInt hx hown (mvT hZ (hw _ (List.mem_of_getElem? (i := 124) rfl))) (g := (mkF m 1 #[.val (.int p1)] [(.int p1)])) rfl (hb hby d_jdk_89_method_15_1)) ?_
  show own_Go _ _ _ _ (s₁.setTop (mkF m 3 #[.val (.int p1)] [(.int (56320 : Int32)), (.int p1)]))
  by_cases hc241 : p1 < (56320 : Int32)
  ·
    refine own_Go.st (fun _ k => XS.icmpYes X0.here hx rfl (pc0 := 3) (pc' := 16) rfl (hb hby d_jdk_89_method_15_3) rfl (tlt hc241).1 (by decide) (by decide) k) ?_
    show own_Go _ _ _ _ (s₁.setTop (mkF m 16 #[.val (.int p1)] []))
    refine own_Go.st (fun _ k => XS.iconst X0.here hx rfl (hb hby d_jdk_89_method_15_16) k) ?_
    show own_Go _ _ _ _ (s₁.setTop (mkF m 17 #[.val (.int p1)] [(.int (0 : Int32))]))
    obtain ⟨fs242, hr242, hrun242, hend242, hW242, hsm242⟩ := X0.leave (v := some (.int (nar .boolean (0 : Int32)))) (fun h => by rw [Bd.returns] at h; cases h)
    subst hPP
    refine ⟨_, _, retN X0 hx (t := .boolean) Bd.returns (by simp) (hb hby d_jdk_89_method_15_17) hr242, hrun242, hend242, _, _, rfl, ?_, ⟨_, rfl⟩, hW242, hsm242.mono (by decide) (by decide)⟩
    · show Q_isl Z _ h0 _ s₁.heap _
      rw [e0]
      exact ⟨_, rfl, N0, rfl, (Or.inr ⟨rfl, fun q => q.1 hc241⟩)⟩
  ·
    refine own_Go.st (fun _ k => XS.icmpNo X0.here hx rfl (hb hby d_jdk_89_method_15_3) rfl (flt hc241).1 k) ?_
    show own_Go _ _ _ _ (s₁.setTop (mkF m 6 #[.val (.int p1)] []))
    refine own_Go.st (fun _ k => XS.iloadN X0.here hx rfl (hb hby d_jdk_89_method_15_6) rfl k) ?_
    show own_Go _ _ _ _ (s₁.setTop (mkF m 7 #[.val (.int p1)] [(.int p1)]))
    refine own_Go.st (X0.ldcInt hx hown (mvT hZ (hw _ (List.mem_of_getElem? (i := 128) rfl))) (g := (mkF m 7 #[.val (.int p1)] [(.int p1)])) rfl (hb hby d_jdk_89_method_15_7)) ?_
    show own_Go _ _ _ _ (s₁.setTop (mkF m 9 #[.val (.int p1)] [(.int (57344 : Int32)), (.int p1)]))
    by_cases hc243 : p1 < (57344 : Int32)
    ·
      refine own_Go.st (fun _ k => XS.icmpNo X0.here hx rfl (hb hby d_jdk_89_method_15_9) rfl (tlt hc243).2.1 k) ?_
      show own_Go _ _ _ _ (s₁.setTop (mkF m 12 #[.val (.int p1)] []))
      refine own_Go.st (fun _ k => XS.iconst X0.here hx rfl (hb hby d_jdk_89_method_15_12) k) ?_
      show own_Go _ _ _ _ (s₁.setTop (mkF m 13 #[.val (.int p1)] [(.int (1 : Int32))]))
      refine own_Go.st (fun _ k => XS.goto X0.here hx rfl (pc0 := 13) (pc' := 17) rfl (hb hby d_jdk_89_method_15_13) (by decide) (by decide) k) ?_
      show own_Go _ _ _ _ (s₁.setTop (mkF m 17 #[.val (.int p1)] [(.int (1 : Int32))]))
      obtain ⟨fs244, hr244, hrun244, hend244, hW244, hsm244⟩ := X0.leave (v := some (.int (nar .boolean (1 : Int32)))) (fun h => by rw [Bd.returns] at h; cases h)
      subst hPP
      refine ⟨_, _, retN X0 hx (t := .boolean) Bd.returns (by simp) (hb hby d_jdk_89_method_15_17) hr244, hrun244, hend244, _, _, rfl, ?_, ⟨_, rfl⟩, hW244, hsm244.mono (by decide) (by decide)⟩
      · show Q_isl Z _ h0 _ s₁.heap _
        rw [e0]
        exact ⟨_, rfl, N0, rfl, (Or.inl ⟨rfl, hc241, hc243⟩)⟩
    ·
      refine own_Go.st (fun _ k => XS.icmpYes X0.here hx rfl (pc0 := 9) (pc' := 16) rfl (hb hby d_jdk_89_method_15_9) rfl (flt hc243).2.1 (by decide) (by decide) k) ?_
      show own_Go _ _ _ _ (s₁.setTop (mkF m 16 #[.val (.int p1)] []))
      refine own_Go.st (fun _ k => XS.iconst X0.here hx rfl (hb hby d_jdk_89_method_15_16) k) ?_
      show own_Go _ _ _ _ (s₁.setTop (mkF m 17 #[.val (.int p1)] [(.int (0 : Int32))]))
      obtain ⟨fs245, hr245, hrun245, hend245, hW245, hsm245⟩ := X0.leave (v := some (.int (nar .boolean (0 : Int32)))) (fun h => by rw [Bd.returns] at h; cases h)
      subst hPP
      refine ⟨_, _, retN X0 hx (t := .boolean) Bd.returns (by simp) (hb hby d_jdk_89_method_15_17) hr245, hrun245, hend245, _, _, rfl, ?_, ⟨_, rfl⟩, hW245, hsm245.mono (by decide) (by decide)⟩
      · show Q_isl Z _ h0 _ s₁.heap _
        rw [e0]
        exact ⟨_, rfl, N0, rfl, (Or.inr ⟨rfl, fun q => hc243 q.2⟩)⟩
theorem ef_210 (m : MethodId) (x0 : Nat) : entryFrame m #[(.ref x0)] 1 = mkF m 0 #[.val (.ref x0)] [] := by first | (simp [entryFrame, mkF, argsToLocals, Value.category]; done) | rfl
theorem d_jdk_42_method_154_0 : decode jdk_42_method_154_code 0 = .ok (.getstatic 38, 3) := by decide +kernel
theorem d_jdk_42_method_154_3 : decode jdk_42_method_154_code 3 = .ok (.ifCond .eq 14, 3) := by decide +kernel
theorem d_jdk_42_method_154_6 : decode jdk_42_method_154_code 6 = .ok (.aload_n 0, 1) := by decide +kernel
theorem d_jdk_42_method_154_7 : decode jdk_42_method_154_code 7 = .ok (.getfield 15, 3) := by decide +kernel
theorem d_jdk_42_method_154_10 : decode jdk_42_method_154_code 10 = .ok (.ifCond .ne 7, 3) := by decide +kernel
theorem d_jdk_42_method_154_13 : decode jdk_42_method_154_code 13 = .ok (.iconst 1, 1) := by decide +kernel
theorem d_jdk_42_method_154_14 : decode jdk_42_method_154_code 14 = .ok (.goto 4, 3) := by decide +kernel
theorem d_jdk_42_method_154_18 : decode jdk_42_method_154_code 18 = .ok (.ireturn, 1) := by decide +kernel
theorem d_jdk_42_method_154_17 : decode jdk_42_method_154_code 17 = .ok (.iconst 0, 1) := by decide +kernel
def Q_isl1 (Z : State) (a1 : Nat) (cd : Int32) (zc : Int32) (h0 : Heap) (v : Option Value) (h : Heap) (L : List Loc) : Prop := v = some (.int (if cd = 0 then (1 : Int32) else 0)) ∧ Fr Z.heap.size L ∧ h = h0
set_option maxRecDepth 65536 in
set_option maxHeartbeats 40000000 in
theorem rm_isl1 (l : Launch) (Z : State) (a0 : Array Value) (hw : ∀ d ∈ tables_1, d.before a0 Z = true) (ws : List Jvm.Cond) (a1 : Nat) (cd : Int32) (zc : Int32) (h0 : Heap) (OL : Old Z Z.heap.size h0) (p0_ : Fld Z h0 a1 "java/lang/String" "coder" "B" (.int cd)) (st_COMPACT_STRINGS : Sta Z Z.heap "java/lang/String" "COMPACT_STRINGS" "Z" (.int zc)) (hzc : ¬ zc = 0) :
    MetFree l (⟨"java/lang/String", "isLatin1", "()Z"⟩ : MethodName) (head1 (Jvm.Cond.code (⟨"java/lang/String", "isLatin1", "()Z"⟩ : MethodName) jdk_42_method_154_code 1 (some .boolean) :: ws) ({ frames := 0, cells := 0, slots := 0, locals := 0 } : Room)) (fun a U => a = #[(.ref a1)] ∧ Z.Warmed39 U.vm ∧ U.heap = h0) (fun _ _ _ _ _ => True) (fun _ U o U' => ∃ v L, o = .returned v ∧ Q_isl1 Z a1 cd zc h0 v U'.heap L ∧ FrameEnd U o U' L ({ frames := 0, cells := 0, slots := 0, locals := 0 } : Room).cells ({ frames := 0, cells := 0, slots := 0, locals := 0 } : Room).slots) := by
  refine MetFree.of_bodySF (plainFor_of_name pn_0) hisR ?_
  intro p e s m args below meth c s₁ Bd hml0 hP hK
  obtain ⟨rfl, hZ, hh⟩ := hP
  have hx := Bd.exec
  have hby := Bd.bytes
  have hml : c.maxLocals = 1 := hml0
  have hown : s.vm.findClass "java/lang/String" = some m.cls := findClass_of_methodNamed Bd.named
  have hnm := (name_of_methodNamed Bd.named Bd.method).1
  have X0 : Stand p l e ({ frames := 0, cells := 0, slots := 0, locals := 0 } : Room) s m #[(.ref a1)] below meth c s₁ [] 0 0 := Stand.of_body Bd
  have e0 : s₁.heap = h0 := by rw [← hh, Bd.state]; rfl
  have N0 := Fr.nil Z.heap.size
  have Z0 : Z.heap.size ≤ h0.size := OL.2.1
  have lt_0 : @LT.lt Nat _ a1 h0.size := p0_.lt
  obtain ⟨PP, hPP⟩ : ∃ PP : Outcome → State → Prop, PP = (fun o tE => ∃ v L, o = .returned v ∧ Q_isl1 Z a1 cd zc h0 v tE.heap L ∧ FrameEnd s o tE L ({ frames := 0, cells := 0, slots := 0, locals := 0 } : Room).cells ({ frames := 0, cells := 0, slots := 0, locals := 0 } : Room).slots) := ⟨_, rfl⟩
  show own_Go p.tables e below (fun o tE => ∃ v L, o = .returned v ∧ Q_isl1 Z a1 cd zc h0 v tE.heap L ∧ FrameEnd s o tE L ({ frames := 0, cells := 0, slots := 0, locals := 0 } : Room).cells ({ frames := 0, cells := 0, slots := 0, locals := 0 } : Room).slots) (s₁.setTop (entryFrame m #[(.ref a1)] 1))
  rw [← hPP]
  refine own_Go.st (fun t k => castTop (ef_210 m a1) k) ?_
  show own_Go _ _ _ _ (s₁.setTop (mkF m 0 #[.val (.ref a1)] []))
  obtain ⟨T246, X246, e246, st246⟩ := getS2 X0 hx hZ hown (host := "") (Or.inl (hw _ (List.mem_of_getElem? (i := 48) rfl))) Via.refl e0 (st_COMPACT_STRINGS.ext OL.2) (g := (mkF m 0 #[.val (.ref a1)] [])) rfl (hb hby d_jdk_42_method_154_0)
  refine own_Go.st st246 ?_
  show own_Go _ _ _ _ (T246.setTop (mkF m 3 #[.val (.ref a1)] [(.int zc)]))
  have hc247 : ¬ (zc = (0 : Int32)) := hzc
  refine own_Go.st (fun _ k => XS.ifNo X246.here hx rfl (hb hby d_jdk_42_method_154_3) rfl ((if0 _ _).trans (feq hc247).1) k) ?_
  show own_Go _ _ _ _ (T246.setTop (mkF m 6 #[.val (.ref a1)] []))
  refine own_Go.st (fun _ k => XS.aloadN X246.here hx rfl (hb hby d_jdk_42_method_154_6) rfl rfl k) ?_
  show own_Go _ _ _ _ (T246.setTop (mkF m 7 #[.val (.ref a1)] [(.ref a1)]))
  obtain ⟨T248, X248, e248, st248⟩ := getF X246 hx hZ hown (host := "") (Or.inl (hw _ (List.mem_of_getElem? (i := 33) rfl))) Via.refl e246 p0_ (g := (mkF m 7 #[.val (.ref a1)] [(.ref a1)])) rfl rfl (hb hby d_jdk_42_method_154_7)
  refine own_Go.st st248 ?_
  show own_Go _ _ _ _ (T248.setTop (mkF m 10 #[.val (.ref a1)] [(.int cd)]))
  by_cases hc249 : cd = (0 : Int32)
  ·
    refine own_Go.st (fun _ k => XS.ifNo X248.here hx rfl (hb hby d_jdk_42_method_154_10) rfl ((if0 _ _).trans (teq hc249).2) k) ?_
    show own_Go _ _ _ _ (T248.setTop (mkF m 13 #[.val (.ref a1)] []))
    refine own_Go.st (fun _ k => XS.iconst X248.here hx rfl (hb hby d_jdk_42_method_154_13) k) ?_
    show own_Go _ _ _ _ (T248.setTop (mkF m 14 #[.val (.ref a1)] [(.int (1 : Int32))]))
    refine own_Go.st (fun _ k => XS.goto X248.here hx rfl (pc0 := 14) (pc' := 18) rfl (hb hby d_jdk_42_method_154_14) (by decide) (by decide) k) ?_
    show own_Go _ _ _ _ (T248.setTop (mkF m 18 #[.val (.ref a1)] [(.int (1 : Int32))]))
    obtain ⟨fs250, hr250, hrun250, hend250, hW250, hsm250⟩ := X248.leave (v := some (.int (nar .boolean (1 : Int32)))) (fun h => by rw [Bd.returns] at h; cases h)
    subst hPP
    refine ⟨_, _, retN X248 hx (t := .boolean) Bd.returns (by simp) (hb hby d_jdk_42_method_154_18) hr250, hrun250, hend250, _, _, rfl, ?_, ⟨_, rfl⟩, hW250, hsm250.mono (by decide) (by decide)⟩
    · show Q_isl1 Z _ _ _ h0 _ T248.heap _
      rw [e248]
      exact ⟨(by rw [if_pos hc249]; rfl), N0, rfl⟩
  ·
    refine own_Go.st (fun _ k => XS.ifYes X248.here hx rfl (pc0 := 10) (pc' := 17) rfl (hb hby d_jdk_42_method_154_10) rfl ((if0 _ _).trans (feq hc249).2) (by decide) (by decide) k) ?_
    show own_Go _ _ _ _ (T248.setTop (mkF m 17 #[.val (.ref a1)] []))
    refine own_Go.st (fun _ k => XS.iconst X248.here hx rfl (hb hby d_jdk_42_method_154_17) k) ?_
    show own_Go _ _ _ _ (T248.setTop (mkF m 18 #[.val (.ref a1)] [(.int (0 : Int32))]))
    obtain ⟨fs251, hr251, hrun251, hend251, hW251, hsm251⟩ := X248.leave (v := some (.int (nar .boolean (0 : Int32)))) (fun h => by rw [Bd.returns] at h; cases h)
    subst hPP
    refine ⟨_, _, retN X248 hx (t := .boolean) Bd.returns (by simp) (hb hby d_jdk_42_method_154_18) hr251, hrun251, hend251, _, _, rfl, ?_, ⟨_, rfl⟩, hW251, hsm251.mono (by decide) (by decide)⟩
    · show Q_isl1 Z _ _ _ h0 _ T248.heap _
      rw [e248]
      exact ⟨(by rw [if_neg hc249]; rfl), N0, rfl⟩

theorem own_one0 {r : Int32} {A : Prop} (h : (r = 1 ∧ A) ∨ (r = 0 ∧ ¬ A)) (q : ¬ (r = (0 : Int32))) : A := h.elim (fun a => a.2) (fun a => absurd a.1 q)
theorem own_zero0 {r : Int32} {A : Prop} (h : (r = 1 ∧ A) ∨ (r = 0 ∧ ¬ A)) (q : r = (0 : Int32)) : ¬ A := h.elim (fun a => by rw [a.1] at q; exact absurd q (by decide)) (fun a => a.2)
theorem own_e (n : Nat) (h : n < 2147483648) : (Int32.ofNat n).toInt = n := own_of h
theorem own_pos {x : Int32} (h1 : ¬ x < 0) (h2 : ¬ x = 0) : 0 < x := by
  have q : x.toInt ≠ 0 := fun z => h2 (Int32.toInt_inj.mp (by rw [z]; rfl))
  rw [Int32.lt_iff_toInt_lt, (by decide : (0 : Int32).toInt = 0)] at h1 ⊢
  omega
def own_vp (p : Int32) : Prop := (0 ≤ p.toInt ∧ p.toInt < 55296) ∨ (57344 ≤ p.toInt ∧ p.toInt < 1114112)
def own_Hi (p : Int32) : Int32 := Int32.ofInt (55296 + (p.toInt - 65536) / 1024)
def own_Lo (p : Int32) : Int32 := Int32.ofInt (56320 + (p.toInt - 65536) % 1024)
theorem own_HiI {p : Int32} (h : ¬ p < (65536 : Int32)) (v : own_vp p) : (own_Hi p).toInt = 55296 + (p.toInt - 65536) / 1024 := by
  rw [Int32.lt_iff_toInt_lt, (by decide : (65536 : Int32).toInt = 65536)] at h
  have hv : p.toInt < 1114112 := by rcases v with v | v <;> omega
  exact Int32.toInt_ofInt_of_le (by omega) (by omega)
theorem own_LoI {p : Int32} (h : ¬ p < (65536 : Int32)) (v : own_vp p) : (own_Lo p).toInt = 56320 + (p.toInt - 65536) % 1024 := by
  exact Int32.toInt_ofInt_of_le (by omega) (by omega)
def own_enc (p : Int32) : List Int32 := if p < 65536 then [p] else [own_Hi p, own_Lo p]
def own_encs : List Int32 → List Int32
  | [] => []
  | p :: r => own_enc p ++ own_encs r
def own_pts (n p q : Int32) : List Int32 := if n = 0 then [] else if n = 1 then [p] else [p, q]
def own_cmpI (a b : Int32) : Int32 := if a < b then -1 else if a = b then 0 else 1
def own_cmpL : List Int32 → List Int32 → Int32
  | [], [] => 0
  | [], _ :: _ => -1
  | _ :: _, [] => 1
  | p :: P, q :: Q => if p = q then own_cmpL P Q else own_cmpI p q
def own_tcp (a b : Int32) : Int32 := ((a <<< ((10 : Int32) &&& 31)) + b) + (-56613888 : Int32)
def own_cpAt (cs : List Int32) (i : Nat) : Int32 := if own_hi (cs.getD i 0) ∧ i + 1 < cs.length ∧ own_lo (cs.getD (i + 1) 0) then own_tcp (cs.getD i 0) (cs.getD (i + 1) 0) else cs.getD i 0
theorem own_rngI {c : Int32} : (¬ c < 0 ∧ ¬ (65535 : Int32) < c) ↔ (0 ≤ c.toInt ∧ c.toInt ≤ 65535) := by
  rw [Int32.lt_iff_toInt_lt, Int32.lt_iff_toInt_lt, (by decide : (0 : Int32).toInt = 0), (by decide : (65535 : Int32).toInt = 65535)]
  omega
theorem own_hiI {c : Int32} : own_hi c ↔ (55296 ≤ c.toInt ∧ c.toInt < 56320) := by
  unfold own_hi
  rw [Int32.lt_iff_toInt_lt, Int32.lt_iff_toInt_lt, (by decide : (55296 : Int32).toInt = 55296), (by decide : (56320 : Int32).toInt = 56320)]
  omega
theorem own_loI {c : Int32} : own_lo c ↔ (56320 ≤ c.toInt ∧ c.toInt < 57344) := by
  unfold own_lo
  rw [Int32.lt_iff_toInt_lt, Int32.lt_iff_toInt_lt, (by decide : (57344 : Int32).toInt = 57344), (by decide : (56320 : Int32).toInt = 56320)]
  omega
theorem own_tcpA (a b p : Int32) (ha : a.toInt = 55296 + (p.toInt - 65536) / 1024) (hb : b.toInt = 56320 + (p.toInt - 65536) % 1024) (h : ¬ p.toInt < 65536) (hv : p.toInt < 1114112) : ((a <<< ((10 : Int32) &&& 31)) + b) + (-56613888 : Int32) = p := by
  have c1 := c_ishl a 10 10 (by decide)
  generalize a <<< ((10 : Int32) &&& 31) = x at c1 ⊢
  have c2 := c_iadd x b
  have e1 : (-56613888 : Int32).toInt = -56613888 := by decide
  generalize (-56613888 : Int32) = k at e1 ⊢
  have c3 := c_iadd (x + b) k
  have r1 := rng32 x
  have r2 := rng32 (x + b)
  have r3 := rng32 ((x + b) + k)
  apply Int32.toInt_inj.mp
  omega
theorem own_tcpI {p : Int32} (h : ¬ p < (65536 : Int32)) (v : own_vp p) : own_tcp (own_Hi p) (own_Lo p) = p := by
  have a := own_HiI h v
  have b := own_LoI h v
  rw [Int32.lt_iff_toInt_lt, (by decide : (65536 : Int32).toInt = 65536)] at h
  have hv : p.toInt < 1114112 := by rcases v with v | v <;> omega
  exact own_tcpA _ _ p a b h hv
theorem own_enc_ne (p : Int32) : 0 < (own_enc p).length := by unfold own_enc; split <;> simp
theorem own_cpEnc {p : Int32} (v : own_vp p) (pre rest : List Int32) : own_cpAt (pre ++ (own_enc p ++ rest)) pre.length = p := by
  unfold own_cpAt own_enc
  by_cases h : p < 65536
  · rw [if_pos h]
    have e : (pre ++ ([p] ++ rest)).getD pre.length 0 = p := by simp [List.getD_eq_getElem?_getD]
    rw [e, if_neg]
    intro q
    have q1 := own_hiI.mp q.1
    rcases v with v | v <;> omega
  · rw [if_neg h]
    have e : (pre ++ ([own_Hi p, own_Lo p] ++ rest)).getD pre.length 0 = own_Hi p := by simp [List.getD_eq_getElem?_getD]
    have e2 : (pre ++ ([own_Hi p, own_Lo p] ++ rest)).getD (pre.length + 1) 0 = own_Lo p := by simp [List.getD_eq_getElem?_getD]
    have a := own_HiI h v
    have b := own_LoI h v
    rw [e, e2, if_pos, own_tcpI h v]
    rw [Int32.lt_iff_toInt_lt, (by decide : (65536 : Int32).toInt = 65536)] at h
    have hv : p.toInt < 1114112 := by rcases v with v | v <;> omega
    refine ⟨own_hiI.mpr ⟨by omega, by omega⟩, by simp, own_loI.mpr ⟨by omega, by omega⟩⟩
theorem own_encsR : ∀ {P : List Int32}, (∀ p ∈ P, own_vp p) → ∀ c ∈ own_encs P, ¬ c < 0 ∧ ¬ (65535 : Int32) < c
  | [], _, c, hc => by simp [own_encs] at hc
  | p :: r, h, c, hc => by
    simp only [own_encs, List.mem_append] at hc
    rcases hc with hc | hc
    · have v := h p (by simp)
      unfold own_enc at hc
      rw [own_rngI]
      by_cases q : p < 65536
      · rw [if_pos q] at hc
        have hc' : c = p := by simpa using hc
        subst hc'
        rw [Int32.lt_iff_toInt_lt, (by decide : (65536 : Int32).toInt = 65536)] at q
        rcases v with v | v <;> omega
      · rw [if_neg q] at hc
        have a := own_HiI q v
        have b := own_LoI q v
        rw [Int32.lt_iff_toInt_lt, (by decide : (65536 : Int32).toInt = 65536)] at q
        have hv : p.toInt < 1114112 := by rcases v with v | v <;> omega
        have hc' : c = own_Hi p ∨ c = own_Lo p := by simpa using hc
        rcases hc' with rfl | rfl <;> omega
    · exact own_encsR (fun q hq => h q (List.mem_cons_of_mem _ hq)) c hc
theorem own_encsL {P : List Int32} : own_encs P = [] ↔ P = [] := by
  cases P with
  | nil => simp [own_encs]
  | cons p r =>
    have := own_enc_ne p
    constructor
    · intro h
      have h2 := congrArg List.length h
      simp [own_encs] at h2
      rw [h2.1] at this
      simp at this
    · intro h; cases h
theorem own_c16 {x : Int32} (h0 : own_vp x) (h1 : x < (65536 : Int32)) : x.toUInt32.toUInt16.toUInt32.toInt32 = x := by
  have h4 := c_i2c x
  rw [Int32.lt_iff_toInt_lt, (by decide : (65536 : Int32).toInt = 65536)] at h1
  apply Int32.toInt_inj.mp
  rcases h0 with h0 | h0 <;> omega
theorem own_c16r {x : Int32} (h0 : own_vp x) (h1 : x < (65536 : Int32)) : ¬ x < 0 ∧ ¬ (65535 : Int32) < x := by
  rw [own_rngI]
  rw [Int32.lt_iff_toInt_lt, (by decide : (65536 : Int32).toInt = 65536)] at h1
  rcases h0 with h0 | h0 <;> omega
theorem own_HiR {p : Int32} (h : ¬ p < (65536 : Int32)) (v : own_vp p) : ¬ own_Hi p < 0 ∧ ¬ (65535 : Int32) < own_Hi p := by
  have a := own_HiI h v
  rw [Int32.lt_iff_toInt_lt, (by decide : (65536 : Int32).toInt = 65536)] at h
  have hv : p.toInt < 1114112 := by rcases v with v | v <;> omega
  rw [own_rngI]; omega
theorem own_LoR {p : Int32} (h : ¬ p < (65536 : Int32)) (v : own_vp p) : ¬ own_Lo p < 0 ∧ ¬ (65535 : Int32) < own_Lo p := by
  have a := own_LoI h v
  rw [own_rngI]; omega
theorem own_HiX {p : Int32} (h : ¬ p < (65536 : Int32)) (v : own_vp p) : nar .char ((((55296 : Int32) + ((p - (65536 : Int32)) >>> ((10 : Int32) &&& 31))).toUInt32.toUInt16.toUInt32.toInt32)) = own_Hi p := by
  have a := own_HiI h v
  rw [Int32.lt_iff_toInt_lt, (by decide : (65536 : Int32).toInt = 65536)] at h
  have hv : p.toInt < 1114112 := by rcases v with v | v <;> omega
  have c1 := c_isub p 65536
  have r1 := rng32 (p - 65536)
  have e1 : (65536 : Int32).toInt = 65536 := by decide
  have c2 := c_ishr (p - 65536) 10 10 (by decide)
  have c3 := c_iadd 55296 ((p - 65536) >>> ((10 : Int32) &&& 31))
  have r3 := rng32 (55296 + ((p - 65536) >>> ((10 : Int32) &&& 31)))
  have e2 : (55296 : Int32).toInt = 55296 := by decide
  have c4 := c_i2c (55296 + ((p - 65536) >>> ((10 : Int32) &&& 31)))
  have c5 := c_i2c ((55296 + ((p - 65536) >>> ((10 : Int32) &&& 31))).toUInt32.toUInt16.toUInt32.toInt32)
  apply Int32.toInt_inj.mp
  simp only [nar]
  omega
theorem own_LoX {p : Int32} (h : ¬ p < (65536 : Int32)) (v : own_vp p) : nar .char ((((56320 : Int32) + ((p - (65536 : Int32)) &&& (1023 : Int32))).toUInt32.toUInt16.toUInt32.toInt32)) = own_Lo p := by
  have a := own_LoI h v
  rw [Int32.lt_iff_toInt_lt, (by decide : (65536 : Int32).toInt = 65536)] at h
  have hv : p.toInt < 1114112 := by rcases v with v | v <;> omega
  have c1 := c_isub p 65536
  have r1 := rng32 (p - 65536)
  have e1 : (65536 : Int32).toInt = 65536 := by decide
  have c2 := c_mask (p - 65536) 1023 10 (by decide) (by decide)
  have c3 := c_iadd 56320 ((p - 65536) &&& 1023)
  have r3 := rng32 (56320 + ((p - 65536) &&& 1023))
  have e2 : (56320 : Int32).toInt = 56320 := by decide
  have c4 := c_i2c (56320 + ((p - 65536) &&& 1023))
  have c5 := c_i2c ((56320 + ((p - 65536) &&& 1023)).toUInt32.toUInt16.toUInt32.toInt32)
  apply Int32.toInt_inj.mp
  simp only [nar]
  omega
theorem own_xorN : ∀ r : Fin 2048, (55296 + r.val) ^^^ 16384 < 55296 := by decide +kernel
theorem own_xor {c : Int32} (h1 : ¬ c < (55296 : Int32)) (h2 : ¬ (57343 : Int32) < c) : own_vp (c ^^^ (16384 : Int32)) := by
  rw [Int32.lt_iff_toInt_lt, (by decide : (55296 : Int32).toInt = 55296)] at h1
  rw [Int32.lt_iff_toInt_lt, (by decide : (57343 : Int32).toInt = 57343)] at h2
  have e1 : c.toBitVec.toNat = c.toInt.toNat := by
    have q : c.toInt = c.toBitVec.toInt := rfl
    have q2 := BitVec.toInt_eq_toNat_cond c.toBitVec
    have q3 := c.toBitVec.isLt
    rw [← q] at q2
    split at q2 <;> omega
  have e2 : (c ^^^ (16384 : Int32)).toBitVec.toNat = c.toInt.toNat ^^^ 16384 := by
    rw [Int32.toBitVec_xor, BitVec.toNat_xor, e1]
    rfl
  have k := own_xorN ⟨c.toInt.toNat - 55296, by omega⟩
  have e3 : 55296 + (c.toInt.toNat - 55296) = c.toInt.toNat := by omega
  simp only [e3] at k
  have q4 : (c ^^^ (16384 : Int32)).toInt = (c ^^^ (16384 : Int32)).toBitVec.toInt := rfl
  have q5 := BitVec.toInt_eq_toNat_cond (c ^^^ (16384 : Int32)).toBitVec
  rw [e2] at q5
  left
  rw [q4, q5]
  split <;> omega
theorem own_cpEven {x : Int32} (h : ((((x.toUInt32 >>> ((1 : Int32) &&& 31).toUInt32).toInt32) &&& (65535 : Int32)) < (55296 : Int32)) ∨ (57343 : Int32) < (((x.toUInt32 >>> ((1 : Int32) &&& 31).toUInt32).toInt32) &&& (65535 : Int32))) : own_vp (((x.toUInt32 >>> ((1 : Int32) &&& 31).toUInt32).toInt32) &&& (65535 : Int32)) := by
  have c1 := c_mask ((x.toUInt32 >>> ((1 : Int32) &&& 31).toUInt32).toInt32) 65535 16 (by decide) (by decide)
  rw [Int32.lt_iff_toInt_lt, Int32.lt_iff_toInt_lt, (by decide : (55296 : Int32).toInt = 55296), (by decide : (57343 : Int32).toInt = 57343)] at h
  unfold own_vp
  omega
theorem own_cpOdd (x : Int32) : own_vp ((65536 : Int32) + (((x.toUInt32 >>> ((1 : Int32) &&& 31).toUInt32).toInt32) % (1048576 : Int32))) := by
  have c0 := c_iushr x 1 1 (by decide) (by decide)
  have r0 := rng32 x
  have c1 := (c_irem ((x.toUInt32 >>> ((1 : Int32) &&& 31).toUInt32).toInt32) 1048576 1048576 (by decide)).1 (by omega)
  have c2 := c_iadd 65536 (((x.toUInt32 >>> ((1 : Int32) &&& 31).toUInt32).toInt32) % 1048576)
  have r2 := rng32 (65536 + (((x.toUInt32 >>> ((1 : Int32) &&& 31).toUInt32).toInt32) % 1048576))
  have e2 : (65536 : Int32).toInt = 65536 := by decide
  unfold own_vp
  omega
theorem own_n3 (x : Int32) : (x &&& (2147483647 : Int32)) % (3 : Int32) = 0 ∨ (x &&& (2147483647 : Int32)) % (3 : Int32) = 1 ∨ (x &&& (2147483647 : Int32)) % (3 : Int32) = 2 := by
  have h1 := c_mask x 2147483647 31 (by decide) (by decide)
  have h2 := (c_irem (x &&& 2147483647) 3 3 (by decide)).1 (by omega)
  have e0 : (0 : Int32).toInt = 0 := by decide
  have e1 : (1 : Int32).toInt = 1 := by decide
  have e2 : (2 : Int32).toInt = 2 := by decide
  simp only [← Int32.toInt_inj, e0, e1, e2]
  omega
theorem own_eqI {a b : Int32} (h1 : ¬ a < b) (h2 : ¬ b < a) : a = b := by
  rw [Int32.lt_iff_toInt_lt] at h1 h2
  apply Int32.toInt_inj.mp
  omega
theorem own_endL {pre P Q : List Int32} (h : P = [] ∨ Q = []) (h1 : (pre ++ own_encs P).length ≤ 4000) (h2 : (pre ++ own_encs Q).length ≤ 4000) : own_cmpI (Int32.ofNat (pre ++ own_encs P).length) (Int32.ofNat (pre ++ own_encs Q).length) = own_cmpL P Q := by
  unfold own_cmpI
  have e : ∀ {a b : Nat}, a ≤ 4000 → b ≤ 4000 → (Int32.ofNat a = Int32.ofNat b ↔ a = b) := fun ha hb => ⟨fun q => by
    have q2 := congrArg Int32.toInt q
    rw [own_of (by omega), own_of (by omega)] at q2
    omega, fun q => by rw [q]⟩
  simp only [own_oflt (show (pre ++ own_encs P).length < 2147483648 by omega) (show (pre ++ own_encs Q).length < 2147483648 by omega), e h1 h2]
  rcases h with rfl | rfl
  · cases Q with
    | nil => simp [own_cmpL]
    | cons q r =>
      have := own_enc_ne q
      rw [if_pos (by simp only [own_encs, List.length_append, List.length_nil]; omega)]
      rfl
  · cases P with
    | nil => simp [own_cmpL]
    | cons q r =>
      have := own_enc_ne q
      rw [if_neg (by simp only [own_encs, List.length_append, List.length_nil]; omega), if_neg (by simp only [own_encs, List.length_append, List.length_nil]; omega)]
      rfl

theorem pn_220 : plainName "com/example/keep_to_layer/keeptolayer/model/ClassNamesComparePinLaw" = true := by first | (simp [plainName, overriddenIn]; done) | decide +kernel
theorem ef_221 (m : MethodId) (x0 : Int32) : entryFrame m #[(.int x0)] 2 = mkF m 0 #[.val (.int x0), .unset] [] := by first | (simp [entryFrame, mkF, argsToLocals, Value.category]; done) | rfl
theorem d_method_2_0 : decode method_2_code 0 = .ok (.iload_n 0, 1) := by decide +kernel
theorem d_method_2_1 : decode method_2_code 1 = .ok (.iconst 1, 1) := by decide +kernel
theorem d_method_2_2 : decode method_2_code 2 = .ok (.iand, 1) := by decide +kernel
theorem d_method_2_3 : decode method_2_code 3 = .ok (.ifCond .ne 30, 3) := by decide +kernel
theorem d_method_2_6 : decode method_2_code 6 = .ok (.iload_n 0, 1) := by decide +kernel
theorem d_method_2_7 : decode method_2_code 7 = .ok (.iconst 1, 1) := by decide +kernel
theorem d_method_2_8 : decode method_2_code 8 = .ok (.iushr, 1) := by decide +kernel
theorem d_method_2_9 : decode method_2_code 9 = .ok (.ldc 7, 2) := by decide +kernel
theorem d_method_2_11 : decode method_2_code 11 = .ok (.iand, 1) := by decide +kernel
theorem d_method_2_12 : decode method_2_code 12 = .ok (.istore_n 1, 1) := by decide +kernel
theorem d_method_2_13 : decode method_2_code 13 = .ok (.iload_n 1, 1) := by decide +kernel
theorem d_method_2_14 : decode method_2_code 14 = .ok (.ldc 8, 2) := by decide +kernel
theorem d_method_2_16 : decode method_2_code 16 = .ok (.if_icmp .lt 15, 3) := by decide +kernel
theorem d_method_2_31 : decode method_2_code 31 = .ok (.iload_n 1, 1) := by decide +kernel
theorem d_method_2_32 : decode method_2_code 32 = .ok (.ireturn, 1) := by decide +kernel
theorem d_method_2_19 : decode method_2_code 19 = .ok (.iload_n 1, 1) := by decide +kernel
theorem d_method_2_20 : decode method_2_code 20 = .ok (.ldc 9, 2) := by decide +kernel
theorem d_method_2_22 : decode method_2_code 22 = .ok (.if_icmp .gt 9, 3) := by decide +kernel
theorem d_method_2_25 : decode method_2_code 25 = .ok (.iload_n 1, 1) := by decide +kernel
theorem d_method_2_26 : decode method_2_code 26 = .ok (.sipush 16384, 3) := by decide +kernel
theorem d_method_2_29 : decode method_2_code 29 = .ok (.ixor, 1) := by decide +kernel
theorem d_method_2_30 : decode method_2_code 30 = .ok (.istore_n 1, 1) := by decide +kernel
theorem d_method_2_33 : decode method_2_code 33 = .ok (.ldc 10, 2) := by decide +kernel
theorem d_method_2_35 : decode method_2_code 35 = .ok (.iload_n 0, 1) := by decide +kernel
theorem d_method_2_36 : decode method_2_code 36 = .ok (.iconst 1, 1) := by decide +kernel
theorem d_method_2_37 : decode method_2_code 37 = .ok (.iushr, 1) := by decide +kernel
theorem d_method_2_38 : decode method_2_code 38 = .ok (.ldc 11, 2) := by decide +kernel
theorem d_method_2_40 : decode method_2_code 40 = .ok (.irem, 1) := by decide +kernel
theorem d_method_2_41 : decode method_2_code 41 = .ok (.iadd, 1) := by decide +kernel
theorem d_method_2_42 : decode method_2_code 42 = .ok (.ireturn, 1) := by decide +kernel
def Q_cp (Z : State) (p1 : Int32) (h0 : Heap) (v : Option Value) (h : Heap) (L : List Loc) : Prop := ∃ (r : Int32), v = some (.int r) ∧ Fr Z.heap.size L ∧ h = h0 ∧ (own_vp r)
set_option maxRecDepth 65536 in
set_option maxHeartbeats 40000000 in
theorem rm_cp (l : Launch) (Z : State) (a0 : Array Value) (hw : ∀ d ∈ tables_1, d.before a0 Z = true) (ws : List Jvm.Cond) (p1 : Int32) (h0 : Heap) (OL : Old Z Z.heap.size h0) :
    MetFree l (⟨"com/example/keep_to_layer/keeptolayer/model/ClassNamesComparePinLaw", "cp", "(I)I"⟩ : MethodName) (head1 (Jvm.Cond.code (⟨"com/example/keep_to_layer/keeptolayer/model/ClassNamesComparePinLaw", "cp", "(I)I"⟩ : MethodName) method_2_code 2 (some .int) :: ws) ({ frames := 0, cells := 0, slots := 0, locals := 0 } : Room)) (fun a U => a = #[(.int p1)] ∧ Z.Warmed39 U.vm ∧ U.heap = h0) (fun _ _ _ _ _ => True) (fun _ U o U' => ∃ v L, o = .returned v ∧ Q_cp Z p1 h0 v U'.heap L ∧ FrameEnd U o U' L ({ frames := 0, cells := 0, slots := 0, locals := 0 } : Room).cells ({ frames := 0, cells := 0, slots := 0, locals := 0 } : Room).slots) := by
  refine MetFree.of_bodySF (plainFor_of_name pn_220) hisR ?_
  intro p e s m args below meth c s₁ Bd hml0 hP hK
  obtain ⟨rfl, hZ, hh⟩ := hP
  have hx := Bd.exec
  have hby := Bd.bytes
  have hml : c.maxLocals = 2 := hml0
  have hown : s.vm.findClass "com/example/keep_to_layer/keeptolayer/model/ClassNamesComparePinLaw" = some m.cls := findClass_of_methodNamed Bd.named
  have hnm := (name_of_methodNamed Bd.named Bd.method).1
  have X0 : Stand p l e ({ frames := 0, cells := 0, slots := 0, locals := 0 } : Room) s m #[(.int p1)] below meth c s₁ [] 0 0 := Stand.of_body Bd
  have e0 : s₁.heap = h0 := by rw [← hh, Bd.state]; rfl
  have N0 := Fr.nil Z.heap.size
  have Z0 : Z.heap.size ≤ h0.size := OL.2.1
  obtain ⟨PP, hPP⟩ : ∃ PP : Outcome → State → Prop, PP = (fun o tE => ∃ v L, o = .returned v ∧ Q_cp Z p1 h0 v tE.heap L ∧ FrameEnd s o tE L ({ frames := 0, cells := 0, slots := 0, locals := 0 } : Room).cells ({ frames := 0, cells := 0, slots := 0, locals := 0 } : Room).slots) := ⟨_, rfl⟩
  show own_Go p.tables e below (fun o tE => ∃ v L, o = .returned v ∧ Q_cp Z p1 h0 v tE.heap L ∧ FrameEnd s o tE L ({ frames := 0, cells := 0, slots := 0, locals := 0 } : Room).cells ({ frames := 0, cells := 0, slots := 0, locals := 0 } : Room).slots) (s₁.setTop (entryFrame m #[(.int p1)] 2))
  rw [← hPP]
  refine own_Go.st (fun t k => castTop (ef_221 m p1) k) ?_
  show own_Go _ _ _ _ (s₁.setTop (mkF m 0 #[.val (.int p1), .unset] []))
  refine own_Go.st (fun _ k => XS.iloadN X0.here hx rfl (hb hby d_method_2_0) rfl k) ?_
  show own_Go _ _ _ _ (s₁.setTop (mkF m 1 #[.val (.int p1), .unset] [(.int p1)]))
  refine own_Go.st (fun _ k => XS.iconst X0.here hx rfl (hb hby d_method_2_1) k) ?_
  show own_Go _ _ _ _ (s₁.setTop (mkF m 2 #[.val (.int p1), .unset] [(.int (1 : Int32)), (.int p1)]))
  refine own_Go.st (fun _ k => XS.iand X0.here hx rfl (hb hby d_method_2_2) rfl k) ?_
  show own_Go _ _ _ _ (s₁.setTop (mkF m 3 #[.val (.int p1), .unset] [(.int (p1 &&& (1 : Int32)))]))
  by_cases hc252 : (p1 &&& (1 : Int32)) = (0 : Int32)
  ·
    refine own_Go.st (fun _ k => XS.ifNo X0.here hx rfl (hb hby d_method_2_3) rfl ((if0 _ _).trans (teq hc252).2) k) ?_
    show own_Go _ _ _ _ (s₁.setTop (mkF m 6 #[.val (.int p1), .unset] []))
    refine own_Go.st (fun _ k => XS.iloadN X0.here hx rfl (hb hby d_method_2_6) rfl k) ?_
    show own_Go _ _ _ _ (s₁.setTop (mkF m 7 #[.val (.int p1), .unset] [(.int p1)]))
    refine own_Go.st (fun _ k => XS.iconst X0.here hx rfl (hb hby d_method_2_7) k) ?_
    show own_Go _ _ _ _ (s₁.setTop (mkF m 8 #[.val (.int p1), .unset] [(.int (1 : Int32)), (.int p1)]))
    refine own_Go.st (fun _ k => XS.iushr X0.here hx rfl (hb hby d_method_2_8) rfl k) ?_
    show own_Go _ _ _ _ (s₁.setTop (mkF m 9 #[.val (.int p1), .unset] [(.int ((p1.toUInt32 >>> ((1 : Int32) &&& 31).toUInt32).toInt32))]))
    refine own_Go.st (X0.ldcInt hx hown (mvT hZ (hw _ (List.mem_of_getElem? (i := 5) rfl))) (g := (mkF m 9 #[.val (.int p1), .unset] [(.int ((p1.toUInt32 >>> ((1 : Int32) &&& 31).toUInt32).toInt32))])) rfl (hb hby d_method_2_9)) ?_
    show own_Go _ _ _ _ (s₁.setTop (mkF m 11 #[.val (.int p1), .unset] [(.int (65535 : Int32)), (.int ((p1.toUInt32 >>> ((1 : Int32) &&& 31).toUInt32).toInt32))]))
    refine own_Go.st (fun _ k => XS.iand X0.here hx rfl (hb hby d_method_2_11) rfl k) ?_
    show own_Go _ _ _ _ (s₁.setTop (mkF m 12 #[.val (.int p1), .unset] [(.int (((p1.toUInt32 >>> ((1 : Int32) &&& 31).toUInt32).toInt32) &&& (65535 : Int32)))]))
    refine own_Go.st (fun _ k => XS.istoreN X0.here hx rfl (hb hby d_method_2_12) rfl (l' := #[.val (.int p1), .val (.int (((p1.toUInt32 >>> ((1 : Int32) &&& 31).toUInt32).toInt32) &&& (65535 : Int32)))]) rfl k) ?_
    show own_Go _ _ _ _ (s₁.setTop (mkF m 13 #[.val (.int p1), .val (.int (((p1.toUInt32 >>> ((1 : Int32) &&& 31).toUInt32).toInt32) &&& (65535 : Int32)))] []))
    refine own_Go.st (fun _ k => XS.iloadN X0.here hx rfl (hb hby d_method_2_13) rfl k) ?_
    show own_Go _ _ _ _ (s₁.setTop (mkF m 14 #[.val (.int p1), .val (.int (((p1.toUInt32 >>> ((1 : Int32) &&& 31).toUInt32).toInt32) &&& (65535 : Int32)))] [(.int (((p1.toUInt32 >>> ((1 : Int32) &&& 31).toUInt32).toInt32) &&& (65535 : Int32)))]))
    refine own_Go.st (X0.ldcInt hx hown (mvT hZ (hw _ (List.mem_of_getElem? (i := 6) rfl))) (g := (mkF m 14 #[.val (.int p1), .val (.int (((p1.toUInt32 >>> ((1 : Int32) &&& 31).toUInt32).toInt32) &&& (65535 : Int32)))] [(.int (((p1.toUInt32 >>> ((1 : Int32) &&& 31).toUInt32).toInt32) &&& (65535 : Int32)))])) rfl (hb hby d_method_2_14)) ?_
    show own_Go _ _ _ _ (s₁.setTop (mkF m 16 #[.val (.int p1), .val (.int (((p1.toUInt32 >>> ((1 : Int32) &&& 31).toUInt32).toInt32) &&& (65535 : Int32)))] [(.int (55296 : Int32)), (.int (((p1.toUInt32 >>> ((1 : Int32) &&& 31).toUInt32).toInt32) &&& (65535 : Int32)))]))
    by_cases hc253 : (((p1.toUInt32 >>> ((1 : Int32) &&& 31).toUInt32).toInt32) &&& (65535 : Int32)) < (55296 : Int32)
    ·
      refine own_Go.st (fun _ k => XS.icmpYes X0.here hx rfl (pc0 := 16) (pc' := 31) rfl (hb hby d_method_2_16) rfl (tlt hc253).1 (by decide) (by decide) k) ?_
      show own_Go _ _ _ _ (s₁.setTop (mkF m 31 #[.val (.int p1), .val (.int (((p1.toUInt32 >>> ((1 : Int32) &&& 31).toUInt32).toInt32) &&& (65535 : Int32)))] []))
      refine own_Go.st (fun _ k => XS.iloadN X0.here hx rfl (hb hby d_method_2_31) rfl k) ?_
      show own_Go _ _ _ _ (s₁.setTop (mkF m 32 #[.val (.int p1), .val (.int (((p1.toUInt32 >>> ((1 : Int32) &&& 31).toUInt32).toInt32) &&& (65535 : Int32)))] [(.int (((p1.toUInt32 >>> ((1 : Int32) &&& 31).toUInt32).toInt32) &&& (65535 : Int32)))]))
      obtain ⟨fs254, hr254, hrun254, hend254, hW254, hsm254⟩ := X0.leave (v := some (.int (((p1.toUInt32 >>> ((1 : Int32) &&& 31).toUInt32).toInt32) &&& (65535 : Int32)))) (fun h => by rw [Bd.returns] at h; cases h)
      subst hPP
      refine ⟨_, _, own_retI X0 hx Bd.returns (hb hby d_method_2_32) hr254, hrun254, hend254, _, _, rfl, ?_, ⟨_, rfl⟩, hW254, hsm254.mono (by decide) (by decide)⟩
      · show Q_cp Z _ h0 _ s₁.heap _
        rw [e0]
        exact ⟨_, rfl, N0, rfl, (own_cpEven (Or.inl hc253))⟩
    ·
      refine own_Go.st (fun _ k => XS.icmpNo X0.here hx rfl (hb hby d_method_2_16) rfl (flt hc253).1 k) ?_
      show own_Go _ _ _ _ (s₁.setTop (mkF m 19 #[.val (.int p1), .val (.int (((p1.toUInt32 >>> ((1 : Int32) &&& 31).toUInt32).toInt32) &&& (65535 : Int32)))] []))
      refine own_Go.st (fun _ k => XS.iloadN X0.here hx rfl (hb hby d_method_2_19) rfl k) ?_
      show own_Go _ _ _ _ (s₁.setTop (mkF m 20 #[.val (.int p1), .val (.int (((p1.toUInt32 >>> ((1 : Int32) &&& 31).toUInt32).toInt32) &&& (65535 : Int32)))] [(.int (((p1.toUInt32 >>> ((1 : Int32) &&& 31).toUInt32).toInt32) &&& (65535 : Int32)))]))
      refine own_Go.st (X0.ldcInt hx hown (mvT hZ (hw _ (List.mem_of_getElem? (i := 133) rfl))) (g := (mkF m 20 #[.val (.int p1), .val (.int (((p1.toUInt32 >>> ((1 : Int32) &&& 31).toUInt32).toInt32) &&& (65535 : Int32)))] [(.int (((p1.toUInt32 >>> ((1 : Int32) &&& 31).toUInt32).toInt32) &&& (65535 : Int32)))])) rfl (hb hby d_method_2_20)) ?_
      show own_Go _ _ _ _ (s₁.setTop (mkF m 22 #[.val (.int p1), .val (.int (((p1.toUInt32 >>> ((1 : Int32) &&& 31).toUInt32).toInt32) &&& (65535 : Int32)))] [(.int (57343 : Int32)), (.int (((p1.toUInt32 >>> ((1 : Int32) &&& 31).toUInt32).toInt32) &&& (65535 : Int32)))]))
      by_cases hc255 : (57343 : Int32) < (((p1.toUInt32 >>> ((1 : Int32) &&& 31).toUInt32).toInt32) &&& (65535 : Int32))
      ·
        refine own_Go.st (fun _ k => XS.icmpYes X0.here hx rfl (pc0 := 22) (pc' := 31) rfl (hb hby d_method_2_22) rfl (tlt hc255).2.2.1 (by decide) (by decide) k) ?_
        show own_Go _ _ _ _ (s₁.setTop (mkF m 31 #[.val (.int p1), .val (.int (((p1.toUInt32 >>> ((1 : Int32) &&& 31).toUInt32).toInt32) &&& (65535 : Int32)))] []))
        refine own_Go.st (fun _ k => XS.iloadN X0.here hx rfl (hb hby d_method_2_31) rfl k) ?_
        show own_Go _ _ _ _ (s₁.setTop (mkF m 32 #[.val (.int p1), .val (.int (((p1.toUInt32 >>> ((1 : Int32) &&& 31).toUInt32).toInt32) &&& (65535 : Int32)))] [(.int (((p1.toUInt32 >>> ((1 : Int32) &&& 31).toUInt32).toInt32) &&& (65535 : Int32)))]))
        obtain ⟨fs256, hr256, hrun256, hend256, hW256, hsm256⟩ := X0.leave (v := some (.int (((p1.toUInt32 >>> ((1 : Int32) &&& 31).toUInt32).toInt32) &&& (65535 : Int32)))) (fun h => by rw [Bd.returns] at h; cases h)
        subst hPP
        refine ⟨_, _, own_retI X0 hx Bd.returns (hb hby d_method_2_32) hr256, hrun256, hend256, _, _, rfl, ?_, ⟨_, rfl⟩, hW256, hsm256.mono (by decide) (by decide)⟩
        · show Q_cp Z _ h0 _ s₁.heap _
          rw [e0]
          exact ⟨_, rfl, N0, rfl, (own_cpEven (Or.inr hc255))⟩
      ·
        refine own_Go.st (fun _ k => XS.icmpNo X0.here hx rfl (hb hby d_method_2_22) rfl (flt hc255).2.2.1 k) ?_
        show own_Go _ _ _ _ (s₁.setTop (mkF m 25 #[.val (.int p1), .val (.int (((p1.toUInt32 >>> ((1 : Int32) &&& 31).toUInt32).toInt32) &&& (65535 : Int32)))] []))
        refine own_Go.st (fun _ k => XS.iloadN X0.here hx rfl (hb hby d_method_2_25) rfl k) ?_
        show own_Go _ _ _ _ (s₁.setTop (mkF m 26 #[.val (.int p1), .val (.int (((p1.toUInt32 >>> ((1 : Int32) &&& 31).toUInt32).toInt32) &&& (65535 : Int32)))] [(.int (((p1.toUInt32 >>> ((1 : Int32) &&& 31).toUInt32).toInt32) &&& (65535 : Int32)))]))
        refine own_Go.st (fun _ k => XS.sipush X0.here hx rfl (hb hby d_method_2_26) k) ?_
        show own_Go _ _ _ _ (s₁.setTop (mkF m 29 #[.val (.int p1), .val (.int (((p1.toUInt32 >>> ((1 : Int32) &&& 31).toUInt32).toInt32) &&& (65535 : Int32)))] [(.int (16384 : Int32)), (.int (((p1.toUInt32 >>> ((1 : Int32) &&& 31).toUInt32).toInt32) &&& (65535 : Int32)))]))
        refine own_Go.st (fun _ k => XS.ixor X0.here hx rfl (hb hby d_method_2_29) rfl k) ?_
        show own_Go _ _ _ _ (s₁.setTop (mkF m 30 #[.val (.int p1), .val (.int (((p1.toUInt32 >>> ((1 : Int32) &&& 31).toUInt32).toInt32) &&& (65535 : Int32)))] [(.int ((((p1.toUInt32 >>> ((1 : Int32) &&& 31).toUInt32).toInt32) &&& (65535 : Int32)) ^^^ (16384 : Int32)))]))
        refine own_Go.st (fun _ k => XS.istoreN X0.here hx rfl (hb hby d_method_2_30) rfl (l' := #[.val (.int p1), .val (.int ((((p1.toUInt32 >>> ((1 : Int32) &&& 31).toUInt32).toInt32) &&& (65535 : Int32)) ^^^ (16384 : Int32)))]) rfl k) ?_
        show own_Go _ _ _ _ (s₁.setTop (mkF m 31 #[.val (.int p1), .val (.int ((((p1.toUInt32 >>> ((1 : Int32) &&& 31).toUInt32).toInt32) &&& (65535 : Int32)) ^^^ (16384 : Int32)))] []))
        refine own_Go.st (fun _ k => XS.iloadN X0.here hx rfl (hb hby d_method_2_31) rfl k) ?_
        show own_Go _ _ _ _ (s₁.setTop (mkF m 32 #[.val (.int p1), .val (.int ((((p1.toUInt32 >>> ((1 : Int32) &&& 31).toUInt32).toInt32) &&& (65535 : Int32)) ^^^ (16384 : Int32)))] [(.int ((((p1.toUInt32 >>> ((1 : Int32) &&& 31).toUInt32).toInt32) &&& (65535 : Int32)) ^^^ (16384 : Int32)))]))
        obtain ⟨fs257, hr257, hrun257, hend257, hW257, hsm257⟩ := X0.leave (v := some (.int ((((p1.toUInt32 >>> ((1 : Int32) &&& 31).toUInt32).toInt32) &&& (65535 : Int32)) ^^^ (16384 : Int32)))) (fun h => by rw [Bd.returns] at h; cases h)
        subst hPP
        refine ⟨_, _, own_retI X0 hx Bd.returns (hb hby d_method_2_32) hr257, hrun257, hend257, _, _, rfl, ?_, ⟨_, rfl⟩, hW257, hsm257.mono (by decide) (by decide)⟩
        · show Q_cp Z _ h0 _ s₁.heap _
          rw [e0]
          exact ⟨_, rfl, N0, rfl, (own_xor hc253 hc255)⟩
  ·
    refine own_Go.st (fun _ k => XS.ifYes X0.here hx rfl (pc0 := 3) (pc' := 33) rfl (hb hby d_method_2_3) rfl ((if0 _ _).trans (feq hc252).2) (by decide) (by decide) k) ?_
    show own_Go _ _ _ _ (s₁.setTop (mkF m 33 #[.val (.int p1), .unset] []))
    refine own_Go.st (X0.ldcInt hx hown (mvT hZ (hw _ (List.mem_of_getElem? (i := 7) rfl))) (g := (mkF m 33 #[.val (.int p1), .unset] [])) rfl (hb hby d_method_2_33)) ?_
    show own_Go _ _ _ _ (s₁.setTop (mkF m 35 #[.val (.int p1), .unset] [(.int (65536 : Int32))]))
    refine own_Go.st (fun _ k => XS.iloadN X0.here hx rfl (hb hby d_method_2_35) rfl k) ?_
    show own_Go _ _ _ _ (s₁.setTop (mkF m 36 #[.val (.int p1), .unset] [(.int p1), (.int (65536 : Int32))]))
    refine own_Go.st (fun _ k => XS.iconst X0.here hx rfl (hb hby d_method_2_36) k) ?_
    show own_Go _ _ _ _ (s₁.setTop (mkF m 37 #[.val (.int p1), .unset] [(.int (1 : Int32)), (.int p1), (.int (65536 : Int32))]))
    refine own_Go.st (fun _ k => XS.iushr X0.here hx rfl (hb hby d_method_2_37) rfl k) ?_
    show own_Go _ _ _ _ (s₁.setTop (mkF m 38 #[.val (.int p1), .unset] [(.int ((p1.toUInt32 >>> ((1 : Int32) &&& 31).toUInt32).toInt32)), (.int (65536 : Int32))]))
    refine own_Go.st (X0.ldcInt hx hown (mvT hZ (hw _ (List.mem_of_getElem? (i := 8) rfl))) (g := (mkF m 38 #[.val (.int p1), .unset] [(.int ((p1.toUInt32 >>> ((1 : Int32) &&& 31).toUInt32).toInt32)), (.int (65536 : Int32))])) rfl (hb hby d_method_2_38)) ?_
    show own_Go _ _ _ _ (s₁.setTop (mkF m 40 #[.val (.int p1), .unset] [(.int (1048576 : Int32)), (.int ((p1.toUInt32 >>> ((1 : Int32) &&& 31).toUInt32).toInt32)), (.int (65536 : Int32))]))
    refine own_Go.st (fun _ k => iremM (g := (mkF m 40 #[.val (.int p1), .unset] [(.int (1048576 : Int32)), (.int ((p1.toUInt32 >>> ((1 : Int32) &&& 31).toUInt32).toInt32)), (.int (65536 : Int32))])) X0 hx rfl (hb hby d_method_2_40) rfl (by decide) k) ?_
    show own_Go _ _ _ _ (s₁.setTop (mkF m 41 #[.val (.int p1), .unset] [(.int (((p1.toUInt32 >>> ((1 : Int32) &&& 31).toUInt32).toInt32) % (1048576 : Int32))), (.int (65536 : Int32))]))
    refine own_Go.st (fun _ k => XS.iadd X0.here hx rfl (hb hby d_method_2_41) rfl k) ?_
    show own_Go _ _ _ _ (s₁.setTop (mkF m 42 #[.val (.int p1), .unset] [(.int ((65536 : Int32) + (((p1.toUInt32 >>> ((1 : Int32) &&& 31).toUInt32).toInt32) % (1048576 : Int32))))]))
    obtain ⟨fs258, hr258, hrun258, hend258, hW258, hsm258⟩ := X0.leave (v := some (.int ((65536 : Int32) + (((p1.toUInt32 >>> ((1 : Int32) &&& 31).toUInt32).toInt32) % (1048576 : Int32))))) (fun h => by rw [Bd.returns] at h; cases h)
    subst hPP
    refine ⟨_, _, own_retI X0 hx Bd.returns (hb hby d_method_2_42) hr258, hrun258, hend258, _, _, rfl, ?_, ⟨_, rfl⟩, hW258, hsm258.mono (by decide) (by decide)⟩
    · show Q_cp Z _ h0 _ s₁.heap _
      rw [e0]
      exact ⟨_, rfl, N0, rfl, (own_cpOdd p1)⟩
theorem d_method_3_0 : decode method_3_code 0 = .ok (.ldc 8, 2) := by decide +kernel
theorem d_method_3_2 : decode method_3_code 2 = .ok (.iload_n 0, 1) := by decide +kernel
theorem d_method_3_3 : decode method_3_code 3 = .ok (.ldc 10, 2) := by decide +kernel
theorem d_method_3_5 : decode method_3_code 5 = .ok (.isub, 1) := by decide +kernel
theorem d_method_3_6 : decode method_3_code 6 = .ok (.bipush 10, 2) := by decide +kernel
theorem d_method_3_8 : decode method_3_code 8 = .ok (.ishr, 1) := by decide +kernel
theorem d_method_3_9 : decode method_3_code 9 = .ok (.iadd, 1) := by decide +kernel
theorem d_method_3_10 : decode method_3_code 10 = .ok (.i2c, 1) := by decide +kernel
theorem d_method_3_11 : decode method_3_code 11 = .ok (.ireturn, 1) := by decide +kernel
def Q_hi (Z : State) (p1 : Int32) (h0 : Heap) (v : Option Value) (h : Heap) (L : List Loc) : Prop := v = some (.int (own_Hi p1)) ∧ Fr Z.heap.size L ∧ h = h0
set_option maxRecDepth 65536 in
set_option maxHeartbeats 40000000 in
theorem rm_hi (l : Launch) (Z : State) (a0 : Array Value) (hw : ∀ d ∈ tables_1, d.before a0 Z = true) (ws : List Jvm.Cond) (p1 : Int32) (h0 : Heap) (OL : Old Z Z.heap.size h0) (hg : ¬ p1 < (65536 : Int32)) (hv : own_vp p1) :
    MetFree l (⟨"com/example/keep_to_layer/keeptolayer/model/ClassNamesComparePinLaw", "hi", "(I)C"⟩ : MethodName) (head1 (Jvm.Cond.code (⟨"com/example/keep_to_layer/keeptolayer/model/ClassNamesComparePinLaw", "hi", "(I)C"⟩ : MethodName) method_3_code 1 (some .char) :: ws) ({ frames := 0, cells := 0, slots := 0, locals := 0 } : Room)) (fun a U => a = #[(.int p1)] ∧ Z.Warmed39 U.vm ∧ U.heap = h0) (fun _ _ _ _ _ => True) (fun _ U o U' => ∃ v L, o = .returned v ∧ Q_hi Z p1 h0 v U'.heap L ∧ FrameEnd U o U' L ({ frames := 0, cells := 0, slots := 0, locals := 0 } : Room).cells ({ frames := 0, cells := 0, slots := 0, locals := 0 } : Room).slots) := by
  refine MetFree.of_bodySF (plainFor_of_name pn_220) hisR ?_
  intro p e s m args below meth c s₁ Bd hml0 hP hK
  obtain ⟨rfl, hZ, hh⟩ := hP
  have hx := Bd.exec
  have hby := Bd.bytes
  have hml : c.maxLocals = 1 := hml0
  have hown : s.vm.findClass "com/example/keep_to_layer/keeptolayer/model/ClassNamesComparePinLaw" = some m.cls := findClass_of_methodNamed Bd.named
  have hnm := (name_of_methodNamed Bd.named Bd.method).1
  have X0 : Stand p l e ({ frames := 0, cells := 0, slots := 0, locals := 0 } : Room) s m #[(.int p1)] below meth c s₁ [] 0 0 := Stand.of_body Bd
  have e0 : s₁.heap = h0 := by rw [← hh, Bd.state]; rfl
  have N0 := Fr.nil Z.heap.size
  have Z0 : Z.heap.size ≤ h0.size := OL.2.1
  obtain ⟨PP, hPP⟩ : ∃ PP : Outcome → State → Prop, PP = (fun o tE => ∃ v L, o = .returned v ∧ Q_hi Z p1 h0 v tE.heap L ∧ FrameEnd s o tE L ({ frames := 0, cells := 0, slots := 0, locals := 0 } : Room).cells ({ frames := 0, cells := 0, slots := 0, locals := 0 } : Room).slots) := ⟨_, rfl⟩
  show own_Go p.tables e below (fun o tE => ∃ v L, o = .returned v ∧ Q_hi Z p1 h0 v tE.heap L ∧ FrameEnd s o tE L ({ frames := 0, cells := 0, slots := 0, locals := 0 } : Room).cells ({ frames := 0, cells := 0, slots := 0, locals := 0 } : Room).slots) (s₁.setTop (entryFrame m #[(.int p1)] 1))
  rw [← hPP]
  refine own_Go.st (fun t k => castTop (ef_98 m p1) k) ?_
  show own_Go _ _ _ _ (s₁.setTop (mkF m 0 #[.val (.int p1)] []))
  refine own_Go.st (X0.ldcInt hx hown (mvT hZ (hw _ (List.mem_of_getElem? (i := 6) rfl))) (g := (mkF m 0 #[.val (.int p1)] [])) rfl (hb hby d_method_3_0)) ?_
  show own_Go _ _ _ _ (s₁.setTop (mkF m 2 #[.val (.int p1)] [(.int (55296 : Int32))]))
  refine own_Go.st (fun _ k => XS.iloadN X0.here hx rfl (hb hby d_method_3_2) rfl k) ?_
  show own_Go _ _ _ _ (s₁.setTop (mkF m 3 #[.val (.int p1)] [(.int p1), (.int (55296 : Int32))]))
  refine own_Go.st (X0.ldcInt hx hown (mvT hZ (hw _ (List.mem_of_getElem? (i := 7) rfl))) (g := (mkF m 3 #[.val (.int p1)] [(.int p1), (.int (55296 : Int32))])) rfl (hb hby d_method_3_3)) ?_
  show own_Go _ _ _ _ (s₁.setTop (mkF m 5 #[.val (.int p1)] [(.int (65536 : Int32)), (.int p1), (.int (55296 : Int32))]))
  refine own_Go.st (fun _ k => XS.isub X0.here hx rfl (hb hby d_method_3_5) rfl k) ?_
  show own_Go _ _ _ _ (s₁.setTop (mkF m 6 #[.val (.int p1)] [(.int (p1 - (65536 : Int32))), (.int (55296 : Int32))]))
  refine own_Go.st (fun _ k => XS.bipush X0.here hx rfl (hb hby d_method_3_6) k) ?_
  show own_Go _ _ _ _ (s₁.setTop (mkF m 8 #[.val (.int p1)] [(.int (10 : Int32)), (.int (p1 - (65536 : Int32))), (.int (55296 : Int32))]))
  refine own_Go.st (fun _ k => XS.ishr X0.here hx rfl (hb hby d_method_3_8) rfl k) ?_
  show own_Go _ _ _ _ (s₁.setTop (mkF m 9 #[.val (.int p1)] [(.int ((p1 - (65536 : Int32)) >>> ((10 : Int32) &&& 31))), (.int (55296 : Int32))]))
  refine own_Go.st (fun _ k => XS.iadd X0.here hx rfl (hb hby d_method_3_9) rfl k) ?_
  show own_Go _ _ _ _ (s₁.setTop (mkF m 10 #[.val (.int p1)] [(.int ((55296 : Int32) + ((p1 - (65536 : Int32)) >>> ((10 : Int32) &&& 31))))]))
  refine own_Go.st (fun _ k => XS.i2c X0.here hx rfl (hb hby d_method_3_10) rfl k) ?_
  show own_Go _ _ _ _ (s₁.setTop (mkF m 11 #[.val (.int p1)] [(.int (((55296 : Int32) + ((p1 - (65536 : Int32)) >>> ((10 : Int32) &&& 31))).toUInt32.toUInt16.toUInt32.toInt32))]))
  obtain ⟨fs259, hr259, hrun259, hend259, hW259, hsm259⟩ := X0.leave (v := some (.int (nar .char (((55296 : Int32) + ((p1 - (65536 : Int32)) >>> ((10 : Int32) &&& 31))).toUInt32.toUInt16.toUInt32.toInt32)))) (fun h => by rw [Bd.returns] at h; cases h)
  subst hPP
  refine ⟨_, _, retN X0 hx (t := .char) Bd.returns (by simp) (hb hby d_method_3_11) hr259, hrun259, hend259, _, _, rfl, ?_, ⟨_, rfl⟩, hW259, hsm259.mono (by decide) (by decide)⟩
  · show Q_hi Z _ h0 _ s₁.heap _
    rw [e0]
    exact ⟨(congrArg (fun z => some (Value.int z)) (own_HiX hg hv)), N0, rfl⟩
theorem d_method_4_0 : decode method_4_code 0 = .ok (.ldc 12, 2) := by decide +kernel
theorem d_method_4_2 : decode method_4_code 2 = .ok (.iload_n 0, 1) := by decide +kernel
theorem d_method_4_3 : decode method_4_code 3 = .ok (.ldc 10, 2) := by decide +kernel
theorem d_method_4_5 : decode method_4_code 5 = .ok (.isub, 1) := by decide +kernel
theorem d_method_4_6 : decode method_4_code 6 = .ok (.sipush 1023, 3) := by decide +kernel
theorem d_method_4_9 : decode method_4_code 9 = .ok (.iand, 1) := by decide +kernel
theorem d_method_4_10 : decode method_4_code 10 = .ok (.iadd, 1) := by decide +kernel
theorem d_method_4_11 : decode method_4_code 11 = .ok (.i2c, 1) := by decide +kernel
theorem d_method_4_12 : decode method_4_code 12 = .ok (.ireturn, 1) := by decide +kernel
def Q_lo (Z : State) (p1 : Int32) (h0 : Heap) (v : Option Value) (h : Heap) (L : List Loc) : Prop := v = some (.int (own_Lo p1)) ∧ Fr Z.heap.size L ∧ h = h0
set_option maxRecDepth 65536 in
set_option maxHeartbeats 40000000 in
theorem rm_lo (l : Launch) (Z : State) (a0 : Array Value) (hw : ∀ d ∈ tables_1, d.before a0 Z = true) (ws : List Jvm.Cond) (p1 : Int32) (h0 : Heap) (OL : Old Z Z.heap.size h0) (hg : ¬ p1 < (65536 : Int32)) (hv : own_vp p1) :
    MetFree l (⟨"com/example/keep_to_layer/keeptolayer/model/ClassNamesComparePinLaw", "lo", "(I)C"⟩ : MethodName) (head1 (Jvm.Cond.code (⟨"com/example/keep_to_layer/keeptolayer/model/ClassNamesComparePinLaw", "lo", "(I)C"⟩ : MethodName) method_4_code 1 (some .char) :: ws) ({ frames := 0, cells := 0, slots := 0, locals := 0 } : Room)) (fun a U => a = #[(.int p1)] ∧ Z.Warmed39 U.vm ∧ U.heap = h0) (fun _ _ _ _ _ => True) (fun _ U o U' => ∃ v L, o = .returned v ∧ Q_lo Z p1 h0 v U'.heap L ∧ FrameEnd U o U' L ({ frames := 0, cells := 0, slots := 0, locals := 0 } : Room).cells ({ frames := 0, cells := 0, slots := 0, locals := 0 } : Room).slots) := by
  refine MetFree.of_bodySF (plainFor_of_name pn_220) hisR ?_
  intro p e s m args below meth c s₁ Bd hml0 hP hK
  obtain ⟨rfl, hZ, hh⟩ := hP
  have hx := Bd.exec
  have hby := Bd.bytes
  have hml : c.maxLocals = 1 := hml0
  have hown : s.vm.findClass "com/example/keep_to_layer/keeptolayer/model/ClassNamesComparePinLaw" = some m.cls := findClass_of_methodNamed Bd.named
  have hnm := (name_of_methodNamed Bd.named Bd.method).1
  have X0 : Stand p l e ({ frames := 0, cells := 0, slots := 0, locals := 0 } : Room) s m #[(.int p1)] below meth c s₁ [] 0 0 := Stand.of_body Bd
  have e0 : s₁.heap = h0 := by rw [← hh, Bd.state]; rfl
  have N0 := Fr.nil Z.heap.size
  have Z0 : Z.heap.size ≤ h0.size := OL.2.1
  obtain ⟨PP, hPP⟩ : ∃ PP : Outcome → State → Prop, PP = (fun o tE => ∃ v L, o = .returned v ∧ Q_lo Z p1 h0 v tE.heap L ∧ FrameEnd s o tE L ({ frames := 0, cells := 0, slots := 0, locals := 0 } : Room).cells ({ frames := 0, cells := 0, slots := 0, locals := 0 } : Room).slots) := ⟨_, rfl⟩
  show own_Go p.tables e below (fun o tE => ∃ v L, o = .returned v ∧ Q_lo Z p1 h0 v tE.heap L ∧ FrameEnd s o tE L ({ frames := 0, cells := 0, slots := 0, locals := 0 } : Room).cells ({ frames := 0, cells := 0, slots := 0, locals := 0 } : Room).slots) (s₁.setTop (entryFrame m #[(.int p1)] 1))
  rw [← hPP]
  refine own_Go.st (fun t k => castTop (ef_98 m p1) k) ?_
  show own_Go _ _ _ _ (s₁.setTop (mkF m 0 #[.val (.int p1)] []))
  refine own_Go.st (X0.ldcInt hx hown (mvT hZ (hw _ (List.mem_of_getElem? (i := 75) rfl))) (g := (mkF m 0 #[.val (.int p1)] [])) rfl (hb hby d_method_4_0)) ?_
  show own_Go _ _ _ _ (s₁.setTop (mkF m 2 #[.val (.int p1)] [(.int (56320 : Int32))]))
  refine own_Go.st (fun _ k => XS.iloadN X0.here hx rfl (hb hby d_method_4_2) rfl k) ?_
  show own_Go _ _ _ _ (s₁.setTop (mkF m 3 #[.val (.int p1)] [(.int p1), (.int (56320 : Int32))]))
  refine own_Go.st (X0.ldcInt hx hown (mvT hZ (hw _ (List.mem_of_getElem? (i := 7) rfl))) (g := (mkF m 3 #[.val (.int p1)] [(.int p1), (.int (56320 : Int32))])) rfl (hb hby d_method_4_3)) ?_
  show own_Go _ _ _ _ (s₁.setTop (mkF m 5 #[.val (.int p1)] [(.int (65536 : Int32)), (.int p1), (.int (56320 : Int32))]))
  refine own_Go.st (fun _ k => XS.isub X0.here hx rfl (hb hby d_method_4_5) rfl k) ?_
  show own_Go _ _ _ _ (s₁.setTop (mkF m 6 #[.val (.int p1)] [(.int (p1 - (65536 : Int32))), (.int (56320 : Int32))]))
  refine own_Go.st (fun _ k => XS.sipush X0.here hx rfl (hb hby d_method_4_6) k) ?_
  show own_Go _ _ _ _ (s₁.setTop (mkF m 9 #[.val (.int p1)] [(.int (1023 : Int32)), (.int (p1 - (65536 : Int32))), (.int (56320 : Int32))]))
  refine own_Go.st (fun _ k => XS.iand X0.here hx rfl (hb hby d_method_4_9) rfl k) ?_
  show own_Go _ _ _ _ (s₁.setTop (mkF m 10 #[.val (.int p1)] [(.int ((p1 - (65536 : Int32)) &&& (1023 : Int32))), (.int (56320 : Int32))]))
  refine own_Go.st (fun _ k => XS.iadd X0.here hx rfl (hb hby d_method_4_10) rfl k) ?_
  show own_Go _ _ _ _ (s₁.setTop (mkF m 11 #[.val (.int p1)] [(.int ((56320 : Int32) + ((p1 - (65536 : Int32)) &&& (1023 : Int32))))]))
  refine own_Go.st (fun _ k => XS.i2c X0.here hx rfl (hb hby d_method_4_11) rfl k) ?_
  show own_Go _ _ _ _ (s₁.setTop (mkF m 12 #[.val (.int p1)] [(.int (((56320 : Int32) + ((p1 - (65536 : Int32)) &&& (1023 : Int32))).toUInt32.toUInt16.toUInt32.toInt32))]))
  obtain ⟨fs260, hr260, hrun260, hend260, hW260, hsm260⟩ := X0.leave (v := some (.int (nar .char (((56320 : Int32) + ((p1 - (65536 : Int32)) &&& (1023 : Int32))).toUInt32.toUInt16.toUInt32.toInt32)))) (fun h => by rw [Bd.returns] at h; cases h)
  subst hPP
  refine ⟨_, _, retN X0 hx (t := .char) Bd.returns (by simp) (hb hby d_method_4_12) hr260, hrun260, hend260, _, _, rfl, ?_, ⟨_, rfl⟩, hW260, hsm260.mono (by decide) (by decide)⟩
  · show Q_lo Z _ h0 _ s₁.heap _
    rw [e0]
    exact ⟨(congrArg (fun z => some (Value.int z)) (own_LoX hg hv)), N0, rfl⟩
theorem ef_270 (m : MethodId) (x0 : Int32) (x1 : Int32) : entryFrame m #[(.int x0), (.int x1)] 2 = mkF m 0 #[.val (.int x0), .val (.int x1)] [] := by first | (simp [entryFrame, mkF, argsToLocals, Value.category]; done) | rfl
theorem d_method_6_0 : decode method_6_code 0 = .ok (.iload_n 0, 1) := by decide +kernel
theorem d_method_6_1 : decode method_6_code 1 = .ok (.iload_n 1, 1) := by decide +kernel
theorem d_method_6_2 : decode method_6_code 2 = .ok (.if_icmp .ge 5, 3) := by decide +kernel
theorem d_method_6_5 : decode method_6_code 5 = .ok (.iconst (-1), 1) := by decide +kernel
theorem d_method_6_6 : decode method_6_code 6 = .ok (.ireturn, 1) := by decide +kernel
theorem d_method_6_7 : decode method_6_code 7 = .ok (.iload_n 0, 1) := by decide +kernel
theorem d_method_6_8 : decode method_6_code 8 = .ok (.iload_n 1, 1) := by decide +kernel
theorem d_method_6_9 : decode method_6_code 9 = .ok (.if_icmp .le 5, 3) := by decide +kernel
theorem d_method_6_12 : decode method_6_code 12 = .ok (.iconst 1, 1) := by decide +kernel
theorem d_method_6_13 : decode method_6_code 13 = .ok (.ireturn, 1) := by decide +kernel
theorem d_method_6_14 : decode method_6_code 14 = .ok (.iconst 0, 1) := by decide +kernel
theorem d_method_6_15 : decode method_6_code 15 = .ok (.ireturn, 1) := by decide +kernel
def Q_cmp (Z : State) (p1 : Int32) (p2 : Int32) (h0 : Heap) (v : Option Value) (h : Heap) (L : List Loc) : Prop := v = some (.int (own_cmpI p1 p2)) ∧ Fr Z.heap.size L ∧ h = h0
set_option maxRecDepth 65536 in
set_option maxHeartbeats 40000000 in
theorem rm_cmp (l : Launch) (Z : State) (a0 : Array Value) (hw : ∀ d ∈ tables_1, d.before a0 Z = true) (ws : List Jvm.Cond) (p1 : Int32) (p2 : Int32) (h0 : Heap) (OL : Old Z Z.heap.size h0) :
    MetFree l (⟨"com/example/keep_to_layer/keeptolayer/model/ClassNamesComparePinLaw", "cmp", "(II)I"⟩ : MethodName) (head1 (Jvm.Cond.code (⟨"com/example/keep_to_layer/keeptolayer/model/ClassNamesComparePinLaw", "cmp", "(II)I"⟩ : MethodName) method_6_code 2 (some .int) :: ws) ({ frames := 0, cells := 0, slots := 0, locals := 0 } : Room)) (fun a U => a = #[(.int p1), (.int p2)] ∧ Z.Warmed39 U.vm ∧ U.heap = h0) (fun _ _ _ _ _ => True) (fun _ U o U' => ∃ v L, o = .returned v ∧ Q_cmp Z p1 p2 h0 v U'.heap L ∧ FrameEnd U o U' L ({ frames := 0, cells := 0, slots := 0, locals := 0 } : Room).cells ({ frames := 0, cells := 0, slots := 0, locals := 0 } : Room).slots) := by
  refine MetFree.of_bodySF (plainFor_of_name pn_220) hisR ?_
  intro p e s m args below meth c s₁ Bd hml0 hP hK
  obtain ⟨rfl, hZ, hh⟩ := hP
  have hx := Bd.exec
  have hby := Bd.bytes
  have hml : c.maxLocals = 2 := hml0
  have hown : s.vm.findClass "com/example/keep_to_layer/keeptolayer/model/ClassNamesComparePinLaw" = some m.cls := findClass_of_methodNamed Bd.named
  have hnm := (name_of_methodNamed Bd.named Bd.method).1
  have X0 : Stand p l e ({ frames := 0, cells := 0, slots := 0, locals := 0 } : Room) s m #[(.int p1), (.int p2)] below meth c s₁ [] 0 0 := Stand.of_body Bd
  have e0 : s₁.heap = h0 := by rw [← hh, Bd.state]; rfl
  have N0 := Fr.nil Z.heap.size
  have Z0 : Z.heap.size ≤ h0.size := OL.2.1
  obtain ⟨PP, hPP⟩ : ∃ PP : Outcome → State → Prop, PP = (fun o tE => ∃ v L, o = .returned v ∧ Q_cmp Z p1 p2 h0 v tE.heap L ∧ FrameEnd s o tE L ({ frames := 0, cells := 0, slots := 0, locals := 0 } : Room).cells ({ frames := 0, cells := 0, slots := 0, locals := 0 } : Room).slots) := ⟨_, rfl⟩
  show own_Go p.tables e below (fun o tE => ∃ v L, o = .returned v ∧ Q_cmp Z p1 p2 h0 v tE.heap L ∧ FrameEnd s o tE L ({ frames := 0, cells := 0, slots := 0, locals := 0 } : Room).cells ({ frames := 0, cells := 0, slots := 0, locals := 0 } : Room).slots) (s₁.setTop (entryFrame m #[(.int p1), (.int p2)] 2))
  rw [← hPP]
  refine own_Go.st (fun t k => castTop (ef_270 m p1 p2) k) ?_
  show own_Go _ _ _ _ (s₁.setTop (mkF m 0 #[.val (.int p1), .val (.int p2)] []))
  refine own_Go.st (fun _ k => XS.iloadN X0.here hx rfl (hb hby d_method_6_0) rfl k) ?_
  show own_Go _ _ _ _ (s₁.setTop (mkF m 1 #[.val (.int p1), .val (.int p2)] [(.int p1)]))
  refine own_Go.st (fun _ k => XS.iloadN X0.here hx rfl (hb hby d_method_6_1) rfl k) ?_
  show own_Go _ _ _ _ (s₁.setTop (mkF m 2 #[.val (.int p1), .val (.int p2)] [(.int p2), (.int p1)]))
  by_cases hc261 : p1 < p2
  ·
    refine own_Go.st (fun _ k => XS.icmpNo X0.here hx rfl (hb hby d_method_6_2) rfl (tlt hc261).2.1 k) ?_
    show own_Go _ _ _ _ (s₁.setTop (mkF m 5 #[.val (.int p1), .val (.int p2)] []))
    refine own_Go.st (fun _ k => XS.iconst X0.here hx rfl (hb hby d_method_6_5) k) ?_
    show own_Go _ _ _ _ (s₁.setTop (mkF m 6 #[.val (.int p1), .val (.int p2)] [(.int (-1 : Int32))]))
    obtain ⟨fs262, hr262, hrun262, hend262, hW262, hsm262⟩ := X0.leave (v := some (.int (-1 : Int32))) (fun h => by rw [Bd.returns] at h; cases h)
    subst hPP
    refine ⟨_, _, own_retI X0 hx Bd.returns (hb hby d_method_6_6) hr262, hrun262, hend262, _, _, rfl, ?_, ⟨_, rfl⟩, hW262, hsm262.mono (by decide) (by decide)⟩
    · show Q_cmp Z _ _ h0 _ s₁.heap _
      rw [e0]
      exact ⟨(by unfold own_cmpI; rw [if_pos hc261]), N0, rfl⟩
  ·
    refine own_Go.st (fun _ k => XS.icmpYes X0.here hx rfl (pc0 := 2) (pc' := 7) rfl (hb hby d_method_6_2) rfl (flt hc261).2.1 (by decide) (by decide) k) ?_
    show own_Go _ _ _ _ (s₁.setTop (mkF m 7 #[.val (.int p1), .val (.int p2)] []))
    refine own_Go.st (fun _ k => XS.iloadN X0.here hx rfl (hb hby d_method_6_7) rfl k) ?_
    show own_Go _ _ _ _ (s₁.setTop (mkF m 8 #[.val (.int p1), .val (.int p2)] [(.int p1)]))
    refine own_Go.st (fun _ k => XS.iloadN X0.here hx rfl (hb hby d_method_6_8) rfl k) ?_
    show own_Go _ _ _ _ (s₁.setTop (mkF m 9 #[.val (.int p1), .val (.int p2)] [(.int p2), (.int p1)]))
    by_cases hc263 : p2 < p1
    ·
      refine own_Go.st (fun _ k => XS.icmpNo X0.here hx rfl (hb hby d_method_6_9) rfl (tlt hc263).2.2.2 k) ?_
      show own_Go _ _ _ _ (s₁.setTop (mkF m 12 #[.val (.int p1), .val (.int p2)] []))
      refine own_Go.st (fun _ k => XS.iconst X0.here hx rfl (hb hby d_method_6_12) k) ?_
      show own_Go _ _ _ _ (s₁.setTop (mkF m 13 #[.val (.int p1), .val (.int p2)] [(.int (1 : Int32))]))
      obtain ⟨fs264, hr264, hrun264, hend264, hW264, hsm264⟩ := X0.leave (v := some (.int (1 : Int32))) (fun h => by rw [Bd.returns] at h; cases h)
      subst hPP
      refine ⟨_, _, own_retI X0 hx Bd.returns (hb hby d_method_6_13) hr264, hrun264, hend264, _, _, rfl, ?_, ⟨_, rfl⟩, hW264, hsm264.mono (by decide) (by decide)⟩
      · show Q_cmp Z _ _ h0 _ s₁.heap _
        rw [e0]
        exact ⟨(by unfold own_cmpI; rw [if_neg hc261, if_neg (fun q => by rw [q] at hc263; exact Int32.lt_irrefl hc263)]), N0, rfl⟩
    ·
      refine own_Go.st (fun _ k => XS.icmpYes X0.here hx rfl (pc0 := 9) (pc' := 14) rfl (hb hby d_method_6_9) rfl (flt hc263).2.2.2 (by decide) (by decide) k) ?_
      show own_Go _ _ _ _ (s₁.setTop (mkF m 14 #[.val (.int p1), .val (.int p2)] []))
      refine own_Go.st (fun _ k => XS.iconst X0.here hx rfl (hb hby d_method_6_14) k) ?_
      show own_Go _ _ _ _ (s₁.setTop (mkF m 15 #[.val (.int p1), .val (.int p2)] [(.int (0 : Int32))]))
      obtain ⟨fs265, hr265, hrun265, hend265, hW265, hsm265⟩ := X0.leave (v := some (.int (0 : Int32))) (fun h => by rw [Bd.returns] at h; cases h)
      subst hPP
      refine ⟨_, _, own_retI X0 hx Bd.returns (hb hby d_method_6_15) hr265, hrun265, hend265, _, _, rfl, ?_, ⟨_, rfl⟩, hW265, hsm265.mono (by decide) (by decide)⟩
      · show Q_cmp Z _ _ h0 _ s₁.heap _
        rw [e0]
        exact ⟨(by unfold own_cmpI; rw [if_neg hc261, if_pos (own_eqI hc261 hc263)]), N0, rfl⟩
theorem pn_283 : plainName "java/lang/Integer" = true := by first | (simp [plainName, overriddenIn]; done) | decide +kernel
theorem d_jdk_33_method_40_0 : decode jdk_33_method_40_code 0 = .ok (.iload_n 0, 1) := by decide +kernel
theorem d_jdk_33_method_40_1 : decode jdk_33_method_40_code 1 = .ok (.iload_n 1, 1) := by decide +kernel
theorem d_jdk_33_method_40_2 : decode jdk_33_method_40_code 2 = .ok (.if_icmp .ge 7, 3) := by decide +kernel
theorem d_jdk_33_method_40_5 : decode jdk_33_method_40_code 5 = .ok (.iconst (-1), 1) := by decide +kernel
theorem d_jdk_33_method_40_6 : decode jdk_33_method_40_code 6 = .ok (.goto 13, 3) := by decide +kernel
theorem d_jdk_33_method_40_19 : decode jdk_33_method_40_code 19 = .ok (.ireturn, 1) := by decide +kernel
theorem d_jdk_33_method_40_9 : decode jdk_33_method_40_code 9 = .ok (.iload_n 0, 1) := by decide +kernel
theorem d_jdk_33_method_40_10 : decode jdk_33_method_40_code 10 = .ok (.iload_n 1, 1) := by decide +kernel
theorem d_jdk_33_method_40_11 : decode jdk_33_method_40_code 11 = .ok (.if_icmp .ne 7, 3) := by decide +kernel
theorem d_jdk_33_method_40_14 : decode jdk_33_method_40_code 14 = .ok (.iconst 0, 1) := by decide +kernel
theorem d_jdk_33_method_40_15 : decode jdk_33_method_40_code 15 = .ok (.goto 4, 3) := by decide +kernel
theorem d_jdk_33_method_40_18 : decode jdk_33_method_40_code 18 = .ok (.iconst 1, 1) := by decide +kernel
def Q_icmp (Z : State) (p1 : Int32) (p2 : Int32) (h0 : Heap) (v : Option Value) (h : Heap) (L : List Loc) : Prop := v = some (.int (own_cmpI p1 p2)) ∧ Fr Z.heap.size L ∧ h = h0
set_option maxRecDepth 65536 in
set_option maxHeartbeats 40000000 in
theorem rm_icmp (l : Launch) (Z : State) (a0 : Array Value) (hw : ∀ d ∈ tables_1, d.before a0 Z = true) (ws : List Jvm.Cond) (p1 : Int32) (p2 : Int32) (h0 : Heap) (OL : Old Z Z.heap.size h0) :
    MetFree l (⟨"java/lang/Integer", "compare", "(II)I"⟩ : MethodName) (head1 (Jvm.Cond.code (⟨"java/lang/Integer", "compare", "(II)I"⟩ : MethodName) jdk_33_method_40_code 2 (some .int) :: ws) ({ frames := 0, cells := 0, slots := 0, locals := 0 } : Room)) (fun a U => a = #[(.int p1), (.int p2)] ∧ Z.Warmed39 U.vm ∧ U.heap = h0) (fun _ _ _ _ _ => True) (fun _ U o U' => ∃ v L, o = .returned v ∧ Q_icmp Z p1 p2 h0 v U'.heap L ∧ FrameEnd U o U' L ({ frames := 0, cells := 0, slots := 0, locals := 0 } : Room).cells ({ frames := 0, cells := 0, slots := 0, locals := 0 } : Room).slots) := by
  refine MetFree.of_bodySF (plainFor_of_name pn_283) hisR ?_
  intro p e s m args below meth c s₁ Bd hml0 hP hK
  obtain ⟨rfl, hZ, hh⟩ := hP
  have hx := Bd.exec
  have hby := Bd.bytes
  have hml : c.maxLocals = 2 := hml0
  have hown : s.vm.findClass "java/lang/Integer" = some m.cls := findClass_of_methodNamed Bd.named
  have hnm := (name_of_methodNamed Bd.named Bd.method).1
  have X0 : Stand p l e ({ frames := 0, cells := 0, slots := 0, locals := 0 } : Room) s m #[(.int p1), (.int p2)] below meth c s₁ [] 0 0 := Stand.of_body Bd
  have e0 : s₁.heap = h0 := by rw [← hh, Bd.state]; rfl
  have N0 := Fr.nil Z.heap.size
  have Z0 : Z.heap.size ≤ h0.size := OL.2.1
  obtain ⟨PP, hPP⟩ : ∃ PP : Outcome → State → Prop, PP = (fun o tE => ∃ v L, o = .returned v ∧ Q_icmp Z p1 p2 h0 v tE.heap L ∧ FrameEnd s o tE L ({ frames := 0, cells := 0, slots := 0, locals := 0 } : Room).cells ({ frames := 0, cells := 0, slots := 0, locals := 0 } : Room).slots) := ⟨_, rfl⟩
  show own_Go p.tables e below (fun o tE => ∃ v L, o = .returned v ∧ Q_icmp Z p1 p2 h0 v tE.heap L ∧ FrameEnd s o tE L ({ frames := 0, cells := 0, slots := 0, locals := 0 } : Room).cells ({ frames := 0, cells := 0, slots := 0, locals := 0 } : Room).slots) (s₁.setTop (entryFrame m #[(.int p1), (.int p2)] 2))
  rw [← hPP]
  refine own_Go.st (fun t k => castTop (ef_270 m p1 p2) k) ?_
  show own_Go _ _ _ _ (s₁.setTop (mkF m 0 #[.val (.int p1), .val (.int p2)] []))
  refine own_Go.st (fun _ k => XS.iloadN X0.here hx rfl (hb hby d_jdk_33_method_40_0) rfl k) ?_
  show own_Go _ _ _ _ (s₁.setTop (mkF m 1 #[.val (.int p1), .val (.int p2)] [(.int p1)]))
  refine own_Go.st (fun _ k => XS.iloadN X0.here hx rfl (hb hby d_jdk_33_method_40_1) rfl k) ?_
  show own_Go _ _ _ _ (s₁.setTop (mkF m 2 #[.val (.int p1), .val (.int p2)] [(.int p2), (.int p1)]))
  by_cases hc266 : p1 < p2
  ·
    refine own_Go.st (fun _ k => XS.icmpNo X0.here hx rfl (hb hby d_jdk_33_method_40_2) rfl (tlt hc266).2.1 k) ?_
    show own_Go _ _ _ _ (s₁.setTop (mkF m 5 #[.val (.int p1), .val (.int p2)] []))
    refine own_Go.st (fun _ k => XS.iconst X0.here hx rfl (hb hby d_jdk_33_method_40_5) k) ?_
    show own_Go _ _ _ _ (s₁.setTop (mkF m 6 #[.val (.int p1), .val (.int p2)] [(.int (-1 : Int32))]))
    refine own_Go.st (fun _ k => XS.goto X0.here hx rfl (pc0 := 6) (pc' := 19) rfl (hb hby d_jdk_33_method_40_6) (by decide) (by decide) k) ?_
    show own_Go _ _ _ _ (s₁.setTop (mkF m 19 #[.val (.int p1), .val (.int p2)] [(.int (-1 : Int32))]))
    obtain ⟨fs267, hr267, hrun267, hend267, hW267, hsm267⟩ := X0.leave (v := some (.int (-1 : Int32))) (fun h => by rw [Bd.returns] at h; cases h)
    subst hPP
    refine ⟨_, _, own_retI X0 hx Bd.returns (hb hby d_jdk_33_method_40_19) hr267, hrun267, hend267, _, _, rfl, ?_, ⟨_, rfl⟩, hW267, hsm267.mono (by decide) (by decide)⟩
    · show Q_icmp Z _ _ h0 _ s₁.heap _
      rw [e0]
      exact ⟨(by unfold own_cmpI; rw [if_pos hc266]), N0, rfl⟩
  ·
    refine own_Go.st (fun _ k => XS.icmpYes X0.here hx rfl (pc0 := 2) (pc' := 9) rfl (hb hby d_jdk_33_method_40_2) rfl (flt hc266).2.1 (by decide) (by decide) k) ?_
    show own_Go _ _ _ _ (s₁.setTop (mkF m 9 #[.val (.int p1), .val (.int p2)] []))
    refine own_Go.st (fun _ k => XS.iloadN X0.here hx rfl (hb hby d_jdk_33_method_40_9) rfl k) ?_
    show own_Go _ _ _ _ (s₁.setTop (mkF m 10 #[.val (.int p1), .val (.int p2)] [(.int p1)]))
    refine own_Go.st (fun _ k => XS.iloadN X0.here hx rfl (hb hby d_jdk_33_method_40_10) rfl k) ?_
    show own_Go _ _ _ _ (s₁.setTop (mkF m 11 #[.val (.int p1), .val (.int p2)] [(.int p2), (.int p1)]))
    by_cases hc268 : p1 = p2
    ·
      refine own_Go.st (fun _ k => XS.icmpNo X0.here hx rfl (hb hby d_jdk_33_method_40_11) rfl (teq hc268).2 k) ?_
      show own_Go _ _ _ _ (s₁.setTop (mkF m 14 #[.val (.int p1), .val (.int p2)] []))
      refine own_Go.st (fun _ k => XS.iconst X0.here hx rfl (hb hby d_jdk_33_method_40_14) k) ?_
      show own_Go _ _ _ _ (s₁.setTop (mkF m 15 #[.val (.int p1), .val (.int p2)] [(.int (0 : Int32))]))
      refine own_Go.st (fun _ k => XS.goto X0.here hx rfl (pc0 := 15) (pc' := 19) rfl (hb hby d_jdk_33_method_40_15) (by decide) (by decide) k) ?_
      show own_Go _ _ _ _ (s₁.setTop (mkF m 19 #[.val (.int p1), .val (.int p2)] [(.int (0 : Int32))]))
      obtain ⟨fs269, hr269, hrun269, hend269, hW269, hsm269⟩ := X0.leave (v := some (.int (0 : Int32))) (fun h => by rw [Bd.returns] at h; cases h)
      subst hPP
      refine ⟨_, _, own_retI X0 hx Bd.returns (hb hby d_jdk_33_method_40_19) hr269, hrun269, hend269, _, _, rfl, ?_, ⟨_, rfl⟩, hW269, hsm269.mono (by decide) (by decide)⟩
      · show Q_icmp Z _ _ h0 _ s₁.heap _
        rw [e0]
        exact ⟨(by unfold own_cmpI; rw [if_neg hc266, if_pos hc268]), N0, rfl⟩
    ·
      refine own_Go.st (fun _ k => XS.icmpYes X0.here hx rfl (pc0 := 11) (pc' := 18) rfl (hb hby d_jdk_33_method_40_11) rfl (feq hc268).2 (by decide) (by decide) k) ?_
      show own_Go _ _ _ _ (s₁.setTop (mkF m 18 #[.val (.int p1), .val (.int p2)] []))
      refine own_Go.st (fun _ k => XS.iconst X0.here hx rfl (hb hby d_jdk_33_method_40_18) k) ?_
      show own_Go _ _ _ _ (s₁.setTop (mkF m 19 #[.val (.int p1), .val (.int p2)] [(.int (1 : Int32))]))
      obtain ⟨fs270, hr270, hrun270, hend270, hW270, hsm270⟩ := X0.leave (v := some (.int (1 : Int32))) (fun h => by rw [Bd.returns] at h; cases h)
      subst hPP
      refine ⟨_, _, own_retI X0 hx Bd.returns (hb hby d_jdk_33_method_40_19) hr270, hrun270, hend270, _, _, rfl, ?_, ⟨_, rfl⟩, hW270, hsm270.mono (by decide) (by decide)⟩
      · show Q_icmp Z _ _ h0 _ s₁.heap _
        rw [e0]
        exact ⟨(by unfold own_cmpI; rw [if_neg hc266, if_neg hc268]), N0, rfl⟩
theorem ef_296 (m : MethodId) (x0 : Int32) (x1 : Int32) (x2 : Int32) (x3 : Int32) (x4 : Int32) (x5 : Int32) : entryFrame m #[(.int x0), (.int x1), (.int x2), (.int x3), (.int x4), (.int x5)] 6 = mkF m 0 #[.val (.int x0), .val (.int x1), .val (.int x2), .val (.int x3), .val (.int x4), .val (.int x5)] [] := by first | (simp [entryFrame, mkF, argsToLocals, Value.category]; done) | rfl
theorem d_method_7_0 : decode method_7_code 0 = .ok (.iload_n 0, 1) := by decide +kernel
theorem d_method_7_1 : decode method_7_code 1 = .ok (.ifCond .eq 7, 3) := by decide +kernel
theorem d_method_7_8 : decode method_7_code 8 = .ok (.iload_n 0, 1) := by decide +kernel
theorem d_method_7_9 : decode method_7_code 9 = .ok (.iload_n 3, 1) := by decide +kernel
theorem pd_301 : parseMethodDescriptor "(II)I" = some ⟨[.int, .int], some .int⟩ := by decide +kernel
theorem d_method_7_10 : decode method_7_code 10 = .ok (.invokestatic 27, 3) := by decide +kernel
theorem d_method_7_13 : decode method_7_code 13 = .ok (.ireturn, 1) := by decide +kernel
theorem d_method_7_4 : decode method_7_code 4 = .ok (.iload_n 3, 1) := by decide +kernel
theorem d_method_7_5 : decode method_7_code 5 = .ok (.ifCond .ne 9, 3) := by decide +kernel
theorem d_method_7_14 : decode method_7_code 14 = .ok (.iload_n 1, 1) := by decide +kernel
theorem d_method_7_15 : decode method_7_code 15 = .ok (.iload 4, 2) := by decide +kernel
theorem d_method_7_17 : decode method_7_code 17 = .ok (.if_icmp .eq 10, 3) := by decide +kernel
theorem d_method_7_27 : decode method_7_code 27 = .ok (.iload_n 0, 1) := by decide +kernel
theorem d_method_7_28 : decode method_7_code 28 = .ok (.iconst 1, 1) := by decide +kernel
theorem d_method_7_29 : decode method_7_code 29 = .ok (.if_icmp .eq 8, 3) := by decide +kernel
theorem d_method_7_37 : decode method_7_code 37 = .ok (.iload_n 0, 1) := by decide +kernel
theorem d_method_7_38 : decode method_7_code 38 = .ok (.iload_n 3, 1) := by decide +kernel
theorem d_method_7_39 : decode method_7_code 39 = .ok (.invokestatic 27, 3) := by decide +kernel
theorem d_method_7_42 : decode method_7_code 42 = .ok (.ireturn, 1) := by decide +kernel
theorem d_method_7_32 : decode method_7_code 32 = .ok (.iload_n 3, 1) := by decide +kernel
theorem d_method_7_33 : decode method_7_code 33 = .ok (.iconst 1, 1) := by decide +kernel
theorem d_method_7_34 : decode method_7_code 34 = .ok (.if_icmp .ne 9, 3) := by decide +kernel
theorem d_method_7_43 : decode method_7_code 43 = .ok (.iload_n 2, 1) := by decide +kernel
theorem d_method_7_44 : decode method_7_code 44 = .ok (.iload 5, 2) := by decide +kernel
theorem d_method_7_46 : decode method_7_code 46 = .ok (.invokestatic 27, 3) := by decide +kernel
theorem d_method_7_49 : decode method_7_code 49 = .ok (.ireturn, 1) := by decide +kernel
theorem d_method_7_20 : decode method_7_code 20 = .ok (.iload_n 1, 1) := by decide +kernel
theorem d_method_7_21 : decode method_7_code 21 = .ok (.iload 4, 2) := by decide +kernel
theorem d_method_7_23 : decode method_7_code 23 = .ok (.invokestatic 27, 3) := by decide +kernel
theorem d_method_7_26 : decode method_7_code 26 = .ok (.ireturn, 1) := by decide +kernel
def Q_ref (Z : State) (p1 : Int32) (p2 : Int32) (p3 : Int32) (p4 : Int32) (p5 : Int32) (p6 : Int32) (h0 : Heap) (v : Option Value) (h : Heap) (L : List Loc) : Prop := v = some (.int (own_cmpL (own_pts p1 p2 p3) (own_pts p4 p5 p6))) ∧ Fr Z.heap.size L ∧ h = h0
set_option maxRecDepth 65536 in
set_option maxHeartbeats 40000000 in
theorem rm_ref (l : Launch) (Z : State) (a0 : Array Value) (hw : ∀ d ∈ tables_1, d.before a0 Z = true) (ws : List Jvm.Cond) (p1 : Int32) (p2 : Int32) (p3 : Int32) (p4 : Int32) (p5 : Int32) (p6 : Int32) (h0 : Heap) (OL : Old Z Z.heap.size h0) (hl : p1 = 0 ∨ p1 = 1 ∨ p1 = 2) (hr : p4 = 0 ∨ p4 = 1 ∨ p4 = 2) :
    MetFree l (⟨"com/example/keep_to_layer/keeptolayer/model/ClassNamesComparePinLaw", "ref", "(IIIIII)I"⟩ : MethodName) (head1 (Jvm.Cond.code (⟨"com/example/keep_to_layer/keeptolayer/model/ClassNamesComparePinLaw", "ref", "(IIIIII)I"⟩ : MethodName) method_7_code 6 (some .int) :: ws) ({ frames := 1, cells := 0, slots := 0, locals := 13 } : Room)) (fun a U => a = #[(.int p1), (.int p2), (.int p3), (.int p4), (.int p5), (.int p6)] ∧ Z.Warmed39 U.vm ∧ U.heap = h0) (fun _ _ _ _ _ => True) (fun _ U o U' => ∃ v L, o = .returned v ∧ Q_ref Z p1 p2 p3 p4 p5 p6 h0 v U'.heap L ∧ FrameEnd U o U' L ({ frames := 1, cells := 0, slots := 0, locals := 13 } : Room).cells ({ frames := 1, cells := 0, slots := 0, locals := 13 } : Room).slots) := by
  refine MetFree.of_bodySF (plainFor_of_name pn_220) hisR ?_
  intro p e s m args below meth c s₁ Bd hml0 hP hK
  obtain ⟨rfl, hZ, hh⟩ := hP
  have hx := Bd.exec
  have hby := Bd.bytes
  have hml : c.maxLocals = 6 := hml0
  have hown : s.vm.findClass "com/example/keep_to_layer/keeptolayer/model/ClassNamesComparePinLaw" = some m.cls := findClass_of_methodNamed Bd.named
  have hnm := (name_of_methodNamed Bd.named Bd.method).1
  have X0 : Stand p l e ({ frames := 1, cells := 0, slots := 0, locals := 13 } : Room) s m #[(.int p1), (.int p2), (.int p3), (.int p4), (.int p5), (.int p6)] below meth c s₁ [] 0 0 := Stand.of_body Bd
  have e0 : s₁.heap = h0 := by rw [← hh, Bd.state]; rfl
  have N0 := Fr.nil Z.heap.size
  have Z0 : Z.heap.size ≤ h0.size := OL.2.1
  obtain ⟨PP, hPP⟩ : ∃ PP : Outcome → State → Prop, PP = (fun o tE => ∃ v L, o = .returned v ∧ Q_ref Z p1 p2 p3 p4 p5 p6 h0 v tE.heap L ∧ FrameEnd s o tE L ({ frames := 1, cells := 0, slots := 0, locals := 13 } : Room).cells ({ frames := 1, cells := 0, slots := 0, locals := 13 } : Room).slots) := ⟨_, rfl⟩
  show own_Go p.tables e below (fun o tE => ∃ v L, o = .returned v ∧ Q_ref Z p1 p2 p3 p4 p5 p6 h0 v tE.heap L ∧ FrameEnd s o tE L ({ frames := 1, cells := 0, slots := 0, locals := 13 } : Room).cells ({ frames := 1, cells := 0, slots := 0, locals := 13 } : Room).slots) (s₁.setTop (entryFrame m #[(.int p1), (.int p2), (.int p3), (.int p4), (.int p5), (.int p6)] 6))
  rw [← hPP]
  refine own_Go.st (fun t k => castTop (ef_296 m p1 p2 p3 p4 p5 p6) k) ?_
  show own_Go _ _ _ _ (s₁.setTop (mkF m 0 #[.val (.int p1), .val (.int p2), .val (.int p3), .val (.int p4), .val (.int p5), .val (.int p6)] []))
  refine own_Go.st (fun _ k => XS.iloadN X0.here hx rfl (hb hby d_method_7_0) rfl k) ?_
  show own_Go _ _ _ _ (s₁.setTop (mkF m 1 #[.val (.int p1), .val (.int p2), .val (.int p3), .val (.int p4), .val (.int p5), .val (.int p6)] [(.int p1)]))
  by_cases hc271 : p1 = (0 : Int32)
  ·
    refine own_Go.st (fun _ k => XS.ifYes X0.here hx rfl (pc0 := 1) (pc' := 8) rfl (hb hby d_method_7_1) rfl ((if0 _ _).trans (teq hc271).1) (by decide) (by decide) k) ?_
    show own_Go _ _ _ _ (s₁.setTop (mkF m 8 #[.val (.int p1), .val (.int p2), .val (.int p3), .val (.int p4), .val (.int p5), .val (.int p6)] []))
    refine own_Go.st (fun _ k => XS.iloadN X0.here hx rfl (hb hby d_method_7_8) rfl k) ?_
    show own_Go _ _ _ _ (s₁.setTop (mkF m 9 #[.val (.int p1), .val (.int p2), .val (.int p3), .val (.int p4), .val (.int p5), .val (.int p6)] [(.int p1)]))
    refine own_Go.st (fun _ k => XS.iloadN X0.here hx rfl (hb hby d_method_7_9) rfl k) ?_
    show own_Go _ _ _ _ (s₁.setTop (mkF m 10 #[.val (.int p1), .val (.int p2), .val (.int p3), .val (.int p4), .val (.int p5), .val (.int p6)] [(.int p4), (.int p1)]))
    obtain ⟨_, _, ⟨T272, L272, k272, n272⟩, -, X272, ⟨Lc272, hQ272, l272, y272, z272⟩, st272⟩ := Jvm.LawKit.callS X0 hx (y := (⟨"com/example/keep_to_layer/keeptolayer/model/ClassNamesComparePinLaw", "cmp", "(II)I"⟩ : MethodName)) hown (mvT hZ (hw _ (List.mem_of_getElem? (i := 56) rfl))) (mvT hZ (hw _ (List.mem_of_getElem? (i := 57) rfl))) (mvT hZ (hw _ (List.mem_of_getElem? (i := 3) rfl))) (mvT hZ (hw _ (List.mem_of_getElem? (i := 58) rfl))) (by decide) (backOf (W := 0) (rm_cmp l Z a0 hw [] p1 p4 h0 OL ) hZ (hw _ (List.mem_of_getElem? (i := 58) rfl)) (hw _ (List.mem_of_getElem? (i := 3) rfl)) (by decide) (by decide)) (g := (mkF m 10 #[.val (.int p1), .val (.int p2), .val (.int p3), .val (.int p4), .val (.int p5), .val (.int p6)] [(.int p4), (.int p1)])) rfl (by rw [hml]; rfl) (argsL := [(.int p1), (.int p4)]) (rest := []) (lenOf pd_301 rfl) rfl (by show 2 * 0 + _ ≤ _; exact Nat.le_of_eq rfl) (hb hby d_method_7_10) (fun _ _ => ⟨rfl, e0, (by decide : 0 + 0 ≤ _), (by decide : 0 + 0 ≤ _)⟩)
    dsimp only [Pt.U, Pt.locs, Pt.cells, Pt.slots] at X272 l272 y272 z272 st272 hQ272
    subst l272 y272 z272
    obtain ⟨rfl, N272q, K272⟩ := hQ272
    have N272 := Fr.app N0 N272q
    refine own_Go.st st272 ?_
    show own_Go _ _ _ _ (T272.setTop (mkF m 13 #[.val (.int p1), .val (.int p2), .val (.int p3), .val (.int p4), .val (.int p5), .val (.int p6)] [(.int (own_cmpI p1 p4))]))
    obtain ⟨fs273, hr273, hrun273, hend273, hW273, hsm273⟩ := X272.leave (v := some (.int (own_cmpI p1 p4))) (fun h => by rw [Bd.returns] at h; cases h)
    subst hPP
    refine ⟨_, _, own_retI X272 hx Bd.returns (hb hby d_method_7_13) hr273, hrun273, hend273, _, _, rfl, ?_, ⟨_, rfl⟩, hW273, hsm273.mono (by decide) (by decide)⟩
    · show Q_ref Z _ _ _ _ _ _ h0 _ T272.heap _
      rw [K272]
      exact ⟨(by
          rcases hl with h1 | h1 | h1 <;> rcases hr with h2 | h2 | h2 <;> simp_all +decide [own_pts, own_cmpL, own_cmpI] <;> (try (by_cases q : p3 = p6 <;> simp [q, Int32.lt_irrefl]))), N272, rfl⟩
  ·
    refine own_Go.st (fun _ k => XS.ifNo X0.here hx rfl (hb hby d_method_7_1) rfl ((if0 _ _).trans (feq hc271).1) k) ?_
    show own_Go _ _ _ _ (s₁.setTop (mkF m 4 #[.val (.int p1), .val (.int p2), .val (.int p3), .val (.int p4), .val (.int p5), .val (.int p6)] []))
    refine own_Go.st (fun _ k => XS.iloadN X0.here hx rfl (hb hby d_method_7_4) rfl k) ?_
    show own_Go _ _ _ _ (s₁.setTop (mkF m 5 #[.val (.int p1), .val (.int p2), .val (.int p3), .val (.int p4), .val (.int p5), .val (.int p6)] [(.int p4)]))
    by_cases hc274 : p4 = (0 : Int32)
    ·
      refine own_Go.st (fun _ k => XS.ifNo X0.here hx rfl (hb hby d_method_7_5) rfl ((if0 _ _).trans (teq hc274).2) k) ?_
      show own_Go _ _ _ _ (s₁.setTop (mkF m 8 #[.val (.int p1), .val (.int p2), .val (.int p3), .val (.int p4), .val (.int p5), .val (.int p6)] []))
      refine own_Go.st (fun _ k => XS.iloadN X0.here hx rfl (hb hby d_method_7_8) rfl k) ?_
      show own_Go _ _ _ _ (s₁.setTop (mkF m 9 #[.val (.int p1), .val (.int p2), .val (.int p3), .val (.int p4), .val (.int p5), .val (.int p6)] [(.int p1)]))
      refine own_Go.st (fun _ k => XS.iloadN X0.here hx rfl (hb hby d_method_7_9) rfl k) ?_
      show own_Go _ _ _ _ (s₁.setTop (mkF m 10 #[.val (.int p1), .val (.int p2), .val (.int p3), .val (.int p4), .val (.int p5), .val (.int p6)] [(.int p4), (.int p1)]))
      obtain ⟨_, _, ⟨T275, L275, k275, n275⟩, -, X275, ⟨Lc275, hQ275, l275, y275, z275⟩, st275⟩ := Jvm.LawKit.callS X0 hx (y := (⟨"com/example/keep_to_layer/keeptolayer/model/ClassNamesComparePinLaw", "cmp", "(II)I"⟩ : MethodName)) hown (mvT hZ (hw _ (List.mem_of_getElem? (i := 56) rfl))) (mvT hZ (hw _ (List.mem_of_getElem? (i := 57) rfl))) (mvT hZ (hw _ (List.mem_of_getElem? (i := 3) rfl))) (mvT hZ (hw _ (List.mem_of_getElem? (i := 58) rfl))) (by decide) (backOf (W := 0) (rm_cmp l Z a0 hw [] p1 p4 h0 OL ) hZ (hw _ (List.mem_of_getElem? (i := 58) rfl)) (hw _ (List.mem_of_getElem? (i := 3) rfl)) (by decide) (by decide)) (g := (mkF m 10 #[.val (.int p1), .val (.int p2), .val (.int p3), .val (.int p4), .val (.int p5), .val (.int p6)] [(.int p4), (.int p1)])) rfl (by rw [hml]; rfl) (argsL := [(.int p1), (.int p4)]) (rest := []) (lenOf pd_301 rfl) rfl (by show 2 * 0 + _ ≤ _; exact Nat.le_of_eq rfl) (hb hby d_method_7_10) (fun _ _ => ⟨rfl, e0, (by decide : 0 + 0 ≤ _), (by decide : 0 + 0 ≤ _)⟩)
      dsimp only [Pt.U, Pt.locs, Pt.cells, Pt.slots] at X275 l275 y275 z275 st275 hQ275
      subst l275 y275 z275
      obtain ⟨rfl, N275q, K275⟩ := hQ275
      have N275 := Fr.app N0 N275q
      refine own_Go.st st275 ?_
      show own_Go _ _ _ _ (T275.setTop (mkF m 13 #[.val (.int p1), .val (.int p2), .val (.int p3), .val (.int p4), .val (.int p5), .val (.int p6)] [(.int (own_cmpI p1 p4))]))
      obtain ⟨fs276, hr276, hrun276, hend276, hW276, hsm276⟩ := X275.leave (v := some (.int (own_cmpI p1 p4))) (fun h => by rw [Bd.returns] at h; cases h)
      subst hPP
      refine ⟨_, _, own_retI X275 hx Bd.returns (hb hby d_method_7_13) hr276, hrun276, hend276, _, _, rfl, ?_, ⟨_, rfl⟩, hW276, hsm276.mono (by decide) (by decide)⟩
      · show Q_ref Z _ _ _ _ _ _ h0 _ T275.heap _
        rw [K275]
        exact ⟨(by
            rcases hl with h1 | h1 | h1 <;> rcases hr with h2 | h2 | h2 <;> simp_all +decide [own_pts, own_cmpL, own_cmpI] <;> (try (by_cases q : p3 = p6 <;> simp [q, Int32.lt_irrefl]))), N275, rfl⟩
    ·
      refine own_Go.st (fun _ k => XS.ifYes X0.here hx rfl (pc0 := 5) (pc' := 14) rfl (hb hby d_method_7_5) rfl ((if0 _ _).trans (feq hc274).2) (by decide) (by decide) k) ?_
      show own_Go _ _ _ _ (s₁.setTop (mkF m 14 #[.val (.int p1), .val (.int p2), .val (.int p3), .val (.int p4), .val (.int p5), .val (.int p6)] []))
      refine own_Go.st (fun _ k => XS.iloadN X0.here hx rfl (hb hby d_method_7_14) rfl k) ?_
      show own_Go _ _ _ _ (s₁.setTop (mkF m 15 #[.val (.int p1), .val (.int p2), .val (.int p3), .val (.int p4), .val (.int p5), .val (.int p6)] [(.int p2)]))
      refine own_Go.st (fun _ k => XS.iload X0.here hx rfl (hb hby d_method_7_15) rfl k) ?_
      show own_Go _ _ _ _ (s₁.setTop (mkF m 17 #[.val (.int p1), .val (.int p2), .val (.int p3), .val (.int p4), .val (.int p5), .val (.int p6)] [(.int p5), (.int p2)]))
      by_cases hc277 : p2 = p5
      ·
        refine own_Go.st (fun _ k => XS.icmpYes X0.here hx rfl (pc0 := 17) (pc' := 27) rfl (hb hby d_method_7_17) rfl (teq hc277).1 (by decide) (by decide) k) ?_
        show own_Go _ _ _ _ (s₁.setTop (mkF m 27 #[.val (.int p1), .val (.int p2), .val (.int p3), .val (.int p4), .val (.int p5), .val (.int p6)] []))
        refine own_Go.st (fun _ k => XS.iloadN X0.here hx rfl (hb hby d_method_7_27) rfl k) ?_
        show own_Go _ _ _ _ (s₁.setTop (mkF m 28 #[.val (.int p1), .val (.int p2), .val (.int p3), .val (.int p4), .val (.int p5), .val (.int p6)] [(.int p1)]))
        refine own_Go.st (fun _ k => XS.iconst X0.here hx rfl (hb hby d_method_7_28) k) ?_
        show own_Go _ _ _ _ (s₁.setTop (mkF m 29 #[.val (.int p1), .val (.int p2), .val (.int p3), .val (.int p4), .val (.int p5), .val (.int p6)] [(.int (1 : Int32)), (.int p1)]))
        by_cases hc278 : p1 = (1 : Int32)
        ·
          refine own_Go.st (fun _ k => XS.icmpYes X0.here hx rfl (pc0 := 29) (pc' := 37) rfl (hb hby d_method_7_29) rfl (teq hc278).1 (by decide) (by decide) k) ?_
          show own_Go _ _ _ _ (s₁.setTop (mkF m 37 #[.val (.int p1), .val (.int p2), .val (.int p3), .val (.int p4), .val (.int p5), .val (.int p6)] []))
          refine own_Go.st (fun _ k => XS.iloadN X0.here hx rfl (hb hby d_method_7_37) rfl k) ?_
          show own_Go _ _ _ _ (s₁.setTop (mkF m 38 #[.val (.int p1), .val (.int p2), .val (.int p3), .val (.int p4), .val (.int p5), .val (.int p6)] [(.int p1)]))
          refine own_Go.st (fun _ k => XS.iloadN X0.here hx rfl (hb hby d_method_7_38) rfl k) ?_
          show own_Go _ _ _ _ (s₁.setTop (mkF m 39 #[.val (.int p1), .val (.int p2), .val (.int p3), .val (.int p4), .val (.int p5), .val (.int p6)] [(.int p4), (.int p1)]))
          obtain ⟨_, _, ⟨T279, L279, k279, n279⟩, -, X279, ⟨Lc279, hQ279, l279, y279, z279⟩, st279⟩ := Jvm.LawKit.callS X0 hx (y := (⟨"com/example/keep_to_layer/keeptolayer/model/ClassNamesComparePinLaw", "cmp", "(II)I"⟩ : MethodName)) hown (mvT hZ (hw _ (List.mem_of_getElem? (i := 56) rfl))) (mvT hZ (hw _ (List.mem_of_getElem? (i := 57) rfl))) (mvT hZ (hw _ (List.mem_of_getElem? (i := 3) rfl))) (mvT hZ (hw _ (List.mem_of_getElem? (i := 58) rfl))) (by decide) (backOf (W := 0) (rm_cmp l Z a0 hw [] p1 p4 h0 OL ) hZ (hw _ (List.mem_of_getElem? (i := 58) rfl)) (hw _ (List.mem_of_getElem? (i := 3) rfl)) (by decide) (by decide)) (g := (mkF m 39 #[.val (.int p1), .val (.int p2), .val (.int p3), .val (.int p4), .val (.int p5), .val (.int p6)] [(.int p4), (.int p1)])) rfl (by rw [hml]; rfl) (argsL := [(.int p1), (.int p4)]) (rest := []) (lenOf pd_301 rfl) rfl (by show 2 * 0 + _ ≤ _; exact Nat.le_of_eq rfl) (hb hby d_method_7_39) (fun _ _ => ⟨rfl, e0, (by decide : 0 + 0 ≤ _), (by decide : 0 + 0 ≤ _)⟩)
          dsimp only [Pt.U, Pt.locs, Pt.cells, Pt.slots] at X279 l279 y279 z279 st279 hQ279
          subst l279 y279 z279
          obtain ⟨rfl, N279q, K279⟩ := hQ279
          have N279 := Fr.app N0 N279q
          refine own_Go.st st279 ?_
          show own_Go _ _ _ _ (T279.setTop (mkF m 42 #[.val (.int p1), .val (.int p2), .val (.int p3), .val (.int p4), .val (.int p5), .val (.int p6)] [(.int (own_cmpI p1 p4))]))
          obtain ⟨fs280, hr280, hrun280, hend280, hW280, hsm280⟩ := X279.leave (v := some (.int (own_cmpI p1 p4))) (fun h => by rw [Bd.returns] at h; cases h)
          subst hPP
          refine ⟨_, _, own_retI X279 hx Bd.returns (hb hby d_method_7_42) hr280, hrun280, hend280, _, _, rfl, ?_, ⟨_, rfl⟩, hW280, hsm280.mono (by decide) (by decide)⟩
          · show Q_ref Z _ _ _ _ _ _ h0 _ T279.heap _
            rw [K279]
            exact ⟨(by
                rcases hl with h1 | h1 | h1 <;> rcases hr with h2 | h2 | h2 <;> simp_all +decide [own_pts, own_cmpL, own_cmpI] <;> (try (by_cases q : p3 = p6 <;> simp [q, Int32.lt_irrefl]))), N279, rfl⟩
        ·
          refine own_Go.st (fun _ k => XS.icmpNo X0.here hx rfl (hb hby d_method_7_29) rfl (feq hc278).1 k) ?_
          show own_Go _ _ _ _ (s₁.setTop (mkF m 32 #[.val (.int p1), .val (.int p2), .val (.int p3), .val (.int p4), .val (.int p5), .val (.int p6)] []))
          refine own_Go.st (fun _ k => XS.iloadN X0.here hx rfl (hb hby d_method_7_32) rfl k) ?_
          show own_Go _ _ _ _ (s₁.setTop (mkF m 33 #[.val (.int p1), .val (.int p2), .val (.int p3), .val (.int p4), .val (.int p5), .val (.int p6)] [(.int p4)]))
          refine own_Go.st (fun _ k => XS.iconst X0.here hx rfl (hb hby d_method_7_33) k) ?_
          show own_Go _ _ _ _ (s₁.setTop (mkF m 34 #[.val (.int p1), .val (.int p2), .val (.int p3), .val (.int p4), .val (.int p5), .val (.int p6)] [(.int (1 : Int32)), (.int p4)]))
          by_cases hc281 : p4 = (1 : Int32)
          ·
            refine own_Go.st (fun _ k => XS.icmpNo X0.here hx rfl (hb hby d_method_7_34) rfl (teq hc281).2 k) ?_
            show own_Go _ _ _ _ (s₁.setTop (mkF m 37 #[.val (.int p1), .val (.int p2), .val (.int p3), .val (.int p4), .val (.int p5), .val (.int p6)] []))
            refine own_Go.st (fun _ k => XS.iloadN X0.here hx rfl (hb hby d_method_7_37) rfl k) ?_
            show own_Go _ _ _ _ (s₁.setTop (mkF m 38 #[.val (.int p1), .val (.int p2), .val (.int p3), .val (.int p4), .val (.int p5), .val (.int p6)] [(.int p1)]))
            refine own_Go.st (fun _ k => XS.iloadN X0.here hx rfl (hb hby d_method_7_38) rfl k) ?_
            show own_Go _ _ _ _ (s₁.setTop (mkF m 39 #[.val (.int p1), .val (.int p2), .val (.int p3), .val (.int p4), .val (.int p5), .val (.int p6)] [(.int p4), (.int p1)]))
            obtain ⟨_, _, ⟨T282, L282, k282, n282⟩, -, X282, ⟨Lc282, hQ282, l282, y282, z282⟩, st282⟩ := Jvm.LawKit.callS X0 hx (y := (⟨"com/example/keep_to_layer/keeptolayer/model/ClassNamesComparePinLaw", "cmp", "(II)I"⟩ : MethodName)) hown (mvT hZ (hw _ (List.mem_of_getElem? (i := 56) rfl))) (mvT hZ (hw _ (List.mem_of_getElem? (i := 57) rfl))) (mvT hZ (hw _ (List.mem_of_getElem? (i := 3) rfl))) (mvT hZ (hw _ (List.mem_of_getElem? (i := 58) rfl))) (by decide) (backOf (W := 0) (rm_cmp l Z a0 hw [] p1 p4 h0 OL ) hZ (hw _ (List.mem_of_getElem? (i := 58) rfl)) (hw _ (List.mem_of_getElem? (i := 3) rfl)) (by decide) (by decide)) (g := (mkF m 39 #[.val (.int p1), .val (.int p2), .val (.int p3), .val (.int p4), .val (.int p5), .val (.int p6)] [(.int p4), (.int p1)])) rfl (by rw [hml]; rfl) (argsL := [(.int p1), (.int p4)]) (rest := []) (lenOf pd_301 rfl) rfl (by show 2 * 0 + _ ≤ _; exact Nat.le_of_eq rfl) (hb hby d_method_7_39) (fun _ _ => ⟨rfl, e0, (by decide : 0 + 0 ≤ _), (by decide : 0 + 0 ≤ _)⟩)
            dsimp only [Pt.U, Pt.locs, Pt.cells, Pt.slots] at X282 l282 y282 z282 st282 hQ282
            subst l282 y282 z282
            obtain ⟨rfl, N282q, K282⟩ := hQ282
            have N282 := Fr.app N0 N282q
            refine own_Go.st st282 ?_
            show own_Go _ _ _ _ (T282.setTop (mkF m 42 #[.val (.int p1), .val (.int p2), .val (.int p3), .val (.int p4), .val (.int p5), .val (.int p6)] [(.int (own_cmpI p1 p4))]))
            obtain ⟨fs283, hr283, hrun283, hend283, hW283, hsm283⟩ := X282.leave (v := some (.int (own_cmpI p1 p4))) (fun h => by rw [Bd.returns] at h; cases h)
            subst hPP
            refine ⟨_, _, own_retI X282 hx Bd.returns (hb hby d_method_7_42) hr283, hrun283, hend283, _, _, rfl, ?_, ⟨_, rfl⟩, hW283, hsm283.mono (by decide) (by decide)⟩
            · show Q_ref Z _ _ _ _ _ _ h0 _ T282.heap _
              rw [K282]
              exact ⟨(by
                  rcases hl with h1 | h1 | h1 <;> rcases hr with h2 | h2 | h2 <;> simp_all +decide [own_pts, own_cmpL, own_cmpI] <;> (try (by_cases q : p3 = p6 <;> simp [q, Int32.lt_irrefl]))), N282, rfl⟩
          ·
            refine own_Go.st (fun _ k => XS.icmpYes X0.here hx rfl (pc0 := 34) (pc' := 43) rfl (hb hby d_method_7_34) rfl (feq hc281).2 (by decide) (by decide) k) ?_
            show own_Go _ _ _ _ (s₁.setTop (mkF m 43 #[.val (.int p1), .val (.int p2), .val (.int p3), .val (.int p4), .val (.int p5), .val (.int p6)] []))
            refine own_Go.st (fun _ k => XS.iloadN X0.here hx rfl (hb hby d_method_7_43) rfl k) ?_
            show own_Go _ _ _ _ (s₁.setTop (mkF m 44 #[.val (.int p1), .val (.int p2), .val (.int p3), .val (.int p4), .val (.int p5), .val (.int p6)] [(.int p3)]))
            refine own_Go.st (fun _ k => XS.iload X0.here hx rfl (hb hby d_method_7_44) rfl k) ?_
            show own_Go _ _ _ _ (s₁.setTop (mkF m 46 #[.val (.int p1), .val (.int p2), .val (.int p3), .val (.int p4), .val (.int p5), .val (.int p6)] [(.int p6), (.int p3)]))
            obtain ⟨_, _, ⟨T284, L284, k284, n284⟩, -, X284, ⟨Lc284, hQ284, l284, y284, z284⟩, st284⟩ := Jvm.LawKit.callS X0 hx (y := (⟨"com/example/keep_to_layer/keeptolayer/model/ClassNamesComparePinLaw", "cmp", "(II)I"⟩ : MethodName)) hown (mvT hZ (hw _ (List.mem_of_getElem? (i := 56) rfl))) (mvT hZ (hw _ (List.mem_of_getElem? (i := 57) rfl))) (mvT hZ (hw _ (List.mem_of_getElem? (i := 3) rfl))) (mvT hZ (hw _ (List.mem_of_getElem? (i := 58) rfl))) (by decide) (backOf (W := 0) (rm_cmp l Z a0 hw [] p3 p6 h0 OL ) hZ (hw _ (List.mem_of_getElem? (i := 58) rfl)) (hw _ (List.mem_of_getElem? (i := 3) rfl)) (by decide) (by decide)) (g := (mkF m 46 #[.val (.int p1), .val (.int p2), .val (.int p3), .val (.int p4), .val (.int p5), .val (.int p6)] [(.int p6), (.int p3)])) rfl (by rw [hml]; rfl) (argsL := [(.int p3), (.int p6)]) (rest := []) (lenOf pd_301 rfl) rfl (by show 2 * 0 + _ ≤ _; exact Nat.le_of_eq rfl) (hb hby d_method_7_46) (fun _ _ => ⟨rfl, e0, (by decide : 0 + 0 ≤ _), (by decide : 0 + 0 ≤ _)⟩)
            dsimp only [Pt.U, Pt.locs, Pt.cells, Pt.slots] at X284 l284 y284 z284 st284 hQ284
            subst l284 y284 z284
            obtain ⟨rfl, N284q, K284⟩ := hQ284
            have N284 := Fr.app N0 N284q
            refine own_Go.st st284 ?_
            show own_Go _ _ _ _ (T284.setTop (mkF m 49 #[.val (.int p1), .val (.int p2), .val (.int p3), .val (.int p4), .val (.int p5), .val (.int p6)] [(.int (own_cmpI p3 p6))]))
            obtain ⟨fs285, hr285, hrun285, hend285, hW285, hsm285⟩ := X284.leave (v := some (.int (own_cmpI p3 p6))) (fun h => by rw [Bd.returns] at h; cases h)
            subst hPP
            refine ⟨_, _, own_retI X284 hx Bd.returns (hb hby d_method_7_49) hr285, hrun285, hend285, _, _, rfl, ?_, ⟨_, rfl⟩, hW285, hsm285.mono (by decide) (by decide)⟩
            · show Q_ref Z _ _ _ _ _ _ h0 _ T284.heap _
              rw [K284]
              exact ⟨(by
                  rcases hl with h1 | h1 | h1 <;> rcases hr with h2 | h2 | h2 <;> simp_all +decide [own_pts, own_cmpL, own_cmpI] <;> (try (by_cases q : p3 = p6 <;> simp [q, Int32.lt_irrefl]))), N284, rfl⟩
      ·
        refine own_Go.st (fun _ k => XS.icmpNo X0.here hx rfl (hb hby d_method_7_17) rfl (feq hc277).1 k) ?_
        show own_Go _ _ _ _ (s₁.setTop (mkF m 20 #[.val (.int p1), .val (.int p2), .val (.int p3), .val (.int p4), .val (.int p5), .val (.int p6)] []))
        refine own_Go.st (fun _ k => XS.iloadN X0.here hx rfl (hb hby d_method_7_20) rfl k) ?_
        show own_Go _ _ _ _ (s₁.setTop (mkF m 21 #[.val (.int p1), .val (.int p2), .val (.int p3), .val (.int p4), .val (.int p5), .val (.int p6)] [(.int p2)]))
        refine own_Go.st (fun _ k => XS.iload X0.here hx rfl (hb hby d_method_7_21) rfl k) ?_
        show own_Go _ _ _ _ (s₁.setTop (mkF m 23 #[.val (.int p1), .val (.int p2), .val (.int p3), .val (.int p4), .val (.int p5), .val (.int p6)] [(.int p5), (.int p2)]))
        obtain ⟨_, _, ⟨T286, L286, k286, n286⟩, -, X286, ⟨Lc286, hQ286, l286, y286, z286⟩, st286⟩ := Jvm.LawKit.callS X0 hx (y := (⟨"com/example/keep_to_layer/keeptolayer/model/ClassNamesComparePinLaw", "cmp", "(II)I"⟩ : MethodName)) hown (mvT hZ (hw _ (List.mem_of_getElem? (i := 56) rfl))) (mvT hZ (hw _ (List.mem_of_getElem? (i := 57) rfl))) (mvT hZ (hw _ (List.mem_of_getElem? (i := 3) rfl))) (mvT hZ (hw _ (List.mem_of_getElem? (i := 58) rfl))) (by decide) (backOf (W := 0) (rm_cmp l Z a0 hw [] p2 p5 h0 OL ) hZ (hw _ (List.mem_of_getElem? (i := 58) rfl)) (hw _ (List.mem_of_getElem? (i := 3) rfl)) (by decide) (by decide)) (g := (mkF m 23 #[.val (.int p1), .val (.int p2), .val (.int p3), .val (.int p4), .val (.int p5), .val (.int p6)] [(.int p5), (.int p2)])) rfl (by rw [hml]; rfl) (argsL := [(.int p2), (.int p5)]) (rest := []) (lenOf pd_301 rfl) rfl (by show 2 * 0 + _ ≤ _; exact Nat.le_of_eq rfl) (hb hby d_method_7_23) (fun _ _ => ⟨rfl, e0, (by decide : 0 + 0 ≤ _), (by decide : 0 + 0 ≤ _)⟩)
        dsimp only [Pt.U, Pt.locs, Pt.cells, Pt.slots] at X286 l286 y286 z286 st286 hQ286
        subst l286 y286 z286
        obtain ⟨rfl, N286q, K286⟩ := hQ286
        have N286 := Fr.app N0 N286q
        refine own_Go.st st286 ?_
        show own_Go _ _ _ _ (T286.setTop (mkF m 26 #[.val (.int p1), .val (.int p2), .val (.int p3), .val (.int p4), .val (.int p5), .val (.int p6)] [(.int (own_cmpI p2 p5))]))
        obtain ⟨fs287, hr287, hrun287, hend287, hW287, hsm287⟩ := X286.leave (v := some (.int (own_cmpI p2 p5))) (fun h => by rw [Bd.returns] at h; cases h)
        subst hPP
        refine ⟨_, _, own_retI X286 hx Bd.returns (hb hby d_method_7_26) hr287, hrun287, hend287, _, _, rfl, ?_, ⟨_, rfl⟩, hW287, hsm287.mono (by decide) (by decide)⟩
        · show Q_ref Z _ _ _ _ _ _ h0 _ T286.heap _
          rw [K286]
          exact ⟨(by
              rcases hl with h1 | h1 | h1 <;> rcases hr with h2 | h2 | h2 <;> simp_all +decide [own_pts, own_cmpL, own_cmpI] <;> (try (by_cases q : p3 = p6 <;> simp [q, Int32.lt_irrefl]))), N286, rfl⟩
theorem pn_327 : plainName "jdk/internal/util/Preconditions" = true := by first | (simp [plainName, overriddenIn]; done) | decide +kernel
theorem ef_328 (m : MethodId) (x0 : Int32) (x1 : Int32) (x2 : Value) (hx2 : x2.isRef = true) : entryFrame m #[(.int x0), (.int x1), x2] 3 = mkF m 0 #[.val (.int x0), .val (.int x1), .val x2] [] := by rcases ref_cases hx2 with rfl | ⟨_, rfl⟩ <;> first | (simp [entryFrame, mkF, argsToLocals, Value.category]; done) | rfl
theorem d_jdk_41_method_11_0 : decode jdk_41_method_11_code 0 = .ok (.iload_n 0, 1) := by decide +kernel
theorem d_jdk_41_method_11_1 : decode jdk_41_method_11_code 1 = .ok (.ifCond .lt 8, 3) := by decide +kernel
theorem d_jdk_41_method_11_4 : decode jdk_41_method_11_code 4 = .ok (.iload_n 0, 1) := by decide +kernel
theorem d_jdk_41_method_11_5 : decode jdk_41_method_11_code 5 = .ok (.iload_n 1, 1) := by decide +kernel
theorem d_jdk_41_method_11_6 : decode jdk_41_method_11_code 6 = .ok (.if_icmp .lt 10, 3) := by decide +kernel
theorem d_jdk_41_method_11_16 : decode jdk_41_method_11_code 16 = .ok (.iload_n 0, 1) := by decide +kernel
theorem d_jdk_41_method_11_17 : decode jdk_41_method_11_code 17 = .ok (.ireturn, 1) := by decide +kernel
def Q_pci (Z : State) (p1 : Int32) (p2 : Int32) (fm : Value) (h0 : Heap) (v : Option Value) (h : Heap) (L : List Loc) : Prop := v = some (.int p1) ∧ Fr Z.heap.size L ∧ h = h0
set_option maxRecDepth 65536 in
set_option maxHeartbeats 40000000 in
theorem rm_pci (l : Launch) (Z : State) (a0 : Array Value) (hw : ∀ d ∈ tables_1, d.before a0 Z = true) (ws : List Jvm.Cond) (p1 : Int32) (p2 : Int32) (fm : Value) (h0 : Heap) (OL : Old Z Z.heap.size h0) (h1 : ¬ p1 < 0) (h2 : p1 < p2) (hfm : fm.isRef = true) :
    MetFree l (⟨"jdk/internal/util/Preconditions", "checkIndex", "(IILjava/util/function/BiFunction;)I"⟩ : MethodName) (head1 (Jvm.Cond.code (⟨"jdk/internal/util/Preconditions", "checkIndex", "(IILjava/util/function/BiFunction;)I"⟩ : MethodName) jdk_41_method_11_code 3 (some .int) :: ws) ({ frames := 0, cells := 0, slots := 0, locals := 0 } : Room)) (fun a U => a = #[(.int p1), (.int p2), fm] ∧ Z.Warmed39 U.vm ∧ U.heap = h0) (fun _ _ _ _ _ => True) (fun _ U o U' => ∃ v L, o = .returned v ∧ Q_pci Z p1 p2 fm h0 v U'.heap L ∧ FrameEnd U o U' L ({ frames := 0, cells := 0, slots := 0, locals := 0 } : Room).cells ({ frames := 0, cells := 0, slots := 0, locals := 0 } : Room).slots) := by
  refine MetFree.of_bodySF (plainFor_of_name pn_327) hisR ?_
  intro p e s m args below meth c s₁ Bd hml0 hP hK
  obtain ⟨rfl, hZ, hh⟩ := hP
  have hx := Bd.exec
  have hby := Bd.bytes
  have hml : c.maxLocals = 3 := hml0
  have hown : s.vm.findClass "jdk/internal/util/Preconditions" = some m.cls := findClass_of_methodNamed Bd.named
  have hnm := (name_of_methodNamed Bd.named Bd.method).1
  have X0 : Stand p l e ({ frames := 0, cells := 0, slots := 0, locals := 0 } : Room) s m #[(.int p1), (.int p2), fm] below meth c s₁ [] 0 0 := Stand.of_body Bd
  have e0 : s₁.heap = h0 := by rw [← hh, Bd.state]; rfl
  have N0 := Fr.nil Z.heap.size
  have Z0 : Z.heap.size ≤ h0.size := OL.2.1
  obtain ⟨PP, hPP⟩ : ∃ PP : Outcome → State → Prop, PP = (fun o tE => ∃ v L, o = .returned v ∧ Q_pci Z p1 p2 fm h0 v tE.heap L ∧ FrameEnd s o tE L ({ frames := 0, cells := 0, slots := 0, locals := 0 } : Room).cells ({ frames := 0, cells := 0, slots := 0, locals := 0 } : Room).slots) := ⟨_, rfl⟩
  show own_Go p.tables e below (fun o tE => ∃ v L, o = .returned v ∧ Q_pci Z p1 p2 fm h0 v tE.heap L ∧ FrameEnd s o tE L ({ frames := 0, cells := 0, slots := 0, locals := 0 } : Room).cells ({ frames := 0, cells := 0, slots := 0, locals := 0 } : Room).slots) (s₁.setTop (entryFrame m #[(.int p1), (.int p2), fm] 3))
  rw [← hPP]
  refine own_Go.st (fun t k => castTop (ef_328 m p1 p2 fm hfm) k) ?_
  show own_Go _ _ _ _ (s₁.setTop (mkF m 0 #[.val (.int p1), .val (.int p2), .val fm] []))
  refine own_Go.st (fun _ k => XS.iloadN X0.here hx rfl (hb hby d_jdk_41_method_11_0) rfl k) ?_
  show own_Go _ _ _ _ (s₁.setTop (mkF m 1 #[.val (.int p1), .val (.int p2), .val fm] [(.int p1)]))
  have hc288 : ¬ (p1 < (0 : Int32)) := h1
  refine own_Go.st (fun _ k => XS.ifNo X0.here hx rfl (hb hby d_jdk_41_method_11_1) rfl ((if0 _ _).trans (flt hc288).1) k) ?_
  show own_Go _ _ _ _ (s₁.setTop (mkF m 4 #[.val (.int p1), .val (.int p2), .val fm] []))
  refine own_Go.st (fun _ k => XS.iloadN X0.here hx rfl (hb hby d_jdk_41_method_11_4) rfl k) ?_
  show own_Go _ _ _ _ (s₁.setTop (mkF m 5 #[.val (.int p1), .val (.int p2), .val fm] [(.int p1)]))
  refine own_Go.st (fun _ k => XS.iloadN X0.here hx rfl (hb hby d_jdk_41_method_11_5) rfl k) ?_
  show own_Go _ _ _ _ (s₁.setTop (mkF m 6 #[.val (.int p1), .val (.int p2), .val fm] [(.int p2), (.int p1)]))
  have hc289 : p1 < p2 := h2
  refine own_Go.st (fun _ k => XS.icmpYes X0.here hx rfl (pc0 := 6) (pc' := 16) rfl (hb hby d_jdk_41_method_11_6) rfl (tlt hc289).1 (by decide) (by decide) k) ?_
  show own_Go _ _ _ _ (s₁.setTop (mkF m 16 #[.val (.int p1), .val (.int p2), .val fm] []))
  refine own_Go.st (fun _ k => XS.iloadN X0.here hx rfl (hb hby d_jdk_41_method_11_16) rfl k) ?_
  show own_Go _ _ _ _ (s₁.setTop (mkF m 17 #[.val (.int p1), .val (.int p2), .val fm] [(.int p1)]))
  obtain ⟨fs290, hr290, hrun290, hend290, hW290, hsm290⟩ := X0.leave (v := some (.int p1)) (fun h => by rw [Bd.returns] at h; cases h)
  subst hPP
  refine ⟨_, _, own_retI X0 hx Bd.returns (hb hby d_jdk_41_method_11_17) hr290, hrun290, hend290, _, _, rfl, ?_, ⟨_, rfl⟩, hW290, hsm290.mono (by decide) (by decide)⟩
  · show Q_pci Z _ _ _ h0 _ s₁.heap _
    rw [e0]
    exact ⟨rfl, N0, rfl⟩
theorem d_jdk_42_method_155_0 : decode jdk_42_method_155_code 0 = .ok (.iload_n 0, 1) := by decide +kernel
theorem d_jdk_42_method_155_1 : decode jdk_42_method_155_code 1 = .ok (.iload_n 1, 1) := by decide +kernel
theorem d_jdk_42_method_155_2 : decode jdk_42_method_155_code 2 = .ok (.getstatic 1053, 3) := by decide +kernel
theorem pd_339 : parseMethodDescriptor "(IILjava/util/function/BiFunction;)I" = some ⟨[.int, .int, (.object "java/util/function/BiFunction")], some .int⟩ := by decide +kernel
theorem d_jdk_42_method_155_5 : decode jdk_42_method_155_code 5 = .ok (.invokestatic 1059, 3) := by decide +kernel
theorem d_jdk_42_method_155_8 : decode jdk_42_method_155_code 8 = .ok (.pop, 1) := by decide +kernel
theorem d_jdk_42_method_155_9 : decode jdk_42_method_155_code 9 = .ok (.return_, 1) := by decide +kernel
def Q_sci (Z : State) (p1 : Int32) (p2 : Int32) (fm : Value) (h0 : Heap) (v : Option Value) (h : Heap) (L : List Loc) : Prop := v = none ∧ Fr Z.heap.size L ∧ h = h0
set_option maxRecDepth 65536 in
set_option maxHeartbeats 40000000 in
theorem rm_sci (l : Launch) (Z : State) (a0 : Array Value) (hw : ∀ d ∈ tables_1, d.before a0 Z = true) (ws : List Jvm.Cond) (p1 : Int32) (p2 : Int32) (fm : Value) (h0 : Heap) (OL : Old Z Z.heap.size h0) (st_SIOOBE_FORMATTER : Sta Z Z.heap "jdk/internal/util/Preconditions" "SIOOBE_FORMATTER" "Ljava/util/function/BiFunction;" fm) (h1 : ¬ p1 < 0) (h2 : p1 < p2) (hfm : fm.isRef = true) :
    MetFree l (⟨"java/lang/String", "checkIndex", "(II)V"⟩ : MethodName) (head1 (Jvm.Cond.code (⟨"java/lang/String", "checkIndex", "(II)V"⟩ : MethodName) jdk_42_method_155_code 2 none :: ws) ({ frames := 1, cells := 0, slots := 0, locals := 14 } : Room)) (fun a U => a = #[(.int p1), (.int p2)] ∧ Z.Warmed39 U.vm ∧ U.heap = h0) (fun _ _ _ _ _ => True) (fun _ U o U' => ∃ v L, o = .returned v ∧ Q_sci Z p1 p2 fm h0 v U'.heap L ∧ FrameEnd U o U' L ({ frames := 1, cells := 0, slots := 0, locals := 14 } : Room).cells ({ frames := 1, cells := 0, slots := 0, locals := 14 } : Room).slots) := by
  refine MetFree.of_bodySF (plainFor_of_name pn_0) hisR ?_
  intro p e s m args below meth c s₁ Bd hml0 hP hK
  obtain ⟨rfl, hZ, hh⟩ := hP
  have hx := Bd.exec
  have hby := Bd.bytes
  have hml : c.maxLocals = 2 := hml0
  have hown : s.vm.findClass "java/lang/String" = some m.cls := findClass_of_methodNamed Bd.named
  have hnm := (name_of_methodNamed Bd.named Bd.method).1
  have X0 : Stand p l e ({ frames := 1, cells := 0, slots := 0, locals := 14 } : Room) s m #[(.int p1), (.int p2)] below meth c s₁ [] 0 0 := Stand.of_body Bd
  have e0 : s₁.heap = h0 := by rw [← hh, Bd.state]; rfl
  have N0 := Fr.nil Z.heap.size
  have Z0 : Z.heap.size ≤ h0.size := OL.2.1
  obtain ⟨PP, hPP⟩ : ∃ PP : Outcome → State → Prop, PP = (fun o tE => ∃ v L, o = .returned v ∧ Q_sci Z p1 p2 fm h0 v tE.heap L ∧ FrameEnd s o tE L ({ frames := 1, cells := 0, slots := 0, locals := 14 } : Room).cells ({ frames := 1, cells := 0, slots := 0, locals := 14 } : Room).slots) := ⟨_, rfl⟩
  show own_Go p.tables e below (fun o tE => ∃ v L, o = .returned v ∧ Q_sci Z p1 p2 fm h0 v tE.heap L ∧ FrameEnd s o tE L ({ frames := 1, cells := 0, slots := 0, locals := 14 } : Room).cells ({ frames := 1, cells := 0, slots := 0, locals := 14 } : Room).slots) (s₁.setTop (entryFrame m #[(.int p1), (.int p2)] 2))
  rw [← hPP]
  refine own_Go.st (fun t k => castTop (ef_270 m p1 p2) k) ?_
  show own_Go _ _ _ _ (s₁.setTop (mkF m 0 #[.val (.int p1), .val (.int p2)] []))
  refine own_Go.st (fun _ k => XS.iloadN X0.here hx rfl (hb hby d_jdk_42_method_155_0) rfl k) ?_
  show own_Go _ _ _ _ (s₁.setTop (mkF m 1 #[.val (.int p1), .val (.int p2)] [(.int p1)]))
  refine own_Go.st (fun _ k => XS.iloadN X0.here hx rfl (hb hby d_jdk_42_method_155_1) rfl k) ?_
  show own_Go _ _ _ _ (s₁.setTop (mkF m 2 #[.val (.int p1), .val (.int p2)] [(.int p2), (.int p1)]))
  obtain ⟨T291, X291, e291, st291⟩ := getS2 X0 hx hZ hown (host := "") (Or.inl (hw _ (List.mem_of_getElem? (i := 108) rfl))) Via.refl e0 (st_SIOOBE_FORMATTER.ext OL.2) (g := (mkF m 2 #[.val (.int p1), .val (.int p2)] [(.int p2), (.int p1)])) rfl (hb hby d_jdk_42_method_155_2)
  refine own_Go.st st291 ?_
  show own_Go _ _ _ _ (T291.setTop (mkF m 5 #[.val (.int p1), .val (.int p2)] [fm, (.int p2), (.int p1)]))
  obtain ⟨_, _, ⟨T292, L292, k292, n292⟩, -, X292, ⟨Lc292, hQ292, l292, y292, z292⟩, st292⟩ := Jvm.LawKit.callS X291 hx (y := (⟨"jdk/internal/util/Preconditions", "checkIndex", "(IILjava/util/function/BiFunction;)I"⟩ : MethodName)) hown (mvT hZ (hw _ (List.mem_of_getElem? (i := 110) rfl))) (mvT hZ (hw _ (List.mem_of_getElem? (i := 111) rfl))) (mvT hZ (hw _ (List.mem_of_getElem? (i := 109) rfl))) (mvT hZ (hw _ (List.mem_of_getElem? (i := 112) rfl))) (by decide) (backOf (W := 0) (rm_pci l Z a0 hw [] p1 p2 fm h0 OL (by first | assumption | decide) (by first | assumption | decide) (by first | assumption | decide)) hZ (hw _ (List.mem_of_getElem? (i := 112) rfl)) (hw _ (List.mem_of_getElem? (i := 109) rfl)) (by decide) (by decide)) (g := (mkF m 5 #[.val (.int p1), .val (.int p2)] [fm, (.int p2), (.int p1)])) rfl (by rw [hml]; rfl) (argsL := [(.int p1), (.int p2), fm]) (rest := []) (lenOf pd_339 rfl) rfl (by show 2 * 0 + _ ≤ _; exact Nat.le_of_eq rfl) (hb hby d_jdk_42_method_155_5) (fun _ _ => ⟨rfl, e291, (by decide : 0 + 0 ≤ _), (by decide : 0 + 0 ≤ _)⟩)
  dsimp only [Pt.U, Pt.locs, Pt.cells, Pt.slots] at X292 l292 y292 z292 st292 hQ292
  subst l292 y292 z292
  obtain ⟨rfl, N292q, K292⟩ := hQ292
  have N292 := Fr.app N0 N292q
  refine own_Go.st st292 ?_
  show own_Go _ _ _ _ (T292.setTop (mkF m 8 #[.val (.int p1), .val (.int p2)] [(.int p1)]))
  refine own_Go.st (fun _ k => XS.pop X292.here hx rfl (hb hby d_jdk_42_method_155_8) rfl rfl k) ?_
  show own_Go _ _ _ _ (T292.setTop (mkF m 9 #[.val (.int p1), .val (.int p2)] []))
  obtain ⟨fs293, hr293, hrun293, hend293, hW293, hsm293⟩ := X292.leave (v := none) (fun _ => rfl)
  subst hPP
  refine ⟨_, _, X292.returnOut hx Bd.returns (hb hby d_jdk_42_method_155_9) hr293, hrun293, hend293, _, _, rfl, ?_, ⟨_, rfl⟩, hW293, hsm293.mono (by decide) (by decide)⟩
  · show Q_sci Z _ _ _ h0 _ T292.heap _
    rw [K292]
    exact ⟨rfl, N292, rfl⟩
theorem d_jdk_89_method_19_0 : decode jdk_89_method_19_code 0 = .ok (.iload_n 0, 1) := by decide +kernel
theorem d_jdk_89_method_19_1 : decode jdk_89_method_19_code 1 = .ok (.bipush 10, 2) := by decide +kernel
theorem d_jdk_89_method_19_3 : decode jdk_89_method_19_code 3 = .ok (.ishl, 1) := by decide +kernel
theorem d_jdk_89_method_19_4 : decode jdk_89_method_19_code 4 = .ok (.iload_n 1, 1) := by decide +kernel
theorem d_jdk_89_method_19_5 : decode jdk_89_method_19_code 5 = .ok (.iadd, 1) := by decide +kernel
theorem d_jdk_89_method_19_6 : decode jdk_89_method_19_code 6 = .ok (.ldc 85, 2) := by decide +kernel
theorem d_jdk_89_method_19_8 : decode jdk_89_method_19_code 8 = .ok (.iadd, 1) := by decide +kernel
theorem d_jdk_89_method_19_9 : decode jdk_89_method_19_code 9 = .ok (.ireturn, 1) := by decide +kernel
def Q_tcp (Z : State) (p1 : Int32) (p2 : Int32) (h0 : Heap) (v : Option Value) (h : Heap) (L : List Loc) : Prop := v = some (.int (own_tcp p1 p2)) ∧ Fr Z.heap.size L ∧ h = h0
set_option maxRecDepth 65536 in
set_option maxHeartbeats 40000000 in
theorem rm_tcp (l : Launch) (Z : State) (a0 : Array Value) (hw : ∀ d ∈ tables_1, d.before a0 Z = true) (ws : List Jvm.Cond) (p1 : Int32) (p2 : Int32) (h0 : Heap) (OL : Old Z Z.heap.size h0) :
    MetFree l (⟨"java/lang/Character", "toCodePoint", "(CC)I"⟩ : MethodName) (head1 (Jvm.Cond.code (⟨"java/lang/Character", "toCodePoint", "(CC)I"⟩ : MethodName) jdk_89_method_19_code 2 (some .int) :: ws) ({ frames := 0, cells := 0, slots := 0, locals := 0 } : Room)) (fun a U => a = #[(.int p1), (.int p2)] ∧ Z.Warmed39 U.vm ∧ U.heap = h0) (fun _ _ _ _ _ => True) (fun _ U o U' => ∃ v L, o = .returned v ∧ Q_tcp Z p1 p2 h0 v U'.heap L ∧ FrameEnd U o U' L ({ frames := 0, cells := 0, slots := 0, locals := 0 } : Room).cells ({ frames := 0, cells := 0, slots := 0, locals := 0 } : Room).slots) := by
  refine MetFree.of_bodySF (plainFor_of_name pn_189) hisR ?_
  intro p e s m args below meth c s₁ Bd hml0 hP hK
  obtain ⟨rfl, hZ, hh⟩ := hP
  have hx := Bd.exec
  have hby := Bd.bytes
  have hml : c.maxLocals = 2 := hml0
  have hown : s.vm.findClass "java/lang/Character" = some m.cls := findClass_of_methodNamed Bd.named
  have hnm := (name_of_methodNamed Bd.named Bd.method).1
  have X0 : Stand p l e ({ frames := 0, cells := 0, slots := 0, locals := 0 } : Room) s m #[(.int p1), (.int p2)] below meth c s₁ [] 0 0 := Stand.of_body Bd
  have e0 : s₁.heap = h0 := by rw [← hh, Bd.state]; rfl
  have N0 := Fr.nil Z.heap.size
  have Z0 : Z.heap.size ≤ h0.size := OL.2.1
  obtain ⟨PP, hPP⟩ : ∃ PP : Outcome → State → Prop, PP = (fun o tE => ∃ v L, o = .returned v ∧ Q_tcp Z p1 p2 h0 v tE.heap L ∧ FrameEnd s o tE L ({ frames := 0, cells := 0, slots := 0, locals := 0 } : Room).cells ({ frames := 0, cells := 0, slots := 0, locals := 0 } : Room).slots) := ⟨_, rfl⟩
  show own_Go p.tables e below (fun o tE => ∃ v L, o = .returned v ∧ Q_tcp Z p1 p2 h0 v tE.heap L ∧ FrameEnd s o tE L ({ frames := 0, cells := 0, slots := 0, locals := 0 } : Room).cells ({ frames := 0, cells := 0, slots := 0, locals := 0 } : Room).slots) (s₁.setTop (entryFrame m #[(.int p1), (.int p2)] 2))
  rw [← hPP]
  refine own_Go.st (fun t k => castTop (ef_270 m p1 p2) k) ?_
  show own_Go _ _ _ _ (s₁.setTop (mkF m 0 #[.val (.int p1), .val (.int p2)] []))
  refine own_Go.st (fun _ k => XS.iloadN X0.here hx rfl (hb hby d_jdk_89_method_19_0) rfl k) ?_
  show own_Go _ _ _ _ (s₁.setTop (mkF m 1 #[.val (.int p1), .val (.int p2)] [(.int p1)]))
  refine own_Go.st (fun _ k => XS.bipush X0.here hx rfl (hb hby d_jdk_89_method_19_1) k) ?_
  show own_Go _ _ _ _ (s₁.setTop (mkF m 3 #[.val (.int p1), .val (.int p2)] [(.int (10 : Int32)), (.int p1)]))
  refine own_Go.st (fun _ k => XS.ishl X0.here hx rfl (hb hby d_jdk_89_method_19_3) rfl k) ?_
  show own_Go _ _ _ _ (s₁.setTop (mkF m 4 #[.val (.int p1), .val (.int p2)] [(.int (p1 <<< ((10 : Int32) &&& 31)))]))
  refine own_Go.st (fun _ k => XS.iloadN X0.here hx rfl (hb hby d_jdk_89_method_19_4) rfl k) ?_
  show own_Go _ _ _ _ (s₁.setTop (mkF m 5 #[.val (.int p1), .val (.int p2)] [(.int p2), (.int (p1 <<< ((10 : Int32) &&& 31)))]))
  refine own_Go.st (fun _ k => XS.iadd X0.here hx rfl (hb hby d_jdk_89_method_19_5) rfl k) ?_
  show own_Go _ _ _ _ (s₁.setTop (mkF m 6 #[.val (.int p1), .val (.int p2)] [(.int ((p1 <<< ((10 : Int32) &&& 31)) + p2))]))
  refine own_Go.st (X0.ldcInt hx hown (mvT hZ (hw _ (List.mem_of_getElem? (i := 132) rfl))) (g := (mkF m 6 #[.val (.int p1), .val (.int p2)] [(.int ((p1 <<< ((10 : Int32) &&& 31)) + p2))])) rfl (hb hby d_jdk_89_method_19_6)) ?_
  show own_Go _ _ _ _ (s₁.setTop (mkF m 8 #[.val (.int p1), .val (.int p2)] [(.int (-56613888 : Int32)), (.int ((p1 <<< ((10 : Int32) &&& 31)) + p2))]))
  refine own_Go.st (fun _ k => XS.iadd X0.here hx rfl (hb hby d_jdk_89_method_19_8) rfl k) ?_
  show own_Go _ _ _ _ (s₁.setTop (mkF m 9 #[.val (.int p1), .val (.int p2)] [(.int (((p1 <<< ((10 : Int32) &&& 31)) + p2) + (-56613888 : Int32)))]))
  obtain ⟨fs294, hr294, hrun294, hend294, hW294, hsm294⟩ := X0.leave (v := some (.int (((p1 <<< ((10 : Int32) &&& 31)) + p2) + (-56613888 : Int32)))) (fun h => by rw [Bd.returns] at h; cases h)
  subst hPP
  refine ⟨_, _, own_retI X0 hx Bd.returns (hb hby d_jdk_89_method_19_9) hr294, hrun294, hend294, _, _, rfl, ?_, ⟨_, rfl⟩, hW294, hsm294.mono (by decide) (by decide)⟩
  · show Q_tcp Z _ _ h0 _ s₁.heap _
    rw [e0]
    exact ⟨rfl, N0, rfl⟩
theorem d_jdk_89_method_18_0 : decode jdk_89_method_18_code 0 = .ok (.iload_n 0, 1) := by decide +kernel
theorem d_jdk_89_method_18_1 : decode jdk_89_method_18_code 1 = .ok (.ldc 73, 2) := by decide +kernel
theorem d_jdk_89_method_18_3 : decode jdk_89_method_18_code 3 = .ok (.if_icmp .lt 7, 3) := by decide +kernel
theorem d_jdk_89_method_18_10 : decode jdk_89_method_18_code 10 = .ok (.iconst 1, 1) := by decide +kernel
theorem d_jdk_89_method_18_11 : decode jdk_89_method_18_code 11 = .ok (.ireturn, 1) := by decide +kernel
theorem d_jdk_89_method_18_6 : decode jdk_89_method_18_code 6 = .ok (.iconst 2, 1) := by decide +kernel
theorem d_jdk_89_method_18_7 : decode jdk_89_method_18_code 7 = .ok (.goto 4, 3) := by decide +kernel
def Q_cc (Z : State) (p1 : Int32) (h0 : Heap) (v : Option Value) (h : Heap) (L : List Loc) : Prop := v = some (.int (if p1 < 65536 then (1 : Int32) else 2)) ∧ Fr Z.heap.size L ∧ h = h0
set_option maxRecDepth 65536 in
set_option maxHeartbeats 40000000 in
theorem rm_cc (l : Launch) (Z : State) (a0 : Array Value) (hw : ∀ d ∈ tables_1, d.before a0 Z = true) (ws : List Jvm.Cond) (p1 : Int32) (h0 : Heap) (OL : Old Z Z.heap.size h0) :
    MetFree l (⟨"java/lang/Character", "charCount", "(I)I"⟩ : MethodName) (head1 (Jvm.Cond.code (⟨"java/lang/Character", "charCount", "(I)I"⟩ : MethodName) jdk_89_method_18_code 1 (some .int) :: ws) ({ frames := 0, cells := 0, slots := 0, locals := 0 } : Room)) (fun a U => a = #[(.int p1)] ∧ Z.Warmed39 U.vm ∧ U.heap = h0) (fun _ _ _ _ _ => True) (fun _ U o U' => ∃ v L, o = .returned v ∧ Q_cc Z p1 h0 v U'.heap L ∧ FrameEnd U o U' L ({ frames := 0, cells := 0, slots := 0, locals := 0 } : Room).cells ({ frames := 0, cells := 0, slots := 0, locals := 0 } : Room).slots) := by
  refine MetFree.of_bodySF (plainFor_of_name pn_189) hisR ?_
  intro p e s m args below meth c s₁ Bd hml0 hP hK
  obtain ⟨rfl, hZ, hh⟩ := hP
  have hx := Bd.exec
  have hby := Bd.bytes
  have hml : c.maxLocals = 1 := hml0
  have hown : s.vm.findClass "java/lang/Character" = some m.cls := findClass_of_methodNamed Bd.named
  have hnm := (name_of_methodNamed Bd.named Bd.method).1
  have X0 : Stand p l e ({ frames := 0, cells := 0, slots := 0, locals := 0 } : Room) s m #[(.int p1)] below meth c s₁ [] 0 0 := Stand.of_body Bd
  have e0 : s₁.heap = h0 := by rw [← hh, Bd.state]; rfl
  have N0 := Fr.nil Z.heap.size
  have Z0 : Z.heap.size ≤ h0.size := OL.2.1
  obtain ⟨PP, hPP⟩ : ∃ PP : Outcome → State → Prop, PP = (fun o tE => ∃ v L, o = .returned v ∧ Q_cc Z p1 h0 v tE.heap L ∧ FrameEnd s o tE L ({ frames := 0, cells := 0, slots := 0, locals := 0 } : Room).cells ({ frames := 0, cells := 0, slots := 0, locals := 0 } : Room).slots) := ⟨_, rfl⟩
  show own_Go p.tables e below (fun o tE => ∃ v L, o = .returned v ∧ Q_cc Z p1 h0 v tE.heap L ∧ FrameEnd s o tE L ({ frames := 0, cells := 0, slots := 0, locals := 0 } : Room).cells ({ frames := 0, cells := 0, slots := 0, locals := 0 } : Room).slots) (s₁.setTop (entryFrame m #[(.int p1)] 1))
  rw [← hPP]
  refine own_Go.st (fun t k => castTop (ef_98 m p1) k) ?_
  show own_Go _ _ _ _ (s₁.setTop (mkF m 0 #[.val (.int p1)] []))
  refine own_Go.st (fun _ k => XS.iloadN X0.here hx rfl (hb hby d_jdk_89_method_18_0) rfl k) ?_
  show own_Go _ _ _ _ (s₁.setTop (mkF m 1 #[.val (.int p1)] [(.int p1)]))
  refine own_Go.st (X0.ldcInt hx hown (mvT hZ (hw _ (List.mem_of_getElem? (i := 137) rfl))) (g := (mkF m 1 #[.val (.int p1)] [(.int p1)])) rfl (hb hby d_jdk_89_method_18_1)) ?_
  show own_Go _ _ _ _ (s₁.setTop (mkF m 3 #[.val (.int p1)] [(.int (65536 : Int32)), (.int p1)]))
  by_cases hc295 : p1 < (65536 : Int32)
  ·
    refine own_Go.st (fun _ k => XS.icmpYes X0.here hx rfl (pc0 := 3) (pc' := 10) rfl (hb hby d_jdk_89_method_18_3) rfl (tlt hc295).1 (by decide) (by decide) k) ?_
    show own_Go _ _ _ _ (s₁.setTop (mkF m 10 #[.val (.int p1)] []))
    refine own_Go.st (fun _ k => XS.iconst X0.here hx rfl (hb hby d_jdk_89_method_18_10) k) ?_
    show own_Go _ _ _ _ (s₁.setTop (mkF m 11 #[.val (.int p1)] [(.int (1 : Int32))]))
    obtain ⟨fs296, hr296, hrun296, hend296, hW296, hsm296⟩ := X0.leave (v := some (.int (1 : Int32))) (fun h => by rw [Bd.returns] at h; cases h)
    subst hPP
    refine ⟨_, _, own_retI X0 hx Bd.returns (hb hby d_jdk_89_method_18_11) hr296, hrun296, hend296, _, _, rfl, ?_, ⟨_, rfl⟩, hW296, hsm296.mono (by decide) (by decide)⟩
    · show Q_cc Z _ h0 _ s₁.heap _
      rw [e0]
      exact ⟨(by rw [if_pos hc295]), N0, rfl⟩
  ·
    refine own_Go.st (fun _ k => XS.icmpNo X0.here hx rfl (hb hby d_jdk_89_method_18_3) rfl (flt hc295).1 k) ?_
    show own_Go _ _ _ _ (s₁.setTop (mkF m 6 #[.val (.int p1)] []))
    refine own_Go.st (fun _ k => XS.iconst X0.here hx rfl (hb hby d_jdk_89_method_18_6) k) ?_
    show own_Go _ _ _ _ (s₁.setTop (mkF m 7 #[.val (.int p1)] [(.int (2 : Int32))]))
    refine own_Go.st (fun _ k => XS.goto X0.here hx rfl (pc0 := 7) (pc' := 11) rfl (hb hby d_jdk_89_method_18_7) (by decide) (by decide) k) ?_
    show own_Go _ _ _ _ (s₁.setTop (mkF m 11 #[.val (.int p1)] [(.int (2 : Int32))]))
    obtain ⟨fs297, hr297, hrun297, hend297, hW297, hsm297⟩ := X0.leave (v := some (.int (2 : Int32))) (fun h => by rw [Bd.returns] at h; cases h)
    subst hPP
    refine ⟨_, _, own_retI X0 hx Bd.returns (hb hby d_jdk_89_method_18_11) hr297, hrun297, hend297, _, _, rfl, ?_, ⟨_, rfl⟩, hW297, hsm297.mono (by decide) (by decide)⟩
    · show Q_cc Z _ h0 _ s₁.heap _
      rw [e0]
      exact ⟨(by rw [if_neg hc295]), N0, rfl⟩
theorem ef_358 (m : MethodId) (x0 : Nat) (x1 : Int32) (x2 : Int32) (x3 : Int32) : entryFrame m #[(.ref x0), (.int x1), (.int x2), (.int x3)] 6 = mkF m 0 #[.val (.ref x0), .val (.int x1), .val (.int x2), .val (.int x3), .unset, .unset] [] := by first | (simp [entryFrame, mkF, argsToLocals, Value.category]; done) | rfl
theorem d_jdk_52_method_7_0 : decode jdk_52_method_7_code 0 = .ok (.getstatic 44, 3) := by decide +kernel
theorem d_jdk_52_method_7_3 : decode jdk_52_method_7_code 3 = .ok (.ifCond .ne 16, 3) := by decide +kernel
theorem d_jdk_52_method_7_19 : decode jdk_52_method_7_code 19 = .ok (.iload_n 3, 1) := by decide +kernel
theorem d_jdk_52_method_7_20 : decode jdk_52_method_7_code 20 = .ok (.ifCond .eq 8, 3) := by decide +kernel
theorem d_jdk_52_method_7_28 : decode jdk_52_method_7_code 28 = .ok (.aload_n 0, 1) := by decide +kernel
theorem d_jdk_52_method_7_29 : decode jdk_52_method_7_code 29 = .ok (.iload_n 1, 1) := by decide +kernel
theorem d_jdk_52_method_7_30 : decode jdk_52_method_7_code 30 = .ok (.invokestatic 71, 3) := by decide +kernel
theorem d_jdk_52_method_7_33 : decode jdk_52_method_7_code 33 = .ok (.istore 4, 2) := by decide +kernel
theorem d_jdk_52_method_7_35 : decode jdk_52_method_7_code 35 = .ok (.iload 4, 2) := by decide +kernel
theorem pd_368 : parseMethodDescriptor "(C)Z" = some ⟨[.char], some .boolean⟩ := by decide +kernel
theorem d_jdk_52_method_7_37 : decode jdk_52_method_7_code 37 = .ok (.invokestatic 75, 3) := by decide +kernel
theorem d_jdk_52_method_7_40 : decode jdk_52_method_7_code 40 = .ok (.ifCond .eq 43, 3) := by decide +kernel
theorem d_jdk_52_method_7_83 : decode jdk_52_method_7_code 83 = .ok (.iload 4, 2) := by decide +kernel
theorem d_jdk_52_method_7_85 : decode jdk_52_method_7_code 85 = .ok (.ireturn, 1) := by decide +kernel
theorem d_jdk_52_method_7_43 : decode jdk_52_method_7_code 43 = .ok (.iinc 1 1, 3) := by decide +kernel
theorem d_jdk_52_method_7_46 : decode jdk_52_method_7_code 46 = .ok (.iload_n 1, 1) := by decide +kernel
theorem d_jdk_52_method_7_47 : decode jdk_52_method_7_code 47 = .ok (.iload_n 2, 1) := by decide +kernel
theorem d_jdk_52_method_7_48 : decode jdk_52_method_7_code 48 = .ok (.if_icmp .ge 35, 3) := by decide +kernel
theorem d_jdk_52_method_7_51 : decode jdk_52_method_7_code 51 = .ok (.iload_n 3, 1) := by decide +kernel
theorem d_jdk_52_method_7_52 : decode jdk_52_method_7_code 52 = .ok (.ifCond .eq 8, 3) := by decide +kernel
theorem d_jdk_52_method_7_60 : decode jdk_52_method_7_code 60 = .ok (.aload_n 0, 1) := by decide +kernel
theorem d_jdk_52_method_7_61 : decode jdk_52_method_7_code 61 = .ok (.iload_n 1, 1) := by decide +kernel
theorem d_jdk_52_method_7_62 : decode jdk_52_method_7_code 62 = .ok (.invokestatic 71, 3) := by decide +kernel
theorem d_jdk_52_method_7_65 : decode jdk_52_method_7_code 65 = .ok (.istore 5, 2) := by decide +kernel
theorem d_jdk_52_method_7_67 : decode jdk_52_method_7_code 67 = .ok (.iload 5, 2) := by decide +kernel
theorem d_jdk_52_method_7_69 : decode jdk_52_method_7_code 69 = .ok (.invokestatic 81, 3) := by decide +kernel
theorem d_jdk_52_method_7_72 : decode jdk_52_method_7_code 72 = .ok (.ifCond .eq 11, 3) := by decide +kernel
theorem d_jdk_52_method_7_75 : decode jdk_52_method_7_code 75 = .ok (.iload 4, 2) := by decide +kernel
theorem d_jdk_52_method_7_77 : decode jdk_52_method_7_code 77 = .ok (.iload 5, 2) := by decide +kernel
theorem pd_388 : parseMethodDescriptor "(CC)I" = some ⟨[.char, .char], some .int⟩ := by decide +kernel
theorem d_jdk_52_method_7_79 : decode jdk_52_method_7_code 79 = .ok (.invokestatic 84, 3) := by decide +kernel
theorem d_jdk_52_method_7_82 : decode jdk_52_method_7_code 82 = .ok (.ireturn, 1) := by decide +kernel
def Q_cpa4 (Z : State) (a1 : Nat) (pi : Int32) (nn : Int32) (i : Nat) (cs : List Int32) (k : ClassId) (n2 : Int32) (vs : List Value) (d : Value) (h0 : Heap) (v : Option Value) (h : Heap) (L : List Loc) : Prop := v = some (.int (own_cpAt cs i)) ∧ Fr Z.heap.size L ∧ h = h0
set_option maxRecDepth 65536 in
set_option maxHeartbeats 40000000 in
theorem rm_cpa4 (l : Launch) (Z : State) (a0 : Array Value) (hw : ∀ d ∈ tables_1, d.before a0 Z = true) (ws : List Jvm.Cond) (a1 : Nat) (pi : Int32) (nn : Int32) (i : Nat) (cs : List Int32) (k : ClassId) (n2 : Int32) (vs : List Value) (d : Value) (h0 : Heap) (OL : Old Z Z.heap.size h0) (p0_ : Arv Z h0 a1 k .byte n2 vs d) (st__assertionsDisabled : Sta Z Z.heap "java/lang/StringUTF16" "$assertionsDisabled" "Z" (.int (1 : Int32))) (st_HI_BYTE_SHIFT : Sta Z Z.heap "java/lang/StringUTF16" "HI_BYTE_SHIFT" "I" (.int (0 : Int32))) (st_LO_BYTE_SHIFT : Sta Z Z.heap "java/lang/StringUTF16" "LO_BYTE_SHIFT" "I" (.int (8 : Int32))) (hn2 : n2 = Int32.ofNat (2 * cs.length)) (hvs : vs = StrChars.Road.wideBytes cs) (hd : d = .int 0) (hle : cs.length ≤ 4000) (hrng : ∀ c ∈ cs, ¬ c < 0 ∧ ¬ (65535 : Int32) < c) (hnn : nn = (Int32.ofNat cs.length)) (hpi : pi = Int32.ofNat i) (hi : i < cs.length) :
    MetFree l (⟨"java/lang/StringUTF16", "codePointAt", "([BIIZ)I"⟩ : MethodName) (head1 (Jvm.Cond.code (⟨"java/lang/StringUTF16", "codePointAt", "([BIIZ)I"⟩ : MethodName) jdk_52_method_7_code 6 (some .int) :: ws) ({ frames := 1, cells := 0, slots := 0, locals := 20 } : Room)) (fun a U => a = #[(.ref a1), (.int pi), (.int nn), (.int (0 : Int32))] ∧ Z.Warmed39 U.vm ∧ U.heap = h0) (fun _ _ _ _ _ => True) (fun _ U o U' => ∃ v L, o = .returned v ∧ Q_cpa4 Z a1 pi nn i cs k n2 vs d h0 v U'.heap L ∧ FrameEnd U o U' L ({ frames := 1, cells := 0, slots := 0, locals := 20 } : Room).cells ({ frames := 1, cells := 0, slots := 0, locals := 20 } : Room).slots) := by
  refine MetFree.of_bodySF (plainFor_of_name pn_25) hisR ?_
  intro p e s m args below meth c s₁ Bd hml0 hP hK
  obtain ⟨rfl, hZ, hh⟩ := hP
  have hx := Bd.exec
  have hby := Bd.bytes
  have hml : c.maxLocals = 6 := hml0
  have hown : s.vm.findClass "java/lang/StringUTF16" = some m.cls := findClass_of_methodNamed Bd.named
  have hnm := (name_of_methodNamed Bd.named Bd.method).1
  have X0 : Stand p l e ({ frames := 1, cells := 0, slots := 0, locals := 20 } : Room) s m #[(.ref a1), (.int pi), (.int nn), (.int (0 : Int32))] below meth c s₁ [] 0 0 := Stand.of_body Bd
  have e0 : s₁.heap = h0 := by rw [← hh, Bd.state]; rfl
  have N0 := Fr.nil Z.heap.size
  have Z0 : Z.heap.size ≤ h0.size := OL.2.1
  have lt_0 : @LT.lt Nat _ a1 h0.size := p0_.lt
  obtain ⟨PP, hPP⟩ : ∃ PP : Outcome → State → Prop, PP = (fun o tE => ∃ v L, o = .returned v ∧ Q_cpa4 Z a1 pi nn i cs k n2 vs d h0 v tE.heap L ∧ FrameEnd s o tE L ({ frames := 1, cells := 0, slots := 0, locals := 20 } : Room).cells ({ frames := 1, cells := 0, slots := 0, locals := 20 } : Room).slots) := ⟨_, rfl⟩
  show own_Go p.tables e below (fun o tE => ∃ v L, o = .returned v ∧ Q_cpa4 Z a1 pi nn i cs k n2 vs d h0 v tE.heap L ∧ FrameEnd s o tE L ({ frames := 1, cells := 0, slots := 0, locals := 20 } : Room).cells ({ frames := 1, cells := 0, slots := 0, locals := 20 } : Room).slots) (s₁.setTop (entryFrame m #[(.ref a1), (.int pi), (.int nn), (.int (0 : Int32))] 6))
  rw [← hPP]
  refine own_Go.st (fun t k => castTop (ef_358 m a1 pi nn (0 : Int32)) k) ?_
  subst hvs hd hn2 hnn hpi
  show own_Go _ _ _ _ (s₁.setTop (mkF m 0 #[.val (.ref a1), .val (.int (Int32.ofNat i)), .val (.int (Int32.ofNat cs.length)), .val (.int (0 : Int32)), .unset, .unset] []))
  obtain ⟨T298, X298, e298, st298⟩ := getS2 X0 hx hZ hown (host := "") (Or.inl (hw _ (List.mem_of_getElem? (i := 89) rfl))) Via.refl e0 (st__assertionsDisabled.ext OL.2) (g := (mkF m 0 #[.val (.ref a1), .val (.int (Int32.ofNat i)), .val (.int (Int32.ofNat cs.length)), .val (.int (0 : Int32)), .unset, .unset] [])) rfl (hb hby d_jdk_52_method_7_0)
  refine own_Go.st st298 ?_
  show own_Go _ _ _ _ (T298.setTop (mkF m 3 #[.val (.ref a1), .val (.int (Int32.ofNat i)), .val (.int (Int32.ofNat cs.length)), .val (.int (0 : Int32)), .unset, .unset] [(.int (1 : Int32))]))
  refine own_Go.st (fun _ k => XS.ifYes X298.here hx rfl (pc0 := 3) (pc' := 19) rfl (hb hby d_jdk_52_method_7_3) rfl ((if0 _ _).trans (feq (by decide : ¬ ((1 : Int32) = (0 : Int32)))).2) (by decide) (by decide) k) ?_
  show own_Go _ _ _ _ (T298.setTop (mkF m 19 #[.val (.ref a1), .val (.int (Int32.ofNat i)), .val (.int (Int32.ofNat cs.length)), .val (.int (0 : Int32)), .unset, .unset] []))
  refine own_Go.st (fun _ k => XS.iloadN X298.here hx rfl (hb hby d_jdk_52_method_7_19) rfl k) ?_
  show own_Go _ _ _ _ (T298.setTop (mkF m 20 #[.val (.ref a1), .val (.int (Int32.ofNat i)), .val (.int (Int32.ofNat cs.length)), .val (.int (0 : Int32)), .unset, .unset] [(.int (0 : Int32))]))
  have hc299 : (0 : Int32) = (0 : Int32) := rfl
  refine own_Go.st (fun _ k => XS.ifYes X298.here hx rfl (pc0 := 20) (pc' := 28) rfl (hb hby d_jdk_52_method_7_20) rfl ((if0 _ _).trans (teq hc299).1) (by decide) (by decide) k) ?_
  show own_Go _ _ _ _ (T298.setTop (mkF m 28 #[.val (.ref a1), .val (.int (Int32.ofNat i)), .val (.int (Int32.ofNat cs.length)), .val (.int (0 : Int32)), .unset, .unset] []))
  refine own_Go.st (fun _ k => XS.aloadN X298.here hx rfl (hb hby d_jdk_52_method_7_28) rfl rfl k) ?_
  show own_Go _ _ _ _ (T298.setTop (mkF m 29 #[.val (.ref a1), .val (.int (Int32.ofNat i)), .val (.int (Int32.ofNat cs.length)), .val (.int (0 : Int32)), .unset, .unset] [(.ref a1)]))
  refine own_Go.st (fun _ k => XS.iloadN X298.here hx rfl (hb hby d_jdk_52_method_7_29) rfl k) ?_
  show own_Go _ _ _ _ (T298.setTop (mkF m 30 #[.val (.ref a1), .val (.int (Int32.ofNat i)), .val (.int (Int32.ofNat cs.length)), .val (.int (0 : Int32)), .unset, .unset] [(.int (Int32.ofNat i)), (.ref a1)]))
  obtain ⟨_, _, ⟨T300, L300, k300, n300⟩, -, X300, ⟨Lc300, hQ300, l300, y300, z300⟩, st300⟩ := Jvm.LawKit.callS X298 hx (y := (⟨"java/lang/StringUTF16", "getChar", "([BI)C"⟩ : MethodName)) hown (mvT hZ (hw _ (List.mem_of_getElem? (i := 92) rfl))) (mvT hZ (hw _ (List.mem_of_getElem? (i := 93) rfl))) (mvT hZ (hw _ (List.mem_of_getElem? (i := 61) rfl))) (mvT hZ (hw _ (List.mem_of_getElem? (i := 94) rfl))) (by decide) (backOf (W := 0) (rm_getc l Z a0 hw [] a1 (Int32.ofNat i) i k (Int32.ofNat (2 * cs.length)) (StrChars.Road.wideBytes cs) (.int 0) (cs.getD (i) 0) h0 OL p0_ st__assertionsDisabled st_HI_BYTE_SHIFT st_LO_BYTE_SHIFT rfl (by rw [own_wlen]; omega) (by rw [own_wlen]) (by rw [own_wlen]; omega) (StrChars.Road.wide_lo _ _ _ hi) (StrChars.Road.wide_hi _ _ _ hi) (hrng _ (by rw [List.getD_eq_getElem?_getD, List.getElem?_eq_getElem hi]; exact List.getElem_mem _))) hZ (hw _ (List.mem_of_getElem? (i := 94) rfl)) (hw _ (List.mem_of_getElem? (i := 61) rfl)) (by decide) (by decide)) (g := (mkF m 30 #[.val (.ref a1), .val (.int (Int32.ofNat i)), .val (.int (Int32.ofNat cs.length)), .val (.int (0 : Int32)), .unset, .unset] [(.int (Int32.ofNat i)), (.ref a1)])) rfl (by rw [hml]; rfl) (argsL := [(.ref a1), (.int (Int32.ofNat i))]) (rest := []) (lenOf pd_158 rfl) rfl (by show 2 * 0 + _ ≤ _; exact Nat.le_of_eq rfl) (hb hby d_jdk_52_method_7_30) (fun _ _ => ⟨rfl, e298, (by decide : 0 + 0 ≤ _), (by decide : 0 + 0 ≤ _)⟩)
  dsimp only [Pt.U, Pt.locs, Pt.cells, Pt.slots] at X300 l300 y300 z300 st300 hQ300
  subst l300 y300 z300
  obtain ⟨rfl, N300q, K300⟩ := hQ300
  have N300 := Fr.app N0 N300q
  refine own_Go.st st300 ?_
  show own_Go _ _ _ _ (T300.setTop (mkF m 33 #[.val (.ref a1), .val (.int (Int32.ofNat i)), .val (.int (Int32.ofNat cs.length)), .val (.int (0 : Int32)), .unset, .unset] [(.int (cs.getD (i) 0))]))
  refine own_Go.st (fun _ k => XS.istore X300.here hx rfl (hb hby d_jdk_52_method_7_33) rfl (l' := #[.val (.ref a1), .val (.int (Int32.ofNat i)), .val (.int (Int32.ofNat cs.length)), .val (.int (0 : Int32)), .val (.int (cs.getD (i) 0)), .unset]) rfl k) ?_
  show own_Go _ _ _ _ (T300.setTop (mkF m 35 #[.val (.ref a1), .val (.int (Int32.ofNat i)), .val (.int (Int32.ofNat cs.length)), .val (.int (0 : Int32)), .val (.int (cs.getD (i) 0)), .unset] []))
  refine own_Go.st (fun _ k => XS.iload X300.here hx rfl (hb hby d_jdk_52_method_7_35) rfl k) ?_
  show own_Go _ _ _ _ (T300.setTop (mkF m 37 #[.val (.ref a1), .val (.int (Int32.ofNat i)), .val (.int (Int32.ofNat cs.length)), .val (.int (0 : Int32)), .val (.int (cs.getD (i) 0)), .unset] [(.int (cs.getD (i) 0))]))
  obtain ⟨_, _, ⟨T301, L301, k301, n301⟩, -, X301, ⟨Lc301, hQ301, l301, y301, z301⟩, st301⟩ := Jvm.LawKit.callS X300 hx (y := (⟨"java/lang/Character", "isHighSurrogate", "(C)Z"⟩ : MethodName)) hown (mvT hZ (hw _ (List.mem_of_getElem? (i := 119) rfl))) (mvT hZ (hw _ (List.mem_of_getElem? (i := 120) rfl))) (mvT hZ (hw _ (List.mem_of_getElem? (i := 121) rfl))) (mvT hZ (hw _ (List.mem_of_getElem? (i := 122) rfl))) (by decide) (backOf (W := 0) (rm_ish l Z a0 hw [] (cs.getD (i) 0) h0 OL ) hZ (hw _ (List.mem_of_getElem? (i := 122) rfl)) (hw _ (List.mem_of_getElem? (i := 121) rfl)) (by decide) (by decide)) (g := (mkF m 37 #[.val (.ref a1), .val (.int (Int32.ofNat i)), .val (.int (Int32.ofNat cs.length)), .val (.int (0 : Int32)), .val (.int (cs.getD (i) 0)), .unset] [(.int (cs.getD (i) 0))])) rfl (by rw [hml]; rfl) (argsL := [(.int (cs.getD (i) 0))]) (rest := []) (lenOf pd_368 rfl) rfl (by show 2 * 0 + _ ≤ _; exact Nat.le_of_eq rfl) (hb hby d_jdk_52_method_7_37) (fun _ _ => ⟨rfl, K300, (by decide : 0 + 0 ≤ _), (by decide : 0 + 0 ≤ _)⟩)
  dsimp only [Pt.U, Pt.locs, Pt.cells, Pt.slots] at X301 l301 y301 z301 st301 hQ301
  subst l301 y301 z301
  obtain ⟨r_301, rfl, N301q, K301, pr301_0⟩ := hQ301
  have N301 := Fr.app N300 N301q
  refine own_Go.st st301 ?_
  show own_Go _ _ _ _ (T301.setTop (mkF m 40 #[.val (.ref a1), .val (.int (Int32.ofNat i)), .val (.int (Int32.ofNat cs.length)), .val (.int (0 : Int32)), .val (.int (cs.getD (i) 0)), .unset] [(.int r_301)]))
  by_cases h40 : r_301 = (0 : Int32)
  ·
    refine own_Go.st (fun _ k => XS.ifYes X301.here hx rfl (pc0 := 40) (pc' := 83) rfl (hb hby d_jdk_52_method_7_40) rfl ((if0 _ _).trans (teq h40).1) (by decide) (by decide) k) ?_
    show own_Go _ _ _ _ (T301.setTop (mkF m 83 #[.val (.ref a1), .val (.int (Int32.ofNat i)), .val (.int (Int32.ofNat cs.length)), .val (.int (0 : Int32)), .val (.int (cs.getD (i) 0)), .unset] []))
    refine own_Go.st (fun _ k => XS.iload X301.here hx rfl (hb hby d_jdk_52_method_7_83) rfl k) ?_
    show own_Go _ _ _ _ (T301.setTop (mkF m 85 #[.val (.ref a1), .val (.int (Int32.ofNat i)), .val (.int (Int32.ofNat cs.length)), .val (.int (0 : Int32)), .val (.int (cs.getD (i) 0)), .unset] [(.int (cs.getD (i) 0))]))
    obtain ⟨fs302, hr302, hrun302, hend302, hW302, hsm302⟩ := X301.leave (v := some (.int (cs.getD (i) 0))) (fun h => by rw [Bd.returns] at h; cases h)
    subst hPP
    refine ⟨_, _, own_retI X301 hx Bd.returns (hb hby d_jdk_52_method_7_85) hr302, hrun302, hend302, _, _, rfl, ?_, ⟨_, rfl⟩, hW302, hsm302.mono (by decide) (by decide)⟩
    · show Q_cpa4 Z _ _ _ _ _ _ _ _ _ h0 _ T301.heap _
      rw [K301]
      exact ⟨(by unfold own_cpAt; rw [if_neg (fun q => own_zero0 pr301_0 h40 q.1)]), N301, rfl⟩
  ·
    refine own_Go.st (fun _ k => XS.ifNo X301.here hx rfl (hb hby d_jdk_52_method_7_40) rfl ((if0 _ _).trans (feq h40).1) k) ?_
    show own_Go _ _ _ _ (T301.setTop (mkF m 43 #[.val (.ref a1), .val (.int (Int32.ofNat i)), .val (.int (Int32.ofNat cs.length)), .val (.int (0 : Int32)), .val (.int (cs.getD (i) 0)), .unset] []))
    refine own_Go.st (fun _ k => XS.iinc X301.here hx rfl (hb hby d_jdk_52_method_7_43) rfl (l' := #[.val (.ref a1), .val (.int ((Int32.ofNat i) + (1 : Int32))), .val (.int (Int32.ofNat cs.length)), .val (.int (0 : Int32)), .val (.int (cs.getD (i) 0)), .unset]) rfl k) ?_
    show own_Go _ _ _ _ (T301.setTop (mkF m 46 #[.val (.ref a1), .val (.int ((Int32.ofNat i) + (1 : Int32))), .val (.int (Int32.ofNat cs.length)), .val (.int (0 : Int32)), .val (.int (cs.getD (i) 0)), .unset] []))
    rw [own_ofS (by omega : i < 1073741823)]
    show own_Go _ _ _ _ (T301.setTop (mkF m 46 #[.val (.ref a1), .val (.int (Int32.ofNat (i + 1))), .val (.int (Int32.ofNat cs.length)), .val (.int (0 : Int32)), .val (.int (cs.getD (i) 0)), .unset] []))
    refine own_Go.st (fun _ k => XS.iloadN X301.here hx rfl (hb hby d_jdk_52_method_7_46) rfl k) ?_
    show own_Go _ _ _ _ (T301.setTop (mkF m 47 #[.val (.ref a1), .val (.int (Int32.ofNat (i + 1))), .val (.int (Int32.ofNat cs.length)), .val (.int (0 : Int32)), .val (.int (cs.getD (i) 0)), .unset] [(.int (Int32.ofNat (i + 1)))]))
    refine own_Go.st (fun _ k => XS.iloadN X301.here hx rfl (hb hby d_jdk_52_method_7_47) rfl k) ?_
    show own_Go _ _ _ _ (T301.setTop (mkF m 48 #[.val (.ref a1), .val (.int (Int32.ofNat (i + 1))), .val (.int (Int32.ofNat cs.length)), .val (.int (0 : Int32)), .val (.int (cs.getD (i) 0)), .unset] [(.int (Int32.ofNat cs.length)), (.int (Int32.ofNat (i + 1)))]))
    by_cases h48 : (Int32.ofNat (i + 1)) < (Int32.ofNat cs.length)
    ·
      refine own_Go.st (fun _ k => XS.icmpNo X301.here hx rfl (hb hby d_jdk_52_method_7_48) rfl (tlt h48).2.1 k) ?_
      show own_Go _ _ _ _ (T301.setTop (mkF m 51 #[.val (.ref a1), .val (.int (Int32.ofNat (i + 1))), .val (.int (Int32.ofNat cs.length)), .val (.int (0 : Int32)), .val (.int (cs.getD (i) 0)), .unset] []))
      have hi2 : i + 1 < cs.length := (own_oflt (by omega) (by omega)).mp h48
      refine own_Go.st (fun _ k => XS.iloadN X301.here hx rfl (hb hby d_jdk_52_method_7_51) rfl k) ?_
      show own_Go _ _ _ _ (T301.setTop (mkF m 52 #[.val (.ref a1), .val (.int (Int32.ofNat (i + 1))), .val (.int (Int32.ofNat cs.length)), .val (.int (0 : Int32)), .val (.int (cs.getD (i) 0)), .unset] [(.int (0 : Int32))]))
      have hc303 : (0 : Int32) = (0 : Int32) := rfl
      refine own_Go.st (fun _ k => XS.ifYes X301.here hx rfl (pc0 := 52) (pc' := 60) rfl (hb hby d_jdk_52_method_7_52) rfl ((if0 _ _).trans (teq hc303).1) (by decide) (by decide) k) ?_
      show own_Go _ _ _ _ (T301.setTop (mkF m 60 #[.val (.ref a1), .val (.int (Int32.ofNat (i + 1))), .val (.int (Int32.ofNat cs.length)), .val (.int (0 : Int32)), .val (.int (cs.getD (i) 0)), .unset] []))
      refine own_Go.st (fun _ k => XS.aloadN X301.here hx rfl (hb hby d_jdk_52_method_7_60) rfl rfl k) ?_
      show own_Go _ _ _ _ (T301.setTop (mkF m 61 #[.val (.ref a1), .val (.int (Int32.ofNat (i + 1))), .val (.int (Int32.ofNat cs.length)), .val (.int (0 : Int32)), .val (.int (cs.getD (i) 0)), .unset] [(.ref a1)]))
      refine own_Go.st (fun _ k => XS.iloadN X301.here hx rfl (hb hby d_jdk_52_method_7_61) rfl k) ?_
      show own_Go _ _ _ _ (T301.setTop (mkF m 62 #[.val (.ref a1), .val (.int (Int32.ofNat (i + 1))), .val (.int (Int32.ofNat cs.length)), .val (.int (0 : Int32)), .val (.int (cs.getD (i) 0)), .unset] [(.int (Int32.ofNat (i + 1))), (.ref a1)]))
      obtain ⟨_, _, ⟨T304, L304, k304, n304⟩, -, X304, ⟨Lc304, hQ304, l304, y304, z304⟩, st304⟩ := Jvm.LawKit.callS X301 hx (y := (⟨"java/lang/StringUTF16", "getChar", "([BI)C"⟩ : MethodName)) hown (mvT hZ (hw _ (List.mem_of_getElem? (i := 92) rfl))) (mvT hZ (hw _ (List.mem_of_getElem? (i := 93) rfl))) (mvT hZ (hw _ (List.mem_of_getElem? (i := 61) rfl))) (mvT hZ (hw _ (List.mem_of_getElem? (i := 94) rfl))) (by decide) (backOf (W := 0) (rm_getc l Z a0 hw [] a1 (Int32.ofNat (i + 1)) (i + 1) k (Int32.ofNat (2 * cs.length)) (StrChars.Road.wideBytes cs) (.int 0) (cs.getD (i + 1) 0) h0 OL p0_ st__assertionsDisabled st_HI_BYTE_SHIFT st_LO_BYTE_SHIFT rfl (by rw [own_wlen]; omega) (by rw [own_wlen]) (by rw [own_wlen]; omega) (StrChars.Road.wide_lo _ _ _ hi2) (StrChars.Road.wide_hi _ _ _ hi2) (hrng _ (by rw [List.getD_eq_getElem?_getD, List.getElem?_eq_getElem hi2]; exact List.getElem_mem _))) hZ (hw _ (List.mem_of_getElem? (i := 94) rfl)) (hw _ (List.mem_of_getElem? (i := 61) rfl)) (by decide) (by decide)) (g := (mkF m 62 #[.val (.ref a1), .val (.int (Int32.ofNat (i + 1))), .val (.int (Int32.ofNat cs.length)), .val (.int (0 : Int32)), .val (.int (cs.getD (i) 0)), .unset] [(.int (Int32.ofNat (i + 1))), (.ref a1)])) rfl (by rw [hml]; rfl) (argsL := [(.ref a1), (.int (Int32.ofNat (i + 1)))]) (rest := []) (lenOf pd_158 rfl) rfl (by show 2 * 0 + _ ≤ _; exact Nat.le_of_eq rfl) (hb hby d_jdk_52_method_7_62) (fun _ _ => ⟨rfl, K301, (by decide : 0 + 0 ≤ _), (by decide : 0 + 0 ≤ _)⟩)
      dsimp only [Pt.U, Pt.locs, Pt.cells, Pt.slots] at X304 l304 y304 z304 st304 hQ304
      subst l304 y304 z304
      obtain ⟨rfl, N304q, K304⟩ := hQ304
      have N304 := Fr.app N301 N304q
      refine own_Go.st st304 ?_
      show own_Go _ _ _ _ (T304.setTop (mkF m 65 #[.val (.ref a1), .val (.int (Int32.ofNat (i + 1))), .val (.int (Int32.ofNat cs.length)), .val (.int (0 : Int32)), .val (.int (cs.getD (i) 0)), .unset] [(.int (cs.getD (i + 1) 0))]))
      refine own_Go.st (fun _ k => XS.istore X304.here hx rfl (hb hby d_jdk_52_method_7_65) rfl (l' := #[.val (.ref a1), .val (.int (Int32.ofNat (i + 1))), .val (.int (Int32.ofNat cs.length)), .val (.int (0 : Int32)), .val (.int (cs.getD (i) 0)), .val (.int (cs.getD (i + 1) 0))]) rfl k) ?_
      show own_Go _ _ _ _ (T304.setTop (mkF m 67 #[.val (.ref a1), .val (.int (Int32.ofNat (i + 1))), .val (.int (Int32.ofNat cs.length)), .val (.int (0 : Int32)), .val (.int (cs.getD (i) 0)), .val (.int (cs.getD (i + 1) 0))] []))
      refine own_Go.st (fun _ k => XS.iload X304.here hx rfl (hb hby d_jdk_52_method_7_67) rfl k) ?_
      show own_Go _ _ _ _ (T304.setTop (mkF m 69 #[.val (.ref a1), .val (.int (Int32.ofNat (i + 1))), .val (.int (Int32.ofNat cs.length)), .val (.int (0 : Int32)), .val (.int (cs.getD (i) 0)), .val (.int (cs.getD (i + 1) 0))] [(.int (cs.getD (i + 1) 0))]))
      obtain ⟨_, _, ⟨T305, L305, k305, n305⟩, -, X305, ⟨Lc305, hQ305, l305, y305, z305⟩, st305⟩ := Jvm.LawKit.callS X304 hx (y := (⟨"java/lang/Character", "isLowSurrogate", "(C)Z"⟩ : MethodName)) hown (mvT hZ (hw _ (List.mem_of_getElem? (i := 125) rfl))) (mvT hZ (hw _ (List.mem_of_getElem? (i := 126) rfl))) (mvT hZ (hw _ (List.mem_of_getElem? (i := 121) rfl))) (mvT hZ (hw _ (List.mem_of_getElem? (i := 127) rfl))) (by decide) (backOf (W := 0) (rm_isl l Z a0 hw [] (cs.getD (i + 1) 0) h0 OL ) hZ (hw _ (List.mem_of_getElem? (i := 127) rfl)) (hw _ (List.mem_of_getElem? (i := 121) rfl)) (by decide) (by decide)) (g := (mkF m 69 #[.val (.ref a1), .val (.int (Int32.ofNat (i + 1))), .val (.int (Int32.ofNat cs.length)), .val (.int (0 : Int32)), .val (.int (cs.getD (i) 0)), .val (.int (cs.getD (i + 1) 0))] [(.int (cs.getD (i + 1) 0))])) rfl (by rw [hml]; rfl) (argsL := [(.int (cs.getD (i + 1) 0))]) (rest := []) (lenOf pd_368 rfl) rfl (by show 2 * 0 + _ ≤ _; exact Nat.le_of_eq rfl) (hb hby d_jdk_52_method_7_69) (fun _ _ => ⟨rfl, K304, (by decide : 0 + 0 ≤ _), (by decide : 0 + 0 ≤ _)⟩)
      dsimp only [Pt.U, Pt.locs, Pt.cells, Pt.slots] at X305 l305 y305 z305 st305 hQ305
      subst l305 y305 z305
      obtain ⟨r_305, rfl, N305q, K305, pr305_0⟩ := hQ305
      have N305 := Fr.app N304 N305q
      refine own_Go.st st305 ?_
      show own_Go _ _ _ _ (T305.setTop (mkF m 72 #[.val (.ref a1), .val (.int (Int32.ofNat (i + 1))), .val (.int (Int32.ofNat cs.length)), .val (.int (0 : Int32)), .val (.int (cs.getD (i) 0)), .val (.int (cs.getD (i + 1) 0))] [(.int r_305)]))
      by_cases h72 : r_305 = (0 : Int32)
      ·
        refine own_Go.st (fun _ k => XS.ifYes X305.here hx rfl (pc0 := 72) (pc' := 83) rfl (hb hby d_jdk_52_method_7_72) rfl ((if0 _ _).trans (teq h72).1) (by decide) (by decide) k) ?_
        show own_Go _ _ _ _ (T305.setTop (mkF m 83 #[.val (.ref a1), .val (.int (Int32.ofNat (i + 1))), .val (.int (Int32.ofNat cs.length)), .val (.int (0 : Int32)), .val (.int (cs.getD (i) 0)), .val (.int (cs.getD (i + 1) 0))] []))
        refine own_Go.st (fun _ k => XS.iload X305.here hx rfl (hb hby d_jdk_52_method_7_83) rfl k) ?_
        show own_Go _ _ _ _ (T305.setTop (mkF m 85 #[.val (.ref a1), .val (.int (Int32.ofNat (i + 1))), .val (.int (Int32.ofNat cs.length)), .val (.int (0 : Int32)), .val (.int (cs.getD (i) 0)), .val (.int (cs.getD (i + 1) 0))] [(.int (cs.getD (i) 0))]))
        obtain ⟨fs306, hr306, hrun306, hend306, hW306, hsm306⟩ := X305.leave (v := some (.int (cs.getD (i) 0))) (fun h => by rw [Bd.returns] at h; cases h)
        subst hPP
        refine ⟨_, _, own_retI X305 hx Bd.returns (hb hby d_jdk_52_method_7_85) hr306, hrun306, hend306, _, _, rfl, ?_, ⟨_, rfl⟩, hW306, hsm306.mono (by decide) (by decide)⟩
        · show Q_cpa4 Z _ _ _ _ _ _ _ _ _ h0 _ T305.heap _
          rw [K305]
          exact ⟨(by unfold own_cpAt; rw [if_neg (fun q => own_zero0 pr305_0 h72 q.2.2)]), N305, rfl⟩
      ·
        refine own_Go.st (fun _ k => XS.ifNo X305.here hx rfl (hb hby d_jdk_52_method_7_72) rfl ((if0 _ _).trans (feq h72).1) k) ?_
        show own_Go _ _ _ _ (T305.setTop (mkF m 75 #[.val (.ref a1), .val (.int (Int32.ofNat (i + 1))), .val (.int (Int32.ofNat cs.length)), .val (.int (0 : Int32)), .val (.int (cs.getD (i) 0)), .val (.int (cs.getD (i + 1) 0))] []))
        refine own_Go.st (fun _ k => XS.iload X305.here hx rfl (hb hby d_jdk_52_method_7_75) rfl k) ?_
        show own_Go _ _ _ _ (T305.setTop (mkF m 77 #[.val (.ref a1), .val (.int (Int32.ofNat (i + 1))), .val (.int (Int32.ofNat cs.length)), .val (.int (0 : Int32)), .val (.int (cs.getD (i) 0)), .val (.int (cs.getD (i + 1) 0))] [(.int (cs.getD (i) 0))]))
        refine own_Go.st (fun _ k => XS.iload X305.here hx rfl (hb hby d_jdk_52_method_7_77) rfl k) ?_
        show own_Go _ _ _ _ (T305.setTop (mkF m 79 #[.val (.ref a1), .val (.int (Int32.ofNat (i + 1))), .val (.int (Int32.ofNat cs.length)), .val (.int (0 : Int32)), .val (.int (cs.getD (i) 0)), .val (.int (cs.getD (i + 1) 0))] [(.int (cs.getD (i + 1) 0)), (.int (cs.getD (i) 0))]))
        obtain ⟨_, _, ⟨T307, L307, k307, n307⟩, -, X307, ⟨Lc307, hQ307, l307, y307, z307⟩, st307⟩ := Jvm.LawKit.callS X305 hx (y := (⟨"java/lang/Character", "toCodePoint", "(CC)I"⟩ : MethodName)) hown (mvT hZ (hw _ (List.mem_of_getElem? (i := 129) rfl))) (mvT hZ (hw _ (List.mem_of_getElem? (i := 130) rfl))) (mvT hZ (hw _ (List.mem_of_getElem? (i := 121) rfl))) (mvT hZ (hw _ (List.mem_of_getElem? (i := 131) rfl))) (by decide) (backOf (W := 0) (rm_tcp l Z a0 hw [] (cs.getD (i) 0) (cs.getD (i + 1) 0) h0 OL ) hZ (hw _ (List.mem_of_getElem? (i := 131) rfl)) (hw _ (List.mem_of_getElem? (i := 121) rfl)) (by decide) (by decide)) (g := (mkF m 79 #[.val (.ref a1), .val (.int (Int32.ofNat (i + 1))), .val (.int (Int32.ofNat cs.length)), .val (.int (0 : Int32)), .val (.int (cs.getD (i) 0)), .val (.int (cs.getD (i + 1) 0))] [(.int (cs.getD (i + 1) 0)), (.int (cs.getD (i) 0))])) rfl (by rw [hml]; rfl) (argsL := [(.int (cs.getD (i) 0)), (.int (cs.getD (i + 1) 0))]) (rest := []) (lenOf pd_388 rfl) rfl (by show 2 * 0 + _ ≤ _; exact Nat.le_of_eq rfl) (hb hby d_jdk_52_method_7_79) (fun _ _ => ⟨rfl, K305, (by decide : 0 + 0 ≤ _), (by decide : 0 + 0 ≤ _)⟩)
        dsimp only [Pt.U, Pt.locs, Pt.cells, Pt.slots] at X307 l307 y307 z307 st307 hQ307
        subst l307 y307 z307
        obtain ⟨rfl, N307q, K307⟩ := hQ307
        have N307 := Fr.app N305 N307q
        refine own_Go.st st307 ?_
        show own_Go _ _ _ _ (T307.setTop (mkF m 82 #[.val (.ref a1), .val (.int (Int32.ofNat (i + 1))), .val (.int (Int32.ofNat cs.length)), .val (.int (0 : Int32)), .val (.int (cs.getD (i) 0)), .val (.int (cs.getD (i + 1) 0))] [(.int (own_tcp (cs.getD (i) 0) (cs.getD (i + 1) 0)))]))
        obtain ⟨fs308, hr308, hrun308, hend308, hW308, hsm308⟩ := X307.leave (v := some (.int (own_tcp (cs.getD (i) 0) (cs.getD (i + 1) 0)))) (fun h => by rw [Bd.returns] at h; cases h)
        subst hPP
        refine ⟨_, _, own_retI X307 hx Bd.returns (hb hby d_jdk_52_method_7_82) hr308, hrun308, hend308, _, _, rfl, ?_, ⟨_, rfl⟩, hW308, hsm308.mono (by decide) (by decide)⟩
        · show Q_cpa4 Z _ _ _ _ _ _ _ _ _ h0 _ T307.heap _
          rw [K307]
          exact ⟨(by unfold own_cpAt; rw [if_pos ⟨own_one0 pr301_0 h40, hi2, own_one0 pr305_0 h72⟩]), N307, rfl⟩
    ·
      refine own_Go.st (fun _ k => XS.icmpYes X301.here hx rfl (pc0 := 48) (pc' := 83) rfl (hb hby d_jdk_52_method_7_48) rfl (flt h48).2.1 (by decide) (by decide) k) ?_
      show own_Go _ _ _ _ (T301.setTop (mkF m 83 #[.val (.ref a1), .val (.int (Int32.ofNat (i + 1))), .val (.int (Int32.ofNat cs.length)), .val (.int (0 : Int32)), .val (.int (cs.getD (i) 0)), .unset] []))
      have hi3 : ¬ i + 1 < cs.length := fun q => h48 ((own_oflt (by omega) (by omega)).mpr q)
      refine own_Go.st (fun _ k => XS.iload X301.here hx rfl (hb hby d_jdk_52_method_7_83) rfl k) ?_
      show own_Go _ _ _ _ (T301.setTop (mkF m 85 #[.val (.ref a1), .val (.int (Int32.ofNat (i + 1))), .val (.int (Int32.ofNat cs.length)), .val (.int (0 : Int32)), .val (.int (cs.getD (i) 0)), .unset] [(.int (cs.getD (i) 0))]))
      obtain ⟨fs309, hr309, hrun309, hend309, hW309, hsm309⟩ := X301.leave (v := some (.int (cs.getD (i) 0))) (fun h => by rw [Bd.returns] at h; cases h)
      subst hPP
      refine ⟨_, _, own_retI X301 hx Bd.returns (hb hby d_jdk_52_method_7_85) hr309, hrun309, hend309, _, _, rfl, ?_, ⟨_, rfl⟩, hW309, hsm309.mono (by decide) (by decide)⟩
      · show Q_cpa4 Z _ _ _ _ _ _ _ _ _ h0 _ T301.heap _
        rw [K301]
        exact ⟨(by unfold own_cpAt; rw [if_neg (fun q => hi3 q.2.1)]), N301, rfl⟩
theorem d_jdk_52_method_8_0 : decode jdk_52_method_8_code 0 = .ok (.aload_n 0, 1) := by decide +kernel
theorem d_jdk_52_method_8_1 : decode jdk_52_method_8_code 1 = .ok (.iload_n 1, 1) := by decide +kernel
theorem d_jdk_52_method_8_2 : decode jdk_52_method_8_code 2 = .ok (.iload_n 2, 1) := by decide +kernel
theorem d_jdk_52_method_8_3 : decode jdk_52_method_8_code 3 = .ok (.iconst 0, 1) := by decide +kernel
theorem pd_395 : parseMethodDescriptor "([BIIZ)I" = some ⟨[(.array .byte), .int, .int, .boolean], some .int⟩ := by decide +kernel
theorem d_jdk_52_method_8_4 : decode jdk_52_method_8_code 4 = .ok (.invokestatic 88, 3) := by decide +kernel
theorem d_jdk_52_method_8_7 : decode jdk_52_method_8_code 7 = .ok (.ireturn, 1) := by decide +kernel
def Q_cpa3 (Z : State) (a1 : Nat) (pi : Int32) (nn : Int32) (i : Nat) (cs : List Int32) (k : ClassId) (n2 : Int32) (vs : List Value) (d : Value) (h0 : Heap) (v : Option Value) (h : Heap) (L : List Loc) : Prop := v = some (.int (own_cpAt cs i)) ∧ Fr Z.heap.size L ∧ h = h0
set_option maxRecDepth 65536 in
set_option maxHeartbeats 40000000 in
theorem rm_cpa3 (l : Launch) (Z : State) (a0 : Array Value) (hw : ∀ d ∈ tables_1, d.before a0 Z = true) (ws : List Jvm.Cond) (a1 : Nat) (pi : Int32) (nn : Int32) (i : Nat) (cs : List Int32) (k : ClassId) (n2 : Int32) (vs : List Value) (d : Value) (h0 : Heap) (OL : Old Z Z.heap.size h0) (p0_ : Arv Z h0 a1 k .byte n2 vs d) (st__assertionsDisabled : Sta Z Z.heap "java/lang/StringUTF16" "$assertionsDisabled" "Z" (.int (1 : Int32))) (st_HI_BYTE_SHIFT : Sta Z Z.heap "java/lang/StringUTF16" "HI_BYTE_SHIFT" "I" (.int (0 : Int32))) (st_LO_BYTE_SHIFT : Sta Z Z.heap "java/lang/StringUTF16" "LO_BYTE_SHIFT" "I" (.int (8 : Int32))) (hn2 : n2 = Int32.ofNat (2 * cs.length)) (hvs : vs = StrChars.Road.wideBytes cs) (hd : d = .int 0) (hle : cs.length ≤ 4000) (hrng : ∀ c ∈ cs, ¬ c < 0 ∧ ¬ (65535 : Int32) < c) (hnn : nn = (Int32.ofNat cs.length)) (hpi : pi = Int32.ofNat i) (hi : i < cs.length) :
    MetFree l (⟨"java/lang/StringUTF16", "codePointAt", "([BII)I"⟩ : MethodName) (head1 (Jvm.Cond.code (⟨"java/lang/StringUTF16", "codePointAt", "([BII)I"⟩ : MethodName) jdk_52_method_8_code 3 (some .int) :: ws) ({ frames := 2, cells := 0, slots := 0, locals := 37 } : Room)) (fun a U => a = #[(.ref a1), (.int pi), (.int nn)] ∧ Z.Warmed39 U.vm ∧ U.heap = h0) (fun _ _ _ _ _ => True) (fun _ U o U' => ∃ v L, o = .returned v ∧ Q_cpa3 Z a1 pi nn i cs k n2 vs d h0 v U'.heap L ∧ FrameEnd U o U' L ({ frames := 2, cells := 0, slots := 0, locals := 37 } : Room).cells ({ frames := 2, cells := 0, slots := 0, locals := 37 } : Room).slots) := by
  refine MetFree.of_bodySF (plainFor_of_name pn_25) hisR ?_
  intro p e s m args below meth c s₁ Bd hml0 hP hK
  obtain ⟨rfl, hZ, hh⟩ := hP
  have hx := Bd.exec
  have hby := Bd.bytes
  have hml : c.maxLocals = 3 := hml0
  have hown : s.vm.findClass "java/lang/StringUTF16" = some m.cls := findClass_of_methodNamed Bd.named
  have hnm := (name_of_methodNamed Bd.named Bd.method).1
  have X0 : Stand p l e ({ frames := 2, cells := 0, slots := 0, locals := 37 } : Room) s m #[(.ref a1), (.int pi), (.int nn)] below meth c s₁ [] 0 0 := Stand.of_body Bd
  have e0 : s₁.heap = h0 := by rw [← hh, Bd.state]; rfl
  have N0 := Fr.nil Z.heap.size
  have Z0 : Z.heap.size ≤ h0.size := OL.2.1
  have lt_0 : @LT.lt Nat _ a1 h0.size := p0_.lt
  obtain ⟨PP, hPP⟩ : ∃ PP : Outcome → State → Prop, PP = (fun o tE => ∃ v L, o = .returned v ∧ Q_cpa3 Z a1 pi nn i cs k n2 vs d h0 v tE.heap L ∧ FrameEnd s o tE L ({ frames := 2, cells := 0, slots := 0, locals := 37 } : Room).cells ({ frames := 2, cells := 0, slots := 0, locals := 37 } : Room).slots) := ⟨_, rfl⟩
  show own_Go p.tables e below (fun o tE => ∃ v L, o = .returned v ∧ Q_cpa3 Z a1 pi nn i cs k n2 vs d h0 v tE.heap L ∧ FrameEnd s o tE L ({ frames := 2, cells := 0, slots := 0, locals := 37 } : Room).cells ({ frames := 2, cells := 0, slots := 0, locals := 37 } : Room).slots) (s₁.setTop (entryFrame m #[(.ref a1), (.int pi), (.int nn)] 3))
  rw [← hPP]
  refine own_Go.st (fun t k => castTop (ef_50 m a1 pi nn) k) ?_
  show own_Go _ _ _ _ (s₁.setTop (mkF m 0 #[.val (.ref a1), .val (.int pi), .val (.int nn)] []))
  refine own_Go.st (fun _ k => XS.aloadN X0.here hx rfl (hb hby d_jdk_52_method_8_0) rfl rfl k) ?_
  show own_Go _ _ _ _ (s₁.setTop (mkF m 1 #[.val (.ref a1), .val (.int pi), .val (.int nn)] [(.ref a1)]))
  refine own_Go.st (fun _ k => XS.iloadN X0.here hx rfl (hb hby d_jdk_52_method_8_1) rfl k) ?_
  show own_Go _ _ _ _ (s₁.setTop (mkF m 2 #[.val (.ref a1), .val (.int pi), .val (.int nn)] [(.int pi), (.ref a1)]))
  refine own_Go.st (fun _ k => XS.iloadN X0.here hx rfl (hb hby d_jdk_52_method_8_2) rfl k) ?_
  show own_Go _ _ _ _ (s₁.setTop (mkF m 3 #[.val (.ref a1), .val (.int pi), .val (.int nn)] [(.int nn), (.int pi), (.ref a1)]))
  refine own_Go.st (fun _ k => XS.iconst X0.here hx rfl (hb hby d_jdk_52_method_8_3) k) ?_
  show own_Go _ _ _ _ (s₁.setTop (mkF m 4 #[.val (.ref a1), .val (.int pi), .val (.int nn)] [(.int (0 : Int32)), (.int nn), (.int pi), (.ref a1)]))
  obtain ⟨_, _, ⟨T310, L310, k310, n310⟩, -, X310, ⟨Lc310, hQ310, l310, y310, z310⟩, st310⟩ := Jvm.LawKit.callS X0 hx (y := (⟨"java/lang/StringUTF16", "codePointAt", "([BIIZ)I"⟩ : MethodName)) hown (mvT hZ (hw _ (List.mem_of_getElem? (i := 116) rfl))) (mvT hZ (hw _ (List.mem_of_getElem? (i := 117) rfl))) (mvT hZ (hw _ (List.mem_of_getElem? (i := 61) rfl))) (mvT hZ (hw _ (List.mem_of_getElem? (i := 118) rfl))) (by decide) (backOf (W := 0) (rm_cpa4 l Z a0 hw [] a1 pi nn i cs k n2 vs d h0 OL p0_ st__assertionsDisabled st_HI_BYTE_SHIFT st_LO_BYTE_SHIFT (by first | assumption | decide) (by first | assumption | decide) (by first | assumption | decide) (by first | assumption | decide) (by first | assumption | decide) (by first | assumption | decide) (by first | assumption | decide) (by first | assumption | decide)) hZ (hw _ (List.mem_of_getElem? (i := 118) rfl)) (hw _ (List.mem_of_getElem? (i := 61) rfl)) (by decide) (by decide)) (g := (mkF m 4 #[.val (.ref a1), .val (.int pi), .val (.int nn)] [(.int (0 : Int32)), (.int nn), (.int pi), (.ref a1)])) rfl (by rw [hml]; rfl) (argsL := [(.ref a1), (.int pi), (.int nn), (.int (0 : Int32))]) (rest := []) (lenOf pd_395 rfl) rfl (by show 2 * 0 + _ ≤ _; exact Nat.le_of_eq rfl) (hb hby d_jdk_52_method_8_4) (fun _ _ => ⟨rfl, e0, (by decide : 0 + 0 ≤ _), (by decide : 0 + 0 ≤ _)⟩)
  dsimp only [Pt.U, Pt.locs, Pt.cells, Pt.slots] at X310 l310 y310 z310 st310 hQ310
  subst l310 y310 z310
  obtain ⟨rfl, N310q, K310⟩ := hQ310
  have N310 := Fr.app N0 N310q
  refine own_Go.st st310 ?_
  show own_Go _ _ _ _ (T310.setTop (mkF m 7 #[.val (.ref a1), .val (.int pi), .val (.int nn)] [(.int (own_cpAt cs i))]))
  obtain ⟨fs311, hr311, hrun311, hend311, hW311, hsm311⟩ := X310.leave (v := some (.int (own_cpAt cs i))) (fun h => by rw [Bd.returns] at h; cases h)
  subst hPP
  refine ⟨_, _, own_retI X310 hx Bd.returns (hb hby d_jdk_52_method_8_7) hr311, hrun311, hend311, _, _, rfl, ?_, ⟨_, rfl⟩, hW311, hsm311.mono (by decide) (by decide)⟩
  · show Q_cpa3 Z _ _ _ _ _ _ _ _ _ h0 _ T310.heap _
    rw [K310]
    exact ⟨rfl, N310, rfl⟩

theorem own_latAt {cs : List Int32} {i : Nat} (hi : i < cs.length) (hl : ∀ c ∈ cs, ¬ (255 : Int32) < c) (hr : ∀ c ∈ cs, ¬ c < 0 ∧ ¬ (65535 : Int32) < c) : StrChars.lo8 (cs.getD i 0) &&& (255 : Int32) = own_cpAt cs i := by
  have e : cs.getD i 0 = cs[i] := by simp [List.getD_eq_getElem?_getD, hi]
  have m : cs.getD i 0 ∈ cs := by rw [e]; exact List.getElem_mem _
  rw [StrChars.lo8_mask (hr _ m).1 (hl _ m)]
  unfold own_cpAt
  rw [if_neg]
  intro q
  have q1 := own_hiI.mp q.1
  have q2 := hl _ m
  rw [Int32.lt_iff_toInt_lt, (by decide : (255 : Int32).toInt = 255)] at q2
  omega
theorem own_lowD {cs : List Int32} {i : Nat} (hi : i < cs.length) (hl : cs.length ≤ 4000) (d : Value) : (cs.map fun c => Value.int (StrChars.lo8 c)).getD (Int32.ofNat i).toNatClampNeg d = .int (StrChars.lo8 (cs.getD i 0)) := by
  rw [own_ofn (by omega)]
  simp [List.getD_eq_getElem?_getD, hi]

theorem ef_398 (m : MethodId) (x0 : Nat) (x1 : Int32) : entryFrame m #[(.ref x0), (.int x1)] 3 = mkF m 0 #[.val (.ref x0), .val (.int x1), .unset] [] := by first | (simp [entryFrame, mkF, argsToLocals, Value.category]; done) | rfl
theorem d_jdk_42_method_57_0 : decode jdk_42_method_57_code 0 = .ok (.aload_n 0, 1) := by decide +kernel
theorem pd_400 : parseMethodDescriptor "()Z" = some ⟨[], some .boolean⟩ := by decide +kernel
theorem d_jdk_42_method_57_1 : decode jdk_42_method_57_code 1 = .ok (.invokevirtual 492, 3) := by decide +kernel
theorem d_jdk_42_method_57_4 : decode jdk_42_method_57_code 4 = .ok (.ifCond .eq 23, 3) := by decide +kernel
theorem d_jdk_42_method_57_7 : decode jdk_42_method_57_code 7 = .ok (.iload_n 1, 1) := by decide +kernel
theorem d_jdk_42_method_57_8 : decode jdk_42_method_57_code 8 = .ok (.aload_n 0, 1) := by decide +kernel
theorem d_jdk_42_method_57_9 : decode jdk_42_method_57_code 9 = .ok (.getfield 9, 3) := by decide +kernel
theorem d_jdk_42_method_57_12 : decode jdk_42_method_57_code 12 = .ok (.arraylength, 1) := by decide +kernel
theorem pd_407 : parseMethodDescriptor "(II)V" = some ⟨[.int, .int], none⟩ := by decide +kernel
theorem d_jdk_42_method_57_13 : decode jdk_42_method_57_code 13 = .ok (.invokestatic 499, 3) := by decide +kernel
theorem d_jdk_42_method_57_16 : decode jdk_42_method_57_code 16 = .ok (.aload_n 0, 1) := by decide +kernel
theorem d_jdk_42_method_57_17 : decode jdk_42_method_57_code 17 = .ok (.getfield 9, 3) := by decide +kernel
theorem d_jdk_42_method_57_20 : decode jdk_42_method_57_code 20 = .ok (.iload_n 1, 1) := by decide +kernel
theorem d_jdk_42_method_57_21 : decode jdk_42_method_57_code 21 = .ok (.baload, 1) := by decide +kernel
theorem d_jdk_42_method_57_22 : decode jdk_42_method_57_code 22 = .ok (.sipush 255, 3) := by decide +kernel
theorem d_jdk_42_method_57_25 : decode jdk_42_method_57_code 25 = .ok (.iand, 1) := by decide +kernel
theorem d_jdk_42_method_57_26 : decode jdk_42_method_57_code 26 = .ok (.ireturn, 1) := by decide +kernel
theorem d_jdk_42_method_57_27 : decode jdk_42_method_57_code 27 = .ok (.aload_n 0, 1) := by decide +kernel
theorem d_jdk_42_method_57_28 : decode jdk_42_method_57_code 28 = .ok (.getfield 9, 3) := by decide +kernel
theorem d_jdk_42_method_57_31 : decode jdk_42_method_57_code 31 = .ok (.arraylength, 1) := by decide +kernel
theorem d_jdk_42_method_57_32 : decode jdk_42_method_57_code 32 = .ok (.iconst 1, 1) := by decide +kernel
theorem d_jdk_42_method_57_33 : decode jdk_42_method_57_code 33 = .ok (.ishr, 1) := by decide +kernel
theorem d_jdk_42_method_57_34 : decode jdk_42_method_57_code 34 = .ok (.istore_n 2, 1) := by decide +kernel
theorem d_jdk_42_method_57_35 : decode jdk_42_method_57_code 35 = .ok (.iload_n 1, 1) := by decide +kernel
theorem d_jdk_42_method_57_36 : decode jdk_42_method_57_code 36 = .ok (.iload_n 2, 1) := by decide +kernel
theorem d_jdk_42_method_57_37 : decode jdk_42_method_57_code 37 = .ok (.invokestatic 499, 3) := by decide +kernel
theorem d_jdk_42_method_57_40 : decode jdk_42_method_57_code 40 = .ok (.aload_n 0, 1) := by decide +kernel
theorem d_jdk_42_method_57_41 : decode jdk_42_method_57_code 41 = .ok (.getfield 9, 3) := by decide +kernel
theorem d_jdk_42_method_57_44 : decode jdk_42_method_57_code 44 = .ok (.iload_n 1, 1) := by decide +kernel
theorem d_jdk_42_method_57_45 : decode jdk_42_method_57_code 45 = .ok (.iload_n 2, 1) := by decide +kernel
theorem pd_429 : parseMethodDescriptor "([BII)I" = some ⟨[(.array .byte), .int, .int], some .int⟩ := by decide +kernel
theorem d_jdk_42_method_57_46 : decode jdk_42_method_57_code 46 = .ok (.invokestatic 502, 3) := by decide +kernel
theorem d_jdk_42_method_57_49 : decode jdk_42_method_57_code 49 = .ok (.ireturn, 1) := by decide +kernel
def Q_cpa (Z : State) (a1 : Nat) (pi : Int32) (i : Nat) (t : Nat) (cs : List Int32) (zc : Int32) (fm : Value) (h0 : Heap) (v : Option Value) (h : Heap) (L : List Loc) : Prop := v = some (.int (own_cpAt cs i)) ∧ Fr Z.heap.size L ∧ h = h0
set_option maxRecDepth 65536 in
set_option maxHeartbeats 40000000 in
theorem rm_cpa (l : Launch) (Z : State) (a0 : Array Value) (hw : ∀ d ∈ tables_1, d.before a0 Z = true) (ws : List Jvm.Cond) (a1 : Nat) (pi : Int32) (i : Nat) (t : Nat) (cs : List Int32) (zc : Int32) (fm : Value) (h0 : Heap) (OL : Old Z Z.heap.size h0) (p0_ : own_Str Z h0 a1 t cs) (st_COMPACT_STRINGS : Sta Z Z.heap "java/lang/String" "COMPACT_STRINGS" "Z" (.int zc)) (st_SIOOBE_FORMATTER : Sta Z Z.heap "jdk/internal/util/Preconditions" "SIOOBE_FORMATTER" "Ljava/util/function/BiFunction;" fm) (st__assertionsDisabled : Sta Z Z.heap "java/lang/StringUTF16" "$assertionsDisabled" "Z" (.int (1 : Int32))) (st_HI_BYTE_SHIFT : Sta Z Z.heap "java/lang/StringUTF16" "HI_BYTE_SHIFT" "I" (.int (0 : Int32))) (st_LO_BYTE_SHIFT : Sta Z Z.heap "java/lang/StringUTF16" "LO_BYTE_SHIFT" "I" (.int (8 : Int32))) (hpi : pi = Int32.ofNat i) (hi : i < cs.length) (hzc : ¬ zc = 0) (hfm : fm.isRef = true) :
    MetFree l (⟨"java/lang/String", "codePointAt", "(I)I"⟩ : MethodName) (head1 (Jvm.Cond.code (⟨"java/lang/String", "codePointAt", "(I)I"⟩ : MethodName) jdk_42_method_57_code 3 (some .int) :: ws) ({ frames := 3, cells := 0, slots := 0, locals := 51 } : Room)) (fun a U => a = #[(.ref a1), (.int pi)] ∧ Z.Warmed39 U.vm ∧ U.heap = h0) (fun _ _ _ _ _ => True) (fun _ U o U' => ∃ v L, o = .returned v ∧ Q_cpa Z a1 pi i t cs zc fm h0 v U'.heap L ∧ FrameEnd U o U' L ({ frames := 3, cells := 0, slots := 0, locals := 51 } : Room).cells ({ frames := 3, cells := 0, slots := 0, locals := 51 } : Room).slots) := by
  refine MetFree.of_bodySF (plainFor_of_name pn_0) hisR ?_
  intro p e s m args below meth c s₁ Bd hml0 hP hK
  obtain ⟨rfl, hZ, hh⟩ := hP
  have hx := Bd.exec
  have hby := Bd.bytes
  have hml : c.maxLocals = 3 := hml0
  have hown : s.vm.findClass "java/lang/String" = some m.cls := findClass_of_methodNamed Bd.named
  have hnm := (name_of_methodNamed Bd.named Bd.method).1
  have X0 : Stand p l e ({ frames := 3, cells := 0, slots := 0, locals := 51 } : Room) s m #[(.ref a1), (.int pi)] below meth c s₁ [] 0 0 := Stand.of_body Bd
  have e0 : s₁.heap = h0 := by rw [← hh, Bd.state]; rfl
  have N0 := Fr.nil Z.heap.size
  have Z0 : Z.heap.size ≤ h0.size := OL.2.1
  have lt_0 : @LT.lt Nat _ a1 h0.size := p0_.lt
  have ltv_0 : @LT.lt Nat _ t h0.size := p0_.ltv
  obtain ⟨PP, hPP⟩ : ∃ PP : Outcome → State → Prop, PP = (fun o tE => ∃ v L, o = .returned v ∧ Q_cpa Z a1 pi i t cs zc fm h0 v tE.heap L ∧ FrameEnd s o tE L ({ frames := 3, cells := 0, slots := 0, locals := 51 } : Room).cells ({ frames := 3, cells := 0, slots := 0, locals := 51 } : Room).slots) := ⟨_, rfl⟩
  show own_Go p.tables e below (fun o tE => ∃ v L, o = .returned v ∧ Q_cpa Z a1 pi i t cs zc fm h0 v tE.heap L ∧ FrameEnd s o tE L ({ frames := 3, cells := 0, slots := 0, locals := 51 } : Room).cells ({ frames := 3, cells := 0, slots := 0, locals := 51 } : Room).slots) (s₁.setTop (entryFrame m #[(.ref a1), (.int pi)] 3))
  rw [← hPP]
  refine own_Go.st (fun t k => castTop (ef_398 m a1 pi) k) ?_
  subst hpi
  have hle := p0_.le
  obtain ⟨kb312, cd312, N2312, vs312, s1312, s2312, s3312, s4312, s5312, s6312, s7312⟩ := id p0_
  rcases s5312 with ⟨rfl, hN312, hv312, hl312⟩ | ⟨rfl, hN312, hv312, hl312⟩
  ·
    subst hN312 hv312
    show own_Go _ _ _ _ (s₁.setTop (mkF m 0 #[.val (.ref a1), .val (.int (Int32.ofNat i)), .unset] []))
    refine own_Go.st (fun _ k => XS.aloadN X0.here hx rfl (hb hby d_jdk_42_method_57_0) rfl rfl k) ?_
    show own_Go _ _ _ _ (s₁.setTop (mkF m 1 #[.val (.ref a1), .val (.int (Int32.ofNat i)), .unset] [(.ref a1)]))
    obtain ⟨cq313, kq313, q313a, q313b, q313c⟩ := isOf hZ e0 s1312
    obtain ⟨_, _, ⟨T313, L313, k313, n313⟩, -, X313, ⟨Lc313, hQ313, l313, y313, z313⟩, st313⟩ := X0.virtualBack hx (y := (⟨"java/lang/String", "isLatin1", "()Z"⟩ : MethodName)) (z := (⟨"java/lang/String", "isLatin1", "()Z"⟩ : MethodName)) hown (mvT hZ (hw _ (List.mem_of_getElem? (i := 100) rfl))) (mvT hZ (hw _ (List.mem_of_getElem? (i := 101) rfl))) (notFace_of_selects (args := #[]) (mvT hZ (hw _ (List.mem_of_getElem? (i := 103) rfl)))) (mvT hZ (hw _ (List.mem_of_getElem? (i := 103) rfl))) (mvT hZ (hw _ (List.mem_of_getElem? (i := 102) rfl))) (by decide) (backOf (W := 0) (rm_isl1 l Z a0 hw [] a1 (0 : Int32) zc h0 OL s3312 st_COMPACT_STRINGS (by first | assumption | decide)) hZ (hw _ (List.mem_of_getElem? (i := 104) rfl)) (hw _ (List.mem_of_getElem? (i := 14) rfl)) (by decide) (by decide)) q313a q313c (g := (mkF m 1 #[.val (.ref a1), .val (.int (Int32.ofNat i)), .unset] [(.ref a1)])) rfl (by rw [hml]; rfl) (Steps.refl _) (argsL := []) (rest := []) (lenOf pd_400 rfl) rfl (by show 2 * 0 + _ ≤ _; exact Nat.le_of_eq rfl) (hb hby d_jdk_42_method_57_1) (fun _ _ => ⟨rfl, e0, (by decide : 0 + 0 ≤ _), (by decide : 0 + 0 ≤ _)⟩)
    dsimp only [Pt.U, Pt.locs, Pt.cells, Pt.slots] at X313 l313 y313 z313 st313 hQ313
    subst l313 y313 z313
    obtain ⟨rfl, N313q, K313⟩ := hQ313
    have N313 := Fr.app N0 N313q
    refine own_Go.tr st313 ?_
    show own_Go _ _ _ _ (T313.setTop (mkF m 4 #[.val (.ref a1), .val (.int (Int32.ofNat i)), .unset] [(.int (if (0 : Int32) = 0 then (1 : Int32) else 0))]))
    have hc314 : ¬ ((if (0 : Int32) = 0 then (1 : Int32) else 0) = (0 : Int32)) := by decide
    refine own_Go.st (fun _ k => XS.ifNo X313.here hx rfl (hb hby d_jdk_42_method_57_4) rfl ((if0 _ _).trans (feq hc314).1) k) ?_
    show own_Go _ _ _ _ (T313.setTop (mkF m 7 #[.val (.ref a1), .val (.int (Int32.ofNat i)), .unset] []))
    refine own_Go.st (fun _ k => XS.iloadN X313.here hx rfl (hb hby d_jdk_42_method_57_7) rfl k) ?_
    show own_Go _ _ _ _ (T313.setTop (mkF m 8 #[.val (.ref a1), .val (.int (Int32.ofNat i)), .unset] [(.int (Int32.ofNat i))]))
    refine own_Go.st (fun _ k => XS.aloadN X313.here hx rfl (hb hby d_jdk_42_method_57_8) rfl rfl k) ?_
    show own_Go _ _ _ _ (T313.setTop (mkF m 9 #[.val (.ref a1), .val (.int (Int32.ofNat i)), .unset] [(.ref a1), (.int (Int32.ofNat i))]))
    obtain ⟨T315, X315, e315, st315⟩ := getF X313 hx hZ hown (host := "") (Or.inl (hw _ (List.mem_of_getElem? (i := 32) rfl))) Via.refl K313 s2312 (g := (mkF m 9 #[.val (.ref a1), .val (.int (Int32.ofNat i)), .unset] [(.ref a1), (.int (Int32.ofNat i))])) rfl rfl (hb hby d_jdk_42_method_57_9)
    refine own_Go.st st315 ?_
    show own_Go _ _ _ _ (T315.setTop (mkF m 12 #[.val (.ref a1), .val (.int (Int32.ofNat i)), .unset] [(.ref t), (.int (Int32.ofNat i))]))
    obtain ⟨c316, Ar316, q316, S316, Nn316, H316, G316⟩ := id s4312
    refine own_Go.st (X315.arraylength hx (by rw [e315]; exact Ar316.1) (State.isArrayOf_alike hZ.alike Ar316.2.1) (g := (mkF m 12 #[.val (.ref a1), .val (.int (Int32.ofNat i)), .unset] [(.ref t), (.int (Int32.ofNat i))])) rfl rfl (hb hby d_jdk_42_method_57_12)) ?_
    rw [len_of S316 Nn316]
    show own_Go _ _ _ _ (T315.setTop (mkF m 13 #[.val (.ref a1), .val (.int (Int32.ofNat i)), .unset] [(.int (Int32.ofNat cs.length)), (.int (Int32.ofNat i))]))
    obtain ⟨_, _, ⟨T317, L317, k317, n317⟩, -, X317, ⟨Lc317, hQ317, l317, y317, z317⟩, st317⟩ := Jvm.LawKit.callS X315 hx (y := (⟨"java/lang/String", "checkIndex", "(II)V"⟩ : MethodName)) hown (mvT hZ (hw _ (List.mem_of_getElem? (i := 105) rfl))) (mvT hZ (hw _ (List.mem_of_getElem? (i := 106) rfl))) (mvT hZ (hw _ (List.mem_of_getElem? (i := 14) rfl))) (mvT hZ (hw _ (List.mem_of_getElem? (i := 107) rfl))) (by decide) (backOf (W := 0) (rm_sci l Z a0 hw [] (Int32.ofNat i) (Int32.ofNat cs.length) fm h0 OL st_SIOOBE_FORMATTER (own_of0 (by omega)) ((own_oflt (by omega) (by omega)).mpr hi) (by first | assumption | decide)) hZ (hw _ (List.mem_of_getElem? (i := 107) rfl)) (hw _ (List.mem_of_getElem? (i := 14) rfl)) (by decide) (by decide)) (g := (mkF m 13 #[.val (.ref a1), .val (.int (Int32.ofNat i)), .unset] [(.int (Int32.ofNat cs.length)), (.int (Int32.ofNat i))])) rfl (by rw [hml]; rfl) (argsL := [(.int (Int32.ofNat i)), (.int (Int32.ofNat cs.length))]) (rest := []) (lenOf pd_407 rfl) rfl (by show 2 * 0 + _ ≤ _; exact Nat.le_of_eq rfl) (hb hby d_jdk_42_method_57_13) (fun _ _ => ⟨rfl, e315, (by decide : 0 + 0 ≤ _), (by decide : 0 + 0 ≤ _)⟩)
    dsimp only [Pt.U, Pt.locs, Pt.cells, Pt.slots] at X317 l317 y317 z317 st317 hQ317
    subst l317 y317 z317
    obtain ⟨rfl, N317q, K317⟩ := hQ317
    have N317 := Fr.app N313 N317q
    refine own_Go.st st317 ?_
    show own_Go _ _ _ _ (T317.setTop (mkF m 16 #[.val (.ref a1), .val (.int (Int32.ofNat i)), .unset] []))
    refine own_Go.st (fun _ k => XS.aloadN X317.here hx rfl (hb hby d_jdk_42_method_57_16) rfl rfl k) ?_
    show own_Go _ _ _ _ (T317.setTop (mkF m 17 #[.val (.ref a1), .val (.int (Int32.ofNat i)), .unset] [(.ref a1)]))
    obtain ⟨T318, X318, e318, st318⟩ := getF X317 hx hZ hown (host := "") (Or.inl (hw _ (List.mem_of_getElem? (i := 32) rfl))) Via.refl K317 s2312 (g := (mkF m 17 #[.val (.ref a1), .val (.int (Int32.ofNat i)), .unset] [(.ref a1)])) rfl rfl (hb hby d_jdk_42_method_57_17)
    refine own_Go.st st318 ?_
    show own_Go _ _ _ _ (T318.setTop (mkF m 20 #[.val (.ref a1), .val (.int (Int32.ofNat i)), .unset] [(.ref t)]))
    refine own_Go.st (fun _ k => XS.iloadN X318.here hx rfl (hb hby d_jdk_42_method_57_20) rfl k) ?_
    show own_Go _ _ _ _ (T318.setTop (mkF m 21 #[.val (.ref a1), .val (.int (Int32.ofNat i)), .unset] [(.int (Int32.ofNat i)), (.ref t)]))
    obtain ⟨c319, Ar319, q319, S319, Nn319, H319, G319⟩ := id s4312
    have hin319 : ¬ ((Int32.ofNat i) < 0 ∨ c319.slots.size ≤ ((Int32.ofNat i)).toNatClampNeg) := inb_of S319 ⟨own_of0 (by omega), ((own_oflt (by omega) (by omega)).mpr hi)⟩
    have hat319 : c319.slots[((Int32.ofNat i)).toNatClampNeg]? = some (.int (StrChars.lo8 (cs.getD i 0))) := H319.at hin319 (own_lowD hi hle _)
    refine own_Go.st (X318.baloadBytes hx (j := (Int32.ofNat i)) (v := (.int (StrChars.lo8 (cs.getD i 0)))) (by rw [e318]; exact Ar319.1) (State.isArrayOf_alike hZ.alike Ar319.2.1) Ar319.2.2 hin319 hat319 (g := (mkF m 21 #[.val (.ref a1), .val (.int (Int32.ofNat i)), .unset] [(.int (Int32.ofNat i)), (.ref t)])) rfl rfl (hb hby d_jdk_42_method_57_21)) ?_
    show own_Go _ _ _ _ (T318.setTop (mkF m 22 #[.val (.ref a1), .val (.int (Int32.ofNat i)), .unset] [(.int (StrChars.lo8 (cs.getD i 0)))]))
    refine own_Go.st (fun _ k => XS.sipush X318.here hx rfl (hb hby d_jdk_42_method_57_22) k) ?_
    show own_Go _ _ _ _ (T318.setTop (mkF m 25 #[.val (.ref a1), .val (.int (Int32.ofNat i)), .unset] [(.int (255 : Int32)), (.int (StrChars.lo8 (cs.getD i 0)))]))
    refine own_Go.st (fun _ k => XS.iand X318.here hx rfl (hb hby d_jdk_42_method_57_25) rfl k) ?_
    show own_Go _ _ _ _ (T318.setTop (mkF m 26 #[.val (.ref a1), .val (.int (Int32.ofNat i)), .unset] [(.int ((StrChars.lo8 (cs.getD i 0)) &&& (255 : Int32)))]))
    obtain ⟨fs320, hr320, hrun320, hend320, hW320, hsm320⟩ := X318.leave (v := some (.int ((StrChars.lo8 (cs.getD i 0)) &&& (255 : Int32)))) (fun h => by rw [Bd.returns] at h; cases h)
    subst hPP
    refine ⟨_, _, own_retI X318 hx Bd.returns (hb hby d_jdk_42_method_57_26) hr320, hrun320, hend320, _, _, rfl, ?_, ⟨_, rfl⟩, hW320, hsm320.mono (by decide) (by decide)⟩
    · show Q_cpa Z _ _ _ _ _ _ _ h0 _ T318.heap _
      rw [e318]
      exact ⟨(by rw [own_latAt hi hl312 p0_.rng]), N317, rfl⟩
  ·
    subst hN312 hv312
    show own_Go _ _ _ _ (s₁.setTop (mkF m 0 #[.val (.ref a1), .val (.int (Int32.ofNat i)), .unset] []))
    refine own_Go.st (fun _ k => XS.aloadN X0.here hx rfl (hb hby d_jdk_42_method_57_0) rfl rfl k) ?_
    show own_Go _ _ _ _ (s₁.setTop (mkF m 1 #[.val (.ref a1), .val (.int (Int32.ofNat i)), .unset] [(.ref a1)]))
    obtain ⟨cq321, kq321, q321a, q321b, q321c⟩ := isOf hZ e0 s1312
    obtain ⟨_, _, ⟨T321, L321, k321, n321⟩, -, X321, ⟨Lc321, hQ321, l321, y321, z321⟩, st321⟩ := X0.virtualBack hx (y := (⟨"java/lang/String", "isLatin1", "()Z"⟩ : MethodName)) (z := (⟨"java/lang/String", "isLatin1", "()Z"⟩ : MethodName)) hown (mvT hZ (hw _ (List.mem_of_getElem? (i := 100) rfl))) (mvT hZ (hw _ (List.mem_of_getElem? (i := 101) rfl))) (notFace_of_selects (args := #[]) (mvT hZ (hw _ (List.mem_of_getElem? (i := 103) rfl)))) (mvT hZ (hw _ (List.mem_of_getElem? (i := 103) rfl))) (mvT hZ (hw _ (List.mem_of_getElem? (i := 102) rfl))) (by decide) (backOf (W := 0) (rm_isl1 l Z a0 hw [] a1 (1 : Int32) zc h0 OL s3312 st_COMPACT_STRINGS (by first | assumption | decide)) hZ (hw _ (List.mem_of_getElem? (i := 104) rfl)) (hw _ (List.mem_of_getElem? (i := 14) rfl)) (by decide) (by decide)) q321a q321c (g := (mkF m 1 #[.val (.ref a1), .val (.int (Int32.ofNat i)), .unset] [(.ref a1)])) rfl (by rw [hml]; rfl) (Steps.refl _) (argsL := []) (rest := []) (lenOf pd_400 rfl) rfl (by show 2 * 0 + _ ≤ _; exact Nat.le_of_eq rfl) (hb hby d_jdk_42_method_57_1) (fun _ _ => ⟨rfl, e0, (by decide : 0 + 0 ≤ _), (by decide : 0 + 0 ≤ _)⟩)
    dsimp only [Pt.U, Pt.locs, Pt.cells, Pt.slots] at X321 l321 y321 z321 st321 hQ321
    subst l321 y321 z321
    obtain ⟨rfl, N321q, K321⟩ := hQ321
    have N321 := Fr.app N0 N321q
    refine own_Go.tr st321 ?_
    show own_Go _ _ _ _ (T321.setTop (mkF m 4 #[.val (.ref a1), .val (.int (Int32.ofNat i)), .unset] [(.int (if (1 : Int32) = 0 then (1 : Int32) else 0))]))
    have hc322 : (if (1 : Int32) = 0 then (1 : Int32) else 0) = (0 : Int32) := by decide
    refine own_Go.st (fun _ k => XS.ifYes X321.here hx rfl (pc0 := 4) (pc' := 27) rfl (hb hby d_jdk_42_method_57_4) rfl ((if0 _ _).trans (teq hc322).1) (by decide) (by decide) k) ?_
    show own_Go _ _ _ _ (T321.setTop (mkF m 27 #[.val (.ref a1), .val (.int (Int32.ofNat i)), .unset] []))
    refine own_Go.st (fun _ k => XS.aloadN X321.here hx rfl (hb hby d_jdk_42_method_57_27) rfl rfl k) ?_
    show own_Go _ _ _ _ (T321.setTop (mkF m 28 #[.val (.ref a1), .val (.int (Int32.ofNat i)), .unset] [(.ref a1)]))
    obtain ⟨T323, X323, e323, st323⟩ := getF X321 hx hZ hown (host := "") (Or.inl (hw _ (List.mem_of_getElem? (i := 32) rfl))) Via.refl K321 s2312 (g := (mkF m 28 #[.val (.ref a1), .val (.int (Int32.ofNat i)), .unset] [(.ref a1)])) rfl rfl (hb hby d_jdk_42_method_57_28)
    refine own_Go.st st323 ?_
    show own_Go _ _ _ _ (T323.setTop (mkF m 31 #[.val (.ref a1), .val (.int (Int32.ofNat i)), .unset] [(.ref t)]))
    obtain ⟨c324, Ar324, q324, S324, Nn324, H324, G324⟩ := id s4312
    refine own_Go.st (X323.arraylength hx (by rw [e323]; exact Ar324.1) (State.isArrayOf_alike hZ.alike Ar324.2.1) (g := (mkF m 31 #[.val (.ref a1), .val (.int (Int32.ofNat i)), .unset] [(.ref t)])) rfl rfl (hb hby d_jdk_42_method_57_31)) ?_
    rw [len_of S324 Nn324]
    show own_Go _ _ _ _ (T323.setTop (mkF m 32 #[.val (.ref a1), .val (.int (Int32.ofNat i)), .unset] [(.int (Int32.ofNat (2 * cs.length)))]))
    refine own_Go.st (fun _ k => XS.iconst X323.here hx rfl (hb hby d_jdk_42_method_57_32) k) ?_
    show own_Go _ _ _ _ (T323.setTop (mkF m 33 #[.val (.ref a1), .val (.int (Int32.ofNat i)), .unset] [(.int (1 : Int32)), (.int (Int32.ofNat (2 * cs.length)))]))
    refine own_Go.st (fun _ k => XS.ishr X323.here hx rfl (hb hby d_jdk_42_method_57_33) rfl k) ?_
    show own_Go _ _ _ _ (T323.setTop (mkF m 34 #[.val (.ref a1), .val (.int (Int32.ofNat i)), .unset] [(.int ((Int32.ofNat (2 * cs.length)) >>> ((1 : Int32) &&& 31)))]))
    rw [StrChars.shr1 (by omega)]
    show own_Go _ _ _ _ (T323.setTop (mkF m 34 #[.val (.ref a1), .val (.int (Int32.ofNat i)), .unset] [(.int (Int32.ofNat cs.length))]))
    refine own_Go.st (fun _ k => XS.istoreN X323.here hx rfl (hb hby d_jdk_42_method_57_34) rfl (l' := #[.val (.ref a1), .val (.int (Int32.ofNat i)), .val (.int (Int32.ofNat cs.length))]) rfl k) ?_
    show own_Go _ _ _ _ (T323.setTop (mkF m 35 #[.val (.ref a1), .val (.int (Int32.ofNat i)), .val (.int (Int32.ofNat cs.length))] []))
    refine own_Go.st (fun _ k => XS.iloadN X323.here hx rfl (hb hby d_jdk_42_method_57_35) rfl k) ?_
    show own_Go _ _ _ _ (T323.setTop (mkF m 36 #[.val (.ref a1), .val (.int (Int32.ofNat i)), .val (.int (Int32.ofNat cs.length))] [(.int (Int32.ofNat i))]))
    refine own_Go.st (fun _ k => XS.iloadN X323.here hx rfl (hb hby d_jdk_42_method_57_36) rfl k) ?_
    show own_Go _ _ _ _ (T323.setTop (mkF m 37 #[.val (.ref a1), .val (.int (Int32.ofNat i)), .val (.int (Int32.ofNat cs.length))] [(.int (Int32.ofNat cs.length)), (.int (Int32.ofNat i))]))
    obtain ⟨_, _, ⟨T325, L325, k325, n325⟩, -, X325, ⟨Lc325, hQ325, l325, y325, z325⟩, st325⟩ := Jvm.LawKit.callS X323 hx (y := (⟨"java/lang/String", "checkIndex", "(II)V"⟩ : MethodName)) hown (mvT hZ (hw _ (List.mem_of_getElem? (i := 105) rfl))) (mvT hZ (hw _ (List.mem_of_getElem? (i := 106) rfl))) (mvT hZ (hw _ (List.mem_of_getElem? (i := 14) rfl))) (mvT hZ (hw _ (List.mem_of_getElem? (i := 107) rfl))) (by decide) (backOf (W := 0) (rm_sci l Z a0 hw [] (Int32.ofNat i) (Int32.ofNat cs.length) fm h0 OL st_SIOOBE_FORMATTER (own_of0 (by omega)) ((own_oflt (by omega) (by omega)).mpr hi) (by first | assumption | decide)) hZ (hw _ (List.mem_of_getElem? (i := 107) rfl)) (hw _ (List.mem_of_getElem? (i := 14) rfl)) (by decide) (by decide)) (g := (mkF m 37 #[.val (.ref a1), .val (.int (Int32.ofNat i)), .val (.int (Int32.ofNat cs.length))] [(.int (Int32.ofNat cs.length)), (.int (Int32.ofNat i))])) rfl (by rw [hml]; rfl) (argsL := [(.int (Int32.ofNat i)), (.int (Int32.ofNat cs.length))]) (rest := []) (lenOf pd_407 rfl) rfl (by show 2 * 0 + _ ≤ _; exact Nat.le_of_eq rfl) (hb hby d_jdk_42_method_57_37) (fun _ _ => ⟨rfl, e323, (by decide : 0 + 0 ≤ _), (by decide : 0 + 0 ≤ _)⟩)
    dsimp only [Pt.U, Pt.locs, Pt.cells, Pt.slots] at X325 l325 y325 z325 st325 hQ325
    subst l325 y325 z325
    obtain ⟨rfl, N325q, K325⟩ := hQ325
    have N325 := Fr.app N321 N325q
    refine own_Go.st st325 ?_
    show own_Go _ _ _ _ (T325.setTop (mkF m 40 #[.val (.ref a1), .val (.int (Int32.ofNat i)), .val (.int (Int32.ofNat cs.length))] []))
    refine own_Go.st (fun _ k => XS.aloadN X325.here hx rfl (hb hby d_jdk_42_method_57_40) rfl rfl k) ?_
    show own_Go _ _ _ _ (T325.setTop (mkF m 41 #[.val (.ref a1), .val (.int (Int32.ofNat i)), .val (.int (Int32.ofNat cs.length))] [(.ref a1)]))
    obtain ⟨T326, X326, e326, st326⟩ := getF X325 hx hZ hown (host := "") (Or.inl (hw _ (List.mem_of_getElem? (i := 32) rfl))) Via.refl K325 s2312 (g := (mkF m 41 #[.val (.ref a1), .val (.int (Int32.ofNat i)), .val (.int (Int32.ofNat cs.length))] [(.ref a1)])) rfl rfl (hb hby d_jdk_42_method_57_41)
    refine own_Go.st st326 ?_
    show own_Go _ _ _ _ (T326.setTop (mkF m 44 #[.val (.ref a1), .val (.int (Int32.ofNat i)), .val (.int (Int32.ofNat cs.length))] [(.ref t)]))
    refine own_Go.st (fun _ k => XS.iloadN X326.here hx rfl (hb hby d_jdk_42_method_57_44) rfl k) ?_
    show own_Go _ _ _ _ (T326.setTop (mkF m 45 #[.val (.ref a1), .val (.int (Int32.ofNat i)), .val (.int (Int32.ofNat cs.length))] [(.int (Int32.ofNat i)), (.ref t)]))
    refine own_Go.st (fun _ k => XS.iloadN X326.here hx rfl (hb hby d_jdk_42_method_57_45) rfl k) ?_
    show own_Go _ _ _ _ (T326.setTop (mkF m 46 #[.val (.ref a1), .val (.int (Int32.ofNat i)), .val (.int (Int32.ofNat cs.length))] [(.int (Int32.ofNat cs.length)), (.int (Int32.ofNat i)), (.ref t)]))
    obtain ⟨_, _, ⟨T327, L327, k327, n327⟩, -, X327, ⟨Lc327, hQ327, l327, y327, z327⟩, st327⟩ := Jvm.LawKit.callS X326 hx (y := (⟨"java/lang/StringUTF16", "codePointAt", "([BII)I"⟩ : MethodName)) hown (mvT hZ (hw _ (List.mem_of_getElem? (i := 113) rfl))) (mvT hZ (hw _ (List.mem_of_getElem? (i := 114) rfl))) (mvT hZ (hw _ (List.mem_of_getElem? (i := 61) rfl))) (mvT hZ (hw _ (List.mem_of_getElem? (i := 115) rfl))) (by decide) (backOf (W := 0) (rm_cpa3 l Z a0 hw [] t (Int32.ofNat i) (Int32.ofNat cs.length) i cs kb312 (Int32.ofNat (2 * cs.length)) (StrChars.Road.wideBytes cs) (.int 0) h0 OL s4312 st__assertionsDisabled st_HI_BYTE_SHIFT st_LO_BYTE_SHIFT rfl rfl rfl hle p0_.rng rfl rfl hi) hZ (hw _ (List.mem_of_getElem? (i := 115) rfl)) (hw _ (List.mem_of_getElem? (i := 61) rfl)) (by decide) (by decide)) (g := (mkF m 46 #[.val (.ref a1), .val (.int (Int32.ofNat i)), .val (.int (Int32.ofNat cs.length))] [(.int (Int32.ofNat cs.length)), (.int (Int32.ofNat i)), (.ref t)])) rfl (by rw [hml]; rfl) (argsL := [(.ref t), (.int (Int32.ofNat i)), (.int (Int32.ofNat cs.length))]) (rest := []) (lenOf pd_429 rfl) rfl (by show 2 * 0 + _ ≤ _; exact Nat.le_of_eq rfl) (hb hby d_jdk_42_method_57_46) (fun _ _ => ⟨rfl, e326, (by decide : 0 + 0 ≤ _), (by decide : 0 + 0 ≤ _)⟩)
    dsimp only [Pt.U, Pt.locs, Pt.cells, Pt.slots] at X327 l327 y327 z327 st327 hQ327
    subst l327 y327 z327
    obtain ⟨rfl, N327q, K327⟩ := hQ327
    have N327 := Fr.app N325 N327q
    refine own_Go.st st327 ?_
    show own_Go _ _ _ _ (T327.setTop (mkF m 49 #[.val (.ref a1), .val (.int (Int32.ofNat i)), .val (.int (Int32.ofNat cs.length))] [(.int (own_cpAt cs i))]))
    obtain ⟨fs328, hr328, hrun328, hend328, hW328, hsm328⟩ := X327.leave (v := some (.int (own_cpAt cs i))) (fun h => by rw [Bd.returns] at h; cases h)
    subst hPP
    refine ⟨_, _, own_retI X327 hx Bd.returns (hb hby d_jdk_42_method_57_49) hr328, hrun328, hend328, _, _, rfl, ?_, ⟨_, rfl⟩, hW328, hsm328.mono (by decide) (by decide)⟩
    · show Q_cpa Z _ _ _ _ _ _ _ h0 _ T327.heap _
      rw [K327]
      exact ⟨rfl, N327, rfl⟩

theorem own_step {n m : Nat} {p : Int32} (hle : m ≤ 4000) (h : n + (own_enc p).length ≤ m) {pre : List Int32} (hn : pre.length = n := by rfl) : Int32.ofNat n + (if p < 65536 then (1 : Int32) else 2) = Int32.ofNat (pre ++ own_enc p).length := by
  rw [List.length_append, hn]
  unfold own_enc at h ⊢
  by_cases q : p < 65536
  · rw [if_pos q] at h ⊢
    rw [if_pos q]
    simp only [List.length_cons, List.length_nil] at h ⊢
    exact own_ofS (by omega)
  · rw [if_neg q] at h ⊢
    rw [if_neg q]
    simp only [List.length_cons, List.length_nil] at h ⊢
    apply Int32.toInt_inj.mp
    have a := c_iadd (Int32.ofNat n) 2
    have b := own_of (i := n) (by omega)
    have c := own_of (i := n + (0 + 1 + 1)) (by omega)
    have r := rng32 (Int32.ofNat n + 2)
    have e1 : (2 : Int32).toInt = 2 := by decide
    omega

theorem pn_432 : plainName "com/example/keep_to_layer/keeptolayer/model/ClassNames" = true := by first | (simp [plainName, overriddenIn]; done) | decide +kernel
theorem ef_433 (m : MethodId) (x0 : Nat) (x1 : Nat) : entryFrame m #[(.ref x0), (.ref x1)] 5 = mkF m 0 #[.val (.ref x0), .val (.ref x1), .unset, .unset, .unset] [] := by first | (simp [entryFrame, mkF, argsToLocals, Value.category]; done) | rfl
theorem d_prog_14_method_8_0 : decode prog_14_method_8_code 0 = .ok (.iconst 0, 1) := by decide +kernel
theorem d_prog_14_method_8_1 : decode prog_14_method_8_code 1 = .ok (.istore_n 2, 1) := by decide +kernel
theorem d_prog_14_method_8_2 : decode prog_14_method_8_code 2 = .ok (.iload_n 2, 1) := by decide +kernel
theorem d_prog_14_method_8_3 : decode prog_14_method_8_code 3 = .ok (.aload_n 0, 1) := by decide +kernel
theorem pd_438 : parseMethodDescriptor "()I" = some ⟨[], some .int⟩ := by decide +kernel
theorem d_prog_14_method_8_4 : decode prog_14_method_8_code 4 = .ok (.invokevirtual 88, 3) := by decide +kernel
theorem d_prog_14_method_8_7 : decode prog_14_method_8_code 7 = .ok (.if_icmp .ge 47, 3) := by decide +kernel
theorem d_prog_14_method_8_10 : decode prog_14_method_8_code 10 = .ok (.iload_n 2, 1) := by decide +kernel
theorem d_prog_14_method_8_11 : decode prog_14_method_8_code 11 = .ok (.aload_n 1, 1) := by decide +kernel
theorem d_prog_14_method_8_12 : decode prog_14_method_8_code 12 = .ok (.invokevirtual 88, 3) := by decide +kernel
theorem d_prog_14_method_8_15 : decode prog_14_method_8_code 15 = .ok (.if_icmp .ge 39, 3) := by decide +kernel
theorem d_prog_14_method_8_18 : decode prog_14_method_8_code 18 = .ok (.aload_n 0, 1) := by decide +kernel
theorem d_prog_14_method_8_19 : decode prog_14_method_8_code 19 = .ok (.iload_n 2, 1) := by decide +kernel
theorem d_prog_14_method_8_20 : decode prog_14_method_8_code 20 = .ok (.invokevirtual 19, 3) := by decide +kernel
theorem d_prog_14_method_8_23 : decode prog_14_method_8_code 23 = .ok (.istore_n 3, 1) := by decide +kernel
theorem d_prog_14_method_8_24 : decode prog_14_method_8_code 24 = .ok (.aload_n 1, 1) := by decide +kernel
theorem d_prog_14_method_8_25 : decode prog_14_method_8_code 25 = .ok (.iload_n 2, 1) := by decide +kernel
theorem d_prog_14_method_8_26 : decode prog_14_method_8_code 26 = .ok (.invokevirtual 19, 3) := by decide +kernel
theorem d_prog_14_method_8_29 : decode prog_14_method_8_code 29 = .ok (.istore 4, 2) := by decide +kernel
theorem d_prog_14_method_8_31 : decode prog_14_method_8_code 31 = .ok (.iload_n 3, 1) := by decide +kernel
theorem d_prog_14_method_8_32 : decode prog_14_method_8_code 32 = .ok (.iload 4, 2) := by decide +kernel
theorem d_prog_14_method_8_34 : decode prog_14_method_8_code 34 = .ok (.if_icmp .eq 10, 3) := by decide +kernel
theorem d_prog_14_method_8_44 : decode prog_14_method_8_code 44 = .ok (.iload_n 2, 1) := by decide +kernel
theorem d_prog_14_method_8_45 : decode prog_14_method_8_code 45 = .ok (.iload_n 3, 1) := by decide +kernel
theorem d_prog_14_method_8_46 : decode prog_14_method_8_code 46 = .ok (.invokestatic 97, 3) := by decide +kernel
theorem d_prog_14_method_8_49 : decode prog_14_method_8_code 49 = .ok (.iadd, 1) := by decide +kernel
theorem d_prog_14_method_8_50 : decode prog_14_method_8_code 50 = .ok (.istore_n 2, 1) := by decide +kernel
theorem d_prog_14_method_8_51 : decode prog_14_method_8_code 51 = .ok (.goto (-49), 3) := by decide +kernel
theorem d_prog_14_method_8_37 : decode prog_14_method_8_code 37 = .ok (.iload_n 3, 1) := by decide +kernel
theorem d_prog_14_method_8_38 : decode prog_14_method_8_code 38 = .ok (.iload 4, 2) := by decide +kernel
theorem d_prog_14_method_8_40 : decode prog_14_method_8_code 40 = .ok (.invokestatic 92, 3) := by decide +kernel
theorem d_prog_14_method_8_43 : decode prog_14_method_8_code 43 = .ok (.ireturn, 1) := by decide +kernel
theorem d_prog_14_method_8_54 : decode prog_14_method_8_code 54 = .ok (.aload_n 0, 1) := by decide +kernel
theorem d_prog_14_method_8_55 : decode prog_14_method_8_code 55 = .ok (.invokevirtual 88, 3) := by decide +kernel
theorem d_prog_14_method_8_58 : decode prog_14_method_8_code 58 = .ok (.aload_n 1, 1) := by decide +kernel
theorem d_prog_14_method_8_59 : decode prog_14_method_8_code 59 = .ok (.invokevirtual 88, 3) := by decide +kernel
theorem d_prog_14_method_8_62 : decode prog_14_method_8_code 62 = .ok (.invokestatic 92, 3) := by decide +kernel
theorem d_prog_14_method_8_65 : decode prog_14_method_8_code 65 = .ok (.ireturn, 1) := by decide +kernel
def Q_compare (Z : State) (a1 : Nat) (a2 : Nat) (P : List Int32) (Q : List Int32) (t1 : Nat) (t2 : Nat) (cs : List Int32) (ds : List Int32) (zc : Int32) (fm : Value) (h0 : Heap) (v : Option Value) (h : Heap) (L : List Loc) : Prop := v = some (.int (own_cmpL P Q)) ∧ Fr Z.heap.size L ∧ h = h0
set_option maxRecDepth 65536 in
set_option maxHeartbeats 40000000 in
theorem rm_compare (l : Launch) (Z : State) (a0 : Array Value) (hw : ∀ d ∈ tables_1, d.before a0 Z = true) (ws : List Jvm.Cond) (a1 : Nat) (a2 : Nat) (P : List Int32) (Q : List Int32) (t1 : Nat) (t2 : Nat) (cs : List Int32) (ds : List Int32) (zc : Int32) (fm : Value) (h0 : Heap) (OL : Old Z Z.heap.size h0) (p0_ : own_Str Z h0 a1 t1 cs) (p1_ : own_Str Z h0 a2 t2 ds) (st_COMPACT_STRINGS : Sta Z Z.heap "java/lang/String" "COMPACT_STRINGS" "Z" (.int zc)) (st_SIOOBE_FORMATTER : Sta Z Z.heap "jdk/internal/util/Preconditions" "SIOOBE_FORMATTER" "Ljava/util/function/BiFunction;" fm) (st__assertionsDisabled : Sta Z Z.heap "java/lang/StringUTF16" "$assertionsDisabled" "Z" (.int (1 : Int32))) (st_HI_BYTE_SHIFT : Sta Z Z.heap "java/lang/StringUTF16" "HI_BYTE_SHIFT" "I" (.int (0 : Int32))) (st_LO_BYTE_SHIFT : Sta Z Z.heap "java/lang/StringUTF16" "LO_BYTE_SHIFT" "I" (.int (8 : Int32))) (hP : cs = own_encs P) (hQ : ds = own_encs Q) (vP : ∀ p ∈ P, own_vp p) (vQ : ∀ p ∈ Q, own_vp p) (hzc : ¬ zc = 0) (hfm : fm.isRef = true) :
    MetFree l (⟨"com/example/keep_to_layer/keeptolayer/model/ClassNames", "compare", "(Ljava/lang/String;Ljava/lang/String;)I"⟩ : MethodName) (head1 (Jvm.Cond.code (⟨"com/example/keep_to_layer/keeptolayer/model/ClassNames", "compare", "(Ljava/lang/String;Ljava/lang/String;)I"⟩ : MethodName) prog_14_method_8_code 5 (some .int) :: ws) ({ frames := 4, cells := 0, slots := 0, locals := 66 } : Room)) (fun a U => a = #[(.ref a1), (.ref a2)] ∧ Z.Warmed39 U.vm ∧ U.heap = h0) (fun _ _ _ _ _ => True) (fun _ U o U' => ∃ v L, o = .returned v ∧ Q_compare Z a1 a2 P Q t1 t2 cs ds zc fm h0 v U'.heap L ∧ FrameEnd U o U' L ({ frames := 4, cells := 0, slots := 0, locals := 66 } : Room).cells ({ frames := 4, cells := 0, slots := 0, locals := 66 } : Room).slots) := by
  refine MetFree.of_bodySF (plainFor_of_name pn_432) hisR ?_
  intro p e s m args below meth c s₁ Bd hml0 hP hK
  obtain ⟨rfl, hZ, hh⟩ := hP
  have hx := Bd.exec
  have hby := Bd.bytes
  have hml : c.maxLocals = 5 := hml0
  have hown : s.vm.findClass "com/example/keep_to_layer/keeptolayer/model/ClassNames" = some m.cls := findClass_of_methodNamed Bd.named
  have hnm := (name_of_methodNamed Bd.named Bd.method).1
  have X0 : Stand p l e ({ frames := 4, cells := 0, slots := 0, locals := 66 } : Room) s m #[(.ref a1), (.ref a2)] below meth c s₁ [] 0 0 := Stand.of_body Bd
  have e0 : s₁.heap = h0 := by rw [← hh, Bd.state]; rfl
  have N0 := Fr.nil Z.heap.size
  have Z0 : Z.heap.size ≤ h0.size := OL.2.1
  have lt_0 : @LT.lt Nat _ a1 h0.size := p0_.lt
  have ltv_0 : @LT.lt Nat _ t1 h0.size := p0_.ltv
  have lt_1 : @LT.lt Nat _ a2 h0.size := p1_.lt
  have ltv_1 : @LT.lt Nat _ t2 h0.size := p1_.ltv
  obtain ⟨PP, hPP⟩ : ∃ PP : Outcome → State → Prop, PP = (fun o tE => ∃ v L, o = .returned v ∧ Q_compare Z a1 a2 P Q t1 t2 cs ds zc fm h0 v tE.heap L ∧ FrameEnd s o tE L ({ frames := 4, cells := 0, slots := 0, locals := 66 } : Room).cells ({ frames := 4, cells := 0, slots := 0, locals := 66 } : Room).slots) := ⟨_, rfl⟩
  show own_Go p.tables e below (fun o tE => ∃ v L, o = .returned v ∧ Q_compare Z a1 a2 P Q t1 t2 cs ds zc fm h0 v tE.heap L ∧ FrameEnd s o tE L ({ frames := 4, cells := 0, slots := 0, locals := 66 } : Room).cells ({ frames := 4, cells := 0, slots := 0, locals := 66 } : Room).slots) (s₁.setTop (entryFrame m #[(.ref a1), (.ref a2)] 5))
  rw [← hPP]
  refine own_Go.st (fun t k => castTop (ef_433 m a1 a2) k) ?_
  show own_Go _ _ _ _ (s₁.setTop (mkF m 0 #[.val (.ref a1), .val (.ref a2), .unset, .unset, .unset] []))
  refine own_Go.st (fun _ k => XS.iconst X0.here hx rfl (hb hby d_prog_14_method_8_0) k) ?_
  show own_Go _ _ _ _ (s₁.setTop (mkF m 1 #[.val (.ref a1), .val (.ref a2), .unset, .unset, .unset] [(.int (0 : Int32))]))
  refine own_Go.st (fun _ k => XS.istoreN X0.here hx rfl (hb hby d_prog_14_method_8_1) rfl (l' := #[.val (.ref a1), .val (.ref a2), .val (.int (0 : Int32)), .unset, .unset]) rfl k) ?_
  show own_Go _ _ _ _ (s₁.setTop (mkF m 2 #[.val (.ref a1), .val (.ref a2), .val (.int (0 : Int32)), .unset, .unset] []))
  have LP329 : ∀ (nL : Nat) (pre : List Int32) (P1 : List Int32) (Q1 : List Int32) (s3 : Slot) (s4 : Slot) (TL329 : State) (lL329 : List Loc), (cs = pre ++ own_encs P1) → (ds = pre ++ own_encs Q1) → (∀ p ∈ P1, own_vp p) → (∀ p ∈ Q1, own_vp p) → (own_cmpL P Q = own_cmpL P1 Q1) → (One s3) → (One s4) → (Stand p l e ({ frames := 4, cells := 0, slots := 0, locals := 66 } : Room) s m #[(.ref a1), (.ref a2)] below meth c TL329 lL329 0 0) → (TL329.heap = h0) → (Fr Z.heap.size lL329) → P1.length = nL → own_Go p.tables e below PP (TL329.setTop (mkF m 2 #[.val (.ref a1), .val (.ref a2), .val (.int (Int32.ofNat pre.length)), s3, s4] [])) := by
    intro nL
    induction nL using Nat.strongRecOn with
    | _ nL ihL =>
      intro pre P1 Q1 s3 s4 TL329 lL329 hcs hds hvP hvQ hcm hs3 hs4 XL329 eL329 NL329 hmL
      refine own_Go.st (fun _ k => XS.iloadN XL329.here hx rfl (hb hby d_prog_14_method_8_2) rfl k) ?_
      show own_Go _ _ _ _ (TL329.setTop (mkF m 3 #[.val (.ref a1), .val (.ref a2), .val (.int (Int32.ofNat pre.length)), s3, s4] [(.int (Int32.ofNat pre.length))]))
      refine own_Go.st (fun _ k => XS.aloadN XL329.here hx rfl (hb hby d_prog_14_method_8_3) rfl rfl k) ?_
      show own_Go _ _ _ _ (TL329.setTop (mkF m 4 #[.val (.ref a1), .val (.ref a2), .val (.int (Int32.ofNat pre.length)), s3, s4] [(.ref a1), (.int (Int32.ofNat pre.length))]))
      obtain ⟨kb331, cd331, N331_, vs331, s1331, s2331, s3331, s4331, s5331, s6331, s7331⟩ := id p0_
      obtain ⟨cq330, kq330, q330a, q330b, q330c⟩ := isOf hZ eL329 p0_.exa
      obtain ⟨_, _, ⟨T330, L330, k330, n330⟩, -, X330, ⟨Lc330, hQ330, l330, y330, z330⟩, st330⟩ := XL329.virtualBack hx (y := (⟨"java/lang/String", "length", "()I"⟩ : MethodName)) (z := (⟨"java/lang/String", "length", "()I"⟩ : MethodName)) hown (mvT hZ (hw _ (List.mem_of_getElem? (i := 38) rfl))) (mvT hZ (hw _ (List.mem_of_getElem? (i := 39) rfl))) (notFace_of_selects (args := #[]) (mvT hZ (hw _ (List.mem_of_getElem? (i := 41) rfl)))) (mvT hZ (hw _ (List.mem_of_getElem? (i := 41) rfl))) (mvT hZ (hw _ (List.mem_of_getElem? (i := 40) rfl))) (by decide) (StrChars.Road.lenW (W := 1) hZ (own_hln hw) (kI := 4) (hw _ (List.mem_of_getElem? (i := 13) rfl)) s1331 s2331 s3331 s4331 s5331 s6331 (st_COMPACT_STRINGS.ext OL.2) hzc s7331 (by decide) (by decide)) q330a q330c (g := (mkF m 4 #[.val (.ref a1), .val (.ref a2), .val (.int (Int32.ofNat pre.length)), s3, s4] [(.ref a1), (.int (Int32.ofNat pre.length))])) rfl (by rw [hml]; rfl) (Steps.refl _) (argsL := []) (rest := [(.int (Int32.ofNat pre.length))]) (lenOf pd_438 rfl) rfl (by show 2 * 0 + _ ≤ _; exact Nat.le_of_eq rfl) (hb hby d_prog_14_method_8_4) (fun _ _ => ⟨rfl, eL329, (by decide : 0 + 0 ≤ _), (by decide : 0 + 0 ≤ _)⟩)
      dsimp only [Pt.U, Pt.locs, Pt.cells, Pt.slots] at X330 l330 y330 z330 st330 hQ330
      subst l330 y330 z330
      obtain ⟨rfl, rfl, K330⟩ := hQ330
      have N330 := Fr.app NL329 (Fr.nil Z.heap.size)
      refine own_Go.tr st330 ?_
      show own_Go _ _ _ _ (T330.setTop (mkF m 7 #[.val (.ref a1), .val (.ref a2), .val (.int (Int32.ofNat pre.length)), s3, s4] [(.int (Int32.ofNat cs.length)), (.int (Int32.ofNat pre.length))]))
      by_cases h7 : (Int32.ofNat pre.length) < (Int32.ofNat cs.length)
      ·
        refine own_Go.st (fun _ k => XS.icmpNo X330.here hx rfl (hb hby d_prog_14_method_8_7) rfl (tlt h7).2.1 k) ?_
        show own_Go _ _ _ _ (T330.setTop (mkF m 10 #[.val (.ref a1), .val (.ref a2), .val (.int (Int32.ofNat pre.length)), s3, s4] []))
        have hle1 := p0_.le
        have hle2 := p1_.le
        have hpl : pre.length ≤ cs.length := by rw [hcs, List.length_append]; omega
        have hpl2 : pre.length ≤ ds.length := by rw [hds, List.length_append]; omega
        have h7' : pre.length < cs.length := (own_oflt (by omega) (by omega)).mp h7
        obtain ⟨pp, PP1, rfl⟩ : ∃ pp PP1, P1 = pp :: PP1 := by
          cases P1 with
          | nil => rw [hcs] at h7'; simp [own_encs] at h7'
          | cons a b => exact ⟨a, b, rfl⟩
        refine own_Go.st (fun _ k => XS.iloadN X330.here hx rfl (hb hby d_prog_14_method_8_10) rfl k) ?_
        show own_Go _ _ _ _ (T330.setTop (mkF m 11 #[.val (.ref a1), .val (.ref a2), .val (.int (Int32.ofNat pre.length)), s3, s4] [(.int (Int32.ofNat pre.length))]))
        refine own_Go.st (fun _ k => XS.aloadN X330.here hx rfl (hb hby d_prog_14_method_8_11) rfl rfl k) ?_
        show own_Go _ _ _ _ (T330.setTop (mkF m 12 #[.val (.ref a1), .val (.ref a2), .val (.int (Int32.ofNat pre.length)), s3, s4] [(.ref a2), (.int (Int32.ofNat pre.length))]))
        obtain ⟨kb333, cd333, N333_, vs333, s1333, s2333, s3333, s4333, s5333, s6333, s7333⟩ := id p1_
        obtain ⟨cq332, kq332, q332a, q332b, q332c⟩ := isOf hZ K330 p1_.exa
        obtain ⟨_, _, ⟨T332, L332, k332, n332⟩, -, X332, ⟨Lc332, hQ332, l332, y332, z332⟩, st332⟩ := X330.virtualBack hx (y := (⟨"java/lang/String", "length", "()I"⟩ : MethodName)) (z := (⟨"java/lang/String", "length", "()I"⟩ : MethodName)) hown (mvT hZ (hw _ (List.mem_of_getElem? (i := 38) rfl))) (mvT hZ (hw _ (List.mem_of_getElem? (i := 39) rfl))) (notFace_of_selects (args := #[]) (mvT hZ (hw _ (List.mem_of_getElem? (i := 41) rfl)))) (mvT hZ (hw _ (List.mem_of_getElem? (i := 41) rfl))) (mvT hZ (hw _ (List.mem_of_getElem? (i := 40) rfl))) (by decide) (StrChars.Road.lenW (W := 1) hZ (own_hln hw) (kI := 4) (hw _ (List.mem_of_getElem? (i := 13) rfl)) s1333 s2333 s3333 s4333 s5333 s6333 (st_COMPACT_STRINGS.ext OL.2) hzc s7333 (by decide) (by decide)) q332a q332c (g := (mkF m 12 #[.val (.ref a1), .val (.ref a2), .val (.int (Int32.ofNat pre.length)), s3, s4] [(.ref a2), (.int (Int32.ofNat pre.length))])) rfl (by rw [hml]; rfl) (Steps.refl _) (argsL := []) (rest := [(.int (Int32.ofNat pre.length))]) (lenOf pd_438 rfl) rfl (by show 2 * 0 + _ ≤ _; exact Nat.le_of_eq rfl) (hb hby d_prog_14_method_8_12) (fun _ _ => ⟨rfl, K330, (by decide : 0 + 0 ≤ _), (by decide : 0 + 0 ≤ _)⟩)
        dsimp only [Pt.U, Pt.locs, Pt.cells, Pt.slots] at X332 l332 y332 z332 st332 hQ332
        subst l332 y332 z332
        obtain ⟨rfl, rfl, K332⟩ := hQ332
        have N332 := Fr.app N330 (Fr.nil Z.heap.size)
        refine own_Go.tr st332 ?_
        show own_Go _ _ _ _ (T332.setTop (mkF m 15 #[.val (.ref a1), .val (.ref a2), .val (.int (Int32.ofNat pre.length)), s3, s4] [(.int (Int32.ofNat ds.length)), (.int (Int32.ofNat pre.length))]))
        by_cases h15 : (Int32.ofNat pre.length) < (Int32.ofNat ds.length)
        ·
          refine own_Go.st (fun _ k => XS.icmpNo X332.here hx rfl (hb hby d_prog_14_method_8_15) rfl (tlt h15).2.1 k) ?_
          show own_Go _ _ _ _ (T332.setTop (mkF m 18 #[.val (.ref a1), .val (.ref a2), .val (.int (Int32.ofNat pre.length)), s3, s4] []))
          have h15' : pre.length < ds.length := (own_oflt (by omega) (by omega)).mp h15
          obtain ⟨qq, QQ1, rfl⟩ : ∃ qq QQ1, Q1 = qq :: QQ1 := by
            cases Q1 with
            | nil => rw [hds] at h15'; simp [own_encs] at h15'
            | cons a b => exact ⟨a, b, rfl⟩
          have hc1 : own_cpAt cs pre.length = pp := by rw [hcs, own_encs]; exact own_cpEnc (hvP _ (by simp)) _ _
          have hc2 : own_cpAt ds pre.length = qq := by rw [hds, own_encs]; exact own_cpEnc (hvQ _ (by simp)) _ _
          refine own_Go.st (fun _ k => XS.aloadN X332.here hx rfl (hb hby d_prog_14_method_8_18) rfl rfl k) ?_
          show own_Go _ _ _ _ (T332.setTop (mkF m 19 #[.val (.ref a1), .val (.ref a2), .val (.int (Int32.ofNat pre.length)), s3, s4] [(.ref a1)]))
          refine own_Go.st (fun _ k => XS.iloadN X332.here hx rfl (hb hby d_prog_14_method_8_19) rfl k) ?_
          show own_Go _ _ _ _ (T332.setTop (mkF m 20 #[.val (.ref a1), .val (.ref a2), .val (.int (Int32.ofNat pre.length)), s3, s4] [(.int (Int32.ofNat pre.length)), (.ref a1)]))
          obtain ⟨cq334, kq334, q334a, q334b, q334c⟩ := isOf hZ K332 p0_.exa
          obtain ⟨_, _, ⟨T334, L334, k334, n334⟩, -, X334, ⟨Lc334, hQ334, l334, y334, z334⟩, st334⟩ := X332.virtualBack hx (y := (⟨"java/lang/String", "codePointAt", "(I)I"⟩ : MethodName)) (z := (⟨"java/lang/String", "codePointAt", "(I)I"⟩ : MethodName)) hown (mvT hZ (hw _ (List.mem_of_getElem? (i := 95) rfl))) (mvT hZ (hw _ (List.mem_of_getElem? (i := 96) rfl))) (notFace_of_selects (args := #[]) (mvT hZ (hw _ (List.mem_of_getElem? (i := 98) rfl)))) (mvT hZ (hw _ (List.mem_of_getElem? (i := 98) rfl))) (mvT hZ (hw _ (List.mem_of_getElem? (i := 97) rfl))) (by decide) (backOf (W := 0) (rm_cpa l Z a0 hw [] a1 (Int32.ofNat pre.length) pre.length t1 cs zc fm h0 OL p0_ st_COMPACT_STRINGS st_SIOOBE_FORMATTER st__assertionsDisabled st_HI_BYTE_SHIFT st_LO_BYTE_SHIFT rfl h7' (by first | assumption | decide) (by first | assumption | decide)) hZ (hw _ (List.mem_of_getElem? (i := 99) rfl)) (hw _ (List.mem_of_getElem? (i := 14) rfl)) (by decide) (by decide)) q334a q334c (g := (mkF m 20 #[.val (.ref a1), .val (.ref a2), .val (.int (Int32.ofNat pre.length)), s3, s4] [(.int (Int32.ofNat pre.length)), (.ref a1)])) rfl (by rw [hml]; rfl) (Steps.refl _) (argsL := [(.int (Int32.ofNat pre.length))]) (rest := []) (lenOf pd_109 rfl) rfl (by show 2 * 0 + _ ≤ _; exact Nat.le_of_eq rfl) (hb hby d_prog_14_method_8_20) (fun _ _ => ⟨rfl, K332, (by decide : 0 + 0 ≤ _), (by decide : 0 + 0 ≤ _)⟩)
          dsimp only [Pt.U, Pt.locs, Pt.cells, Pt.slots] at X334 l334 y334 z334 st334 hQ334
          subst l334 y334 z334
          obtain ⟨rfl, N334q, K334⟩ := hQ334
          have N334 := Fr.app N332 N334q
          refine own_Go.tr st334 ?_
          show own_Go _ _ _ _ (T334.setTop (mkF m 23 #[.val (.ref a1), .val (.ref a2), .val (.int (Int32.ofNat pre.length)), s3, s4] [(.int (own_cpAt cs pre.length))]))
          rw [hc1]
          show own_Go _ _ _ _ (T334.setTop (mkF m 23 #[.val (.ref a1), .val (.ref a2), .val (.int (Int32.ofNat pre.length)), s3, s4] [(.int pp)]))
          refine own_Go.st (fun _ k => XS.istoreNS X334.here hx rfl (hb hby d_prog_14_method_8_23) rfl rfl hs3 k) ?_
          show own_Go _ _ _ _ (T334.setTop (mkF m 24 #[.val (.ref a1), .val (.ref a2), .val (.int (Int32.ofNat pre.length)), .val (.int pp), s4] []))
          refine own_Go.st (fun _ k => XS.aloadN X334.here hx rfl (hb hby d_prog_14_method_8_24) rfl rfl k) ?_
          show own_Go _ _ _ _ (T334.setTop (mkF m 25 #[.val (.ref a1), .val (.ref a2), .val (.int (Int32.ofNat pre.length)), .val (.int pp), s4] [(.ref a2)]))
          refine own_Go.st (fun _ k => XS.iloadN X334.here hx rfl (hb hby d_prog_14_method_8_25) rfl k) ?_
          show own_Go _ _ _ _ (T334.setTop (mkF m 26 #[.val (.ref a1), .val (.ref a2), .val (.int (Int32.ofNat pre.length)), .val (.int pp), s4] [(.int (Int32.ofNat pre.length)), (.ref a2)]))
          obtain ⟨cq335, kq335, q335a, q335b, q335c⟩ := isOf hZ K334 p1_.exa
          obtain ⟨_, _, ⟨T335, L335, k335, n335⟩, -, X335, ⟨Lc335, hQ335, l335, y335, z335⟩, st335⟩ := X334.virtualBack hx (y := (⟨"java/lang/String", "codePointAt", "(I)I"⟩ : MethodName)) (z := (⟨"java/lang/String", "codePointAt", "(I)I"⟩ : MethodName)) hown (mvT hZ (hw _ (List.mem_of_getElem? (i := 95) rfl))) (mvT hZ (hw _ (List.mem_of_getElem? (i := 96) rfl))) (notFace_of_selects (args := #[]) (mvT hZ (hw _ (List.mem_of_getElem? (i := 98) rfl)))) (mvT hZ (hw _ (List.mem_of_getElem? (i := 98) rfl))) (mvT hZ (hw _ (List.mem_of_getElem? (i := 97) rfl))) (by decide) (backOf (W := 0) (rm_cpa l Z a0 hw [] a2 (Int32.ofNat pre.length) pre.length t2 ds zc fm h0 OL p1_ st_COMPACT_STRINGS st_SIOOBE_FORMATTER st__assertionsDisabled st_HI_BYTE_SHIFT st_LO_BYTE_SHIFT rfl h15' (by first | assumption | decide) (by first | assumption | decide)) hZ (hw _ (List.mem_of_getElem? (i := 99) rfl)) (hw _ (List.mem_of_getElem? (i := 14) rfl)) (by decide) (by decide)) q335a q335c (g := (mkF m 26 #[.val (.ref a1), .val (.ref a2), .val (.int (Int32.ofNat pre.length)), .val (.int pp), s4] [(.int (Int32.ofNat pre.length)), (.ref a2)])) rfl (by rw [hml]; rfl) (Steps.refl _) (argsL := [(.int (Int32.ofNat pre.length))]) (rest := []) (lenOf pd_109 rfl) rfl (by show 2 * 0 + _ ≤ _; exact Nat.le_of_eq rfl) (hb hby d_prog_14_method_8_26) (fun _ _ => ⟨rfl, K334, (by decide : 0 + 0 ≤ _), (by decide : 0 + 0 ≤ _)⟩)
          dsimp only [Pt.U, Pt.locs, Pt.cells, Pt.slots] at X335 l335 y335 z335 st335 hQ335
          subst l335 y335 z335
          obtain ⟨rfl, N335q, K335⟩ := hQ335
          have N335 := Fr.app N334 N335q
          refine own_Go.tr st335 ?_
          show own_Go _ _ _ _ (T335.setTop (mkF m 29 #[.val (.ref a1), .val (.ref a2), .val (.int (Int32.ofNat pre.length)), .val (.int pp), s4] [(.int (own_cpAt ds pre.length))]))
          rw [hc2]
          show own_Go _ _ _ _ (T335.setTop (mkF m 29 #[.val (.ref a1), .val (.ref a2), .val (.int (Int32.ofNat pre.length)), .val (.int pp), s4] [(.int qq)]))
          refine own_Go.st (fun _ k => XS.istoreS X335.here hx rfl (hb hby d_prog_14_method_8_29) rfl rfl hs4 k) ?_
          show own_Go _ _ _ _ (T335.setTop (mkF m 31 #[.val (.ref a1), .val (.ref a2), .val (.int (Int32.ofNat pre.length)), .val (.int pp), .val (.int qq)] []))
          refine own_Go.st (fun _ k => XS.iloadN X335.here hx rfl (hb hby d_prog_14_method_8_31) rfl k) ?_
          show own_Go _ _ _ _ (T335.setTop (mkF m 32 #[.val (.ref a1), .val (.ref a2), .val (.int (Int32.ofNat pre.length)), .val (.int pp), .val (.int qq)] [(.int pp)]))
          refine own_Go.st (fun _ k => XS.iload X335.here hx rfl (hb hby d_prog_14_method_8_32) rfl k) ?_
          show own_Go _ _ _ _ (T335.setTop (mkF m 34 #[.val (.ref a1), .val (.ref a2), .val (.int (Int32.ofNat pre.length)), .val (.int pp), .val (.int qq)] [(.int qq), (.int pp)]))
          by_cases h34 : pp = qq
          ·
            refine own_Go.st (fun _ k => XS.icmpYes X335.here hx rfl (pc0 := 34) (pc' := 44) rfl (hb hby d_prog_14_method_8_34) rfl (teq h34).1 (by decide) (by decide) k) ?_
            show own_Go _ _ _ _ (T335.setTop (mkF m 44 #[.val (.ref a1), .val (.ref a2), .val (.int (Int32.ofNat pre.length)), .val (.int pp), .val (.int qq)] []))
            subst h34
            refine own_Go.st (fun _ k => XS.iloadN X335.here hx rfl (hb hby d_prog_14_method_8_44) rfl k) ?_
            show own_Go _ _ _ _ (T335.setTop (mkF m 45 #[.val (.ref a1), .val (.ref a2), .val (.int (Int32.ofNat pre.length)), .val (.int pp), .val (.int pp)] [(.int (Int32.ofNat pre.length))]))
            refine own_Go.st (fun _ k => XS.iloadN X335.here hx rfl (hb hby d_prog_14_method_8_45) rfl k) ?_
            show own_Go _ _ _ _ (T335.setTop (mkF m 46 #[.val (.ref a1), .val (.ref a2), .val (.int (Int32.ofNat pre.length)), .val (.int pp), .val (.int pp)] [(.int pp), (.int (Int32.ofNat pre.length))]))
            obtain ⟨_, _, ⟨T336, L336, k336, n336⟩, -, X336, ⟨Lc336, hQ336, l336, y336, z336⟩, st336⟩ := Jvm.LawKit.callS X335 hx (y := (⟨"java/lang/Character", "charCount", "(I)I"⟩ : MethodName)) hown (mvT hZ (hw _ (List.mem_of_getElem? (i := 134) rfl))) (mvT hZ (hw _ (List.mem_of_getElem? (i := 135) rfl))) (mvT hZ (hw _ (List.mem_of_getElem? (i := 121) rfl))) (mvT hZ (hw _ (List.mem_of_getElem? (i := 136) rfl))) (by decide) (backOf (W := 1) (rm_cc l Z a0 hw [] pp h0 OL ) hZ (hw _ (List.mem_of_getElem? (i := 136) rfl)) (hw _ (List.mem_of_getElem? (i := 121) rfl)) (by decide) (by decide)) (g := (mkF m 46 #[.val (.ref a1), .val (.ref a2), .val (.int (Int32.ofNat pre.length)), .val (.int pp), .val (.int pp)] [(.int pp), (.int (Int32.ofNat pre.length))])) rfl (by rw [hml]; rfl) (argsL := [(.int pp)]) (rest := [(.int (Int32.ofNat pre.length))]) (lenOf pd_109 rfl) rfl (by show 2 * 0 + _ ≤ _; exact Nat.le_of_eq rfl) (hb hby d_prog_14_method_8_46) (fun _ _ => ⟨rfl, K335, (by decide : 0 + 0 ≤ _), (by decide : 0 + 0 ≤ _)⟩)
            dsimp only [Pt.U, Pt.locs, Pt.cells, Pt.slots] at X336 l336 y336 z336 st336 hQ336
            subst l336 y336 z336
            obtain ⟨rfl, N336q, K336⟩ := hQ336
            have N336 := Fr.app N335 N336q
            refine own_Go.st st336 ?_
            show own_Go _ _ _ _ (T336.setTop (mkF m 49 #[.val (.ref a1), .val (.ref a2), .val (.int (Int32.ofNat pre.length)), .val (.int pp), .val (.int pp)] [(.int (if pp < 65536 then (1 : Int32) else 2)), (.int (Int32.ofNat pre.length))]))
            refine own_Go.st (fun _ k => XS.iadd X336.here hx rfl (hb hby d_prog_14_method_8_49) rfl k) ?_
            show own_Go _ _ _ _ (T336.setTop (mkF m 50 #[.val (.ref a1), .val (.ref a2), .val (.int (Int32.ofNat pre.length)), .val (.int pp), .val (.int pp)] [(.int ((Int32.ofNat pre.length) + (if pp < 65536 then (1 : Int32) else 2)))]))
            rw [own_step hle1 (by rw [hcs, own_encs, List.length_append, List.length_append]; omega : pre.length + (own_enc pp).length ≤ cs.length)]
            show own_Go _ _ _ _ (T336.setTop (mkF m 50 #[.val (.ref a1), .val (.ref a2), .val (.int (Int32.ofNat pre.length)), .val (.int pp), .val (.int pp)] [(.int (Int32.ofNat (pre ++ own_enc pp).length))]))
            refine own_Go.st (fun _ k => XS.istoreN X336.here hx rfl (hb hby d_prog_14_method_8_50) rfl (l' := #[.val (.ref a1), .val (.ref a2), .val (.int (Int32.ofNat (pre ++ own_enc pp).length)), .val (.int pp), .val (.int pp)]) rfl k) ?_
            show own_Go _ _ _ _ (T336.setTop (mkF m 51 #[.val (.ref a1), .val (.ref a2), .val (.int (Int32.ofNat (pre ++ own_enc pp).length)), .val (.int pp), .val (.int pp)] []))
            refine own_Go.st (fun _ k => XS.goto X336.here hx rfl (pc0 := 51) (pc' := 2) rfl (hb hby d_prog_14_method_8_51) (by decide) (by decide) k) ?_
            show own_Go _ _ _ _ (T336.setTop (mkF m 2 #[.val (.ref a1), .val (.ref a2), .val (.int (Int32.ofNat (pre ++ own_enc pp).length)), .val (.int pp), .val (.int pp)] []))
            exact ihL _ (by rw [← hmL]; exact Nat.lt_succ_self _) (pre ++ own_enc pp) PP1 QQ1 _ _ T336 _ (by rw [hcs, own_encs, List.append_assoc]) (by rw [hds, own_encs, List.append_assoc]) (fun x hx => hvP x (List.mem_cons_of_mem _ hx)) (fun x hx => hvQ x (List.mem_cons_of_mem _ hx)) (by rw [hcm, own_cmpL, if_pos rfl]) (One.val rfl) (One.val rfl) X336 K336 N336 rfl
          ·
            refine own_Go.st (fun _ k => XS.icmpNo X335.here hx rfl (hb hby d_prog_14_method_8_34) rfl (feq h34).1 k) ?_
            show own_Go _ _ _ _ (T335.setTop (mkF m 37 #[.val (.ref a1), .val (.ref a2), .val (.int (Int32.ofNat pre.length)), .val (.int pp), .val (.int qq)] []))
            refine own_Go.st (fun _ k => XS.iloadN X335.here hx rfl (hb hby d_prog_14_method_8_37) rfl k) ?_
            show own_Go _ _ _ _ (T335.setTop (mkF m 38 #[.val (.ref a1), .val (.ref a2), .val (.int (Int32.ofNat pre.length)), .val (.int pp), .val (.int qq)] [(.int pp)]))
            refine own_Go.st (fun _ k => XS.iload X335.here hx rfl (hb hby d_prog_14_method_8_38) rfl k) ?_
            show own_Go _ _ _ _ (T335.setTop (mkF m 40 #[.val (.ref a1), .val (.ref a2), .val (.int (Int32.ofNat pre.length)), .val (.int pp), .val (.int qq)] [(.int qq), (.int pp)]))
            obtain ⟨_, _, ⟨T337, L337, k337, n337⟩, -, X337, ⟨Lc337, hQ337, l337, y337, z337⟩, st337⟩ := Jvm.LawKit.callS X335 hx (y := (⟨"java/lang/Integer", "compare", "(II)I"⟩ : MethodName)) hown (mvT hZ (hw _ (List.mem_of_getElem? (i := 49) rfl))) (mvT hZ (hw _ (List.mem_of_getElem? (i := 50) rfl))) (mvT hZ (hw _ (List.mem_of_getElem? (i := 51) rfl))) (mvT hZ (hw _ (List.mem_of_getElem? (i := 52) rfl))) (by decide) (backOf (W := 0) (rm_icmp l Z a0 hw [] pp qq h0 OL ) hZ (hw _ (List.mem_of_getElem? (i := 52) rfl)) (hw _ (List.mem_of_getElem? (i := 51) rfl)) (by decide) (by decide)) (g := (mkF m 40 #[.val (.ref a1), .val (.ref a2), .val (.int (Int32.ofNat pre.length)), .val (.int pp), .val (.int qq)] [(.int qq), (.int pp)])) rfl (by rw [hml]; rfl) (argsL := [(.int pp), (.int qq)]) (rest := []) (lenOf pd_301 rfl) rfl (by show 2 * 0 + _ ≤ _; exact Nat.le_of_eq rfl) (hb hby d_prog_14_method_8_40) (fun _ _ => ⟨rfl, K335, (by decide : 0 + 0 ≤ _), (by decide : 0 + 0 ≤ _)⟩)
            dsimp only [Pt.U, Pt.locs, Pt.cells, Pt.slots] at X337 l337 y337 z337 st337 hQ337
            subst l337 y337 z337
            obtain ⟨rfl, N337q, K337⟩ := hQ337
            have N337 := Fr.app N335 N337q
            refine own_Go.st st337 ?_
            show own_Go _ _ _ _ (T337.setTop (mkF m 43 #[.val (.ref a1), .val (.ref a2), .val (.int (Int32.ofNat pre.length)), .val (.int pp), .val (.int qq)] [(.int (own_cmpI pp qq))]))
            obtain ⟨fs338, hr338, hrun338, hend338, hW338, hsm338⟩ := X337.leave (v := some (.int (own_cmpI pp qq))) (fun h => by rw [Bd.returns] at h; cases h)
            subst hPP
            refine ⟨_, _, own_retI X337 hx Bd.returns (hb hby d_prog_14_method_8_43) hr338, hrun338, hend338, _, _, rfl, ?_, ⟨_, rfl⟩, hW338, hsm338.mono (by decide) (by decide)⟩
            · show Q_compare Z _ _ _ _ _ _ _ _ _ _ h0 _ T337.heap _
              rw [K337]
              exact ⟨(by rw [hcm, own_cmpL, if_neg h34]), N337, rfl⟩
        ·
          refine own_Go.st (fun _ k => XS.icmpYes X332.here hx rfl (pc0 := 15) (pc' := 54) rfl (hb hby d_prog_14_method_8_15) rfl (flt h15).2.1 (by decide) (by decide) k) ?_
          show own_Go _ _ _ _ (T332.setTop (mkF m 54 #[.val (.ref a1), .val (.ref a2), .val (.int (Int32.ofNat pre.length)), s3, s4] []))
          have h15' : ¬ pre.length < ds.length := fun q => h15 ((own_oflt (by omega) (by omega)).mpr q)
          have hend : (pp :: PP1) = [] ∨ Q1 = [] := Or.inr (by
            apply own_encsL.mp
            apply List.eq_nil_of_length_eq_zero
            rw [hds, List.length_append] at h15'
            omega)
          refine own_Go.st (fun _ k => XS.aloadN X332.here hx rfl (hb hby d_prog_14_method_8_54) rfl rfl k) ?_
          show own_Go _ _ _ _ (T332.setTop (mkF m 55 #[.val (.ref a1), .val (.ref a2), .val (.int (Int32.ofNat pre.length)), s3, s4] [(.ref a1)]))
          obtain ⟨kb340, cd340, N340_, vs340, s1340, s2340, s3340, s4340, s5340, s6340, s7340⟩ := id p0_
          obtain ⟨cq339, kq339, q339a, q339b, q339c⟩ := isOf hZ K332 p0_.exa
          obtain ⟨_, _, ⟨T339, L339, k339, n339⟩, -, X339, ⟨Lc339, hQ339, l339, y339, z339⟩, st339⟩ := X332.virtualBack hx (y := (⟨"java/lang/String", "length", "()I"⟩ : MethodName)) (z := (⟨"java/lang/String", "length", "()I"⟩ : MethodName)) hown (mvT hZ (hw _ (List.mem_of_getElem? (i := 38) rfl))) (mvT hZ (hw _ (List.mem_of_getElem? (i := 39) rfl))) (notFace_of_selects (args := #[]) (mvT hZ (hw _ (List.mem_of_getElem? (i := 41) rfl)))) (mvT hZ (hw _ (List.mem_of_getElem? (i := 41) rfl))) (mvT hZ (hw _ (List.mem_of_getElem? (i := 40) rfl))) (by decide) (StrChars.Road.lenW (W := 0) hZ (own_hln hw) (kI := 4) (hw _ (List.mem_of_getElem? (i := 13) rfl)) s1340 s2340 s3340 s4340 s5340 s6340 (st_COMPACT_STRINGS.ext OL.2) hzc s7340 (by decide) (by decide)) q339a q339c (g := (mkF m 55 #[.val (.ref a1), .val (.ref a2), .val (.int (Int32.ofNat pre.length)), s3, s4] [(.ref a1)])) rfl (by rw [hml]; rfl) (Steps.refl _) (argsL := []) (rest := []) (lenOf pd_438 rfl) rfl (by show 2 * 0 + _ ≤ _; exact Nat.le_of_eq rfl) (hb hby d_prog_14_method_8_55) (fun _ _ => ⟨rfl, K332, (by decide : 0 + 0 ≤ _), (by decide : 0 + 0 ≤ _)⟩)
          dsimp only [Pt.U, Pt.locs, Pt.cells, Pt.slots] at X339 l339 y339 z339 st339 hQ339
          subst l339 y339 z339
          obtain ⟨rfl, rfl, K339⟩ := hQ339
          have N339 := Fr.app N332 (Fr.nil Z.heap.size)
          refine own_Go.tr st339 ?_
          show own_Go _ _ _ _ (T339.setTop (mkF m 58 #[.val (.ref a1), .val (.ref a2), .val (.int (Int32.ofNat pre.length)), s3, s4] [(.int (Int32.ofNat cs.length))]))
          refine own_Go.st (fun _ k => XS.aloadN X339.here hx rfl (hb hby d_prog_14_method_8_58) rfl rfl k) ?_
          show own_Go _ _ _ _ (T339.setTop (mkF m 59 #[.val (.ref a1), .val (.ref a2), .val (.int (Int32.ofNat pre.length)), s3, s4] [(.ref a2), (.int (Int32.ofNat cs.length))]))
          obtain ⟨kb342, cd342, N342_, vs342, s1342, s2342, s3342, s4342, s5342, s6342, s7342⟩ := id p1_
          obtain ⟨cq341, kq341, q341a, q341b, q341c⟩ := isOf hZ K339 p1_.exa
          obtain ⟨_, _, ⟨T341, L341, k341, n341⟩, -, X341, ⟨Lc341, hQ341, l341, y341, z341⟩, st341⟩ := X339.virtualBack hx (y := (⟨"java/lang/String", "length", "()I"⟩ : MethodName)) (z := (⟨"java/lang/String", "length", "()I"⟩ : MethodName)) hown (mvT hZ (hw _ (List.mem_of_getElem? (i := 38) rfl))) (mvT hZ (hw _ (List.mem_of_getElem? (i := 39) rfl))) (notFace_of_selects (args := #[]) (mvT hZ (hw _ (List.mem_of_getElem? (i := 41) rfl)))) (mvT hZ (hw _ (List.mem_of_getElem? (i := 41) rfl))) (mvT hZ (hw _ (List.mem_of_getElem? (i := 40) rfl))) (by decide) (StrChars.Road.lenW (W := 1) hZ (own_hln hw) (kI := 4) (hw _ (List.mem_of_getElem? (i := 13) rfl)) s1342 s2342 s3342 s4342 s5342 s6342 (st_COMPACT_STRINGS.ext OL.2) hzc s7342 (by decide) (by decide)) q341a q341c (g := (mkF m 59 #[.val (.ref a1), .val (.ref a2), .val (.int (Int32.ofNat pre.length)), s3, s4] [(.ref a2), (.int (Int32.ofNat cs.length))])) rfl (by rw [hml]; rfl) (Steps.refl _) (argsL := []) (rest := [(.int (Int32.ofNat cs.length))]) (lenOf pd_438 rfl) rfl (by show 2 * 0 + _ ≤ _; exact Nat.le_of_eq rfl) (hb hby d_prog_14_method_8_59) (fun _ _ => ⟨rfl, K339, (by decide : 0 + 0 ≤ _), (by decide : 0 + 0 ≤ _)⟩)
          dsimp only [Pt.U, Pt.locs, Pt.cells, Pt.slots] at X341 l341 y341 z341 st341 hQ341
          subst l341 y341 z341
          obtain ⟨rfl, rfl, K341⟩ := hQ341
          have N341 := Fr.app N339 (Fr.nil Z.heap.size)
          refine own_Go.tr st341 ?_
          show own_Go _ _ _ _ (T341.setTop (mkF m 62 #[.val (.ref a1), .val (.ref a2), .val (.int (Int32.ofNat pre.length)), s3, s4] [(.int (Int32.ofNat ds.length)), (.int (Int32.ofNat cs.length))]))
          obtain ⟨_, _, ⟨T343, L343, k343, n343⟩, -, X343, ⟨Lc343, hQ343, l343, y343, z343⟩, st343⟩ := Jvm.LawKit.callS X341 hx (y := (⟨"java/lang/Integer", "compare", "(II)I"⟩ : MethodName)) hown (mvT hZ (hw _ (List.mem_of_getElem? (i := 49) rfl))) (mvT hZ (hw _ (List.mem_of_getElem? (i := 50) rfl))) (mvT hZ (hw _ (List.mem_of_getElem? (i := 51) rfl))) (mvT hZ (hw _ (List.mem_of_getElem? (i := 52) rfl))) (by decide) (backOf (W := 0) (rm_icmp l Z a0 hw [] (Int32.ofNat cs.length) (Int32.ofNat ds.length) h0 OL ) hZ (hw _ (List.mem_of_getElem? (i := 52) rfl)) (hw _ (List.mem_of_getElem? (i := 51) rfl)) (by decide) (by decide)) (g := (mkF m 62 #[.val (.ref a1), .val (.ref a2), .val (.int (Int32.ofNat pre.length)), s3, s4] [(.int (Int32.ofNat ds.length)), (.int (Int32.ofNat cs.length))])) rfl (by rw [hml]; rfl) (argsL := [(.int (Int32.ofNat cs.length)), (.int (Int32.ofNat ds.length))]) (rest := []) (lenOf pd_301 rfl) rfl (by show 2 * 0 + _ ≤ _; exact Nat.le_of_eq rfl) (hb hby d_prog_14_method_8_62) (fun _ _ => ⟨rfl, K341, (by decide : 0 + 0 ≤ _), (by decide : 0 + 0 ≤ _)⟩)
          dsimp only [Pt.U, Pt.locs, Pt.cells, Pt.slots] at X343 l343 y343 z343 st343 hQ343
          subst l343 y343 z343
          obtain ⟨rfl, N343q, K343⟩ := hQ343
          have N343 := Fr.app N341 N343q
          refine own_Go.st st343 ?_
          show own_Go _ _ _ _ (T343.setTop (mkF m 65 #[.val (.ref a1), .val (.ref a2), .val (.int (Int32.ofNat pre.length)), s3, s4] [(.int (own_cmpI (Int32.ofNat cs.length) (Int32.ofNat ds.length)))]))
          obtain ⟨fs344, hr344, hrun344, hend344, hW344, hsm344⟩ := X343.leave (v := some (.int (own_cmpI (Int32.ofNat cs.length) (Int32.ofNat ds.length)))) (fun h => by rw [Bd.returns] at h; cases h)
          subst hPP
          refine ⟨_, _, own_retI X343 hx Bd.returns (hb hby d_prog_14_method_8_65) hr344, hrun344, hend344, _, _, rfl, ?_, ⟨_, rfl⟩, hW344, hsm344.mono (by decide) (by decide)⟩
          · show Q_compare Z _ _ _ _ _ _ _ _ _ _ h0 _ T343.heap _
            rw [K343]
            exact ⟨(by
                have q1 := p0_.le
                have q2 := p1_.le
                rw [hcm, hcs, hds]
                rw [hcs] at q1
                rw [hds] at q2
                rw [own_endL hend q1 q2]), N343, rfl⟩
      ·
        refine own_Go.st (fun _ k => XS.icmpYes X330.here hx rfl (pc0 := 7) (pc' := 54) rfl (hb hby d_prog_14_method_8_7) rfl (flt h7).2.1 (by decide) (by decide) k) ?_
        show own_Go _ _ _ _ (T330.setTop (mkF m 54 #[.val (.ref a1), .val (.ref a2), .val (.int (Int32.ofNat pre.length)), s3, s4] []))
        have hle1 := p0_.le
        have hle2 := p1_.le
        have hpl : pre.length ≤ cs.length := by rw [hcs, List.length_append]; omega
        have hpl2 : pre.length ≤ ds.length := by rw [hds, List.length_append]; omega
        have h7' : ¬ pre.length < cs.length := fun q => h7 ((own_oflt (by omega) (by omega)).mpr q)
        have hend : P1 = [] ∨ Q1 = [] := Or.inl (by
          apply own_encsL.mp
          apply List.eq_nil_of_length_eq_zero
          rw [hcs, List.length_append] at h7'
          omega)
        refine own_Go.st (fun _ k => XS.aloadN X330.here hx rfl (hb hby d_prog_14_method_8_54) rfl rfl k) ?_
        show own_Go _ _ _ _ (T330.setTop (mkF m 55 #[.val (.ref a1), .val (.ref a2), .val (.int (Int32.ofNat pre.length)), s3, s4] [(.ref a1)]))
        obtain ⟨kb346, cd346, N346_, vs346, s1346, s2346, s3346, s4346, s5346, s6346, s7346⟩ := id p0_
        obtain ⟨cq345, kq345, q345a, q345b, q345c⟩ := isOf hZ K330 p0_.exa
        obtain ⟨_, _, ⟨T345, L345, k345, n345⟩, -, X345, ⟨Lc345, hQ345, l345, y345, z345⟩, st345⟩ := X330.virtualBack hx (y := (⟨"java/lang/String", "length", "()I"⟩ : MethodName)) (z := (⟨"java/lang/String", "length", "()I"⟩ : MethodName)) hown (mvT hZ (hw _ (List.mem_of_getElem? (i := 38) rfl))) (mvT hZ (hw _ (List.mem_of_getElem? (i := 39) rfl))) (notFace_of_selects (args := #[]) (mvT hZ (hw _ (List.mem_of_getElem? (i := 41) rfl)))) (mvT hZ (hw _ (List.mem_of_getElem? (i := 41) rfl))) (mvT hZ (hw _ (List.mem_of_getElem? (i := 40) rfl))) (by decide) (StrChars.Road.lenW (W := 0) hZ (own_hln hw) (kI := 4) (hw _ (List.mem_of_getElem? (i := 13) rfl)) s1346 s2346 s3346 s4346 s5346 s6346 (st_COMPACT_STRINGS.ext OL.2) hzc s7346 (by decide) (by decide)) q345a q345c (g := (mkF m 55 #[.val (.ref a1), .val (.ref a2), .val (.int (Int32.ofNat pre.length)), s3, s4] [(.ref a1)])) rfl (by rw [hml]; rfl) (Steps.refl _) (argsL := []) (rest := []) (lenOf pd_438 rfl) rfl (by show 2 * 0 + _ ≤ _; exact Nat.le_of_eq rfl) (hb hby d_prog_14_method_8_55) (fun _ _ => ⟨rfl, K330, (by decide : 0 + 0 ≤ _), (by decide : 0 + 0 ≤ _)⟩)
        dsimp only [Pt.U, Pt.locs, Pt.cells, Pt.slots] at X345 l345 y345 z345 st345 hQ345
        subst l345 y345 z345
        obtain ⟨rfl, rfl, K345⟩ := hQ345
        have N345 := Fr.app N330 (Fr.nil Z.heap.size)
        refine own_Go.tr st345 ?_
        show own_Go _ _ _ _ (T345.setTop (mkF m 58 #[.val (.ref a1), .val (.ref a2), .val (.int (Int32.ofNat pre.length)), s3, s4] [(.int (Int32.ofNat cs.length))]))
        refine own_Go.st (fun _ k => XS.aloadN X345.here hx rfl (hb hby d_prog_14_method_8_58) rfl rfl k) ?_
        show own_Go _ _ _ _ (T345.setTop (mkF m 59 #[.val (.ref a1), .val (.ref a2), .val (.int (Int32.ofNat pre.length)), s3, s4] [(.ref a2), (.int (Int32.ofNat cs.length))]))
        obtain ⟨kb348, cd348, N348_, vs348, s1348, s2348, s3348, s4348, s5348, s6348, s7348⟩ := id p1_
        obtain ⟨cq347, kq347, q347a, q347b, q347c⟩ := isOf hZ K345 p1_.exa
        obtain ⟨_, _, ⟨T347, L347, k347, n347⟩, -, X347, ⟨Lc347, hQ347, l347, y347, z347⟩, st347⟩ := X345.virtualBack hx (y := (⟨"java/lang/String", "length", "()I"⟩ : MethodName)) (z := (⟨"java/lang/String", "length", "()I"⟩ : MethodName)) hown (mvT hZ (hw _ (List.mem_of_getElem? (i := 38) rfl))) (mvT hZ (hw _ (List.mem_of_getElem? (i := 39) rfl))) (notFace_of_selects (args := #[]) (mvT hZ (hw _ (List.mem_of_getElem? (i := 41) rfl)))) (mvT hZ (hw _ (List.mem_of_getElem? (i := 41) rfl))) (mvT hZ (hw _ (List.mem_of_getElem? (i := 40) rfl))) (by decide) (StrChars.Road.lenW (W := 1) hZ (own_hln hw) (kI := 4) (hw _ (List.mem_of_getElem? (i := 13) rfl)) s1348 s2348 s3348 s4348 s5348 s6348 (st_COMPACT_STRINGS.ext OL.2) hzc s7348 (by decide) (by decide)) q347a q347c (g := (mkF m 59 #[.val (.ref a1), .val (.ref a2), .val (.int (Int32.ofNat pre.length)), s3, s4] [(.ref a2), (.int (Int32.ofNat cs.length))])) rfl (by rw [hml]; rfl) (Steps.refl _) (argsL := []) (rest := [(.int (Int32.ofNat cs.length))]) (lenOf pd_438 rfl) rfl (by show 2 * 0 + _ ≤ _; exact Nat.le_of_eq rfl) (hb hby d_prog_14_method_8_59) (fun _ _ => ⟨rfl, K345, (by decide : 0 + 0 ≤ _), (by decide : 0 + 0 ≤ _)⟩)
        dsimp only [Pt.U, Pt.locs, Pt.cells, Pt.slots] at X347 l347 y347 z347 st347 hQ347
        subst l347 y347 z347
        obtain ⟨rfl, rfl, K347⟩ := hQ347
        have N347 := Fr.app N345 (Fr.nil Z.heap.size)
        refine own_Go.tr st347 ?_
        show own_Go _ _ _ _ (T347.setTop (mkF m 62 #[.val (.ref a1), .val (.ref a2), .val (.int (Int32.ofNat pre.length)), s3, s4] [(.int (Int32.ofNat ds.length)), (.int (Int32.ofNat cs.length))]))
        obtain ⟨_, _, ⟨T349, L349, k349, n349⟩, -, X349, ⟨Lc349, hQ349, l349, y349, z349⟩, st349⟩ := Jvm.LawKit.callS X347 hx (y := (⟨"java/lang/Integer", "compare", "(II)I"⟩ : MethodName)) hown (mvT hZ (hw _ (List.mem_of_getElem? (i := 49) rfl))) (mvT hZ (hw _ (List.mem_of_getElem? (i := 50) rfl))) (mvT hZ (hw _ (List.mem_of_getElem? (i := 51) rfl))) (mvT hZ (hw _ (List.mem_of_getElem? (i := 52) rfl))) (by decide) (backOf (W := 0) (rm_icmp l Z a0 hw [] (Int32.ofNat cs.length) (Int32.ofNat ds.length) h0 OL ) hZ (hw _ (List.mem_of_getElem? (i := 52) rfl)) (hw _ (List.mem_of_getElem? (i := 51) rfl)) (by decide) (by decide)) (g := (mkF m 62 #[.val (.ref a1), .val (.ref a2), .val (.int (Int32.ofNat pre.length)), s3, s4] [(.int (Int32.ofNat ds.length)), (.int (Int32.ofNat cs.length))])) rfl (by rw [hml]; rfl) (argsL := [(.int (Int32.ofNat cs.length)), (.int (Int32.ofNat ds.length))]) (rest := []) (lenOf pd_301 rfl) rfl (by show 2 * 0 + _ ≤ _; exact Nat.le_of_eq rfl) (hb hby d_prog_14_method_8_62) (fun _ _ => ⟨rfl, K347, (by decide : 0 + 0 ≤ _), (by decide : 0 + 0 ≤ _)⟩)
        dsimp only [Pt.U, Pt.locs, Pt.cells, Pt.slots] at X349 l349 y349 z349 st349 hQ349
        subst l349 y349 z349
        obtain ⟨rfl, N349q, K349⟩ := hQ349
        have N349 := Fr.app N347 N349q
        refine own_Go.st st349 ?_
        show own_Go _ _ _ _ (T349.setTop (mkF m 65 #[.val (.ref a1), .val (.ref a2), .val (.int (Int32.ofNat pre.length)), s3, s4] [(.int (own_cmpI (Int32.ofNat cs.length) (Int32.ofNat ds.length)))]))
        obtain ⟨fs350, hr350, hrun350, hend350, hW350, hsm350⟩ := X349.leave (v := some (.int (own_cmpI (Int32.ofNat cs.length) (Int32.ofNat ds.length)))) (fun h => by rw [Bd.returns] at h; cases h)
        subst hPP
        refine ⟨_, _, own_retI X349 hx Bd.returns (hb hby d_prog_14_method_8_65) hr350, hrun350, hend350, _, _, rfl, ?_, ⟨_, rfl⟩, hW350, hsm350.mono (by decide) (by decide)⟩
        · show Q_compare Z _ _ _ _ _ _ _ _ _ _ h0 _ T349.heap _
          rw [K349]
          exact ⟨(by
              have q1 := p0_.le
              have q2 := p1_.le
              rw [hcm, hcs, hds]
              rw [hcs] at q1
              rw [hds] at q2
              rw [own_endL hend q1 q2]), N349, rfl⟩
  exact LP329 _ [] P Q .unset .unset s₁ _ hP hQ vP vQ rfl One.u One.u X0 e0 N0 rfl
theorem ef_472 (m : MethodId) (x0 : Int32) (x1 : Int32) (x2 : Int32) : entryFrame m #[(.int x0), (.int x1), (.int x2)] 3 = mkF m 0 #[.val (.int x0), .val (.int x1), .val (.int x2)] [] := by first | (simp [entryFrame, mkF, argsToLocals, Value.category]; done) | rfl
theorem d_method_5_0 : decode method_5_code 0 = .ok (.iload_n 0, 1) := by decide +kernel
theorem d_method_5_1 : decode method_5_code 1 = .ok (.ifCond .ne 14, 3) := by decide +kernel
theorem d_method_5_4 : decode method_5_code 4 = .ok (.new 13, 3) := by decide +kernel
theorem d_method_5_7 : decode method_5_code 7 = .ok (.dup, 1) := by decide +kernel
theorem d_method_5_8 : decode method_5_code 8 = .ok (.iconst 0, 1) := by decide +kernel
theorem d_method_5_9 : decode method_5_code 9 = .ok (.newarray .char, 2) := by decide +kernel
theorem pd_479 : parseMethodDescriptor "([C)V" = some ⟨[(.array .char)], none⟩ := by decide +kernel
theorem d_method_5_11 : decode method_5_code 11 = .ok (.invokespecial 15, 3) := by decide +kernel
theorem d_method_5_14 : decode method_5_code 14 = .ok (.areturn, 1) := by decide +kernel
theorem d_method_5_15 : decode method_5_code 15 = .ok (.iload_n 0, 1) := by decide +kernel
theorem d_method_5_16 : decode method_5_code 16 = .ok (.iconst 1, 1) := by decide +kernel
theorem d_method_5_17 : decode method_5_code 17 = .ok (.if_icmp .ne 50, 3) := by decide +kernel
theorem d_method_5_20 : decode method_5_code 20 = .ok (.iload_n 1, 1) := by decide +kernel
theorem d_method_5_21 : decode method_5_code 21 = .ok (.ldc 10, 2) := by decide +kernel
theorem d_method_5_23 : decode method_5_code 23 = .ok (.if_icmp .ge 19, 3) := by decide +kernel
theorem d_method_5_26 : decode method_5_code 26 = .ok (.new 13, 3) := by decide +kernel
theorem d_method_5_29 : decode method_5_code 29 = .ok (.dup, 1) := by decide +kernel
theorem d_method_5_30 : decode method_5_code 30 = .ok (.iconst 1, 1) := by decide +kernel
theorem d_method_5_31 : decode method_5_code 31 = .ok (.newarray .char, 2) := by decide +kernel
theorem d_method_5_33 : decode method_5_code 33 = .ok (.dup, 1) := by decide +kernel
theorem d_method_5_34 : decode method_5_code 34 = .ok (.iconst 0, 1) := by decide +kernel
theorem d_method_5_35 : decode method_5_code 35 = .ok (.iload_n 1, 1) := by decide +kernel
theorem d_method_5_36 : decode method_5_code 36 = .ok (.i2c, 1) := by decide +kernel
theorem d_method_5_37 : decode method_5_code 37 = .ok (.castore, 1) := by decide +kernel
theorem d_method_5_38 : decode method_5_code 38 = .ok (.invokespecial 15, 3) := by decide +kernel
theorem d_method_5_41 : decode method_5_code 41 = .ok (.areturn, 1) := by decide +kernel
theorem d_method_5_42 : decode method_5_code 42 = .ok (.new 13, 3) := by decide +kernel
theorem d_method_5_45 : decode method_5_code 45 = .ok (.dup, 1) := by decide +kernel
theorem d_method_5_46 : decode method_5_code 46 = .ok (.iconst 2, 1) := by decide +kernel
theorem d_method_5_47 : decode method_5_code 47 = .ok (.newarray .char, 2) := by decide +kernel
theorem d_method_5_49 : decode method_5_code 49 = .ok (.dup, 1) := by decide +kernel
theorem d_method_5_50 : decode method_5_code 50 = .ok (.iconst 0, 1) := by decide +kernel
theorem d_method_5_51 : decode method_5_code 51 = .ok (.iload_n 1, 1) := by decide +kernel
theorem pd_506 : parseMethodDescriptor "(I)C" = some ⟨[.int], some .char⟩ := by decide +kernel
theorem d_method_5_52 : decode method_5_code 52 = .ok (.invokestatic 18, 3) := by decide +kernel
theorem d_method_5_55 : decode method_5_code 55 = .ok (.castore, 1) := by decide +kernel
theorem d_method_5_56 : decode method_5_code 56 = .ok (.dup, 1) := by decide +kernel
theorem d_method_5_57 : decode method_5_code 57 = .ok (.iconst 1, 1) := by decide +kernel
theorem d_method_5_58 : decode method_5_code 58 = .ok (.iload_n 1, 1) := by decide +kernel
theorem d_method_5_59 : decode method_5_code 59 = .ok (.invokestatic 24, 3) := by decide +kernel
theorem d_method_5_62 : decode method_5_code 62 = .ok (.castore, 1) := by decide +kernel
theorem d_method_5_63 : decode method_5_code 63 = .ok (.invokespecial 15, 3) := by decide +kernel
theorem d_method_5_66 : decode method_5_code 66 = .ok (.areturn, 1) := by decide +kernel
theorem d_method_5_67 : decode method_5_code 67 = .ok (.iload_n 1, 1) := by decide +kernel
theorem d_method_5_68 : decode method_5_code 68 = .ok (.ldc 10, 2) := by decide +kernel
theorem d_method_5_70 : decode method_5_code 70 = .ok (.if_icmp .ge 60, 3) := by decide +kernel
theorem d_method_5_73 : decode method_5_code 73 = .ok (.iload_n 2, 1) := by decide +kernel
theorem d_method_5_74 : decode method_5_code 74 = .ok (.ldc 10, 2) := by decide +kernel
theorem d_method_5_76 : decode method_5_code 76 = .ok (.if_icmp .ge 24, 3) := by decide +kernel
theorem d_method_5_79 : decode method_5_code 79 = .ok (.new 13, 3) := by decide +kernel
theorem d_method_5_82 : decode method_5_code 82 = .ok (.dup, 1) := by decide +kernel
theorem d_method_5_83 : decode method_5_code 83 = .ok (.iconst 2, 1) := by decide +kernel
theorem d_method_5_84 : decode method_5_code 84 = .ok (.newarray .char, 2) := by decide +kernel
theorem d_method_5_86 : decode method_5_code 86 = .ok (.dup, 1) := by decide +kernel
theorem d_method_5_87 : decode method_5_code 87 = .ok (.iconst 0, 1) := by decide +kernel
theorem d_method_5_88 : decode method_5_code 88 = .ok (.iload_n 1, 1) := by decide +kernel
theorem d_method_5_89 : decode method_5_code 89 = .ok (.i2c, 1) := by decide +kernel
theorem d_method_5_90 : decode method_5_code 90 = .ok (.castore, 1) := by decide +kernel
theorem d_method_5_91 : decode method_5_code 91 = .ok (.dup, 1) := by decide +kernel
theorem d_method_5_92 : decode method_5_code 92 = .ok (.iconst 1, 1) := by decide +kernel
theorem d_method_5_93 : decode method_5_code 93 = .ok (.iload_n 2, 1) := by decide +kernel
theorem d_method_5_94 : decode method_5_code 94 = .ok (.i2c, 1) := by decide +kernel
theorem d_method_5_95 : decode method_5_code 95 = .ok (.castore, 1) := by decide +kernel
theorem d_method_5_96 : decode method_5_code 96 = .ok (.invokespecial 15, 3) := by decide +kernel
theorem d_method_5_99 : decode method_5_code 99 = .ok (.areturn, 1) := by decide +kernel
theorem d_method_5_100 : decode method_5_code 100 = .ok (.new 13, 3) := by decide +kernel
theorem d_method_5_103 : decode method_5_code 103 = .ok (.dup, 1) := by decide +kernel
theorem d_method_5_104 : decode method_5_code 104 = .ok (.iconst 3, 1) := by decide +kernel
theorem d_method_5_105 : decode method_5_code 105 = .ok (.newarray .char, 2) := by decide +kernel
theorem d_method_5_107 : decode method_5_code 107 = .ok (.dup, 1) := by decide +kernel
theorem d_method_5_108 : decode method_5_code 108 = .ok (.iconst 0, 1) := by decide +kernel
theorem d_method_5_109 : decode method_5_code 109 = .ok (.iload_n 1, 1) := by decide +kernel
theorem d_method_5_110 : decode method_5_code 110 = .ok (.i2c, 1) := by decide +kernel
theorem d_method_5_111 : decode method_5_code 111 = .ok (.castore, 1) := by decide +kernel
theorem d_method_5_112 : decode method_5_code 112 = .ok (.dup, 1) := by decide +kernel
theorem d_method_5_113 : decode method_5_code 113 = .ok (.iconst 1, 1) := by decide +kernel
theorem d_method_5_114 : decode method_5_code 114 = .ok (.iload_n 2, 1) := by decide +kernel
theorem d_method_5_115 : decode method_5_code 115 = .ok (.invokestatic 18, 3) := by decide +kernel
theorem d_method_5_118 : decode method_5_code 118 = .ok (.castore, 1) := by decide +kernel
theorem d_method_5_119 : decode method_5_code 119 = .ok (.dup, 1) := by decide +kernel
theorem d_method_5_120 : decode method_5_code 120 = .ok (.iconst 2, 1) := by decide +kernel
theorem d_method_5_121 : decode method_5_code 121 = .ok (.iload_n 2, 1) := by decide +kernel
theorem d_method_5_122 : decode method_5_code 122 = .ok (.invokestatic 24, 3) := by decide +kernel
theorem d_method_5_125 : decode method_5_code 125 = .ok (.castore, 1) := by decide +kernel
theorem d_method_5_126 : decode method_5_code 126 = .ok (.invokespecial 15, 3) := by decide +kernel
theorem d_method_5_129 : decode method_5_code 129 = .ok (.areturn, 1) := by decide +kernel
theorem d_method_5_130 : decode method_5_code 130 = .ok (.iload_n 2, 1) := by decide +kernel
theorem d_method_5_131 : decode method_5_code 131 = .ok (.ldc 10, 2) := by decide +kernel
theorem d_method_5_133 : decode method_5_code 133 = .ok (.if_icmp .ge 33, 3) := by decide +kernel
theorem d_method_5_136 : decode method_5_code 136 = .ok (.new 13, 3) := by decide +kernel
theorem d_method_5_139 : decode method_5_code 139 = .ok (.dup, 1) := by decide +kernel
theorem d_method_5_140 : decode method_5_code 140 = .ok (.iconst 3, 1) := by decide +kernel
theorem d_method_5_141 : decode method_5_code 141 = .ok (.newarray .char, 2) := by decide +kernel
theorem d_method_5_143 : decode method_5_code 143 = .ok (.dup, 1) := by decide +kernel
theorem d_method_5_144 : decode method_5_code 144 = .ok (.iconst 0, 1) := by decide +kernel
theorem d_method_5_145 : decode method_5_code 145 = .ok (.iload_n 1, 1) := by decide +kernel
theorem d_method_5_146 : decode method_5_code 146 = .ok (.invokestatic 18, 3) := by decide +kernel
theorem d_method_5_149 : decode method_5_code 149 = .ok (.castore, 1) := by decide +kernel
theorem d_method_5_150 : decode method_5_code 150 = .ok (.dup, 1) := by decide +kernel
theorem d_method_5_151 : decode method_5_code 151 = .ok (.iconst 1, 1) := by decide +kernel
theorem d_method_5_152 : decode method_5_code 152 = .ok (.iload_n 1, 1) := by decide +kernel
theorem d_method_5_153 : decode method_5_code 153 = .ok (.invokestatic 24, 3) := by decide +kernel
theorem d_method_5_156 : decode method_5_code 156 = .ok (.castore, 1) := by decide +kernel
theorem d_method_5_157 : decode method_5_code 157 = .ok (.dup, 1) := by decide +kernel
theorem d_method_5_158 : decode method_5_code 158 = .ok (.iconst 2, 1) := by decide +kernel
theorem d_method_5_159 : decode method_5_code 159 = .ok (.iload_n 2, 1) := by decide +kernel
theorem d_method_5_160 : decode method_5_code 160 = .ok (.i2c, 1) := by decide +kernel
theorem d_method_5_161 : decode method_5_code 161 = .ok (.castore, 1) := by decide +kernel
theorem d_method_5_162 : decode method_5_code 162 = .ok (.invokespecial 15, 3) := by decide +kernel
theorem d_method_5_165 : decode method_5_code 165 = .ok (.areturn, 1) := by decide +kernel
theorem d_method_5_166 : decode method_5_code 166 = .ok (.new 13, 3) := by decide +kernel
theorem d_method_5_169 : decode method_5_code 169 = .ok (.dup, 1) := by decide +kernel
theorem d_method_5_170 : decode method_5_code 170 = .ok (.iconst 4, 1) := by decide +kernel
theorem d_method_5_171 : decode method_5_code 171 = .ok (.newarray .char, 2) := by decide +kernel
theorem d_method_5_173 : decode method_5_code 173 = .ok (.dup, 1) := by decide +kernel
theorem d_method_5_174 : decode method_5_code 174 = .ok (.iconst 0, 1) := by decide +kernel
theorem d_method_5_175 : decode method_5_code 175 = .ok (.iload_n 1, 1) := by decide +kernel
theorem d_method_5_176 : decode method_5_code 176 = .ok (.invokestatic 18, 3) := by decide +kernel
theorem d_method_5_179 : decode method_5_code 179 = .ok (.castore, 1) := by decide +kernel
theorem d_method_5_180 : decode method_5_code 180 = .ok (.dup, 1) := by decide +kernel
theorem d_method_5_181 : decode method_5_code 181 = .ok (.iconst 1, 1) := by decide +kernel
theorem d_method_5_182 : decode method_5_code 182 = .ok (.iload_n 1, 1) := by decide +kernel
theorem d_method_5_183 : decode method_5_code 183 = .ok (.invokestatic 24, 3) := by decide +kernel
theorem d_method_5_186 : decode method_5_code 186 = .ok (.castore, 1) := by decide +kernel
theorem d_method_5_187 : decode method_5_code 187 = .ok (.dup, 1) := by decide +kernel
theorem d_method_5_188 : decode method_5_code 188 = .ok (.iconst 2, 1) := by decide +kernel
theorem d_method_5_189 : decode method_5_code 189 = .ok (.iload_n 2, 1) := by decide +kernel
theorem d_method_5_190 : decode method_5_code 190 = .ok (.invokestatic 18, 3) := by decide +kernel
theorem d_method_5_193 : decode method_5_code 193 = .ok (.castore, 1) := by decide +kernel
theorem d_method_5_194 : decode method_5_code 194 = .ok (.dup, 1) := by decide +kernel
theorem d_method_5_195 : decode method_5_code 195 = .ok (.iconst 3, 1) := by decide +kernel
theorem d_method_5_196 : decode method_5_code 196 = .ok (.iload_n 2, 1) := by decide +kernel
theorem d_method_5_197 : decode method_5_code 197 = .ok (.invokestatic 24, 3) := by decide +kernel
theorem d_method_5_200 : decode method_5_code 200 = .ok (.castore, 1) := by decide +kernel
theorem d_method_5_201 : decode method_5_code 201 = .ok (.invokespecial 15, 3) := by decide +kernel
theorem d_method_5_204 : decode method_5_code 204 = .ok (.areturn, 1) := by decide +kernel
def Q_str (Z : State) (p1 : Int32) (p2 : Int32) (p3 : Int32) (zc : Int32) (h0 : Heap) (v : Option Value) (h : Heap) (L : List Loc) : Prop := ∃ (x : Nat), ∃ (t : Nat), ∃ (cs : List Int32), v = some (.ref x) ∧ Fr Z.heap.size L ∧ Keep h0 h [] ∧ own_Str Z h x t cs ∧ (cs = own_encs (own_pts p1 p2 p3))
set_option maxRecDepth 65536 in
set_option maxHeartbeats 40000000 in
theorem rm_str (l : Launch) (Z : State) (a0 : Array Value) (hw : ∀ d ∈ tables_1, d.before a0 Z = true) (ws : List Jvm.Cond) (p1 : Int32) (p2 : Int32) (p3 : Int32) (zc : Int32) (h0 : Heap) (hEL : EW Z a0 consts_1) (OL : Old Z Z.heap.size h0) (st_COMPACT_STRINGS : Sta Z Z.heap "java/lang/String" "COMPACT_STRINGS" "Z" (.int zc)) (st__assertionsDisabled : Sta Z Z.heap "java/lang/StringUTF16" "$assertionsDisabled" "Z" (.int (1 : Int32))) (st_HI_BYTE_SHIFT : Sta Z Z.heap "java/lang/StringUTF16" "HI_BYTE_SHIFT" "I" (.int (0 : Int32))) (st_LO_BYTE_SHIFT : Sta Z Z.heap "java/lang/StringUTF16" "LO_BYTE_SHIFT" "I" (.int (8 : Int32))) (hzc : ¬ zc = 0) (hv2 : own_vp p2) (hv3 : own_vp p3) :
    MetFree l (⟨"com/example/keep_to_layer/keeptolayer/model/ClassNamesComparePinLaw", "str", "(III)Ljava/lang/String;"⟩ : MethodName) (head1 (Jvm.Cond.code (⟨"com/example/keep_to_layer/keeptolayer/model/ClassNamesComparePinLaw", "str", "(III)Ljava/lang/String;"⟩ : MethodName) method_5_code 3 (some (.object "java/lang/String")) :: ws) ({ frames := 6, cells := 6, slots := 20, locals := 90 } : Room)) (fun a U => a = #[(.int p1), (.int p2), (.int p3)] ∧ Z.Warmed39 U.vm ∧ U.heap = h0 ∧ CHv Z consts_1 U.vm h0) (fun _ _ _ _ _ => True) (fun _ U o U' => ∃ v L, o = .returned v ∧ Q_str Z p1 p2 p3 zc h0 v U'.heap L ∧ CHr Z consts_1 U.vm U.heap U'.vm U'.heap ∧ ReturnedEndW U o U' L ({ frames := 6, cells := 6, slots := 20, locals := 90 } : Room).cells ({ frames := 6, cells := 6, slots := 20, locals := 90 } : Room).slots) := by
  refine MetFree.of_bodySF (plainFor_of_name pn_220) hisR ?_
  intro p e s m args below meth c s₁ Bd hml0 hP hK
  obtain ⟨rfl, hZ, hh, hC0⟩ := hP
  have hx := Bd.exec
  have hby := Bd.bytes
  have hml : c.maxLocals = 3 := hml0
  have hown : s.vm.findClass "com/example/keep_to_layer/keeptolayer/model/ClassNamesComparePinLaw" = some m.cls := findClass_of_methodNamed Bd.named
  have hnm := (name_of_methodNamed Bd.named Bd.method).1
  have X0 : Stand p l e ({ frames := 6, cells := 6, slots := 20, locals := 90 } : Room) (s.setVm s.vm) m #[(.int p1), (.int p2), (.int p3)] below meth c s₁ [] 0 0 := Stand.of_body Bd
  have e0 : s₁.heap = h0 := by rw [← hh, Bd.state]; rfl
  have N0 := Fr.nil Z.heap.size
  have Z0 : Z.heap.size ≤ h0.size := OL.2.1
  have hS0 : s.Since s.vm h0.size := (State.WarmedH.refl s).since _
  have wS := own_wS hw
  have R0 : CHr Z consts_1 s.vm h0 s.vm h0 := CHr.refl hC0
  obtain ⟨PP, hPP⟩ : ∃ PP : Outcome → State → Prop, PP = (fun o tE => ∃ v L, o = .returned v ∧ Q_str Z p1 p2 p3 zc h0 v tE.heap L ∧ CHr Z consts_1 s.vm s.heap tE.vm tE.heap ∧ ReturnedEndW s o tE L ({ frames := 6, cells := 6, slots := 20, locals := 90 } : Room).cells ({ frames := 6, cells := 6, slots := 20, locals := 90 } : Room).slots) := ⟨_, rfl⟩
  show own_Go p.tables e below (fun o tE => ∃ v L, o = .returned v ∧ Q_str Z p1 p2 p3 zc h0 v tE.heap L ∧ CHr Z consts_1 s.vm s.heap tE.vm tE.heap ∧ ReturnedEndW s o tE L ({ frames := 6, cells := 6, slots := 20, locals := 90 } : Room).cells ({ frames := 6, cells := 6, slots := 20, locals := 90 } : Room).slots) (s₁.setTop (entryFrame m #[(.int p1), (.int p2), (.int p3)] 3))
  rw [← hPP]
  refine own_Go.st (fun t k => castTop (ef_472 m p1 p2 p3) k) ?_
  show own_Go _ _ _ _ (s₁.setTop (mkF m 0 #[.val (.int p1), .val (.int p2), .val (.int p3)] []))
  refine own_Go.st (fun _ k => XS.iloadN X0.here hx rfl (hb hby d_method_5_0) rfl k) ?_
  show own_Go _ _ _ _ (s₁.setTop (mkF m 1 #[.val (.int p1), .val (.int p2), .val (.int p3)] [(.int p1)]))
  by_cases hc351 : p1 = (0 : Int32)
  ·
    refine own_Go.st (fun _ k => XS.ifNo X0.here hx rfl (hb hby d_method_5_1) rfl ((if0 _ _).trans (teq hc351).2) k) ?_
    show own_Go _ _ _ _ (s₁.setTop (mkF m 4 #[.val (.int p1), .val (.int p2), .val (.int p3)] []))
    obtain ⟨T352, h352, X352, e352, E352, A352, D352, U352, st352⟩ := newO X0 hx hZ hown (hw _ (List.mem_of_getElem? (i := 12) rfl)) (hw _ (List.mem_of_getElem? (i := 13) rfl)) (hw _ (List.mem_of_getElem? (i := 14) rfl)) e0 (g := (mkF m 4 #[.val (.int p1), .val (.int p2), .val (.int p3)] [])) rfl (hb hby d_method_5_4) (by decide) (by decide)
    obtain ⟨b352, g352⟩ : ∃ z, z = h0.size := ⟨_, rfl⟩
    rw [← g352] at A352 D352 U352 st352
    refine own_Go.st st352 ?_
    have z352 : h0.size ≤ h352.size := E352.1
    have lt_b352 : @LT.lt Nat _ b352 h352.size := A352.lt
    have f353 : Fld Z h352 b352 "java/lang/String" "value" "[B" .null := D352 (Or.inr (hw _ (List.mem_of_getElem? (i := 28) rfl))) (ty := (.array .byte)) (by decide)
    have f354 : Fld Z h352 b352 "java/lang/String" "coder" "B" (.int (0 : Int32)) := D352 (Or.inr (hw _ (List.mem_of_getElem? (i := 29) rfl))) (ty := .byte) (by decide)
    have R352 : CHr Z consts_1 s.vm h0 s.vm h352 := R0.trans (CHr.ext E352 R0.1)
    have Sf352 : Safe Z consts_1 s.vm h352 b352 := (Safe.new (Nat.le_of_eq g352.symm)).ext E352 R0.1
    show own_Go _ _ _ _ (T352.setTop (mkF m 7 #[.val (.int p1), .val (.int p2), .val (.int p3)] [(.ref b352)]))
    refine own_Go.st (fun _ k => XS.dup X352.here hx rfl (hb hby d_method_5_7) rfl rfl k) ?_
    show own_Go _ _ _ _ (T352.setTop (mkF m 8 #[.val (.int p1), .val (.int p2), .val (.int p3)] [(.ref b352), (.ref b352)]))
    refine own_Go.st (fun _ k => XS.iconst X352.here hx rfl (hb hby d_method_5_8) k) ?_
    show own_Go _ _ _ _ (T352.setTop (mkF m 9 #[.val (.int p1), .val (.int p2), .val (.int p3)] [(.int (0 : Int32)), (.ref b352), (.ref b352)]))
    obtain ⟨T355, h355, k355, X355, e355, E355, A355, st355⟩ := newP X352 hx hZ (hw _ (List.mem_of_getElem? (i := 15) rfl)) e352 (g := (mkF m 9 #[.val (.int p1), .val (.int p2), .val (.int p3)] [(.int (0 : Int32)), (.ref b352), (.ref b352)])) rfl (hb hby d_method_5_9) rfl (by decide) (cap := 0) (by decide) (by decide) (by decide) (by decide)
    obtain ⟨b355, g355⟩ : ∃ z, z = h352.size := ⟨_, rfl⟩
    rw [← g355] at A355 st355
    refine own_Go.st st355 ?_
    have z355 : h352.size ≤ h355.size := E355.1
    have f356 : Arv Z h355 b355 k355 .char (0 : Int32) [] (.int (0 : Int32)) := (Arv.new A355 (by decide)).pad (pad_rep [] (.int (0 : Int32)) 0)
    have lt_b355 : @LT.lt Nat _ b355 h355.size := f356.lt
    have R355 : CHr Z consts_1 s.vm h0 s.vm h355 := R352.trans (CHr.ext E355 R352.1)
    have Sf357 : Safe Z consts_1 s.vm h355 b352 := Safe.ext E355 R352.1 Sf352
    show own_Go _ _ _ _ (T355.setTop (mkF m 11 #[.val (.int p1), .val (.int p2), .val (.int p3)] [(.ref b355), (.ref b352), (.ref b352)]))
    have f359 : Exa Z h355 b352 "java/lang/String" := A352.ext E355
    have f360 : Fld Z h355 b352 "java/lang/String" "value" "[B" .null := f353.ext E355
    have f361 : Fld Z h355 b352 "java/lang/String" "coder" "B" (.int (0 : Int32)) := f354.ext E355
    have f362 : Old Z Z.heap.size h352 := OL.ext E352
    have f363 : Old Z Z.heap.size h355 := f362.ext E355
    obtain ⟨_, _, ⟨T358, L358, k358, n358⟩, -, X358, hs358, hg358, ⟨Lc358, hQ358, l358, y358, z358, ch358⟩, st358⟩ := X355.specialBackS hx (y := (⟨"java/lang/String", "<init>", "([C)V"⟩ : MethodName)) rfl hown (mvT hZ (hw _ (List.mem_of_getElem? (i := 16) rfl))) (mvT hZ (hw _ (List.mem_of_getElem? (i := 17) rfl))) (mvT hZ (hw _ (List.mem_of_getElem? (i := 18) rfl))) (by decide) (backOfSH (s := s) (vm0 := s.vm) (W := 1) (rm_init1e l Z a0 hw [] b352 b355 k355 [] (.int (0 : Int32)) h355 hEL f363 f359 f360 f361 f356 (by omega)) hZ (hw _ (List.mem_of_getElem? (i := 18) rfl)) (hw _ (List.mem_of_getElem? (i := 14) rfl)) (by decide) (by decide) hEL R355.1) (g := (mkF m 11 #[.val (.int p1), .val (.int p2), .val (.int p3)] [(.ref b355), (.ref b352), (.ref b352)])) rfl (by rw [hml]; rfl) (Steps.refl _) (a := b352) (argsL := [(.ref b355)]) (rest := [(.ref b352)]) (lenOf pd_479 rfl) rfl (by show 2 * 0 + _ ≤ _; exact Nat.le_of_eq rfl) (hb hby d_method_5_11) (fun _ _ => ⟨rfl, e355, (by decide : 2 + 4 ≤ _), (by decide : 4 + 8 ≤ _)⟩)
    dsimp only [Pt.U, Pt.locs, Pt.cells, Pt.slots] at X358 l358 y358 z358 st358 hQ358 hs358 hg358 ch358
    subst l358 y358 z358
    obtain ⟨t_358, rfl, N358q, K358, f358_0⟩ := hQ358
    have N358 := Fr.app N0 N358q
    obtain ⟨Y358, hS358, hZ358, hown358⟩ := rebS hS0 (n1 := h355.size) (by omega) X358 hs358 (by have := hg358; first | exact this | (rw [← e355]; exact this)) hZ hown
    have z358 : h355.size ≤ T358.heap.size := K358.1
    have R358 : CHr Z consts_1 s.vm h0 T358.vm T358.heap := R355.trans ch358
    have Sf364 : Safe Z consts_1 T358.vm T358.heap b352 := ch358.safe (by show @LT.lt Nat _ b352 _; omega) Sf357
    have lt358_0 : @LT.lt Nat _ b352 T358.heap.size := f358_0.lt
    have ltv358_0 : @LT.lt Nat _ t_358 T358.heap.size := f358_0.ltv
    refine own_Go.tr st358 ?_
    show own_Go _ _ _ _ (T358.setTop (mkF m 14 #[.val (.int p1), .val (.int p2), .val (.int p3)] [(.ref b352)]))
    obtain ⟨fs365, hr365, hrun365, hend365, hret365⟩ := Y358.leaveW hS358 (by omega) (v := some (.ref b352)) (fun h => by rw [Bd.returns] at h; cases h)
    have K366 : Keep h0 h352 [] := (Keep.refl h0 []).ext E352
    have K367 : Keep h0 h355 [] := K366.ext E355
    have K368 : Keep h0 T358.heap [] := K367.trans K358 (allS (Or.inr (by omega)) all0)
    subst hPP
    refine ⟨_, _, own_retA Y358 hx Bd.returns rfl rfl (hb hby d_method_5_14) hr365, hrun365, hend365, _, _, rfl, ?_, ?_, hret365.1, hret365.2.1, hret365.2.2.1, hret365.2.2.2.mono (by decide) (by decide)⟩
    · show Q_str Z _ _ _ _ h0 _ T358.heap _
      exact ⟨b352, t_358, [], rfl, N358, K368, f358_0, (by unfold own_pts; rw [if_pos hc351]; first | done | (simp only [own_encs, own_enc, if_true, if_false]; try rfl))⟩
    · have hfin := R358.trans (CHv.at Y358 hZ358 hEL R358.1)
      rw [← hh] at hfin
      show CHr Z consts_1 s.vm s.heap T358.vm T358.heap
      exact hfin
  ·
    refine own_Go.st (fun _ k => XS.ifYes X0.here hx rfl (pc0 := 1) (pc' := 15) rfl (hb hby d_method_5_1) rfl ((if0 _ _).trans (feq hc351).2) (by decide) (by decide) k) ?_
    show own_Go _ _ _ _ (s₁.setTop (mkF m 15 #[.val (.int p1), .val (.int p2), .val (.int p3)] []))
    refine own_Go.st (fun _ k => XS.iloadN X0.here hx rfl (hb hby d_method_5_15) rfl k) ?_
    show own_Go _ _ _ _ (s₁.setTop (mkF m 16 #[.val (.int p1), .val (.int p2), .val (.int p3)] [(.int p1)]))
    refine own_Go.st (fun _ k => XS.iconst X0.here hx rfl (hb hby d_method_5_16) k) ?_
    show own_Go _ _ _ _ (s₁.setTop (mkF m 17 #[.val (.int p1), .val (.int p2), .val (.int p3)] [(.int (1 : Int32)), (.int p1)]))
    by_cases hc369 : p1 = (1 : Int32)
    ·
      refine own_Go.st (fun _ k => XS.icmpNo X0.here hx rfl (hb hby d_method_5_17) rfl (teq hc369).2 k) ?_
      show own_Go _ _ _ _ (s₁.setTop (mkF m 20 #[.val (.int p1), .val (.int p2), .val (.int p3)] []))
      refine own_Go.st (fun _ k => XS.iloadN X0.here hx rfl (hb hby d_method_5_20) rfl k) ?_
      show own_Go _ _ _ _ (s₁.setTop (mkF m 21 #[.val (.int p1), .val (.int p2), .val (.int p3)] [(.int p2)]))
      refine own_Go.st (X0.ldcInt hx hown (mvT hZ (hw _ (List.mem_of_getElem? (i := 7) rfl))) (g := (mkF m 21 #[.val (.int p1), .val (.int p2), .val (.int p3)] [(.int p2)])) rfl (hb hby d_method_5_21)) ?_
      show own_Go _ _ _ _ (s₁.setTop (mkF m 23 #[.val (.int p1), .val (.int p2), .val (.int p3)] [(.int (65536 : Int32)), (.int p2)]))
      by_cases hc370 : p2 < (65536 : Int32)
      ·
        refine own_Go.st (fun _ k => XS.icmpNo X0.here hx rfl (hb hby d_method_5_23) rfl (tlt hc370).2.1 k) ?_
        show own_Go _ _ _ _ (s₁.setTop (mkF m 26 #[.val (.int p1), .val (.int p2), .val (.int p3)] []))
        obtain ⟨T371, h371, X371, e371, E371, A371, D371, U371, st371⟩ := newO X0 hx hZ hown (hw _ (List.mem_of_getElem? (i := 12) rfl)) (hw _ (List.mem_of_getElem? (i := 13) rfl)) (hw _ (List.mem_of_getElem? (i := 14) rfl)) e0 (g := (mkF m 26 #[.val (.int p1), .val (.int p2), .val (.int p3)] [])) rfl (hb hby d_method_5_26) (by decide) (by decide)
        obtain ⟨b371, g371⟩ : ∃ z, z = h0.size := ⟨_, rfl⟩
        rw [← g371] at A371 D371 U371 st371
        refine own_Go.st st371 ?_
        have z371 : h0.size ≤ h371.size := E371.1
        have lt_b371 : @LT.lt Nat _ b371 h371.size := A371.lt
        have f372 : Fld Z h371 b371 "java/lang/String" "value" "[B" .null := D371 (Or.inr (hw _ (List.mem_of_getElem? (i := 28) rfl))) (ty := (.array .byte)) (by decide)
        have f373 : Fld Z h371 b371 "java/lang/String" "coder" "B" (.int (0 : Int32)) := D371 (Or.inr (hw _ (List.mem_of_getElem? (i := 29) rfl))) (ty := .byte) (by decide)
        have R371 : CHr Z consts_1 s.vm h0 s.vm h371 := R0.trans (CHr.ext E371 R0.1)
        have Sf371 : Safe Z consts_1 s.vm h371 b371 := (Safe.new (Nat.le_of_eq g371.symm)).ext E371 R0.1
        show own_Go _ _ _ _ (T371.setTop (mkF m 29 #[.val (.int p1), .val (.int p2), .val (.int p3)] [(.ref b371)]))
        refine own_Go.st (fun _ k => XS.dup X371.here hx rfl (hb hby d_method_5_29) rfl rfl k) ?_
        show own_Go _ _ _ _ (T371.setTop (mkF m 30 #[.val (.int p1), .val (.int p2), .val (.int p3)] [(.ref b371), (.ref b371)]))
        refine own_Go.st (fun _ k => XS.iconst X371.here hx rfl (hb hby d_method_5_30) k) ?_
        show own_Go _ _ _ _ (T371.setTop (mkF m 31 #[.val (.int p1), .val (.int p2), .val (.int p3)] [(.int (1 : Int32)), (.ref b371), (.ref b371)]))
        obtain ⟨T374, h374, k374, X374, e374, E374, A374, st374⟩ := newP X371 hx hZ (hw _ (List.mem_of_getElem? (i := 15) rfl)) e371 (g := (mkF m 31 #[.val (.int p1), .val (.int p2), .val (.int p3)] [(.int (1 : Int32)), (.ref b371), (.ref b371)])) rfl (hb hby d_method_5_31) rfl (by decide) (cap := 1) (by decide) (by decide) (by decide) (by decide)
        obtain ⟨b374, g374⟩ : ∃ z, z = h371.size := ⟨_, rfl⟩
        rw [← g374] at A374 st374
        refine own_Go.st st374 ?_
        have z374 : h371.size ≤ h374.size := E374.1
        have f375 : Arv Z h374 b374 k374 .char (1 : Int32) [(.int (0 : Int32))] (.int (0 : Int32)) := (Arv.new A374 (by decide)).pad (pad_rep [] (.int (0 : Int32)) 1)
        have lt_b374 : @LT.lt Nat _ b374 h374.size := f375.lt
        have R374 : CHr Z consts_1 s.vm h0 s.vm h374 := R371.trans (CHr.ext E374 R371.1)
        have Sf376 : Safe Z consts_1 s.vm h374 b371 := Safe.ext E374 R371.1 Sf371
        show own_Go _ _ _ _ (T374.setTop (mkF m 33 #[.val (.int p1), .val (.int p2), .val (.int p3)] [(.ref b374), (.ref b371), (.ref b371)]))
        refine own_Go.st (fun _ k => XS.dup X374.here hx rfl (hb hby d_method_5_33) rfl rfl k) ?_
        show own_Go _ _ _ _ (T374.setTop (mkF m 34 #[.val (.int p1), .val (.int p2), .val (.int p3)] [(.ref b374), (.ref b374), (.ref b371), (.ref b371)]))
        refine own_Go.st (fun _ k => XS.iconst X374.here hx rfl (hb hby d_method_5_34) k) ?_
        show own_Go _ _ _ _ (T374.setTop (mkF m 35 #[.val (.int p1), .val (.int p2), .val (.int p3)] [(.int (0 : Int32)), (.ref b374), (.ref b374), (.ref b371), (.ref b371)]))
        refine own_Go.st (fun _ k => XS.iloadN X374.here hx rfl (hb hby d_method_5_35) rfl k) ?_
        show own_Go _ _ _ _ (T374.setTop (mkF m 36 #[.val (.int p1), .val (.int p2), .val (.int p3)] [(.int p2), (.int (0 : Int32)), (.ref b374), (.ref b374), (.ref b371), (.ref b371)]))
        refine own_Go.st (fun _ k => XS.i2c X374.here hx rfl (hb hby d_method_5_36) rfl k) ?_
        show own_Go _ _ _ _ (T374.setTop (mkF m 37 #[.val (.int p1), .val (.int p2), .val (.int p3)] [(.int (p2.toUInt32.toUInt16.toUInt32.toInt32)), (.int (0 : Int32)), (.ref b374), (.ref b374), (.ref b371), (.ref b371)]))
        rw [own_c16 hv2 hc370]
        show own_Go _ _ _ _ (T374.setTop (mkF m 37 #[.val (.int p1), .val (.int p2), .val (.int p3)] [(.int p2), (.int (0 : Int32)), (.ref b374), (.ref b374), (.ref b371), (.ref b371)]))
        obtain ⟨c377, Ar377, q377, S377, Nn377, H377, G377⟩ := id f375
        have hin377 : ¬ ((0 : Int32) < 0 ∨ c377.slots.size ≤ ((0 : Int32)).toNatClampNeg) := inb_of S377 ⟨by decide, by decide⟩
        obtain ⟨T377, h377, X377, e377, W377, st377⟩ := stC X374 hx hZ e374 Ar377 (j := (0 : Int32)) hin377 (g := (mkF m 37 #[.val (.int p1), .val (.int p2), .val (.int p3)] [(.int p2), (.int (0 : Int32)), (.ref b374), (.ref b374), (.ref b371), (.ref b371)])) rfl rfl (hb hby d_method_5_37)
        refine own_Go.st st377 ?_
        have N377 := Fr.snoc X377 N0 (by omega)
        have Sf379 : Safe Z consts_1 s.vm h374 b374 := Safe.arv hZ.alike f375 (by decide)
        have z377 : h374.size ≤ h377.size := Nat.le_of_eq W377.size.symm
        have f378 := Arv.set Ar377 q377 S377 Nn377 H377 G377 (fits_nar_char _) W377 0 rfl (Nat.le_of_ble_eq_true rfl)
        rw [own_nar (own_c16r hv2 hc370)] at f378
        have f380 : Arv Z h377 b374 k374 .char (1 : Int32) [(.int p2)] (.int (0 : Int32)) := f378
        have R377 : CHr Z consts_1 s.vm h0 s.vm h377 := R374.trans (CHr.wr W377 Sf379 R374.1)
        have Sf381 : Safe Z consts_1 s.vm h377 b371 := Safe.wr W377 Sf379 R374.1 Sf376
        show own_Go _ _ _ _ (T377.setTop (mkF m 38 #[.val (.int p1), .val (.int p2), .val (.int p3)] [(.ref b374), (.ref b371), (.ref b371)]))
        have f383 : Exa Z h374 b371 "java/lang/String" := A371.ext E374
        have f384 : Exa Z h377 b371 "java/lang/String" := f383.wr W377
        have f385 : Fld Z h374 b371 "java/lang/String" "value" "[B" .null := f372.ext E374
        have f386 : Fld Z h377 b371 "java/lang/String" "value" "[B" .null := f385.other W377 (Or.inl (by show @Ne Nat b371 b374; omega))
        have f387 : Fld Z h374 b371 "java/lang/String" "coder" "B" (.int (0 : Int32)) := f373.ext E374
        have f388 : Fld Z h377 b371 "java/lang/String" "coder" "B" (.int (0 : Int32)) := f387.other W377 (Or.inl (by show @Ne Nat b371 b374; omega))
        have f389 : Old Z Z.heap.size h371 := OL.ext E371
        have f390 : Old Z Z.heap.size h374 := f389.ext E374
        have f391 : Old Z Z.heap.size h377 := f390.wr W377 (by omega)
        obtain ⟨_, _, ⟨T382, L382, k382, n382⟩, -, X382, ⟨Lc382, hQ382, l382, y382, z382⟩, st382⟩ := X377.specialBack hx (y := (⟨"java/lang/String", "<init>", "([C)V"⟩ : MethodName)) rfl hown (mvT hZ (hw _ (List.mem_of_getElem? (i := 16) rfl))) (mvT hZ (hw _ (List.mem_of_getElem? (i := 17) rfl))) (mvT hZ (hw _ (List.mem_of_getElem? (i := 18) rfl))) (by decide) (own_backStr (W := 1) (cs := [p2]) hZ hw f391 f384 f386 f388 f380 st_COMPACT_STRINGS st__assertionsDisabled st_HI_BYTE_SHIFT st_LO_BYTE_SHIFT rfl (Nat.le_of_ble_eq_true rfl) (Nat.le_of_ble_eq_true rfl) (own_aS (own_c16r hv2 hc370) own_a0) (by omega) (by first | assumption | decide) (by decide) (by decide)) (g := (mkF m 38 #[.val (.int p1), .val (.int p2), .val (.int p3)] [(.ref b374), (.ref b371), (.ref b371)])) rfl (by rw [hml]; rfl) (Steps.refl _) (a := b371) (argsL := [(.ref b374)]) (rest := [(.ref b371)]) (lenOf pd_479 rfl) rfl (by show 2 * 0 + _ ≤ _; exact Nat.le_of_eq rfl) (hb hby d_method_5_38) (fun _ _ => ⟨rfl, e377, (by decide : 2 + 2 ≤ _), (by decide : 5 + 12 ≤ _)⟩)
        dsimp only [Pt.U, Pt.locs, Pt.cells, Pt.slots] at X382 l382 y382 z382 st382 hQ382
        subst l382 y382 z382
        obtain ⟨t_382, rfl, N382q, K382, f382_0, pr382_0⟩ := hQ382
        have N382 := Fr.app N377 N382q
        have z382 : h377.size ≤ T382.heap.size := K382.1
        have R382 : CHr Z consts_1 s.vm h0 s.vm T382.heap := R377.trans (CHr.keep K382 (sfS Sf381 sf0) R377.1)
        have Sf392 : Safe Z consts_1 s.vm T382.heap b371 := Safe.keep K382 (sfS Sf381 sf0) R377.1 Sf381
        have lt382_0 : @LT.lt Nat _ b371 T382.heap.size := f382_0.lt
        have ltv382_0 : @LT.lt Nat _ t_382 T382.heap.size := f382_0.ltv
        refine own_Go.tr st382 ?_
        show own_Go _ _ _ _ (T382.setTop (mkF m 41 #[.val (.int p1), .val (.int p2), .val (.int p3)] [(.ref b371)]))
        obtain ⟨fs393, hr393, hrun393, hend393, hret393⟩ := X382.leaveW hS0 (by omega) (v := some (.ref b371)) (fun h => by rw [Bd.returns] at h; cases h)
        have K394 : Keep h0 h371 [] := (Keep.refl h0 []).ext E371
        have K395 : Keep h0 h374 [] := K394.ext E374
        have K396 : Keep h0 h377 [] := K395.wr W377 (Or.inr (by omega))
        have K397 : Keep h0 T382.heap [] := K396.trans K382 (allS (Or.inr (by omega)) all0)
        subst hPP
        refine ⟨_, _, own_retA X382 hx Bd.returns rfl rfl (hb hby d_method_5_41) hr393, hrun393, hend393, _, _, rfl, ?_, ?_, hret393.1, hret393.2.1, hret393.2.2.1, hret393.2.2.2.mono (by decide) (by decide)⟩
        · show Q_str Z _ _ _ _ h0 _ T382.heap _
          exact ⟨b371, t_382, [p2], rfl, N382, K397, f382_0, (by unfold own_pts; rw [if_neg hc351, if_pos hc369]; first | done | (simp only [own_encs, own_enc, hc370, if_true, if_false]; try rfl))⟩
        · have hfin := R382.trans (CHv.at X382 hZ hEL R382.1)
          rw [← hh] at hfin
          show CHr Z consts_1 s.vm s.heap T382.vm T382.heap
          exact hfin
      ·
        refine own_Go.st (fun _ k => XS.icmpYes X0.here hx rfl (pc0 := 23) (pc' := 42) rfl (hb hby d_method_5_23) rfl (flt hc370).2.1 (by decide) (by decide) k) ?_
        show own_Go _ _ _ _ (s₁.setTop (mkF m 42 #[.val (.int p1), .val (.int p2), .val (.int p3)] []))
        obtain ⟨T398, h398, X398, e398, E398, A398, D398, U398, st398⟩ := newO X0 hx hZ hown (hw _ (List.mem_of_getElem? (i := 12) rfl)) (hw _ (List.mem_of_getElem? (i := 13) rfl)) (hw _ (List.mem_of_getElem? (i := 14) rfl)) e0 (g := (mkF m 42 #[.val (.int p1), .val (.int p2), .val (.int p3)] [])) rfl (hb hby d_method_5_42) (by decide) (by decide)
        obtain ⟨b398, g398⟩ : ∃ z, z = h0.size := ⟨_, rfl⟩
        rw [← g398] at A398 D398 U398 st398
        refine own_Go.st st398 ?_
        have z398 : h0.size ≤ h398.size := E398.1
        have lt_b398 : @LT.lt Nat _ b398 h398.size := A398.lt
        have f399 : Fld Z h398 b398 "java/lang/String" "value" "[B" .null := D398 (Or.inr (hw _ (List.mem_of_getElem? (i := 28) rfl))) (ty := (.array .byte)) (by decide)
        have f400 : Fld Z h398 b398 "java/lang/String" "coder" "B" (.int (0 : Int32)) := D398 (Or.inr (hw _ (List.mem_of_getElem? (i := 29) rfl))) (ty := .byte) (by decide)
        have R398 : CHr Z consts_1 s.vm h0 s.vm h398 := R0.trans (CHr.ext E398 R0.1)
        have Sf398 : Safe Z consts_1 s.vm h398 b398 := (Safe.new (Nat.le_of_eq g398.symm)).ext E398 R0.1
        show own_Go _ _ _ _ (T398.setTop (mkF m 45 #[.val (.int p1), .val (.int p2), .val (.int p3)] [(.ref b398)]))
        refine own_Go.st (fun _ k => XS.dup X398.here hx rfl (hb hby d_method_5_45) rfl rfl k) ?_
        show own_Go _ _ _ _ (T398.setTop (mkF m 46 #[.val (.int p1), .val (.int p2), .val (.int p3)] [(.ref b398), (.ref b398)]))
        refine own_Go.st (fun _ k => XS.iconst X398.here hx rfl (hb hby d_method_5_46) k) ?_
        show own_Go _ _ _ _ (T398.setTop (mkF m 47 #[.val (.int p1), .val (.int p2), .val (.int p3)] [(.int (2 : Int32)), (.ref b398), (.ref b398)]))
        obtain ⟨T401, h401, k401, X401, e401, E401, A401, st401⟩ := newP X398 hx hZ (hw _ (List.mem_of_getElem? (i := 15) rfl)) e398 (g := (mkF m 47 #[.val (.int p1), .val (.int p2), .val (.int p3)] [(.int (2 : Int32)), (.ref b398), (.ref b398)])) rfl (hb hby d_method_5_47) rfl (by decide) (cap := 2) (by decide) (by decide) (by decide) (by decide)
        obtain ⟨b401, g401⟩ : ∃ z, z = h398.size := ⟨_, rfl⟩
        rw [← g401] at A401 st401
        refine own_Go.st st401 ?_
        have z401 : h398.size ≤ h401.size := E401.1
        have f402 : Arv Z h401 b401 k401 .char (2 : Int32) [(.int (0 : Int32)), (.int (0 : Int32))] (.int (0 : Int32)) := (Arv.new A401 (by decide)).pad (pad_rep [] (.int (0 : Int32)) 2)
        have lt_b401 : @LT.lt Nat _ b401 h401.size := f402.lt
        have R401 : CHr Z consts_1 s.vm h0 s.vm h401 := R398.trans (CHr.ext E401 R398.1)
        have Sf403 : Safe Z consts_1 s.vm h401 b398 := Safe.ext E401 R398.1 Sf398
        show own_Go _ _ _ _ (T401.setTop (mkF m 49 #[.val (.int p1), .val (.int p2), .val (.int p3)] [(.ref b401), (.ref b398), (.ref b398)]))
        refine own_Go.st (fun _ k => XS.dup X401.here hx rfl (hb hby d_method_5_49) rfl rfl k) ?_
        show own_Go _ _ _ _ (T401.setTop (mkF m 50 #[.val (.int p1), .val (.int p2), .val (.int p3)] [(.ref b401), (.ref b401), (.ref b398), (.ref b398)]))
        refine own_Go.st (fun _ k => XS.iconst X401.here hx rfl (hb hby d_method_5_50) k) ?_
        show own_Go _ _ _ _ (T401.setTop (mkF m 51 #[.val (.int p1), .val (.int p2), .val (.int p3)] [(.int (0 : Int32)), (.ref b401), (.ref b401), (.ref b398), (.ref b398)]))
        refine own_Go.st (fun _ k => XS.iloadN X401.here hx rfl (hb hby d_method_5_51) rfl k) ?_
        show own_Go _ _ _ _ (T401.setTop (mkF m 52 #[.val (.int p1), .val (.int p2), .val (.int p3)] [(.int p2), (.int (0 : Int32)), (.ref b401), (.ref b401), (.ref b398), (.ref b398)]))
        have f405 : Old Z Z.heap.size h398 := OL.ext E398
        have f406 : Old Z Z.heap.size h401 := f405.ext E401
        obtain ⟨_, _, ⟨T404, L404, k404, n404⟩, -, X404, ⟨Lc404, hQ404, l404, y404, z404⟩, st404⟩ := Jvm.LawKit.callS X401 hx (y := (⟨"com/example/keep_to_layer/keeptolayer/model/ClassNamesComparePinLaw", "hi", "(I)C"⟩ : MethodName)) hown (mvT hZ (hw _ (List.mem_of_getElem? (i := 69) rfl))) (mvT hZ (hw _ (List.mem_of_getElem? (i := 70) rfl))) (mvT hZ (hw _ (List.mem_of_getElem? (i := 3) rfl))) (mvT hZ (hw _ (List.mem_of_getElem? (i := 71) rfl))) (by decide) (backOf (W := 5) (rm_hi l Z a0 hw [] p2 h401 f406 hc370 hv2) hZ (hw _ (List.mem_of_getElem? (i := 71) rfl)) (hw _ (List.mem_of_getElem? (i := 3) rfl)) (by decide) (by decide)) (g := (mkF m 52 #[.val (.int p1), .val (.int p2), .val (.int p3)] [(.int p2), (.int (0 : Int32)), (.ref b401), (.ref b401), (.ref b398), (.ref b398)])) rfl (by rw [hml]; rfl) (argsL := [(.int p2)]) (rest := [(.int (0 : Int32)), (.ref b401), (.ref b401), (.ref b398), (.ref b398)]) (lenOf pd_506 rfl) rfl (by show 2 * 0 + _ ≤ _; exact Nat.le_of_eq rfl) (hb hby d_method_5_52) (fun _ _ => ⟨rfl, e401, (by decide : 2 + 0 ≤ _), (by decide : 6 + 0 ≤ _)⟩)
        dsimp only [Pt.U, Pt.locs, Pt.cells, Pt.slots] at X404 l404 y404 z404 st404 hQ404
        subst l404 y404 z404
        obtain ⟨rfl, N404q, K404⟩ := hQ404
        have N404 := Fr.app N0 N404q
        refine own_Go.st st404 ?_
        show own_Go _ _ _ _ (T404.setTop (mkF m 55 #[.val (.int p1), .val (.int p2), .val (.int p3)] [(.int (own_Hi p2)), (.int (0 : Int32)), (.ref b401), (.ref b401), (.ref b398), (.ref b398)]))
        obtain ⟨c407, Ar407, q407, S407, Nn407, H407, G407⟩ := id f402
        have hin407 : ¬ ((0 : Int32) < 0 ∨ c407.slots.size ≤ ((0 : Int32)).toNatClampNeg) := inb_of S407 ⟨by decide, by decide⟩
        obtain ⟨T407, h407, X407, e407, W407, st407⟩ := stC X404 hx hZ K404 Ar407 (j := (0 : Int32)) hin407 (g := (mkF m 55 #[.val (.int p1), .val (.int p2), .val (.int p3)] [(.int (own_Hi p2)), (.int (0 : Int32)), (.ref b401), (.ref b401), (.ref b398), (.ref b398)])) rfl rfl (hb hby d_method_5_55)
        refine own_Go.st st407 ?_
        have N407 := Fr.snoc X407 N404 (by omega)
        have Sf409 : Safe Z consts_1 s.vm h401 b401 := Safe.arv hZ.alike f402 (by decide)
        have z407 : h401.size ≤ h407.size := Nat.le_of_eq W407.size.symm
        have f408 := Arv.set Ar407 q407 S407 Nn407 H407 G407 (fits_nar_char _) W407 0 rfl (Nat.le_of_ble_eq_true rfl)
        rw [own_nar (own_HiR hc370 hv2)] at f408
        have f410 : Arv Z h407 b401 k401 .char (2 : Int32) [(.int (own_Hi p2)), (.int (0 : Int32))] (.int (0 : Int32)) := f408
        have R407 : CHr Z consts_1 s.vm h0 s.vm h407 := R401.trans (CHr.wr W407 Sf409 R401.1)
        have Sf411 : Safe Z consts_1 s.vm h407 b398 := Safe.wr W407 Sf409 R401.1 Sf403
        show own_Go _ _ _ _ (T407.setTop (mkF m 56 #[.val (.int p1), .val (.int p2), .val (.int p3)] [(.ref b401), (.ref b398), (.ref b398)]))
        refine own_Go.st (fun _ k => XS.dup X407.here hx rfl (hb hby d_method_5_56) rfl rfl k) ?_
        show own_Go _ _ _ _ (T407.setTop (mkF m 57 #[.val (.int p1), .val (.int p2), .val (.int p3)] [(.ref b401), (.ref b401), (.ref b398), (.ref b398)]))
        refine own_Go.st (fun _ k => XS.iconst X407.here hx rfl (hb hby d_method_5_57) k) ?_
        show own_Go _ _ _ _ (T407.setTop (mkF m 58 #[.val (.int p1), .val (.int p2), .val (.int p3)] [(.int (1 : Int32)), (.ref b401), (.ref b401), (.ref b398), (.ref b398)]))
        refine own_Go.st (fun _ k => XS.iloadN X407.here hx rfl (hb hby d_method_5_58) rfl k) ?_
        show own_Go _ _ _ _ (T407.setTop (mkF m 59 #[.val (.int p1), .val (.int p2), .val (.int p3)] [(.int p2), (.int (1 : Int32)), (.ref b401), (.ref b401), (.ref b398), (.ref b398)]))
        have f413 : Old Z Z.heap.size h407 := f406.wr W407 (by omega)
        obtain ⟨_, _, ⟨T412, L412, k412, n412⟩, -, X412, ⟨Lc412, hQ412, l412, y412, z412⟩, st412⟩ := Jvm.LawKit.callS X407 hx (y := (⟨"com/example/keep_to_layer/keeptolayer/model/ClassNamesComparePinLaw", "lo", "(I)C"⟩ : MethodName)) hown (mvT hZ (hw _ (List.mem_of_getElem? (i := 72) rfl))) (mvT hZ (hw _ (List.mem_of_getElem? (i := 73) rfl))) (mvT hZ (hw _ (List.mem_of_getElem? (i := 3) rfl))) (mvT hZ (hw _ (List.mem_of_getElem? (i := 74) rfl))) (by decide) (backOf (W := 5) (rm_lo l Z a0 hw [] p2 h407 f413 hc370 hv2) hZ (hw _ (List.mem_of_getElem? (i := 74) rfl)) (hw _ (List.mem_of_getElem? (i := 3) rfl)) (by decide) (by decide)) (g := (mkF m 59 #[.val (.int p1), .val (.int p2), .val (.int p3)] [(.int p2), (.int (1 : Int32)), (.ref b401), (.ref b401), (.ref b398), (.ref b398)])) rfl (by rw [hml]; rfl) (argsL := [(.int p2)]) (rest := [(.int (1 : Int32)), (.ref b401), (.ref b401), (.ref b398), (.ref b398)]) (lenOf pd_506 rfl) rfl (by show 2 * 0 + _ ≤ _; exact Nat.le_of_eq rfl) (hb hby d_method_5_59) (fun _ _ => ⟨rfl, e407, (by decide : 2 + 0 ≤ _), (by decide : 6 + 0 ≤ _)⟩)
        dsimp only [Pt.U, Pt.locs, Pt.cells, Pt.slots] at X412 l412 y412 z412 st412 hQ412
        subst l412 y412 z412
        obtain ⟨rfl, N412q, K412⟩ := hQ412
        have N412 := Fr.app N407 N412q
        refine own_Go.st st412 ?_
        show own_Go _ _ _ _ (T412.setTop (mkF m 62 #[.val (.int p1), .val (.int p2), .val (.int p3)] [(.int (own_Lo p2)), (.int (1 : Int32)), (.ref b401), (.ref b401), (.ref b398), (.ref b398)]))
        obtain ⟨c414, Ar414, q414, S414, Nn414, H414, G414⟩ := id f410
        have hin414 : ¬ ((1 : Int32) < 0 ∨ c414.slots.size ≤ ((1 : Int32)).toNatClampNeg) := inb_of S414 ⟨by decide, by decide⟩
        obtain ⟨T414, h414, X414, e414, W414, st414⟩ := stC X412 hx hZ K412 Ar414 (j := (1 : Int32)) hin414 (g := (mkF m 62 #[.val (.int p1), .val (.int p2), .val (.int p3)] [(.int (own_Lo p2)), (.int (1 : Int32)), (.ref b401), (.ref b401), (.ref b398), (.ref b398)])) rfl rfl (hb hby d_method_5_62)
        refine own_Go.st st414 ?_
        have N414 := Fr.snoc X414 N412 (by omega)
        have Sf416 : Safe Z consts_1 s.vm h407 b401 := Safe.arv hZ.alike f410 (by decide)
        have z414 : h407.size ≤ h414.size := Nat.le_of_eq W414.size.symm
        have f415 := Arv.set Ar414 q414 S414 Nn414 H414 G414 (fits_nar_char _) W414 1 rfl (Nat.le_of_ble_eq_true rfl)
        rw [own_nar (own_LoR hc370 hv2)] at f415
        have f417 : Arv Z h414 b401 k401 .char (2 : Int32) [(.int (own_Hi p2)), (.int (own_Lo p2))] (.int (0 : Int32)) := f415
        have R414 : CHr Z consts_1 s.vm h0 s.vm h414 := R407.trans (CHr.wr W414 Sf416 R407.1)
        have Sf418 : Safe Z consts_1 s.vm h414 b398 := Safe.wr W414 Sf416 R407.1 Sf411
        show own_Go _ _ _ _ (T414.setTop (mkF m 63 #[.val (.int p1), .val (.int p2), .val (.int p3)] [(.ref b401), (.ref b398), (.ref b398)]))
        have f420 : Exa Z h401 b398 "java/lang/String" := A398.ext E401
        have f421 : Exa Z h407 b398 "java/lang/String" := f420.wr W407
        have f422 : Exa Z h414 b398 "java/lang/String" := f421.wr W414
        have f423 : Fld Z h401 b398 "java/lang/String" "value" "[B" .null := f399.ext E401
        have f424 : Fld Z h407 b398 "java/lang/String" "value" "[B" .null := f423.other W407 (Or.inl (by show @Ne Nat b398 b401; omega))
        have f425 : Fld Z h414 b398 "java/lang/String" "value" "[B" .null := f424.other W414 (Or.inl (by show @Ne Nat b398 b401; omega))
        have f426 : Fld Z h401 b398 "java/lang/String" "coder" "B" (.int (0 : Int32)) := f400.ext E401
        have f427 : Fld Z h407 b398 "java/lang/String" "coder" "B" (.int (0 : Int32)) := f426.other W407 (Or.inl (by show @Ne Nat b398 b401; omega))
        have f428 : Fld Z h414 b398 "java/lang/String" "coder" "B" (.int (0 : Int32)) := f427.other W414 (Or.inl (by show @Ne Nat b398 b401; omega))
        have f429 : Old Z Z.heap.size h414 := f413.wr W414 (by omega)
        obtain ⟨_, _, ⟨T419, L419, k419, n419⟩, -, X419, ⟨Lc419, hQ419, l419, y419, z419⟩, st419⟩ := X414.specialBack hx (y := (⟨"java/lang/String", "<init>", "([C)V"⟩ : MethodName)) rfl hown (mvT hZ (hw _ (List.mem_of_getElem? (i := 16) rfl))) (mvT hZ (hw _ (List.mem_of_getElem? (i := 17) rfl))) (mvT hZ (hw _ (List.mem_of_getElem? (i := 18) rfl))) (by decide) (own_backStr (W := 1) (cs := [(own_Hi p2), (own_Lo p2)]) hZ hw f429 f422 f425 f428 f417 st_COMPACT_STRINGS st__assertionsDisabled st_HI_BYTE_SHIFT st_LO_BYTE_SHIFT rfl (Nat.le_of_ble_eq_true rfl) (Nat.le_of_ble_eq_true rfl) (own_aS (own_HiR hc370 hv2) (own_aS (own_LoR hc370 hv2) own_a0)) (by omega) (by first | assumption | decide) (by decide) (by decide)) (g := (mkF m 63 #[.val (.int p1), .val (.int p2), .val (.int p3)] [(.ref b401), (.ref b398), (.ref b398)])) rfl (by rw [hml]; rfl) (Steps.refl _) (a := b398) (argsL := [(.ref b401)]) (rest := [(.ref b398)]) (lenOf pd_479 rfl) rfl (by show 2 * 0 + _ ≤ _; exact Nat.le_of_eq rfl) (hb hby d_method_5_63) (fun _ _ => ⟨rfl, e414, (by decide : 2 + 2 ≤ _), (by decide : 6 + 12 ≤ _)⟩)
        dsimp only [Pt.U, Pt.locs, Pt.cells, Pt.slots] at X419 l419 y419 z419 st419 hQ419
        subst l419 y419 z419
        obtain ⟨t_419, rfl, N419q, K419, f419_0, pr419_0⟩ := hQ419
        have N419 := Fr.app N414 N419q
        have z419 : h414.size ≤ T419.heap.size := K419.1
        have R419 : CHr Z consts_1 s.vm h0 s.vm T419.heap := R414.trans (CHr.keep K419 (sfS Sf418 sf0) R414.1)
        have Sf430 : Safe Z consts_1 s.vm T419.heap b398 := Safe.keep K419 (sfS Sf418 sf0) R414.1 Sf418
        have lt419_0 : @LT.lt Nat _ b398 T419.heap.size := f419_0.lt
        have ltv419_0 : @LT.lt Nat _ t_419 T419.heap.size := f419_0.ltv
        refine own_Go.tr st419 ?_
        show own_Go _ _ _ _ (T419.setTop (mkF m 66 #[.val (.int p1), .val (.int p2), .val (.int p3)] [(.ref b398)]))
        obtain ⟨fs431, hr431, hrun431, hend431, hret431⟩ := X419.leaveW hS0 (by omega) (v := some (.ref b398)) (fun h => by rw [Bd.returns] at h; cases h)
        have K432 : Keep h0 h398 [] := (Keep.refl h0 []).ext E398
        have K433 : Keep h0 h401 [] := K432.ext E401
        have K434 : Keep h0 h407 [] := K433.wr W407 (Or.inr (by omega))
        have K435 : Keep h0 h414 [] := K434.wr W414 (Or.inr (by omega))
        have K436 : Keep h0 T419.heap [] := K435.trans K419 (allS (Or.inr (by omega)) all0)
        subst hPP
        refine ⟨_, _, own_retA X419 hx Bd.returns rfl rfl (hb hby d_method_5_66) hr431, hrun431, hend431, _, _, rfl, ?_, ?_, hret431.1, hret431.2.1, hret431.2.2.1, hret431.2.2.2.mono (by decide) (by decide)⟩
        · show Q_str Z _ _ _ _ h0 _ T419.heap _
          exact ⟨b398, t_419, [(own_Hi p2), (own_Lo p2)], rfl, N419, K436, f419_0, (by unfold own_pts; rw [if_neg hc351, if_pos hc369]; first | done | (simp only [own_encs, own_enc, hc370, if_true, if_false]; try rfl))⟩
        · have hfin := R419.trans (CHv.at X419 hZ hEL R419.1)
          rw [← hh] at hfin
          show CHr Z consts_1 s.vm s.heap T419.vm T419.heap
          exact hfin
    ·
      refine own_Go.st (fun _ k => XS.icmpYes X0.here hx rfl (pc0 := 17) (pc' := 67) rfl (hb hby d_method_5_17) rfl (feq hc369).2 (by decide) (by decide) k) ?_
      show own_Go _ _ _ _ (s₁.setTop (mkF m 67 #[.val (.int p1), .val (.int p2), .val (.int p3)] []))
      refine own_Go.st (fun _ k => XS.iloadN X0.here hx rfl (hb hby d_method_5_67) rfl k) ?_
      show own_Go _ _ _ _ (s₁.setTop (mkF m 68 #[.val (.int p1), .val (.int p2), .val (.int p3)] [(.int p2)]))
      refine own_Go.st (X0.ldcInt hx hown (mvT hZ (hw _ (List.mem_of_getElem? (i := 7) rfl))) (g := (mkF m 68 #[.val (.int p1), .val (.int p2), .val (.int p3)] [(.int p2)])) rfl (hb hby d_method_5_68)) ?_
      show own_Go _ _ _ _ (s₁.setTop (mkF m 70 #[.val (.int p1), .val (.int p2), .val (.int p3)] [(.int (65536 : Int32)), (.int p2)]))
      by_cases hc437 : p2 < (65536 : Int32)
      ·
        refine own_Go.st (fun _ k => XS.icmpNo X0.here hx rfl (hb hby d_method_5_70) rfl (tlt hc437).2.1 k) ?_
        show own_Go _ _ _ _ (s₁.setTop (mkF m 73 #[.val (.int p1), .val (.int p2), .val (.int p3)] []))
        refine own_Go.st (fun _ k => XS.iloadN X0.here hx rfl (hb hby d_method_5_73) rfl k) ?_
        show own_Go _ _ _ _ (s₁.setTop (mkF m 74 #[.val (.int p1), .val (.int p2), .val (.int p3)] [(.int p3)]))
        refine own_Go.st (X0.ldcInt hx hown (mvT hZ (hw _ (List.mem_of_getElem? (i := 7) rfl))) (g := (mkF m 74 #[.val (.int p1), .val (.int p2), .val (.int p3)] [(.int p3)])) rfl (hb hby d_method_5_74)) ?_
        show own_Go _ _ _ _ (s₁.setTop (mkF m 76 #[.val (.int p1), .val (.int p2), .val (.int p3)] [(.int (65536 : Int32)), (.int p3)]))
        by_cases hc438 : p3 < (65536 : Int32)
        ·
          refine own_Go.st (fun _ k => XS.icmpNo X0.here hx rfl (hb hby d_method_5_76) rfl (tlt hc438).2.1 k) ?_
          show own_Go _ _ _ _ (s₁.setTop (mkF m 79 #[.val (.int p1), .val (.int p2), .val (.int p3)] []))
          obtain ⟨T439, h439, X439, e439, E439, A439, D439, U439, st439⟩ := newO X0 hx hZ hown (hw _ (List.mem_of_getElem? (i := 12) rfl)) (hw _ (List.mem_of_getElem? (i := 13) rfl)) (hw _ (List.mem_of_getElem? (i := 14) rfl)) e0 (g := (mkF m 79 #[.val (.int p1), .val (.int p2), .val (.int p3)] [])) rfl (hb hby d_method_5_79) (by decide) (by decide)
          obtain ⟨b439, g439⟩ : ∃ z, z = h0.size := ⟨_, rfl⟩
          rw [← g439] at A439 D439 U439 st439
          refine own_Go.st st439 ?_
          have z439 : h0.size ≤ h439.size := E439.1
          have lt_b439 : @LT.lt Nat _ b439 h439.size := A439.lt
          have f440 : Fld Z h439 b439 "java/lang/String" "value" "[B" .null := D439 (Or.inr (hw _ (List.mem_of_getElem? (i := 28) rfl))) (ty := (.array .byte)) (by decide)
          have f441 : Fld Z h439 b439 "java/lang/String" "coder" "B" (.int (0 : Int32)) := D439 (Or.inr (hw _ (List.mem_of_getElem? (i := 29) rfl))) (ty := .byte) (by decide)
          have R439 : CHr Z consts_1 s.vm h0 s.vm h439 := R0.trans (CHr.ext E439 R0.1)
          have Sf439 : Safe Z consts_1 s.vm h439 b439 := (Safe.new (Nat.le_of_eq g439.symm)).ext E439 R0.1
          show own_Go _ _ _ _ (T439.setTop (mkF m 82 #[.val (.int p1), .val (.int p2), .val (.int p3)] [(.ref b439)]))
          refine own_Go.st (fun _ k => XS.dup X439.here hx rfl (hb hby d_method_5_82) rfl rfl k) ?_
          show own_Go _ _ _ _ (T439.setTop (mkF m 83 #[.val (.int p1), .val (.int p2), .val (.int p3)] [(.ref b439), (.ref b439)]))
          refine own_Go.st (fun _ k => XS.iconst X439.here hx rfl (hb hby d_method_5_83) k) ?_
          show own_Go _ _ _ _ (T439.setTop (mkF m 84 #[.val (.int p1), .val (.int p2), .val (.int p3)] [(.int (2 : Int32)), (.ref b439), (.ref b439)]))
          obtain ⟨T442, h442, k442, X442, e442, E442, A442, st442⟩ := newP X439 hx hZ (hw _ (List.mem_of_getElem? (i := 15) rfl)) e439 (g := (mkF m 84 #[.val (.int p1), .val (.int p2), .val (.int p3)] [(.int (2 : Int32)), (.ref b439), (.ref b439)])) rfl (hb hby d_method_5_84) rfl (by decide) (cap := 2) (by decide) (by decide) (by decide) (by decide)
          obtain ⟨b442, g442⟩ : ∃ z, z = h439.size := ⟨_, rfl⟩
          rw [← g442] at A442 st442
          refine own_Go.st st442 ?_
          have z442 : h439.size ≤ h442.size := E442.1
          have f443 : Arv Z h442 b442 k442 .char (2 : Int32) [(.int (0 : Int32)), (.int (0 : Int32))] (.int (0 : Int32)) := (Arv.new A442 (by decide)).pad (pad_rep [] (.int (0 : Int32)) 2)
          have lt_b442 : @LT.lt Nat _ b442 h442.size := f443.lt
          have R442 : CHr Z consts_1 s.vm h0 s.vm h442 := R439.trans (CHr.ext E442 R439.1)
          have Sf444 : Safe Z consts_1 s.vm h442 b439 := Safe.ext E442 R439.1 Sf439
          show own_Go _ _ _ _ (T442.setTop (mkF m 86 #[.val (.int p1), .val (.int p2), .val (.int p3)] [(.ref b442), (.ref b439), (.ref b439)]))
          refine own_Go.st (fun _ k => XS.dup X442.here hx rfl (hb hby d_method_5_86) rfl rfl k) ?_
          show own_Go _ _ _ _ (T442.setTop (mkF m 87 #[.val (.int p1), .val (.int p2), .val (.int p3)] [(.ref b442), (.ref b442), (.ref b439), (.ref b439)]))
          refine own_Go.st (fun _ k => XS.iconst X442.here hx rfl (hb hby d_method_5_87) k) ?_
          show own_Go _ _ _ _ (T442.setTop (mkF m 88 #[.val (.int p1), .val (.int p2), .val (.int p3)] [(.int (0 : Int32)), (.ref b442), (.ref b442), (.ref b439), (.ref b439)]))
          refine own_Go.st (fun _ k => XS.iloadN X442.here hx rfl (hb hby d_method_5_88) rfl k) ?_
          show own_Go _ _ _ _ (T442.setTop (mkF m 89 #[.val (.int p1), .val (.int p2), .val (.int p3)] [(.int p2), (.int (0 : Int32)), (.ref b442), (.ref b442), (.ref b439), (.ref b439)]))
          refine own_Go.st (fun _ k => XS.i2c X442.here hx rfl (hb hby d_method_5_89) rfl k) ?_
          show own_Go _ _ _ _ (T442.setTop (mkF m 90 #[.val (.int p1), .val (.int p2), .val (.int p3)] [(.int (p2.toUInt32.toUInt16.toUInt32.toInt32)), (.int (0 : Int32)), (.ref b442), (.ref b442), (.ref b439), (.ref b439)]))
          rw [own_c16 hv2 hc437]
          show own_Go _ _ _ _ (T442.setTop (mkF m 90 #[.val (.int p1), .val (.int p2), .val (.int p3)] [(.int p2), (.int (0 : Int32)), (.ref b442), (.ref b442), (.ref b439), (.ref b439)]))
          obtain ⟨c445, Ar445, q445, S445, Nn445, H445, G445⟩ := id f443
          have hin445 : ¬ ((0 : Int32) < 0 ∨ c445.slots.size ≤ ((0 : Int32)).toNatClampNeg) := inb_of S445 ⟨by decide, by decide⟩
          obtain ⟨T445, h445, X445, e445, W445, st445⟩ := stC X442 hx hZ e442 Ar445 (j := (0 : Int32)) hin445 (g := (mkF m 90 #[.val (.int p1), .val (.int p2), .val (.int p3)] [(.int p2), (.int (0 : Int32)), (.ref b442), (.ref b442), (.ref b439), (.ref b439)])) rfl rfl (hb hby d_method_5_90)
          refine own_Go.st st445 ?_
          have N445 := Fr.snoc X445 N0 (by omega)
          have Sf447 : Safe Z consts_1 s.vm h442 b442 := Safe.arv hZ.alike f443 (by decide)
          have z445 : h442.size ≤ h445.size := Nat.le_of_eq W445.size.symm
          have f446 := Arv.set Ar445 q445 S445 Nn445 H445 G445 (fits_nar_char _) W445 0 rfl (Nat.le_of_ble_eq_true rfl)
          rw [own_nar (own_c16r hv2 hc437)] at f446
          have f448 : Arv Z h445 b442 k442 .char (2 : Int32) [(.int p2), (.int (0 : Int32))] (.int (0 : Int32)) := f446
          have R445 : CHr Z consts_1 s.vm h0 s.vm h445 := R442.trans (CHr.wr W445 Sf447 R442.1)
          have Sf449 : Safe Z consts_1 s.vm h445 b439 := Safe.wr W445 Sf447 R442.1 Sf444
          show own_Go _ _ _ _ (T445.setTop (mkF m 91 #[.val (.int p1), .val (.int p2), .val (.int p3)] [(.ref b442), (.ref b439), (.ref b439)]))
          refine own_Go.st (fun _ k => XS.dup X445.here hx rfl (hb hby d_method_5_91) rfl rfl k) ?_
          show own_Go _ _ _ _ (T445.setTop (mkF m 92 #[.val (.int p1), .val (.int p2), .val (.int p3)] [(.ref b442), (.ref b442), (.ref b439), (.ref b439)]))
          refine own_Go.st (fun _ k => XS.iconst X445.here hx rfl (hb hby d_method_5_92) k) ?_
          show own_Go _ _ _ _ (T445.setTop (mkF m 93 #[.val (.int p1), .val (.int p2), .val (.int p3)] [(.int (1 : Int32)), (.ref b442), (.ref b442), (.ref b439), (.ref b439)]))
          refine own_Go.st (fun _ k => XS.iloadN X445.here hx rfl (hb hby d_method_5_93) rfl k) ?_
          show own_Go _ _ _ _ (T445.setTop (mkF m 94 #[.val (.int p1), .val (.int p2), .val (.int p3)] [(.int p3), (.int (1 : Int32)), (.ref b442), (.ref b442), (.ref b439), (.ref b439)]))
          refine own_Go.st (fun _ k => XS.i2c X445.here hx rfl (hb hby d_method_5_94) rfl k) ?_
          show own_Go _ _ _ _ (T445.setTop (mkF m 95 #[.val (.int p1), .val (.int p2), .val (.int p3)] [(.int (p3.toUInt32.toUInt16.toUInt32.toInt32)), (.int (1 : Int32)), (.ref b442), (.ref b442), (.ref b439), (.ref b439)]))
          rw [own_c16 hv3 hc438]
          show own_Go _ _ _ _ (T445.setTop (mkF m 95 #[.val (.int p1), .val (.int p2), .val (.int p3)] [(.int p3), (.int (1 : Int32)), (.ref b442), (.ref b442), (.ref b439), (.ref b439)]))
          obtain ⟨c450, Ar450, q450, S450, Nn450, H450, G450⟩ := id f448
          have hin450 : ¬ ((1 : Int32) < 0 ∨ c450.slots.size ≤ ((1 : Int32)).toNatClampNeg) := inb_of S450 ⟨by decide, by decide⟩
          obtain ⟨T450, h450, X450, e450, W450, st450⟩ := stC X445 hx hZ e445 Ar450 (j := (1 : Int32)) hin450 (g := (mkF m 95 #[.val (.int p1), .val (.int p2), .val (.int p3)] [(.int p3), (.int (1 : Int32)), (.ref b442), (.ref b442), (.ref b439), (.ref b439)])) rfl rfl (hb hby d_method_5_95)
          refine own_Go.st st450 ?_
          have N450 := Fr.snoc X450 N445 (by omega)
          have Sf452 : Safe Z consts_1 s.vm h445 b442 := Safe.arv hZ.alike f448 (by decide)
          have z450 : h445.size ≤ h450.size := Nat.le_of_eq W450.size.symm
          have f451 := Arv.set Ar450 q450 S450 Nn450 H450 G450 (fits_nar_char _) W450 1 rfl (Nat.le_of_ble_eq_true rfl)
          rw [own_nar (own_c16r hv3 hc438)] at f451
          have f453 : Arv Z h450 b442 k442 .char (2 : Int32) [(.int p2), (.int p3)] (.int (0 : Int32)) := f451
          have R450 : CHr Z consts_1 s.vm h0 s.vm h450 := R445.trans (CHr.wr W450 Sf452 R445.1)
          have Sf454 : Safe Z consts_1 s.vm h450 b439 := Safe.wr W450 Sf452 R445.1 Sf449
          show own_Go _ _ _ _ (T450.setTop (mkF m 96 #[.val (.int p1), .val (.int p2), .val (.int p3)] [(.ref b442), (.ref b439), (.ref b439)]))
          have f456 : Exa Z h442 b439 "java/lang/String" := A439.ext E442
          have f457 : Exa Z h445 b439 "java/lang/String" := f456.wr W445
          have f458 : Exa Z h450 b439 "java/lang/String" := f457.wr W450
          have f459 : Fld Z h442 b439 "java/lang/String" "value" "[B" .null := f440.ext E442
          have f460 : Fld Z h445 b439 "java/lang/String" "value" "[B" .null := f459.other W445 (Or.inl (by show @Ne Nat b439 b442; omega))
          have f461 : Fld Z h450 b439 "java/lang/String" "value" "[B" .null := f460.other W450 (Or.inl (by show @Ne Nat b439 b442; omega))
          have f462 : Fld Z h442 b439 "java/lang/String" "coder" "B" (.int (0 : Int32)) := f441.ext E442
          have f463 : Fld Z h445 b439 "java/lang/String" "coder" "B" (.int (0 : Int32)) := f462.other W445 (Or.inl (by show @Ne Nat b439 b442; omega))
          have f464 : Fld Z h450 b439 "java/lang/String" "coder" "B" (.int (0 : Int32)) := f463.other W450 (Or.inl (by show @Ne Nat b439 b442; omega))
          have f465 : Old Z Z.heap.size h439 := OL.ext E439
          have f466 : Old Z Z.heap.size h442 := f465.ext E442
          have f467 : Old Z Z.heap.size h445 := f466.wr W445 (by omega)
          have f468 : Old Z Z.heap.size h450 := f467.wr W450 (by omega)
          obtain ⟨_, _, ⟨T455, L455, k455, n455⟩, -, X455, ⟨Lc455, hQ455, l455, y455, z455⟩, st455⟩ := X450.specialBack hx (y := (⟨"java/lang/String", "<init>", "([C)V"⟩ : MethodName)) rfl hown (mvT hZ (hw _ (List.mem_of_getElem? (i := 16) rfl))) (mvT hZ (hw _ (List.mem_of_getElem? (i := 17) rfl))) (mvT hZ (hw _ (List.mem_of_getElem? (i := 18) rfl))) (by decide) (own_backStr (W := 1) (cs := [p2, p3]) hZ hw f468 f458 f461 f464 f453 st_COMPACT_STRINGS st__assertionsDisabled st_HI_BYTE_SHIFT st_LO_BYTE_SHIFT rfl (Nat.le_of_ble_eq_true rfl) (Nat.le_of_ble_eq_true rfl) (own_aS (own_c16r hv2 hc437) (own_aS (own_c16r hv3 hc438) own_a0)) (by omega) (by first | assumption | decide) (by decide) (by decide)) (g := (mkF m 96 #[.val (.int p1), .val (.int p2), .val (.int p3)] [(.ref b442), (.ref b439), (.ref b439)])) rfl (by rw [hml]; rfl) (Steps.refl _) (a := b439) (argsL := [(.ref b442)]) (rest := [(.ref b439)]) (lenOf pd_479 rfl) rfl (by show 2 * 0 + _ ≤ _; exact Nat.le_of_eq rfl) (hb hby d_method_5_96) (fun _ _ => ⟨rfl, e450, (by decide : 2 + 2 ≤ _), (by decide : 6 + 12 ≤ _)⟩)
          dsimp only [Pt.U, Pt.locs, Pt.cells, Pt.slots] at X455 l455 y455 z455 st455 hQ455
          subst l455 y455 z455
          obtain ⟨t_455, rfl, N455q, K455, f455_0, pr455_0⟩ := hQ455
          have N455 := Fr.app N450 N455q
          have z455 : h450.size ≤ T455.heap.size := K455.1
          have R455 : CHr Z consts_1 s.vm h0 s.vm T455.heap := R450.trans (CHr.keep K455 (sfS Sf454 sf0) R450.1)
          have Sf469 : Safe Z consts_1 s.vm T455.heap b439 := Safe.keep K455 (sfS Sf454 sf0) R450.1 Sf454
          have lt455_0 : @LT.lt Nat _ b439 T455.heap.size := f455_0.lt
          have ltv455_0 : @LT.lt Nat _ t_455 T455.heap.size := f455_0.ltv
          refine own_Go.tr st455 ?_
          show own_Go _ _ _ _ (T455.setTop (mkF m 99 #[.val (.int p1), .val (.int p2), .val (.int p3)] [(.ref b439)]))
          obtain ⟨fs470, hr470, hrun470, hend470, hret470⟩ := X455.leaveW hS0 (by omega) (v := some (.ref b439)) (fun h => by rw [Bd.returns] at h; cases h)
          have K471 : Keep h0 h439 [] := (Keep.refl h0 []).ext E439
          have K472 : Keep h0 h442 [] := K471.ext E442
          have K473 : Keep h0 h445 [] := K472.wr W445 (Or.inr (by omega))
          have K474 : Keep h0 h450 [] := K473.wr W450 (Or.inr (by omega))
          have K475 : Keep h0 T455.heap [] := K474.trans K455 (allS (Or.inr (by omega)) all0)
          subst hPP
          refine ⟨_, _, own_retA X455 hx Bd.returns rfl rfl (hb hby d_method_5_99) hr470, hrun470, hend470, _, _, rfl, ?_, ?_, hret470.1, hret470.2.1, hret470.2.2.1, hret470.2.2.2.mono (by decide) (by decide)⟩
          · show Q_str Z _ _ _ _ h0 _ T455.heap _
            exact ⟨b439, t_455, [p2, p3], rfl, N455, K475, f455_0, (by unfold own_pts; rw [if_neg hc351, if_neg hc369]; first | done | (simp only [own_encs, own_enc, hc437, hc438, if_true, if_false]; try rfl))⟩
          · have hfin := R455.trans (CHv.at X455 hZ hEL R455.1)
            rw [← hh] at hfin
            show CHr Z consts_1 s.vm s.heap T455.vm T455.heap
            exact hfin
        ·
          refine own_Go.st (fun _ k => XS.icmpYes X0.here hx rfl (pc0 := 76) (pc' := 100) rfl (hb hby d_method_5_76) rfl (flt hc438).2.1 (by decide) (by decide) k) ?_
          show own_Go _ _ _ _ (s₁.setTop (mkF m 100 #[.val (.int p1), .val (.int p2), .val (.int p3)] []))
          obtain ⟨T476, h476, X476, e476, E476, A476, D476, U476, st476⟩ := newO X0 hx hZ hown (hw _ (List.mem_of_getElem? (i := 12) rfl)) (hw _ (List.mem_of_getElem? (i := 13) rfl)) (hw _ (List.mem_of_getElem? (i := 14) rfl)) e0 (g := (mkF m 100 #[.val (.int p1), .val (.int p2), .val (.int p3)] [])) rfl (hb hby d_method_5_100) (by decide) (by decide)
          obtain ⟨b476, g476⟩ : ∃ z, z = h0.size := ⟨_, rfl⟩
          rw [← g476] at A476 D476 U476 st476
          refine own_Go.st st476 ?_
          have z476 : h0.size ≤ h476.size := E476.1
          have lt_b476 : @LT.lt Nat _ b476 h476.size := A476.lt
          have f477 : Fld Z h476 b476 "java/lang/String" "value" "[B" .null := D476 (Or.inr (hw _ (List.mem_of_getElem? (i := 28) rfl))) (ty := (.array .byte)) (by decide)
          have f478 : Fld Z h476 b476 "java/lang/String" "coder" "B" (.int (0 : Int32)) := D476 (Or.inr (hw _ (List.mem_of_getElem? (i := 29) rfl))) (ty := .byte) (by decide)
          have R476 : CHr Z consts_1 s.vm h0 s.vm h476 := R0.trans (CHr.ext E476 R0.1)
          have Sf476 : Safe Z consts_1 s.vm h476 b476 := (Safe.new (Nat.le_of_eq g476.symm)).ext E476 R0.1
          show own_Go _ _ _ _ (T476.setTop (mkF m 103 #[.val (.int p1), .val (.int p2), .val (.int p3)] [(.ref b476)]))
          refine own_Go.st (fun _ k => XS.dup X476.here hx rfl (hb hby d_method_5_103) rfl rfl k) ?_
          show own_Go _ _ _ _ (T476.setTop (mkF m 104 #[.val (.int p1), .val (.int p2), .val (.int p3)] [(.ref b476), (.ref b476)]))
          refine own_Go.st (fun _ k => XS.iconst X476.here hx rfl (hb hby d_method_5_104) k) ?_
          show own_Go _ _ _ _ (T476.setTop (mkF m 105 #[.val (.int p1), .val (.int p2), .val (.int p3)] [(.int (3 : Int32)), (.ref b476), (.ref b476)]))
          obtain ⟨T479, h479, k479, X479, e479, E479, A479, st479⟩ := newP X476 hx hZ (hw _ (List.mem_of_getElem? (i := 15) rfl)) e476 (g := (mkF m 105 #[.val (.int p1), .val (.int p2), .val (.int p3)] [(.int (3 : Int32)), (.ref b476), (.ref b476)])) rfl (hb hby d_method_5_105) rfl (by decide) (cap := 3) (by decide) (by decide) (by decide) (by decide)
          obtain ⟨b479, g479⟩ : ∃ z, z = h476.size := ⟨_, rfl⟩
          rw [← g479] at A479 st479
          refine own_Go.st st479 ?_
          have z479 : h476.size ≤ h479.size := E479.1
          have f480 : Arv Z h479 b479 k479 .char (3 : Int32) [(.int (0 : Int32)), (.int (0 : Int32)), (.int (0 : Int32))] (.int (0 : Int32)) := (Arv.new A479 (by decide)).pad (pad_rep [] (.int (0 : Int32)) 3)
          have lt_b479 : @LT.lt Nat _ b479 h479.size := f480.lt
          have R479 : CHr Z consts_1 s.vm h0 s.vm h479 := R476.trans (CHr.ext E479 R476.1)
          have Sf481 : Safe Z consts_1 s.vm h479 b476 := Safe.ext E479 R476.1 Sf476
          show own_Go _ _ _ _ (T479.setTop (mkF m 107 #[.val (.int p1), .val (.int p2), .val (.int p3)] [(.ref b479), (.ref b476), (.ref b476)]))
          refine own_Go.st (fun _ k => XS.dup X479.here hx rfl (hb hby d_method_5_107) rfl rfl k) ?_
          show own_Go _ _ _ _ (T479.setTop (mkF m 108 #[.val (.int p1), .val (.int p2), .val (.int p3)] [(.ref b479), (.ref b479), (.ref b476), (.ref b476)]))
          refine own_Go.st (fun _ k => XS.iconst X479.here hx rfl (hb hby d_method_5_108) k) ?_
          show own_Go _ _ _ _ (T479.setTop (mkF m 109 #[.val (.int p1), .val (.int p2), .val (.int p3)] [(.int (0 : Int32)), (.ref b479), (.ref b479), (.ref b476), (.ref b476)]))
          refine own_Go.st (fun _ k => XS.iloadN X479.here hx rfl (hb hby d_method_5_109) rfl k) ?_
          show own_Go _ _ _ _ (T479.setTop (mkF m 110 #[.val (.int p1), .val (.int p2), .val (.int p3)] [(.int p2), (.int (0 : Int32)), (.ref b479), (.ref b479), (.ref b476), (.ref b476)]))
          refine own_Go.st (fun _ k => XS.i2c X479.here hx rfl (hb hby d_method_5_110) rfl k) ?_
          show own_Go _ _ _ _ (T479.setTop (mkF m 111 #[.val (.int p1), .val (.int p2), .val (.int p3)] [(.int (p2.toUInt32.toUInt16.toUInt32.toInt32)), (.int (0 : Int32)), (.ref b479), (.ref b479), (.ref b476), (.ref b476)]))
          rw [own_c16 hv2 hc437]
          show own_Go _ _ _ _ (T479.setTop (mkF m 111 #[.val (.int p1), .val (.int p2), .val (.int p3)] [(.int p2), (.int (0 : Int32)), (.ref b479), (.ref b479), (.ref b476), (.ref b476)]))
          obtain ⟨c482, Ar482, q482, S482, Nn482, H482, G482⟩ := id f480
          have hin482 : ¬ ((0 : Int32) < 0 ∨ c482.slots.size ≤ ((0 : Int32)).toNatClampNeg) := inb_of S482 ⟨by decide, by decide⟩
          obtain ⟨T482, h482, X482, e482, W482, st482⟩ := stC X479 hx hZ e479 Ar482 (j := (0 : Int32)) hin482 (g := (mkF m 111 #[.val (.int p1), .val (.int p2), .val (.int p3)] [(.int p2), (.int (0 : Int32)), (.ref b479), (.ref b479), (.ref b476), (.ref b476)])) rfl rfl (hb hby d_method_5_111)
          refine own_Go.st st482 ?_
          have N482 := Fr.snoc X482 N0 (by omega)
          have Sf484 : Safe Z consts_1 s.vm h479 b479 := Safe.arv hZ.alike f480 (by decide)
          have z482 : h479.size ≤ h482.size := Nat.le_of_eq W482.size.symm
          have f483 := Arv.set Ar482 q482 S482 Nn482 H482 G482 (fits_nar_char _) W482 0 rfl (Nat.le_of_ble_eq_true rfl)
          rw [own_nar (own_c16r hv2 hc437)] at f483
          have f485 : Arv Z h482 b479 k479 .char (3 : Int32) [(.int p2), (.int (0 : Int32)), (.int (0 : Int32))] (.int (0 : Int32)) := f483
          have R482 : CHr Z consts_1 s.vm h0 s.vm h482 := R479.trans (CHr.wr W482 Sf484 R479.1)
          have Sf486 : Safe Z consts_1 s.vm h482 b476 := Safe.wr W482 Sf484 R479.1 Sf481
          show own_Go _ _ _ _ (T482.setTop (mkF m 112 #[.val (.int p1), .val (.int p2), .val (.int p3)] [(.ref b479), (.ref b476), (.ref b476)]))
          refine own_Go.st (fun _ k => XS.dup X482.here hx rfl (hb hby d_method_5_112) rfl rfl k) ?_
          show own_Go _ _ _ _ (T482.setTop (mkF m 113 #[.val (.int p1), .val (.int p2), .val (.int p3)] [(.ref b479), (.ref b479), (.ref b476), (.ref b476)]))
          refine own_Go.st (fun _ k => XS.iconst X482.here hx rfl (hb hby d_method_5_113) k) ?_
          show own_Go _ _ _ _ (T482.setTop (mkF m 114 #[.val (.int p1), .val (.int p2), .val (.int p3)] [(.int (1 : Int32)), (.ref b479), (.ref b479), (.ref b476), (.ref b476)]))
          refine own_Go.st (fun _ k => XS.iloadN X482.here hx rfl (hb hby d_method_5_114) rfl k) ?_
          show own_Go _ _ _ _ (T482.setTop (mkF m 115 #[.val (.int p1), .val (.int p2), .val (.int p3)] [(.int p3), (.int (1 : Int32)), (.ref b479), (.ref b479), (.ref b476), (.ref b476)]))
          have f488 : Old Z Z.heap.size h476 := OL.ext E476
          have f489 : Old Z Z.heap.size h479 := f488.ext E479
          have f490 : Old Z Z.heap.size h482 := f489.wr W482 (by omega)
          obtain ⟨_, _, ⟨T487, L487, k487, n487⟩, -, X487, ⟨Lc487, hQ487, l487, y487, z487⟩, st487⟩ := Jvm.LawKit.callS X482 hx (y := (⟨"com/example/keep_to_layer/keeptolayer/model/ClassNamesComparePinLaw", "hi", "(I)C"⟩ : MethodName)) hown (mvT hZ (hw _ (List.mem_of_getElem? (i := 69) rfl))) (mvT hZ (hw _ (List.mem_of_getElem? (i := 70) rfl))) (mvT hZ (hw _ (List.mem_of_getElem? (i := 3) rfl))) (mvT hZ (hw _ (List.mem_of_getElem? (i := 71) rfl))) (by decide) (backOf (W := 5) (rm_hi l Z a0 hw [] p3 h482 f490 hc438 hv3) hZ (hw _ (List.mem_of_getElem? (i := 71) rfl)) (hw _ (List.mem_of_getElem? (i := 3) rfl)) (by decide) (by decide)) (g := (mkF m 115 #[.val (.int p1), .val (.int p2), .val (.int p3)] [(.int p3), (.int (1 : Int32)), (.ref b479), (.ref b479), (.ref b476), (.ref b476)])) rfl (by rw [hml]; rfl) (argsL := [(.int p3)]) (rest := [(.int (1 : Int32)), (.ref b479), (.ref b479), (.ref b476), (.ref b476)]) (lenOf pd_506 rfl) rfl (by show 2 * 0 + _ ≤ _; exact Nat.le_of_eq rfl) (hb hby d_method_5_115) (fun _ _ => ⟨rfl, e482, (by decide : 2 + 0 ≤ _), (by decide : 7 + 0 ≤ _)⟩)
          dsimp only [Pt.U, Pt.locs, Pt.cells, Pt.slots] at X487 l487 y487 z487 st487 hQ487
          subst l487 y487 z487
          obtain ⟨rfl, N487q, K487⟩ := hQ487
          have N487 := Fr.app N482 N487q
          refine own_Go.st st487 ?_
          show own_Go _ _ _ _ (T487.setTop (mkF m 118 #[.val (.int p1), .val (.int p2), .val (.int p3)] [(.int (own_Hi p3)), (.int (1 : Int32)), (.ref b479), (.ref b479), (.ref b476), (.ref b476)]))
          obtain ⟨c491, Ar491, q491, S491, Nn491, H491, G491⟩ := id f485
          have hin491 : ¬ ((1 : Int32) < 0 ∨ c491.slots.size ≤ ((1 : Int32)).toNatClampNeg) := inb_of S491 ⟨by decide, by decide⟩
          obtain ⟨T491, h491, X491, e491, W491, st491⟩ := stC X487 hx hZ K487 Ar491 (j := (1 : Int32)) hin491 (g := (mkF m 118 #[.val (.int p1), .val (.int p2), .val (.int p3)] [(.int (own_Hi p3)), (.int (1 : Int32)), (.ref b479), (.ref b479), (.ref b476), (.ref b476)])) rfl rfl (hb hby d_method_5_118)
          refine own_Go.st st491 ?_
          have N491 := Fr.snoc X491 N487 (by omega)
          have Sf493 : Safe Z consts_1 s.vm h482 b479 := Safe.arv hZ.alike f485 (by decide)
          have z491 : h482.size ≤ h491.size := Nat.le_of_eq W491.size.symm
          have f492 := Arv.set Ar491 q491 S491 Nn491 H491 G491 (fits_nar_char _) W491 1 rfl (Nat.le_of_ble_eq_true rfl)
          rw [own_nar (own_HiR hc438 hv3)] at f492
          have f494 : Arv Z h491 b479 k479 .char (3 : Int32) [(.int p2), (.int (own_Hi p3)), (.int (0 : Int32))] (.int (0 : Int32)) := f492
          have R491 : CHr Z consts_1 s.vm h0 s.vm h491 := R482.trans (CHr.wr W491 Sf493 R482.1)
          have Sf495 : Safe Z consts_1 s.vm h491 b476 := Safe.wr W491 Sf493 R482.1 Sf486
          show own_Go _ _ _ _ (T491.setTop (mkF m 119 #[.val (.int p1), .val (.int p2), .val (.int p3)] [(.ref b479), (.ref b476), (.ref b476)]))
          refine own_Go.st (fun _ k => XS.dup X491.here hx rfl (hb hby d_method_5_119) rfl rfl k) ?_
          show own_Go _ _ _ _ (T491.setTop (mkF m 120 #[.val (.int p1), .val (.int p2), .val (.int p3)] [(.ref b479), (.ref b479), (.ref b476), (.ref b476)]))
          refine own_Go.st (fun _ k => XS.iconst X491.here hx rfl (hb hby d_method_5_120) k) ?_
          show own_Go _ _ _ _ (T491.setTop (mkF m 121 #[.val (.int p1), .val (.int p2), .val (.int p3)] [(.int (2 : Int32)), (.ref b479), (.ref b479), (.ref b476), (.ref b476)]))
          refine own_Go.st (fun _ k => XS.iloadN X491.here hx rfl (hb hby d_method_5_121) rfl k) ?_
          show own_Go _ _ _ _ (T491.setTop (mkF m 122 #[.val (.int p1), .val (.int p2), .val (.int p3)] [(.int p3), (.int (2 : Int32)), (.ref b479), (.ref b479), (.ref b476), (.ref b476)]))
          have f497 : Old Z Z.heap.size h491 := f490.wr W491 (by omega)
          obtain ⟨_, _, ⟨T496, L496, k496, n496⟩, -, X496, ⟨Lc496, hQ496, l496, y496, z496⟩, st496⟩ := Jvm.LawKit.callS X491 hx (y := (⟨"com/example/keep_to_layer/keeptolayer/model/ClassNamesComparePinLaw", "lo", "(I)C"⟩ : MethodName)) hown (mvT hZ (hw _ (List.mem_of_getElem? (i := 72) rfl))) (mvT hZ (hw _ (List.mem_of_getElem? (i := 73) rfl))) (mvT hZ (hw _ (List.mem_of_getElem? (i := 3) rfl))) (mvT hZ (hw _ (List.mem_of_getElem? (i := 74) rfl))) (by decide) (backOf (W := 5) (rm_lo l Z a0 hw [] p3 h491 f497 hc438 hv3) hZ (hw _ (List.mem_of_getElem? (i := 74) rfl)) (hw _ (List.mem_of_getElem? (i := 3) rfl)) (by decide) (by decide)) (g := (mkF m 122 #[.val (.int p1), .val (.int p2), .val (.int p3)] [(.int p3), (.int (2 : Int32)), (.ref b479), (.ref b479), (.ref b476), (.ref b476)])) rfl (by rw [hml]; rfl) (argsL := [(.int p3)]) (rest := [(.int (2 : Int32)), (.ref b479), (.ref b479), (.ref b476), (.ref b476)]) (lenOf pd_506 rfl) rfl (by show 2 * 0 + _ ≤ _; exact Nat.le_of_eq rfl) (hb hby d_method_5_122) (fun _ _ => ⟨rfl, e491, (by decide : 2 + 0 ≤ _), (by decide : 7 + 0 ≤ _)⟩)
          dsimp only [Pt.U, Pt.locs, Pt.cells, Pt.slots] at X496 l496 y496 z496 st496 hQ496
          subst l496 y496 z496
          obtain ⟨rfl, N496q, K496⟩ := hQ496
          have N496 := Fr.app N491 N496q
          refine own_Go.st st496 ?_
          show own_Go _ _ _ _ (T496.setTop (mkF m 125 #[.val (.int p1), .val (.int p2), .val (.int p3)] [(.int (own_Lo p3)), (.int (2 : Int32)), (.ref b479), (.ref b479), (.ref b476), (.ref b476)]))
          obtain ⟨c498, Ar498, q498, S498, Nn498, H498, G498⟩ := id f494
          have hin498 : ¬ ((2 : Int32) < 0 ∨ c498.slots.size ≤ ((2 : Int32)).toNatClampNeg) := inb_of S498 ⟨by decide, by decide⟩
          obtain ⟨T498, h498, X498, e498, W498, st498⟩ := stC X496 hx hZ K496 Ar498 (j := (2 : Int32)) hin498 (g := (mkF m 125 #[.val (.int p1), .val (.int p2), .val (.int p3)] [(.int (own_Lo p3)), (.int (2 : Int32)), (.ref b479), (.ref b479), (.ref b476), (.ref b476)])) rfl rfl (hb hby d_method_5_125)
          refine own_Go.st st498 ?_
          have N498 := Fr.snoc X498 N496 (by omega)
          have Sf500 : Safe Z consts_1 s.vm h491 b479 := Safe.arv hZ.alike f494 (by decide)
          have z498 : h491.size ≤ h498.size := Nat.le_of_eq W498.size.symm
          have f499 := Arv.set Ar498 q498 S498 Nn498 H498 G498 (fits_nar_char _) W498 2 rfl (Nat.le_of_ble_eq_true rfl)
          rw [own_nar (own_LoR hc438 hv3)] at f499
          have f501 : Arv Z h498 b479 k479 .char (3 : Int32) [(.int p2), (.int (own_Hi p3)), (.int (own_Lo p3))] (.int (0 : Int32)) := f499
          have R498 : CHr Z consts_1 s.vm h0 s.vm h498 := R491.trans (CHr.wr W498 Sf500 R491.1)
          have Sf502 : Safe Z consts_1 s.vm h498 b476 := Safe.wr W498 Sf500 R491.1 Sf495
          show own_Go _ _ _ _ (T498.setTop (mkF m 126 #[.val (.int p1), .val (.int p2), .val (.int p3)] [(.ref b479), (.ref b476), (.ref b476)]))
          have f504 : Exa Z h479 b476 "java/lang/String" := A476.ext E479
          have f505 : Exa Z h482 b476 "java/lang/String" := f504.wr W482
          have f506 : Exa Z h491 b476 "java/lang/String" := f505.wr W491
          have f507 : Exa Z h498 b476 "java/lang/String" := f506.wr W498
          have f508 : Fld Z h479 b476 "java/lang/String" "value" "[B" .null := f477.ext E479
          have f509 : Fld Z h482 b476 "java/lang/String" "value" "[B" .null := f508.other W482 (Or.inl (by show @Ne Nat b476 b479; omega))
          have f510 : Fld Z h491 b476 "java/lang/String" "value" "[B" .null := f509.other W491 (Or.inl (by show @Ne Nat b476 b479; omega))
          have f511 : Fld Z h498 b476 "java/lang/String" "value" "[B" .null := f510.other W498 (Or.inl (by show @Ne Nat b476 b479; omega))
          have f512 : Fld Z h479 b476 "java/lang/String" "coder" "B" (.int (0 : Int32)) := f478.ext E479
          have f513 : Fld Z h482 b476 "java/lang/String" "coder" "B" (.int (0 : Int32)) := f512.other W482 (Or.inl (by show @Ne Nat b476 b479; omega))
          have f514 : Fld Z h491 b476 "java/lang/String" "coder" "B" (.int (0 : Int32)) := f513.other W491 (Or.inl (by show @Ne Nat b476 b479; omega))
          have f515 : Fld Z h498 b476 "java/lang/String" "coder" "B" (.int (0 : Int32)) := f514.other W498 (Or.inl (by show @Ne Nat b476 b479; omega))
          have f516 : Old Z Z.heap.size h498 := f497.wr W498 (by omega)
          obtain ⟨_, _, ⟨T503, L503, k503, n503⟩, -, X503, ⟨Lc503, hQ503, l503, y503, z503⟩, st503⟩ := X498.specialBack hx (y := (⟨"java/lang/String", "<init>", "([C)V"⟩ : MethodName)) rfl hown (mvT hZ (hw _ (List.mem_of_getElem? (i := 16) rfl))) (mvT hZ (hw _ (List.mem_of_getElem? (i := 17) rfl))) (mvT hZ (hw _ (List.mem_of_getElem? (i := 18) rfl))) (by decide) (own_backStr (W := 1) (cs := [p2, (own_Hi p3), (own_Lo p3)]) hZ hw f516 f507 f511 f515 f501 st_COMPACT_STRINGS st__assertionsDisabled st_HI_BYTE_SHIFT st_LO_BYTE_SHIFT rfl (Nat.le_of_ble_eq_true rfl) (Nat.le_of_ble_eq_true rfl) (own_aS (own_c16r hv2 hc437) (own_aS (own_HiR hc438 hv3) (own_aS (own_LoR hc438 hv3) own_a0))) (by omega) (by first | assumption | decide) (by decide) (by decide)) (g := (mkF m 126 #[.val (.int p1), .val (.int p2), .val (.int p3)] [(.ref b479), (.ref b476), (.ref b476)])) rfl (by rw [hml]; rfl) (Steps.refl _) (a := b476) (argsL := [(.ref b479)]) (rest := [(.ref b476)]) (lenOf pd_479 rfl) rfl (by show 2 * 0 + _ ≤ _; exact Nat.le_of_eq rfl) (hb hby d_method_5_126) (fun _ _ => ⟨rfl, e498, (by decide : 2 + 2 ≤ _), (by decide : 7 + 12 ≤ _)⟩)
          dsimp only [Pt.U, Pt.locs, Pt.cells, Pt.slots] at X503 l503 y503 z503 st503 hQ503
          subst l503 y503 z503
          obtain ⟨t_503, rfl, N503q, K503, f503_0, pr503_0⟩ := hQ503
          have N503 := Fr.app N498 N503q
          have z503 : h498.size ≤ T503.heap.size := K503.1
          have R503 : CHr Z consts_1 s.vm h0 s.vm T503.heap := R498.trans (CHr.keep K503 (sfS Sf502 sf0) R498.1)
          have Sf517 : Safe Z consts_1 s.vm T503.heap b476 := Safe.keep K503 (sfS Sf502 sf0) R498.1 Sf502
          have lt503_0 : @LT.lt Nat _ b476 T503.heap.size := f503_0.lt
          have ltv503_0 : @LT.lt Nat _ t_503 T503.heap.size := f503_0.ltv
          refine own_Go.tr st503 ?_
          show own_Go _ _ _ _ (T503.setTop (mkF m 129 #[.val (.int p1), .val (.int p2), .val (.int p3)] [(.ref b476)]))
          obtain ⟨fs518, hr518, hrun518, hend518, hret518⟩ := X503.leaveW hS0 (by omega) (v := some (.ref b476)) (fun h => by rw [Bd.returns] at h; cases h)
          have K519 : Keep h0 h476 [] := (Keep.refl h0 []).ext E476
          have K520 : Keep h0 h479 [] := K519.ext E479
          have K521 : Keep h0 h482 [] := K520.wr W482 (Or.inr (by omega))
          have K522 : Keep h0 h491 [] := K521.wr W491 (Or.inr (by omega))
          have K523 : Keep h0 h498 [] := K522.wr W498 (Or.inr (by omega))
          have K524 : Keep h0 T503.heap [] := K523.trans K503 (allS (Or.inr (by omega)) all0)
          subst hPP
          refine ⟨_, _, own_retA X503 hx Bd.returns rfl rfl (hb hby d_method_5_129) hr518, hrun518, hend518, _, _, rfl, ?_, ?_, hret518.1, hret518.2.1, hret518.2.2.1, hret518.2.2.2.mono (by decide) (by decide)⟩
          · show Q_str Z _ _ _ _ h0 _ T503.heap _
            exact ⟨b476, t_503, [p2, (own_Hi p3), (own_Lo p3)], rfl, N503, K524, f503_0, (by unfold own_pts; rw [if_neg hc351, if_neg hc369]; first | done | (simp only [own_encs, own_enc, hc437, hc438, if_true, if_false]; try rfl))⟩
          · have hfin := R503.trans (CHv.at X503 hZ hEL R503.1)
            rw [← hh] at hfin
            show CHr Z consts_1 s.vm s.heap T503.vm T503.heap
            exact hfin
      ·
        refine own_Go.st (fun _ k => XS.icmpYes X0.here hx rfl (pc0 := 70) (pc' := 130) rfl (hb hby d_method_5_70) rfl (flt hc437).2.1 (by decide) (by decide) k) ?_
        show own_Go _ _ _ _ (s₁.setTop (mkF m 130 #[.val (.int p1), .val (.int p2), .val (.int p3)] []))
        refine own_Go.st (fun _ k => XS.iloadN X0.here hx rfl (hb hby d_method_5_130) rfl k) ?_
        show own_Go _ _ _ _ (s₁.setTop (mkF m 131 #[.val (.int p1), .val (.int p2), .val (.int p3)] [(.int p3)]))
        refine own_Go.st (X0.ldcInt hx hown (mvT hZ (hw _ (List.mem_of_getElem? (i := 7) rfl))) (g := (mkF m 131 #[.val (.int p1), .val (.int p2), .val (.int p3)] [(.int p3)])) rfl (hb hby d_method_5_131)) ?_
        show own_Go _ _ _ _ (s₁.setTop (mkF m 133 #[.val (.int p1), .val (.int p2), .val (.int p3)] [(.int (65536 : Int32)), (.int p3)]))
        by_cases hc525 : p3 < (65536 : Int32)
        ·
          refine own_Go.st (fun _ k => XS.icmpNo X0.here hx rfl (hb hby d_method_5_133) rfl (tlt hc525).2.1 k) ?_
          show own_Go _ _ _ _ (s₁.setTop (mkF m 136 #[.val (.int p1), .val (.int p2), .val (.int p3)] []))
          obtain ⟨T526, h526, X526, e526, E526, A526, D526, U526, st526⟩ := newO X0 hx hZ hown (hw _ (List.mem_of_getElem? (i := 12) rfl)) (hw _ (List.mem_of_getElem? (i := 13) rfl)) (hw _ (List.mem_of_getElem? (i := 14) rfl)) e0 (g := (mkF m 136 #[.val (.int p1), .val (.int p2), .val (.int p3)] [])) rfl (hb hby d_method_5_136) (by decide) (by decide)
          obtain ⟨b526, g526⟩ : ∃ z, z = h0.size := ⟨_, rfl⟩
          rw [← g526] at A526 D526 U526 st526
          refine own_Go.st st526 ?_
          have z526 : h0.size ≤ h526.size := E526.1
          have lt_b526 : @LT.lt Nat _ b526 h526.size := A526.lt
          have f527 : Fld Z h526 b526 "java/lang/String" "value" "[B" .null := D526 (Or.inr (hw _ (List.mem_of_getElem? (i := 28) rfl))) (ty := (.array .byte)) (by decide)
          have f528 : Fld Z h526 b526 "java/lang/String" "coder" "B" (.int (0 : Int32)) := D526 (Or.inr (hw _ (List.mem_of_getElem? (i := 29) rfl))) (ty := .byte) (by decide)
          have R526 : CHr Z consts_1 s.vm h0 s.vm h526 := R0.trans (CHr.ext E526 R0.1)
          have Sf526 : Safe Z consts_1 s.vm h526 b526 := (Safe.new (Nat.le_of_eq g526.symm)).ext E526 R0.1
          show own_Go _ _ _ _ (T526.setTop (mkF m 139 #[.val (.int p1), .val (.int p2), .val (.int p3)] [(.ref b526)]))
          refine own_Go.st (fun _ k => XS.dup X526.here hx rfl (hb hby d_method_5_139) rfl rfl k) ?_
          show own_Go _ _ _ _ (T526.setTop (mkF m 140 #[.val (.int p1), .val (.int p2), .val (.int p3)] [(.ref b526), (.ref b526)]))
          refine own_Go.st (fun _ k => XS.iconst X526.here hx rfl (hb hby d_method_5_140) k) ?_
          show own_Go _ _ _ _ (T526.setTop (mkF m 141 #[.val (.int p1), .val (.int p2), .val (.int p3)] [(.int (3 : Int32)), (.ref b526), (.ref b526)]))
          obtain ⟨T529, h529, k529, X529, e529, E529, A529, st529⟩ := newP X526 hx hZ (hw _ (List.mem_of_getElem? (i := 15) rfl)) e526 (g := (mkF m 141 #[.val (.int p1), .val (.int p2), .val (.int p3)] [(.int (3 : Int32)), (.ref b526), (.ref b526)])) rfl (hb hby d_method_5_141) rfl (by decide) (cap := 3) (by decide) (by decide) (by decide) (by decide)
          obtain ⟨b529, g529⟩ : ∃ z, z = h526.size := ⟨_, rfl⟩
          rw [← g529] at A529 st529
          refine own_Go.st st529 ?_
          have z529 : h526.size ≤ h529.size := E529.1
          have f530 : Arv Z h529 b529 k529 .char (3 : Int32) [(.int (0 : Int32)), (.int (0 : Int32)), (.int (0 : Int32))] (.int (0 : Int32)) := (Arv.new A529 (by decide)).pad (pad_rep [] (.int (0 : Int32)) 3)
          have lt_b529 : @LT.lt Nat _ b529 h529.size := f530.lt
          have R529 : CHr Z consts_1 s.vm h0 s.vm h529 := R526.trans (CHr.ext E529 R526.1)
          have Sf531 : Safe Z consts_1 s.vm h529 b526 := Safe.ext E529 R526.1 Sf526
          show own_Go _ _ _ _ (T529.setTop (mkF m 143 #[.val (.int p1), .val (.int p2), .val (.int p3)] [(.ref b529), (.ref b526), (.ref b526)]))
          refine own_Go.st (fun _ k => XS.dup X529.here hx rfl (hb hby d_method_5_143) rfl rfl k) ?_
          show own_Go _ _ _ _ (T529.setTop (mkF m 144 #[.val (.int p1), .val (.int p2), .val (.int p3)] [(.ref b529), (.ref b529), (.ref b526), (.ref b526)]))
          refine own_Go.st (fun _ k => XS.iconst X529.here hx rfl (hb hby d_method_5_144) k) ?_
          show own_Go _ _ _ _ (T529.setTop (mkF m 145 #[.val (.int p1), .val (.int p2), .val (.int p3)] [(.int (0 : Int32)), (.ref b529), (.ref b529), (.ref b526), (.ref b526)]))
          refine own_Go.st (fun _ k => XS.iloadN X529.here hx rfl (hb hby d_method_5_145) rfl k) ?_
          show own_Go _ _ _ _ (T529.setTop (mkF m 146 #[.val (.int p1), .val (.int p2), .val (.int p3)] [(.int p2), (.int (0 : Int32)), (.ref b529), (.ref b529), (.ref b526), (.ref b526)]))
          have f533 : Old Z Z.heap.size h526 := OL.ext E526
          have f534 : Old Z Z.heap.size h529 := f533.ext E529
          obtain ⟨_, _, ⟨T532, L532, k532, n532⟩, -, X532, ⟨Lc532, hQ532, l532, y532, z532⟩, st532⟩ := Jvm.LawKit.callS X529 hx (y := (⟨"com/example/keep_to_layer/keeptolayer/model/ClassNamesComparePinLaw", "hi", "(I)C"⟩ : MethodName)) hown (mvT hZ (hw _ (List.mem_of_getElem? (i := 69) rfl))) (mvT hZ (hw _ (List.mem_of_getElem? (i := 70) rfl))) (mvT hZ (hw _ (List.mem_of_getElem? (i := 3) rfl))) (mvT hZ (hw _ (List.mem_of_getElem? (i := 71) rfl))) (by decide) (backOf (W := 5) (rm_hi l Z a0 hw [] p2 h529 f534 hc437 hv2) hZ (hw _ (List.mem_of_getElem? (i := 71) rfl)) (hw _ (List.mem_of_getElem? (i := 3) rfl)) (by decide) (by decide)) (g := (mkF m 146 #[.val (.int p1), .val (.int p2), .val (.int p3)] [(.int p2), (.int (0 : Int32)), (.ref b529), (.ref b529), (.ref b526), (.ref b526)])) rfl (by rw [hml]; rfl) (argsL := [(.int p2)]) (rest := [(.int (0 : Int32)), (.ref b529), (.ref b529), (.ref b526), (.ref b526)]) (lenOf pd_506 rfl) rfl (by show 2 * 0 + _ ≤ _; exact Nat.le_of_eq rfl) (hb hby d_method_5_146) (fun _ _ => ⟨rfl, e529, (by decide : 2 + 0 ≤ _), (by decide : 7 + 0 ≤ _)⟩)
          dsimp only [Pt.U, Pt.locs, Pt.cells, Pt.slots] at X532 l532 y532 z532 st532 hQ532
          subst l532 y532 z532
          obtain ⟨rfl, N532q, K532⟩ := hQ532
          have N532 := Fr.app N0 N532q
          refine own_Go.st st532 ?_
          show own_Go _ _ _ _ (T532.setTop (mkF m 149 #[.val (.int p1), .val (.int p2), .val (.int p3)] [(.int (own_Hi p2)), (.int (0 : Int32)), (.ref b529), (.ref b529), (.ref b526), (.ref b526)]))
          obtain ⟨c535, Ar535, q535, S535, Nn535, H535, G535⟩ := id f530
          have hin535 : ¬ ((0 : Int32) < 0 ∨ c535.slots.size ≤ ((0 : Int32)).toNatClampNeg) := inb_of S535 ⟨by decide, by decide⟩
          obtain ⟨T535, h535, X535, e535, W535, st535⟩ := stC X532 hx hZ K532 Ar535 (j := (0 : Int32)) hin535 (g := (mkF m 149 #[.val (.int p1), .val (.int p2), .val (.int p3)] [(.int (own_Hi p2)), (.int (0 : Int32)), (.ref b529), (.ref b529), (.ref b526), (.ref b526)])) rfl rfl (hb hby d_method_5_149)
          refine own_Go.st st535 ?_
          have N535 := Fr.snoc X535 N532 (by omega)
          have Sf537 : Safe Z consts_1 s.vm h529 b529 := Safe.arv hZ.alike f530 (by decide)
          have z535 : h529.size ≤ h535.size := Nat.le_of_eq W535.size.symm
          have f536 := Arv.set Ar535 q535 S535 Nn535 H535 G535 (fits_nar_char _) W535 0 rfl (Nat.le_of_ble_eq_true rfl)
          rw [own_nar (own_HiR hc437 hv2)] at f536
          have f538 : Arv Z h535 b529 k529 .char (3 : Int32) [(.int (own_Hi p2)), (.int (0 : Int32)), (.int (0 : Int32))] (.int (0 : Int32)) := f536
          have R535 : CHr Z consts_1 s.vm h0 s.vm h535 := R529.trans (CHr.wr W535 Sf537 R529.1)
          have Sf539 : Safe Z consts_1 s.vm h535 b526 := Safe.wr W535 Sf537 R529.1 Sf531
          show own_Go _ _ _ _ (T535.setTop (mkF m 150 #[.val (.int p1), .val (.int p2), .val (.int p3)] [(.ref b529), (.ref b526), (.ref b526)]))
          refine own_Go.st (fun _ k => XS.dup X535.here hx rfl (hb hby d_method_5_150) rfl rfl k) ?_
          show own_Go _ _ _ _ (T535.setTop (mkF m 151 #[.val (.int p1), .val (.int p2), .val (.int p3)] [(.ref b529), (.ref b529), (.ref b526), (.ref b526)]))
          refine own_Go.st (fun _ k => XS.iconst X535.here hx rfl (hb hby d_method_5_151) k) ?_
          show own_Go _ _ _ _ (T535.setTop (mkF m 152 #[.val (.int p1), .val (.int p2), .val (.int p3)] [(.int (1 : Int32)), (.ref b529), (.ref b529), (.ref b526), (.ref b526)]))
          refine own_Go.st (fun _ k => XS.iloadN X535.here hx rfl (hb hby d_method_5_152) rfl k) ?_
          show own_Go _ _ _ _ (T535.setTop (mkF m 153 #[.val (.int p1), .val (.int p2), .val (.int p3)] [(.int p2), (.int (1 : Int32)), (.ref b529), (.ref b529), (.ref b526), (.ref b526)]))
          have f541 : Old Z Z.heap.size h535 := f534.wr W535 (by omega)
          obtain ⟨_, _, ⟨T540, L540, k540, n540⟩, -, X540, ⟨Lc540, hQ540, l540, y540, z540⟩, st540⟩ := Jvm.LawKit.callS X535 hx (y := (⟨"com/example/keep_to_layer/keeptolayer/model/ClassNamesComparePinLaw", "lo", "(I)C"⟩ : MethodName)) hown (mvT hZ (hw _ (List.mem_of_getElem? (i := 72) rfl))) (mvT hZ (hw _ (List.mem_of_getElem? (i := 73) rfl))) (mvT hZ (hw _ (List.mem_of_getElem? (i := 3) rfl))) (mvT hZ (hw _ (List.mem_of_getElem? (i := 74) rfl))) (by decide) (backOf (W := 5) (rm_lo l Z a0 hw [] p2 h535 f541 hc437 hv2) hZ (hw _ (List.mem_of_getElem? (i := 74) rfl)) (hw _ (List.mem_of_getElem? (i := 3) rfl)) (by decide) (by decide)) (g := (mkF m 153 #[.val (.int p1), .val (.int p2), .val (.int p3)] [(.int p2), (.int (1 : Int32)), (.ref b529), (.ref b529), (.ref b526), (.ref b526)])) rfl (by rw [hml]; rfl) (argsL := [(.int p2)]) (rest := [(.int (1 : Int32)), (.ref b529), (.ref b529), (.ref b526), (.ref b526)]) (lenOf pd_506 rfl) rfl (by show 2 * 0 + _ ≤ _; exact Nat.le_of_eq rfl) (hb hby d_method_5_153) (fun _ _ => ⟨rfl, e535, (by decide : 2 + 0 ≤ _), (by decide : 7 + 0 ≤ _)⟩)
          dsimp only [Pt.U, Pt.locs, Pt.cells, Pt.slots] at X540 l540 y540 z540 st540 hQ540
          subst l540 y540 z540
          obtain ⟨rfl, N540q, K540⟩ := hQ540
          have N540 := Fr.app N535 N540q
          refine own_Go.st st540 ?_
          show own_Go _ _ _ _ (T540.setTop (mkF m 156 #[.val (.int p1), .val (.int p2), .val (.int p3)] [(.int (own_Lo p2)), (.int (1 : Int32)), (.ref b529), (.ref b529), (.ref b526), (.ref b526)]))
          obtain ⟨c542, Ar542, q542, S542, Nn542, H542, G542⟩ := id f538
          have hin542 : ¬ ((1 : Int32) < 0 ∨ c542.slots.size ≤ ((1 : Int32)).toNatClampNeg) := inb_of S542 ⟨by decide, by decide⟩
          obtain ⟨T542, h542, X542, e542, W542, st542⟩ := stC X540 hx hZ K540 Ar542 (j := (1 : Int32)) hin542 (g := (mkF m 156 #[.val (.int p1), .val (.int p2), .val (.int p3)] [(.int (own_Lo p2)), (.int (1 : Int32)), (.ref b529), (.ref b529), (.ref b526), (.ref b526)])) rfl rfl (hb hby d_method_5_156)
          refine own_Go.st st542 ?_
          have N542 := Fr.snoc X542 N540 (by omega)
          have Sf544 : Safe Z consts_1 s.vm h535 b529 := Safe.arv hZ.alike f538 (by decide)
          have z542 : h535.size ≤ h542.size := Nat.le_of_eq W542.size.symm
          have f543 := Arv.set Ar542 q542 S542 Nn542 H542 G542 (fits_nar_char _) W542 1 rfl (Nat.le_of_ble_eq_true rfl)
          rw [own_nar (own_LoR hc437 hv2)] at f543
          have f545 : Arv Z h542 b529 k529 .char (3 : Int32) [(.int (own_Hi p2)), (.int (own_Lo p2)), (.int (0 : Int32))] (.int (0 : Int32)) := f543
          have R542 : CHr Z consts_1 s.vm h0 s.vm h542 := R535.trans (CHr.wr W542 Sf544 R535.1)
          have Sf546 : Safe Z consts_1 s.vm h542 b526 := Safe.wr W542 Sf544 R535.1 Sf539
          show own_Go _ _ _ _ (T542.setTop (mkF m 157 #[.val (.int p1), .val (.int p2), .val (.int p3)] [(.ref b529), (.ref b526), (.ref b526)]))
          refine own_Go.st (fun _ k => XS.dup X542.here hx rfl (hb hby d_method_5_157) rfl rfl k) ?_
          show own_Go _ _ _ _ (T542.setTop (mkF m 158 #[.val (.int p1), .val (.int p2), .val (.int p3)] [(.ref b529), (.ref b529), (.ref b526), (.ref b526)]))
          refine own_Go.st (fun _ k => XS.iconst X542.here hx rfl (hb hby d_method_5_158) k) ?_
          show own_Go _ _ _ _ (T542.setTop (mkF m 159 #[.val (.int p1), .val (.int p2), .val (.int p3)] [(.int (2 : Int32)), (.ref b529), (.ref b529), (.ref b526), (.ref b526)]))
          refine own_Go.st (fun _ k => XS.iloadN X542.here hx rfl (hb hby d_method_5_159) rfl k) ?_
          show own_Go _ _ _ _ (T542.setTop (mkF m 160 #[.val (.int p1), .val (.int p2), .val (.int p3)] [(.int p3), (.int (2 : Int32)), (.ref b529), (.ref b529), (.ref b526), (.ref b526)]))
          refine own_Go.st (fun _ k => XS.i2c X542.here hx rfl (hb hby d_method_5_160) rfl k) ?_
          show own_Go _ _ _ _ (T542.setTop (mkF m 161 #[.val (.int p1), .val (.int p2), .val (.int p3)] [(.int (p3.toUInt32.toUInt16.toUInt32.toInt32)), (.int (2 : Int32)), (.ref b529), (.ref b529), (.ref b526), (.ref b526)]))
          rw [own_c16 hv3 hc525]
          show own_Go _ _ _ _ (T542.setTop (mkF m 161 #[.val (.int p1), .val (.int p2), .val (.int p3)] [(.int p3), (.int (2 : Int32)), (.ref b529), (.ref b529), (.ref b526), (.ref b526)]))
          obtain ⟨c547, Ar547, q547, S547, Nn547, H547, G547⟩ := id f545
          have hin547 : ¬ ((2 : Int32) < 0 ∨ c547.slots.size ≤ ((2 : Int32)).toNatClampNeg) := inb_of S547 ⟨by decide, by decide⟩
          obtain ⟨T547, h547, X547, e547, W547, st547⟩ := stC X542 hx hZ e542 Ar547 (j := (2 : Int32)) hin547 (g := (mkF m 161 #[.val (.int p1), .val (.int p2), .val (.int p3)] [(.int p3), (.int (2 : Int32)), (.ref b529), (.ref b529), (.ref b526), (.ref b526)])) rfl rfl (hb hby d_method_5_161)
          refine own_Go.st st547 ?_
          have N547 := Fr.snoc X547 N542 (by omega)
          have Sf549 : Safe Z consts_1 s.vm h542 b529 := Safe.arv hZ.alike f545 (by decide)
          have z547 : h542.size ≤ h547.size := Nat.le_of_eq W547.size.symm
          have f548 := Arv.set Ar547 q547 S547 Nn547 H547 G547 (fits_nar_char _) W547 2 rfl (Nat.le_of_ble_eq_true rfl)
          rw [own_nar (own_c16r hv3 hc525)] at f548
          have f550 : Arv Z h547 b529 k529 .char (3 : Int32) [(.int (own_Hi p2)), (.int (own_Lo p2)), (.int p3)] (.int (0 : Int32)) := f548
          have R547 : CHr Z consts_1 s.vm h0 s.vm h547 := R542.trans (CHr.wr W547 Sf549 R542.1)
          have Sf551 : Safe Z consts_1 s.vm h547 b526 := Safe.wr W547 Sf549 R542.1 Sf546
          show own_Go _ _ _ _ (T547.setTop (mkF m 162 #[.val (.int p1), .val (.int p2), .val (.int p3)] [(.ref b529), (.ref b526), (.ref b526)]))
          have f553 : Exa Z h529 b526 "java/lang/String" := A526.ext E529
          have f554 : Exa Z h535 b526 "java/lang/String" := f553.wr W535
          have f555 : Exa Z h542 b526 "java/lang/String" := f554.wr W542
          have f556 : Exa Z h547 b526 "java/lang/String" := f555.wr W547
          have f557 : Fld Z h529 b526 "java/lang/String" "value" "[B" .null := f527.ext E529
          have f558 : Fld Z h535 b526 "java/lang/String" "value" "[B" .null := f557.other W535 (Or.inl (by show @Ne Nat b526 b529; omega))
          have f559 : Fld Z h542 b526 "java/lang/String" "value" "[B" .null := f558.other W542 (Or.inl (by show @Ne Nat b526 b529; omega))
          have f560 : Fld Z h547 b526 "java/lang/String" "value" "[B" .null := f559.other W547 (Or.inl (by show @Ne Nat b526 b529; omega))
          have f561 : Fld Z h529 b526 "java/lang/String" "coder" "B" (.int (0 : Int32)) := f528.ext E529
          have f562 : Fld Z h535 b526 "java/lang/String" "coder" "B" (.int (0 : Int32)) := f561.other W535 (Or.inl (by show @Ne Nat b526 b529; omega))
          have f563 : Fld Z h542 b526 "java/lang/String" "coder" "B" (.int (0 : Int32)) := f562.other W542 (Or.inl (by show @Ne Nat b526 b529; omega))
          have f564 : Fld Z h547 b526 "java/lang/String" "coder" "B" (.int (0 : Int32)) := f563.other W547 (Or.inl (by show @Ne Nat b526 b529; omega))
          have f565 : Old Z Z.heap.size h542 := f541.wr W542 (by omega)
          have f566 : Old Z Z.heap.size h547 := f565.wr W547 (by omega)
          obtain ⟨_, _, ⟨T552, L552, k552, n552⟩, -, X552, ⟨Lc552, hQ552, l552, y552, z552⟩, st552⟩ := X547.specialBack hx (y := (⟨"java/lang/String", "<init>", "([C)V"⟩ : MethodName)) rfl hown (mvT hZ (hw _ (List.mem_of_getElem? (i := 16) rfl))) (mvT hZ (hw _ (List.mem_of_getElem? (i := 17) rfl))) (mvT hZ (hw _ (List.mem_of_getElem? (i := 18) rfl))) (by decide) (own_backStr (W := 1) (cs := [(own_Hi p2), (own_Lo p2), p3]) hZ hw f566 f556 f560 f564 f550 st_COMPACT_STRINGS st__assertionsDisabled st_HI_BYTE_SHIFT st_LO_BYTE_SHIFT rfl (Nat.le_of_ble_eq_true rfl) (Nat.le_of_ble_eq_true rfl) (own_aS (own_HiR hc437 hv2) (own_aS (own_LoR hc437 hv2) (own_aS (own_c16r hv3 hc525) own_a0))) (by omega) (by first | assumption | decide) (by decide) (by decide)) (g := (mkF m 162 #[.val (.int p1), .val (.int p2), .val (.int p3)] [(.ref b529), (.ref b526), (.ref b526)])) rfl (by rw [hml]; rfl) (Steps.refl _) (a := b526) (argsL := [(.ref b529)]) (rest := [(.ref b526)]) (lenOf pd_479 rfl) rfl (by show 2 * 0 + _ ≤ _; exact Nat.le_of_eq rfl) (hb hby d_method_5_162) (fun _ _ => ⟨rfl, e547, (by decide : 2 + 2 ≤ _), (by decide : 7 + 12 ≤ _)⟩)
          dsimp only [Pt.U, Pt.locs, Pt.cells, Pt.slots] at X552 l552 y552 z552 st552 hQ552
          subst l552 y552 z552
          obtain ⟨t_552, rfl, N552q, K552, f552_0, pr552_0⟩ := hQ552
          have N552 := Fr.app N547 N552q
          have z552 : h547.size ≤ T552.heap.size := K552.1
          have R552 : CHr Z consts_1 s.vm h0 s.vm T552.heap := R547.trans (CHr.keep K552 (sfS Sf551 sf0) R547.1)
          have Sf567 : Safe Z consts_1 s.vm T552.heap b526 := Safe.keep K552 (sfS Sf551 sf0) R547.1 Sf551
          have lt552_0 : @LT.lt Nat _ b526 T552.heap.size := f552_0.lt
          have ltv552_0 : @LT.lt Nat _ t_552 T552.heap.size := f552_0.ltv
          refine own_Go.tr st552 ?_
          show own_Go _ _ _ _ (T552.setTop (mkF m 165 #[.val (.int p1), .val (.int p2), .val (.int p3)] [(.ref b526)]))
          obtain ⟨fs568, hr568, hrun568, hend568, hret568⟩ := X552.leaveW hS0 (by omega) (v := some (.ref b526)) (fun h => by rw [Bd.returns] at h; cases h)
          have K569 : Keep h0 h526 [] := (Keep.refl h0 []).ext E526
          have K570 : Keep h0 h529 [] := K569.ext E529
          have K571 : Keep h0 h535 [] := K570.wr W535 (Or.inr (by omega))
          have K572 : Keep h0 h542 [] := K571.wr W542 (Or.inr (by omega))
          have K573 : Keep h0 h547 [] := K572.wr W547 (Or.inr (by omega))
          have K574 : Keep h0 T552.heap [] := K573.trans K552 (allS (Or.inr (by omega)) all0)
          subst hPP
          refine ⟨_, _, own_retA X552 hx Bd.returns rfl rfl (hb hby d_method_5_165) hr568, hrun568, hend568, _, _, rfl, ?_, ?_, hret568.1, hret568.2.1, hret568.2.2.1, hret568.2.2.2.mono (by decide) (by decide)⟩
          · show Q_str Z _ _ _ _ h0 _ T552.heap _
            exact ⟨b526, t_552, [(own_Hi p2), (own_Lo p2), p3], rfl, N552, K574, f552_0, (by unfold own_pts; rw [if_neg hc351, if_neg hc369]; first | done | (simp only [own_encs, own_enc, hc437, hc525, if_true, if_false]; try rfl))⟩
          · have hfin := R552.trans (CHv.at X552 hZ hEL R552.1)
            rw [← hh] at hfin
            show CHr Z consts_1 s.vm s.heap T552.vm T552.heap
            exact hfin
        ·
          refine own_Go.st (fun _ k => XS.icmpYes X0.here hx rfl (pc0 := 133) (pc' := 166) rfl (hb hby d_method_5_133) rfl (flt hc525).2.1 (by decide) (by decide) k) ?_
          show own_Go _ _ _ _ (s₁.setTop (mkF m 166 #[.val (.int p1), .val (.int p2), .val (.int p3)] []))
          obtain ⟨T575, h575, X575, e575, E575, A575, D575, U575, st575⟩ := newO X0 hx hZ hown (hw _ (List.mem_of_getElem? (i := 12) rfl)) (hw _ (List.mem_of_getElem? (i := 13) rfl)) (hw _ (List.mem_of_getElem? (i := 14) rfl)) e0 (g := (mkF m 166 #[.val (.int p1), .val (.int p2), .val (.int p3)] [])) rfl (hb hby d_method_5_166) (by decide) (by decide)
          obtain ⟨b575, g575⟩ : ∃ z, z = h0.size := ⟨_, rfl⟩
          rw [← g575] at A575 D575 U575 st575
          refine own_Go.st st575 ?_
          have z575 : h0.size ≤ h575.size := E575.1
          have lt_b575 : @LT.lt Nat _ b575 h575.size := A575.lt
          have f576 : Fld Z h575 b575 "java/lang/String" "value" "[B" .null := D575 (Or.inr (hw _ (List.mem_of_getElem? (i := 28) rfl))) (ty := (.array .byte)) (by decide)
          have f577 : Fld Z h575 b575 "java/lang/String" "coder" "B" (.int (0 : Int32)) := D575 (Or.inr (hw _ (List.mem_of_getElem? (i := 29) rfl))) (ty := .byte) (by decide)
          have R575 : CHr Z consts_1 s.vm h0 s.vm h575 := R0.trans (CHr.ext E575 R0.1)
          have Sf575 : Safe Z consts_1 s.vm h575 b575 := (Safe.new (Nat.le_of_eq g575.symm)).ext E575 R0.1
          show own_Go _ _ _ _ (T575.setTop (mkF m 169 #[.val (.int p1), .val (.int p2), .val (.int p3)] [(.ref b575)]))
          refine own_Go.st (fun _ k => XS.dup X575.here hx rfl (hb hby d_method_5_169) rfl rfl k) ?_
          show own_Go _ _ _ _ (T575.setTop (mkF m 170 #[.val (.int p1), .val (.int p2), .val (.int p3)] [(.ref b575), (.ref b575)]))
          refine own_Go.st (fun _ k => XS.iconst X575.here hx rfl (hb hby d_method_5_170) k) ?_
          show own_Go _ _ _ _ (T575.setTop (mkF m 171 #[.val (.int p1), .val (.int p2), .val (.int p3)] [(.int (4 : Int32)), (.ref b575), (.ref b575)]))
          obtain ⟨T578, h578, k578, X578, e578, E578, A578, st578⟩ := newP X575 hx hZ (hw _ (List.mem_of_getElem? (i := 15) rfl)) e575 (g := (mkF m 171 #[.val (.int p1), .val (.int p2), .val (.int p3)] [(.int (4 : Int32)), (.ref b575), (.ref b575)])) rfl (hb hby d_method_5_171) rfl (by decide) (cap := 4) (by decide) (by decide) (by decide) (by decide)
          obtain ⟨b578, g578⟩ : ∃ z, z = h575.size := ⟨_, rfl⟩
          rw [← g578] at A578 st578
          refine own_Go.st st578 ?_
          have z578 : h575.size ≤ h578.size := E578.1
          have f579 : Arv Z h578 b578 k578 .char (4 : Int32) [(.int (0 : Int32)), (.int (0 : Int32)), (.int (0 : Int32)), (.int (0 : Int32))] (.int (0 : Int32)) := (Arv.new A578 (by decide)).pad (pad_rep [] (.int (0 : Int32)) 4)
          have lt_b578 : @LT.lt Nat _ b578 h578.size := f579.lt
          have R578 : CHr Z consts_1 s.vm h0 s.vm h578 := R575.trans (CHr.ext E578 R575.1)
          have Sf580 : Safe Z consts_1 s.vm h578 b575 := Safe.ext E578 R575.1 Sf575
          show own_Go _ _ _ _ (T578.setTop (mkF m 173 #[.val (.int p1), .val (.int p2), .val (.int p3)] [(.ref b578), (.ref b575), (.ref b575)]))
          refine own_Go.st (fun _ k => XS.dup X578.here hx rfl (hb hby d_method_5_173) rfl rfl k) ?_
          show own_Go _ _ _ _ (T578.setTop (mkF m 174 #[.val (.int p1), .val (.int p2), .val (.int p3)] [(.ref b578), (.ref b578), (.ref b575), (.ref b575)]))
          refine own_Go.st (fun _ k => XS.iconst X578.here hx rfl (hb hby d_method_5_174) k) ?_
          show own_Go _ _ _ _ (T578.setTop (mkF m 175 #[.val (.int p1), .val (.int p2), .val (.int p3)] [(.int (0 : Int32)), (.ref b578), (.ref b578), (.ref b575), (.ref b575)]))
          refine own_Go.st (fun _ k => XS.iloadN X578.here hx rfl (hb hby d_method_5_175) rfl k) ?_
          show own_Go _ _ _ _ (T578.setTop (mkF m 176 #[.val (.int p1), .val (.int p2), .val (.int p3)] [(.int p2), (.int (0 : Int32)), (.ref b578), (.ref b578), (.ref b575), (.ref b575)]))
          have f582 : Old Z Z.heap.size h575 := OL.ext E575
          have f583 : Old Z Z.heap.size h578 := f582.ext E578
          obtain ⟨_, _, ⟨T581, L581, k581, n581⟩, -, X581, ⟨Lc581, hQ581, l581, y581, z581⟩, st581⟩ := Jvm.LawKit.callS X578 hx (y := (⟨"com/example/keep_to_layer/keeptolayer/model/ClassNamesComparePinLaw", "hi", "(I)C"⟩ : MethodName)) hown (mvT hZ (hw _ (List.mem_of_getElem? (i := 69) rfl))) (mvT hZ (hw _ (List.mem_of_getElem? (i := 70) rfl))) (mvT hZ (hw _ (List.mem_of_getElem? (i := 3) rfl))) (mvT hZ (hw _ (List.mem_of_getElem? (i := 71) rfl))) (by decide) (backOf (W := 5) (rm_hi l Z a0 hw [] p2 h578 f583 hc437 hv2) hZ (hw _ (List.mem_of_getElem? (i := 71) rfl)) (hw _ (List.mem_of_getElem? (i := 3) rfl)) (by decide) (by decide)) (g := (mkF m 176 #[.val (.int p1), .val (.int p2), .val (.int p3)] [(.int p2), (.int (0 : Int32)), (.ref b578), (.ref b578), (.ref b575), (.ref b575)])) rfl (by rw [hml]; rfl) (argsL := [(.int p2)]) (rest := [(.int (0 : Int32)), (.ref b578), (.ref b578), (.ref b575), (.ref b575)]) (lenOf pd_506 rfl) rfl (by show 2 * 0 + _ ≤ _; exact Nat.le_of_eq rfl) (hb hby d_method_5_176) (fun _ _ => ⟨rfl, e578, (by decide : 2 + 0 ≤ _), (by decide : 8 + 0 ≤ _)⟩)
          dsimp only [Pt.U, Pt.locs, Pt.cells, Pt.slots] at X581 l581 y581 z581 st581 hQ581
          subst l581 y581 z581
          obtain ⟨rfl, N581q, K581⟩ := hQ581
          have N581 := Fr.app N0 N581q
          refine own_Go.st st581 ?_
          show own_Go _ _ _ _ (T581.setTop (mkF m 179 #[.val (.int p1), .val (.int p2), .val (.int p3)] [(.int (own_Hi p2)), (.int (0 : Int32)), (.ref b578), (.ref b578), (.ref b575), (.ref b575)]))
          obtain ⟨c584, Ar584, q584, S584, Nn584, H584, G584⟩ := id f579
          have hin584 : ¬ ((0 : Int32) < 0 ∨ c584.slots.size ≤ ((0 : Int32)).toNatClampNeg) := inb_of S584 ⟨by decide, by decide⟩
          obtain ⟨T584, h584, X584, e584, W584, st584⟩ := stC X581 hx hZ K581 Ar584 (j := (0 : Int32)) hin584 (g := (mkF m 179 #[.val (.int p1), .val (.int p2), .val (.int p3)] [(.int (own_Hi p2)), (.int (0 : Int32)), (.ref b578), (.ref b578), (.ref b575), (.ref b575)])) rfl rfl (hb hby d_method_5_179)
          refine own_Go.st st584 ?_
          have N584 := Fr.snoc X584 N581 (by omega)
          have Sf586 : Safe Z consts_1 s.vm h578 b578 := Safe.arv hZ.alike f579 (by decide)
          have z584 : h578.size ≤ h584.size := Nat.le_of_eq W584.size.symm
          have f585 := Arv.set Ar584 q584 S584 Nn584 H584 G584 (fits_nar_char _) W584 0 rfl (Nat.le_of_ble_eq_true rfl)
          rw [own_nar (own_HiR hc437 hv2)] at f585
          have f587 : Arv Z h584 b578 k578 .char (4 : Int32) [(.int (own_Hi p2)), (.int (0 : Int32)), (.int (0 : Int32)), (.int (0 : Int32))] (.int (0 : Int32)) := f585
          have R584 : CHr Z consts_1 s.vm h0 s.vm h584 := R578.trans (CHr.wr W584 Sf586 R578.1)
          have Sf588 : Safe Z consts_1 s.vm h584 b575 := Safe.wr W584 Sf586 R578.1 Sf580
          show own_Go _ _ _ _ (T584.setTop (mkF m 180 #[.val (.int p1), .val (.int p2), .val (.int p3)] [(.ref b578), (.ref b575), (.ref b575)]))
          refine own_Go.st (fun _ k => XS.dup X584.here hx rfl (hb hby d_method_5_180) rfl rfl k) ?_
          show own_Go _ _ _ _ (T584.setTop (mkF m 181 #[.val (.int p1), .val (.int p2), .val (.int p3)] [(.ref b578), (.ref b578), (.ref b575), (.ref b575)]))
          refine own_Go.st (fun _ k => XS.iconst X584.here hx rfl (hb hby d_method_5_181) k) ?_
          show own_Go _ _ _ _ (T584.setTop (mkF m 182 #[.val (.int p1), .val (.int p2), .val (.int p3)] [(.int (1 : Int32)), (.ref b578), (.ref b578), (.ref b575), (.ref b575)]))
          refine own_Go.st (fun _ k => XS.iloadN X584.here hx rfl (hb hby d_method_5_182) rfl k) ?_
          show own_Go _ _ _ _ (T584.setTop (mkF m 183 #[.val (.int p1), .val (.int p2), .val (.int p3)] [(.int p2), (.int (1 : Int32)), (.ref b578), (.ref b578), (.ref b575), (.ref b575)]))
          have f590 : Old Z Z.heap.size h584 := f583.wr W584 (by omega)
          obtain ⟨_, _, ⟨T589, L589, k589, n589⟩, -, X589, ⟨Lc589, hQ589, l589, y589, z589⟩, st589⟩ := Jvm.LawKit.callS X584 hx (y := (⟨"com/example/keep_to_layer/keeptolayer/model/ClassNamesComparePinLaw", "lo", "(I)C"⟩ : MethodName)) hown (mvT hZ (hw _ (List.mem_of_getElem? (i := 72) rfl))) (mvT hZ (hw _ (List.mem_of_getElem? (i := 73) rfl))) (mvT hZ (hw _ (List.mem_of_getElem? (i := 3) rfl))) (mvT hZ (hw _ (List.mem_of_getElem? (i := 74) rfl))) (by decide) (backOf (W := 5) (rm_lo l Z a0 hw [] p2 h584 f590 hc437 hv2) hZ (hw _ (List.mem_of_getElem? (i := 74) rfl)) (hw _ (List.mem_of_getElem? (i := 3) rfl)) (by decide) (by decide)) (g := (mkF m 183 #[.val (.int p1), .val (.int p2), .val (.int p3)] [(.int p2), (.int (1 : Int32)), (.ref b578), (.ref b578), (.ref b575), (.ref b575)])) rfl (by rw [hml]; rfl) (argsL := [(.int p2)]) (rest := [(.int (1 : Int32)), (.ref b578), (.ref b578), (.ref b575), (.ref b575)]) (lenOf pd_506 rfl) rfl (by show 2 * 0 + _ ≤ _; exact Nat.le_of_eq rfl) (hb hby d_method_5_183) (fun _ _ => ⟨rfl, e584, (by decide : 2 + 0 ≤ _), (by decide : 8 + 0 ≤ _)⟩)
          dsimp only [Pt.U, Pt.locs, Pt.cells, Pt.slots] at X589 l589 y589 z589 st589 hQ589
          subst l589 y589 z589
          obtain ⟨rfl, N589q, K589⟩ := hQ589
          have N589 := Fr.app N584 N589q
          refine own_Go.st st589 ?_
          show own_Go _ _ _ _ (T589.setTop (mkF m 186 #[.val (.int p1), .val (.int p2), .val (.int p3)] [(.int (own_Lo p2)), (.int (1 : Int32)), (.ref b578), (.ref b578), (.ref b575), (.ref b575)]))
          obtain ⟨c591, Ar591, q591, S591, Nn591, H591, G591⟩ := id f587
          have hin591 : ¬ ((1 : Int32) < 0 ∨ c591.slots.size ≤ ((1 : Int32)).toNatClampNeg) := inb_of S591 ⟨by decide, by decide⟩
          obtain ⟨T591, h591, X591, e591, W591, st591⟩ := stC X589 hx hZ K589 Ar591 (j := (1 : Int32)) hin591 (g := (mkF m 186 #[.val (.int p1), .val (.int p2), .val (.int p3)] [(.int (own_Lo p2)), (.int (1 : Int32)), (.ref b578), (.ref b578), (.ref b575), (.ref b575)])) rfl rfl (hb hby d_method_5_186)
          refine own_Go.st st591 ?_
          have N591 := Fr.snoc X591 N589 (by omega)
          have Sf593 : Safe Z consts_1 s.vm h584 b578 := Safe.arv hZ.alike f587 (by decide)
          have z591 : h584.size ≤ h591.size := Nat.le_of_eq W591.size.symm
          have f592 := Arv.set Ar591 q591 S591 Nn591 H591 G591 (fits_nar_char _) W591 1 rfl (Nat.le_of_ble_eq_true rfl)
          rw [own_nar (own_LoR hc437 hv2)] at f592
          have f594 : Arv Z h591 b578 k578 .char (4 : Int32) [(.int (own_Hi p2)), (.int (own_Lo p2)), (.int (0 : Int32)), (.int (0 : Int32))] (.int (0 : Int32)) := f592
          have R591 : CHr Z consts_1 s.vm h0 s.vm h591 := R584.trans (CHr.wr W591 Sf593 R584.1)
          have Sf595 : Safe Z consts_1 s.vm h591 b575 := Safe.wr W591 Sf593 R584.1 Sf588
          show own_Go _ _ _ _ (T591.setTop (mkF m 187 #[.val (.int p1), .val (.int p2), .val (.int p3)] [(.ref b578), (.ref b575), (.ref b575)]))
          refine own_Go.st (fun _ k => XS.dup X591.here hx rfl (hb hby d_method_5_187) rfl rfl k) ?_
          show own_Go _ _ _ _ (T591.setTop (mkF m 188 #[.val (.int p1), .val (.int p2), .val (.int p3)] [(.ref b578), (.ref b578), (.ref b575), (.ref b575)]))
          refine own_Go.st (fun _ k => XS.iconst X591.here hx rfl (hb hby d_method_5_188) k) ?_
          show own_Go _ _ _ _ (T591.setTop (mkF m 189 #[.val (.int p1), .val (.int p2), .val (.int p3)] [(.int (2 : Int32)), (.ref b578), (.ref b578), (.ref b575), (.ref b575)]))
          refine own_Go.st (fun _ k => XS.iloadN X591.here hx rfl (hb hby d_method_5_189) rfl k) ?_
          show own_Go _ _ _ _ (T591.setTop (mkF m 190 #[.val (.int p1), .val (.int p2), .val (.int p3)] [(.int p3), (.int (2 : Int32)), (.ref b578), (.ref b578), (.ref b575), (.ref b575)]))
          have f597 : Old Z Z.heap.size h591 := f590.wr W591 (by omega)
          obtain ⟨_, _, ⟨T596, L596, k596, n596⟩, -, X596, ⟨Lc596, hQ596, l596, y596, z596⟩, st596⟩ := Jvm.LawKit.callS X591 hx (y := (⟨"com/example/keep_to_layer/keeptolayer/model/ClassNamesComparePinLaw", "hi", "(I)C"⟩ : MethodName)) hown (mvT hZ (hw _ (List.mem_of_getElem? (i := 69) rfl))) (mvT hZ (hw _ (List.mem_of_getElem? (i := 70) rfl))) (mvT hZ (hw _ (List.mem_of_getElem? (i := 3) rfl))) (mvT hZ (hw _ (List.mem_of_getElem? (i := 71) rfl))) (by decide) (backOf (W := 5) (rm_hi l Z a0 hw [] p3 h591 f597 hc525 hv3) hZ (hw _ (List.mem_of_getElem? (i := 71) rfl)) (hw _ (List.mem_of_getElem? (i := 3) rfl)) (by decide) (by decide)) (g := (mkF m 190 #[.val (.int p1), .val (.int p2), .val (.int p3)] [(.int p3), (.int (2 : Int32)), (.ref b578), (.ref b578), (.ref b575), (.ref b575)])) rfl (by rw [hml]; rfl) (argsL := [(.int p3)]) (rest := [(.int (2 : Int32)), (.ref b578), (.ref b578), (.ref b575), (.ref b575)]) (lenOf pd_506 rfl) rfl (by show 2 * 0 + _ ≤ _; exact Nat.le_of_eq rfl) (hb hby d_method_5_190) (fun _ _ => ⟨rfl, e591, (by decide : 2 + 0 ≤ _), (by decide : 8 + 0 ≤ _)⟩)
          dsimp only [Pt.U, Pt.locs, Pt.cells, Pt.slots] at X596 l596 y596 z596 st596 hQ596
          subst l596 y596 z596
          obtain ⟨rfl, N596q, K596⟩ := hQ596
          have N596 := Fr.app N591 N596q
          refine own_Go.st st596 ?_
          show own_Go _ _ _ _ (T596.setTop (mkF m 193 #[.val (.int p1), .val (.int p2), .val (.int p3)] [(.int (own_Hi p3)), (.int (2 : Int32)), (.ref b578), (.ref b578), (.ref b575), (.ref b575)]))
          obtain ⟨c598, Ar598, q598, S598, Nn598, H598, G598⟩ := id f594
          have hin598 : ¬ ((2 : Int32) < 0 ∨ c598.slots.size ≤ ((2 : Int32)).toNatClampNeg) := inb_of S598 ⟨by decide, by decide⟩
          obtain ⟨T598, h598, X598, e598, W598, st598⟩ := stC X596 hx hZ K596 Ar598 (j := (2 : Int32)) hin598 (g := (mkF m 193 #[.val (.int p1), .val (.int p2), .val (.int p3)] [(.int (own_Hi p3)), (.int (2 : Int32)), (.ref b578), (.ref b578), (.ref b575), (.ref b575)])) rfl rfl (hb hby d_method_5_193)
          refine own_Go.st st598 ?_
          have N598 := Fr.snoc X598 N596 (by omega)
          have Sf600 : Safe Z consts_1 s.vm h591 b578 := Safe.arv hZ.alike f594 (by decide)
          have z598 : h591.size ≤ h598.size := Nat.le_of_eq W598.size.symm
          have f599 := Arv.set Ar598 q598 S598 Nn598 H598 G598 (fits_nar_char _) W598 2 rfl (Nat.le_of_ble_eq_true rfl)
          rw [own_nar (own_HiR hc525 hv3)] at f599
          have f601 : Arv Z h598 b578 k578 .char (4 : Int32) [(.int (own_Hi p2)), (.int (own_Lo p2)), (.int (own_Hi p3)), (.int (0 : Int32))] (.int (0 : Int32)) := f599
          have R598 : CHr Z consts_1 s.vm h0 s.vm h598 := R591.trans (CHr.wr W598 Sf600 R591.1)
          have Sf602 : Safe Z consts_1 s.vm h598 b575 := Safe.wr W598 Sf600 R591.1 Sf595
          show own_Go _ _ _ _ (T598.setTop (mkF m 194 #[.val (.int p1), .val (.int p2), .val (.int p3)] [(.ref b578), (.ref b575), (.ref b575)]))
          refine own_Go.st (fun _ k => XS.dup X598.here hx rfl (hb hby d_method_5_194) rfl rfl k) ?_
          show own_Go _ _ _ _ (T598.setTop (mkF m 195 #[.val (.int p1), .val (.int p2), .val (.int p3)] [(.ref b578), (.ref b578), (.ref b575), (.ref b575)]))
          refine own_Go.st (fun _ k => XS.iconst X598.here hx rfl (hb hby d_method_5_195) k) ?_
          show own_Go _ _ _ _ (T598.setTop (mkF m 196 #[.val (.int p1), .val (.int p2), .val (.int p3)] [(.int (3 : Int32)), (.ref b578), (.ref b578), (.ref b575), (.ref b575)]))
          refine own_Go.st (fun _ k => XS.iloadN X598.here hx rfl (hb hby d_method_5_196) rfl k) ?_
          show own_Go _ _ _ _ (T598.setTop (mkF m 197 #[.val (.int p1), .val (.int p2), .val (.int p3)] [(.int p3), (.int (3 : Int32)), (.ref b578), (.ref b578), (.ref b575), (.ref b575)]))
          have f604 : Old Z Z.heap.size h598 := f597.wr W598 (by omega)
          obtain ⟨_, _, ⟨T603, L603, k603, n603⟩, -, X603, ⟨Lc603, hQ603, l603, y603, z603⟩, st603⟩ := Jvm.LawKit.callS X598 hx (y := (⟨"com/example/keep_to_layer/keeptolayer/model/ClassNamesComparePinLaw", "lo", "(I)C"⟩ : MethodName)) hown (mvT hZ (hw _ (List.mem_of_getElem? (i := 72) rfl))) (mvT hZ (hw _ (List.mem_of_getElem? (i := 73) rfl))) (mvT hZ (hw _ (List.mem_of_getElem? (i := 3) rfl))) (mvT hZ (hw _ (List.mem_of_getElem? (i := 74) rfl))) (by decide) (backOf (W := 5) (rm_lo l Z a0 hw [] p3 h598 f604 hc525 hv3) hZ (hw _ (List.mem_of_getElem? (i := 74) rfl)) (hw _ (List.mem_of_getElem? (i := 3) rfl)) (by decide) (by decide)) (g := (mkF m 197 #[.val (.int p1), .val (.int p2), .val (.int p3)] [(.int p3), (.int (3 : Int32)), (.ref b578), (.ref b578), (.ref b575), (.ref b575)])) rfl (by rw [hml]; rfl) (argsL := [(.int p3)]) (rest := [(.int (3 : Int32)), (.ref b578), (.ref b578), (.ref b575), (.ref b575)]) (lenOf pd_506 rfl) rfl (by show 2 * 0 + _ ≤ _; exact Nat.le_of_eq rfl) (hb hby d_method_5_197) (fun _ _ => ⟨rfl, e598, (by decide : 2 + 0 ≤ _), (by decide : 8 + 0 ≤ _)⟩)
          dsimp only [Pt.U, Pt.locs, Pt.cells, Pt.slots] at X603 l603 y603 z603 st603 hQ603
          subst l603 y603 z603
          obtain ⟨rfl, N603q, K603⟩ := hQ603
          have N603 := Fr.app N598 N603q
          refine own_Go.st st603 ?_
          show own_Go _ _ _ _ (T603.setTop (mkF m 200 #[.val (.int p1), .val (.int p2), .val (.int p3)] [(.int (own_Lo p3)), (.int (3 : Int32)), (.ref b578), (.ref b578), (.ref b575), (.ref b575)]))
          obtain ⟨c605, Ar605, q605, S605, Nn605, H605, G605⟩ := id f601
          have hin605 : ¬ ((3 : Int32) < 0 ∨ c605.slots.size ≤ ((3 : Int32)).toNatClampNeg) := inb_of S605 ⟨by decide, by decide⟩
          obtain ⟨T605, h605, X605, e605, W605, st605⟩ := stC X603 hx hZ K603 Ar605 (j := (3 : Int32)) hin605 (g := (mkF m 200 #[.val (.int p1), .val (.int p2), .val (.int p3)] [(.int (own_Lo p3)), (.int (3 : Int32)), (.ref b578), (.ref b578), (.ref b575), (.ref b575)])) rfl rfl (hb hby d_method_5_200)
          refine own_Go.st st605 ?_
          have N605 := Fr.snoc X605 N603 (by omega)
          have Sf607 : Safe Z consts_1 s.vm h598 b578 := Safe.arv hZ.alike f601 (by decide)
          have z605 : h598.size ≤ h605.size := Nat.le_of_eq W605.size.symm
          have f606 := Arv.set Ar605 q605 S605 Nn605 H605 G605 (fits_nar_char _) W605 3 rfl (Nat.le_of_ble_eq_true rfl)
          rw [own_nar (own_LoR hc525 hv3)] at f606
          have f608 : Arv Z h605 b578 k578 .char (4 : Int32) [(.int (own_Hi p2)), (.int (own_Lo p2)), (.int (own_Hi p3)), (.int (own_Lo p3))] (.int (0 : Int32)) := f606
          have R605 : CHr Z consts_1 s.vm h0 s.vm h605 := R598.trans (CHr.wr W605 Sf607 R598.1)
          have Sf609 : Safe Z consts_1 s.vm h605 b575 := Safe.wr W605 Sf607 R598.1 Sf602
          show own_Go _ _ _ _ (T605.setTop (mkF m 201 #[.val (.int p1), .val (.int p2), .val (.int p3)] [(.ref b578), (.ref b575), (.ref b575)]))
          have f611 : Exa Z h578 b575 "java/lang/String" := A575.ext E578
          have f612 : Exa Z h584 b575 "java/lang/String" := f611.wr W584
          have f613 : Exa Z h591 b575 "java/lang/String" := f612.wr W591
          have f614 : Exa Z h598 b575 "java/lang/String" := f613.wr W598
          have f615 : Exa Z h605 b575 "java/lang/String" := f614.wr W605
          have f616 : Fld Z h578 b575 "java/lang/String" "value" "[B" .null := f576.ext E578
          have f617 : Fld Z h584 b575 "java/lang/String" "value" "[B" .null := f616.other W584 (Or.inl (by show @Ne Nat b575 b578; omega))
          have f618 : Fld Z h591 b575 "java/lang/String" "value" "[B" .null := f617.other W591 (Or.inl (by show @Ne Nat b575 b578; omega))
          have f619 : Fld Z h598 b575 "java/lang/String" "value" "[B" .null := f618.other W598 (Or.inl (by show @Ne Nat b575 b578; omega))
          have f620 : Fld Z h605 b575 "java/lang/String" "value" "[B" .null := f619.other W605 (Or.inl (by show @Ne Nat b575 b578; omega))
          have f621 : Fld Z h578 b575 "java/lang/String" "coder" "B" (.int (0 : Int32)) := f577.ext E578
          have f622 : Fld Z h584 b575 "java/lang/String" "coder" "B" (.int (0 : Int32)) := f621.other W584 (Or.inl (by show @Ne Nat b575 b578; omega))
          have f623 : Fld Z h591 b575 "java/lang/String" "coder" "B" (.int (0 : Int32)) := f622.other W591 (Or.inl (by show @Ne Nat b575 b578; omega))
          have f624 : Fld Z h598 b575 "java/lang/String" "coder" "B" (.int (0 : Int32)) := f623.other W598 (Or.inl (by show @Ne Nat b575 b578; omega))
          have f625 : Fld Z h605 b575 "java/lang/String" "coder" "B" (.int (0 : Int32)) := f624.other W605 (Or.inl (by show @Ne Nat b575 b578; omega))
          have f626 : Old Z Z.heap.size h605 := f604.wr W605 (by omega)
          obtain ⟨_, _, ⟨T610, L610, k610, n610⟩, -, X610, ⟨Lc610, hQ610, l610, y610, z610⟩, st610⟩ := X605.specialBack hx (y := (⟨"java/lang/String", "<init>", "([C)V"⟩ : MethodName)) rfl hown (mvT hZ (hw _ (List.mem_of_getElem? (i := 16) rfl))) (mvT hZ (hw _ (List.mem_of_getElem? (i := 17) rfl))) (mvT hZ (hw _ (List.mem_of_getElem? (i := 18) rfl))) (by decide) (own_backStr (W := 1) (cs := [(own_Hi p2), (own_Lo p2), (own_Hi p3), (own_Lo p3)]) hZ hw f626 f615 f620 f625 f608 st_COMPACT_STRINGS st__assertionsDisabled st_HI_BYTE_SHIFT st_LO_BYTE_SHIFT rfl (Nat.le_of_ble_eq_true rfl) (Nat.le_of_ble_eq_true rfl) (own_aS (own_HiR hc437 hv2) (own_aS (own_LoR hc437 hv2) (own_aS (own_HiR hc525 hv3) (own_aS (own_LoR hc525 hv3) own_a0)))) (by omega) (by first | assumption | decide) (by decide) (by decide)) (g := (mkF m 201 #[.val (.int p1), .val (.int p2), .val (.int p3)] [(.ref b578), (.ref b575), (.ref b575)])) rfl (by rw [hml]; rfl) (Steps.refl _) (a := b575) (argsL := [(.ref b578)]) (rest := [(.ref b575)]) (lenOf pd_479 rfl) rfl (by show 2 * 0 + _ ≤ _; exact Nat.le_of_eq rfl) (hb hby d_method_5_201) (fun _ _ => ⟨rfl, e605, (by decide : 2 + 2 ≤ _), (by decide : 8 + 12 ≤ _)⟩)
          dsimp only [Pt.U, Pt.locs, Pt.cells, Pt.slots] at X610 l610 y610 z610 st610 hQ610
          subst l610 y610 z610
          obtain ⟨t_610, rfl, N610q, K610, f610_0, pr610_0⟩ := hQ610
          have N610 := Fr.app N605 N610q
          have z610 : h605.size ≤ T610.heap.size := K610.1
          have R610 : CHr Z consts_1 s.vm h0 s.vm T610.heap := R605.trans (CHr.keep K610 (sfS Sf609 sf0) R605.1)
          have Sf627 : Safe Z consts_1 s.vm T610.heap b575 := Safe.keep K610 (sfS Sf609 sf0) R605.1 Sf609
          have lt610_0 : @LT.lt Nat _ b575 T610.heap.size := f610_0.lt
          have ltv610_0 : @LT.lt Nat _ t_610 T610.heap.size := f610_0.ltv
          refine own_Go.tr st610 ?_
          show own_Go _ _ _ _ (T610.setTop (mkF m 204 #[.val (.int p1), .val (.int p2), .val (.int p3)] [(.ref b575)]))
          obtain ⟨fs628, hr628, hrun628, hend628, hret628⟩ := X610.leaveW hS0 (by omega) (v := some (.ref b575)) (fun h => by rw [Bd.returns] at h; cases h)
          have K629 : Keep h0 h575 [] := (Keep.refl h0 []).ext E575
          have K630 : Keep h0 h578 [] := K629.ext E578
          have K631 : Keep h0 h584 [] := K630.wr W584 (Or.inr (by omega))
          have K632 : Keep h0 h591 [] := K631.wr W591 (Or.inr (by omega))
          have K633 : Keep h0 h598 [] := K632.wr W598 (Or.inr (by omega))
          have K634 : Keep h0 h605 [] := K633.wr W605 (Or.inr (by omega))
          have K635 : Keep h0 T610.heap [] := K634.trans K610 (allS (Or.inr (by omega)) all0)
          subst hPP
          refine ⟨_, _, own_retA X610 hx Bd.returns rfl rfl (hb hby d_method_5_204) hr628, hrun628, hend628, _, _, rfl, ?_, ?_, hret628.1, hret628.2.1, hret628.2.2.1, hret628.2.2.2.mono (by decide) (by decide)⟩
          · show Q_str Z _ _ _ _ h0 _ T610.heap _
            exact ⟨b575, t_610, [(own_Hi p2), (own_Lo p2), (own_Hi p3), (own_Lo p3)], rfl, N610, K635, f610_0, (by unfold own_pts; rw [if_neg hc351, if_neg hc369]; first | done | (simp only [own_encs, own_enc, hc437, hc525, if_true, if_false]; try rfl))⟩
          · have hfin := R610.trans (CHv.at X610 hZ hEL R610.1)
            rw [← hh] at hfin
            show CHr Z consts_1 s.vm s.heap T610.vm T610.heap
            exact hfin

theorem own_ptsV {n p q : Int32} (h1 : own_vp p) (h2 : own_vp q) : ∀ c ∈ own_pts n p q, own_vp c := by
  unfold own_pts
  split
  · exact own_a0
  · split
    · exact own_aS h1 own_a0
    · exact own_aS h1 (own_aS h2 own_a0)

theorem ef_609 (m : MethodId) (x0 : Int32) (x1 : Int32) (x2 : Int32) (x3 : Int32) (x4 : Int32) (x5 : Int32) : entryFrame m #[(.int x0), (.int x1), (.int x2), (.int x3), (.int x4), (.int x5)] maxLocals = mkF m 0 #[.val (.int x0), .val (.int x1), .val (.int x2), .val (.int x3), .val (.int x4), .val (.int x5), .unset, .unset, .unset, .unset, .unset, .unset, .unset, .unset, .unset, .unset] [] := by first | (simp [entryFrame, mkF, argsToLocals, Value.category, maxLocals]; done) | rfl
theorem pd_610 : parseMethodDescriptor "(III)Ljava/lang/String;" = some ⟨[.int, .int, .int], some (.object "java/lang/String")⟩ := by decide +kernel
theorem pd_611 : parseMethodDescriptor "(Ljava/lang/String;Ljava/lang/String;)I" = some ⟨[(.object "java/lang/String"), (.object "java/lang/String")], some .int⟩ := by decide +kernel
theorem pd_612 : parseMethodDescriptor "(IIIIII)I" = some ⟨[.int, .int, .int, .int, .int, .int], some .int⟩ := by decide +kernel
def Q_law (Z : State) (p1 : Int32) (p2 : Int32) (p3 : Int32) (p4 : Int32) (p5 : Int32) (p6 : Int32) (zc : Int32) (fm : Value) (h0 : Heap) (v : Option Value) (h : Heap) (L : List Loc) : Prop := v = some (.int (1 : Int32)) ∧ Fr Z.heap.size L ∧ Keep h0 h []
set_option maxRecDepth 65536 in
set_option maxHeartbeats 40000000 in
theorem rm_law (l : Launch) (Z : State) (a0 : Array Value) (hw : ∀ d ∈ tables_1, d.before a0 Z = true) (ws : List Jvm.Cond) (p1 : Int32) (p2 : Int32) (p3 : Int32) (p4 : Int32) (p5 : Int32) (p6 : Int32) (zc : Int32) (fm : Value) (h0 : Heap) (hEL : EW Z a0 consts_1) (OL : Old Z Z.heap.size h0) (st_COMPACT_STRINGS : Sta Z Z.heap "java/lang/String" "COMPACT_STRINGS" "Z" (.int zc)) (st_SIOOBE_FORMATTER : Sta Z Z.heap "jdk/internal/util/Preconditions" "SIOOBE_FORMATTER" "Ljava/util/function/BiFunction;" fm) (st__assertionsDisabled : Sta Z Z.heap "java/lang/StringUTF16" "$assertionsDisabled" "Z" (.int (1 : Int32))) (st_HI_BYTE_SHIFT : Sta Z Z.heap "java/lang/StringUTF16" "HI_BYTE_SHIFT" "I" (.int (0 : Int32))) (st_LO_BYTE_SHIFT : Sta Z Z.heap "java/lang/StringUTF16" "LO_BYTE_SHIFT" "I" (.int (8 : Int32))) (hzc : ¬ zc = 0) (hfm : fm.isRef = true) :
    MetFree l x (head1 (Jvm.Cond.code x code maxLocals ret :: ws) room_1) (fun a U => a = #[(.int p1), (.int p2), (.int p3), (.int p4), (.int p5), (.int p6)] ∧ Z.Warmed39 U.vm ∧ U.heap = h0 ∧ CHv Z consts_1 U.vm h0) (fun _ _ _ _ _ => True) (fun _ U o U' => ∃ v L, o = .returned v ∧ Q_law Z p1 p2 p3 p4 p5 p6 zc fm h0 v U'.heap L ∧ CHr Z consts_1 U.vm U.heap U'.vm U'.heap ∧ ReturnedEndW U o U' L 32 1216) := by
  refine MetFree.of_bodySF (plainFor_of_name pn_220) hisR ?_
  intro p e s m args below meth c s₁ Bd hml0 hP hK
  obtain ⟨rfl, hZ, hh, hC0⟩ := hP
  have hx := Bd.exec
  have hby := Bd.bytes
  have hml : c.maxLocals = 16 := hml0
  have hown : s.vm.findClass "com/example/keep_to_layer/keeptolayer/model/ClassNamesComparePinLaw" = some m.cls := findClass_of_methodNamed Bd.named
  have hnm := (name_of_methodNamed Bd.named Bd.method).1
  have X0 : Stand p l e room_1 (s.setVm s.vm) m #[(.int p1), (.int p2), (.int p3), (.int p4), (.int p5), (.int p6)] below meth c s₁ [] 0 0 := Stand.of_body Bd
  have e0 : s₁.heap = h0 := by rw [← hh, Bd.state]; rfl
  have N0 := Fr.nil Z.heap.size
  have Z0 : Z.heap.size ≤ h0.size := OL.2.1
  have hS0 : s.Since s.vm h0.size := (State.WarmedH.refl s).since _
  have wS := own_wS hw
  have R0 : CHr Z consts_1 s.vm h0 s.vm h0 := CHr.refl hC0
  obtain ⟨PP, hPP⟩ : ∃ PP : Outcome → State → Prop, PP = (fun o tE => ∃ v L, o = .returned v ∧ Q_law Z p1 p2 p3 p4 p5 p6 zc fm h0 v tE.heap L ∧ CHr Z consts_1 s.vm s.heap tE.vm tE.heap ∧ ReturnedEndW s o tE L 32 1216) := ⟨_, rfl⟩
  show own_Go p.tables e below (fun o tE => ∃ v L, o = .returned v ∧ Q_law Z p1 p2 p3 p4 p5 p6 zc fm h0 v tE.heap L ∧ CHr Z consts_1 s.vm s.heap tE.vm tE.heap ∧ ReturnedEndW s o tE L 32 1216) (s₁.setTop (entryFrame m #[(.int p1), (.int p2), (.int p3), (.int p4), (.int p5), (.int p6)] maxLocals))
  rw [← hPP]
  refine own_Go.st (fun t k => castTop (ef_609 m p1 p2 p3 p4 p5 p6) k) ?_
  show own_Go _ _ _ _ (s₁.setTop (mkF m 0 #[.val (.int p1), .val (.int p2), .val (.int p3), .val (.int p4), .val (.int p5), .val (.int p6), .unset, .unset, .unset, .unset, .unset, .unset, .unset, .unset, .unset, .unset] []))
  refine own_Go.st (fun _ k => XS.iload X0.here hx rfl (hb hby at_0) rfl k) ?_
  show own_Go _ _ _ _ (s₁.setTop (mkF m 2 #[.val (.int p1), .val (.int p2), .val (.int p3), .val (.int p4), .val (.int p5), .val (.int p6), .unset, .unset, .unset, .unset, .unset, .unset, .unset, .unset, .unset, .unset] [(.int p5)]))
  refine own_Go.st (X0.ldcInt hx hown (mvT hZ (hw _ (List.mem_of_getElem? (i := 0) rfl))) (g := (mkF m 2 #[.val (.int p1), .val (.int p2), .val (.int p3), .val (.int p4), .val (.int p5), .val (.int p6), .unset, .unset, .unset, .unset, .unset, .unset, .unset, .unset, .unset, .unset] [(.int p5)])) rfl (hb hby at_2)) ?_
  show own_Go _ _ _ _ (s₁.setTop (mkF m 4 #[.val (.int p1), .val (.int p2), .val (.int p3), .val (.int p4), .val (.int p5), .val (.int p6), .unset, .unset, .unset, .unset, .unset, .unset, .unset, .unset, .unset, .unset] [(.int (2147483647 : Int32)), (.int p5)]))
  refine own_Go.st (fun _ k => XS.iand X0.here hx rfl (hb hby at_4) rfl k) ?_
  show own_Go _ _ _ _ (s₁.setTop (mkF m 5 #[.val (.int p1), .val (.int p2), .val (.int p3), .val (.int p4), .val (.int p5), .val (.int p6), .unset, .unset, .unset, .unset, .unset, .unset, .unset, .unset, .unset, .unset] [(.int (p5 &&& (2147483647 : Int32)))]))
  refine own_Go.st (fun _ k => XS.iconst X0.here hx rfl (hb hby at_5) k) ?_
  show own_Go _ _ _ _ (s₁.setTop (mkF m 6 #[.val (.int p1), .val (.int p2), .val (.int p3), .val (.int p4), .val (.int p5), .val (.int p6), .unset, .unset, .unset, .unset, .unset, .unset, .unset, .unset, .unset, .unset] [(.int (3 : Int32)), (.int (p5 &&& (2147483647 : Int32)))]))
  refine own_Go.st (fun _ k => iremM (g := (mkF m 6 #[.val (.int p1), .val (.int p2), .val (.int p3), .val (.int p4), .val (.int p5), .val (.int p6), .unset, .unset, .unset, .unset, .unset, .unset, .unset, .unset, .unset, .unset] [(.int (3 : Int32)), (.int (p5 &&& (2147483647 : Int32)))])) X0 hx rfl (hb hby at_6) rfl (by decide) k) ?_
  show own_Go _ _ _ _ (s₁.setTop (mkF m 7 #[.val (.int p1), .val (.int p2), .val (.int p3), .val (.int p4), .val (.int p5), .val (.int p6), .unset, .unset, .unset, .unset, .unset, .unset, .unset, .unset, .unset, .unset] [(.int ((p5 &&& (2147483647 : Int32)) % (3 : Int32)))]))
  refine own_Go.st (fun _ k => XS.istore X0.here hx rfl (hb hby at_7) rfl (l' := #[.val (.int p1), .val (.int p2), .val (.int p3), .val (.int p4), .val (.int p5), .val (.int p6), .val (.int ((p5 &&& (2147483647 : Int32)) % (3 : Int32))), .unset, .unset, .unset, .unset, .unset, .unset, .unset, .unset, .unset]) rfl k) ?_
  show own_Go _ _ _ _ (s₁.setTop (mkF m 9 #[.val (.int p1), .val (.int p2), .val (.int p3), .val (.int p4), .val (.int p5), .val (.int p6), .val (.int ((p5 &&& (2147483647 : Int32)) % (3 : Int32))), .unset, .unset, .unset, .unset, .unset, .unset, .unset, .unset, .unset] []))
  have hln := own_n3 p5
  generalize hne1 : ((p5 &&& (2147483647 : Int32)) % (3 : Int32)) = ln at hln ⊢
  show own_Go _ _ _ _ (s₁.setTop (mkF m 9 #[.val (.int p1), .val (.int p2), .val (.int p3), .val (.int p4), .val (.int p5), .val (.int p6), .val (.int ln), .unset, .unset, .unset, .unset, .unset, .unset, .unset, .unset, .unset] []))
  refine own_Go.st (fun _ k => XS.iload X0.here hx rfl (hb hby at_9) rfl k) ?_
  show own_Go _ _ _ _ (s₁.setTop (mkF m 11 #[.val (.int p1), .val (.int p2), .val (.int p3), .val (.int p4), .val (.int p5), .val (.int p6), .val (.int ln), .unset, .unset, .unset, .unset, .unset, .unset, .unset, .unset, .unset] [(.int p5)]))
  refine own_Go.st (fun _ k => XS.iconst X0.here hx rfl (hb hby at_11) k) ?_
  show own_Go _ _ _ _ (s₁.setTop (mkF m 12 #[.val (.int p1), .val (.int p2), .val (.int p3), .val (.int p4), .val (.int p5), .val (.int p6), .val (.int ln), .unset, .unset, .unset, .unset, .unset, .unset, .unset, .unset, .unset] [(.int (2 : Int32)), (.int p5)]))
  refine own_Go.st (fun _ k => XS.iushr X0.here hx rfl (hb hby at_12) rfl k) ?_
  show own_Go _ _ _ _ (s₁.setTop (mkF m 13 #[.val (.int p1), .val (.int p2), .val (.int p3), .val (.int p4), .val (.int p5), .val (.int p6), .val (.int ln), .unset, .unset, .unset, .unset, .unset, .unset, .unset, .unset, .unset] [(.int ((p5.toUInt32 >>> ((2 : Int32) &&& 31).toUInt32).toInt32))]))
  refine own_Go.st (X0.ldcInt hx hown (mvT hZ (hw _ (List.mem_of_getElem? (i := 0) rfl))) (g := (mkF m 13 #[.val (.int p1), .val (.int p2), .val (.int p3), .val (.int p4), .val (.int p5), .val (.int p6), .val (.int ln), .unset, .unset, .unset, .unset, .unset, .unset, .unset, .unset, .unset] [(.int ((p5.toUInt32 >>> ((2 : Int32) &&& 31).toUInt32).toInt32))])) rfl (hb hby at_13)) ?_
  show own_Go _ _ _ _ (s₁.setTop (mkF m 15 #[.val (.int p1), .val (.int p2), .val (.int p3), .val (.int p4), .val (.int p5), .val (.int p6), .val (.int ln), .unset, .unset, .unset, .unset, .unset, .unset, .unset, .unset, .unset] [(.int (2147483647 : Int32)), (.int ((p5.toUInt32 >>> ((2 : Int32) &&& 31).toUInt32).toInt32))]))
  refine own_Go.st (fun _ k => XS.iand X0.here hx rfl (hb hby at_15) rfl k) ?_
  show own_Go _ _ _ _ (s₁.setTop (mkF m 16 #[.val (.int p1), .val (.int p2), .val (.int p3), .val (.int p4), .val (.int p5), .val (.int p6), .val (.int ln), .unset, .unset, .unset, .unset, .unset, .unset, .unset, .unset, .unset] [(.int (((p5.toUInt32 >>> ((2 : Int32) &&& 31).toUInt32).toInt32) &&& (2147483647 : Int32)))]))
  refine own_Go.st (fun _ k => XS.iconst X0.here hx rfl (hb hby at_16) k) ?_
  show own_Go _ _ _ _ (s₁.setTop (mkF m 17 #[.val (.int p1), .val (.int p2), .val (.int p3), .val (.int p4), .val (.int p5), .val (.int p6), .val (.int ln), .unset, .unset, .unset, .unset, .unset, .unset, .unset, .unset, .unset] [(.int (3 : Int32)), (.int (((p5.toUInt32 >>> ((2 : Int32) &&& 31).toUInt32).toInt32) &&& (2147483647 : Int32)))]))
  refine own_Go.st (fun _ k => iremM (g := (mkF m 17 #[.val (.int p1), .val (.int p2), .val (.int p3), .val (.int p4), .val (.int p5), .val (.int p6), .val (.int ln), .unset, .unset, .unset, .unset, .unset, .unset, .unset, .unset, .unset] [(.int (3 : Int32)), (.int (((p5.toUInt32 >>> ((2 : Int32) &&& 31).toUInt32).toInt32) &&& (2147483647 : Int32)))])) X0 hx rfl (hb hby at_17) rfl (by decide) k) ?_
  show own_Go _ _ _ _ (s₁.setTop (mkF m 18 #[.val (.int p1), .val (.int p2), .val (.int p3), .val (.int p4), .val (.int p5), .val (.int p6), .val (.int ln), .unset, .unset, .unset, .unset, .unset, .unset, .unset, .unset, .unset] [(.int ((((p5.toUInt32 >>> ((2 : Int32) &&& 31).toUInt32).toInt32) &&& (2147483647 : Int32)) % (3 : Int32)))]))
  refine own_Go.st (fun _ k => XS.istore X0.here hx rfl (hb hby at_18) rfl (l' := #[.val (.int p1), .val (.int p2), .val (.int p3), .val (.int p4), .val (.int p5), .val (.int p6), .val (.int ln), .val (.int ((((p5.toUInt32 >>> ((2 : Int32) &&& 31).toUInt32).toInt32) &&& (2147483647 : Int32)) % (3 : Int32))), .unset, .unset, .unset, .unset, .unset, .unset, .unset, .unset]) rfl k) ?_
  show own_Go _ _ _ _ (s₁.setTop (mkF m 20 #[.val (.int p1), .val (.int p2), .val (.int p3), .val (.int p4), .val (.int p5), .val (.int p6), .val (.int ln), .val (.int ((((p5.toUInt32 >>> ((2 : Int32) &&& 31).toUInt32).toInt32) &&& (2147483647 : Int32)) % (3 : Int32))), .unset, .unset, .unset, .unset, .unset, .unset, .unset, .unset] []))
  have hrn := own_n3 ((p5.toUInt32 >>> ((2 : Int32) &&& 31).toUInt32).toInt32)
  generalize hne2 : ((((p5.toUInt32 >>> ((2 : Int32) &&& 31).toUInt32).toInt32) &&& (2147483647 : Int32)) % (3 : Int32)) = rn at hrn ⊢
  show own_Go _ _ _ _ (s₁.setTop (mkF m 20 #[.val (.int p1), .val (.int p2), .val (.int p3), .val (.int p4), .val (.int p5), .val (.int p6), .val (.int ln), .val (.int rn), .unset, .unset, .unset, .unset, .unset, .unset, .unset, .unset] []))
  refine own_Go.st (fun _ k => XS.iloadN X0.here hx rfl (hb hby at_20) rfl k) ?_
  show own_Go _ _ _ _ (s₁.setTop (mkF m 21 #[.val (.int p1), .val (.int p2), .val (.int p3), .val (.int p4), .val (.int p5), .val (.int p6), .val (.int ln), .val (.int rn), .unset, .unset, .unset, .unset, .unset, .unset, .unset, .unset] [(.int p1)]))
  obtain ⟨_, _, ⟨T636, L636, k636, n636⟩, -, X636, ⟨Lc636, hQ636, l636, y636, z636⟩, st636⟩ := Jvm.LawKit.callS X0 hx (y := (⟨"com/example/keep_to_layer/keeptolayer/model/ClassNamesComparePinLaw", "cp", "(I)I"⟩ : MethodName)) hown (mvT hZ (hw _ (List.mem_of_getElem? (i := 1) rfl))) (mvT hZ (hw _ (List.mem_of_getElem? (i := 2) rfl))) (mvT hZ (hw _ (List.mem_of_getElem? (i := 3) rfl))) (mvT hZ (hw _ (List.mem_of_getElem? (i := 4) rfl))) (by decide) (backOf (W := 0) (rm_cp l Z a0 hw [] p1 h0 OL ) hZ (hw _ (List.mem_of_getElem? (i := 4) rfl)) (hw _ (List.mem_of_getElem? (i := 3) rfl)) (by decide) (by decide)) (g := (mkF m 21 #[.val (.int p1), .val (.int p2), .val (.int p3), .val (.int p4), .val (.int p5), .val (.int p6), .val (.int ln), .val (.int rn), .unset, .unset, .unset, .unset, .unset, .unset, .unset, .unset] [(.int p1)])) rfl (by rw [hml]; rfl) (argsL := [(.int p1)]) (rest := []) (lenOf pd_109 rfl) rfl (by show 2 * 0 + _ ≤ _; exact Nat.le_of_eq rfl) (hb hby at_21) (fun _ _ => ⟨rfl, e0, (by decide : 0 + 0 ≤ _), (by decide : 0 + 0 ≤ _)⟩)
  dsimp only [Pt.U, Pt.locs, Pt.cells, Pt.slots] at X636 l636 y636 z636 st636 hQ636
  subst l636 y636 z636
  obtain ⟨r_636, rfl, N636q, K636, pr636_0⟩ := hQ636
  have N636 := Fr.app N0 N636q
  refine own_Go.st st636 ?_
  show own_Go _ _ _ _ (T636.setTop (mkF m 24 #[.val (.int p1), .val (.int p2), .val (.int p3), .val (.int p4), .val (.int p5), .val (.int p6), .val (.int ln), .val (.int rn), .unset, .unset, .unset, .unset, .unset, .unset, .unset, .unset] [(.int r_636)]))
  refine own_Go.st (fun _ k => XS.istore X636.here hx rfl (hb hby at_24) rfl (l' := #[.val (.int p1), .val (.int p2), .val (.int p3), .val (.int p4), .val (.int p5), .val (.int p6), .val (.int ln), .val (.int rn), .val (.int r_636), .unset, .unset, .unset, .unset, .unset, .unset, .unset]) rfl k) ?_
  show own_Go _ _ _ _ (T636.setTop (mkF m 26 #[.val (.int p1), .val (.int p2), .val (.int p3), .val (.int p4), .val (.int p5), .val (.int p6), .val (.int ln), .val (.int rn), .val (.int r_636), .unset, .unset, .unset, .unset, .unset, .unset, .unset] []))
  refine own_Go.st (fun _ k => XS.iloadN X636.here hx rfl (hb hby at_26) rfl k) ?_
  show own_Go _ _ _ _ (T636.setTop (mkF m 27 #[.val (.int p1), .val (.int p2), .val (.int p3), .val (.int p4), .val (.int p5), .val (.int p6), .val (.int ln), .val (.int rn), .val (.int r_636), .unset, .unset, .unset, .unset, .unset, .unset, .unset] [(.int p2)]))
  obtain ⟨_, _, ⟨T637, L637, k637, n637⟩, -, X637, ⟨Lc637, hQ637, l637, y637, z637⟩, st637⟩ := Jvm.LawKit.callS X636 hx (y := (⟨"com/example/keep_to_layer/keeptolayer/model/ClassNamesComparePinLaw", "cp", "(I)I"⟩ : MethodName)) hown (mvT hZ (hw _ (List.mem_of_getElem? (i := 1) rfl))) (mvT hZ (hw _ (List.mem_of_getElem? (i := 2) rfl))) (mvT hZ (hw _ (List.mem_of_getElem? (i := 3) rfl))) (mvT hZ (hw _ (List.mem_of_getElem? (i := 4) rfl))) (by decide) (backOf (W := 0) (rm_cp l Z a0 hw [] p2 h0 OL ) hZ (hw _ (List.mem_of_getElem? (i := 4) rfl)) (hw _ (List.mem_of_getElem? (i := 3) rfl)) (by decide) (by decide)) (g := (mkF m 27 #[.val (.int p1), .val (.int p2), .val (.int p3), .val (.int p4), .val (.int p5), .val (.int p6), .val (.int ln), .val (.int rn), .val (.int r_636), .unset, .unset, .unset, .unset, .unset, .unset, .unset] [(.int p2)])) rfl (by rw [hml]; rfl) (argsL := [(.int p2)]) (rest := []) (lenOf pd_109 rfl) rfl (by show 2 * 0 + _ ≤ _; exact Nat.le_of_eq rfl) (hb hby at_27) (fun _ _ => ⟨rfl, K636, (by decide : 0 + 0 ≤ _), (by decide : 0 + 0 ≤ _)⟩)
  dsimp only [Pt.U, Pt.locs, Pt.cells, Pt.slots] at X637 l637 y637 z637 st637 hQ637
  subst l637 y637 z637
  obtain ⟨r_637, rfl, N637q, K637, pr637_0⟩ := hQ637
  have N637 := Fr.app N636 N637q
  refine own_Go.st st637 ?_
  show own_Go _ _ _ _ (T637.setTop (mkF m 30 #[.val (.int p1), .val (.int p2), .val (.int p3), .val (.int p4), .val (.int p5), .val (.int p6), .val (.int ln), .val (.int rn), .val (.int r_636), .unset, .unset, .unset, .unset, .unset, .unset, .unset] [(.int r_637)]))
  refine own_Go.st (fun _ k => XS.istore X637.here hx rfl (hb hby at_30) rfl (l' := #[.val (.int p1), .val (.int p2), .val (.int p3), .val (.int p4), .val (.int p5), .val (.int p6), .val (.int ln), .val (.int rn), .val (.int r_636), .val (.int r_637), .unset, .unset, .unset, .unset, .unset, .unset]) rfl k) ?_
  show own_Go _ _ _ _ (T637.setTop (mkF m 32 #[.val (.int p1), .val (.int p2), .val (.int p3), .val (.int p4), .val (.int p5), .val (.int p6), .val (.int ln), .val (.int rn), .val (.int r_636), .val (.int r_637), .unset, .unset, .unset, .unset, .unset, .unset] []))
  refine own_Go.st (fun _ k => XS.iload X637.here hx rfl (hb hby at_32) rfl k) ?_
  show own_Go _ _ _ _ (T637.setTop (mkF m 34 #[.val (.int p1), .val (.int p2), .val (.int p3), .val (.int p4), .val (.int p5), .val (.int p6), .val (.int ln), .val (.int rn), .val (.int r_636), .val (.int r_637), .unset, .unset, .unset, .unset, .unset, .unset] [(.int p6)]))
  refine own_Go.st (fun _ k => XS.iconst X637.here hx rfl (hb hby at_34) k) ?_
  show own_Go _ _ _ _ (T637.setTop (mkF m 35 #[.val (.int p1), .val (.int p2), .val (.int p3), .val (.int p4), .val (.int p5), .val (.int p6), .val (.int ln), .val (.int rn), .val (.int r_636), .val (.int r_637), .unset, .unset, .unset, .unset, .unset, .unset] [(.int (1 : Int32)), (.int p6)]))
  refine own_Go.st (fun _ k => XS.iand X637.here hx rfl (hb hby at_35) rfl k) ?_
  show own_Go _ _ _ _ (T637.setTop (mkF m 36 #[.val (.int p1), .val (.int p2), .val (.int p3), .val (.int p4), .val (.int p5), .val (.int p6), .val (.int ln), .val (.int rn), .val (.int r_636), .val (.int r_637), .unset, .unset, .unset, .unset, .unset, .unset] [(.int (p6 &&& (1 : Int32)))]))
  by_cases hc638 : (p6 &&& (1 : Int32)) = (0 : Int32)
  ·
    refine own_Go.st (fun _ k => XS.ifYes X637.here hx rfl (pc0 := 36) (pc' := 44) rfl (hb hby at_36) rfl ((if0 _ _).trans (teq hc638).1) (by decide) (by decide) k) ?_
    show own_Go _ _ _ _ (T637.setTop (mkF m 44 #[.val (.int p1), .val (.int p2), .val (.int p3), .val (.int p4), .val (.int p5), .val (.int p6), .val (.int ln), .val (.int rn), .val (.int r_636), .val (.int r_637), .unset, .unset, .unset, .unset, .unset, .unset] []))
    refine own_Go.st (fun _ k => XS.iloadN X637.here hx rfl (hb hby at_44) rfl k) ?_
    show own_Go _ _ _ _ (T637.setTop (mkF m 45 #[.val (.int p1), .val (.int p2), .val (.int p3), .val (.int p4), .val (.int p5), .val (.int p6), .val (.int ln), .val (.int rn), .val (.int r_636), .val (.int r_637), .unset, .unset, .unset, .unset, .unset, .unset] [(.int p3)]))
    obtain ⟨_, _, ⟨T639, L639, k639, n639⟩, -, X639, ⟨Lc639, hQ639, l639, y639, z639⟩, st639⟩ := Jvm.LawKit.callS X637 hx (y := (⟨"com/example/keep_to_layer/keeptolayer/model/ClassNamesComparePinLaw", "cp", "(I)I"⟩ : MethodName)) hown (mvT hZ (hw _ (List.mem_of_getElem? (i := 1) rfl))) (mvT hZ (hw _ (List.mem_of_getElem? (i := 2) rfl))) (mvT hZ (hw _ (List.mem_of_getElem? (i := 3) rfl))) (mvT hZ (hw _ (List.mem_of_getElem? (i := 4) rfl))) (by decide) (backOf (W := 0) (rm_cp l Z a0 hw [] p3 h0 OL ) hZ (hw _ (List.mem_of_getElem? (i := 4) rfl)) (hw _ (List.mem_of_getElem? (i := 3) rfl)) (by decide) (by decide)) (g := (mkF m 45 #[.val (.int p1), .val (.int p2), .val (.int p3), .val (.int p4), .val (.int p5), .val (.int p6), .val (.int ln), .val (.int rn), .val (.int r_636), .val (.int r_637), .unset, .unset, .unset, .unset, .unset, .unset] [(.int p3)])) rfl (by rw [hml]; rfl) (argsL := [(.int p3)]) (rest := []) (lenOf pd_109 rfl) rfl (by show 2 * 0 + _ ≤ _; exact Nat.le_of_eq rfl) (hb hby at_45) (fun _ _ => ⟨rfl, K637, (by decide : 0 + 0 ≤ _), (by decide : 0 + 0 ≤ _)⟩)
    dsimp only [Pt.U, Pt.locs, Pt.cells, Pt.slots] at X639 l639 y639 z639 st639 hQ639
    subst l639 y639 z639
    obtain ⟨r_639, rfl, N639q, K639, pr639_0⟩ := hQ639
    have N639 := Fr.app N637 N639q
    refine own_Go.st st639 ?_
    show own_Go _ _ _ _ (T639.setTop (mkF m 48 #[.val (.int p1), .val (.int p2), .val (.int p3), .val (.int p4), .val (.int p5), .val (.int p6), .val (.int ln), .val (.int rn), .val (.int r_636), .val (.int r_637), .unset, .unset, .unset, .unset, .unset, .unset] [(.int r_639)]))
    refine own_Go.st (fun _ k => XS.istore X639.here hx rfl (hb hby at_48) rfl (l' := #[.val (.int p1), .val (.int p2), .val (.int p3), .val (.int p4), .val (.int p5), .val (.int p6), .val (.int ln), .val (.int rn), .val (.int r_636), .val (.int r_637), .val (.int r_639), .unset, .unset, .unset, .unset, .unset]) rfl k) ?_
    show own_Go _ _ _ _ (T639.setTop (mkF m 50 #[.val (.int p1), .val (.int p2), .val (.int p3), .val (.int p4), .val (.int p5), .val (.int p6), .val (.int ln), .val (.int rn), .val (.int r_636), .val (.int r_637), .val (.int r_639), .unset, .unset, .unset, .unset, .unset] []))
    refine own_Go.st (fun _ k => XS.iload X639.here hx rfl (hb hby at_50) rfl k) ?_
    show own_Go _ _ _ _ (T639.setTop (mkF m 52 #[.val (.int p1), .val (.int p2), .val (.int p3), .val (.int p4), .val (.int p5), .val (.int p6), .val (.int ln), .val (.int rn), .val (.int r_636), .val (.int r_637), .val (.int r_639), .unset, .unset, .unset, .unset, .unset] [(.int p6)]))
    refine own_Go.st (fun _ k => XS.iconst X639.here hx rfl (hb hby at_52) k) ?_
    show own_Go _ _ _ _ (T639.setTop (mkF m 53 #[.val (.int p1), .val (.int p2), .val (.int p3), .val (.int p4), .val (.int p5), .val (.int p6), .val (.int ln), .val (.int rn), .val (.int r_636), .val (.int r_637), .val (.int r_639), .unset, .unset, .unset, .unset, .unset] [(.int (2 : Int32)), (.int p6)]))
    refine own_Go.st (fun _ k => XS.iand X639.here hx rfl (hb hby at_53) rfl k) ?_
    show own_Go _ _ _ _ (T639.setTop (mkF m 54 #[.val (.int p1), .val (.int p2), .val (.int p3), .val (.int p4), .val (.int p5), .val (.int p6), .val (.int ln), .val (.int rn), .val (.int r_636), .val (.int r_637), .val (.int r_639), .unset, .unset, .unset, .unset, .unset] [(.int (p6 &&& (2 : Int32)))]))
    by_cases hc640 : (p6 &&& (2 : Int32)) = (0 : Int32)
    ·
      refine own_Go.st (fun _ k => XS.ifYes X639.here hx rfl (pc0 := 54) (pc' := 62) rfl (hb hby at_54) rfl ((if0 _ _).trans (teq hc640).1) (by decide) (by decide) k) ?_
      show own_Go _ _ _ _ (T639.setTop (mkF m 62 #[.val (.int p1), .val (.int p2), .val (.int p3), .val (.int p4), .val (.int p5), .val (.int p6), .val (.int ln), .val (.int rn), .val (.int r_636), .val (.int r_637), .val (.int r_639), .unset, .unset, .unset, .unset, .unset] []))
      refine own_Go.st (fun _ k => XS.iloadN X639.here hx rfl (hb hby at_62) rfl k) ?_
      show own_Go _ _ _ _ (T639.setTop (mkF m 63 #[.val (.int p1), .val (.int p2), .val (.int p3), .val (.int p4), .val (.int p5), .val (.int p6), .val (.int ln), .val (.int rn), .val (.int r_636), .val (.int r_637), .val (.int r_639), .unset, .unset, .unset, .unset, .unset] [(.int p4)]))
      obtain ⟨_, _, ⟨T641, L641, k641, n641⟩, -, X641, ⟨Lc641, hQ641, l641, y641, z641⟩, st641⟩ := Jvm.LawKit.callS X639 hx (y := (⟨"com/example/keep_to_layer/keeptolayer/model/ClassNamesComparePinLaw", "cp", "(I)I"⟩ : MethodName)) hown (mvT hZ (hw _ (List.mem_of_getElem? (i := 1) rfl))) (mvT hZ (hw _ (List.mem_of_getElem? (i := 2) rfl))) (mvT hZ (hw _ (List.mem_of_getElem? (i := 3) rfl))) (mvT hZ (hw _ (List.mem_of_getElem? (i := 4) rfl))) (by decide) (backOf (W := 0) (rm_cp l Z a0 hw [] p4 h0 OL ) hZ (hw _ (List.mem_of_getElem? (i := 4) rfl)) (hw _ (List.mem_of_getElem? (i := 3) rfl)) (by decide) (by decide)) (g := (mkF m 63 #[.val (.int p1), .val (.int p2), .val (.int p3), .val (.int p4), .val (.int p5), .val (.int p6), .val (.int ln), .val (.int rn), .val (.int r_636), .val (.int r_637), .val (.int r_639), .unset, .unset, .unset, .unset, .unset] [(.int p4)])) rfl (by rw [hml]; rfl) (argsL := [(.int p4)]) (rest := []) (lenOf pd_109 rfl) rfl (by show 2 * 0 + _ ≤ _; exact Nat.le_of_eq rfl) (hb hby at_63) (fun _ _ => ⟨rfl, K639, (by decide : 0 + 0 ≤ _), (by decide : 0 + 0 ≤ _)⟩)
      dsimp only [Pt.U, Pt.locs, Pt.cells, Pt.slots] at X641 l641 y641 z641 st641 hQ641
      subst l641 y641 z641
      obtain ⟨r_641, rfl, N641q, K641, pr641_0⟩ := hQ641
      have N641 := Fr.app N639 N641q
      refine own_Go.st st641 ?_
      show own_Go _ _ _ _ (T641.setTop (mkF m 66 #[.val (.int p1), .val (.int p2), .val (.int p3), .val (.int p4), .val (.int p5), .val (.int p6), .val (.int ln), .val (.int rn), .val (.int r_636), .val (.int r_637), .val (.int r_639), .unset, .unset, .unset, .unset, .unset] [(.int r_641)]))
      refine own_Go.st (fun _ k => XS.istore X641.here hx rfl (hb hby at_66) rfl (l' := #[.val (.int p1), .val (.int p2), .val (.int p3), .val (.int p4), .val (.int p5), .val (.int p6), .val (.int ln), .val (.int rn), .val (.int r_636), .val (.int r_637), .val (.int r_639), .val (.int r_641), .unset, .unset, .unset, .unset]) rfl k) ?_
      show own_Go _ _ _ _ (T641.setTop (mkF m 68 #[.val (.int p1), .val (.int p2), .val (.int p3), .val (.int p4), .val (.int p5), .val (.int p6), .val (.int ln), .val (.int rn), .val (.int r_636), .val (.int r_637), .val (.int r_639), .val (.int r_641), .unset, .unset, .unset, .unset] []))
      refine own_Go.st (fun _ k => XS.iload X641.here hx rfl (hb hby at_68) rfl k) ?_
      show own_Go _ _ _ _ (T641.setTop (mkF m 70 #[.val (.int p1), .val (.int p2), .val (.int p3), .val (.int p4), .val (.int p5), .val (.int p6), .val (.int ln), .val (.int rn), .val (.int r_636), .val (.int r_637), .val (.int r_639), .val (.int r_641), .unset, .unset, .unset, .unset] [(.int ln)]))
      refine own_Go.st (fun _ k => XS.iload X641.here hx rfl (hb hby at_70) rfl k) ?_
      show own_Go _ _ _ _ (T641.setTop (mkF m 72 #[.val (.int p1), .val (.int p2), .val (.int p3), .val (.int p4), .val (.int p5), .val (.int p6), .val (.int ln), .val (.int rn), .val (.int r_636), .val (.int r_637), .val (.int r_639), .val (.int r_641), .unset, .unset, .unset, .unset] [(.int r_636), (.int ln)]))
      refine own_Go.st (fun _ k => XS.iload X641.here hx rfl (hb hby at_72) rfl k) ?_
      show own_Go _ _ _ _ (T641.setTop (mkF m 74 #[.val (.int p1), .val (.int p2), .val (.int p3), .val (.int p4), .val (.int p5), .val (.int p6), .val (.int ln), .val (.int rn), .val (.int r_636), .val (.int r_637), .val (.int r_639), .val (.int r_641), .unset, .unset, .unset, .unset] [(.int r_637), (.int r_636), (.int ln)]))
      obtain ⟨_, _, ⟨T642, L642, k642, n642⟩, -, X642, hs642, hg642, ⟨Lc642, hQ642, l642, y642, z642, ch642⟩, st642⟩ := callSS X641 hx (y := (⟨"com/example/keep_to_layer/keeptolayer/model/ClassNamesComparePinLaw", "str", "(III)Ljava/lang/String;"⟩ : MethodName)) hown (mvT hZ (hw _ (List.mem_of_getElem? (i := 9) rfl))) (mvT hZ (hw _ (List.mem_of_getElem? (i := 10) rfl))) (mvT hZ (hw _ (List.mem_of_getElem? (i := 3) rfl))) (mvT hZ (hw _ (List.mem_of_getElem? (i := 11) rfl))) (by decide) (backOfSH (s := s) (vm0 := s.vm) (W := 0) (rm_str l Z a0 hw [] ln r_636 r_637 zc h0 hEL OL st_COMPACT_STRINGS st__assertionsDisabled st_HI_BYTE_SHIFT st_LO_BYTE_SHIFT (by first | assumption | decide) pr636_0 pr637_0) hZ (hw _ (List.mem_of_getElem? (i := 11) rfl)) (hw _ (List.mem_of_getElem? (i := 3) rfl)) (by decide) (by decide) hEL R0.1) (g := (mkF m 74 #[.val (.int p1), .val (.int p2), .val (.int p3), .val (.int p4), .val (.int p5), .val (.int p6), .val (.int ln), .val (.int rn), .val (.int r_636), .val (.int r_637), .val (.int r_639), .val (.int r_641), .unset, .unset, .unset, .unset] [(.int r_637), (.int r_636), (.int ln)])) rfl (by rw [hml]; rfl) (argsL := [(.int ln), (.int r_636), (.int r_637)]) (rest := []) (lenOf pd_610 rfl) rfl (by show 2 * 0 + _ ≤ _; exact Nat.le_of_eq rfl) (hb hby at_74) (fun _ _ => ⟨rfl, K641, (by decide : 0 + 6 ≤ _), (by decide : 0 + 20 ≤ _)⟩)
      dsimp only [Pt.U, Pt.locs, Pt.cells, Pt.slots] at X642 l642 y642 z642 st642 hQ642 hs642 hg642 ch642
      subst l642 y642 z642
      obtain ⟨x_642, t_642, cs_642, rfl, N642q, K642, f642_0, pr642_0⟩ := hQ642
      have N642 := Fr.app N641 N642q
      obtain ⟨Y642, hS642, hZ642, hown642⟩ := rebS hS0 (n1 := h0.size) (by omega) X642 hs642 (by have := hg642; first | exact this | (rw [← K641]; exact this)) hZ hown
      have z642 : h0.size ≤ T642.heap.size := K642.1
      have R642 : CHr Z consts_1 s.vm h0 T642.vm T642.heap := R0.trans ch642
      have lt642_0 : @LT.lt Nat _ x_642 T642.heap.size := f642_0.lt
      have ltv642_0 : @LT.lt Nat _ t_642 T642.heap.size := f642_0.ltv
      refine own_Go.tr st642 ?_
      show own_Go _ _ _ _ (T642.setTop (mkF m 77 #[.val (.int p1), .val (.int p2), .val (.int p3), .val (.int p4), .val (.int p5), .val (.int p6), .val (.int ln), .val (.int rn), .val (.int r_636), .val (.int r_637), .val (.int r_639), .val (.int r_641), .unset, .unset, .unset, .unset] [(.ref x_642)]))
      refine own_Go.st (fun _ k => XS.astore Y642.here hx rfl (hb hby at_77) rfl rfl (l' := #[.val (.int p1), .val (.int p2), .val (.int p3), .val (.int p4), .val (.int p5), .val (.int p6), .val (.int ln), .val (.int rn), .val (.int r_636), .val (.int r_637), .val (.int r_639), .val (.int r_641), .val (.ref x_642), .unset, .unset, .unset]) rfl k) ?_
      show own_Go _ _ _ _ (T642.setTop (mkF m 79 #[.val (.int p1), .val (.int p2), .val (.int p3), .val (.int p4), .val (.int p5), .val (.int p6), .val (.int ln), .val (.int rn), .val (.int r_636), .val (.int r_637), .val (.int r_639), .val (.int r_641), .val (.ref x_642), .unset, .unset, .unset] []))
      refine own_Go.st (fun _ k => XS.iload Y642.here hx rfl (hb hby at_79) rfl k) ?_
      show own_Go _ _ _ _ (T642.setTop (mkF m 81 #[.val (.int p1), .val (.int p2), .val (.int p3), .val (.int p4), .val (.int p5), .val (.int p6), .val (.int ln), .val (.int rn), .val (.int r_636), .val (.int r_637), .val (.int r_639), .val (.int r_641), .val (.ref x_642), .unset, .unset, .unset] [(.int rn)]))
      refine own_Go.st (fun _ k => XS.iload Y642.here hx rfl (hb hby at_81) rfl k) ?_
      show own_Go _ _ _ _ (T642.setTop (mkF m 83 #[.val (.int p1), .val (.int p2), .val (.int p3), .val (.int p4), .val (.int p5), .val (.int p6), .val (.int ln), .val (.int rn), .val (.int r_636), .val (.int r_637), .val (.int r_639), .val (.int r_641), .val (.ref x_642), .unset, .unset, .unset] [(.int r_639), (.int rn)]))
      refine own_Go.st (fun _ k => XS.iload Y642.here hx rfl (hb hby at_83) rfl k) ?_
      show own_Go _ _ _ _ (T642.setTop (mkF m 85 #[.val (.int p1), .val (.int p2), .val (.int p3), .val (.int p4), .val (.int p5), .val (.int p6), .val (.int ln), .val (.int rn), .val (.int r_636), .val (.int r_637), .val (.int r_639), .val (.int r_641), .val (.ref x_642), .unset, .unset, .unset] [(.int r_641), (.int r_639), (.int rn)]))
      have f644 : Old Z Z.heap.size T642.heap := OL.keep K642 all0
      obtain ⟨_, _, ⟨T643, L643, k643, n643⟩, -, X643, hs643, hg643, ⟨Lc643, hQ643, l643, y643, z643, ch643⟩, st643⟩ := callSS Y642 hx (y := (⟨"com/example/keep_to_layer/keeptolayer/model/ClassNamesComparePinLaw", "str", "(III)Ljava/lang/String;"⟩ : MethodName)) hown642 (mvT hZ642 (hw _ (List.mem_of_getElem? (i := 9) rfl))) (mvT hZ642 (hw _ (List.mem_of_getElem? (i := 10) rfl))) (mvT hZ642 (hw _ (List.mem_of_getElem? (i := 3) rfl))) (mvT hZ642 (hw _ (List.mem_of_getElem? (i := 11) rfl))) (by decide) (backOfSH (s := s) (vm0 := T642.vm) (W := 0) (rm_str l Z a0 hw [] rn r_639 r_641 zc T642.heap hEL f644 st_COMPACT_STRINGS st__assertionsDisabled st_HI_BYTE_SHIFT st_LO_BYTE_SHIFT (by first | assumption | decide) pr639_0 pr641_0) hZ642 (hw _ (List.mem_of_getElem? (i := 11) rfl)) (hw _ (List.mem_of_getElem? (i := 3) rfl)) (by decide) (by decide) hEL R642.1) (g := (mkF m 85 #[.val (.int p1), .val (.int p2), .val (.int p3), .val (.int p4), .val (.int p5), .val (.int p6), .val (.int ln), .val (.int rn), .val (.int r_636), .val (.int r_637), .val (.int r_639), .val (.int r_641), .val (.ref x_642), .unset, .unset, .unset] [(.int r_641), (.int r_639), (.int rn)])) rfl (by rw [hml]; rfl) (argsL := [(.int rn), (.int r_639), (.int r_641)]) (rest := []) (lenOf pd_610 rfl) rfl (by show 2 * 0 + _ ≤ _; exact Nat.le_of_eq rfl) (hb hby at_85) (fun _ _ => ⟨rfl, rfl, (by decide : 6 + 6 ≤ _), (by decide : 20 + 20 ≤ _)⟩)
      dsimp only [Pt.U, Pt.locs, Pt.cells, Pt.slots] at X643 l643 y643 z643 st643 hQ643 hs643 hg643 ch643
      subst l643 y643 z643
      obtain ⟨x_643, t_643, cs_643, rfl, N643q, K643, f643_0, pr643_0⟩ := hQ643
      have N643 := Fr.app N642 N643q
      obtain ⟨Y643, hS643, hZ643, hown643⟩ := rebS hS642 (n1 := T642.heap.size) (by omega) X643 hs643 (by have := hg643; first | exact this | (rw [← rfl]; exact this)) hZ642 hown642
      have z643 : T642.heap.size ≤ T643.heap.size := K643.1
      have R643 : CHr Z consts_1 s.vm h0 T643.vm T643.heap := R642.trans ch643
      have lt643_0 : @LT.lt Nat _ x_643 T643.heap.size := f643_0.lt
      have ltv643_0 : @LT.lt Nat _ t_643 T643.heap.size := f643_0.ltv
      refine own_Go.tr st643 ?_
      show own_Go _ _ _ _ (T643.setTop (mkF m 88 #[.val (.int p1), .val (.int p2), .val (.int p3), .val (.int p4), .val (.int p5), .val (.int p6), .val (.int ln), .val (.int rn), .val (.int r_636), .val (.int r_637), .val (.int r_639), .val (.int r_641), .val (.ref x_642), .unset, .unset, .unset] [(.ref x_643)]))
      refine own_Go.st (fun _ k => XS.astore Y643.here hx rfl (hb hby at_88) rfl rfl (l' := #[.val (.int p1), .val (.int p2), .val (.int p3), .val (.int p4), .val (.int p5), .val (.int p6), .val (.int ln), .val (.int rn), .val (.int r_636), .val (.int r_637), .val (.int r_639), .val (.int r_641), .val (.ref x_642), .val (.ref x_643), .unset, .unset]) rfl k) ?_
      show own_Go _ _ _ _ (T643.setTop (mkF m 90 #[.val (.int p1), .val (.int p2), .val (.int p3), .val (.int p4), .val (.int p5), .val (.int p6), .val (.int ln), .val (.int rn), .val (.int r_636), .val (.int r_637), .val (.int r_639), .val (.int r_641), .val (.ref x_642), .val (.ref x_643), .unset, .unset] []))
      refine own_Go.st (fun _ k => XS.aload Y643.here hx rfl (hb hby at_90) rfl rfl k) ?_
      show own_Go _ _ _ _ (T643.setTop (mkF m 92 #[.val (.int p1), .val (.int p2), .val (.int p3), .val (.int p4), .val (.int p5), .val (.int p6), .val (.int ln), .val (.int rn), .val (.int r_636), .val (.int r_637), .val (.int r_639), .val (.int r_641), .val (.ref x_642), .val (.ref x_643), .unset, .unset] [(.ref x_642)]))
      refine own_Go.st (fun _ k => XS.aload Y643.here hx rfl (hb hby at_92) rfl rfl k) ?_
      show own_Go _ _ _ _ (T643.setTop (mkF m 94 #[.val (.int p1), .val (.int p2), .val (.int p3), .val (.int p4), .val (.int p5), .val (.int p6), .val (.int ln), .val (.int rn), .val (.int r_636), .val (.int r_637), .val (.int r_639), .val (.int r_641), .val (.ref x_642), .val (.ref x_643), .unset, .unset] [(.ref x_643), (.ref x_642)]))
      have f646 : own_Str Z T643.heap x_642 t_642 cs_642 := f642_0.keep K643 nin0 nin0
      have f647 : Old Z Z.heap.size T643.heap := f644.keep K643 all0
      obtain ⟨_, _, ⟨T645, L645, k645, n645⟩, -, X645, ⟨Lc645, hQ645, l645, y645, z645⟩, st645⟩ := Jvm.LawKit.callS Y643 hx (y := (⟨"com/example/keep_to_layer/keeptolayer/model/ClassNames", "compare", "(Ljava/lang/String;Ljava/lang/String;)I"⟩ : MethodName)) hown643 (mvT hZ643 (hw _ (List.mem_of_getElem? (i := 34) rfl))) (mvT hZ643 (hw _ (List.mem_of_getElem? (i := 35) rfl))) (mvT hZ643 (hw _ (List.mem_of_getElem? (i := 36) rfl))) (mvT hZ643 (hw _ (List.mem_of_getElem? (i := 37) rfl))) (by decide) (backOf (W := 0) (rm_compare l Z a0 hw [] x_642 x_643 (own_pts ln r_636 r_637) (own_pts rn r_639 r_641) t_642 t_643 cs_642 cs_643 zc fm T643.heap f647 f646 f643_0 st_COMPACT_STRINGS st_SIOOBE_FORMATTER st__assertionsDisabled st_HI_BYTE_SHIFT st_LO_BYTE_SHIFT pr642_0 pr643_0 (own_ptsV pr636_0 pr637_0) (own_ptsV pr639_0 pr641_0) (by first | assumption | decide) (by first | assumption | decide)) hZ643 (hw _ (List.mem_of_getElem? (i := 37) rfl)) (hw _ (List.mem_of_getElem? (i := 36) rfl)) (by decide) (by decide)) (g := (mkF m 94 #[.val (.int p1), .val (.int p2), .val (.int p3), .val (.int p4), .val (.int p5), .val (.int p6), .val (.int ln), .val (.int rn), .val (.int r_636), .val (.int r_637), .val (.int r_639), .val (.int r_641), .val (.ref x_642), .val (.ref x_643), .unset, .unset] [(.ref x_643), (.ref x_642)])) rfl (by rw [hml]; rfl) (argsL := [(.ref x_642), (.ref x_643)]) (rest := []) (lenOf pd_611 rfl) rfl (by show 2 * 0 + _ ≤ _; exact Nat.le_of_eq rfl) (hb hby at_94) (fun _ _ => ⟨rfl, rfl, (by decide : 12 + 0 ≤ _), (by decide : 40 + 0 ≤ _)⟩)
      dsimp only [Pt.U, Pt.locs, Pt.cells, Pt.slots] at X645 l645 y645 z645 st645 hQ645
      subst l645 y645 z645
      obtain ⟨rfl, N645q, K645⟩ := hQ645
      have N645 := Fr.app N643 N645q
      refine own_Go.st st645 ?_
      show own_Go _ _ _ _ (T645.setTop (mkF m 97 #[.val (.int p1), .val (.int p2), .val (.int p3), .val (.int p4), .val (.int p5), .val (.int p6), .val (.int ln), .val (.int rn), .val (.int r_636), .val (.int r_637), .val (.int r_639), .val (.int r_641), .val (.ref x_642), .val (.ref x_643), .unset, .unset] [(.int (own_cmpL (own_pts ln r_636 r_637) (own_pts rn r_639 r_641)))]))
      refine own_Go.st (fun _ k => XS.istore X645.here hx rfl (hb hby at_97) rfl (l' := #[.val (.int p1), .val (.int p2), .val (.int p3), .val (.int p4), .val (.int p5), .val (.int p6), .val (.int ln), .val (.int rn), .val (.int r_636), .val (.int r_637), .val (.int r_639), .val (.int r_641), .val (.ref x_642), .val (.ref x_643), .val (.int (own_cmpL (own_pts ln r_636 r_637) (own_pts rn r_639 r_641))), .unset]) rfl k) ?_
      show own_Go _ _ _ _ (T645.setTop (mkF m 99 #[.val (.int p1), .val (.int p2), .val (.int p3), .val (.int p4), .val (.int p5), .val (.int p6), .val (.int ln), .val (.int rn), .val (.int r_636), .val (.int r_637), .val (.int r_639), .val (.int r_641), .val (.ref x_642), .val (.ref x_643), .val (.int (own_cmpL (own_pts ln r_636 r_637) (own_pts rn r_639 r_641))), .unset] []))
      refine own_Go.st (fun _ k => XS.iload X645.here hx rfl (hb hby at_99) rfl k) ?_
      show own_Go _ _ _ _ (T645.setTop (mkF m 101 #[.val (.int p1), .val (.int p2), .val (.int p3), .val (.int p4), .val (.int p5), .val (.int p6), .val (.int ln), .val (.int rn), .val (.int r_636), .val (.int r_637), .val (.int r_639), .val (.int r_641), .val (.ref x_642), .val (.ref x_643), .val (.int (own_cmpL (own_pts ln r_636 r_637) (own_pts rn r_639 r_641))), .unset] [(.int ln)]))
      refine own_Go.st (fun _ k => XS.iload X645.here hx rfl (hb hby at_101) rfl k) ?_
      show own_Go _ _ _ _ (T645.setTop (mkF m 103 #[.val (.int p1), .val (.int p2), .val (.int p3), .val (.int p4), .val (.int p5), .val (.int p6), .val (.int ln), .val (.int rn), .val (.int r_636), .val (.int r_637), .val (.int r_639), .val (.int r_641), .val (.ref x_642), .val (.ref x_643), .val (.int (own_cmpL (own_pts ln r_636 r_637) (own_pts rn r_639 r_641))), .unset] [(.int r_636), (.int ln)]))
      refine own_Go.st (fun _ k => XS.iload X645.here hx rfl (hb hby at_103) rfl k) ?_
      show own_Go _ _ _ _ (T645.setTop (mkF m 105 #[.val (.int p1), .val (.int p2), .val (.int p3), .val (.int p4), .val (.int p5), .val (.int p6), .val (.int ln), .val (.int rn), .val (.int r_636), .val (.int r_637), .val (.int r_639), .val (.int r_641), .val (.ref x_642), .val (.ref x_643), .val (.int (own_cmpL (own_pts ln r_636 r_637) (own_pts rn r_639 r_641))), .unset] [(.int r_637), (.int r_636), (.int ln)]))
      refine own_Go.st (fun _ k => XS.iload X645.here hx rfl (hb hby at_105) rfl k) ?_
      show own_Go _ _ _ _ (T645.setTop (mkF m 107 #[.val (.int p1), .val (.int p2), .val (.int p3), .val (.int p4), .val (.int p5), .val (.int p6), .val (.int ln), .val (.int rn), .val (.int r_636), .val (.int r_637), .val (.int r_639), .val (.int r_641), .val (.ref x_642), .val (.ref x_643), .val (.int (own_cmpL (own_pts ln r_636 r_637) (own_pts rn r_639 r_641))), .unset] [(.int rn), (.int r_637), (.int r_636), (.int ln)]))
      refine own_Go.st (fun _ k => XS.iload X645.here hx rfl (hb hby at_107) rfl k) ?_
      show own_Go _ _ _ _ (T645.setTop (mkF m 109 #[.val (.int p1), .val (.int p2), .val (.int p3), .val (.int p4), .val (.int p5), .val (.int p6), .val (.int ln), .val (.int rn), .val (.int r_636), .val (.int r_637), .val (.int r_639), .val (.int r_641), .val (.ref x_642), .val (.ref x_643), .val (.int (own_cmpL (own_pts ln r_636 r_637) (own_pts rn r_639 r_641))), .unset] [(.int r_639), (.int rn), (.int r_637), (.int r_636), (.int ln)]))
      refine own_Go.st (fun _ k => XS.iload X645.here hx rfl (hb hby at_109) rfl k) ?_
      show own_Go _ _ _ _ (T645.setTop (mkF m 111 #[.val (.int p1), .val (.int p2), .val (.int p3), .val (.int p4), .val (.int p5), .val (.int p6), .val (.int ln), .val (.int rn), .val (.int r_636), .val (.int r_637), .val (.int r_639), .val (.int r_641), .val (.ref x_642), .val (.ref x_643), .val (.int (own_cmpL (own_pts ln r_636 r_637) (own_pts rn r_639 r_641))), .unset] [(.int r_641), (.int r_639), (.int rn), (.int r_637), (.int r_636), (.int ln)]))
      obtain ⟨_, _, ⟨T648, L648, k648, n648⟩, -, X648, ⟨Lc648, hQ648, l648, y648, z648⟩, st648⟩ := Jvm.LawKit.callS X645 hx (y := (⟨"com/example/keep_to_layer/keeptolayer/model/ClassNamesComparePinLaw", "ref", "(IIIIII)I"⟩ : MethodName)) hown643 (mvT hZ643 (hw _ (List.mem_of_getElem? (i := 53) rfl))) (mvT hZ643 (hw _ (List.mem_of_getElem? (i := 54) rfl))) (mvT hZ643 (hw _ (List.mem_of_getElem? (i := 3) rfl))) (mvT hZ643 (hw _ (List.mem_of_getElem? (i := 55) rfl))) (by decide) (backOf (W := 0) (rm_ref l Z a0 hw [] ln r_636 r_637 rn r_639 r_641 T643.heap f647 hln hrn) hZ643 (hw _ (List.mem_of_getElem? (i := 55) rfl)) (hw _ (List.mem_of_getElem? (i := 3) rfl)) (by decide) (by decide)) (g := (mkF m 111 #[.val (.int p1), .val (.int p2), .val (.int p3), .val (.int p4), .val (.int p5), .val (.int p6), .val (.int ln), .val (.int rn), .val (.int r_636), .val (.int r_637), .val (.int r_639), .val (.int r_641), .val (.ref x_642), .val (.ref x_643), .val (.int (own_cmpL (own_pts ln r_636 r_637) (own_pts rn r_639 r_641))), .unset] [(.int r_641), (.int r_639), (.int rn), (.int r_637), (.int r_636), (.int ln)])) rfl (by rw [hml]; rfl) (argsL := [(.int ln), (.int r_636), (.int r_637), (.int rn), (.int r_639), (.int r_641)]) (rest := []) (lenOf pd_612 rfl) rfl (by show 2 * 0 + _ ≤ _; exact Nat.le_of_eq rfl) (hb hby at_111) (fun _ _ => ⟨rfl, K645, (by decide : 12 + 0 ≤ _), (by decide : 40 + 0 ≤ _)⟩)
      dsimp only [Pt.U, Pt.locs, Pt.cells, Pt.slots] at X648 l648 y648 z648 st648 hQ648
      subst l648 y648 z648
      obtain ⟨rfl, N648q, K648⟩ := hQ648
      have N648 := Fr.app N645 N648q
      refine own_Go.st st648 ?_
      show own_Go _ _ _ _ (T648.setTop (mkF m 114 #[.val (.int p1), .val (.int p2), .val (.int p3), .val (.int p4), .val (.int p5), .val (.int p6), .val (.int ln), .val (.int rn), .val (.int r_636), .val (.int r_637), .val (.int r_639), .val (.int r_641), .val (.ref x_642), .val (.ref x_643), .val (.int (own_cmpL (own_pts ln r_636 r_637) (own_pts rn r_639 r_641))), .unset] [(.int (own_cmpL (own_pts ln r_636 r_637) (own_pts rn r_639 r_641)))]))
      refine own_Go.st (fun _ k => XS.istore X648.here hx rfl (hb hby at_114) rfl (l' := #[.val (.int p1), .val (.int p2), .val (.int p3), .val (.int p4), .val (.int p5), .val (.int p6), .val (.int ln), .val (.int rn), .val (.int r_636), .val (.int r_637), .val (.int r_639), .val (.int r_641), .val (.ref x_642), .val (.ref x_643), .val (.int (own_cmpL (own_pts ln r_636 r_637) (own_pts rn r_639 r_641))), .val (.int (own_cmpL (own_pts ln r_636 r_637) (own_pts rn r_639 r_641)))]) rfl k) ?_
      show own_Go _ _ _ _ (T648.setTop (mkF m 116 #[.val (.int p1), .val (.int p2), .val (.int p3), .val (.int p4), .val (.int p5), .val (.int p6), .val (.int ln), .val (.int rn), .val (.int r_636), .val (.int r_637), .val (.int r_639), .val (.int r_641), .val (.ref x_642), .val (.ref x_643), .val (.int (own_cmpL (own_pts ln r_636 r_637) (own_pts rn r_639 r_641))), .val (.int (own_cmpL (own_pts ln r_636 r_637) (own_pts rn r_639 r_641)))] []))
      refine own_Go.st (fun _ k => XS.iload X648.here hx rfl (hb hby at_116) rfl k) ?_
      show own_Go _ _ _ _ (T648.setTop (mkF m 118 #[.val (.int p1), .val (.int p2), .val (.int p3), .val (.int p4), .val (.int p5), .val (.int p6), .val (.int ln), .val (.int rn), .val (.int r_636), .val (.int r_637), .val (.int r_639), .val (.int r_641), .val (.ref x_642), .val (.ref x_643), .val (.int (own_cmpL (own_pts ln r_636 r_637) (own_pts rn r_639 r_641))), .val (.int (own_cmpL (own_pts ln r_636 r_637) (own_pts rn r_639 r_641)))] [(.int (own_cmpL (own_pts ln r_636 r_637) (own_pts rn r_639 r_641)))]))
      by_cases h118 : (own_cmpL (own_pts ln r_636 r_637) (own_pts rn r_639 r_641)) < (0 : Int32)
      ·
        refine own_Go.st (fun _ k => XS.ifNo X648.here hx rfl (hb hby at_118) rfl ((if0 _ _).trans (tlt h118).2.1) k) ?_
        show own_Go _ _ _ _ (T648.setTop (mkF m 121 #[.val (.int p1), .val (.int p2), .val (.int p3), .val (.int p4), .val (.int p5), .val (.int p6), .val (.int ln), .val (.int rn), .val (.int r_636), .val (.int r_637), .val (.int r_639), .val (.int r_641), .val (.ref x_642), .val (.ref x_643), .val (.int (own_cmpL (own_pts ln r_636 r_637) (own_pts rn r_639 r_641))), .val (.int (own_cmpL (own_pts ln r_636 r_637) (own_pts rn r_639 r_641)))] []))
        refine own_Go.st (fun _ k => XS.iload X648.here hx rfl (hb hby at_121) rfl k) ?_
        show own_Go _ _ _ _ (T648.setTop (mkF m 123 #[.val (.int p1), .val (.int p2), .val (.int p3), .val (.int p4), .val (.int p5), .val (.int p6), .val (.int ln), .val (.int rn), .val (.int r_636), .val (.int r_637), .val (.int r_639), .val (.int r_641), .val (.ref x_642), .val (.ref x_643), .val (.int (own_cmpL (own_pts ln r_636 r_637) (own_pts rn r_639 r_641))), .val (.int (own_cmpL (own_pts ln r_636 r_637) (own_pts rn r_639 r_641)))] [(.int (own_cmpL (own_pts ln r_636 r_637) (own_pts rn r_639 r_641)))]))
        have hc649 : (own_cmpL (own_pts ln r_636 r_637) (own_pts rn r_639 r_641)) < (0 : Int32) := h118
        refine own_Go.st (fun _ k => XS.ifNo X648.here hx rfl (hb hby at_123) rfl ((if0 _ _).trans (tlt hc649).2.1) k) ?_
        show own_Go _ _ _ _ (T648.setTop (mkF m 126 #[.val (.int p1), .val (.int p2), .val (.int p3), .val (.int p4), .val (.int p5), .val (.int p6), .val (.int ln), .val (.int rn), .val (.int r_636), .val (.int r_637), .val (.int r_639), .val (.int r_641), .val (.ref x_642), .val (.ref x_643), .val (.int (own_cmpL (own_pts ln r_636 r_637) (own_pts rn r_639 r_641))), .val (.int (own_cmpL (own_pts ln r_636 r_637) (own_pts rn r_639 r_641)))] []))
        refine own_Go.st (fun _ k => XS.iconst X648.here hx rfl (hb hby at_126) k) ?_
        show own_Go _ _ _ _ (T648.setTop (mkF m 127 #[.val (.int p1), .val (.int p2), .val (.int p3), .val (.int p4), .val (.int p5), .val (.int p6), .val (.int ln), .val (.int rn), .val (.int r_636), .val (.int r_637), .val (.int r_639), .val (.int r_641), .val (.ref x_642), .val (.ref x_643), .val (.int (own_cmpL (own_pts ln r_636 r_637) (own_pts rn r_639 r_641))), .val (.int (own_cmpL (own_pts ln r_636 r_637) (own_pts rn r_639 r_641)))] [(.int (1 : Int32))]))
        refine own_Go.st (fun _ k => XS.goto X648.here hx rfl (pc0 := 127) (pc' := 131) rfl (hb hby at_127) (by decide) (by decide) k) ?_
        show own_Go _ _ _ _ (T648.setTop (mkF m 131 #[.val (.int p1), .val (.int p2), .val (.int p3), .val (.int p4), .val (.int p5), .val (.int p6), .val (.int ln), .val (.int rn), .val (.int r_636), .val (.int r_637), .val (.int r_639), .val (.int r_641), .val (.ref x_642), .val (.ref x_643), .val (.int (own_cmpL (own_pts ln r_636 r_637) (own_pts rn r_639 r_641))), .val (.int (own_cmpL (own_pts ln r_636 r_637) (own_pts rn r_639 r_641)))] [(.int (1 : Int32))]))
        obtain ⟨fs650, hr650, hrun650, hend650, hret650⟩ := X648.leaveW hS643 (by rw [K648]; exact (by omega)) (v := some (.int (nar .boolean (1 : Int32)))) (fun h => by rw [Bd.returns] at h; cases h)
        have K651 : Keep h0 T642.heap [] := (Keep.refl h0 []).trans K642 all0
        have K652 : Keep h0 T643.heap [] := K651.trans K643 all0
        subst hPP
        refine ⟨_, _, retN X648 hx (t := .boolean) Bd.returns (by simp) (hb hby at_131) hr650, hrun650, hend650, _, _, rfl, ?_, ?_, hret650.1, hret650.2.1, hret650.2.2.1, hret650.2.2.2.mono (by decide) (by decide)⟩
        · show Q_law Z _ _ _ _ _ _ _ _ h0 _ T648.heap _
          rw [K648]
          exact ⟨rfl, N648, K652⟩
        · have hfin := R643.trans (CHv.at X648 hZ643 hEL R643.1)
          rw [← hh] at hfin
          show CHr Z consts_1 s.vm s.heap T648.vm T648.heap
          rw [K648]
          exact hfin
      ·
        refine own_Go.st (fun _ k => XS.ifYes X648.here hx rfl (pc0 := 118) (pc' := 132) rfl (hb hby at_118) rfl ((if0 _ _).trans (flt h118).2.1) (by decide) (by decide) k) ?_
        show own_Go _ _ _ _ (T648.setTop (mkF m 132 #[.val (.int p1), .val (.int p2), .val (.int p3), .val (.int p4), .val (.int p5), .val (.int p6), .val (.int ln), .val (.int rn), .val (.int r_636), .val (.int r_637), .val (.int r_639), .val (.int r_641), .val (.ref x_642), .val (.ref x_643), .val (.int (own_cmpL (own_pts ln r_636 r_637) (own_pts rn r_639 r_641))), .val (.int (own_cmpL (own_pts ln r_636 r_637) (own_pts rn r_639 r_641)))] []))
        refine own_Go.st (fun _ k => XS.iload X648.here hx rfl (hb hby at_132) rfl k) ?_
        show own_Go _ _ _ _ (T648.setTop (mkF m 134 #[.val (.int p1), .val (.int p2), .val (.int p3), .val (.int p4), .val (.int p5), .val (.int p6), .val (.int ln), .val (.int rn), .val (.int r_636), .val (.int r_637), .val (.int r_639), .val (.int r_641), .val (.ref x_642), .val (.ref x_643), .val (.int (own_cmpL (own_pts ln r_636 r_637) (own_pts rn r_639 r_641))), .val (.int (own_cmpL (own_pts ln r_636 r_637) (own_pts rn r_639 r_641)))] [(.int (own_cmpL (own_pts ln r_636 r_637) (own_pts rn r_639 r_641)))]))
        by_cases h134 : (own_cmpL (own_pts ln r_636 r_637) (own_pts rn r_639 r_641)) = (0 : Int32)
        ·
          refine own_Go.st (fun _ k => XS.ifNo X648.here hx rfl (hb hby at_134) rfl ((if0 _ _).trans (teq h134).2) k) ?_
          show own_Go _ _ _ _ (T648.setTop (mkF m 137 #[.val (.int p1), .val (.int p2), .val (.int p3), .val (.int p4), .val (.int p5), .val (.int p6), .val (.int ln), .val (.int rn), .val (.int r_636), .val (.int r_637), .val (.int r_639), .val (.int r_641), .val (.ref x_642), .val (.ref x_643), .val (.int (own_cmpL (own_pts ln r_636 r_637) (own_pts rn r_639 r_641))), .val (.int (own_cmpL (own_pts ln r_636 r_637) (own_pts rn r_639 r_641)))] []))
          refine own_Go.st (fun _ k => XS.iload X648.here hx rfl (hb hby at_137) rfl k) ?_
          show own_Go _ _ _ _ (T648.setTop (mkF m 139 #[.val (.int p1), .val (.int p2), .val (.int p3), .val (.int p4), .val (.int p5), .val (.int p6), .val (.int ln), .val (.int rn), .val (.int r_636), .val (.int r_637), .val (.int r_639), .val (.int r_641), .val (.ref x_642), .val (.ref x_643), .val (.int (own_cmpL (own_pts ln r_636 r_637) (own_pts rn r_639 r_641))), .val (.int (own_cmpL (own_pts ln r_636 r_637) (own_pts rn r_639 r_641)))] [(.int (own_cmpL (own_pts ln r_636 r_637) (own_pts rn r_639 r_641)))]))
          have hc653 : (own_cmpL (own_pts ln r_636 r_637) (own_pts rn r_639 r_641)) = (0 : Int32) := h134
          refine own_Go.st (fun _ k => XS.ifNo X648.here hx rfl (hb hby at_139) rfl ((if0 _ _).trans (teq hc653).2) k) ?_
          show own_Go _ _ _ _ (T648.setTop (mkF m 142 #[.val (.int p1), .val (.int p2), .val (.int p3), .val (.int p4), .val (.int p5), .val (.int p6), .val (.int ln), .val (.int rn), .val (.int r_636), .val (.int r_637), .val (.int r_639), .val (.int r_641), .val (.ref x_642), .val (.ref x_643), .val (.int (own_cmpL (own_pts ln r_636 r_637) (own_pts rn r_639 r_641))), .val (.int (own_cmpL (own_pts ln r_636 r_637) (own_pts rn r_639 r_641)))] []))
          refine own_Go.st (fun _ k => XS.iconst X648.here hx rfl (hb hby at_142) k) ?_
          show own_Go _ _ _ _ (T648.setTop (mkF m 143 #[.val (.int p1), .val (.int p2), .val (.int p3), .val (.int p4), .val (.int p5), .val (.int p6), .val (.int ln), .val (.int rn), .val (.int r_636), .val (.int r_637), .val (.int r_639), .val (.int r_641), .val (.ref x_642), .val (.ref x_643), .val (.int (own_cmpL (own_pts ln r_636 r_637) (own_pts rn r_639 r_641))), .val (.int (own_cmpL (own_pts ln r_636 r_637) (own_pts rn r_639 r_641)))] [(.int (1 : Int32))]))
          refine own_Go.st (fun _ k => XS.goto X648.here hx rfl (pc0 := 143) (pc' := 147) rfl (hb hby at_143) (by decide) (by decide) k) ?_
          show own_Go _ _ _ _ (T648.setTop (mkF m 147 #[.val (.int p1), .val (.int p2), .val (.int p3), .val (.int p4), .val (.int p5), .val (.int p6), .val (.int ln), .val (.int rn), .val (.int r_636), .val (.int r_637), .val (.int r_639), .val (.int r_641), .val (.ref x_642), .val (.ref x_643), .val (.int (own_cmpL (own_pts ln r_636 r_637) (own_pts rn r_639 r_641))), .val (.int (own_cmpL (own_pts ln r_636 r_637) (own_pts rn r_639 r_641)))] [(.int (1 : Int32))]))
          obtain ⟨fs654, hr654, hrun654, hend654, hret654⟩ := X648.leaveW hS643 (by rw [K648]; exact (by omega)) (v := some (.int (nar .boolean (1 : Int32)))) (fun h => by rw [Bd.returns] at h; cases h)
          have K655 : Keep h0 T642.heap [] := (Keep.refl h0 []).trans K642 all0
          have K656 : Keep h0 T643.heap [] := K655.trans K643 all0
          subst hPP
          refine ⟨_, _, retN X648 hx (t := .boolean) Bd.returns (by simp) (hb hby at_147) hr654, hrun654, hend654, _, _, rfl, ?_, ?_, hret654.1, hret654.2.1, hret654.2.2.1, hret654.2.2.2.mono (by decide) (by decide)⟩
          · show Q_law Z _ _ _ _ _ _ _ _ h0 _ T648.heap _
            rw [K648]
            exact ⟨rfl, N648, K656⟩
          · have hfin := R643.trans (CHv.at X648 hZ643 hEL R643.1)
            rw [← hh] at hfin
            show CHr Z consts_1 s.vm s.heap T648.vm T648.heap
            rw [K648]
            exact hfin
        ·
          refine own_Go.st (fun _ k => XS.ifYes X648.here hx rfl (pc0 := 134) (pc' := 148) rfl (hb hby at_134) rfl ((if0 _ _).trans (feq h134).2) (by decide) (by decide) k) ?_
          show own_Go _ _ _ _ (T648.setTop (mkF m 148 #[.val (.int p1), .val (.int p2), .val (.int p3), .val (.int p4), .val (.int p5), .val (.int p6), .val (.int ln), .val (.int rn), .val (.int r_636), .val (.int r_637), .val (.int r_639), .val (.int r_641), .val (.ref x_642), .val (.ref x_643), .val (.int (own_cmpL (own_pts ln r_636 r_637) (own_pts rn r_639 r_641))), .val (.int (own_cmpL (own_pts ln r_636 r_637) (own_pts rn r_639 r_641)))] []))
          refine own_Go.st (fun _ k => XS.iload X648.here hx rfl (hb hby at_148) rfl k) ?_
          show own_Go _ _ _ _ (T648.setTop (mkF m 150 #[.val (.int p1), .val (.int p2), .val (.int p3), .val (.int p4), .val (.int p5), .val (.int p6), .val (.int ln), .val (.int rn), .val (.int r_636), .val (.int r_637), .val (.int r_639), .val (.int r_641), .val (.ref x_642), .val (.ref x_643), .val (.int (own_cmpL (own_pts ln r_636 r_637) (own_pts rn r_639 r_641))), .val (.int (own_cmpL (own_pts ln r_636 r_637) (own_pts rn r_639 r_641)))] [(.int (own_cmpL (own_pts ln r_636 r_637) (own_pts rn r_639 r_641)))]))
          have hc657 : (0 : Int32) < (own_cmpL (own_pts ln r_636 r_637) (own_pts rn r_639 r_641)) := own_pos h118 h134
          refine own_Go.st (fun _ k => XS.ifNo X648.here hx rfl (hb hby at_150) rfl ((if0 _ _).trans (tlt hc657).2.2.2) k) ?_
          show own_Go _ _ _ _ (T648.setTop (mkF m 153 #[.val (.int p1), .val (.int p2), .val (.int p3), .val (.int p4), .val (.int p5), .val (.int p6), .val (.int ln), .val (.int rn), .val (.int r_636), .val (.int r_637), .val (.int r_639), .val (.int r_641), .val (.ref x_642), .val (.ref x_643), .val (.int (own_cmpL (own_pts ln r_636 r_637) (own_pts rn r_639 r_641))), .val (.int (own_cmpL (own_pts ln r_636 r_637) (own_pts rn r_639 r_641)))] []))
          refine own_Go.st (fun _ k => XS.iconst X648.here hx rfl (hb hby at_153) k) ?_
          show own_Go _ _ _ _ (T648.setTop (mkF m 154 #[.val (.int p1), .val (.int p2), .val (.int p3), .val (.int p4), .val (.int p5), .val (.int p6), .val (.int ln), .val (.int rn), .val (.int r_636), .val (.int r_637), .val (.int r_639), .val (.int r_641), .val (.ref x_642), .val (.ref x_643), .val (.int (own_cmpL (own_pts ln r_636 r_637) (own_pts rn r_639 r_641))), .val (.int (own_cmpL (own_pts ln r_636 r_637) (own_pts rn r_639 r_641)))] [(.int (1 : Int32))]))
          refine own_Go.st (fun _ k => XS.goto X648.here hx rfl (pc0 := 154) (pc' := 158) rfl (hb hby at_154) (by decide) (by decide) k) ?_
          show own_Go _ _ _ _ (T648.setTop (mkF m 158 #[.val (.int p1), .val (.int p2), .val (.int p3), .val (.int p4), .val (.int p5), .val (.int p6), .val (.int ln), .val (.int rn), .val (.int r_636), .val (.int r_637), .val (.int r_639), .val (.int r_641), .val (.ref x_642), .val (.ref x_643), .val (.int (own_cmpL (own_pts ln r_636 r_637) (own_pts rn r_639 r_641))), .val (.int (own_cmpL (own_pts ln r_636 r_637) (own_pts rn r_639 r_641)))] [(.int (1 : Int32))]))
          obtain ⟨fs658, hr658, hrun658, hend658, hret658⟩ := X648.leaveW hS643 (by rw [K648]; exact (by omega)) (v := some (.int (nar .boolean (1 : Int32)))) (fun h => by rw [Bd.returns] at h; cases h)
          have K659 : Keep h0 T642.heap [] := (Keep.refl h0 []).trans K642 all0
          have K660 : Keep h0 T643.heap [] := K659.trans K643 all0
          subst hPP
          refine ⟨_, _, retN X648 hx (t := .boolean) Bd.returns (by simp) (hb hby at_158) hr658, hrun658, hend658, _, _, rfl, ?_, ?_, hret658.1, hret658.2.1, hret658.2.2.1, hret658.2.2.2.mono (by decide) (by decide)⟩
          · show Q_law Z _ _ _ _ _ _ _ _ h0 _ T648.heap _
            rw [K648]
            exact ⟨rfl, N648, K660⟩
          · have hfin := R643.trans (CHv.at X648 hZ643 hEL R643.1)
            rw [← hh] at hfin
            show CHr Z consts_1 s.vm s.heap T648.vm T648.heap
            rw [K648]
            exact hfin
    ·
      refine own_Go.st (fun _ k => XS.ifNo X639.here hx rfl (hb hby at_54) rfl ((if0 _ _).trans (feq hc640).1) k) ?_
      show own_Go _ _ _ _ (T639.setTop (mkF m 57 #[.val (.int p1), .val (.int p2), .val (.int p3), .val (.int p4), .val (.int p5), .val (.int p6), .val (.int ln), .val (.int rn), .val (.int r_636), .val (.int r_637), .val (.int r_639), .unset, .unset, .unset, .unset, .unset] []))
      refine own_Go.st (fun _ k => XS.iload X639.here hx rfl (hb hby at_57) rfl k) ?_
      show own_Go _ _ _ _ (T639.setTop (mkF m 59 #[.val (.int p1), .val (.int p2), .val (.int p3), .val (.int p4), .val (.int p5), .val (.int p6), .val (.int ln), .val (.int rn), .val (.int r_636), .val (.int r_637), .val (.int r_639), .unset, .unset, .unset, .unset, .unset] [(.int r_637)]))
      refine own_Go.st (fun _ k => XS.goto X639.here hx rfl (pc0 := 59) (pc' := 66) rfl (hb hby at_59) (by decide) (by decide) k) ?_
      show own_Go _ _ _ _ (T639.setTop (mkF m 66 #[.val (.int p1), .val (.int p2), .val (.int p3), .val (.int p4), .val (.int p5), .val (.int p6), .val (.int ln), .val (.int rn), .val (.int r_636), .val (.int r_637), .val (.int r_639), .unset, .unset, .unset, .unset, .unset] [(.int r_637)]))
      refine own_Go.st (fun _ k => XS.istore X639.here hx rfl (hb hby at_66) rfl (l' := #[.val (.int p1), .val (.int p2), .val (.int p3), .val (.int p4), .val (.int p5), .val (.int p6), .val (.int ln), .val (.int rn), .val (.int r_636), .val (.int r_637), .val (.int r_639), .val (.int r_637), .unset, .unset, .unset, .unset]) rfl k) ?_
      show own_Go _ _ _ _ (T639.setTop (mkF m 68 #[.val (.int p1), .val (.int p2), .val (.int p3), .val (.int p4), .val (.int p5), .val (.int p6), .val (.int ln), .val (.int rn), .val (.int r_636), .val (.int r_637), .val (.int r_639), .val (.int r_637), .unset, .unset, .unset, .unset] []))
      refine own_Go.st (fun _ k => XS.iload X639.here hx rfl (hb hby at_68) rfl k) ?_
      show own_Go _ _ _ _ (T639.setTop (mkF m 70 #[.val (.int p1), .val (.int p2), .val (.int p3), .val (.int p4), .val (.int p5), .val (.int p6), .val (.int ln), .val (.int rn), .val (.int r_636), .val (.int r_637), .val (.int r_639), .val (.int r_637), .unset, .unset, .unset, .unset] [(.int ln)]))
      refine own_Go.st (fun _ k => XS.iload X639.here hx rfl (hb hby at_70) rfl k) ?_
      show own_Go _ _ _ _ (T639.setTop (mkF m 72 #[.val (.int p1), .val (.int p2), .val (.int p3), .val (.int p4), .val (.int p5), .val (.int p6), .val (.int ln), .val (.int rn), .val (.int r_636), .val (.int r_637), .val (.int r_639), .val (.int r_637), .unset, .unset, .unset, .unset] [(.int r_636), (.int ln)]))
      refine own_Go.st (fun _ k => XS.iload X639.here hx rfl (hb hby at_72) rfl k) ?_
      show own_Go _ _ _ _ (T639.setTop (mkF m 74 #[.val (.int p1), .val (.int p2), .val (.int p3), .val (.int p4), .val (.int p5), .val (.int p6), .val (.int ln), .val (.int rn), .val (.int r_636), .val (.int r_637), .val (.int r_639), .val (.int r_637), .unset, .unset, .unset, .unset] [(.int r_637), (.int r_636), (.int ln)]))
      obtain ⟨_, _, ⟨T661, L661, k661, n661⟩, -, X661, hs661, hg661, ⟨Lc661, hQ661, l661, y661, z661, ch661⟩, st661⟩ := callSS X639 hx (y := (⟨"com/example/keep_to_layer/keeptolayer/model/ClassNamesComparePinLaw", "str", "(III)Ljava/lang/String;"⟩ : MethodName)) hown (mvT hZ (hw _ (List.mem_of_getElem? (i := 9) rfl))) (mvT hZ (hw _ (List.mem_of_getElem? (i := 10) rfl))) (mvT hZ (hw _ (List.mem_of_getElem? (i := 3) rfl))) (mvT hZ (hw _ (List.mem_of_getElem? (i := 11) rfl))) (by decide) (backOfSH (s := s) (vm0 := s.vm) (W := 0) (rm_str l Z a0 hw [] ln r_636 r_637 zc h0 hEL OL st_COMPACT_STRINGS st__assertionsDisabled st_HI_BYTE_SHIFT st_LO_BYTE_SHIFT (by first | assumption | decide) pr636_0 pr637_0) hZ (hw _ (List.mem_of_getElem? (i := 11) rfl)) (hw _ (List.mem_of_getElem? (i := 3) rfl)) (by decide) (by decide) hEL R0.1) (g := (mkF m 74 #[.val (.int p1), .val (.int p2), .val (.int p3), .val (.int p4), .val (.int p5), .val (.int p6), .val (.int ln), .val (.int rn), .val (.int r_636), .val (.int r_637), .val (.int r_639), .val (.int r_637), .unset, .unset, .unset, .unset] [(.int r_637), (.int r_636), (.int ln)])) rfl (by rw [hml]; rfl) (argsL := [(.int ln), (.int r_636), (.int r_637)]) (rest := []) (lenOf pd_610 rfl) rfl (by show 2 * 0 + _ ≤ _; exact Nat.le_of_eq rfl) (hb hby at_74) (fun _ _ => ⟨rfl, K639, (by decide : 0 + 6 ≤ _), (by decide : 0 + 20 ≤ _)⟩)
      dsimp only [Pt.U, Pt.locs, Pt.cells, Pt.slots] at X661 l661 y661 z661 st661 hQ661 hs661 hg661 ch661
      subst l661 y661 z661
      obtain ⟨x_661, t_661, cs_661, rfl, N661q, K661, f661_0, pr661_0⟩ := hQ661
      have N661 := Fr.app N639 N661q
      obtain ⟨Y661, hS661, hZ661, hown661⟩ := rebS hS0 (n1 := h0.size) (by omega) X661 hs661 (by have := hg661; first | exact this | (rw [← K639]; exact this)) hZ hown
      have z661 : h0.size ≤ T661.heap.size := K661.1
      have R661 : CHr Z consts_1 s.vm h0 T661.vm T661.heap := R0.trans ch661
      have lt661_0 : @LT.lt Nat _ x_661 T661.heap.size := f661_0.lt
      have ltv661_0 : @LT.lt Nat _ t_661 T661.heap.size := f661_0.ltv
      refine own_Go.tr st661 ?_
      show own_Go _ _ _ _ (T661.setTop (mkF m 77 #[.val (.int p1), .val (.int p2), .val (.int p3), .val (.int p4), .val (.int p5), .val (.int p6), .val (.int ln), .val (.int rn), .val (.int r_636), .val (.int r_637), .val (.int r_639), .val (.int r_637), .unset, .unset, .unset, .unset] [(.ref x_661)]))
      refine own_Go.st (fun _ k => XS.astore Y661.here hx rfl (hb hby at_77) rfl rfl (l' := #[.val (.int p1), .val (.int p2), .val (.int p3), .val (.int p4), .val (.int p5), .val (.int p6), .val (.int ln), .val (.int rn), .val (.int r_636), .val (.int r_637), .val (.int r_639), .val (.int r_637), .val (.ref x_661), .unset, .unset, .unset]) rfl k) ?_
      show own_Go _ _ _ _ (T661.setTop (mkF m 79 #[.val (.int p1), .val (.int p2), .val (.int p3), .val (.int p4), .val (.int p5), .val (.int p6), .val (.int ln), .val (.int rn), .val (.int r_636), .val (.int r_637), .val (.int r_639), .val (.int r_637), .val (.ref x_661), .unset, .unset, .unset] []))
      refine own_Go.st (fun _ k => XS.iload Y661.here hx rfl (hb hby at_79) rfl k) ?_
      show own_Go _ _ _ _ (T661.setTop (mkF m 81 #[.val (.int p1), .val (.int p2), .val (.int p3), .val (.int p4), .val (.int p5), .val (.int p6), .val (.int ln), .val (.int rn), .val (.int r_636), .val (.int r_637), .val (.int r_639), .val (.int r_637), .val (.ref x_661), .unset, .unset, .unset] [(.int rn)]))
      refine own_Go.st (fun _ k => XS.iload Y661.here hx rfl (hb hby at_81) rfl k) ?_
      show own_Go _ _ _ _ (T661.setTop (mkF m 83 #[.val (.int p1), .val (.int p2), .val (.int p3), .val (.int p4), .val (.int p5), .val (.int p6), .val (.int ln), .val (.int rn), .val (.int r_636), .val (.int r_637), .val (.int r_639), .val (.int r_637), .val (.ref x_661), .unset, .unset, .unset] [(.int r_639), (.int rn)]))
      refine own_Go.st (fun _ k => XS.iload Y661.here hx rfl (hb hby at_83) rfl k) ?_
      show own_Go _ _ _ _ (T661.setTop (mkF m 85 #[.val (.int p1), .val (.int p2), .val (.int p3), .val (.int p4), .val (.int p5), .val (.int p6), .val (.int ln), .val (.int rn), .val (.int r_636), .val (.int r_637), .val (.int r_639), .val (.int r_637), .val (.ref x_661), .unset, .unset, .unset] [(.int r_637), (.int r_639), (.int rn)]))
      have f663 : Old Z Z.heap.size T661.heap := OL.keep K661 all0
      obtain ⟨_, _, ⟨T662, L662, k662, n662⟩, -, X662, hs662, hg662, ⟨Lc662, hQ662, l662, y662, z662, ch662⟩, st662⟩ := callSS Y661 hx (y := (⟨"com/example/keep_to_layer/keeptolayer/model/ClassNamesComparePinLaw", "str", "(III)Ljava/lang/String;"⟩ : MethodName)) hown661 (mvT hZ661 (hw _ (List.mem_of_getElem? (i := 9) rfl))) (mvT hZ661 (hw _ (List.mem_of_getElem? (i := 10) rfl))) (mvT hZ661 (hw _ (List.mem_of_getElem? (i := 3) rfl))) (mvT hZ661 (hw _ (List.mem_of_getElem? (i := 11) rfl))) (by decide) (backOfSH (s := s) (vm0 := T661.vm) (W := 0) (rm_str l Z a0 hw [] rn r_639 r_637 zc T661.heap hEL f663 st_COMPACT_STRINGS st__assertionsDisabled st_HI_BYTE_SHIFT st_LO_BYTE_SHIFT (by first | assumption | decide) pr639_0 pr637_0) hZ661 (hw _ (List.mem_of_getElem? (i := 11) rfl)) (hw _ (List.mem_of_getElem? (i := 3) rfl)) (by decide) (by decide) hEL R661.1) (g := (mkF m 85 #[.val (.int p1), .val (.int p2), .val (.int p3), .val (.int p4), .val (.int p5), .val (.int p6), .val (.int ln), .val (.int rn), .val (.int r_636), .val (.int r_637), .val (.int r_639), .val (.int r_637), .val (.ref x_661), .unset, .unset, .unset] [(.int r_637), (.int r_639), (.int rn)])) rfl (by rw [hml]; rfl) (argsL := [(.int rn), (.int r_639), (.int r_637)]) (rest := []) (lenOf pd_610 rfl) rfl (by show 2 * 0 + _ ≤ _; exact Nat.le_of_eq rfl) (hb hby at_85) (fun _ _ => ⟨rfl, rfl, (by decide : 6 + 6 ≤ _), (by decide : 20 + 20 ≤ _)⟩)
      dsimp only [Pt.U, Pt.locs, Pt.cells, Pt.slots] at X662 l662 y662 z662 st662 hQ662 hs662 hg662 ch662
      subst l662 y662 z662
      obtain ⟨x_662, t_662, cs_662, rfl, N662q, K662, f662_0, pr662_0⟩ := hQ662
      have N662 := Fr.app N661 N662q
      obtain ⟨Y662, hS662, hZ662, hown662⟩ := rebS hS661 (n1 := T661.heap.size) (by omega) X662 hs662 (by have := hg662; first | exact this | (rw [← rfl]; exact this)) hZ661 hown661
      have z662 : T661.heap.size ≤ T662.heap.size := K662.1
      have R662 : CHr Z consts_1 s.vm h0 T662.vm T662.heap := R661.trans ch662
      have lt662_0 : @LT.lt Nat _ x_662 T662.heap.size := f662_0.lt
      have ltv662_0 : @LT.lt Nat _ t_662 T662.heap.size := f662_0.ltv
      refine own_Go.tr st662 ?_
      show own_Go _ _ _ _ (T662.setTop (mkF m 88 #[.val (.int p1), .val (.int p2), .val (.int p3), .val (.int p4), .val (.int p5), .val (.int p6), .val (.int ln), .val (.int rn), .val (.int r_636), .val (.int r_637), .val (.int r_639), .val (.int r_637), .val (.ref x_661), .unset, .unset, .unset] [(.ref x_662)]))
      refine own_Go.st (fun _ k => XS.astore Y662.here hx rfl (hb hby at_88) rfl rfl (l' := #[.val (.int p1), .val (.int p2), .val (.int p3), .val (.int p4), .val (.int p5), .val (.int p6), .val (.int ln), .val (.int rn), .val (.int r_636), .val (.int r_637), .val (.int r_639), .val (.int r_637), .val (.ref x_661), .val (.ref x_662), .unset, .unset]) rfl k) ?_
      show own_Go _ _ _ _ (T662.setTop (mkF m 90 #[.val (.int p1), .val (.int p2), .val (.int p3), .val (.int p4), .val (.int p5), .val (.int p6), .val (.int ln), .val (.int rn), .val (.int r_636), .val (.int r_637), .val (.int r_639), .val (.int r_637), .val (.ref x_661), .val (.ref x_662), .unset, .unset] []))
      refine own_Go.st (fun _ k => XS.aload Y662.here hx rfl (hb hby at_90) rfl rfl k) ?_
      show own_Go _ _ _ _ (T662.setTop (mkF m 92 #[.val (.int p1), .val (.int p2), .val (.int p3), .val (.int p4), .val (.int p5), .val (.int p6), .val (.int ln), .val (.int rn), .val (.int r_636), .val (.int r_637), .val (.int r_639), .val (.int r_637), .val (.ref x_661), .val (.ref x_662), .unset, .unset] [(.ref x_661)]))
      refine own_Go.st (fun _ k => XS.aload Y662.here hx rfl (hb hby at_92) rfl rfl k) ?_
      show own_Go _ _ _ _ (T662.setTop (mkF m 94 #[.val (.int p1), .val (.int p2), .val (.int p3), .val (.int p4), .val (.int p5), .val (.int p6), .val (.int ln), .val (.int rn), .val (.int r_636), .val (.int r_637), .val (.int r_639), .val (.int r_637), .val (.ref x_661), .val (.ref x_662), .unset, .unset] [(.ref x_662), (.ref x_661)]))
      have f665 : own_Str Z T662.heap x_661 t_661 cs_661 := f661_0.keep K662 nin0 nin0
      have f666 : Old Z Z.heap.size T662.heap := f663.keep K662 all0
      obtain ⟨_, _, ⟨T664, L664, k664, n664⟩, -, X664, ⟨Lc664, hQ664, l664, y664, z664⟩, st664⟩ := Jvm.LawKit.callS Y662 hx (y := (⟨"com/example/keep_to_layer/keeptolayer/model/ClassNames", "compare", "(Ljava/lang/String;Ljava/lang/String;)I"⟩ : MethodName)) hown662 (mvT hZ662 (hw _ (List.mem_of_getElem? (i := 34) rfl))) (mvT hZ662 (hw _ (List.mem_of_getElem? (i := 35) rfl))) (mvT hZ662 (hw _ (List.mem_of_getElem? (i := 36) rfl))) (mvT hZ662 (hw _ (List.mem_of_getElem? (i := 37) rfl))) (by decide) (backOf (W := 0) (rm_compare l Z a0 hw [] x_661 x_662 (own_pts ln r_636 r_637) (own_pts rn r_639 r_637) t_661 t_662 cs_661 cs_662 zc fm T662.heap f666 f665 f662_0 st_COMPACT_STRINGS st_SIOOBE_FORMATTER st__assertionsDisabled st_HI_BYTE_SHIFT st_LO_BYTE_SHIFT pr661_0 pr662_0 (own_ptsV pr636_0 pr637_0) (own_ptsV pr639_0 pr637_0) (by first | assumption | decide) (by first | assumption | decide)) hZ662 (hw _ (List.mem_of_getElem? (i := 37) rfl)) (hw _ (List.mem_of_getElem? (i := 36) rfl)) (by decide) (by decide)) (g := (mkF m 94 #[.val (.int p1), .val (.int p2), .val (.int p3), .val (.int p4), .val (.int p5), .val (.int p6), .val (.int ln), .val (.int rn), .val (.int r_636), .val (.int r_637), .val (.int r_639), .val (.int r_637), .val (.ref x_661), .val (.ref x_662), .unset, .unset] [(.ref x_662), (.ref x_661)])) rfl (by rw [hml]; rfl) (argsL := [(.ref x_661), (.ref x_662)]) (rest := []) (lenOf pd_611 rfl) rfl (by show 2 * 0 + _ ≤ _; exact Nat.le_of_eq rfl) (hb hby at_94) (fun _ _ => ⟨rfl, rfl, (by decide : 12 + 0 ≤ _), (by decide : 40 + 0 ≤ _)⟩)
      dsimp only [Pt.U, Pt.locs, Pt.cells, Pt.slots] at X664 l664 y664 z664 st664 hQ664
      subst l664 y664 z664
      obtain ⟨rfl, N664q, K664⟩ := hQ664
      have N664 := Fr.app N662 N664q
      refine own_Go.st st664 ?_
      show own_Go _ _ _ _ (T664.setTop (mkF m 97 #[.val (.int p1), .val (.int p2), .val (.int p3), .val (.int p4), .val (.int p5), .val (.int p6), .val (.int ln), .val (.int rn), .val (.int r_636), .val (.int r_637), .val (.int r_639), .val (.int r_637), .val (.ref x_661), .val (.ref x_662), .unset, .unset] [(.int (own_cmpL (own_pts ln r_636 r_637) (own_pts rn r_639 r_637)))]))
      refine own_Go.st (fun _ k => XS.istore X664.here hx rfl (hb hby at_97) rfl (l' := #[.val (.int p1), .val (.int p2), .val (.int p3), .val (.int p4), .val (.int p5), .val (.int p6), .val (.int ln), .val (.int rn), .val (.int r_636), .val (.int r_637), .val (.int r_639), .val (.int r_637), .val (.ref x_661), .val (.ref x_662), .val (.int (own_cmpL (own_pts ln r_636 r_637) (own_pts rn r_639 r_637))), .unset]) rfl k) ?_
      show own_Go _ _ _ _ (T664.setTop (mkF m 99 #[.val (.int p1), .val (.int p2), .val (.int p3), .val (.int p4), .val (.int p5), .val (.int p6), .val (.int ln), .val (.int rn), .val (.int r_636), .val (.int r_637), .val (.int r_639), .val (.int r_637), .val (.ref x_661), .val (.ref x_662), .val (.int (own_cmpL (own_pts ln r_636 r_637) (own_pts rn r_639 r_637))), .unset] []))
      refine own_Go.st (fun _ k => XS.iload X664.here hx rfl (hb hby at_99) rfl k) ?_
      show own_Go _ _ _ _ (T664.setTop (mkF m 101 #[.val (.int p1), .val (.int p2), .val (.int p3), .val (.int p4), .val (.int p5), .val (.int p6), .val (.int ln), .val (.int rn), .val (.int r_636), .val (.int r_637), .val (.int r_639), .val (.int r_637), .val (.ref x_661), .val (.ref x_662), .val (.int (own_cmpL (own_pts ln r_636 r_637) (own_pts rn r_639 r_637))), .unset] [(.int ln)]))
      refine own_Go.st (fun _ k => XS.iload X664.here hx rfl (hb hby at_101) rfl k) ?_
      show own_Go _ _ _ _ (T664.setTop (mkF m 103 #[.val (.int p1), .val (.int p2), .val (.int p3), .val (.int p4), .val (.int p5), .val (.int p6), .val (.int ln), .val (.int rn), .val (.int r_636), .val (.int r_637), .val (.int r_639), .val (.int r_637), .val (.ref x_661), .val (.ref x_662), .val (.int (own_cmpL (own_pts ln r_636 r_637) (own_pts rn r_639 r_637))), .unset] [(.int r_636), (.int ln)]))
      refine own_Go.st (fun _ k => XS.iload X664.here hx rfl (hb hby at_103) rfl k) ?_
      show own_Go _ _ _ _ (T664.setTop (mkF m 105 #[.val (.int p1), .val (.int p2), .val (.int p3), .val (.int p4), .val (.int p5), .val (.int p6), .val (.int ln), .val (.int rn), .val (.int r_636), .val (.int r_637), .val (.int r_639), .val (.int r_637), .val (.ref x_661), .val (.ref x_662), .val (.int (own_cmpL (own_pts ln r_636 r_637) (own_pts rn r_639 r_637))), .unset] [(.int r_637), (.int r_636), (.int ln)]))
      refine own_Go.st (fun _ k => XS.iload X664.here hx rfl (hb hby at_105) rfl k) ?_
      show own_Go _ _ _ _ (T664.setTop (mkF m 107 #[.val (.int p1), .val (.int p2), .val (.int p3), .val (.int p4), .val (.int p5), .val (.int p6), .val (.int ln), .val (.int rn), .val (.int r_636), .val (.int r_637), .val (.int r_639), .val (.int r_637), .val (.ref x_661), .val (.ref x_662), .val (.int (own_cmpL (own_pts ln r_636 r_637) (own_pts rn r_639 r_637))), .unset] [(.int rn), (.int r_637), (.int r_636), (.int ln)]))
      refine own_Go.st (fun _ k => XS.iload X664.here hx rfl (hb hby at_107) rfl k) ?_
      show own_Go _ _ _ _ (T664.setTop (mkF m 109 #[.val (.int p1), .val (.int p2), .val (.int p3), .val (.int p4), .val (.int p5), .val (.int p6), .val (.int ln), .val (.int rn), .val (.int r_636), .val (.int r_637), .val (.int r_639), .val (.int r_637), .val (.ref x_661), .val (.ref x_662), .val (.int (own_cmpL (own_pts ln r_636 r_637) (own_pts rn r_639 r_637))), .unset] [(.int r_639), (.int rn), (.int r_637), (.int r_636), (.int ln)]))
      refine own_Go.st (fun _ k => XS.iload X664.here hx rfl (hb hby at_109) rfl k) ?_
      show own_Go _ _ _ _ (T664.setTop (mkF m 111 #[.val (.int p1), .val (.int p2), .val (.int p3), .val (.int p4), .val (.int p5), .val (.int p6), .val (.int ln), .val (.int rn), .val (.int r_636), .val (.int r_637), .val (.int r_639), .val (.int r_637), .val (.ref x_661), .val (.ref x_662), .val (.int (own_cmpL (own_pts ln r_636 r_637) (own_pts rn r_639 r_637))), .unset] [(.int r_637), (.int r_639), (.int rn), (.int r_637), (.int r_636), (.int ln)]))
      obtain ⟨_, _, ⟨T667, L667, k667, n667⟩, -, X667, ⟨Lc667, hQ667, l667, y667, z667⟩, st667⟩ := Jvm.LawKit.callS X664 hx (y := (⟨"com/example/keep_to_layer/keeptolayer/model/ClassNamesComparePinLaw", "ref", "(IIIIII)I"⟩ : MethodName)) hown662 (mvT hZ662 (hw _ (List.mem_of_getElem? (i := 53) rfl))) (mvT hZ662 (hw _ (List.mem_of_getElem? (i := 54) rfl))) (mvT hZ662 (hw _ (List.mem_of_getElem? (i := 3) rfl))) (mvT hZ662 (hw _ (List.mem_of_getElem? (i := 55) rfl))) (by decide) (backOf (W := 0) (rm_ref l Z a0 hw [] ln r_636 r_637 rn r_639 r_637 T662.heap f666 hln hrn) hZ662 (hw _ (List.mem_of_getElem? (i := 55) rfl)) (hw _ (List.mem_of_getElem? (i := 3) rfl)) (by decide) (by decide)) (g := (mkF m 111 #[.val (.int p1), .val (.int p2), .val (.int p3), .val (.int p4), .val (.int p5), .val (.int p6), .val (.int ln), .val (.int rn), .val (.int r_636), .val (.int r_637), .val (.int r_639), .val (.int r_637), .val (.ref x_661), .val (.ref x_662), .val (.int (own_cmpL (own_pts ln r_636 r_637) (own_pts rn r_639 r_637))), .unset] [(.int r_637), (.int r_639), (.int rn), (.int r_637), (.int r_636), (.int ln)])) rfl (by rw [hml]; rfl) (argsL := [(.int ln), (.int r_636), (.int r_637), (.int rn), (.int r_639), (.int r_637)]) (rest := []) (lenOf pd_612 rfl) rfl (by show 2 * 0 + _ ≤ _; exact Nat.le_of_eq rfl) (hb hby at_111) (fun _ _ => ⟨rfl, K664, (by decide : 12 + 0 ≤ _), (by decide : 40 + 0 ≤ _)⟩)
      dsimp only [Pt.U, Pt.locs, Pt.cells, Pt.slots] at X667 l667 y667 z667 st667 hQ667
      subst l667 y667 z667
      obtain ⟨rfl, N667q, K667⟩ := hQ667
      have N667 := Fr.app N664 N667q
      refine own_Go.st st667 ?_
      show own_Go _ _ _ _ (T667.setTop (mkF m 114 #[.val (.int p1), .val (.int p2), .val (.int p3), .val (.int p4), .val (.int p5), .val (.int p6), .val (.int ln), .val (.int rn), .val (.int r_636), .val (.int r_637), .val (.int r_639), .val (.int r_637), .val (.ref x_661), .val (.ref x_662), .val (.int (own_cmpL (own_pts ln r_636 r_637) (own_pts rn r_639 r_637))), .unset] [(.int (own_cmpL (own_pts ln r_636 r_637) (own_pts rn r_639 r_637)))]))
      refine own_Go.st (fun _ k => XS.istore X667.here hx rfl (hb hby at_114) rfl (l' := #[.val (.int p1), .val (.int p2), .val (.int p3), .val (.int p4), .val (.int p5), .val (.int p6), .val (.int ln), .val (.int rn), .val (.int r_636), .val (.int r_637), .val (.int r_639), .val (.int r_637), .val (.ref x_661), .val (.ref x_662), .val (.int (own_cmpL (own_pts ln r_636 r_637) (own_pts rn r_639 r_637))), .val (.int (own_cmpL (own_pts ln r_636 r_637) (own_pts rn r_639 r_637)))]) rfl k) ?_
      show own_Go _ _ _ _ (T667.setTop (mkF m 116 #[.val (.int p1), .val (.int p2), .val (.int p3), .val (.int p4), .val (.int p5), .val (.int p6), .val (.int ln), .val (.int rn), .val (.int r_636), .val (.int r_637), .val (.int r_639), .val (.int r_637), .val (.ref x_661), .val (.ref x_662), .val (.int (own_cmpL (own_pts ln r_636 r_637) (own_pts rn r_639 r_637))), .val (.int (own_cmpL (own_pts ln r_636 r_637) (own_pts rn r_639 r_637)))] []))
      refine own_Go.st (fun _ k => XS.iload X667.here hx rfl (hb hby at_116) rfl k) ?_
      show own_Go _ _ _ _ (T667.setTop (mkF m 118 #[.val (.int p1), .val (.int p2), .val (.int p3), .val (.int p4), .val (.int p5), .val (.int p6), .val (.int ln), .val (.int rn), .val (.int r_636), .val (.int r_637), .val (.int r_639), .val (.int r_637), .val (.ref x_661), .val (.ref x_662), .val (.int (own_cmpL (own_pts ln r_636 r_637) (own_pts rn r_639 r_637))), .val (.int (own_cmpL (own_pts ln r_636 r_637) (own_pts rn r_639 r_637)))] [(.int (own_cmpL (own_pts ln r_636 r_637) (own_pts rn r_639 r_637)))]))
      by_cases h118 : (own_cmpL (own_pts ln r_636 r_637) (own_pts rn r_639 r_637)) < (0 : Int32)
      ·
        refine own_Go.st (fun _ k => XS.ifNo X667.here hx rfl (hb hby at_118) rfl ((if0 _ _).trans (tlt h118).2.1) k) ?_
        show own_Go _ _ _ _ (T667.setTop (mkF m 121 #[.val (.int p1), .val (.int p2), .val (.int p3), .val (.int p4), .val (.int p5), .val (.int p6), .val (.int ln), .val (.int rn), .val (.int r_636), .val (.int r_637), .val (.int r_639), .val (.int r_637), .val (.ref x_661), .val (.ref x_662), .val (.int (own_cmpL (own_pts ln r_636 r_637) (own_pts rn r_639 r_637))), .val (.int (own_cmpL (own_pts ln r_636 r_637) (own_pts rn r_639 r_637)))] []))
        refine own_Go.st (fun _ k => XS.iload X667.here hx rfl (hb hby at_121) rfl k) ?_
        show own_Go _ _ _ _ (T667.setTop (mkF m 123 #[.val (.int p1), .val (.int p2), .val (.int p3), .val (.int p4), .val (.int p5), .val (.int p6), .val (.int ln), .val (.int rn), .val (.int r_636), .val (.int r_637), .val (.int r_639), .val (.int r_637), .val (.ref x_661), .val (.ref x_662), .val (.int (own_cmpL (own_pts ln r_636 r_637) (own_pts rn r_639 r_637))), .val (.int (own_cmpL (own_pts ln r_636 r_637) (own_pts rn r_639 r_637)))] [(.int (own_cmpL (own_pts ln r_636 r_637) (own_pts rn r_639 r_637)))]))
        have hc668 : (own_cmpL (own_pts ln r_636 r_637) (own_pts rn r_639 r_637)) < (0 : Int32) := h118
        refine own_Go.st (fun _ k => XS.ifNo X667.here hx rfl (hb hby at_123) rfl ((if0 _ _).trans (tlt hc668).2.1) k) ?_
        show own_Go _ _ _ _ (T667.setTop (mkF m 126 #[.val (.int p1), .val (.int p2), .val (.int p3), .val (.int p4), .val (.int p5), .val (.int p6), .val (.int ln), .val (.int rn), .val (.int r_636), .val (.int r_637), .val (.int r_639), .val (.int r_637), .val (.ref x_661), .val (.ref x_662), .val (.int (own_cmpL (own_pts ln r_636 r_637) (own_pts rn r_639 r_637))), .val (.int (own_cmpL (own_pts ln r_636 r_637) (own_pts rn r_639 r_637)))] []))
        refine own_Go.st (fun _ k => XS.iconst X667.here hx rfl (hb hby at_126) k) ?_
        show own_Go _ _ _ _ (T667.setTop (mkF m 127 #[.val (.int p1), .val (.int p2), .val (.int p3), .val (.int p4), .val (.int p5), .val (.int p6), .val (.int ln), .val (.int rn), .val (.int r_636), .val (.int r_637), .val (.int r_639), .val (.int r_637), .val (.ref x_661), .val (.ref x_662), .val (.int (own_cmpL (own_pts ln r_636 r_637) (own_pts rn r_639 r_637))), .val (.int (own_cmpL (own_pts ln r_636 r_637) (own_pts rn r_639 r_637)))] [(.int (1 : Int32))]))
        refine own_Go.st (fun _ k => XS.goto X667.here hx rfl (pc0 := 127) (pc' := 131) rfl (hb hby at_127) (by decide) (by decide) k) ?_
        show own_Go _ _ _ _ (T667.setTop (mkF m 131 #[.val (.int p1), .val (.int p2), .val (.int p3), .val (.int p4), .val (.int p5), .val (.int p6), .val (.int ln), .val (.int rn), .val (.int r_636), .val (.int r_637), .val (.int r_639), .val (.int r_637), .val (.ref x_661), .val (.ref x_662), .val (.int (own_cmpL (own_pts ln r_636 r_637) (own_pts rn r_639 r_637))), .val (.int (own_cmpL (own_pts ln r_636 r_637) (own_pts rn r_639 r_637)))] [(.int (1 : Int32))]))
        obtain ⟨fs669, hr669, hrun669, hend669, hret669⟩ := X667.leaveW hS662 (by rw [K667]; exact (by omega)) (v := some (.int (nar .boolean (1 : Int32)))) (fun h => by rw [Bd.returns] at h; cases h)
        have K670 : Keep h0 T661.heap [] := (Keep.refl h0 []).trans K661 all0
        have K671 : Keep h0 T662.heap [] := K670.trans K662 all0
        subst hPP
        refine ⟨_, _, retN X667 hx (t := .boolean) Bd.returns (by simp) (hb hby at_131) hr669, hrun669, hend669, _, _, rfl, ?_, ?_, hret669.1, hret669.2.1, hret669.2.2.1, hret669.2.2.2.mono (by decide) (by decide)⟩
        · show Q_law Z _ _ _ _ _ _ _ _ h0 _ T667.heap _
          rw [K667]
          exact ⟨rfl, N667, K671⟩
        · have hfin := R662.trans (CHv.at X667 hZ662 hEL R662.1)
          rw [← hh] at hfin
          show CHr Z consts_1 s.vm s.heap T667.vm T667.heap
          rw [K667]
          exact hfin
      ·
        refine own_Go.st (fun _ k => XS.ifYes X667.here hx rfl (pc0 := 118) (pc' := 132) rfl (hb hby at_118) rfl ((if0 _ _).trans (flt h118).2.1) (by decide) (by decide) k) ?_
        show own_Go _ _ _ _ (T667.setTop (mkF m 132 #[.val (.int p1), .val (.int p2), .val (.int p3), .val (.int p4), .val (.int p5), .val (.int p6), .val (.int ln), .val (.int rn), .val (.int r_636), .val (.int r_637), .val (.int r_639), .val (.int r_637), .val (.ref x_661), .val (.ref x_662), .val (.int (own_cmpL (own_pts ln r_636 r_637) (own_pts rn r_639 r_637))), .val (.int (own_cmpL (own_pts ln r_636 r_637) (own_pts rn r_639 r_637)))] []))
        refine own_Go.st (fun _ k => XS.iload X667.here hx rfl (hb hby at_132) rfl k) ?_
        show own_Go _ _ _ _ (T667.setTop (mkF m 134 #[.val (.int p1), .val (.int p2), .val (.int p3), .val (.int p4), .val (.int p5), .val (.int p6), .val (.int ln), .val (.int rn), .val (.int r_636), .val (.int r_637), .val (.int r_639), .val (.int r_637), .val (.ref x_661), .val (.ref x_662), .val (.int (own_cmpL (own_pts ln r_636 r_637) (own_pts rn r_639 r_637))), .val (.int (own_cmpL (own_pts ln r_636 r_637) (own_pts rn r_639 r_637)))] [(.int (own_cmpL (own_pts ln r_636 r_637) (own_pts rn r_639 r_637)))]))
        by_cases h134 : (own_cmpL (own_pts ln r_636 r_637) (own_pts rn r_639 r_637)) = (0 : Int32)
        ·
          refine own_Go.st (fun _ k => XS.ifNo X667.here hx rfl (hb hby at_134) rfl ((if0 _ _).trans (teq h134).2) k) ?_
          show own_Go _ _ _ _ (T667.setTop (mkF m 137 #[.val (.int p1), .val (.int p2), .val (.int p3), .val (.int p4), .val (.int p5), .val (.int p6), .val (.int ln), .val (.int rn), .val (.int r_636), .val (.int r_637), .val (.int r_639), .val (.int r_637), .val (.ref x_661), .val (.ref x_662), .val (.int (own_cmpL (own_pts ln r_636 r_637) (own_pts rn r_639 r_637))), .val (.int (own_cmpL (own_pts ln r_636 r_637) (own_pts rn r_639 r_637)))] []))
          refine own_Go.st (fun _ k => XS.iload X667.here hx rfl (hb hby at_137) rfl k) ?_
          show own_Go _ _ _ _ (T667.setTop (mkF m 139 #[.val (.int p1), .val (.int p2), .val (.int p3), .val (.int p4), .val (.int p5), .val (.int p6), .val (.int ln), .val (.int rn), .val (.int r_636), .val (.int r_637), .val (.int r_639), .val (.int r_637), .val (.ref x_661), .val (.ref x_662), .val (.int (own_cmpL (own_pts ln r_636 r_637) (own_pts rn r_639 r_637))), .val (.int (own_cmpL (own_pts ln r_636 r_637) (own_pts rn r_639 r_637)))] [(.int (own_cmpL (own_pts ln r_636 r_637) (own_pts rn r_639 r_637)))]))
          have hc672 : (own_cmpL (own_pts ln r_636 r_637) (own_pts rn r_639 r_637)) = (0 : Int32) := h134
          refine own_Go.st (fun _ k => XS.ifNo X667.here hx rfl (hb hby at_139) rfl ((if0 _ _).trans (teq hc672).2) k) ?_
          show own_Go _ _ _ _ (T667.setTop (mkF m 142 #[.val (.int p1), .val (.int p2), .val (.int p3), .val (.int p4), .val (.int p5), .val (.int p6), .val (.int ln), .val (.int rn), .val (.int r_636), .val (.int r_637), .val (.int r_639), .val (.int r_637), .val (.ref x_661), .val (.ref x_662), .val (.int (own_cmpL (own_pts ln r_636 r_637) (own_pts rn r_639 r_637))), .val (.int (own_cmpL (own_pts ln r_636 r_637) (own_pts rn r_639 r_637)))] []))
          refine own_Go.st (fun _ k => XS.iconst X667.here hx rfl (hb hby at_142) k) ?_
          show own_Go _ _ _ _ (T667.setTop (mkF m 143 #[.val (.int p1), .val (.int p2), .val (.int p3), .val (.int p4), .val (.int p5), .val (.int p6), .val (.int ln), .val (.int rn), .val (.int r_636), .val (.int r_637), .val (.int r_639), .val (.int r_637), .val (.ref x_661), .val (.ref x_662), .val (.int (own_cmpL (own_pts ln r_636 r_637) (own_pts rn r_639 r_637))), .val (.int (own_cmpL (own_pts ln r_636 r_637) (own_pts rn r_639 r_637)))] [(.int (1 : Int32))]))
          refine own_Go.st (fun _ k => XS.goto X667.here hx rfl (pc0 := 143) (pc' := 147) rfl (hb hby at_143) (by decide) (by decide) k) ?_
          show own_Go _ _ _ _ (T667.setTop (mkF m 147 #[.val (.int p1), .val (.int p2), .val (.int p3), .val (.int p4), .val (.int p5), .val (.int p6), .val (.int ln), .val (.int rn), .val (.int r_636), .val (.int r_637), .val (.int r_639), .val (.int r_637), .val (.ref x_661), .val (.ref x_662), .val (.int (own_cmpL (own_pts ln r_636 r_637) (own_pts rn r_639 r_637))), .val (.int (own_cmpL (own_pts ln r_636 r_637) (own_pts rn r_639 r_637)))] [(.int (1 : Int32))]))
          obtain ⟨fs673, hr673, hrun673, hend673, hret673⟩ := X667.leaveW hS662 (by rw [K667]; exact (by omega)) (v := some (.int (nar .boolean (1 : Int32)))) (fun h => by rw [Bd.returns] at h; cases h)
          have K674 : Keep h0 T661.heap [] := (Keep.refl h0 []).trans K661 all0
          have K675 : Keep h0 T662.heap [] := K674.trans K662 all0
          subst hPP
          refine ⟨_, _, retN X667 hx (t := .boolean) Bd.returns (by simp) (hb hby at_147) hr673, hrun673, hend673, _, _, rfl, ?_, ?_, hret673.1, hret673.2.1, hret673.2.2.1, hret673.2.2.2.mono (by decide) (by decide)⟩
          · show Q_law Z _ _ _ _ _ _ _ _ h0 _ T667.heap _
            rw [K667]
            exact ⟨rfl, N667, K675⟩
          · have hfin := R662.trans (CHv.at X667 hZ662 hEL R662.1)
            rw [← hh] at hfin
            show CHr Z consts_1 s.vm s.heap T667.vm T667.heap
            rw [K667]
            exact hfin
        ·
          refine own_Go.st (fun _ k => XS.ifYes X667.here hx rfl (pc0 := 134) (pc' := 148) rfl (hb hby at_134) rfl ((if0 _ _).trans (feq h134).2) (by decide) (by decide) k) ?_
          show own_Go _ _ _ _ (T667.setTop (mkF m 148 #[.val (.int p1), .val (.int p2), .val (.int p3), .val (.int p4), .val (.int p5), .val (.int p6), .val (.int ln), .val (.int rn), .val (.int r_636), .val (.int r_637), .val (.int r_639), .val (.int r_637), .val (.ref x_661), .val (.ref x_662), .val (.int (own_cmpL (own_pts ln r_636 r_637) (own_pts rn r_639 r_637))), .val (.int (own_cmpL (own_pts ln r_636 r_637) (own_pts rn r_639 r_637)))] []))
          refine own_Go.st (fun _ k => XS.iload X667.here hx rfl (hb hby at_148) rfl k) ?_
          show own_Go _ _ _ _ (T667.setTop (mkF m 150 #[.val (.int p1), .val (.int p2), .val (.int p3), .val (.int p4), .val (.int p5), .val (.int p6), .val (.int ln), .val (.int rn), .val (.int r_636), .val (.int r_637), .val (.int r_639), .val (.int r_637), .val (.ref x_661), .val (.ref x_662), .val (.int (own_cmpL (own_pts ln r_636 r_637) (own_pts rn r_639 r_637))), .val (.int (own_cmpL (own_pts ln r_636 r_637) (own_pts rn r_639 r_637)))] [(.int (own_cmpL (own_pts ln r_636 r_637) (own_pts rn r_639 r_637)))]))
          have hc676 : (0 : Int32) < (own_cmpL (own_pts ln r_636 r_637) (own_pts rn r_639 r_637)) := own_pos h118 h134
          refine own_Go.st (fun _ k => XS.ifNo X667.here hx rfl (hb hby at_150) rfl ((if0 _ _).trans (tlt hc676).2.2.2) k) ?_
          show own_Go _ _ _ _ (T667.setTop (mkF m 153 #[.val (.int p1), .val (.int p2), .val (.int p3), .val (.int p4), .val (.int p5), .val (.int p6), .val (.int ln), .val (.int rn), .val (.int r_636), .val (.int r_637), .val (.int r_639), .val (.int r_637), .val (.ref x_661), .val (.ref x_662), .val (.int (own_cmpL (own_pts ln r_636 r_637) (own_pts rn r_639 r_637))), .val (.int (own_cmpL (own_pts ln r_636 r_637) (own_pts rn r_639 r_637)))] []))
          refine own_Go.st (fun _ k => XS.iconst X667.here hx rfl (hb hby at_153) k) ?_
          show own_Go _ _ _ _ (T667.setTop (mkF m 154 #[.val (.int p1), .val (.int p2), .val (.int p3), .val (.int p4), .val (.int p5), .val (.int p6), .val (.int ln), .val (.int rn), .val (.int r_636), .val (.int r_637), .val (.int r_639), .val (.int r_637), .val (.ref x_661), .val (.ref x_662), .val (.int (own_cmpL (own_pts ln r_636 r_637) (own_pts rn r_639 r_637))), .val (.int (own_cmpL (own_pts ln r_636 r_637) (own_pts rn r_639 r_637)))] [(.int (1 : Int32))]))
          refine own_Go.st (fun _ k => XS.goto X667.here hx rfl (pc0 := 154) (pc' := 158) rfl (hb hby at_154) (by decide) (by decide) k) ?_
          show own_Go _ _ _ _ (T667.setTop (mkF m 158 #[.val (.int p1), .val (.int p2), .val (.int p3), .val (.int p4), .val (.int p5), .val (.int p6), .val (.int ln), .val (.int rn), .val (.int r_636), .val (.int r_637), .val (.int r_639), .val (.int r_637), .val (.ref x_661), .val (.ref x_662), .val (.int (own_cmpL (own_pts ln r_636 r_637) (own_pts rn r_639 r_637))), .val (.int (own_cmpL (own_pts ln r_636 r_637) (own_pts rn r_639 r_637)))] [(.int (1 : Int32))]))
          obtain ⟨fs677, hr677, hrun677, hend677, hret677⟩ := X667.leaveW hS662 (by rw [K667]; exact (by omega)) (v := some (.int (nar .boolean (1 : Int32)))) (fun h => by rw [Bd.returns] at h; cases h)
          have K678 : Keep h0 T661.heap [] := (Keep.refl h0 []).trans K661 all0
          have K679 : Keep h0 T662.heap [] := K678.trans K662 all0
          subst hPP
          refine ⟨_, _, retN X667 hx (t := .boolean) Bd.returns (by simp) (hb hby at_158) hr677, hrun677, hend677, _, _, rfl, ?_, ?_, hret677.1, hret677.2.1, hret677.2.2.1, hret677.2.2.2.mono (by decide) (by decide)⟩
          · show Q_law Z _ _ _ _ _ _ _ _ h0 _ T667.heap _
            rw [K667]
            exact ⟨rfl, N667, K679⟩
          · have hfin := R662.trans (CHv.at X667 hZ662 hEL R662.1)
            rw [← hh] at hfin
            show CHr Z consts_1 s.vm s.heap T667.vm T667.heap
            rw [K667]
            exact hfin
  ·
    refine own_Go.st (fun _ k => XS.ifNo X637.here hx rfl (hb hby at_36) rfl ((if0 _ _).trans (feq hc638).1) k) ?_
    show own_Go _ _ _ _ (T637.setTop (mkF m 39 #[.val (.int p1), .val (.int p2), .val (.int p3), .val (.int p4), .val (.int p5), .val (.int p6), .val (.int ln), .val (.int rn), .val (.int r_636), .val (.int r_637), .unset, .unset, .unset, .unset, .unset, .unset] []))
    refine own_Go.st (fun _ k => XS.iload X637.here hx rfl (hb hby at_39) rfl k) ?_
    show own_Go _ _ _ _ (T637.setTop (mkF m 41 #[.val (.int p1), .val (.int p2), .val (.int p3), .val (.int p4), .val (.int p5), .val (.int p6), .val (.int ln), .val (.int rn), .val (.int r_636), .val (.int r_637), .unset, .unset, .unset, .unset, .unset, .unset] [(.int r_636)]))
    refine own_Go.st (fun _ k => XS.goto X637.here hx rfl (pc0 := 41) (pc' := 48) rfl (hb hby at_41) (by decide) (by decide) k) ?_
    show own_Go _ _ _ _ (T637.setTop (mkF m 48 #[.val (.int p1), .val (.int p2), .val (.int p3), .val (.int p4), .val (.int p5), .val (.int p6), .val (.int ln), .val (.int rn), .val (.int r_636), .val (.int r_637), .unset, .unset, .unset, .unset, .unset, .unset] [(.int r_636)]))
    refine own_Go.st (fun _ k => XS.istore X637.here hx rfl (hb hby at_48) rfl (l' := #[.val (.int p1), .val (.int p2), .val (.int p3), .val (.int p4), .val (.int p5), .val (.int p6), .val (.int ln), .val (.int rn), .val (.int r_636), .val (.int r_637), .val (.int r_636), .unset, .unset, .unset, .unset, .unset]) rfl k) ?_
    show own_Go _ _ _ _ (T637.setTop (mkF m 50 #[.val (.int p1), .val (.int p2), .val (.int p3), .val (.int p4), .val (.int p5), .val (.int p6), .val (.int ln), .val (.int rn), .val (.int r_636), .val (.int r_637), .val (.int r_636), .unset, .unset, .unset, .unset, .unset] []))
    refine own_Go.st (fun _ k => XS.iload X637.here hx rfl (hb hby at_50) rfl k) ?_
    show own_Go _ _ _ _ (T637.setTop (mkF m 52 #[.val (.int p1), .val (.int p2), .val (.int p3), .val (.int p4), .val (.int p5), .val (.int p6), .val (.int ln), .val (.int rn), .val (.int r_636), .val (.int r_637), .val (.int r_636), .unset, .unset, .unset, .unset, .unset] [(.int p6)]))
    refine own_Go.st (fun _ k => XS.iconst X637.here hx rfl (hb hby at_52) k) ?_
    show own_Go _ _ _ _ (T637.setTop (mkF m 53 #[.val (.int p1), .val (.int p2), .val (.int p3), .val (.int p4), .val (.int p5), .val (.int p6), .val (.int ln), .val (.int rn), .val (.int r_636), .val (.int r_637), .val (.int r_636), .unset, .unset, .unset, .unset, .unset] [(.int (2 : Int32)), (.int p6)]))
    refine own_Go.st (fun _ k => XS.iand X637.here hx rfl (hb hby at_53) rfl k) ?_
    show own_Go _ _ _ _ (T637.setTop (mkF m 54 #[.val (.int p1), .val (.int p2), .val (.int p3), .val (.int p4), .val (.int p5), .val (.int p6), .val (.int ln), .val (.int rn), .val (.int r_636), .val (.int r_637), .val (.int r_636), .unset, .unset, .unset, .unset, .unset] [(.int (p6 &&& (2 : Int32)))]))
    by_cases hc680 : (p6 &&& (2 : Int32)) = (0 : Int32)
    ·
      refine own_Go.st (fun _ k => XS.ifYes X637.here hx rfl (pc0 := 54) (pc' := 62) rfl (hb hby at_54) rfl ((if0 _ _).trans (teq hc680).1) (by decide) (by decide) k) ?_
      show own_Go _ _ _ _ (T637.setTop (mkF m 62 #[.val (.int p1), .val (.int p2), .val (.int p3), .val (.int p4), .val (.int p5), .val (.int p6), .val (.int ln), .val (.int rn), .val (.int r_636), .val (.int r_637), .val (.int r_636), .unset, .unset, .unset, .unset, .unset] []))
      refine own_Go.st (fun _ k => XS.iloadN X637.here hx rfl (hb hby at_62) rfl k) ?_
      show own_Go _ _ _ _ (T637.setTop (mkF m 63 #[.val (.int p1), .val (.int p2), .val (.int p3), .val (.int p4), .val (.int p5), .val (.int p6), .val (.int ln), .val (.int rn), .val (.int r_636), .val (.int r_637), .val (.int r_636), .unset, .unset, .unset, .unset, .unset] [(.int p4)]))
      obtain ⟨_, _, ⟨T681, L681, k681, n681⟩, -, X681, ⟨Lc681, hQ681, l681, y681, z681⟩, st681⟩ := Jvm.LawKit.callS X637 hx (y := (⟨"com/example/keep_to_layer/keeptolayer/model/ClassNamesComparePinLaw", "cp", "(I)I"⟩ : MethodName)) hown (mvT hZ (hw _ (List.mem_of_getElem? (i := 1) rfl))) (mvT hZ (hw _ (List.mem_of_getElem? (i := 2) rfl))) (mvT hZ (hw _ (List.mem_of_getElem? (i := 3) rfl))) (mvT hZ (hw _ (List.mem_of_getElem? (i := 4) rfl))) (by decide) (backOf (W := 0) (rm_cp l Z a0 hw [] p4 h0 OL ) hZ (hw _ (List.mem_of_getElem? (i := 4) rfl)) (hw _ (List.mem_of_getElem? (i := 3) rfl)) (by decide) (by decide)) (g := (mkF m 63 #[.val (.int p1), .val (.int p2), .val (.int p3), .val (.int p4), .val (.int p5), .val (.int p6), .val (.int ln), .val (.int rn), .val (.int r_636), .val (.int r_637), .val (.int r_636), .unset, .unset, .unset, .unset, .unset] [(.int p4)])) rfl (by rw [hml]; rfl) (argsL := [(.int p4)]) (rest := []) (lenOf pd_109 rfl) rfl (by show 2 * 0 + _ ≤ _; exact Nat.le_of_eq rfl) (hb hby at_63) (fun _ _ => ⟨rfl, K637, (by decide : 0 + 0 ≤ _), (by decide : 0 + 0 ≤ _)⟩)
      dsimp only [Pt.U, Pt.locs, Pt.cells, Pt.slots] at X681 l681 y681 z681 st681 hQ681
      subst l681 y681 z681
      obtain ⟨r_681, rfl, N681q, K681, pr681_0⟩ := hQ681
      have N681 := Fr.app N637 N681q
      refine own_Go.st st681 ?_
      show own_Go _ _ _ _ (T681.setTop (mkF m 66 #[.val (.int p1), .val (.int p2), .val (.int p3), .val (.int p4), .val (.int p5), .val (.int p6), .val (.int ln), .val (.int rn), .val (.int r_636), .val (.int r_637), .val (.int r_636), .unset, .unset, .unset, .unset, .unset] [(.int r_681)]))
      refine own_Go.st (fun _ k => XS.istore X681.here hx rfl (hb hby at_66) rfl (l' := #[.val (.int p1), .val (.int p2), .val (.int p3), .val (.int p4), .val (.int p5), .val (.int p6), .val (.int ln), .val (.int rn), .val (.int r_636), .val (.int r_637), .val (.int r_636), .val (.int r_681), .unset, .unset, .unset, .unset]) rfl k) ?_
      show own_Go _ _ _ _ (T681.setTop (mkF m 68 #[.val (.int p1), .val (.int p2), .val (.int p3), .val (.int p4), .val (.int p5), .val (.int p6), .val (.int ln), .val (.int rn), .val (.int r_636), .val (.int r_637), .val (.int r_636), .val (.int r_681), .unset, .unset, .unset, .unset] []))
      refine own_Go.st (fun _ k => XS.iload X681.here hx rfl (hb hby at_68) rfl k) ?_
      show own_Go _ _ _ _ (T681.setTop (mkF m 70 #[.val (.int p1), .val (.int p2), .val (.int p3), .val (.int p4), .val (.int p5), .val (.int p6), .val (.int ln), .val (.int rn), .val (.int r_636), .val (.int r_637), .val (.int r_636), .val (.int r_681), .unset, .unset, .unset, .unset] [(.int ln)]))
      refine own_Go.st (fun _ k => XS.iload X681.here hx rfl (hb hby at_70) rfl k) ?_
      show own_Go _ _ _ _ (T681.setTop (mkF m 72 #[.val (.int p1), .val (.int p2), .val (.int p3), .val (.int p4), .val (.int p5), .val (.int p6), .val (.int ln), .val (.int rn), .val (.int r_636), .val (.int r_637), .val (.int r_636), .val (.int r_681), .unset, .unset, .unset, .unset] [(.int r_636), (.int ln)]))
      refine own_Go.st (fun _ k => XS.iload X681.here hx rfl (hb hby at_72) rfl k) ?_
      show own_Go _ _ _ _ (T681.setTop (mkF m 74 #[.val (.int p1), .val (.int p2), .val (.int p3), .val (.int p4), .val (.int p5), .val (.int p6), .val (.int ln), .val (.int rn), .val (.int r_636), .val (.int r_637), .val (.int r_636), .val (.int r_681), .unset, .unset, .unset, .unset] [(.int r_637), (.int r_636), (.int ln)]))
      obtain ⟨_, _, ⟨T682, L682, k682, n682⟩, -, X682, hs682, hg682, ⟨Lc682, hQ682, l682, y682, z682, ch682⟩, st682⟩ := callSS X681 hx (y := (⟨"com/example/keep_to_layer/keeptolayer/model/ClassNamesComparePinLaw", "str", "(III)Ljava/lang/String;"⟩ : MethodName)) hown (mvT hZ (hw _ (List.mem_of_getElem? (i := 9) rfl))) (mvT hZ (hw _ (List.mem_of_getElem? (i := 10) rfl))) (mvT hZ (hw _ (List.mem_of_getElem? (i := 3) rfl))) (mvT hZ (hw _ (List.mem_of_getElem? (i := 11) rfl))) (by decide) (backOfSH (s := s) (vm0 := s.vm) (W := 0) (rm_str l Z a0 hw [] ln r_636 r_637 zc h0 hEL OL st_COMPACT_STRINGS st__assertionsDisabled st_HI_BYTE_SHIFT st_LO_BYTE_SHIFT (by first | assumption | decide) pr636_0 pr637_0) hZ (hw _ (List.mem_of_getElem? (i := 11) rfl)) (hw _ (List.mem_of_getElem? (i := 3) rfl)) (by decide) (by decide) hEL R0.1) (g := (mkF m 74 #[.val (.int p1), .val (.int p2), .val (.int p3), .val (.int p4), .val (.int p5), .val (.int p6), .val (.int ln), .val (.int rn), .val (.int r_636), .val (.int r_637), .val (.int r_636), .val (.int r_681), .unset, .unset, .unset, .unset] [(.int r_637), (.int r_636), (.int ln)])) rfl (by rw [hml]; rfl) (argsL := [(.int ln), (.int r_636), (.int r_637)]) (rest := []) (lenOf pd_610 rfl) rfl (by show 2 * 0 + _ ≤ _; exact Nat.le_of_eq rfl) (hb hby at_74) (fun _ _ => ⟨rfl, K681, (by decide : 0 + 6 ≤ _), (by decide : 0 + 20 ≤ _)⟩)
      dsimp only [Pt.U, Pt.locs, Pt.cells, Pt.slots] at X682 l682 y682 z682 st682 hQ682 hs682 hg682 ch682
      subst l682 y682 z682
      obtain ⟨x_682, t_682, cs_682, rfl, N682q, K682, f682_0, pr682_0⟩ := hQ682
      have N682 := Fr.app N681 N682q
      obtain ⟨Y682, hS682, hZ682, hown682⟩ := rebS hS0 (n1 := h0.size) (by omega) X682 hs682 (by have := hg682; first | exact this | (rw [← K681]; exact this)) hZ hown
      have z682 : h0.size ≤ T682.heap.size := K682.1
      have R682 : CHr Z consts_1 s.vm h0 T682.vm T682.heap := R0.trans ch682
      have lt682_0 : @LT.lt Nat _ x_682 T682.heap.size := f682_0.lt
      have ltv682_0 : @LT.lt Nat _ t_682 T682.heap.size := f682_0.ltv
      refine own_Go.tr st682 ?_
      show own_Go _ _ _ _ (T682.setTop (mkF m 77 #[.val (.int p1), .val (.int p2), .val (.int p3), .val (.int p4), .val (.int p5), .val (.int p6), .val (.int ln), .val (.int rn), .val (.int r_636), .val (.int r_637), .val (.int r_636), .val (.int r_681), .unset, .unset, .unset, .unset] [(.ref x_682)]))
      refine own_Go.st (fun _ k => XS.astore Y682.here hx rfl (hb hby at_77) rfl rfl (l' := #[.val (.int p1), .val (.int p2), .val (.int p3), .val (.int p4), .val (.int p5), .val (.int p6), .val (.int ln), .val (.int rn), .val (.int r_636), .val (.int r_637), .val (.int r_636), .val (.int r_681), .val (.ref x_682), .unset, .unset, .unset]) rfl k) ?_
      show own_Go _ _ _ _ (T682.setTop (mkF m 79 #[.val (.int p1), .val (.int p2), .val (.int p3), .val (.int p4), .val (.int p5), .val (.int p6), .val (.int ln), .val (.int rn), .val (.int r_636), .val (.int r_637), .val (.int r_636), .val (.int r_681), .val (.ref x_682), .unset, .unset, .unset] []))
      refine own_Go.st (fun _ k => XS.iload Y682.here hx rfl (hb hby at_79) rfl k) ?_
      show own_Go _ _ _ _ (T682.setTop (mkF m 81 #[.val (.int p1), .val (.int p2), .val (.int p3), .val (.int p4), .val (.int p5), .val (.int p6), .val (.int ln), .val (.int rn), .val (.int r_636), .val (.int r_637), .val (.int r_636), .val (.int r_681), .val (.ref x_682), .unset, .unset, .unset] [(.int rn)]))
      refine own_Go.st (fun _ k => XS.iload Y682.here hx rfl (hb hby at_81) rfl k) ?_
      show own_Go _ _ _ _ (T682.setTop (mkF m 83 #[.val (.int p1), .val (.int p2), .val (.int p3), .val (.int p4), .val (.int p5), .val (.int p6), .val (.int ln), .val (.int rn), .val (.int r_636), .val (.int r_637), .val (.int r_636), .val (.int r_681), .val (.ref x_682), .unset, .unset, .unset] [(.int r_636), (.int rn)]))
      refine own_Go.st (fun _ k => XS.iload Y682.here hx rfl (hb hby at_83) rfl k) ?_
      show own_Go _ _ _ _ (T682.setTop (mkF m 85 #[.val (.int p1), .val (.int p2), .val (.int p3), .val (.int p4), .val (.int p5), .val (.int p6), .val (.int ln), .val (.int rn), .val (.int r_636), .val (.int r_637), .val (.int r_636), .val (.int r_681), .val (.ref x_682), .unset, .unset, .unset] [(.int r_681), (.int r_636), (.int rn)]))
      have f684 : Old Z Z.heap.size T682.heap := OL.keep K682 all0
      obtain ⟨_, _, ⟨T683, L683, k683, n683⟩, -, X683, hs683, hg683, ⟨Lc683, hQ683, l683, y683, z683, ch683⟩, st683⟩ := callSS Y682 hx (y := (⟨"com/example/keep_to_layer/keeptolayer/model/ClassNamesComparePinLaw", "str", "(III)Ljava/lang/String;"⟩ : MethodName)) hown682 (mvT hZ682 (hw _ (List.mem_of_getElem? (i := 9) rfl))) (mvT hZ682 (hw _ (List.mem_of_getElem? (i := 10) rfl))) (mvT hZ682 (hw _ (List.mem_of_getElem? (i := 3) rfl))) (mvT hZ682 (hw _ (List.mem_of_getElem? (i := 11) rfl))) (by decide) (backOfSH (s := s) (vm0 := T682.vm) (W := 0) (rm_str l Z a0 hw [] rn r_636 r_681 zc T682.heap hEL f684 st_COMPACT_STRINGS st__assertionsDisabled st_HI_BYTE_SHIFT st_LO_BYTE_SHIFT (by first | assumption | decide) pr636_0 pr681_0) hZ682 (hw _ (List.mem_of_getElem? (i := 11) rfl)) (hw _ (List.mem_of_getElem? (i := 3) rfl)) (by decide) (by decide) hEL R682.1) (g := (mkF m 85 #[.val (.int p1), .val (.int p2), .val (.int p3), .val (.int p4), .val (.int p5), .val (.int p6), .val (.int ln), .val (.int rn), .val (.int r_636), .val (.int r_637), .val (.int r_636), .val (.int r_681), .val (.ref x_682), .unset, .unset, .unset] [(.int r_681), (.int r_636), (.int rn)])) rfl (by rw [hml]; rfl) (argsL := [(.int rn), (.int r_636), (.int r_681)]) (rest := []) (lenOf pd_610 rfl) rfl (by show 2 * 0 + _ ≤ _; exact Nat.le_of_eq rfl) (hb hby at_85) (fun _ _ => ⟨rfl, rfl, (by decide : 6 + 6 ≤ _), (by decide : 20 + 20 ≤ _)⟩)
      dsimp only [Pt.U, Pt.locs, Pt.cells, Pt.slots] at X683 l683 y683 z683 st683 hQ683 hs683 hg683 ch683
      subst l683 y683 z683
      obtain ⟨x_683, t_683, cs_683, rfl, N683q, K683, f683_0, pr683_0⟩ := hQ683
      have N683 := Fr.app N682 N683q
      obtain ⟨Y683, hS683, hZ683, hown683⟩ := rebS hS682 (n1 := T682.heap.size) (by omega) X683 hs683 (by have := hg683; first | exact this | (rw [← rfl]; exact this)) hZ682 hown682
      have z683 : T682.heap.size ≤ T683.heap.size := K683.1
      have R683 : CHr Z consts_1 s.vm h0 T683.vm T683.heap := R682.trans ch683
      have lt683_0 : @LT.lt Nat _ x_683 T683.heap.size := f683_0.lt
      have ltv683_0 : @LT.lt Nat _ t_683 T683.heap.size := f683_0.ltv
      refine own_Go.tr st683 ?_
      show own_Go _ _ _ _ (T683.setTop (mkF m 88 #[.val (.int p1), .val (.int p2), .val (.int p3), .val (.int p4), .val (.int p5), .val (.int p6), .val (.int ln), .val (.int rn), .val (.int r_636), .val (.int r_637), .val (.int r_636), .val (.int r_681), .val (.ref x_682), .unset, .unset, .unset] [(.ref x_683)]))
      refine own_Go.st (fun _ k => XS.astore Y683.here hx rfl (hb hby at_88) rfl rfl (l' := #[.val (.int p1), .val (.int p2), .val (.int p3), .val (.int p4), .val (.int p5), .val (.int p6), .val (.int ln), .val (.int rn), .val (.int r_636), .val (.int r_637), .val (.int r_636), .val (.int r_681), .val (.ref x_682), .val (.ref x_683), .unset, .unset]) rfl k) ?_
      show own_Go _ _ _ _ (T683.setTop (mkF m 90 #[.val (.int p1), .val (.int p2), .val (.int p3), .val (.int p4), .val (.int p5), .val (.int p6), .val (.int ln), .val (.int rn), .val (.int r_636), .val (.int r_637), .val (.int r_636), .val (.int r_681), .val (.ref x_682), .val (.ref x_683), .unset, .unset] []))
      refine own_Go.st (fun _ k => XS.aload Y683.here hx rfl (hb hby at_90) rfl rfl k) ?_
      show own_Go _ _ _ _ (T683.setTop (mkF m 92 #[.val (.int p1), .val (.int p2), .val (.int p3), .val (.int p4), .val (.int p5), .val (.int p6), .val (.int ln), .val (.int rn), .val (.int r_636), .val (.int r_637), .val (.int r_636), .val (.int r_681), .val (.ref x_682), .val (.ref x_683), .unset, .unset] [(.ref x_682)]))
      refine own_Go.st (fun _ k => XS.aload Y683.here hx rfl (hb hby at_92) rfl rfl k) ?_
      show own_Go _ _ _ _ (T683.setTop (mkF m 94 #[.val (.int p1), .val (.int p2), .val (.int p3), .val (.int p4), .val (.int p5), .val (.int p6), .val (.int ln), .val (.int rn), .val (.int r_636), .val (.int r_637), .val (.int r_636), .val (.int r_681), .val (.ref x_682), .val (.ref x_683), .unset, .unset] [(.ref x_683), (.ref x_682)]))
      have f686 : own_Str Z T683.heap x_682 t_682 cs_682 := f682_0.keep K683 nin0 nin0
      have f687 : Old Z Z.heap.size T683.heap := f684.keep K683 all0
      obtain ⟨_, _, ⟨T685, L685, k685, n685⟩, -, X685, ⟨Lc685, hQ685, l685, y685, z685⟩, st685⟩ := Jvm.LawKit.callS Y683 hx (y := (⟨"com/example/keep_to_layer/keeptolayer/model/ClassNames", "compare", "(Ljava/lang/String;Ljava/lang/String;)I"⟩ : MethodName)) hown683 (mvT hZ683 (hw _ (List.mem_of_getElem? (i := 34) rfl))) (mvT hZ683 (hw _ (List.mem_of_getElem? (i := 35) rfl))) (mvT hZ683 (hw _ (List.mem_of_getElem? (i := 36) rfl))) (mvT hZ683 (hw _ (List.mem_of_getElem? (i := 37) rfl))) (by decide) (backOf (W := 0) (rm_compare l Z a0 hw [] x_682 x_683 (own_pts ln r_636 r_637) (own_pts rn r_636 r_681) t_682 t_683 cs_682 cs_683 zc fm T683.heap f687 f686 f683_0 st_COMPACT_STRINGS st_SIOOBE_FORMATTER st__assertionsDisabled st_HI_BYTE_SHIFT st_LO_BYTE_SHIFT pr682_0 pr683_0 (own_ptsV pr636_0 pr637_0) (own_ptsV pr636_0 pr681_0) (by first | assumption | decide) (by first | assumption | decide)) hZ683 (hw _ (List.mem_of_getElem? (i := 37) rfl)) (hw _ (List.mem_of_getElem? (i := 36) rfl)) (by decide) (by decide)) (g := (mkF m 94 #[.val (.int p1), .val (.int p2), .val (.int p3), .val (.int p4), .val (.int p5), .val (.int p6), .val (.int ln), .val (.int rn), .val (.int r_636), .val (.int r_637), .val (.int r_636), .val (.int r_681), .val (.ref x_682), .val (.ref x_683), .unset, .unset] [(.ref x_683), (.ref x_682)])) rfl (by rw [hml]; rfl) (argsL := [(.ref x_682), (.ref x_683)]) (rest := []) (lenOf pd_611 rfl) rfl (by show 2 * 0 + _ ≤ _; exact Nat.le_of_eq rfl) (hb hby at_94) (fun _ _ => ⟨rfl, rfl, (by decide : 12 + 0 ≤ _), (by decide : 40 + 0 ≤ _)⟩)
      dsimp only [Pt.U, Pt.locs, Pt.cells, Pt.slots] at X685 l685 y685 z685 st685 hQ685
      subst l685 y685 z685
      obtain ⟨rfl, N685q, K685⟩ := hQ685
      have N685 := Fr.app N683 N685q
      refine own_Go.st st685 ?_
      show own_Go _ _ _ _ (T685.setTop (mkF m 97 #[.val (.int p1), .val (.int p2), .val (.int p3), .val (.int p4), .val (.int p5), .val (.int p6), .val (.int ln), .val (.int rn), .val (.int r_636), .val (.int r_637), .val (.int r_636), .val (.int r_681), .val (.ref x_682), .val (.ref x_683), .unset, .unset] [(.int (own_cmpL (own_pts ln r_636 r_637) (own_pts rn r_636 r_681)))]))
      refine own_Go.st (fun _ k => XS.istore X685.here hx rfl (hb hby at_97) rfl (l' := #[.val (.int p1), .val (.int p2), .val (.int p3), .val (.int p4), .val (.int p5), .val (.int p6), .val (.int ln), .val (.int rn), .val (.int r_636), .val (.int r_637), .val (.int r_636), .val (.int r_681), .val (.ref x_682), .val (.ref x_683), .val (.int (own_cmpL (own_pts ln r_636 r_637) (own_pts rn r_636 r_681))), .unset]) rfl k) ?_
      show own_Go _ _ _ _ (T685.setTop (mkF m 99 #[.val (.int p1), .val (.int p2), .val (.int p3), .val (.int p4), .val (.int p5), .val (.int p6), .val (.int ln), .val (.int rn), .val (.int r_636), .val (.int r_637), .val (.int r_636), .val (.int r_681), .val (.ref x_682), .val (.ref x_683), .val (.int (own_cmpL (own_pts ln r_636 r_637) (own_pts rn r_636 r_681))), .unset] []))
      refine own_Go.st (fun _ k => XS.iload X685.here hx rfl (hb hby at_99) rfl k) ?_
      show own_Go _ _ _ _ (T685.setTop (mkF m 101 #[.val (.int p1), .val (.int p2), .val (.int p3), .val (.int p4), .val (.int p5), .val (.int p6), .val (.int ln), .val (.int rn), .val (.int r_636), .val (.int r_637), .val (.int r_636), .val (.int r_681), .val (.ref x_682), .val (.ref x_683), .val (.int (own_cmpL (own_pts ln r_636 r_637) (own_pts rn r_636 r_681))), .unset] [(.int ln)]))
      refine own_Go.st (fun _ k => XS.iload X685.here hx rfl (hb hby at_101) rfl k) ?_
      show own_Go _ _ _ _ (T685.setTop (mkF m 103 #[.val (.int p1), .val (.int p2), .val (.int p3), .val (.int p4), .val (.int p5), .val (.int p6), .val (.int ln), .val (.int rn), .val (.int r_636), .val (.int r_637), .val (.int r_636), .val (.int r_681), .val (.ref x_682), .val (.ref x_683), .val (.int (own_cmpL (own_pts ln r_636 r_637) (own_pts rn r_636 r_681))), .unset] [(.int r_636), (.int ln)]))
      refine own_Go.st (fun _ k => XS.iload X685.here hx rfl (hb hby at_103) rfl k) ?_
      show own_Go _ _ _ _ (T685.setTop (mkF m 105 #[.val (.int p1), .val (.int p2), .val (.int p3), .val (.int p4), .val (.int p5), .val (.int p6), .val (.int ln), .val (.int rn), .val (.int r_636), .val (.int r_637), .val (.int r_636), .val (.int r_681), .val (.ref x_682), .val (.ref x_683), .val (.int (own_cmpL (own_pts ln r_636 r_637) (own_pts rn r_636 r_681))), .unset] [(.int r_637), (.int r_636), (.int ln)]))
      refine own_Go.st (fun _ k => XS.iload X685.here hx rfl (hb hby at_105) rfl k) ?_
      show own_Go _ _ _ _ (T685.setTop (mkF m 107 #[.val (.int p1), .val (.int p2), .val (.int p3), .val (.int p4), .val (.int p5), .val (.int p6), .val (.int ln), .val (.int rn), .val (.int r_636), .val (.int r_637), .val (.int r_636), .val (.int r_681), .val (.ref x_682), .val (.ref x_683), .val (.int (own_cmpL (own_pts ln r_636 r_637) (own_pts rn r_636 r_681))), .unset] [(.int rn), (.int r_637), (.int r_636), (.int ln)]))
      refine own_Go.st (fun _ k => XS.iload X685.here hx rfl (hb hby at_107) rfl k) ?_
      show own_Go _ _ _ _ (T685.setTop (mkF m 109 #[.val (.int p1), .val (.int p2), .val (.int p3), .val (.int p4), .val (.int p5), .val (.int p6), .val (.int ln), .val (.int rn), .val (.int r_636), .val (.int r_637), .val (.int r_636), .val (.int r_681), .val (.ref x_682), .val (.ref x_683), .val (.int (own_cmpL (own_pts ln r_636 r_637) (own_pts rn r_636 r_681))), .unset] [(.int r_636), (.int rn), (.int r_637), (.int r_636), (.int ln)]))
      refine own_Go.st (fun _ k => XS.iload X685.here hx rfl (hb hby at_109) rfl k) ?_
      show own_Go _ _ _ _ (T685.setTop (mkF m 111 #[.val (.int p1), .val (.int p2), .val (.int p3), .val (.int p4), .val (.int p5), .val (.int p6), .val (.int ln), .val (.int rn), .val (.int r_636), .val (.int r_637), .val (.int r_636), .val (.int r_681), .val (.ref x_682), .val (.ref x_683), .val (.int (own_cmpL (own_pts ln r_636 r_637) (own_pts rn r_636 r_681))), .unset] [(.int r_681), (.int r_636), (.int rn), (.int r_637), (.int r_636), (.int ln)]))
      obtain ⟨_, _, ⟨T688, L688, k688, n688⟩, -, X688, ⟨Lc688, hQ688, l688, y688, z688⟩, st688⟩ := Jvm.LawKit.callS X685 hx (y := (⟨"com/example/keep_to_layer/keeptolayer/model/ClassNamesComparePinLaw", "ref", "(IIIIII)I"⟩ : MethodName)) hown683 (mvT hZ683 (hw _ (List.mem_of_getElem? (i := 53) rfl))) (mvT hZ683 (hw _ (List.mem_of_getElem? (i := 54) rfl))) (mvT hZ683 (hw _ (List.mem_of_getElem? (i := 3) rfl))) (mvT hZ683 (hw _ (List.mem_of_getElem? (i := 55) rfl))) (by decide) (backOf (W := 0) (rm_ref l Z a0 hw [] ln r_636 r_637 rn r_636 r_681 T683.heap f687 hln hrn) hZ683 (hw _ (List.mem_of_getElem? (i := 55) rfl)) (hw _ (List.mem_of_getElem? (i := 3) rfl)) (by decide) (by decide)) (g := (mkF m 111 #[.val (.int p1), .val (.int p2), .val (.int p3), .val (.int p4), .val (.int p5), .val (.int p6), .val (.int ln), .val (.int rn), .val (.int r_636), .val (.int r_637), .val (.int r_636), .val (.int r_681), .val (.ref x_682), .val (.ref x_683), .val (.int (own_cmpL (own_pts ln r_636 r_637) (own_pts rn r_636 r_681))), .unset] [(.int r_681), (.int r_636), (.int rn), (.int r_637), (.int r_636), (.int ln)])) rfl (by rw [hml]; rfl) (argsL := [(.int ln), (.int r_636), (.int r_637), (.int rn), (.int r_636), (.int r_681)]) (rest := []) (lenOf pd_612 rfl) rfl (by show 2 * 0 + _ ≤ _; exact Nat.le_of_eq rfl) (hb hby at_111) (fun _ _ => ⟨rfl, K685, (by decide : 12 + 0 ≤ _), (by decide : 40 + 0 ≤ _)⟩)
      dsimp only [Pt.U, Pt.locs, Pt.cells, Pt.slots] at X688 l688 y688 z688 st688 hQ688
      subst l688 y688 z688
      obtain ⟨rfl, N688q, K688⟩ := hQ688
      have N688 := Fr.app N685 N688q
      refine own_Go.st st688 ?_
      show own_Go _ _ _ _ (T688.setTop (mkF m 114 #[.val (.int p1), .val (.int p2), .val (.int p3), .val (.int p4), .val (.int p5), .val (.int p6), .val (.int ln), .val (.int rn), .val (.int r_636), .val (.int r_637), .val (.int r_636), .val (.int r_681), .val (.ref x_682), .val (.ref x_683), .val (.int (own_cmpL (own_pts ln r_636 r_637) (own_pts rn r_636 r_681))), .unset] [(.int (own_cmpL (own_pts ln r_636 r_637) (own_pts rn r_636 r_681)))]))
      refine own_Go.st (fun _ k => XS.istore X688.here hx rfl (hb hby at_114) rfl (l' := #[.val (.int p1), .val (.int p2), .val (.int p3), .val (.int p4), .val (.int p5), .val (.int p6), .val (.int ln), .val (.int rn), .val (.int r_636), .val (.int r_637), .val (.int r_636), .val (.int r_681), .val (.ref x_682), .val (.ref x_683), .val (.int (own_cmpL (own_pts ln r_636 r_637) (own_pts rn r_636 r_681))), .val (.int (own_cmpL (own_pts ln r_636 r_637) (own_pts rn r_636 r_681)))]) rfl k) ?_
      show own_Go _ _ _ _ (T688.setTop (mkF m 116 #[.val (.int p1), .val (.int p2), .val (.int p3), .val (.int p4), .val (.int p5), .val (.int p6), .val (.int ln), .val (.int rn), .val (.int r_636), .val (.int r_637), .val (.int r_636), .val (.int r_681), .val (.ref x_682), .val (.ref x_683), .val (.int (own_cmpL (own_pts ln r_636 r_637) (own_pts rn r_636 r_681))), .val (.int (own_cmpL (own_pts ln r_636 r_637) (own_pts rn r_636 r_681)))] []))
      refine own_Go.st (fun _ k => XS.iload X688.here hx rfl (hb hby at_116) rfl k) ?_
      show own_Go _ _ _ _ (T688.setTop (mkF m 118 #[.val (.int p1), .val (.int p2), .val (.int p3), .val (.int p4), .val (.int p5), .val (.int p6), .val (.int ln), .val (.int rn), .val (.int r_636), .val (.int r_637), .val (.int r_636), .val (.int r_681), .val (.ref x_682), .val (.ref x_683), .val (.int (own_cmpL (own_pts ln r_636 r_637) (own_pts rn r_636 r_681))), .val (.int (own_cmpL (own_pts ln r_636 r_637) (own_pts rn r_636 r_681)))] [(.int (own_cmpL (own_pts ln r_636 r_637) (own_pts rn r_636 r_681)))]))
      by_cases h118 : (own_cmpL (own_pts ln r_636 r_637) (own_pts rn r_636 r_681)) < (0 : Int32)
      ·
        refine own_Go.st (fun _ k => XS.ifNo X688.here hx rfl (hb hby at_118) rfl ((if0 _ _).trans (tlt h118).2.1) k) ?_
        show own_Go _ _ _ _ (T688.setTop (mkF m 121 #[.val (.int p1), .val (.int p2), .val (.int p3), .val (.int p4), .val (.int p5), .val (.int p6), .val (.int ln), .val (.int rn), .val (.int r_636), .val (.int r_637), .val (.int r_636), .val (.int r_681), .val (.ref x_682), .val (.ref x_683), .val (.int (own_cmpL (own_pts ln r_636 r_637) (own_pts rn r_636 r_681))), .val (.int (own_cmpL (own_pts ln r_636 r_637) (own_pts rn r_636 r_681)))] []))
        refine own_Go.st (fun _ k => XS.iload X688.here hx rfl (hb hby at_121) rfl k) ?_
        show own_Go _ _ _ _ (T688.setTop (mkF m 123 #[.val (.int p1), .val (.int p2), .val (.int p3), .val (.int p4), .val (.int p5), .val (.int p6), .val (.int ln), .val (.int rn), .val (.int r_636), .val (.int r_637), .val (.int r_636), .val (.int r_681), .val (.ref x_682), .val (.ref x_683), .val (.int (own_cmpL (own_pts ln r_636 r_637) (own_pts rn r_636 r_681))), .val (.int (own_cmpL (own_pts ln r_636 r_637) (own_pts rn r_636 r_681)))] [(.int (own_cmpL (own_pts ln r_636 r_637) (own_pts rn r_636 r_681)))]))
        have hc689 : (own_cmpL (own_pts ln r_636 r_637) (own_pts rn r_636 r_681)) < (0 : Int32) := h118
        refine own_Go.st (fun _ k => XS.ifNo X688.here hx rfl (hb hby at_123) rfl ((if0 _ _).trans (tlt hc689).2.1) k) ?_
        show own_Go _ _ _ _ (T688.setTop (mkF m 126 #[.val (.int p1), .val (.int p2), .val (.int p3), .val (.int p4), .val (.int p5), .val (.int p6), .val (.int ln), .val (.int rn), .val (.int r_636), .val (.int r_637), .val (.int r_636), .val (.int r_681), .val (.ref x_682), .val (.ref x_683), .val (.int (own_cmpL (own_pts ln r_636 r_637) (own_pts rn r_636 r_681))), .val (.int (own_cmpL (own_pts ln r_636 r_637) (own_pts rn r_636 r_681)))] []))
        refine own_Go.st (fun _ k => XS.iconst X688.here hx rfl (hb hby at_126) k) ?_
        show own_Go _ _ _ _ (T688.setTop (mkF m 127 #[.val (.int p1), .val (.int p2), .val (.int p3), .val (.int p4), .val (.int p5), .val (.int p6), .val (.int ln), .val (.int rn), .val (.int r_636), .val (.int r_637), .val (.int r_636), .val (.int r_681), .val (.ref x_682), .val (.ref x_683), .val (.int (own_cmpL (own_pts ln r_636 r_637) (own_pts rn r_636 r_681))), .val (.int (own_cmpL (own_pts ln r_636 r_637) (own_pts rn r_636 r_681)))] [(.int (1 : Int32))]))
        refine own_Go.st (fun _ k => XS.goto X688.here hx rfl (pc0 := 127) (pc' := 131) rfl (hb hby at_127) (by decide) (by decide) k) ?_
        show own_Go _ _ _ _ (T688.setTop (mkF m 131 #[.val (.int p1), .val (.int p2), .val (.int p3), .val (.int p4), .val (.int p5), .val (.int p6), .val (.int ln), .val (.int rn), .val (.int r_636), .val (.int r_637), .val (.int r_636), .val (.int r_681), .val (.ref x_682), .val (.ref x_683), .val (.int (own_cmpL (own_pts ln r_636 r_637) (own_pts rn r_636 r_681))), .val (.int (own_cmpL (own_pts ln r_636 r_637) (own_pts rn r_636 r_681)))] [(.int (1 : Int32))]))
        obtain ⟨fs690, hr690, hrun690, hend690, hret690⟩ := X688.leaveW hS683 (by rw [K688]; exact (by omega)) (v := some (.int (nar .boolean (1 : Int32)))) (fun h => by rw [Bd.returns] at h; cases h)
        have K691 : Keep h0 T682.heap [] := (Keep.refl h0 []).trans K682 all0
        have K692 : Keep h0 T683.heap [] := K691.trans K683 all0
        subst hPP
        refine ⟨_, _, retN X688 hx (t := .boolean) Bd.returns (by simp) (hb hby at_131) hr690, hrun690, hend690, _, _, rfl, ?_, ?_, hret690.1, hret690.2.1, hret690.2.2.1, hret690.2.2.2.mono (by decide) (by decide)⟩
        · show Q_law Z _ _ _ _ _ _ _ _ h0 _ T688.heap _
          rw [K688]
          exact ⟨rfl, N688, K692⟩
        · have hfin := R683.trans (CHv.at X688 hZ683 hEL R683.1)
          rw [← hh] at hfin
          show CHr Z consts_1 s.vm s.heap T688.vm T688.heap
          rw [K688]
          exact hfin
      ·
        refine own_Go.st (fun _ k => XS.ifYes X688.here hx rfl (pc0 := 118) (pc' := 132) rfl (hb hby at_118) rfl ((if0 _ _).trans (flt h118).2.1) (by decide) (by decide) k) ?_
        show own_Go _ _ _ _ (T688.setTop (mkF m 132 #[.val (.int p1), .val (.int p2), .val (.int p3), .val (.int p4), .val (.int p5), .val (.int p6), .val (.int ln), .val (.int rn), .val (.int r_636), .val (.int r_637), .val (.int r_636), .val (.int r_681), .val (.ref x_682), .val (.ref x_683), .val (.int (own_cmpL (own_pts ln r_636 r_637) (own_pts rn r_636 r_681))), .val (.int (own_cmpL (own_pts ln r_636 r_637) (own_pts rn r_636 r_681)))] []))
        refine own_Go.st (fun _ k => XS.iload X688.here hx rfl (hb hby at_132) rfl k) ?_
        show own_Go _ _ _ _ (T688.setTop (mkF m 134 #[.val (.int p1), .val (.int p2), .val (.int p3), .val (.int p4), .val (.int p5), .val (.int p6), .val (.int ln), .val (.int rn), .val (.int r_636), .val (.int r_637), .val (.int r_636), .val (.int r_681), .val (.ref x_682), .val (.ref x_683), .val (.int (own_cmpL (own_pts ln r_636 r_637) (own_pts rn r_636 r_681))), .val (.int (own_cmpL (own_pts ln r_636 r_637) (own_pts rn r_636 r_681)))] [(.int (own_cmpL (own_pts ln r_636 r_637) (own_pts rn r_636 r_681)))]))
        by_cases h134 : (own_cmpL (own_pts ln r_636 r_637) (own_pts rn r_636 r_681)) = (0 : Int32)
        ·
          refine own_Go.st (fun _ k => XS.ifNo X688.here hx rfl (hb hby at_134) rfl ((if0 _ _).trans (teq h134).2) k) ?_
          show own_Go _ _ _ _ (T688.setTop (mkF m 137 #[.val (.int p1), .val (.int p2), .val (.int p3), .val (.int p4), .val (.int p5), .val (.int p6), .val (.int ln), .val (.int rn), .val (.int r_636), .val (.int r_637), .val (.int r_636), .val (.int r_681), .val (.ref x_682), .val (.ref x_683), .val (.int (own_cmpL (own_pts ln r_636 r_637) (own_pts rn r_636 r_681))), .val (.int (own_cmpL (own_pts ln r_636 r_637) (own_pts rn r_636 r_681)))] []))
          refine own_Go.st (fun _ k => XS.iload X688.here hx rfl (hb hby at_137) rfl k) ?_
          show own_Go _ _ _ _ (T688.setTop (mkF m 139 #[.val (.int p1), .val (.int p2), .val (.int p3), .val (.int p4), .val (.int p5), .val (.int p6), .val (.int ln), .val (.int rn), .val (.int r_636), .val (.int r_637), .val (.int r_636), .val (.int r_681), .val (.ref x_682), .val (.ref x_683), .val (.int (own_cmpL (own_pts ln r_636 r_637) (own_pts rn r_636 r_681))), .val (.int (own_cmpL (own_pts ln r_636 r_637) (own_pts rn r_636 r_681)))] [(.int (own_cmpL (own_pts ln r_636 r_637) (own_pts rn r_636 r_681)))]))
          have hc693 : (own_cmpL (own_pts ln r_636 r_637) (own_pts rn r_636 r_681)) = (0 : Int32) := h134
          refine own_Go.st (fun _ k => XS.ifNo X688.here hx rfl (hb hby at_139) rfl ((if0 _ _).trans (teq hc693).2) k) ?_
          show own_Go _ _ _ _ (T688.setTop (mkF m 142 #[.val (.int p1), .val (.int p2), .val (.int p3), .val (.int p4), .val (.int p5), .val (.int p6), .val (.int ln), .val (.int rn), .val (.int r_636), .val (.int r_637), .val (.int r_636), .val (.int r_681), .val (.ref x_682), .val (.ref x_683), .val (.int (own_cmpL (own_pts ln r_636 r_637) (own_pts rn r_636 r_681))), .val (.int (own_cmpL (own_pts ln r_636 r_637) (own_pts rn r_636 r_681)))] []))
          refine own_Go.st (fun _ k => XS.iconst X688.here hx rfl (hb hby at_142) k) ?_
          show own_Go _ _ _ _ (T688.setTop (mkF m 143 #[.val (.int p1), .val (.int p2), .val (.int p3), .val (.int p4), .val (.int p5), .val (.int p6), .val (.int ln), .val (.int rn), .val (.int r_636), .val (.int r_637), .val (.int r_636), .val (.int r_681), .val (.ref x_682), .val (.ref x_683), .val (.int (own_cmpL (own_pts ln r_636 r_637) (own_pts rn r_636 r_681))), .val (.int (own_cmpL (own_pts ln r_636 r_637) (own_pts rn r_636 r_681)))] [(.int (1 : Int32))]))
          refine own_Go.st (fun _ k => XS.goto X688.here hx rfl (pc0 := 143) (pc' := 147) rfl (hb hby at_143) (by decide) (by decide) k) ?_
          show own_Go _ _ _ _ (T688.setTop (mkF m 147 #[.val (.int p1), .val (.int p2), .val (.int p3), .val (.int p4), .val (.int p5), .val (.int p6), .val (.int ln), .val (.int rn), .val (.int r_636), .val (.int r_637), .val (.int r_636), .val (.int r_681), .val (.ref x_682), .val (.ref x_683), .val (.int (own_cmpL (own_pts ln r_636 r_637) (own_pts rn r_636 r_681))), .val (.int (own_cmpL (own_pts ln r_636 r_637) (own_pts rn r_636 r_681)))] [(.int (1 : Int32))]))
          obtain ⟨fs694, hr694, hrun694, hend694, hret694⟩ := X688.leaveW hS683 (by rw [K688]; exact (by omega)) (v := some (.int (nar .boolean (1 : Int32)))) (fun h => by rw [Bd.returns] at h; cases h)
          have K695 : Keep h0 T682.heap [] := (Keep.refl h0 []).trans K682 all0
          have K696 : Keep h0 T683.heap [] := K695.trans K683 all0
          subst hPP
          refine ⟨_, _, retN X688 hx (t := .boolean) Bd.returns (by simp) (hb hby at_147) hr694, hrun694, hend694, _, _, rfl, ?_, ?_, hret694.1, hret694.2.1, hret694.2.2.1, hret694.2.2.2.mono (by decide) (by decide)⟩
          · show Q_law Z _ _ _ _ _ _ _ _ h0 _ T688.heap _
            rw [K688]
            exact ⟨rfl, N688, K696⟩
          · have hfin := R683.trans (CHv.at X688 hZ683 hEL R683.1)
            rw [← hh] at hfin
            show CHr Z consts_1 s.vm s.heap T688.vm T688.heap
            rw [K688]
            exact hfin
        ·
          refine own_Go.st (fun _ k => XS.ifYes X688.here hx rfl (pc0 := 134) (pc' := 148) rfl (hb hby at_134) rfl ((if0 _ _).trans (feq h134).2) (by decide) (by decide) k) ?_
          show own_Go _ _ _ _ (T688.setTop (mkF m 148 #[.val (.int p1), .val (.int p2), .val (.int p3), .val (.int p4), .val (.int p5), .val (.int p6), .val (.int ln), .val (.int rn), .val (.int r_636), .val (.int r_637), .val (.int r_636), .val (.int r_681), .val (.ref x_682), .val (.ref x_683), .val (.int (own_cmpL (own_pts ln r_636 r_637) (own_pts rn r_636 r_681))), .val (.int (own_cmpL (own_pts ln r_636 r_637) (own_pts rn r_636 r_681)))] []))
          refine own_Go.st (fun _ k => XS.iload X688.here hx rfl (hb hby at_148) rfl k) ?_
          show own_Go _ _ _ _ (T688.setTop (mkF m 150 #[.val (.int p1), .val (.int p2), .val (.int p3), .val (.int p4), .val (.int p5), .val (.int p6), .val (.int ln), .val (.int rn), .val (.int r_636), .val (.int r_637), .val (.int r_636), .val (.int r_681), .val (.ref x_682), .val (.ref x_683), .val (.int (own_cmpL (own_pts ln r_636 r_637) (own_pts rn r_636 r_681))), .val (.int (own_cmpL (own_pts ln r_636 r_637) (own_pts rn r_636 r_681)))] [(.int (own_cmpL (own_pts ln r_636 r_637) (own_pts rn r_636 r_681)))]))
          have hc697 : (0 : Int32) < (own_cmpL (own_pts ln r_636 r_637) (own_pts rn r_636 r_681)) := own_pos h118 h134
          refine own_Go.st (fun _ k => XS.ifNo X688.here hx rfl (hb hby at_150) rfl ((if0 _ _).trans (tlt hc697).2.2.2) k) ?_
          show own_Go _ _ _ _ (T688.setTop (mkF m 153 #[.val (.int p1), .val (.int p2), .val (.int p3), .val (.int p4), .val (.int p5), .val (.int p6), .val (.int ln), .val (.int rn), .val (.int r_636), .val (.int r_637), .val (.int r_636), .val (.int r_681), .val (.ref x_682), .val (.ref x_683), .val (.int (own_cmpL (own_pts ln r_636 r_637) (own_pts rn r_636 r_681))), .val (.int (own_cmpL (own_pts ln r_636 r_637) (own_pts rn r_636 r_681)))] []))
          refine own_Go.st (fun _ k => XS.iconst X688.here hx rfl (hb hby at_153) k) ?_
          show own_Go _ _ _ _ (T688.setTop (mkF m 154 #[.val (.int p1), .val (.int p2), .val (.int p3), .val (.int p4), .val (.int p5), .val (.int p6), .val (.int ln), .val (.int rn), .val (.int r_636), .val (.int r_637), .val (.int r_636), .val (.int r_681), .val (.ref x_682), .val (.ref x_683), .val (.int (own_cmpL (own_pts ln r_636 r_637) (own_pts rn r_636 r_681))), .val (.int (own_cmpL (own_pts ln r_636 r_637) (own_pts rn r_636 r_681)))] [(.int (1 : Int32))]))
          refine own_Go.st (fun _ k => XS.goto X688.here hx rfl (pc0 := 154) (pc' := 158) rfl (hb hby at_154) (by decide) (by decide) k) ?_
          show own_Go _ _ _ _ (T688.setTop (mkF m 158 #[.val (.int p1), .val (.int p2), .val (.int p3), .val (.int p4), .val (.int p5), .val (.int p6), .val (.int ln), .val (.int rn), .val (.int r_636), .val (.int r_637), .val (.int r_636), .val (.int r_681), .val (.ref x_682), .val (.ref x_683), .val (.int (own_cmpL (own_pts ln r_636 r_637) (own_pts rn r_636 r_681))), .val (.int (own_cmpL (own_pts ln r_636 r_637) (own_pts rn r_636 r_681)))] [(.int (1 : Int32))]))
          obtain ⟨fs698, hr698, hrun698, hend698, hret698⟩ := X688.leaveW hS683 (by rw [K688]; exact (by omega)) (v := some (.int (nar .boolean (1 : Int32)))) (fun h => by rw [Bd.returns] at h; cases h)
          have K699 : Keep h0 T682.heap [] := (Keep.refl h0 []).trans K682 all0
          have K700 : Keep h0 T683.heap [] := K699.trans K683 all0
          subst hPP
          refine ⟨_, _, retN X688 hx (t := .boolean) Bd.returns (by simp) (hb hby at_158) hr698, hrun698, hend698, _, _, rfl, ?_, ?_, hret698.1, hret698.2.1, hret698.2.2.1, hret698.2.2.2.mono (by decide) (by decide)⟩
          · show Q_law Z _ _ _ _ _ _ _ _ h0 _ T688.heap _
            rw [K688]
            exact ⟨rfl, N688, K700⟩
          · have hfin := R683.trans (CHv.at X688 hZ683 hEL R683.1)
            rw [← hh] at hfin
            show CHr Z consts_1 s.vm s.heap T688.vm T688.heap
            rw [K688]
            exact hfin
    ·
      refine own_Go.st (fun _ k => XS.ifNo X637.here hx rfl (hb hby at_54) rfl ((if0 _ _).trans (feq hc680).1) k) ?_
      show own_Go _ _ _ _ (T637.setTop (mkF m 57 #[.val (.int p1), .val (.int p2), .val (.int p3), .val (.int p4), .val (.int p5), .val (.int p6), .val (.int ln), .val (.int rn), .val (.int r_636), .val (.int r_637), .val (.int r_636), .unset, .unset, .unset, .unset, .unset] []))
      refine own_Go.st (fun _ k => XS.iload X637.here hx rfl (hb hby at_57) rfl k) ?_
      show own_Go _ _ _ _ (T637.setTop (mkF m 59 #[.val (.int p1), .val (.int p2), .val (.int p3), .val (.int p4), .val (.int p5), .val (.int p6), .val (.int ln), .val (.int rn), .val (.int r_636), .val (.int r_637), .val (.int r_636), .unset, .unset, .unset, .unset, .unset] [(.int r_637)]))
      refine own_Go.st (fun _ k => XS.goto X637.here hx rfl (pc0 := 59) (pc' := 66) rfl (hb hby at_59) (by decide) (by decide) k) ?_
      show own_Go _ _ _ _ (T637.setTop (mkF m 66 #[.val (.int p1), .val (.int p2), .val (.int p3), .val (.int p4), .val (.int p5), .val (.int p6), .val (.int ln), .val (.int rn), .val (.int r_636), .val (.int r_637), .val (.int r_636), .unset, .unset, .unset, .unset, .unset] [(.int r_637)]))
      refine own_Go.st (fun _ k => XS.istore X637.here hx rfl (hb hby at_66) rfl (l' := #[.val (.int p1), .val (.int p2), .val (.int p3), .val (.int p4), .val (.int p5), .val (.int p6), .val (.int ln), .val (.int rn), .val (.int r_636), .val (.int r_637), .val (.int r_636), .val (.int r_637), .unset, .unset, .unset, .unset]) rfl k) ?_
      show own_Go _ _ _ _ (T637.setTop (mkF m 68 #[.val (.int p1), .val (.int p2), .val (.int p3), .val (.int p4), .val (.int p5), .val (.int p6), .val (.int ln), .val (.int rn), .val (.int r_636), .val (.int r_637), .val (.int r_636), .val (.int r_637), .unset, .unset, .unset, .unset] []))
      refine own_Go.st (fun _ k => XS.iload X637.here hx rfl (hb hby at_68) rfl k) ?_
      show own_Go _ _ _ _ (T637.setTop (mkF m 70 #[.val (.int p1), .val (.int p2), .val (.int p3), .val (.int p4), .val (.int p5), .val (.int p6), .val (.int ln), .val (.int rn), .val (.int r_636), .val (.int r_637), .val (.int r_636), .val (.int r_637), .unset, .unset, .unset, .unset] [(.int ln)]))
      refine own_Go.st (fun _ k => XS.iload X637.here hx rfl (hb hby at_70) rfl k) ?_
      show own_Go _ _ _ _ (T637.setTop (mkF m 72 #[.val (.int p1), .val (.int p2), .val (.int p3), .val (.int p4), .val (.int p5), .val (.int p6), .val (.int ln), .val (.int rn), .val (.int r_636), .val (.int r_637), .val (.int r_636), .val (.int r_637), .unset, .unset, .unset, .unset] [(.int r_636), (.int ln)]))
      refine own_Go.st (fun _ k => XS.iload X637.here hx rfl (hb hby at_72) rfl k) ?_
      show own_Go _ _ _ _ (T637.setTop (mkF m 74 #[.val (.int p1), .val (.int p2), .val (.int p3), .val (.int p4), .val (.int p5), .val (.int p6), .val (.int ln), .val (.int rn), .val (.int r_636), .val (.int r_637), .val (.int r_636), .val (.int r_637), .unset, .unset, .unset, .unset] [(.int r_637), (.int r_636), (.int ln)]))
      obtain ⟨_, _, ⟨T701, L701, k701, n701⟩, -, X701, hs701, hg701, ⟨Lc701, hQ701, l701, y701, z701, ch701⟩, st701⟩ := callSS X637 hx (y := (⟨"com/example/keep_to_layer/keeptolayer/model/ClassNamesComparePinLaw", "str", "(III)Ljava/lang/String;"⟩ : MethodName)) hown (mvT hZ (hw _ (List.mem_of_getElem? (i := 9) rfl))) (mvT hZ (hw _ (List.mem_of_getElem? (i := 10) rfl))) (mvT hZ (hw _ (List.mem_of_getElem? (i := 3) rfl))) (mvT hZ (hw _ (List.mem_of_getElem? (i := 11) rfl))) (by decide) (backOfSH (s := s) (vm0 := s.vm) (W := 0) (rm_str l Z a0 hw [] ln r_636 r_637 zc h0 hEL OL st_COMPACT_STRINGS st__assertionsDisabled st_HI_BYTE_SHIFT st_LO_BYTE_SHIFT (by first | assumption | decide) pr636_0 pr637_0) hZ (hw _ (List.mem_of_getElem? (i := 11) rfl)) (hw _ (List.mem_of_getElem? (i := 3) rfl)) (by decide) (by decide) hEL R0.1) (g := (mkF m 74 #[.val (.int p1), .val (.int p2), .val (.int p3), .val (.int p4), .val (.int p5), .val (.int p6), .val (.int ln), .val (.int rn), .val (.int r_636), .val (.int r_637), .val (.int r_636), .val (.int r_637), .unset, .unset, .unset, .unset] [(.int r_637), (.int r_636), (.int ln)])) rfl (by rw [hml]; rfl) (argsL := [(.int ln), (.int r_636), (.int r_637)]) (rest := []) (lenOf pd_610 rfl) rfl (by show 2 * 0 + _ ≤ _; exact Nat.le_of_eq rfl) (hb hby at_74) (fun _ _ => ⟨rfl, K637, (by decide : 0 + 6 ≤ _), (by decide : 0 + 20 ≤ _)⟩)
      dsimp only [Pt.U, Pt.locs, Pt.cells, Pt.slots] at X701 l701 y701 z701 st701 hQ701 hs701 hg701 ch701
      subst l701 y701 z701
      obtain ⟨x_701, t_701, cs_701, rfl, N701q, K701, f701_0, pr701_0⟩ := hQ701
      have N701 := Fr.app N637 N701q
      obtain ⟨Y701, hS701, hZ701, hown701⟩ := rebS hS0 (n1 := h0.size) (by omega) X701 hs701 (by have := hg701; first | exact this | (rw [← K637]; exact this)) hZ hown
      have z701 : h0.size ≤ T701.heap.size := K701.1
      have R701 : CHr Z consts_1 s.vm h0 T701.vm T701.heap := R0.trans ch701
      have lt701_0 : @LT.lt Nat _ x_701 T701.heap.size := f701_0.lt
      have ltv701_0 : @LT.lt Nat _ t_701 T701.heap.size := f701_0.ltv
      refine own_Go.tr st701 ?_
      show own_Go _ _ _ _ (T701.setTop (mkF m 77 #[.val (.int p1), .val (.int p2), .val (.int p3), .val (.int p4), .val (.int p5), .val (.int p6), .val (.int ln), .val (.int rn), .val (.int r_636), .val (.int r_637), .val (.int r_636), .val (.int r_637), .unset, .unset, .unset, .unset] [(.ref x_701)]))
      refine own_Go.st (fun _ k => XS.astore Y701.here hx rfl (hb hby at_77) rfl rfl (l' := #[.val (.int p1), .val (.int p2), .val (.int p3), .val (.int p4), .val (.int p5), .val (.int p6), .val (.int ln), .val (.int rn), .val (.int r_636), .val (.int r_637), .val (.int r_636), .val (.int r_637), .val (.ref x_701), .unset, .unset, .unset]) rfl k) ?_
      show own_Go _ _ _ _ (T701.setTop (mkF m 79 #[.val (.int p1), .val (.int p2), .val (.int p3), .val (.int p4), .val (.int p5), .val (.int p6), .val (.int ln), .val (.int rn), .val (.int r_636), .val (.int r_637), .val (.int r_636), .val (.int r_637), .val (.ref x_701), .unset, .unset, .unset] []))
      refine own_Go.st (fun _ k => XS.iload Y701.here hx rfl (hb hby at_79) rfl k) ?_
      show own_Go _ _ _ _ (T701.setTop (mkF m 81 #[.val (.int p1), .val (.int p2), .val (.int p3), .val (.int p4), .val (.int p5), .val (.int p6), .val (.int ln), .val (.int rn), .val (.int r_636), .val (.int r_637), .val (.int r_636), .val (.int r_637), .val (.ref x_701), .unset, .unset, .unset] [(.int rn)]))
      refine own_Go.st (fun _ k => XS.iload Y701.here hx rfl (hb hby at_81) rfl k) ?_
      show own_Go _ _ _ _ (T701.setTop (mkF m 83 #[.val (.int p1), .val (.int p2), .val (.int p3), .val (.int p4), .val (.int p5), .val (.int p6), .val (.int ln), .val (.int rn), .val (.int r_636), .val (.int r_637), .val (.int r_636), .val (.int r_637), .val (.ref x_701), .unset, .unset, .unset] [(.int r_636), (.int rn)]))
      refine own_Go.st (fun _ k => XS.iload Y701.here hx rfl (hb hby at_83) rfl k) ?_
      show own_Go _ _ _ _ (T701.setTop (mkF m 85 #[.val (.int p1), .val (.int p2), .val (.int p3), .val (.int p4), .val (.int p5), .val (.int p6), .val (.int ln), .val (.int rn), .val (.int r_636), .val (.int r_637), .val (.int r_636), .val (.int r_637), .val (.ref x_701), .unset, .unset, .unset] [(.int r_637), (.int r_636), (.int rn)]))
      have f703 : Old Z Z.heap.size T701.heap := OL.keep K701 all0
      obtain ⟨_, _, ⟨T702, L702, k702, n702⟩, -, X702, hs702, hg702, ⟨Lc702, hQ702, l702, y702, z702, ch702⟩, st702⟩ := callSS Y701 hx (y := (⟨"com/example/keep_to_layer/keeptolayer/model/ClassNamesComparePinLaw", "str", "(III)Ljava/lang/String;"⟩ : MethodName)) hown701 (mvT hZ701 (hw _ (List.mem_of_getElem? (i := 9) rfl))) (mvT hZ701 (hw _ (List.mem_of_getElem? (i := 10) rfl))) (mvT hZ701 (hw _ (List.mem_of_getElem? (i := 3) rfl))) (mvT hZ701 (hw _ (List.mem_of_getElem? (i := 11) rfl))) (by decide) (backOfSH (s := s) (vm0 := T701.vm) (W := 0) (rm_str l Z a0 hw [] rn r_636 r_637 zc T701.heap hEL f703 st_COMPACT_STRINGS st__assertionsDisabled st_HI_BYTE_SHIFT st_LO_BYTE_SHIFT (by first | assumption | decide) pr636_0 pr637_0) hZ701 (hw _ (List.mem_of_getElem? (i := 11) rfl)) (hw _ (List.mem_of_getElem? (i := 3) rfl)) (by decide) (by decide) hEL R701.1) (g := (mkF m 85 #[.val (.int p1), .val (.int p2), .val (.int p3), .val (.int p4), .val (.int p5), .val (.int p6), .val (.int ln), .val (.int rn), .val (.int r_636), .val (.int r_637), .val (.int r_636), .val (.int r_637), .val (.ref x_701), .unset, .unset, .unset] [(.int r_637), (.int r_636), (.int rn)])) rfl (by rw [hml]; rfl) (argsL := [(.int rn), (.int r_636), (.int r_637)]) (rest := []) (lenOf pd_610 rfl) rfl (by show 2 * 0 + _ ≤ _; exact Nat.le_of_eq rfl) (hb hby at_85) (fun _ _ => ⟨rfl, rfl, (by decide : 6 + 6 ≤ _), (by decide : 20 + 20 ≤ _)⟩)
      dsimp only [Pt.U, Pt.locs, Pt.cells, Pt.slots] at X702 l702 y702 z702 st702 hQ702 hs702 hg702 ch702
      subst l702 y702 z702
      obtain ⟨x_702, t_702, cs_702, rfl, N702q, K702, f702_0, pr702_0⟩ := hQ702
      have N702 := Fr.app N701 N702q
      obtain ⟨Y702, hS702, hZ702, hown702⟩ := rebS hS701 (n1 := T701.heap.size) (by omega) X702 hs702 (by have := hg702; first | exact this | (rw [← rfl]; exact this)) hZ701 hown701
      have z702 : T701.heap.size ≤ T702.heap.size := K702.1
      have R702 : CHr Z consts_1 s.vm h0 T702.vm T702.heap := R701.trans ch702
      have lt702_0 : @LT.lt Nat _ x_702 T702.heap.size := f702_0.lt
      have ltv702_0 : @LT.lt Nat _ t_702 T702.heap.size := f702_0.ltv
      refine own_Go.tr st702 ?_
      show own_Go _ _ _ _ (T702.setTop (mkF m 88 #[.val (.int p1), .val (.int p2), .val (.int p3), .val (.int p4), .val (.int p5), .val (.int p6), .val (.int ln), .val (.int rn), .val (.int r_636), .val (.int r_637), .val (.int r_636), .val (.int r_637), .val (.ref x_701), .unset, .unset, .unset] [(.ref x_702)]))
      refine own_Go.st (fun _ k => XS.astore Y702.here hx rfl (hb hby at_88) rfl rfl (l' := #[.val (.int p1), .val (.int p2), .val (.int p3), .val (.int p4), .val (.int p5), .val (.int p6), .val (.int ln), .val (.int rn), .val (.int r_636), .val (.int r_637), .val (.int r_636), .val (.int r_637), .val (.ref x_701), .val (.ref x_702), .unset, .unset]) rfl k) ?_
      show own_Go _ _ _ _ (T702.setTop (mkF m 90 #[.val (.int p1), .val (.int p2), .val (.int p3), .val (.int p4), .val (.int p5), .val (.int p6), .val (.int ln), .val (.int rn), .val (.int r_636), .val (.int r_637), .val (.int r_636), .val (.int r_637), .val (.ref x_701), .val (.ref x_702), .unset, .unset] []))
      refine own_Go.st (fun _ k => XS.aload Y702.here hx rfl (hb hby at_90) rfl rfl k) ?_
      show own_Go _ _ _ _ (T702.setTop (mkF m 92 #[.val (.int p1), .val (.int p2), .val (.int p3), .val (.int p4), .val (.int p5), .val (.int p6), .val (.int ln), .val (.int rn), .val (.int r_636), .val (.int r_637), .val (.int r_636), .val (.int r_637), .val (.ref x_701), .val (.ref x_702), .unset, .unset] [(.ref x_701)]))
      refine own_Go.st (fun _ k => XS.aload Y702.here hx rfl (hb hby at_92) rfl rfl k) ?_
      show own_Go _ _ _ _ (T702.setTop (mkF m 94 #[.val (.int p1), .val (.int p2), .val (.int p3), .val (.int p4), .val (.int p5), .val (.int p6), .val (.int ln), .val (.int rn), .val (.int r_636), .val (.int r_637), .val (.int r_636), .val (.int r_637), .val (.ref x_701), .val (.ref x_702), .unset, .unset] [(.ref x_702), (.ref x_701)]))
      have f705 : own_Str Z T702.heap x_701 t_701 cs_701 := f701_0.keep K702 nin0 nin0
      have f706 : Old Z Z.heap.size T702.heap := f703.keep K702 all0
      obtain ⟨_, _, ⟨T704, L704, k704, n704⟩, -, X704, ⟨Lc704, hQ704, l704, y704, z704⟩, st704⟩ := Jvm.LawKit.callS Y702 hx (y := (⟨"com/example/keep_to_layer/keeptolayer/model/ClassNames", "compare", "(Ljava/lang/String;Ljava/lang/String;)I"⟩ : MethodName)) hown702 (mvT hZ702 (hw _ (List.mem_of_getElem? (i := 34) rfl))) (mvT hZ702 (hw _ (List.mem_of_getElem? (i := 35) rfl))) (mvT hZ702 (hw _ (List.mem_of_getElem? (i := 36) rfl))) (mvT hZ702 (hw _ (List.mem_of_getElem? (i := 37) rfl))) (by decide) (backOf (W := 0) (rm_compare l Z a0 hw [] x_701 x_702 (own_pts ln r_636 r_637) (own_pts rn r_636 r_637) t_701 t_702 cs_701 cs_702 zc fm T702.heap f706 f705 f702_0 st_COMPACT_STRINGS st_SIOOBE_FORMATTER st__assertionsDisabled st_HI_BYTE_SHIFT st_LO_BYTE_SHIFT pr701_0 pr702_0 (own_ptsV pr636_0 pr637_0) (own_ptsV pr636_0 pr637_0) (by first | assumption | decide) (by first | assumption | decide)) hZ702 (hw _ (List.mem_of_getElem? (i := 37) rfl)) (hw _ (List.mem_of_getElem? (i := 36) rfl)) (by decide) (by decide)) (g := (mkF m 94 #[.val (.int p1), .val (.int p2), .val (.int p3), .val (.int p4), .val (.int p5), .val (.int p6), .val (.int ln), .val (.int rn), .val (.int r_636), .val (.int r_637), .val (.int r_636), .val (.int r_637), .val (.ref x_701), .val (.ref x_702), .unset, .unset] [(.ref x_702), (.ref x_701)])) rfl (by rw [hml]; rfl) (argsL := [(.ref x_701), (.ref x_702)]) (rest := []) (lenOf pd_611 rfl) rfl (by show 2 * 0 + _ ≤ _; exact Nat.le_of_eq rfl) (hb hby at_94) (fun _ _ => ⟨rfl, rfl, (by decide : 12 + 0 ≤ _), (by decide : 40 + 0 ≤ _)⟩)
      dsimp only [Pt.U, Pt.locs, Pt.cells, Pt.slots] at X704 l704 y704 z704 st704 hQ704
      subst l704 y704 z704
      obtain ⟨rfl, N704q, K704⟩ := hQ704
      have N704 := Fr.app N702 N704q
      refine own_Go.st st704 ?_
      show own_Go _ _ _ _ (T704.setTop (mkF m 97 #[.val (.int p1), .val (.int p2), .val (.int p3), .val (.int p4), .val (.int p5), .val (.int p6), .val (.int ln), .val (.int rn), .val (.int r_636), .val (.int r_637), .val (.int r_636), .val (.int r_637), .val (.ref x_701), .val (.ref x_702), .unset, .unset] [(.int (own_cmpL (own_pts ln r_636 r_637) (own_pts rn r_636 r_637)))]))
      refine own_Go.st (fun _ k => XS.istore X704.here hx rfl (hb hby at_97) rfl (l' := #[.val (.int p1), .val (.int p2), .val (.int p3), .val (.int p4), .val (.int p5), .val (.int p6), .val (.int ln), .val (.int rn), .val (.int r_636), .val (.int r_637), .val (.int r_636), .val (.int r_637), .val (.ref x_701), .val (.ref x_702), .val (.int (own_cmpL (own_pts ln r_636 r_637) (own_pts rn r_636 r_637))), .unset]) rfl k) ?_
      show own_Go _ _ _ _ (T704.setTop (mkF m 99 #[.val (.int p1), .val (.int p2), .val (.int p3), .val (.int p4), .val (.int p5), .val (.int p6), .val (.int ln), .val (.int rn), .val (.int r_636), .val (.int r_637), .val (.int r_636), .val (.int r_637), .val (.ref x_701), .val (.ref x_702), .val (.int (own_cmpL (own_pts ln r_636 r_637) (own_pts rn r_636 r_637))), .unset] []))
      refine own_Go.st (fun _ k => XS.iload X704.here hx rfl (hb hby at_99) rfl k) ?_
      show own_Go _ _ _ _ (T704.setTop (mkF m 101 #[.val (.int p1), .val (.int p2), .val (.int p3), .val (.int p4), .val (.int p5), .val (.int p6), .val (.int ln), .val (.int rn), .val (.int r_636), .val (.int r_637), .val (.int r_636), .val (.int r_637), .val (.ref x_701), .val (.ref x_702), .val (.int (own_cmpL (own_pts ln r_636 r_637) (own_pts rn r_636 r_637))), .unset] [(.int ln)]))
      refine own_Go.st (fun _ k => XS.iload X704.here hx rfl (hb hby at_101) rfl k) ?_
      show own_Go _ _ _ _ (T704.setTop (mkF m 103 #[.val (.int p1), .val (.int p2), .val (.int p3), .val (.int p4), .val (.int p5), .val (.int p6), .val (.int ln), .val (.int rn), .val (.int r_636), .val (.int r_637), .val (.int r_636), .val (.int r_637), .val (.ref x_701), .val (.ref x_702), .val (.int (own_cmpL (own_pts ln r_636 r_637) (own_pts rn r_636 r_637))), .unset] [(.int r_636), (.int ln)]))
      refine own_Go.st (fun _ k => XS.iload X704.here hx rfl (hb hby at_103) rfl k) ?_
      show own_Go _ _ _ _ (T704.setTop (mkF m 105 #[.val (.int p1), .val (.int p2), .val (.int p3), .val (.int p4), .val (.int p5), .val (.int p6), .val (.int ln), .val (.int rn), .val (.int r_636), .val (.int r_637), .val (.int r_636), .val (.int r_637), .val (.ref x_701), .val (.ref x_702), .val (.int (own_cmpL (own_pts ln r_636 r_637) (own_pts rn r_636 r_637))), .unset] [(.int r_637), (.int r_636), (.int ln)]))
      refine own_Go.st (fun _ k => XS.iload X704.here hx rfl (hb hby at_105) rfl k) ?_
      show own_Go _ _ _ _ (T704.setTop (mkF m 107 #[.val (.int p1), .val (.int p2), .val (.int p3), .val (.int p4), .val (.int p5), .val (.int p6), .val (.int ln), .val (.int rn), .val (.int r_636), .val (.int r_637), .val (.int r_636), .val (.int r_637), .val (.ref x_701), .val (.ref x_702), .val (.int (own_cmpL (own_pts ln r_636 r_637) (own_pts rn r_636 r_637))), .unset] [(.int rn), (.int r_637), (.int r_636), (.int ln)]))
      refine own_Go.st (fun _ k => XS.iload X704.here hx rfl (hb hby at_107) rfl k) ?_
      show own_Go _ _ _ _ (T704.setTop (mkF m 109 #[.val (.int p1), .val (.int p2), .val (.int p3), .val (.int p4), .val (.int p5), .val (.int p6), .val (.int ln), .val (.int rn), .val (.int r_636), .val (.int r_637), .val (.int r_636), .val (.int r_637), .val (.ref x_701), .val (.ref x_702), .val (.int (own_cmpL (own_pts ln r_636 r_637) (own_pts rn r_636 r_637))), .unset] [(.int r_636), (.int rn), (.int r_637), (.int r_636), (.int ln)]))
      refine own_Go.st (fun _ k => XS.iload X704.here hx rfl (hb hby at_109) rfl k) ?_
      show own_Go _ _ _ _ (T704.setTop (mkF m 111 #[.val (.int p1), .val (.int p2), .val (.int p3), .val (.int p4), .val (.int p5), .val (.int p6), .val (.int ln), .val (.int rn), .val (.int r_636), .val (.int r_637), .val (.int r_636), .val (.int r_637), .val (.ref x_701), .val (.ref x_702), .val (.int (own_cmpL (own_pts ln r_636 r_637) (own_pts rn r_636 r_637))), .unset] [(.int r_637), (.int r_636), (.int rn), (.int r_637), (.int r_636), (.int ln)]))
      obtain ⟨_, _, ⟨T707, L707, k707, n707⟩, -, X707, ⟨Lc707, hQ707, l707, y707, z707⟩, st707⟩ := Jvm.LawKit.callS X704 hx (y := (⟨"com/example/keep_to_layer/keeptolayer/model/ClassNamesComparePinLaw", "ref", "(IIIIII)I"⟩ : MethodName)) hown702 (mvT hZ702 (hw _ (List.mem_of_getElem? (i := 53) rfl))) (mvT hZ702 (hw _ (List.mem_of_getElem? (i := 54) rfl))) (mvT hZ702 (hw _ (List.mem_of_getElem? (i := 3) rfl))) (mvT hZ702 (hw _ (List.mem_of_getElem? (i := 55) rfl))) (by decide) (backOf (W := 0) (rm_ref l Z a0 hw [] ln r_636 r_637 rn r_636 r_637 T702.heap f706 hln hrn) hZ702 (hw _ (List.mem_of_getElem? (i := 55) rfl)) (hw _ (List.mem_of_getElem? (i := 3) rfl)) (by decide) (by decide)) (g := (mkF m 111 #[.val (.int p1), .val (.int p2), .val (.int p3), .val (.int p4), .val (.int p5), .val (.int p6), .val (.int ln), .val (.int rn), .val (.int r_636), .val (.int r_637), .val (.int r_636), .val (.int r_637), .val (.ref x_701), .val (.ref x_702), .val (.int (own_cmpL (own_pts ln r_636 r_637) (own_pts rn r_636 r_637))), .unset] [(.int r_637), (.int r_636), (.int rn), (.int r_637), (.int r_636), (.int ln)])) rfl (by rw [hml]; rfl) (argsL := [(.int ln), (.int r_636), (.int r_637), (.int rn), (.int r_636), (.int r_637)]) (rest := []) (lenOf pd_612 rfl) rfl (by show 2 * 0 + _ ≤ _; exact Nat.le_of_eq rfl) (hb hby at_111) (fun _ _ => ⟨rfl, K704, (by decide : 12 + 0 ≤ _), (by decide : 40 + 0 ≤ _)⟩)
      dsimp only [Pt.U, Pt.locs, Pt.cells, Pt.slots] at X707 l707 y707 z707 st707 hQ707
      subst l707 y707 z707
      obtain ⟨rfl, N707q, K707⟩ := hQ707
      have N707 := Fr.app N704 N707q
      refine own_Go.st st707 ?_
      show own_Go _ _ _ _ (T707.setTop (mkF m 114 #[.val (.int p1), .val (.int p2), .val (.int p3), .val (.int p4), .val (.int p5), .val (.int p6), .val (.int ln), .val (.int rn), .val (.int r_636), .val (.int r_637), .val (.int r_636), .val (.int r_637), .val (.ref x_701), .val (.ref x_702), .val (.int (own_cmpL (own_pts ln r_636 r_637) (own_pts rn r_636 r_637))), .unset] [(.int (own_cmpL (own_pts ln r_636 r_637) (own_pts rn r_636 r_637)))]))
      refine own_Go.st (fun _ k => XS.istore X707.here hx rfl (hb hby at_114) rfl (l' := #[.val (.int p1), .val (.int p2), .val (.int p3), .val (.int p4), .val (.int p5), .val (.int p6), .val (.int ln), .val (.int rn), .val (.int r_636), .val (.int r_637), .val (.int r_636), .val (.int r_637), .val (.ref x_701), .val (.ref x_702), .val (.int (own_cmpL (own_pts ln r_636 r_637) (own_pts rn r_636 r_637))), .val (.int (own_cmpL (own_pts ln r_636 r_637) (own_pts rn r_636 r_637)))]) rfl k) ?_
      show own_Go _ _ _ _ (T707.setTop (mkF m 116 #[.val (.int p1), .val (.int p2), .val (.int p3), .val (.int p4), .val (.int p5), .val (.int p6), .val (.int ln), .val (.int rn), .val (.int r_636), .val (.int r_637), .val (.int r_636), .val (.int r_637), .val (.ref x_701), .val (.ref x_702), .val (.int (own_cmpL (own_pts ln r_636 r_637) (own_pts rn r_636 r_637))), .val (.int (own_cmpL (own_pts ln r_636 r_637) (own_pts rn r_636 r_637)))] []))
      refine own_Go.st (fun _ k => XS.iload X707.here hx rfl (hb hby at_116) rfl k) ?_
      show own_Go _ _ _ _ (T707.setTop (mkF m 118 #[.val (.int p1), .val (.int p2), .val (.int p3), .val (.int p4), .val (.int p5), .val (.int p6), .val (.int ln), .val (.int rn), .val (.int r_636), .val (.int r_637), .val (.int r_636), .val (.int r_637), .val (.ref x_701), .val (.ref x_702), .val (.int (own_cmpL (own_pts ln r_636 r_637) (own_pts rn r_636 r_637))), .val (.int (own_cmpL (own_pts ln r_636 r_637) (own_pts rn r_636 r_637)))] [(.int (own_cmpL (own_pts ln r_636 r_637) (own_pts rn r_636 r_637)))]))
      by_cases h118 : (own_cmpL (own_pts ln r_636 r_637) (own_pts rn r_636 r_637)) < (0 : Int32)
      ·
        refine own_Go.st (fun _ k => XS.ifNo X707.here hx rfl (hb hby at_118) rfl ((if0 _ _).trans (tlt h118).2.1) k) ?_
        show own_Go _ _ _ _ (T707.setTop (mkF m 121 #[.val (.int p1), .val (.int p2), .val (.int p3), .val (.int p4), .val (.int p5), .val (.int p6), .val (.int ln), .val (.int rn), .val (.int r_636), .val (.int r_637), .val (.int r_636), .val (.int r_637), .val (.ref x_701), .val (.ref x_702), .val (.int (own_cmpL (own_pts ln r_636 r_637) (own_pts rn r_636 r_637))), .val (.int (own_cmpL (own_pts ln r_636 r_637) (own_pts rn r_636 r_637)))] []))
        refine own_Go.st (fun _ k => XS.iload X707.here hx rfl (hb hby at_121) rfl k) ?_
        show own_Go _ _ _ _ (T707.setTop (mkF m 123 #[.val (.int p1), .val (.int p2), .val (.int p3), .val (.int p4), .val (.int p5), .val (.int p6), .val (.int ln), .val (.int rn), .val (.int r_636), .val (.int r_637), .val (.int r_636), .val (.int r_637), .val (.ref x_701), .val (.ref x_702), .val (.int (own_cmpL (own_pts ln r_636 r_637) (own_pts rn r_636 r_637))), .val (.int (own_cmpL (own_pts ln r_636 r_637) (own_pts rn r_636 r_637)))] [(.int (own_cmpL (own_pts ln r_636 r_637) (own_pts rn r_636 r_637)))]))
        have hc708 : (own_cmpL (own_pts ln r_636 r_637) (own_pts rn r_636 r_637)) < (0 : Int32) := h118
        refine own_Go.st (fun _ k => XS.ifNo X707.here hx rfl (hb hby at_123) rfl ((if0 _ _).trans (tlt hc708).2.1) k) ?_
        show own_Go _ _ _ _ (T707.setTop (mkF m 126 #[.val (.int p1), .val (.int p2), .val (.int p3), .val (.int p4), .val (.int p5), .val (.int p6), .val (.int ln), .val (.int rn), .val (.int r_636), .val (.int r_637), .val (.int r_636), .val (.int r_637), .val (.ref x_701), .val (.ref x_702), .val (.int (own_cmpL (own_pts ln r_636 r_637) (own_pts rn r_636 r_637))), .val (.int (own_cmpL (own_pts ln r_636 r_637) (own_pts rn r_636 r_637)))] []))
        refine own_Go.st (fun _ k => XS.iconst X707.here hx rfl (hb hby at_126) k) ?_
        show own_Go _ _ _ _ (T707.setTop (mkF m 127 #[.val (.int p1), .val (.int p2), .val (.int p3), .val (.int p4), .val (.int p5), .val (.int p6), .val (.int ln), .val (.int rn), .val (.int r_636), .val (.int r_637), .val (.int r_636), .val (.int r_637), .val (.ref x_701), .val (.ref x_702), .val (.int (own_cmpL (own_pts ln r_636 r_637) (own_pts rn r_636 r_637))), .val (.int (own_cmpL (own_pts ln r_636 r_637) (own_pts rn r_636 r_637)))] [(.int (1 : Int32))]))
        refine own_Go.st (fun _ k => XS.goto X707.here hx rfl (pc0 := 127) (pc' := 131) rfl (hb hby at_127) (by decide) (by decide) k) ?_
        show own_Go _ _ _ _ (T707.setTop (mkF m 131 #[.val (.int p1), .val (.int p2), .val (.int p3), .val (.int p4), .val (.int p5), .val (.int p6), .val (.int ln), .val (.int rn), .val (.int r_636), .val (.int r_637), .val (.int r_636), .val (.int r_637), .val (.ref x_701), .val (.ref x_702), .val (.int (own_cmpL (own_pts ln r_636 r_637) (own_pts rn r_636 r_637))), .val (.int (own_cmpL (own_pts ln r_636 r_637) (own_pts rn r_636 r_637)))] [(.int (1 : Int32))]))
        obtain ⟨fs709, hr709, hrun709, hend709, hret709⟩ := X707.leaveW hS702 (by rw [K707]; exact (by omega)) (v := some (.int (nar .boolean (1 : Int32)))) (fun h => by rw [Bd.returns] at h; cases h)
        have K710 : Keep h0 T701.heap [] := (Keep.refl h0 []).trans K701 all0
        have K711 : Keep h0 T702.heap [] := K710.trans K702 all0
        subst hPP
        refine ⟨_, _, retN X707 hx (t := .boolean) Bd.returns (by simp) (hb hby at_131) hr709, hrun709, hend709, _, _, rfl, ?_, ?_, hret709.1, hret709.2.1, hret709.2.2.1, hret709.2.2.2.mono (by decide) (by decide)⟩
        · show Q_law Z _ _ _ _ _ _ _ _ h0 _ T707.heap _
          rw [K707]
          exact ⟨rfl, N707, K711⟩
        · have hfin := R702.trans (CHv.at X707 hZ702 hEL R702.1)
          rw [← hh] at hfin
          show CHr Z consts_1 s.vm s.heap T707.vm T707.heap
          rw [K707]
          exact hfin
      ·
        refine own_Go.st (fun _ k => XS.ifYes X707.here hx rfl (pc0 := 118) (pc' := 132) rfl (hb hby at_118) rfl ((if0 _ _).trans (flt h118).2.1) (by decide) (by decide) k) ?_
        show own_Go _ _ _ _ (T707.setTop (mkF m 132 #[.val (.int p1), .val (.int p2), .val (.int p3), .val (.int p4), .val (.int p5), .val (.int p6), .val (.int ln), .val (.int rn), .val (.int r_636), .val (.int r_637), .val (.int r_636), .val (.int r_637), .val (.ref x_701), .val (.ref x_702), .val (.int (own_cmpL (own_pts ln r_636 r_637) (own_pts rn r_636 r_637))), .val (.int (own_cmpL (own_pts ln r_636 r_637) (own_pts rn r_636 r_637)))] []))
        refine own_Go.st (fun _ k => XS.iload X707.here hx rfl (hb hby at_132) rfl k) ?_
        show own_Go _ _ _ _ (T707.setTop (mkF m 134 #[.val (.int p1), .val (.int p2), .val (.int p3), .val (.int p4), .val (.int p5), .val (.int p6), .val (.int ln), .val (.int rn), .val (.int r_636), .val (.int r_637), .val (.int r_636), .val (.int r_637), .val (.ref x_701), .val (.ref x_702), .val (.int (own_cmpL (own_pts ln r_636 r_637) (own_pts rn r_636 r_637))), .val (.int (own_cmpL (own_pts ln r_636 r_637) (own_pts rn r_636 r_637)))] [(.int (own_cmpL (own_pts ln r_636 r_637) (own_pts rn r_636 r_637)))]))
        by_cases h134 : (own_cmpL (own_pts ln r_636 r_637) (own_pts rn r_636 r_637)) = (0 : Int32)
        ·
          refine own_Go.st (fun _ k => XS.ifNo X707.here hx rfl (hb hby at_134) rfl ((if0 _ _).trans (teq h134).2) k) ?_
          show own_Go _ _ _ _ (T707.setTop (mkF m 137 #[.val (.int p1), .val (.int p2), .val (.int p3), .val (.int p4), .val (.int p5), .val (.int p6), .val (.int ln), .val (.int rn), .val (.int r_636), .val (.int r_637), .val (.int r_636), .val (.int r_637), .val (.ref x_701), .val (.ref x_702), .val (.int (own_cmpL (own_pts ln r_636 r_637) (own_pts rn r_636 r_637))), .val (.int (own_cmpL (own_pts ln r_636 r_637) (own_pts rn r_636 r_637)))] []))
          refine own_Go.st (fun _ k => XS.iload X707.here hx rfl (hb hby at_137) rfl k) ?_
          show own_Go _ _ _ _ (T707.setTop (mkF m 139 #[.val (.int p1), .val (.int p2), .val (.int p3), .val (.int p4), .val (.int p5), .val (.int p6), .val (.int ln), .val (.int rn), .val (.int r_636), .val (.int r_637), .val (.int r_636), .val (.int r_637), .val (.ref x_701), .val (.ref x_702), .val (.int (own_cmpL (own_pts ln r_636 r_637) (own_pts rn r_636 r_637))), .val (.int (own_cmpL (own_pts ln r_636 r_637) (own_pts rn r_636 r_637)))] [(.int (own_cmpL (own_pts ln r_636 r_637) (own_pts rn r_636 r_637)))]))
          have hc712 : (own_cmpL (own_pts ln r_636 r_637) (own_pts rn r_636 r_637)) = (0 : Int32) := h134
          refine own_Go.st (fun _ k => XS.ifNo X707.here hx rfl (hb hby at_139) rfl ((if0 _ _).trans (teq hc712).2) k) ?_
          show own_Go _ _ _ _ (T707.setTop (mkF m 142 #[.val (.int p1), .val (.int p2), .val (.int p3), .val (.int p4), .val (.int p5), .val (.int p6), .val (.int ln), .val (.int rn), .val (.int r_636), .val (.int r_637), .val (.int r_636), .val (.int r_637), .val (.ref x_701), .val (.ref x_702), .val (.int (own_cmpL (own_pts ln r_636 r_637) (own_pts rn r_636 r_637))), .val (.int (own_cmpL (own_pts ln r_636 r_637) (own_pts rn r_636 r_637)))] []))
          refine own_Go.st (fun _ k => XS.iconst X707.here hx rfl (hb hby at_142) k) ?_
          show own_Go _ _ _ _ (T707.setTop (mkF m 143 #[.val (.int p1), .val (.int p2), .val (.int p3), .val (.int p4), .val (.int p5), .val (.int p6), .val (.int ln), .val (.int rn), .val (.int r_636), .val (.int r_637), .val (.int r_636), .val (.int r_637), .val (.ref x_701), .val (.ref x_702), .val (.int (own_cmpL (own_pts ln r_636 r_637) (own_pts rn r_636 r_637))), .val (.int (own_cmpL (own_pts ln r_636 r_637) (own_pts rn r_636 r_637)))] [(.int (1 : Int32))]))
          refine own_Go.st (fun _ k => XS.goto X707.here hx rfl (pc0 := 143) (pc' := 147) rfl (hb hby at_143) (by decide) (by decide) k) ?_
          show own_Go _ _ _ _ (T707.setTop (mkF m 147 #[.val (.int p1), .val (.int p2), .val (.int p3), .val (.int p4), .val (.int p5), .val (.int p6), .val (.int ln), .val (.int rn), .val (.int r_636), .val (.int r_637), .val (.int r_636), .val (.int r_637), .val (.ref x_701), .val (.ref x_702), .val (.int (own_cmpL (own_pts ln r_636 r_637) (own_pts rn r_636 r_637))), .val (.int (own_cmpL (own_pts ln r_636 r_637) (own_pts rn r_636 r_637)))] [(.int (1 : Int32))]))
          obtain ⟨fs713, hr713, hrun713, hend713, hret713⟩ := X707.leaveW hS702 (by rw [K707]; exact (by omega)) (v := some (.int (nar .boolean (1 : Int32)))) (fun h => by rw [Bd.returns] at h; cases h)
          have K714 : Keep h0 T701.heap [] := (Keep.refl h0 []).trans K701 all0
          have K715 : Keep h0 T702.heap [] := K714.trans K702 all0
          subst hPP
          refine ⟨_, _, retN X707 hx (t := .boolean) Bd.returns (by simp) (hb hby at_147) hr713, hrun713, hend713, _, _, rfl, ?_, ?_, hret713.1, hret713.2.1, hret713.2.2.1, hret713.2.2.2.mono (by decide) (by decide)⟩
          · show Q_law Z _ _ _ _ _ _ _ _ h0 _ T707.heap _
            rw [K707]
            exact ⟨rfl, N707, K715⟩
          · have hfin := R702.trans (CHv.at X707 hZ702 hEL R702.1)
            rw [← hh] at hfin
            show CHr Z consts_1 s.vm s.heap T707.vm T707.heap
            rw [K707]
            exact hfin
        ·
          refine own_Go.st (fun _ k => XS.ifYes X707.here hx rfl (pc0 := 134) (pc' := 148) rfl (hb hby at_134) rfl ((if0 _ _).trans (feq h134).2) (by decide) (by decide) k) ?_
          show own_Go _ _ _ _ (T707.setTop (mkF m 148 #[.val (.int p1), .val (.int p2), .val (.int p3), .val (.int p4), .val (.int p5), .val (.int p6), .val (.int ln), .val (.int rn), .val (.int r_636), .val (.int r_637), .val (.int r_636), .val (.int r_637), .val (.ref x_701), .val (.ref x_702), .val (.int (own_cmpL (own_pts ln r_636 r_637) (own_pts rn r_636 r_637))), .val (.int (own_cmpL (own_pts ln r_636 r_637) (own_pts rn r_636 r_637)))] []))
          refine own_Go.st (fun _ k => XS.iload X707.here hx rfl (hb hby at_148) rfl k) ?_
          show own_Go _ _ _ _ (T707.setTop (mkF m 150 #[.val (.int p1), .val (.int p2), .val (.int p3), .val (.int p4), .val (.int p5), .val (.int p6), .val (.int ln), .val (.int rn), .val (.int r_636), .val (.int r_637), .val (.int r_636), .val (.int r_637), .val (.ref x_701), .val (.ref x_702), .val (.int (own_cmpL (own_pts ln r_636 r_637) (own_pts rn r_636 r_637))), .val (.int (own_cmpL (own_pts ln r_636 r_637) (own_pts rn r_636 r_637)))] [(.int (own_cmpL (own_pts ln r_636 r_637) (own_pts rn r_636 r_637)))]))
          have hc716 : (0 : Int32) < (own_cmpL (own_pts ln r_636 r_637) (own_pts rn r_636 r_637)) := own_pos h118 h134
          refine own_Go.st (fun _ k => XS.ifNo X707.here hx rfl (hb hby at_150) rfl ((if0 _ _).trans (tlt hc716).2.2.2) k) ?_
          show own_Go _ _ _ _ (T707.setTop (mkF m 153 #[.val (.int p1), .val (.int p2), .val (.int p3), .val (.int p4), .val (.int p5), .val (.int p6), .val (.int ln), .val (.int rn), .val (.int r_636), .val (.int r_637), .val (.int r_636), .val (.int r_637), .val (.ref x_701), .val (.ref x_702), .val (.int (own_cmpL (own_pts ln r_636 r_637) (own_pts rn r_636 r_637))), .val (.int (own_cmpL (own_pts ln r_636 r_637) (own_pts rn r_636 r_637)))] []))
          refine own_Go.st (fun _ k => XS.iconst X707.here hx rfl (hb hby at_153) k) ?_
          show own_Go _ _ _ _ (T707.setTop (mkF m 154 #[.val (.int p1), .val (.int p2), .val (.int p3), .val (.int p4), .val (.int p5), .val (.int p6), .val (.int ln), .val (.int rn), .val (.int r_636), .val (.int r_637), .val (.int r_636), .val (.int r_637), .val (.ref x_701), .val (.ref x_702), .val (.int (own_cmpL (own_pts ln r_636 r_637) (own_pts rn r_636 r_637))), .val (.int (own_cmpL (own_pts ln r_636 r_637) (own_pts rn r_636 r_637)))] [(.int (1 : Int32))]))
          refine own_Go.st (fun _ k => XS.goto X707.here hx rfl (pc0 := 154) (pc' := 158) rfl (hb hby at_154) (by decide) (by decide) k) ?_
          show own_Go _ _ _ _ (T707.setTop (mkF m 158 #[.val (.int p1), .val (.int p2), .val (.int p3), .val (.int p4), .val (.int p5), .val (.int p6), .val (.int ln), .val (.int rn), .val (.int r_636), .val (.int r_637), .val (.int r_636), .val (.int r_637), .val (.ref x_701), .val (.ref x_702), .val (.int (own_cmpL (own_pts ln r_636 r_637) (own_pts rn r_636 r_637))), .val (.int (own_cmpL (own_pts ln r_636 r_637) (own_pts rn r_636 r_637)))] [(.int (1 : Int32))]))
          obtain ⟨fs717, hr717, hrun717, hend717, hret717⟩ := X707.leaveW hS702 (by rw [K707]; exact (by omega)) (v := some (.int (nar .boolean (1 : Int32)))) (fun h => by rw [Bd.returns] at h; cases h)
          have K718 : Keep h0 T701.heap [] := (Keep.refl h0 []).trans K701 all0
          have K719 : Keep h0 T702.heap [] := K718.trans K702 all0
          subst hPP
          refine ⟨_, _, retN X707 hx (t := .boolean) Bd.returns (by simp) (hb hby at_158) hr717, hrun717, hend717, _, _, rfl, ?_, ?_, hret717.1, hret717.2.1, hret717.2.2.1, hret717.2.2.2.mono (by decide) (by decide)⟩
          · show Q_law Z _ _ _ _ _ _ _ _ h0 _ T707.heap _
            rw [K707]
            exact ⟨rfl, N707, K719⟩
          · have hfin := R702.trans (CHv.at X707 hZ702 hEL R702.1)
            rw [← hh] at hfin
            show CHr Z consts_1 s.vm s.heap T707.vm T707.heap
            rw [K707]
            exact hfin

theorem own_staEq {s : State} {args : Array Value} {C n d : String} {v : Int32} (h : (Jvm.Cond.eq (Jvm.Term.static C n d) (Jvm.Term.int v)).before args s = true) (hi : (Jvm.Cond.initializedFor C n d).before args s = true) : Sta s s.heap C n d (.int v) := by
  obtain ⟨x, y, e1, e2, -, -⟩ := cmp_v (Or.inl (Cond.before_iff.mp h))
  have e3 : y = .int v := by simpa [Term.eval] using e2.symm
  subst e3
  have e4 : x = .int v := by
    have q := Cond.before_iff.mp h
    simp only [Cond.value, e1, e2] at q
    cases x <;> simp_all
  subst e4
  exact Sta.start e1 (Or.inl hi)

set_option maxRecDepth 65536 in
set_option maxHeartbeats 40000000 in
theorem comes_1 {Post : Tables → Env → Array Value → State → Outcome → State → Prop} (hpost : ∀ tb e args s v u, (limb_1_1.after args s (.returned v) u = true ∧ limb_1_2.after args s (.returned v) u = true ∧ True) → ReturnedEndW s (.returned v) u (Jvm.fieldLocs frame_1_writes args s ++ Jvm.arrayLocs frame_1_arrays args s ++ Jvm.staticLocs frame_1_statics s) 32 1216 → Post tb e args s (.returned v) u) :
    ArmFor flags0 classFile x code maxLocals ret World_1 tables_1 room_1 Calls_1 rest_1 Pre_1 Post := by
  intro l hfl _ _ p e ha hc hk s m args below hf hA hF happ hP
  obtain ⟨hcalls, hrest, hpre⟩ := hP
  obtain ⟨-, -, -, hnamed, -, -, -, hat⟩ := (Spec.applies_iff hf).mp happ
  obtain ⟨hg, hn⟩ := and_e (Cond.before_iff.mp (show (Jvm.Cond.and given_1 narrow_1).before args s = true from hpre))
  obtain ⟨g0, r0⟩ := and_e hg
  obtain ⟨g1, r1⟩ := and_e r0
  obtain ⟨g2, r2⟩ := and_e r1
  obtain ⟨g3, r3⟩ := and_e r2
  obtain ⟨g4, r4⟩ := and_e r3
  obtain ⟨g5, r5⟩ := and_e r4
  obtain ⟨w0, w1, w2, w3, w4, w5, rfl⟩ : ∃ w0 w1 w2 w3 w4 w5 : Value, args = #[w0, w1, w2, w3, w4, w5] := by
    have hs : args.size = 6 := by simpa [Cond.value, given_1] using g0
    obtain ⟨L⟩ := args
    match L, hs with
    | [w0, w1, w2, w3, w4, w5], _ => exact ⟨w0, w1, w2, w3, w4, w5, rfl⟩
  have hw := fun d (hd : d ∈ tables_1) => atoms_spec (ws := Jvm.Cond.code x code maxLocals ret :: tables_1) hat d (List.mem_cons_of_mem _ hd)
  obtain ⟨hsets, hown0⟩ := atoms_of _ (rest_1_c_eq ▸ (show rest_1_c.before _ s = true from hrest))
  have hfit : Fit s := fun {y c} hc i hi => by
    obtain ⟨ha, rfl⟩ := Array.getElem?_eq_some_iff.mp hc
    have q := List.all_eq_true.mp ((Array.all_eq_true_iff_forall_mem.mp hF) _ (Array.getElem_mem ha)) i (List.mem_range.mpr hi)
    simpa [Array.getElem?_eq_getElem hi] using q
  obtain ⟨i0, e0⟩ := is_v g1
  obtain rfl : w0 = (.int i0) := Option.some.inj e0
  obtain ⟨i1, e1⟩ := is_v g2
  obtain rfl : w1 = (.int i1) := Option.some.inj e1
  obtain ⟨i2, e2⟩ := is_v g3
  obtain rfl : w2 = (.int i2) := Option.some.inj e2
  obtain ⟨i3, e3⟩ := is_v g4
  obtain rfl : w3 = (.int i3) := Option.some.inj e3
  obtain ⟨i4, e4⟩ := is_v g5
  obtain rfl : w4 = (.int i4) := Option.some.inj e4
  obtain ⟨i5, e5⟩ := is_v r5
  obtain rfl : w5 = (.int i5) := Option.some.inj e5
  obtain ⟨zc, ez⟩ := is_v (Cond.before_iff.mp (hsets _ (List.mem_of_getElem? (i := 1) rfl)))
  have st_zc : Sta s s.heap "java/lang/String" "COMPACT_STRINGS" "Z" (.int zc) := Sta.start ez (Or.inl (hsets _ (List.mem_of_getElem? (i := 0) rfl)))
  have hzc : ¬ (zc = (0 : Int32)) := gotF (Cond.eq_ints ez (Term.int_eval (0))) (not_v (Cond.before_iff.mp (hsets _ (List.mem_of_getElem? (i := 2) rfl))))
  obtain ⟨fm, ef, hfm⟩ := isR_v (Cond.before_iff.mp (hsets _ (List.mem_of_getElem? (i := 8) rfl)))
  have st_fm : Sta s s.heap "jdk/internal/util/Preconditions" "SIOOBE_FORMATTER" "Ljava/util/function/BiFunction;" fm := Sta.start ef (Or.inl (hsets _ (List.mem_of_getElem? (i := 7) rfl)))
  have hEL : EW s _ consts_1 := (EW.cons (hw _ (List.mem_of_getElem? (i := 26) rfl)) (by decide) EW.nil)
  have hC0 : CHv s consts_1 s.vm s.heap := CHv.start hEL (fun p hp => hcalls.1 p hp) (hsets _ (List.mem_of_getElem? (i := 2) rfl)) (hw _ (List.mem_of_getElem? (i := 27) rfl)) (hw _ (List.mem_of_getElem? (i := 13) rfl))
  have st__assertionsDisabled : Sta s s.heap "java/lang/StringUTF16" "$assertionsDisabled" "Z" (.int (1 : Int32)) := own_staEq (hsets _ (List.mem_of_getElem? (i := 12) rfl)) (hsets _ (List.mem_of_getElem? (i := 11) rfl))
  have st_HI_BYTE_SHIFT : Sta s s.heap "java/lang/StringUTF16" "HI_BYTE_SHIFT" "I" (.int (0 : Int32)) := own_staEq (hsets _ (List.mem_of_getElem? (i := 15) rfl)) (hsets _ (List.mem_of_getElem? (i := 14) rfl))
  have st_LO_BYTE_SHIFT : Sta s s.heap "java/lang/StringUTF16" "LO_BYTE_SHIFT" "I" (.int (8 : Int32)) := own_staEq (hsets _ (List.mem_of_getElem? (i := 18) rfl)) (hsets _ (List.mem_of_getElem? (i := 17) rfl))
  obtain ⟨n, o, h1, h2, h3, _, L, rfl, ⟨rfl, N, -⟩, -, hq⟩ := rm_law l s _ hw tables_1 i0 i1 i2 i3 i4 i5 zc fm s.heap hEL (Old.start s) st_zc st_fm st__assertionsDisabled st_HI_BYTE_SHIFT st_LO_BYTE_SHIFT hzc hfm p e ha hc hk s m _ below hf ((Spec.applies_iff_loose hf).mp happ).1 ⟨rfl, State.Warmed39.refl s, rfl, hC0⟩ trivial
  refine ⟨n, _, h1, h2, h3, hpost _ _ _ _ _ _ ⟨Cond.after_iff.mpr rfl, Cond.after_iff.mpr (eq_i res_at (Term.int_eval (1)) rfl), trivial⟩ ⟨hq.1, hq.2.1, hq.2.2.1, (hq.2.2.2.sift fun y hy => Or.inr (N y hy)).mono (by decide) (by decide)⟩⟩
theorem main_1_1 : Claimed_1_1 := comes_1 fun _ _ _ _ _ _ h hF => ⟨h.1, hF⟩
theorem main_1_2 : Claimed_1_2 := comes_1 fun _ _ _ _ _ _ h hF => ⟨h.2.1, hF⟩
end Jvm.Pilot.@@N@@
namespace Jvm.Pilot.@@N@@
open Jvm Jvm.ClassFile Sem Op Lib Jvm.Free Jvm.Stand Jvm.Pilot.@@N@@.Jvm.D
/-! MADE BY PROGRAM (witnessworld.py) out of the Statement's table words and the real class files: 23 classes; the members and pool entries that the words name. The judged class is class 1, her method 7. -/
namespace start1
open Jvm.ClassFile
def u (s : String) : CpInfo := .utf8 (stringToUtf16 s)
/-- a pool by its gaps: so many unusable entries, then the entry; so many at the end -/
def gap : Nat → List CpInfo → List CpInfo
  | 0, r => r
  | n + 1, r => .unusable :: gap n r
def poolList (es : List (Nat × CpInfo)) (last : Nat) : List CpInfo := es.foldr (fun e r => gap e.1 (e.2 :: r)) (gap last [])
def pool (es : List (Nat × CpInfo)) (last : Nat) : Array CpInfo := ⟨poolList es last⟩
def fileOf (pool : Array CpInfo) (this : Nat) (attrs : Array Attribute := #[]) (ms : Array MethodInfo := #[]) (fl : Nat := 33) (sup : Nat := 0) (ifs : Array Nat := #[]) (fds : Array FieldInfo := #[]) : ClassFile where
  minorVersion := 0
  majorVersion := 65
  constantPool := pool
  accessFlags := fl
  thisClass := this
  superClass := sup
  interfaces := ifs
  fields := fds
  methods := ms
  attributes := attrs
def plain (name : String) (sup : Option ClassId) : Class where
  name := name
  kind := .ordinary
  loader := none
  accessFlags := 33
  super := sup
  interfaces := #[]
  cf := none
  fields := #[]
  methods := #[]
  instanceTypes := #[]
  staticTypes := #[]
  resolved := #[]
  callSites := []
  init := .initialized
  statics := none
  mirror := none

def pool0 : Array CpInfo := pool [(5, u "<init>"), (0, u "()V"), (1, .class_ 10), (1, u "java/lang/Object")] 113

def k0c0 : Code := { maxStack := 0, maxLocals := 1, code := object_method_1_code, exceptionTable := #[], attributes := #[] }
def k0m0 : Method := { name := "<init>", desc := "()V", sig := { parameters := [], returnType := none }, accessFlags := 1, code := some k0c0 }
/-- java/lang/Object -/
def k0 : Class := { plain "java/lang/Object" none with
  accessFlags := 33
  interfaces := #[]
  cf := some (fileOf pool0 8 #[] #[{ accessFlags := 1, nameIndex := 5, descriptorIndex := 6, attributes := #[] }] 33 0 #[] #[])
  fields := #[]
  methods := #[k0m0]
  instanceTypes := #[]
  staticTypes := #[]
  resolved := Array.replicate 124 none
  statics := none }

def pool1 : Array CpInfo := pool [(2, .class_ 4), (1, u "java/lang/Object"), (0, u "<init>"), (0, u "()V"), (0, .integer 65535), (0, .integer 55296), (0, .integer 57343), (0, .integer 65536), (0, .integer 1048576), (0, .integer 56320), (0, .class_ 14), (0, u "java/lang/String"), (0, .methodref 13 16), (0, .nameAndType 5 17), (0, u "([C)V"), (0, .methodref 19 20), (0, .class_ 21), (0, .nameAndType 22 23), (0, u "com/example/keep_to_layer/keeptolayer/model/ClassNamesComparePinLaw"), (0, u "hi"), (0, u "(I)C"), (0, .methodref 19 25), (0, .nameAndType 26 23), (0, u "lo"), (0, .methodref 19 28), (0, .nameAndType 29 30), (0, u "cmp"), (0, u "(II)I"), (0, .integer 2147483647), (0, .methodref 19 33), (0, .nameAndType 34 35), (0, u "cp"), (0, u "(I)I"), (0, .methodref 19 37), (0, .nameAndType 38 39), (0, u "str"), (0, u "(III)Ljava/lang/String;"), (0, .methodref 41 42), (0, .class_ 43), (0, .nameAndType 44 45), (0, u "com/example/keep_to_layer/keeptolayer/model/ClassNames"), (0, u "compare"), (0, u "(Ljava/lang/String;Ljava/lang/String;)I"), (0, .methodref 19 47), (0, .nameAndType 48 49), (0, u "ref"), (0, u "(IIIIII)I"), (3, u "law"), (0, u "(IIIIII)Z")] 2

def k1m0 : Method := { name := "<init>", desc := "()V", sig := { parameters := [], returnType := none }, accessFlags := 2, code := none }
def k1c1 : Code := { maxStack := 3, maxLocals := 2, code := method_2_code, exceptionTable := #[], attributes := #[] }
def k1m1 : Method := { name := "cp", desc := "(I)I", sig := { parameters := [.int], returnType := some .int }, accessFlags := 10, code := some k1c1 }
def k1c2 : Code := { maxStack := 3, maxLocals := 1, code := method_3_code, exceptionTable := #[], attributes := #[] }
def k1m2 : Method := { name := "hi", desc := "(I)C", sig := { parameters := [.int], returnType := some .char }, accessFlags := 10, code := some k1c2 }
def k1c3 : Code := { maxStack := 3, maxLocals := 1, code := method_4_code, exceptionTable := #[], attributes := #[] }
def k1m3 : Method := { name := "lo", desc := "(I)C", sig := { parameters := [.int], returnType := some .char }, accessFlags := 10, code := some k1c3 }
def k1c4 : Code := { maxStack := 6, maxLocals := 3, code := method_5_code, exceptionTable := #[], attributes := #[] }
def k1m4 : Method := { name := "str", desc := "(III)Ljava/lang/String;", sig := { parameters := [.int, .int, .int], returnType := some (.object "java/lang/String") }, accessFlags := 10, code := some k1c4 }
def k1c5 : Code := { maxStack := 2, maxLocals := 2, code := method_6_code, exceptionTable := #[], attributes := #[] }
def k1m5 : Method := { name := "cmp", desc := "(II)I", sig := { parameters := [.int, .int], returnType := some .int }, accessFlags := 10, code := some k1c5 }
def k1c6 : Code := { maxStack := 2, maxLocals := 6, code := method_7_code, exceptionTable := #[], attributes := #[] }
def k1m6 : Method := { name := "ref", desc := "(IIIIII)I", sig := { parameters := [.int, .int, .int, .int, .int, .int], returnType := some .int }, accessFlags := 10, code := some k1c6 }
def k1c7 : Code := { maxStack := 6, maxLocals := 16, code := code, exceptionTable := #[], attributes := #[] }
def k1m7 : Method := { name := "law", desc := "(IIIIII)Z", sig := { parameters := [.int, .int, .int, .int, .int, .int], returnType := some .boolean }, accessFlags := 9, code := some k1c7 }
/-- com/example/keep_to_layer/keeptolayer/model/ClassNamesComparePinLaw -/
def k1 : Class := { plain "com/example/keep_to_layer/keeptolayer/model/ClassNamesComparePinLaw" (some 0) with
  accessFlags := 49
  interfaces := #[]
  cf := some (fileOf pool1 19 #[] #[{ accessFlags := 2, nameIndex := 5, descriptorIndex := 6, attributes := #[] }, { accessFlags := 10, nameIndex := 34, descriptorIndex := 35, attributes := #[] }, { accessFlags := 10, nameIndex := 22, descriptorIndex := 23, attributes := #[] }, { accessFlags := 10, nameIndex := 26, descriptorIndex := 23, attributes := #[] }, { accessFlags := 10, nameIndex := 38, descriptorIndex := 39, attributes := #[] }, { accessFlags := 10, nameIndex := 29, descriptorIndex := 30, attributes := #[] }, { accessFlags := 10, nameIndex := 48, descriptorIndex := 49, attributes := #[] }, { accessFlags := 9, nameIndex := 53, descriptorIndex := 54, attributes := #[] }] 49 2 #[] #[])
  fields := #[]
  methods := #[k1m0, k1m1, k1m2, k1m3, k1m4, k1m5, k1m6, k1m7]
  instanceTypes := #[]
  staticTypes := #[]
  resolved := Array.replicate 57 none
  statics := none }

def pool2 : Array CpInfo := pool [(1, .class_ 2), (0, u "java/io/Serializable"), (0, .class_ 4), (0, u "java/lang/Object")] 2

/-- java/io/Serializable -/
def k2 : Class := { plain "java/io/Serializable" (some 0) with
  accessFlags := 1537
  interfaces := #[]
  cf := some (fileOf pool2 1 #[] #[] 1537 3 #[] #[])
  fields := #[]
  methods := #[]
  instanceTypes := #[]
  staticTypes := #[]
  resolved := Array.replicate 7 none
  statics := none }

def pool3 : Array CpInfo := pool [(1, .class_ 2), (0, u "java/lang/Comparable"), (0, .class_ 4), (0, u "java/lang/Object")] 7

/-- java/lang/Comparable -/
def k3 : Class := { plain "java/lang/Comparable" (some 0) with
  accessFlags := 1537
  interfaces := #[]
  cf := some (fileOf pool3 1 #[] #[] 1537 3 #[] #[])
  fields := #[]
  methods := #[]
  instanceTypes := #[]
  staticTypes := #[]
  resolved := Array.replicate 12 none
  statics := none }

def pool4 : Array CpInfo := pool [(2, .class_ 4), (1, u "java/lang/CharSequence"), (42, .class_ 48), (0, u "java/lang/CharSequence$1CodePointIterator"), (10, .class_ 60), (0, u "java/lang/CharSequence$1CharIterator"), (5, .class_ 67), (0, u "java/lang/Object")] 63

/-- java/lang/CharSequence -/
def k4 : Class := { plain "java/lang/CharSequence" (some 0) with
  accessFlags := 1537
  interfaces := #[]
  cf := some (fileOf pool4 2 #[.nestMembers #[47, 59]] #[] 1537 66 #[] #[])
  fields := #[]
  methods := #[]
  instanceTypes := #[]
  staticTypes := #[]
  resolved := Array.replicate 131 none
  statics := none }

def pool5 : Array CpInfo := pool [(1, .class_ 2), (0, u "java/lang/constant/Constable"), (0, .class_ 4), (0, u "java/lang/Object")] 6

/-- java/lang/constant/Constable -/
def k5 : Class := { plain "java/lang/constant/Constable" (some 0) with
  accessFlags := 1537
  interfaces := #[]
  cf := some (fileOf pool5 1 #[] #[] 1537 3 #[] #[])
  fields := #[]
  methods := #[]
  instanceTypes := #[]
  staticTypes := #[]
  resolved := Array.replicate 11 none
  statics := none }

def pool6 : Array CpInfo := pool [(1, .class_ 2), (0, u "java/lang/constant/ConstantDesc"), (0, .class_ 4), (0, u "java/lang/Object")] 32

/-- java/lang/constant/ConstantDesc -/
def k6 : Class := { plain "java/lang/constant/ConstantDesc" (some 0) with
  accessFlags := 1537
  interfaces := #[]
  cf := some (fileOf pool6 1 #[] #[] 1537 3 #[] #[])
  fields := #[]
  methods := #[]
  instanceTypes := #[]
  staticTypes := #[]
  resolved := Array.replicate 37 none
  statics := none }

def pool7 : Array CpInfo := pool [(1, .methodref 2 3), (0, .class_ 4), (0, .nameAndType 5 6), (0, u "java/lang/Object"), (0, u "<init>"), (0, u "()V"), (0, .string 8), (0, u ""), (0, .fieldref 10 11), (0, .class_ 12), (0, .nameAndType 13 14), (0, u "java/lang/String"), (0, u "value"), (0, u "[B"), (0, .fieldref 10 16), (0, .nameAndType 17 18), (0, u "coder"), (0, u "B"), (2, u "hash"), (0, u "I"), (2, u "hashIsZero"), (0, u "Z"), (0, .methodref 10 28), (0, .nameAndType 5 29), (0, u "([CIILjava/lang/Void;)V"), (8, .fieldref 10 39), (0, .nameAndType 40 26), (0, u "COMPACT_STRINGS"), (1, .class_ 44), (1, u "java/lang/StringUTF16"), (0, u "compress"), (1, .methodref 42 48), (0, .nameAndType 49 50), (0, u "coderFromArrayLen"), (0, u "([BI)B"), (46, u "([BII)I"), (44, u "()Z"), (34, .methodref 42 178), (0, .nameAndType 45 179), (0, u "([CII)[B"), (154, u "()I"), (0, .methodref 10 336), (0, .nameAndType 17 337), (0, u "()B"), (53, u "(II)V"), (100, .methodref 10 493), (0, .nameAndType 494 142), (0, u "isLatin1"), (4, .methodref 10 500), (0, .nameAndType 501 391), (0, u "checkIndex"), (0, .methodref 42 503), (0, .nameAndType 504 97), (0, u "codePointAt"), (2, u "length"), (67, .class_ 576), (0, u "java/lang/CharSequence"), (22, u "CASE_INSENSITIVE_ORDER"), (0, u "Ljava/util/Comparator;"), (164, u "(I)I"), (244, u "([C)V"), (42, .fieldref 1054 1055), (0, .class_ 1056), (0, .nameAndType 1057 1058), (0, u "jdk/internal/util/Preconditions"), (0, u "SIOOBE_FORMATTER"), (0, u "Ljava/util/function/BiFunction;"), (0, .methodref 1054 1060), (0, .nameAndType 501 1061), (0, u "(IILjava/util/function/BiFunction;)I"), (39, u "serialPersistentFields"), (0, u "[Ljava/io/ObjectStreamField;"), (0, .class_ 1104), (0, u "java/lang/String$CaseInsensitiveComparator"), (1, .class_ 1107), (0, u "java/io/Serializable"), (0, .class_ 1109), (0, u "java/lang/Comparable"), (0, .class_ 1111), (0, u "java/lang/constant/Constable"), (0, .class_ 1113), (0, u "java/lang/constant/ConstantDesc"), (2, u "serialVersionUID"), (0, u "J"), (3, u "REPL"), (0, u "C"), (2, u "LATIN1"), (1, u "UTF16")] 323

def k7m0 : Method := { name := "<init>", desc := "()V", sig := { parameters := [], returnType := none }, accessFlags := 1, code := none }
def k7c1 : Code := { maxStack := 5, maxLocals := 2, code := jdk_42_method_3_code, exceptionTable := #[], attributes := #[] }
def k7m1 : Method := { name := "<init>", desc := "([C)V", sig := { parameters := [(.array .char)], returnType := none }, accessFlags := 1, code := some k7c1 }
def k7c2 : Code := { maxStack := 2, maxLocals := 1, code := jdk_42_method_54_code, exceptionTable := #[], attributes := #[] }
def k7m2 : Method := { name := "length", desc := "()I", sig := { parameters := [], returnType := some .int }, accessFlags := 1, code := some k7c2 }
def k7c3 : Code := { maxStack := 3, maxLocals := 3, code := jdk_42_method_57_code, exceptionTable := #[], attributes := #[] }
def k7m3 : Method := { name := "codePointAt", desc := "(I)I", sig := { parameters := [.int], returnType := some .int }, accessFlags := 1, code := some k7c3 }
def k7c4 : Code := { maxStack := 4, maxLocals := 6, code := jdk_42_method_149_code, exceptionTable := #[], attributes := #[] }
def k7m4 : Method := { name := "<init>", desc := "([CIILjava/lang/Void;)V", sig := { parameters := [(.array .char), .int, .int, (.object "java/lang/Void")], returnType := none }, accessFlags := 2, code := some k7c4 }
def k7c5 : Code := { maxStack := 1, maxLocals := 1, code := jdk_42_method_152_code, exceptionTable := #[], attributes := #[] }
def k7m5 : Method := { name := "coder", desc := "()B", sig := { parameters := [], returnType := some .byte }, accessFlags := 0, code := some k7c5 }
def k7c6 : Code := { maxStack := 1, maxLocals := 1, code := jdk_42_method_154_code, exceptionTable := #[], attributes := #[] }
def k7m6 : Method := { name := "isLatin1", desc := "()Z", sig := { parameters := [], returnType := some .boolean }, accessFlags := 0, code := some k7c6 }
def k7c7 : Code := { maxStack := 3, maxLocals := 2, code := jdk_42_method_155_code, exceptionTable := #[], attributes := #[] }
def k7m7 : Method := { name := "checkIndex", desc := "(II)V", sig := { parameters := [.int, .int], returnType := none }, accessFlags := 8, code := some k7c7 }
/-- java/lang/String -/
def k7 : Class := { plain "java/lang/String" (some 0) with
  accessFlags := 49
  interfaces := #[2, 3, 4, 5, 6]
  cf := some (fileOf pool7 10 #[.nestMembers #[1103]] #[{ accessFlags := 1, nameIndex := 5, descriptorIndex := 6, attributes := #[] }, { accessFlags := 1, nameIndex := 5, descriptorIndex := 1010, attributes := #[] }, { accessFlags := 1, nameIndex := 507, descriptorIndex := 334, attributes := #[] }, { accessFlags := 1, nameIndex := 504, descriptorIndex := 765, attributes := #[] }, { accessFlags := 2, nameIndex := 5, descriptorIndex := 29, attributes := #[] }, { accessFlags := 0, nameIndex := 17, descriptorIndex := 337, attributes := #[] }, { accessFlags := 0, nameIndex := 494, descriptorIndex := 142, attributes := #[] }, { accessFlags := 8, nameIndex := 501, descriptorIndex := 391, attributes := #[] }] 49 2 #[1106, 1108, 575, 1110, 1112] #[{ accessFlags := 18, nameIndex := 13, descriptorIndex := 14, attributes := #[] }, { accessFlags := 18, nameIndex := 17, descriptorIndex := 18, attributes := #[] }, { accessFlags := 2, nameIndex := 21, descriptorIndex := 22, attributes := #[] }, { accessFlags := 2, nameIndex := 25, descriptorIndex := 26, attributes := #[] }, { accessFlags := 26, nameIndex := 1116, descriptorIndex := 1117, attributes := #[] }, { accessFlags := 24, nameIndex := 40, descriptorIndex := 26, attributes := #[] }, { accessFlags := 26, nameIndex := 1101, descriptorIndex := 1102, attributes := #[] }, { accessFlags := 26, nameIndex := 1121, descriptorIndex := 1122, attributes := #[] }, { accessFlags := 25, nameIndex := 599, descriptorIndex := 600, attributes := #[] }, { accessFlags := 24, nameIndex := 1125, descriptorIndex := 18, attributes := #[] }, { accessFlags := 24, nameIndex := 1127, descriptorIndex := 18, attributes := #[] }])
  fields := #[{ name := "value", type := (.array .byte), accessFlags := 18, slot := 0, constantValue := 0 }, { name := "coder", type := .byte, accessFlags := 18, slot := 1, constantValue := 0 }, { name := "hash", type := .int, accessFlags := 2, slot := 2, constantValue := 0 }, { name := "hashIsZero", type := .boolean, accessFlags := 2, slot := 3, constantValue := 0 }, { name := "serialVersionUID", type := .long, accessFlags := 26, slot := 0, constantValue := 0 }, { name := "COMPACT_STRINGS", type := .boolean, accessFlags := 24, slot := 1, constantValue := 0 }, { name := "serialPersistentFields", type := (.array (.object "java/io/ObjectStreamField")), accessFlags := 26, slot := 2, constantValue := 0 }, { name := "REPL", type := .char, accessFlags := 26, slot := 3, constantValue := 0 }, { name := "CASE_INSENSITIVE_ORDER", type := (.object "java/util/Comparator"), accessFlags := 25, slot := 4, constantValue := 0 }, { name := "LATIN1", type := .byte, accessFlags := 24, slot := 5, constantValue := 0 }, { name := "UTF16", type := .byte, accessFlags := 24, slot := 6, constantValue := 0 }]
  methods := #[k7m0, k7m1, k7m2, k7m3, k7m4, k7m5, k7m6, k7m7]
  instanceTypes := #[(.array .byte), .byte, .int, .boolean]
  staticTypes := #[.long, .boolean, (.array (.object "java/io/ObjectStreamField")), .char, (.object "java/util/Comparator"), .byte, .byte]
  resolved := Array.replicate 1451 none
  statics := some 0 }

def pool8 : Array CpInfo := pool [(2, .class_ 4), (1, u "java/lang/Object"), (0, u "<init>"), (0, u "()V"), (3, .class_ 12), (1, u "java/lang/String"), (6, .methodref 10 20), (0, .nameAndType 21 22), (0, u "codePointAt"), (0, u "(I)I"), (1, .class_ 26), (1, u "java/lang/Character"), (40, u "(II)I"), (8, .class_ 78), (1, u "com/example/keep_to_layer/keeptolayer/model/ClassNames"), (9, .methodref 10 89), (0, .nameAndType 90 91), (0, u "length"), (0, u "()I"), (0, .methodref 93 94), (0, .class_ 95), (0, .nameAndType 96 67), (0, u "java/lang/Integer"), (0, u "compare"), (0, .methodref 24 98), (0, .nameAndType 99 22), (0, u "charCount"), (14, u "(Ljava/lang/String;Ljava/lang/String;)I")] 35

def k8m0 : Method := { name := "<init>", desc := "()V", sig := { parameters := [], returnType := none }, accessFlags := 2, code := none }
def k8c1 : Code := { maxStack := 2, maxLocals := 5, code := prog_14_method_8_code, exceptionTable := #[], attributes := #[] }
def k8m1 : Method := { name := "compare", desc := "(Ljava/lang/String;Ljava/lang/String;)I", sig := { parameters := [(.object "java/lang/String"), (.object "java/lang/String")], returnType := some .int }, accessFlags := 9, code := some k8c1 }
/-- com/example/keep_to_layer/keeptolayer/model/ClassNames -/
def k8 : Class := { plain "com/example/keep_to_layer/keeptolayer/model/ClassNames" (some 0) with
  accessFlags := 33
  interfaces := #[]
  cf := some (fileOf pool8 76 #[] #[{ accessFlags := 2, nameIndex := 5, descriptorIndex := 6, attributes := #[] }, { accessFlags := 9, nameIndex := 96, descriptorIndex := 114, attributes := #[] }] 33 2 #[] #[])
  fields := #[]
  methods := #[k8m0, k8m1]
  instanceTypes := #[]
  staticTypes := #[]
  resolved := Array.replicate 150 none
  statics := none }

def pool9 : Array CpInfo := pool [(2, .class_ 4), (1, u "java/lang/Object"), (0, u "<init>"), (0, u "()V"), (1, .class_ 10), (1, u "java/lang/Number"), (2, .class_ 14), (0, u "java/io/Serializable"), (0, u "serialVersionUID"), (0, u "J")] 20

def k9m0 : Method := { name := "<init>", desc := "()V", sig := { parameters := [], returnType := none }, accessFlags := 1, code := none }
/-- java/lang/Number -/
def k9 : Class := { plain "java/lang/Number" (some 0) with
  accessFlags := 1057
  interfaces := #[2]
  cf := some (fileOf pool9 8 #[] #[{ accessFlags := 1, nameIndex := 5, descriptorIndex := 6, attributes := #[] }] 1057 2 #[13] #[{ accessFlags := 26, nameIndex := 15, descriptorIndex := 16, attributes := #[] }])
  fields := #[{ name := "serialVersionUID", type := .long, accessFlags := 26, slot := 0, constantValue := 0 }]
  methods := #[k9m0]
  instanceTypes := #[]
  staticTypes := #[.long]
  resolved := Array.replicate 37 none
  statics := none }

def pool10 : Array CpInfo := pool [(1, .class_ 2), (0, u "java/lang/Integer"), (16, u "digits"), (0, u "[C"), (39, u "(II)I"), (24, u "DigitOnes"), (0, u "[B"), (2, u "DigitTens"), (99, .class_ 190), (0, u "java/lang/Integer$IntegerCache"), (3, u "I"), (8, .class_ 204), (0, u "java/lang/Number"), (2, u "value"), (53, u "compare"), (40, u "TYPE"), (0, u "Ljava/lang/Class;"), (0, .class_ 305), (0, u "java/lang/Comparable"), (0, .class_ 307), (0, u "java/lang/constant/Constable"), (0, .class_ 309), (0, u "java/lang/constant/ConstantDesc"), (0, u "MIN_VALUE"), (1, u "MAX_VALUE"), (3, u "SIZE"), (1, u "BYTES"), (1, u "serialVersionUID"), (0, u "J")] 131

def k10c0 : Code := { maxStack := 2, maxLocals := 2, code := jdk_33_method_40_code, exceptionTable := #[], attributes := #[] }
def k10m0 : Method := { name := "compare", desc := "(II)I", sig := { parameters := [.int, .int], returnType := some .int }, accessFlags := 9, code := some k10c0 }
/-- java/lang/Integer -/
def k10 : Class := { plain "java/lang/Integer" (some 9) with
  accessFlags := 49
  interfaces := #[3, 5, 6]
  cf := some (fileOf pool10 1 #[.nestMembers #[189]] #[{ accessFlags := 9, nameIndex := 261, descriptorIndex := 60, attributes := #[] }] 49 203 #[304, 306, 308] #[{ accessFlags := 25, nameIndex := 310, descriptorIndex := 194, attributes := #[] }, { accessFlags := 25, nameIndex := 312, descriptorIndex := 194, attributes := #[] }, { accessFlags := 25, nameIndex := 302, descriptorIndex := 303, attributes := #[] }, { accessFlags := 24, nameIndex := 19, descriptorIndex := 20, attributes := #[] }, { accessFlags := 24, nameIndex := 89, descriptorIndex := 86, attributes := #[] }, { accessFlags := 24, nameIndex := 85, descriptorIndex := 86, attributes := #[] }, { accessFlags := 18, nameIndex := 207, descriptorIndex := 194, attributes := #[] }, { accessFlags := 25, nameIndex := 316, descriptorIndex := 194, attributes := #[] }, { accessFlags := 25, nameIndex := 318, descriptorIndex := 194, attributes := #[] }, { accessFlags := 26, nameIndex := 320, descriptorIndex := 321, attributes := #[] }])
  fields := #[{ name := "MIN_VALUE", type := .int, accessFlags := 25, slot := 0, constantValue := 0 }, { name := "MAX_VALUE", type := .int, accessFlags := 25, slot := 1, constantValue := 0 }, { name := "TYPE", type := (.object "java/lang/Class"), accessFlags := 25, slot := 2, constantValue := 0 }, { name := "digits", type := (.array .char), accessFlags := 24, slot := 3, constantValue := 0 }, { name := "DigitTens", type := (.array .byte), accessFlags := 24, slot := 4, constantValue := 0 }, { name := "DigitOnes", type := (.array .byte), accessFlags := 24, slot := 5, constantValue := 0 }, { name := "value", type := .int, accessFlags := 18, slot := 0, constantValue := 0 }, { name := "SIZE", type := .int, accessFlags := 25, slot := 6, constantValue := 0 }, { name := "BYTES", type := .int, accessFlags := 25, slot := 7, constantValue := 0 }, { name := "serialVersionUID", type := .long, accessFlags := 26, slot := 8, constantValue := 0 }]
  methods := #[k10m0]
  instanceTypes := #[.int]
  staticTypes := #[.int, .int, (.object "java/lang/Class"), (.array .char), (.array .byte), (.array .byte), .int, .int, .long]
  resolved := Array.replicate 453 none
  statics := none }

def pool11 : Array CpInfo := pool [(6, .class_ 8), (1, u "java/lang/Object"), (0, u "<init>"), (0, u "()V"), (0, .methodref 12 13), (0, .class_ 14), (0, .nameAndType 15 16), (0, u "java/lang/StringUTF16"), (0, u "newBytesLength"), (0, u "(I)I"), (3, .integer 1073741823), (23, .fieldref 12 45), (0, .nameAndType 46 47), (0, u "$assertionsDisabled"), (0, u "Z"), (11, .fieldref 12 60), (0, .nameAndType 61 62), (0, u "HI_BYTE_SHIFT"), (0, u "I"), (0, .fieldref 12 64), (0, .nameAndType 65 62), (0, u "LO_BYTE_SHIFT"), (5, .methodref 12 72), (0, .nameAndType 73 74), (0, u "getChar"), (0, u "([BI)C"), (0, .methodref 76 77), (0, .class_ 78), (0, .nameAndType 79 80), (0, u "java/lang/Character"), (0, u "isHighSurrogate"), (0, u "(C)Z"), (0, .methodref 76 82), (0, .nameAndType 83 80), (0, u "isLowSurrogate"), (0, .methodref 76 85), (0, .nameAndType 86 87), (0, u "toCodePoint"), (0, u "(CC)I"), (0, .methodref 12 89), (0, .nameAndType 90 91), (0, u "codePointAt"), (0, u "([BIIZ)I"), (15, .methodref 12 108), (0, .nameAndType 109 110), (0, u "newBytesFor"), (0, u "(I)[B"), (0, .methodref 12 112), (0, .nameAndType 113 114), (0, u "putChar"), (0, u "([BII)V"), (0, .methodref 12 116), (0, .nameAndType 117 118), (0, u "compress"), (0, u "([CI[BII)I"), (0, .methodref 12 120), (0, .nameAndType 121 122), (0, u "toBytes"), (0, u "([CII)[B"), (127, u "([BII)I"), (10, u "coderFromArrayLen"), (0, u "([BI)B"), (106, .class_ 371), (1, u "java/lang/StringUTF16$LinesSpliterator"), (58, u "MAX_LENGTH"), (196, .class_ 628), (0, u "java/lang/StringUTF16$CodePointsSpliterator"), (0, .class_ 630), (0, u "java/lang/StringUTF16$CharsSpliterator")] 4

def k11m0 : Method := { name := "<init>", desc := "()V", sig := { parameters := [], returnType := none }, accessFlags := 0, code := none }
def k11c1 : Code := { maxStack := 1, maxLocals := 1, code := jdk_52_method_2_code, exceptionTable := #[], attributes := #[] }
def k11m1 : Method := { name := "newBytesFor", desc := "(I)[B", sig := { parameters := [.int], returnType := some (.array .byte) }, accessFlags := 9, code := some k11c1 }
def k11c2 : Code := { maxStack := 4, maxLocals := 1, code := jdk_52_method_3_code, exceptionTable := #[], attributes := #[] }
def k11m2 : Method := { name := "newBytesLength", desc := "(I)I", sig := { parameters := [.int], returnType := some .int }, accessFlags := 9, code := some k11c2 }
def k11c3 : Code := { maxStack := 4, maxLocals := 3, code := jdk_52_method_4_code, exceptionTable := #[], attributes := #[] }
def k11m3 : Method := { name := "putChar", desc := "([BII)V", sig := { parameters := [(.array .byte), .int, .int], returnType := none }, accessFlags := 8, code := some k11c3 }
def k11c4 : Code := { maxStack := 3, maxLocals := 2, code := jdk_52_method_5_code, exceptionTable := #[], attributes := #[] }
def k11m4 : Method := { name := "getChar", desc := "([BI)C", sig := { parameters := [(.array .byte), .int], returnType := some .char }, accessFlags := 8, code := some k11c4 }
def k11c5 : Code := { maxStack := 2, maxLocals := 6, code := jdk_52_method_7_code, exceptionTable := #[], attributes := #[] }
def k11m5 : Method := { name := "codePointAt", desc := "([BIIZ)I", sig := { parameters := [(.array .byte), .int, .int, .boolean], returnType := some .int }, accessFlags := 10, code := some k11c5 }
def k11c6 : Code := { maxStack := 4, maxLocals := 3, code := jdk_52_method_8_code, exceptionTable := #[], attributes := #[] }
def k11m6 : Method := { name := "codePointAt", desc := "([BII)I", sig := { parameters := [(.array .byte), .int, .int], returnType := some .int }, accessFlags := 9, code := some k11c6 }
def k11c7 : Code := { maxStack := 4, maxLocals := 5, code := jdk_52_method_14_code, exceptionTable := #[], attributes := #[] }
def k11m7 : Method := { name := "toBytes", desc := "([CII)[B", sig := { parameters := [(.array .char), .int, .int], returnType := some (.array .byte) }, accessFlags := 9, code := some k11c7 }
def k11c8 : Code := { maxStack := 2, maxLocals := 2, code := jdk_52_method_15_code, exceptionTable := #[], attributes := #[] }
def k11m8 : Method := { name := "coderFromArrayLen", desc := "([BI)B", sig := { parameters := [(.array .byte), .int], returnType := some .byte }, accessFlags := 8, code := some k11c8 }
def k11c9 : Code := { maxStack := 5, maxLocals := 6, code := jdk_52_method_16_code, exceptionTable := #[], attributes := #[] }
def k11m9 : Method := { name := "compress", desc := "([CII)[B", sig := { parameters := [(.array .char), .int, .int], returnType := some (.array .byte) }, accessFlags := 9, code := some k11c9 }
def k11c10 : Code := { maxStack := 3, maxLocals := 7, code := jdk_52_method_21_code, exceptionTable := #[], attributes := #[] }
def k11m10 : Method := { name := "compress", desc := "([CI[BII)I", sig := { parameters := [(.array .char), .int, (.array .byte), .int, .int], returnType := some .int }, accessFlags := 9, code := some k11c10 }
/-- java/lang/StringUTF16 -/
def k11 : Class := { plain "java/lang/StringUTF16" (some 0) with
  accessFlags := 48
  interfaces := #[]
  cf := some (fileOf pool11 12 #[.nestMembers #[627, 629, 369]] #[{ accessFlags := 0, nameIndex := 9, descriptorIndex := 10, attributes := #[] }, { accessFlags := 9, nameIndex := 109, descriptorIndex := 110, attributes := #[] }, { accessFlags := 9, nameIndex := 15, descriptorIndex := 16, attributes := #[] }, { accessFlags := 8, nameIndex := 113, descriptorIndex := 114, attributes := #[] }, { accessFlags := 8, nameIndex := 73, descriptorIndex := 74, attributes := #[] }, { accessFlags := 10, nameIndex := 90, descriptorIndex := 91, attributes := #[] }, { accessFlags := 9, nameIndex := 90, descriptorIndex := 250, attributes := #[] }, { accessFlags := 9, nameIndex := 121, descriptorIndex := 122, attributes := #[] }, { accessFlags := 8, nameIndex := 261, descriptorIndex := 262, attributes := #[] }, { accessFlags := 9, nameIndex := 117, descriptorIndex := 122, attributes := #[] }, { accessFlags := 9, nameIndex := 117, descriptorIndex := 118, attributes := #[] }] 48 6 #[] #[{ accessFlags := 26, nameIndex := 61, descriptorIndex := 62, attributes := #[] }, { accessFlags := 26, nameIndex := 65, descriptorIndex := 62, attributes := #[] }, { accessFlags := 24, nameIndex := 430, descriptorIndex := 62, attributes := #[] }, { accessFlags := 4120, nameIndex := 46, descriptorIndex := 47, attributes := #[] }])
  fields := #[{ name := "HI_BYTE_SHIFT", type := .int, accessFlags := 26, slot := 0, constantValue := 0 }, { name := "LO_BYTE_SHIFT", type := .int, accessFlags := 26, slot := 1, constantValue := 0 }, { name := "MAX_LENGTH", type := .int, accessFlags := 24, slot := 2, constantValue := 0 }, { name := "$assertionsDisabled", type := .boolean, accessFlags := 4120, slot := 3, constantValue := 0 }]
  methods := #[k11m0, k11m1, k11m2, k11m3, k11m4, k11m5, k11m6, k11m7, k11m8, k11m9, k11m10]
  instanceTypes := #[]
  staticTypes := #[.int, .int, .int, .boolean]
  resolved := Array.replicate 635 none
  statics := some 1 }

def pool12 : Array CpInfo := pool [(2, .class_ 4), (1, u "java/lang/Object"), (0, u "<init>"), (0, u "()V"), (17, .class_ 26), (1, u "jdk/internal/util/Preconditions"), (6, u "checkIndex"), (21, .class_ 56), (0, u "jdk/internal/util/Preconditions$4"), (57, .class_ 115), (0, u "jdk/internal/util/Preconditions$1"), (7, u "SIOOBE_FORMATTER"), (0, u "Ljava/util/function/BiFunction;"), (0, .class_ 126), (0, u "jdk/internal/util/Preconditions$2"), (3, u "AIOOBE_FORMATTER"), (0, .class_ 132), (0, u "jdk/internal/util/Preconditions$3"), (3, u "IOOBE_FORMATTER"), (41, u "(IILjava/util/function/BiFunction;)I")] 15

def k12m0 : Method := { name := "<init>", desc := "()V", sig := { parameters := [], returnType := none }, accessFlags := 1, code := none }
def k12c1 : Code := { maxStack := 3, maxLocals := 3, code := jdk_41_method_11_code, exceptionTable := #[], attributes := #[] }
def k12m1 : Method := { name := "checkIndex", desc := "(IILjava/util/function/BiFunction;)I", sig := { parameters := [.int, .int, (.object "java/util/function/BiFunction")], returnType := some .int }, accessFlags := 9, code := some k12c1 }
/-- jdk/internal/util/Preconditions -/
def k12 : Class := { plain "jdk/internal/util/Preconditions" (some 0) with
  accessFlags := 33
  interfaces := #[]
  cf := some (fileOf pool12 24 #[.nestMembers #[55, 131, 125, 114]] #[{ accessFlags := 1, nameIndex := 5, descriptorIndex := 6, attributes := #[] }, { accessFlags := 9, nameIndex := 33, descriptorIndex := 178, attributes := #[] }] 33 2 #[] #[{ accessFlags := 25, nameIndex := 123, descriptorIndex := 124, attributes := #[] }, { accessFlags := 25, nameIndex := 130, descriptorIndex := 124, attributes := #[] }, { accessFlags := 25, nameIndex := 136, descriptorIndex := 124, attributes := #[] }])
  fields := #[{ name := "SIOOBE_FORMATTER", type := (.object "java/util/function/BiFunction"), accessFlags := 25, slot := 0, constantValue := 0 }, { name := "AIOOBE_FORMATTER", type := (.object "java/util/function/BiFunction"), accessFlags := 25, slot := 1, constantValue := 0 }, { name := "IOOBE_FORMATTER", type := (.object "java/util/function/BiFunction"), accessFlags := 25, slot := 2, constantValue := 0 }]
  methods := #[k12m0, k12m1]
  instanceTypes := #[]
  staticTypes := #[(.object "java/util/function/BiFunction"), (.object "java/util/function/BiFunction"), (.object "java/util/function/BiFunction")]
  resolved := Array.replicate 194 none
  statics := some 2 }

def pool13 : Array CpInfo := pool [(1, .class_ 2), (0, u "java/lang/Character"), (18, u "value"), (0, u "C"), (19, .class_ 44), (1, u "java/lang/Object"), (3, .class_ 50), (1, u "java/lang/Character$CharacterCache"), (22, .integer 65536), (1, .integer 55296), (0, .integer 56320), (0, .integer 57344), (2, u "isHighSurrogate"), (0, u "(C)Z"), (2, u "isLowSurrogate"), (0, .integer 4238353408), (12, u "toCodePoint"), (0, u "(CC)I"), (74, u "(I)I"), (109, u "$assertionsDisabled"), (0, u "Z"), (21, .class_ 309), (1, u "java/lang/Character$UnicodeBlock"), (73, u "TYPE"), (0, u "Ljava/lang/Class;"), (0, .class_ 386), (0, u "java/io/Serializable"), (0, .class_ 388), (0, u "java/lang/Comparable"), (0, .class_ 390), (0, u "java/lang/constant/Constable"), (0, u "MIN_RADIX"), (0, u "I"), (2, u "MAX_RADIX"), (1, u "MIN_VALUE"), (1, u "MAX_VALUE"), (3, u "UNASSIGNED"), (0, u "B"), (0, u "UPPERCASE_LETTER"), (1, u "LOWERCASE_LETTER"), (0, u "TITLECASE_LETTER"), (1, u "MODIFIER_LETTER"), (1, u "OTHER_LETTER"), (1, u "NON_SPACING_MARK"), (1, u "ENCLOSING_MARK"), (1, u "COMBINING_SPACING_MARK"), (1, u "DECIMAL_DIGIT_NUMBER"), (1, u "LETTER_NUMBER"), (1, u "OTHER_NUMBER"), (1, u "SPACE_SEPARATOR"), (1, u "LINE_SEPARATOR"), (1, u "PARAGRAPH_SEPARATOR"), (1, u "CONTROL"), (1, u "FORMAT"), (1, u "PRIVATE_USE"), (1, u "SURROGATE"), (1, u "DASH_PUNCTUATION"), (1, u "START_PUNCTUATION"), (1, u "END_PUNCTUATION"), (1, u "CONNECTOR_PUNCTUATION"), (1, u "OTHER_PUNCTUATION"), (1, u "MATH_SYMBOL"), (1, u "CURRENCY_SYMBOL"), (1, u "MODIFIER_SYMBOL"), (1, u "OTHER_SYMBOL"), (1, u "INITIAL_QUOTE_PUNCTUATION"), (1, u "FINAL_QUOTE_PUNCTUATION"), (1, u "ERROR"), (1, u "DIRECTIONALITY_UNDEFINED"), (0, u "DIRECTIONALITY_LEFT_TO_RIGHT"), (0, u "DIRECTIONALITY_RIGHT_TO_LEFT"), (0, u "DIRECTIONALITY_RIGHT_TO_LEFT_ARABIC"), (0, u "DIRECTIONALITY_EUROPEAN_NUMBER"), (0, u "DIRECTIONALITY_EUROPEAN_NUMBER_SEPARATOR"), (0, u "DIRECTIONALITY_EUROPEAN_NUMBER_TERMINATOR"), (0, u "DIRECTIONALITY_ARABIC_NUMBER"), (0, u "DIRECTIONALITY_COMMON_NUMBER_SEPARATOR"), (0, u "DIRECTIONALITY_NONSPACING_MARK"), (0, u "DIRECTIONALITY_BOUNDARY_NEUTRAL"), (0, u "DIRECTIONALITY_PARAGRAPH_SEPARATOR"), (0, u "DIRECTIONALITY_SEGMENT_SEPARATOR"), (0, u "DIRECTIONALITY_WHITESPACE"), (0, u "DIRECTIONALITY_OTHER_NEUTRALS"), (0, u "DIRECTIONALITY_LEFT_TO_RIGHT_EMBEDDING"), (0, u "DIRECTIONALITY_LEFT_TO_RIGHT_OVERRIDE"), (0, u "DIRECTIONALITY_RIGHT_TO_LEFT_EMBEDDING"), (0, u "DIRECTIONALITY_RIGHT_TO_LEFT_OVERRIDE"), (1, u "DIRECTIONALITY_POP_DIRECTIONAL_FORMAT"), (0, u "DIRECTIONALITY_LEFT_TO_RIGHT_ISOLATE"), (0, u "DIRECTIONALITY_RIGHT_TO_LEFT_ISOLATE"), (0, u "DIRECTIONALITY_FIRST_STRONG_ISOLATE"), (0, u "DIRECTIONALITY_POP_DIRECTIONAL_ISOLATE"), (0, u "MIN_HIGH_SURROGATE"), (0, u "MAX_HIGH_SURROGATE"), (1, u "MIN_LOW_SURROGATE"), (0, u "MAX_LOW_SURROGATE"), (1, u "MIN_SURROGATE"), (0, u "MAX_SURROGATE"), (0, u "MIN_SUPPLEMENTARY_CODE_POINT"), (0, u "MIN_CODE_POINT"), (0, u "MAX_CODE_POINT"), (1, u "serialVersionUID"), (0, u "J"), (2, u "SIZE"), (0, u "BYTES"), (29, u "charCount"), (58, .class_ 596), (0, u "java/lang/Character$UnicodeScript"), (0, .class_ 598), (0, u "java/lang/Character$Subset")] 5

def k13c0 : Code := { maxStack := 2, maxLocals := 1, code := jdk_89_method_14_code, exceptionTable := #[], attributes := #[] }
def k13m0 : Method := { name := "isHighSurrogate", desc := "(C)Z", sig := { parameters := [.char], returnType := some .boolean }, accessFlags := 9, code := some k13c0 }
def k13c1 : Code := { maxStack := 2, maxLocals := 1, code := jdk_89_method_15_code, exceptionTable := #[], attributes := #[] }
def k13m1 : Method := { name := "isLowSurrogate", desc := "(C)Z", sig := { parameters := [.char], returnType := some .boolean }, accessFlags := 9, code := some k13c1 }
def k13c2 : Code := { maxStack := 2, maxLocals := 1, code := jdk_89_method_18_code, exceptionTable := #[], attributes := #[] }
def k13m2 : Method := { name := "charCount", desc := "(I)I", sig := { parameters := [.int], returnType := some .int }, accessFlags := 9, code := some k13c2 }
def k13c3 : Code := { maxStack := 2, maxLocals := 2, code := jdk_89_method_19_code, exceptionTable := #[], attributes := #[] }
def k13m3 : Method := { name := "toCodePoint", desc := "(CC)I", sig := { parameters := [.char, .char], returnType := some .int }, accessFlags := 9, code := some k13c3 }
/-- java/lang/Character -/
def k13 : Class := { plain "java/lang/Character" (some 0) with
  accessFlags := 49
  interfaces := #[2, 3, 5]
  cf := some (fileOf pool13 1 #[.nestMembers #[48, 595, 307, 597]] #[{ accessFlags := 9, nameIndex := 80, descriptorIndex := 81, attributes := #[] }, { accessFlags := 9, nameIndex := 84, descriptorIndex := 81, attributes := #[] }, { accessFlags := 9, nameIndex := 536, descriptorIndex := 174, attributes := #[] }, { accessFlags := 9, nameIndex := 98, descriptorIndex := 99, attributes := #[] }] 49 42 #[385, 387, 389] #[{ accessFlags := 25, nameIndex := 391, descriptorIndex := 392, attributes := #[] }, { accessFlags := 25, nameIndex := 395, descriptorIndex := 392, attributes := #[] }, { accessFlags := 25, nameIndex := 397, descriptorIndex := 22, attributes := #[] }, { accessFlags := 25, nameIndex := 399, descriptorIndex := 22, attributes := #[] }, { accessFlags := 25, nameIndex := 383, descriptorIndex := 384, attributes := #[] }, { accessFlags := 25, nameIndex := 403, descriptorIndex := 404, attributes := #[] }, { accessFlags := 25, nameIndex := 405, descriptorIndex := 404, attributes := #[] }, { accessFlags := 25, nameIndex := 407, descriptorIndex := 404, attributes := #[] }, { accessFlags := 25, nameIndex := 408, descriptorIndex := 404, attributes := #[] }, { accessFlags := 25, nameIndex := 410, descriptorIndex := 404, attributes := #[] }, { accessFlags := 25, nameIndex := 412, descriptorIndex := 404, attributes := #[] }, { accessFlags := 25, nameIndex := 414, descriptorIndex := 404, attributes := #[] }, { accessFlags := 25, nameIndex := 416, descriptorIndex := 404, attributes := #[] }, { accessFlags := 25, nameIndex := 418, descriptorIndex := 404, attributes := #[] }, { accessFlags := 25, nameIndex := 420, descriptorIndex := 404, attributes := #[] }, { accessFlags := 25, nameIndex := 422, descriptorIndex := 404, attributes := #[] }, { accessFlags := 25, nameIndex := 424, descriptorIndex := 404, attributes := #[] }, { accessFlags := 25, nameIndex := 426, descriptorIndex := 404, attributes := #[] }, { accessFlags := 25, nameIndex := 428, descriptorIndex := 404, attributes := #[] }, { accessFlags := 25, nameIndex := 430, descriptorIndex := 404, attributes := #[] }, { accessFlags := 25, nameIndex := 432, descriptorIndex := 404, attributes := #[] }, { accessFlags := 25, nameIndex := 434, descriptorIndex := 404, attributes := #[] }, { accessFlags := 25, nameIndex := 436, descriptorIndex := 404, attributes := #[] }, { accessFlags := 25, nameIndex := 438, descriptorIndex := 404, attributes := #[] }, { accessFlags := 25, nameIndex := 440, descriptorIndex := 404, attributes := #[] }, { accessFlags := 25, nameIndex := 442, descriptorIndex := 404, attributes := #[] }, { accessFlags := 25, nameIndex := 444, descriptorIndex := 404, attributes := #[] }, { accessFlags := 25, nameIndex := 446, descriptorIndex := 404, attributes := #[] }, { accessFlags := 25, nameIndex := 448, descriptorIndex := 404, attributes := #[] }, { accessFlags := 25, nameIndex := 450, descriptorIndex := 404, attributes := #[] }, { accessFlags := 25, nameIndex := 452, descriptorIndex := 404, attributes := #[] }, { accessFlags := 25, nameIndex := 454, descriptorIndex := 404, attributes := #[] }, { accessFlags := 25, nameIndex := 456, descriptorIndex := 404, attributes := #[] }, { accessFlags := 25, nameIndex := 458, descriptorIndex := 404, attributes := #[] }, { accessFlags := 25, nameIndex := 460, descriptorIndex := 404, attributes := #[] }, { accessFlags := 24, nameIndex := 462, descriptorIndex := 392, attributes := #[] }, { accessFlags := 25, nameIndex := 464, descriptorIndex := 404, attributes := #[] }, { accessFlags := 25, nameIndex := 465, descriptorIndex := 404, attributes := #[] }, { accessFlags := 25, nameIndex := 466, descriptorIndex := 404, attributes := #[] }, { accessFlags := 25, nameIndex := 467, descriptorIndex := 404, attributes := #[] }, { accessFlags := 25, nameIndex := 468, descriptorIndex := 404, attributes := #[] }, { accessFlags := 25, nameIndex := 469, descriptorIndex := 404, attributes := #[] }, { accessFlags := 25, nameIndex := 470, descriptorIndex := 404, attributes := #[] }, { accessFlags := 25, nameIndex := 471, descriptorIndex := 404, attributes := #[] }, { accessFlags := 25, nameIndex := 472, descriptorIndex := 404, attributes := #[] }, { accessFlags := 25, nameIndex := 473, descriptorIndex := 404, attributes := #[] }, { accessFlags := 25, nameIndex := 474, descriptorIndex := 404, attributes := #[] }, { accessFlags := 25, nameIndex := 475, descriptorIndex := 404, attributes := #[] }, { accessFlags := 25, nameIndex := 476, descriptorIndex := 404, attributes := #[] }, { accessFlags := 25, nameIndex := 477, descriptorIndex := 404, attributes := #[] }, { accessFlags := 25, nameIndex := 478, descriptorIndex := 404, attributes := #[] }, { accessFlags := 25, nameIndex := 479, descriptorIndex := 404, attributes := #[] }, { accessFlags := 25, nameIndex := 480, descriptorIndex := 404, attributes := #[] }, { accessFlags := 25, nameIndex := 481, descriptorIndex := 404, attributes := #[] }, { accessFlags := 25, nameIndex := 482, descriptorIndex := 404, attributes := #[] }, { accessFlags := 25, nameIndex := 484, descriptorIndex := 404, attributes := #[] }, { accessFlags := 25, nameIndex := 485, descriptorIndex := 404, attributes := #[] }, { accessFlags := 25, nameIndex := 486, descriptorIndex := 404, attributes := #[] }, { accessFlags := 25, nameIndex := 487, descriptorIndex := 404, attributes := #[] }, { accessFlags := 25, nameIndex := 488, descriptorIndex := 404, attributes := #[] }, { accessFlags := 25, nameIndex := 489, descriptorIndex := 22, attributes := #[] }, { accessFlags := 25, nameIndex := 490, descriptorIndex := 22, attributes := #[] }, { accessFlags := 25, nameIndex := 492, descriptorIndex := 22, attributes := #[] }, { accessFlags := 25, nameIndex := 493, descriptorIndex := 22, attributes := #[] }, { accessFlags := 25, nameIndex := 495, descriptorIndex := 22, attributes := #[] }, { accessFlags := 25, nameIndex := 496, descriptorIndex := 22, attributes := #[] }, { accessFlags := 25, nameIndex := 497, descriptorIndex := 392, attributes := #[] }, { accessFlags := 25, nameIndex := 498, descriptorIndex := 392, attributes := #[] }, { accessFlags := 25, nameIndex := 499, descriptorIndex := 392, attributes := #[] }, { accessFlags := 18, nameIndex := 21, descriptorIndex := 22, attributes := #[] }, { accessFlags := 26, nameIndex := 501, descriptorIndex := 502, attributes := #[] }, { accessFlags := 25, nameIndex := 505, descriptorIndex := 392, attributes := #[] }, { accessFlags := 25, nameIndex := 506, descriptorIndex := 392, attributes := #[] }, { accessFlags := 4120, nameIndex := 284, descriptorIndex := 285, attributes := #[] }])
  fields := #[{ name := "MIN_RADIX", type := .int, accessFlags := 25, slot := 0, constantValue := 0 }, { name := "MAX_RADIX", type := .int, accessFlags := 25, slot := 1, constantValue := 0 }, { name := "MIN_VALUE", type := .char, accessFlags := 25, slot := 2, constantValue := 0 }, { name := "MAX_VALUE", type := .char, accessFlags := 25, slot := 3, constantValue := 0 }, { name := "TYPE", type := (.object "java/lang/Class"), accessFlags := 25, slot := 4, constantValue := 0 }, { name := "UNASSIGNED", type := .byte, accessFlags := 25, slot := 5, constantValue := 0 }, { name := "UPPERCASE_LETTER", type := .byte, accessFlags := 25, slot := 6, constantValue := 0 }, { name := "LOWERCASE_LETTER", type := .byte, accessFlags := 25, slot := 7, constantValue := 0 }, { name := "TITLECASE_LETTER", type := .byte, accessFlags := 25, slot := 8, constantValue := 0 }, { name := "MODIFIER_LETTER", type := .byte, accessFlags := 25, slot := 9, constantValue := 0 }, { name := "OTHER_LETTER", type := .byte, accessFlags := 25, slot := 10, constantValue := 0 }, { name := "NON_SPACING_MARK", type := .byte, accessFlags := 25, slot := 11, constantValue := 0 }, { name := "ENCLOSING_MARK", type := .byte, accessFlags := 25, slot := 12, constantValue := 0 }, { name := "COMBINING_SPACING_MARK", type := .byte, accessFlags := 25, slot := 13, constantValue := 0 }, { name := "DECIMAL_DIGIT_NUMBER", type := .byte, accessFlags := 25, slot := 14, constantValue := 0 }, { name := "LETTER_NUMBER", type := .byte, accessFlags := 25, slot := 15, constantValue := 0 }, { name := "OTHER_NUMBER", type := .byte, accessFlags := 25, slot := 16, constantValue := 0 }, { name := "SPACE_SEPARATOR", type := .byte, accessFlags := 25, slot := 17, constantValue := 0 }, { name := "LINE_SEPARATOR", type := .byte, accessFlags := 25, slot := 18, constantValue := 0 }, { name := "PARAGRAPH_SEPARATOR", type := .byte, accessFlags := 25, slot := 19, constantValue := 0 }, { name := "CONTROL", type := .byte, accessFlags := 25, slot := 20, constantValue := 0 }, { name := "FORMAT", type := .byte, accessFlags := 25, slot := 21, constantValue := 0 }, { name := "PRIVATE_USE", type := .byte, accessFlags := 25, slot := 22, constantValue := 0 }, { name := "SURROGATE", type := .byte, accessFlags := 25, slot := 23, constantValue := 0 }, { name := "DASH_PUNCTUATION", type := .byte, accessFlags := 25, slot := 24, constantValue := 0 }, { name := "START_PUNCTUATION", type := .byte, accessFlags := 25, slot := 25, constantValue := 0 }, { name := "END_PUNCTUATION", type := .byte, accessFlags := 25, slot := 26, constantValue := 0 }, { name := "CONNECTOR_PUNCTUATION", type := .byte, accessFlags := 25, slot := 27, constantValue := 0 }, { name := "OTHER_PUNCTUATION", type := .byte, accessFlags := 25, slot := 28, constantValue := 0 }, { name := "MATH_SYMBOL", type := .byte, accessFlags := 25, slot := 29, constantValue := 0 }, { name := "CURRENCY_SYMBOL", type := .byte, accessFlags := 25, slot := 30, constantValue := 0 }, { name := "MODIFIER_SYMBOL", type := .byte, accessFlags := 25, slot := 31, constantValue := 0 }, { name := "OTHER_SYMBOL", type := .byte, accessFlags := 25, slot := 32, constantValue := 0 }, { name := "INITIAL_QUOTE_PUNCTUATION", type := .byte, accessFlags := 25, slot := 33, constantValue := 0 }, { name := "FINAL_QUOTE_PUNCTUATION", type := .byte, accessFlags := 25, slot := 34, constantValue := 0 }, { name := "ERROR", type := .int, accessFlags := 24, slot := 35, constantValue := 0 }, { name := "DIRECTIONALITY_UNDEFINED", type := .byte, accessFlags := 25, slot := 36, constantValue := 0 }, { name := "DIRECTIONALITY_LEFT_TO_RIGHT", type := .byte, accessFlags := 25, slot := 37, constantValue := 0 }, { name := "DIRECTIONALITY_RIGHT_TO_LEFT", type := .byte, accessFlags := 25, slot := 38, constantValue := 0 }, { name := "DIRECTIONALITY_RIGHT_TO_LEFT_ARABIC", type := .byte, accessFlags := 25, slot := 39, constantValue := 0 }, { name := "DIRECTIONALITY_EUROPEAN_NUMBER", type := .byte, accessFlags := 25, slot := 40, constantValue := 0 }, { name := "DIRECTIONALITY_EUROPEAN_NUMBER_SEPARATOR", type := .byte, accessFlags := 25, slot := 41, constantValue := 0 }, { name := "DIRECTIONALITY_EUROPEAN_NUMBER_TERMINATOR", type := .byte, accessFlags := 25, slot := 42, constantValue := 0 }, { name := "DIRECTIONALITY_ARABIC_NUMBER", type := .byte, accessFlags := 25, slot := 43, constantValue := 0 }, { name := "DIRECTIONALITY_COMMON_NUMBER_SEPARATOR", type := .byte, accessFlags := 25, slot := 44, constantValue := 0 }, { name := "DIRECTIONALITY_NONSPACING_MARK", type := .byte, accessFlags := 25, slot := 45, constantValue := 0 }, { name := "DIRECTIONALITY_BOUNDARY_NEUTRAL", type := .byte, accessFlags := 25, slot := 46, constantValue := 0 }, { name := "DIRECTIONALITY_PARAGRAPH_SEPARATOR", type := .byte, accessFlags := 25, slot := 47, constantValue := 0 }, { name := "DIRECTIONALITY_SEGMENT_SEPARATOR", type := .byte, accessFlags := 25, slot := 48, constantValue := 0 }, { name := "DIRECTIONALITY_WHITESPACE", type := .byte, accessFlags := 25, slot := 49, constantValue := 0 }, { name := "DIRECTIONALITY_OTHER_NEUTRALS", type := .byte, accessFlags := 25, slot := 50, constantValue := 0 }, { name := "DIRECTIONALITY_LEFT_TO_RIGHT_EMBEDDING", type := .byte, accessFlags := 25, slot := 51, constantValue := 0 }, { name := "DIRECTIONALITY_LEFT_TO_RIGHT_OVERRIDE", type := .byte, accessFlags := 25, slot := 52, constantValue := 0 }, { name := "DIRECTIONALITY_RIGHT_TO_LEFT_EMBEDDING", type := .byte, accessFlags := 25, slot := 53, constantValue := 0 }, { name := "DIRECTIONALITY_RIGHT_TO_LEFT_OVERRIDE", type := .byte, accessFlags := 25, slot := 54, constantValue := 0 }, { name := "DIRECTIONALITY_POP_DIRECTIONAL_FORMAT", type := .byte, accessFlags := 25, slot := 55, constantValue := 0 }, { name := "DIRECTIONALITY_LEFT_TO_RIGHT_ISOLATE", type := .byte, accessFlags := 25, slot := 56, constantValue := 0 }, { name := "DIRECTIONALITY_RIGHT_TO_LEFT_ISOLATE", type := .byte, accessFlags := 25, slot := 57, constantValue := 0 }, { name := "DIRECTIONALITY_FIRST_STRONG_ISOLATE", type := .byte, accessFlags := 25, slot := 58, constantValue := 0 }, { name := "DIRECTIONALITY_POP_DIRECTIONAL_ISOLATE", type := .byte, accessFlags := 25, slot := 59, constantValue := 0 }, { name := "MIN_HIGH_SURROGATE", type := .char, accessFlags := 25, slot := 60, constantValue := 0 }, { name := "MAX_HIGH_SURROGATE", type := .char, accessFlags := 25, slot := 61, constantValue := 0 }, { name := "MIN_LOW_SURROGATE", type := .char, accessFlags := 25, slot := 62, constantValue := 0 }, { name := "MAX_LOW_SURROGATE", type := .char, accessFlags := 25, slot := 63, constantValue := 0 }, { name := "MIN_SURROGATE", type := .char, accessFlags := 25, slot := 64, constantValue := 0 }, { name := "MAX_SURROGATE", type := .char, accessFlags := 25, slot := 65, constantValue := 0 }, { name := "MIN_SUPPLEMENTARY_CODE_POINT", type := .int, accessFlags := 25, slot := 66, constantValue := 0 }, { name := "MIN_CODE_POINT", type := .int, accessFlags := 25, slot := 67, constantValue := 0 }, { name := "MAX_CODE_POINT", type := .int, accessFlags := 25, slot := 68, constantValue := 0 }, { name := "value", type := .char, accessFlags := 18, slot := 0, constantValue := 0 }, { name := "serialVersionUID", type := .long, accessFlags := 26, slot := 69, constantValue := 0 }, { name := "SIZE", type := .int, accessFlags := 25, slot := 70, constantValue := 0 }, { name := "BYTES", type := .int, accessFlags := 25, slot := 71, constantValue := 0 }, { name := "$assertionsDisabled", type := .boolean, accessFlags := 4120, slot := 72, constantValue := 0 }]
  methods := #[k13m0, k13m1, k13m2, k13m3]
  instanceTypes := #[.char]
  staticTypes := #[.int, .int, .char, .char, (.object "java/lang/Class"), .byte, .byte, .byte, .byte, .byte, .byte, .byte, .byte, .byte, .byte, .byte, .byte, .byte, .byte, .byte, .byte, .byte, .byte, .byte, .byte, .byte, .byte, .byte, .byte, .byte, .byte, .byte, .byte, .byte, .byte, .int, .byte, .byte, .byte, .byte, .byte, .byte, .byte, .byte, .byte, .byte, .byte, .byte, .byte, .byte, .byte, .byte, .byte, .byte, .byte, .byte, .byte, .byte, .byte, .byte, .char, .char, .char, .char, .char, .char, .int, .int, .int, .long, .int, .int, .boolean]
  resolved := Array.replicate 604 none
  statics := none }

def pool14 : Array CpInfo := pool [(4, .class_ 6), (1, u "java/lang/Object"), (0, u "<init>"), (0, u "()V"), (5, .class_ 16), (1, u "java/lang/StringLatin1"), (104, u "$assertionsDisabled"), (0, u "Z"), (98, .class_ 223), (1, u "java/lang/StringLatin1$LinesSpliterator"), (166, .class_ 391), (0, u "java/lang/StringLatin1$CharsSpliterator")] 3

def k14m0 : Method := { name := "<init>", desc := "()V", sig := { parameters := [], returnType := none }, accessFlags := 0, code := none }
/-- java/lang/StringLatin1 -/
def k14 : Class := { plain "java/lang/StringLatin1" (some 0) with
  accessFlags := 48
  interfaces := #[]
  cf := some (fileOf pool14 14 #[.nestMembers #[390, 221]] #[{ accessFlags := 0, nameIndex := 7, descriptorIndex := 8, attributes := #[] }] 48 4 #[] #[{ accessFlags := 4120, nameIndex := 121, descriptorIndex := 122, attributes := #[] }])
  fields := #[{ name := "$assertionsDisabled", type := .boolean, accessFlags := 4120, slot := 0, constantValue := 0 }]
  methods := #[k14m0]
  instanceTypes := #[]
  staticTypes := #[.boolean]
  resolved := Array.replicate 395 none
  statics := none }

def pool15 : Array CpInfo := pool [(9, u "<init>"), (6, .class_ 18), (1, u "java/lang/Object"), (0, u "()V"), (1, .class_ 23), (1, u "jdk/internal/util/ArraysSupport"), (0, u "LOG2_ARRAY_LONG_INDEX_SCALE"), (0, u "I"), (2, u "U"), (0, u "Ljdk/internal/misc/Unsafe;"), (8, u "BIG_ENDIAN"), (0, u "Z"), (8, u "LOG2_BYTE_BIT_SIZE"), (4, u "LOG2_ARRAY_INT_INDEX_SCALE"), (54, u "JLA"), (0, u "Ljdk/internal/access/JavaLangAccess;"), (11, u "LOG2_ARRAY_BOOLEAN_INDEX_SCALE"), (9, u "LOG2_ARRAY_BYTE_INDEX_SCALE"), (5, u "LOG2_ARRAY_CHAR_INDEX_SCALE"), (5, u "LOG2_ARRAY_SHORT_INDEX_SCALE"), (18, u "LOG2_ARRAY_FLOAT_INDEX_SCALE"), (24, u "LOG2_ARRAY_DOUBLE_INDEX_SCALE"), (89, u "T_BOOLEAN"), (2, u "T_CHAR"), (1, u "T_FLOAT"), (1, u "T_DOUBLE"), (1, u "T_BYTE"), (1, u "T_SHORT"), (1, u "T_INT"), (1, u "T_LONG"), (1, u "SOFT_MAX_ARRAY_LENGTH")] 83

def k15m0 : Method := { name := "<init>", desc := "()V", sig := { parameters := [], returnType := none }, accessFlags := 2, code := none }
/-- jdk/internal/util/ArraysSupport -/
def k15 : Class := { plain "jdk/internal/util/ArraysSupport" (some 0) with
  accessFlags := 33
  interfaces := #[]
  cf := some (fileOf pool15 21 #[] #[{ accessFlags := 2, nameIndex := 9, descriptorIndex := 19, attributes := #[] }] 33 16 #[] #[{ accessFlags := 24, nameIndex := 28, descriptorIndex := 29, attributes := #[] }, { accessFlags := 26, nameIndex := 38, descriptorIndex := 39, attributes := #[] }, { accessFlags := 25, nameIndex := 121, descriptorIndex := 25, attributes := #[] }, { accessFlags := 25, nameIndex := 131, descriptorIndex := 25, attributes := #[] }, { accessFlags := 25, nameIndex := 137, descriptorIndex := 25, attributes := #[] }, { accessFlags := 25, nameIndex := 143, descriptorIndex := 25, attributes := #[] }, { accessFlags := 25, nameIndex := 53, descriptorIndex := 25, attributes := #[] }, { accessFlags := 25, nameIndex := 24, descriptorIndex := 25, attributes := #[] }, { accessFlags := 25, nameIndex := 162, descriptorIndex := 25, attributes := #[] }, { accessFlags := 25, nameIndex := 187, descriptorIndex := 25, attributes := #[] }, { accessFlags := 26, nameIndex := 48, descriptorIndex := 25, attributes := #[] }, { accessFlags := 25, nameIndex := 277, descriptorIndex := 25, attributes := #[] }, { accessFlags := 25, nameIndex := 280, descriptorIndex := 25, attributes := #[] }, { accessFlags := 25, nameIndex := 282, descriptorIndex := 25, attributes := #[] }, { accessFlags := 25, nameIndex := 284, descriptorIndex := 25, attributes := #[] }, { accessFlags := 25, nameIndex := 286, descriptorIndex := 25, attributes := #[] }, { accessFlags := 25, nameIndex := 288, descriptorIndex := 25, attributes := #[] }, { accessFlags := 25, nameIndex := 290, descriptorIndex := 25, attributes := #[] }, { accessFlags := 25, nameIndex := 292, descriptorIndex := 25, attributes := #[] }, { accessFlags := 26, nameIndex := 108, descriptorIndex := 109, attributes := #[] }, { accessFlags := 25, nameIndex := 294, descriptorIndex := 25, attributes := #[] }])
  fields := #[{ name := "U", type := (.object "jdk/internal/misc/Unsafe"), accessFlags := 24, slot := 0, constantValue := 0 }, { name := "BIG_ENDIAN", type := .boolean, accessFlags := 26, slot := 1, constantValue := 0 }, { name := "LOG2_ARRAY_BOOLEAN_INDEX_SCALE", type := .int, accessFlags := 25, slot := 2, constantValue := 0 }, { name := "LOG2_ARRAY_BYTE_INDEX_SCALE", type := .int, accessFlags := 25, slot := 3, constantValue := 0 }, { name := "LOG2_ARRAY_CHAR_INDEX_SCALE", type := .int, accessFlags := 25, slot := 4, constantValue := 0 }, { name := "LOG2_ARRAY_SHORT_INDEX_SCALE", type := .int, accessFlags := 25, slot := 5, constantValue := 0 }, { name := "LOG2_ARRAY_INT_INDEX_SCALE", type := .int, accessFlags := 25, slot := 6, constantValue := 0 }, { name := "LOG2_ARRAY_LONG_INDEX_SCALE", type := .int, accessFlags := 25, slot := 7, constantValue := 0 }, { name := "LOG2_ARRAY_FLOAT_INDEX_SCALE", type := .int, accessFlags := 25, slot := 8, constantValue := 0 }, { name := "LOG2_ARRAY_DOUBLE_INDEX_SCALE", type := .int, accessFlags := 25, slot := 9, constantValue := 0 }, { name := "LOG2_BYTE_BIT_SIZE", type := .int, accessFlags := 26, slot := 10, constantValue := 0 }, { name := "T_BOOLEAN", type := .int, accessFlags := 25, slot := 11, constantValue := 0 }, { name := "T_CHAR", type := .int, accessFlags := 25, slot := 12, constantValue := 0 }, { name := "T_FLOAT", type := .int, accessFlags := 25, slot := 13, constantValue := 0 }, { name := "T_DOUBLE", type := .int, accessFlags := 25, slot := 14, constantValue := 0 }, { name := "T_BYTE", type := .int, accessFlags := 25, slot := 15, constantValue := 0 }, { name := "T_SHORT", type := .int, accessFlags := 25, slot := 16, constantValue := 0 }, { name := "T_INT", type := .int, accessFlags := 25, slot := 17, constantValue := 0 }, { name := "T_LONG", type := .int, accessFlags := 25, slot := 18, constantValue := 0 }, { name := "JLA", type := (.object "jdk/internal/access/JavaLangAccess"), accessFlags := 26, slot := 19, constantValue := 0 }, { name := "SOFT_MAX_ARRAY_LENGTH", type := .int, accessFlags := 25, slot := 20, constantValue := 0 }]
  methods := #[k15m0]
  instanceTypes := #[]
  staticTypes := #[(.object "jdk/internal/misc/Unsafe"), .boolean, .int, .int, .int, .int, .int, .int, .int, .int, .int, .int, .int, .int, .int, .int, .int, .int, .int, (.object "jdk/internal/access/JavaLangAccess"), .int]
  resolved := Array.replicate 378 none
  statics := none }

def pool16 : Array CpInfo := pool [(1, u "java/lang/Cloneable"), (0, .class_ 1), (0, u "java/lang/Object"), (0, .class_ 3)] 3

/-- java/lang/Cloneable -/
def k16 : Class := { plain "java/lang/Cloneable" (some 0) with
  accessFlags := 1537
  interfaces := #[]
  cf := some (fileOf pool16 2 #[] #[] 1537 4 #[] #[])
  fields := #[]
  methods := #[]
  instanceTypes := #[]
  staticTypes := #[]
  resolved := Array.replicate 8 none
  statics := none }

/-- the primitive byte -/
def k17 : Class := { plain "byte" none with kind := .primitive 'B', accessFlags := 0x411 }
/-- [B -/
def k18 : Class := { plain "[B" (some 0) with kind := .array 17 .byte, interfaces := #[16, 2], accessFlags := 1041 }

/-- the primitive char -/
def k19 : Class := { plain "char" none with kind := .primitive 'C', accessFlags := 0x411 }
/-- [C -/
def k20 : Class := { plain "[C" (some 0) with kind := .array 19 .char, interfaces := #[16, 2], accessFlags := 1041 }

/-- the primitive int -/
def k21 : Class := { plain "int" none with kind := .primitive 'I', accessFlags := 0x411 }
/-- [I -/
def k22 : Class := { plain "[I" (some 0) with kind := .array 21 .int, interfaces := #[16, 2], accessFlags := 1041 }

def heap : Heap := #[{ cls := 7, slots := #[.long 0, .int 1, .null, .int 0, .null, .int 0, .int 0], vm := .statics 7 },
  { cls := 11, slots := #[.int 0, .int 8, .int 0, .int 1], vm := .statics 11 },
  { cls := 12, slots := #[.null, .null, .null], vm := .statics 12 }]
def classes : Array Class := #[k0, k1, k2, k3, k4, k5, k6, k7, k8, k9, k10, k11, k12, k13, k14, k15, k16, k17, k18, k19, k20, k21, k22]
def interned : List (Array UInt16 × Addr) := []
def slotsUsed : Nat := 14
def theMethod : MethodId := ⟨1, 7⟩
def args0 : Array Value := #[.int 3, .int 2, .int 9, .int 8, .int 7, .int 6]
def aboutOver (below : List Frame) : State where
  vm := { classes := classes, interned := interned.toArray }
  heap := heap
  slotsUsed := slotsUsed
  threads := #[{ frames := .invoking theMethod args0 :: below }]
def below0 : List Frame := [.native { method := ⟨0, 0⟩, args := #[] }]
def about1 : State := aboutOver below0
def p0 : Program := .bare "" "" ""
def e0 : Env := launch0.env 0 0 0
theorem w_frames : about1.frames = Frame.invoking theMethod args0 :: below0 := rfl
set_option maxRecDepth 65536 in
theorem w_args : argsFit about1.vm theMethod args0 = true := by decide +kernel
set_option maxRecDepth 65536 in
theorem w_heap : heapFits about1 = true := by decide +kernel
set_option maxRecDepth 65536 in
theorem w_runnable : about1.curStatus? = some .runnable := by decide +kernel
set_option maxRecDepth 65536 in
theorem w_alone : about1.alone = true := by decide +kernel
set_option maxRecDepth 65536 in
theorem w_named : about1.methodNamed? x = some theMethod := by decide +kernel
set_option maxRecDepth 65536 in
theorem w_hears : about1.hears theMethod below0 = true := by decide +kernel
set_option maxRecDepth 65536 in
theorem w_ripe : about1.ripe theMethod args0 below0 = true := by decide +kernel
theorem w_running : about1.status = .running := rfl
set_option maxRecDepth 65536 in
theorem w_room : about1.hasRoom e0.platform room_1 = true :=
  launch0.hasRoom_least _ room_1 (by decide +kernel) (by decide +kernel) (by decide +kernel) (by decide +kernel) (by decide +kernel) (by decide +kernel)
theorem allAtoms_all (ts : List Jvm.Cond) (a : Array Jvm.Value) (st : Jvm.State) : (allAtoms ts).before a st = ts.all (fun c => c.before a st) := by
  induction ts with
  | nil => rfl
  | cons c t ih =>
    show (Jvm.Cond.and c (allAtoms t)).before a st = _
    rw [Jvm.Cond.before_and, ih, List.all_cons]
def words1 : List Jvm.Cond := Jvm.Cond.code x code maxLocals ret :: tables_1
/-- a 'code' word, met by the world's own term for the bytes: nothing is compared byte by byte -/
theorem code_word {y : MethodName} {bytes : ByteArray} {mx : Nat} {rt : Option FieldType} {a : Array Value} {s : State} {m : MethodId} {meth : Method} {c : Code} (h1 : s.methodNamed? y = some m) (h2 : s.vm.method? m = some meth) (h3 : meth.code = some c) (h4 : c.code = bytes)
    (h5 : (c.maxLocals == mx && c.exceptionTable.isEmpty && decide (c.maxStack ≤ mostOperands) && decide (meth.sig.returnType = rt) && !meth.locks && decide (parseMethodDescriptor y.desc = some meth.sig)) = true) : (Jvm.Cond.code y bytes mx rt).before a s = true := by
  simp only [Bool.and_eq_true, beq_iff_eq, Bool.not_eq_true', decide_eq_true_eq] at h5
  obtain ⟨⟨⟨⟨⟨g1, g2⟩, g3⟩, g4⟩, g5⟩, g6⟩ := h5
  simp [Cond.before, Cond.holds, Cond.value, h1, h2, h3, h4, g1, g2, g3, g4, g5, g6]
def isCode : Jvm.Cond → Bool
  | .code _ _ _ _ => true
  | _ => false
theorem all_split {L : List Jvm.Cond} {P : Jvm.Cond → Bool} (h1 : L.all (fun c => isCode c || P c) = true) (h2 : ∀ c ∈ L.filter isCode, P c = true) : L.all P = true := by
  refine List.all_eq_true.mpr fun c hc => ?_
  have h := List.all_eq_true.mp h1 c hc
  rcases Bool.eq_false_or_eq_true (isCode c) with hi | hi
  · exact h2 c (List.mem_filter.mpr ⟨hc, hi⟩)
  · simpa [hi] using h
set_option maxRecDepth 65536 in
theorem w_c0 : (Jvm.Cond.code x code maxLocals ret).before args0 about1 = true := code_word (m := ⟨1, 7⟩) (meth := k1m7) (c := k1c7) (by decide +kernel) rfl rfl rfl (by decide +kernel)
set_option maxRecDepth 65536 in
theorem w_c1 : (Jvm.Cond.code ({ cls := "com/example/keep_to_layer/keeptolayer/model/ClassNamesComparePinLaw", name := "cp", desc := "(I)I" } : Jvm.MethodName) method_2_code (2 : Nat) (Option.some Jvm.ClassFile.FieldType.int)).before args0 about1 = true := code_word (m := ⟨1, 1⟩) (meth := k1m1) (c := k1c1) (by decide +kernel) rfl rfl rfl (by decide +kernel)
set_option maxRecDepth 65536 in
theorem w_c2 : (Jvm.Cond.code ({ cls := "com/example/keep_to_layer/keeptolayer/model/ClassNamesComparePinLaw", name := "str", desc := "(III)Ljava/lang/String;" } : Jvm.MethodName) method_5_code (3 : Nat) (Option.some (Jvm.ClassFile.FieldType.object "java/lang/String"))).before args0 about1 = true := code_word (m := ⟨1, 4⟩) (meth := k1m4) (c := k1c4) (by decide +kernel) rfl rfl rfl (by decide +kernel)
set_option maxRecDepth 65536 in
theorem w_c3 : (Jvm.Cond.code ({ cls := "java/lang/String", name := "<init>", desc := "([C)V" } : Jvm.MethodName) jdk_42_method_3_code (2 : Nat) (Option.none : Option Jvm.ClassFile.FieldType)).before args0 about1 = true := code_word (m := ⟨7, 1⟩) (meth := k7m1) (c := k7c1) (by decide +kernel) rfl rfl rfl (by decide +kernel)
set_option maxRecDepth 65536 in
theorem w_c4 : (Jvm.Cond.code ({ cls := "java/lang/String", name := "<init>", desc := "([CIILjava/lang/Void;)V" } : Jvm.MethodName) jdk_42_method_149_code (6 : Nat) (Option.none : Option Jvm.ClassFile.FieldType)).before args0 about1 = true := code_word (m := ⟨7, 4⟩) (meth := k7m4) (c := k7c4) (by decide +kernel) rfl rfl rfl (by decide +kernel)
set_option maxRecDepth 65536 in
theorem w_c5 : (Jvm.Cond.code ({ cls := "java/lang/Object", name := "<init>", desc := "()V" } : Jvm.MethodName) object_method_1_code (1 : Nat) (Option.none : Option Jvm.ClassFile.FieldType)).before args0 about1 = true := code_word (m := ⟨0, 0⟩) (meth := k0m0) (c := k0c0) (by decide +kernel) rfl rfl rfl (by decide +kernel)
set_option maxRecDepth 65536 in
theorem w_c6 : (Jvm.Cond.code ({ cls := "com/example/keep_to_layer/keeptolayer/model/ClassNames", name := "compare", desc := "(Ljava/lang/String;Ljava/lang/String;)I" } : Jvm.MethodName) prog_14_method_8_code (5 : Nat) (Option.some Jvm.ClassFile.FieldType.int)).before args0 about1 = true := code_word (m := ⟨8, 1⟩) (meth := k8m1) (c := k8c1) (by decide +kernel) rfl rfl rfl (by decide +kernel)
set_option maxRecDepth 65536 in
theorem w_c7 : (Jvm.Cond.code ({ cls := "java/lang/String", name := "length", desc := "()I" } : Jvm.MethodName) jdk_42_method_54_code (1 : Nat) (Option.some Jvm.ClassFile.FieldType.int)).before args0 about1 = true := code_word (m := ⟨7, 2⟩) (meth := k7m2) (c := k7c2) (by decide +kernel) rfl rfl rfl (by decide +kernel)
set_option maxRecDepth 65536 in
theorem w_c8 : (Jvm.Cond.code ({ cls := "java/lang/String", name := "coder", desc := "()B" } : Jvm.MethodName) jdk_42_method_152_code (1 : Nat) (Option.some Jvm.ClassFile.FieldType.byte)).before args0 about1 = true := code_word (m := ⟨7, 5⟩) (meth := k7m5) (c := k7c5) (by decide +kernel) rfl rfl rfl (by decide +kernel)
set_option maxRecDepth 65536 in
theorem w_c9 : (Jvm.Cond.code ({ cls := "java/lang/Integer", name := "compare", desc := "(II)I" } : Jvm.MethodName) jdk_33_method_40_code (2 : Nat) (Option.some Jvm.ClassFile.FieldType.int)).before args0 about1 = true := code_word (m := ⟨10, 0⟩) (meth := k10m0) (c := k10c0) (by decide +kernel) rfl rfl rfl (by decide +kernel)
set_option maxRecDepth 65536 in
theorem w_c10 : (Jvm.Cond.code ({ cls := "com/example/keep_to_layer/keeptolayer/model/ClassNamesComparePinLaw", name := "ref", desc := "(IIIIII)I" } : Jvm.MethodName) method_7_code (6 : Nat) (Option.some Jvm.ClassFile.FieldType.int)).before args0 about1 = true := code_word (m := ⟨1, 6⟩) (meth := k1m6) (c := k1c6) (by decide +kernel) rfl rfl rfl (by decide +kernel)
set_option maxRecDepth 65536 in
theorem w_c11 : (Jvm.Cond.code ({ cls := "com/example/keep_to_layer/keeptolayer/model/ClassNamesComparePinLaw", name := "cmp", desc := "(II)I" } : Jvm.MethodName) method_6_code (2 : Nat) (Option.some Jvm.ClassFile.FieldType.int)).before args0 about1 = true := code_word (m := ⟨1, 5⟩) (meth := k1m5) (c := k1c5) (by decide +kernel) rfl rfl rfl (by decide +kernel)
set_option maxRecDepth 65536 in
theorem w_c12 : (Jvm.Cond.code ({ cls := "java/lang/StringUTF16", name := "compress", desc := "([CII)[B" } : Jvm.MethodName) jdk_52_method_16_code (6 : Nat) (Option.some (Jvm.ClassFile.FieldType.array Jvm.ClassFile.FieldType.byte))).before args0 about1 = true := code_word (m := ⟨11, 9⟩) (meth := k11m9) (c := k11c9) (by decide +kernel) rfl rfl rfl (by decide +kernel)
set_option maxRecDepth 65536 in
theorem w_c13 : (Jvm.Cond.code ({ cls := "java/lang/StringUTF16", name := "compress", desc := "([CI[BII)I" } : Jvm.MethodName) jdk_52_method_21_code (7 : Nat) (Option.some Jvm.ClassFile.FieldType.int)).before args0 about1 = true := code_word (m := ⟨11, 10⟩) (meth := k11m10) (c := k11c10) (by decide +kernel) rfl rfl rfl (by decide +kernel)
set_option maxRecDepth 65536 in
theorem w_c14 : (Jvm.Cond.code ({ cls := "java/lang/StringUTF16", name := "coderFromArrayLen", desc := "([BI)B" } : Jvm.MethodName) jdk_52_method_15_code (2 : Nat) (Option.some Jvm.ClassFile.FieldType.byte)).before args0 about1 = true := code_word (m := ⟨11, 8⟩) (meth := k11m8) (c := k11c8) (by decide +kernel) rfl rfl rfl (by decide +kernel)
set_option maxRecDepth 65536 in
theorem w_c15 : (Jvm.Cond.code ({ cls := "com/example/keep_to_layer/keeptolayer/model/ClassNamesComparePinLaw", name := "hi", desc := "(I)C" } : Jvm.MethodName) method_3_code (1 : Nat) (Option.some Jvm.ClassFile.FieldType.char)).before args0 about1 = true := code_word (m := ⟨1, 2⟩) (meth := k1m2) (c := k1c2) (by decide +kernel) rfl rfl rfl (by decide +kernel)
set_option maxRecDepth 65536 in
theorem w_c16 : (Jvm.Cond.code ({ cls := "com/example/keep_to_layer/keeptolayer/model/ClassNamesComparePinLaw", name := "lo", desc := "(I)C" } : Jvm.MethodName) method_4_code (1 : Nat) (Option.some Jvm.ClassFile.FieldType.char)).before args0 about1 = true := code_word (m := ⟨1, 3⟩) (meth := k1m3) (c := k1c3) (by decide +kernel) rfl rfl rfl (by decide +kernel)
set_option maxRecDepth 65536 in
theorem w_c17 : (Jvm.Cond.code ({ cls := "java/lang/StringUTF16", name := "toBytes", desc := "([CII)[B" } : Jvm.MethodName) jdk_52_method_14_code (5 : Nat) (Option.some (Jvm.ClassFile.FieldType.array Jvm.ClassFile.FieldType.byte))).before args0 about1 = true := code_word (m := ⟨11, 7⟩) (meth := k11m7) (c := k11c7) (by decide +kernel) rfl rfl rfl (by decide +kernel)
set_option maxRecDepth 65536 in
theorem w_c18 : (Jvm.Cond.code ({ cls := "java/lang/StringUTF16", name := "newBytesFor", desc := "(I)[B" } : Jvm.MethodName) jdk_52_method_2_code (1 : Nat) (Option.some (Jvm.ClassFile.FieldType.array Jvm.ClassFile.FieldType.byte))).before args0 about1 = true := code_word (m := ⟨11, 1⟩) (meth := k11m1) (c := k11c1) (by decide +kernel) rfl rfl rfl (by decide +kernel)
set_option maxRecDepth 65536 in
theorem w_c19 : (Jvm.Cond.code ({ cls := "java/lang/StringUTF16", name := "newBytesLength", desc := "(I)I" } : Jvm.MethodName) jdk_52_method_3_code (1 : Nat) (Option.some Jvm.ClassFile.FieldType.int)).before args0 about1 = true := code_word (m := ⟨11, 2⟩) (meth := k11m2) (c := k11c2) (by decide +kernel) rfl rfl rfl (by decide +kernel)
set_option maxRecDepth 65536 in
theorem w_c20 : (Jvm.Cond.code ({ cls := "java/lang/StringUTF16", name := "putChar", desc := "([BII)V" } : Jvm.MethodName) jdk_52_method_4_code (3 : Nat) (Option.none : Option Jvm.ClassFile.FieldType)).before args0 about1 = true := code_word (m := ⟨11, 3⟩) (meth := k11m3) (c := k11c3) (by decide +kernel) rfl rfl rfl (by decide +kernel)
set_option maxRecDepth 65536 in
theorem w_c21 : (Jvm.Cond.code ({ cls := "java/lang/StringUTF16", name := "getChar", desc := "([BI)C" } : Jvm.MethodName) jdk_52_method_5_code (2 : Nat) (Option.some Jvm.ClassFile.FieldType.char)).before args0 about1 = true := code_word (m := ⟨11, 4⟩) (meth := k11m4) (c := k11c4) (by decide +kernel) rfl rfl rfl (by decide +kernel)
set_option maxRecDepth 65536 in
theorem w_c22 : (Jvm.Cond.code ({ cls := "java/lang/String", name := "codePointAt", desc := "(I)I" } : Jvm.MethodName) jdk_42_method_57_code (3 : Nat) (Option.some Jvm.ClassFile.FieldType.int)).before args0 about1 = true := code_word (m := ⟨7, 3⟩) (meth := k7m3) (c := k7c3) (by decide +kernel) rfl rfl rfl (by decide +kernel)
set_option maxRecDepth 65536 in
theorem w_c23 : (Jvm.Cond.code ({ cls := "java/lang/String", name := "isLatin1", desc := "()Z" } : Jvm.MethodName) jdk_42_method_154_code (1 : Nat) (Option.some Jvm.ClassFile.FieldType.boolean)).before args0 about1 = true := code_word (m := ⟨7, 6⟩) (meth := k7m6) (c := k7c6) (by decide +kernel) rfl rfl rfl (by decide +kernel)
set_option maxRecDepth 65536 in
theorem w_c24 : (Jvm.Cond.code ({ cls := "java/lang/String", name := "checkIndex", desc := "(II)V" } : Jvm.MethodName) jdk_42_method_155_code (2 : Nat) (Option.none : Option Jvm.ClassFile.FieldType)).before args0 about1 = true := code_word (m := ⟨7, 7⟩) (meth := k7m7) (c := k7c7) (by decide +kernel) rfl rfl rfl (by decide +kernel)
set_option maxRecDepth 65536 in
theorem w_c25 : (Jvm.Cond.code ({ cls := "jdk/internal/util/Preconditions", name := "checkIndex", desc := "(IILjava/util/function/BiFunction;)I" } : Jvm.MethodName) jdk_41_method_11_code (3 : Nat) (Option.some Jvm.ClassFile.FieldType.int)).before args0 about1 = true := code_word (m := ⟨12, 1⟩) (meth := k12m1) (c := k12c1) (by decide +kernel) rfl rfl rfl (by decide +kernel)
set_option maxRecDepth 65536 in
theorem w_c26 : (Jvm.Cond.code ({ cls := "java/lang/StringUTF16", name := "codePointAt", desc := "([BII)I" } : Jvm.MethodName) jdk_52_method_8_code (3 : Nat) (Option.some Jvm.ClassFile.FieldType.int)).before args0 about1 = true := code_word (m := ⟨11, 6⟩) (meth := k11m6) (c := k11c6) (by decide +kernel) rfl rfl rfl (by decide +kernel)
set_option maxRecDepth 65536 in
theorem w_c27 : (Jvm.Cond.code ({ cls := "java/lang/StringUTF16", name := "codePointAt", desc := "([BIIZ)I" } : Jvm.MethodName) jdk_52_method_7_code (6 : Nat) (Option.some Jvm.ClassFile.FieldType.int)).before args0 about1 = true := code_word (m := ⟨11, 5⟩) (meth := k11m5) (c := k11c5) (by decide +kernel) rfl rfl rfl (by decide +kernel)
set_option maxRecDepth 65536 in
theorem w_c28 : (Jvm.Cond.code ({ cls := "java/lang/Character", name := "isHighSurrogate", desc := "(C)Z" } : Jvm.MethodName) jdk_89_method_14_code (1 : Nat) (Option.some Jvm.ClassFile.FieldType.boolean)).before args0 about1 = true := code_word (m := ⟨13, 0⟩) (meth := k13m0) (c := k13c0) (by decide +kernel) rfl rfl rfl (by decide +kernel)
set_option maxRecDepth 65536 in
theorem w_c29 : (Jvm.Cond.code ({ cls := "java/lang/Character", name := "isLowSurrogate", desc := "(C)Z" } : Jvm.MethodName) jdk_89_method_15_code (1 : Nat) (Option.some Jvm.ClassFile.FieldType.boolean)).before args0 about1 = true := code_word (m := ⟨13, 1⟩) (meth := k13m1) (c := k13c1) (by decide +kernel) rfl rfl rfl (by decide +kernel)
set_option maxRecDepth 65536 in
theorem w_c30 : (Jvm.Cond.code ({ cls := "java/lang/Character", name := "toCodePoint", desc := "(CC)I" } : Jvm.MethodName) jdk_89_method_19_code (2 : Nat) (Option.some Jvm.ClassFile.FieldType.int)).before args0 about1 = true := code_word (m := ⟨13, 3⟩) (meth := k13m3) (c := k13c3) (by decide +kernel) rfl rfl rfl (by decide +kernel)
set_option maxRecDepth 65536 in
theorem w_c31 : (Jvm.Cond.code ({ cls := "java/lang/Character", name := "charCount", desc := "(I)I" } : Jvm.MethodName) jdk_89_method_18_code (1 : Nat) (Option.some Jvm.ClassFile.FieldType.int)).before args0 about1 = true := code_word (m := ⟨13, 2⟩) (meth := k13m2) (c := k13c2) (by decide +kernel) rfl rfl rfl (by decide +kernel)
def codes1 : List Jvm.Cond := [Jvm.Cond.code x code maxLocals ret, Jvm.Cond.code ({ cls := "com/example/keep_to_layer/keeptolayer/model/ClassNamesComparePinLaw", name := "cp", desc := "(I)I" } : Jvm.MethodName) method_2_code (2 : Nat) (Option.some Jvm.ClassFile.FieldType.int), Jvm.Cond.code ({ cls := "com/example/keep_to_layer/keeptolayer/model/ClassNamesComparePinLaw", name := "str", desc := "(III)Ljava/lang/String;" } : Jvm.MethodName) method_5_code (3 : Nat) (Option.some (Jvm.ClassFile.FieldType.object "java/lang/String")), Jvm.Cond.code ({ cls := "java/lang/String", name := "<init>", desc := "([C)V" } : Jvm.MethodName) jdk_42_method_3_code (2 : Nat) (Option.none : Option Jvm.ClassFile.FieldType), Jvm.Cond.code ({ cls := "java/lang/String", name := "<init>", desc := "([CIILjava/lang/Void;)V" } : Jvm.MethodName) jdk_42_method_149_code (6 : Nat) (Option.none : Option Jvm.ClassFile.FieldType), Jvm.Cond.code ({ cls := "java/lang/Object", name := "<init>", desc := "()V" } : Jvm.MethodName) object_method_1_code (1 : Nat) (Option.none : Option Jvm.ClassFile.FieldType), Jvm.Cond.code ({ cls := "com/example/keep_to_layer/keeptolayer/model/ClassNames", name := "compare", desc := "(Ljava/lang/String;Ljava/lang/String;)I" } : Jvm.MethodName) prog_14_method_8_code (5 : Nat) (Option.some Jvm.ClassFile.FieldType.int), Jvm.Cond.code ({ cls := "java/lang/String", name := "length", desc := "()I" } : Jvm.MethodName) jdk_42_method_54_code (1 : Nat) (Option.some Jvm.ClassFile.FieldType.int), Jvm.Cond.code ({ cls := "java/lang/String", name := "coder", desc := "()B" } : Jvm.MethodName) jdk_42_method_152_code (1 : Nat) (Option.some Jvm.ClassFile.FieldType.byte), Jvm.Cond.code ({ cls := "java/lang/Integer", name := "compare", desc := "(II)I" } : Jvm.MethodName) jdk_33_method_40_code (2 : Nat) (Option.some Jvm.ClassFile.FieldType.int), Jvm.Cond.code ({ cls := "com/example/keep_to_layer/keeptolayer/model/ClassNamesComparePinLaw", name := "ref", desc := "(IIIIII)I" } : Jvm.MethodName) method_7_code (6 : Nat) (Option.some Jvm.ClassFile.FieldType.int), Jvm.Cond.code ({ cls := "com/example/keep_to_layer/keeptolayer/model/ClassNamesComparePinLaw", name := "cmp", desc := "(II)I" } : Jvm.MethodName) method_6_code (2 : Nat) (Option.some Jvm.ClassFile.FieldType.int), Jvm.Cond.code ({ cls := "java/lang/StringUTF16", name := "compress", desc := "([CII)[B" } : Jvm.MethodName) jdk_52_method_16_code (6 : Nat) (Option.some (Jvm.ClassFile.FieldType.array Jvm.ClassFile.FieldType.byte)), Jvm.Cond.code ({ cls := "java/lang/StringUTF16", name := "compress", desc := "([CI[BII)I" } : Jvm.MethodName) jdk_52_method_21_code (7 : Nat) (Option.some Jvm.ClassFile.FieldType.int), Jvm.Cond.code ({ cls := "java/lang/StringUTF16", name := "coderFromArrayLen", desc := "([BI)B" } : Jvm.MethodName) jdk_52_method_15_code (2 : Nat) (Option.some Jvm.ClassFile.FieldType.byte), Jvm.Cond.code ({ cls := "com/example/keep_to_layer/keeptolayer/model/ClassNamesComparePinLaw", name := "hi", desc := "(I)C" } : Jvm.MethodName) method_3_code (1 : Nat) (Option.some Jvm.ClassFile.FieldType.char), Jvm.Cond.code ({ cls := "com/example/keep_to_layer/keeptolayer/model/ClassNamesComparePinLaw", name := "lo", desc := "(I)C" } : Jvm.MethodName) method_4_code (1 : Nat) (Option.some Jvm.ClassFile.FieldType.char), Jvm.Cond.code ({ cls := "java/lang/StringUTF16", name := "toBytes", desc := "([CII)[B" } : Jvm.MethodName) jdk_52_method_14_code (5 : Nat) (Option.some (Jvm.ClassFile.FieldType.array Jvm.ClassFile.FieldType.byte)), Jvm.Cond.code ({ cls := "java/lang/StringUTF16", name := "newBytesFor", desc := "(I)[B" } : Jvm.MethodName) jdk_52_method_2_code (1 : Nat) (Option.some (Jvm.ClassFile.FieldType.array Jvm.ClassFile.FieldType.byte)), Jvm.Cond.code ({ cls := "java/lang/StringUTF16", name := "newBytesLength", desc := "(I)I" } : Jvm.MethodName) jdk_52_method_3_code (1 : Nat) (Option.some Jvm.ClassFile.FieldType.int), Jvm.Cond.code ({ cls := "java/lang/StringUTF16", name := "putChar", desc := "([BII)V" } : Jvm.MethodName) jdk_52_method_4_code (3 : Nat) (Option.none : Option Jvm.ClassFile.FieldType), Jvm.Cond.code ({ cls := "java/lang/StringUTF16", name := "getChar", desc := "([BI)C" } : Jvm.MethodName) jdk_52_method_5_code (2 : Nat) (Option.some Jvm.ClassFile.FieldType.char), Jvm.Cond.code ({ cls := "java/lang/String", name := "codePointAt", desc := "(I)I" } : Jvm.MethodName) jdk_42_method_57_code (3 : Nat) (Option.some Jvm.ClassFile.FieldType.int), Jvm.Cond.code ({ cls := "java/lang/String", name := "isLatin1", desc := "()Z" } : Jvm.MethodName) jdk_42_method_154_code (1 : Nat) (Option.some Jvm.ClassFile.FieldType.boolean), Jvm.Cond.code ({ cls := "java/lang/String", name := "checkIndex", desc := "(II)V" } : Jvm.MethodName) jdk_42_method_155_code (2 : Nat) (Option.none : Option Jvm.ClassFile.FieldType), Jvm.Cond.code ({ cls := "jdk/internal/util/Preconditions", name := "checkIndex", desc := "(IILjava/util/function/BiFunction;)I" } : Jvm.MethodName) jdk_41_method_11_code (3 : Nat) (Option.some Jvm.ClassFile.FieldType.int), Jvm.Cond.code ({ cls := "java/lang/StringUTF16", name := "codePointAt", desc := "([BII)I" } : Jvm.MethodName) jdk_52_method_8_code (3 : Nat) (Option.some Jvm.ClassFile.FieldType.int), Jvm.Cond.code ({ cls := "java/lang/StringUTF16", name := "codePointAt", desc := "([BIIZ)I" } : Jvm.MethodName) jdk_52_method_7_code (6 : Nat) (Option.some Jvm.ClassFile.FieldType.int), Jvm.Cond.code ({ cls := "java/lang/Character", name := "isHighSurrogate", desc := "(C)Z" } : Jvm.MethodName) jdk_89_method_14_code (1 : Nat) (Option.some Jvm.ClassFile.FieldType.boolean), Jvm.Cond.code ({ cls := "java/lang/Character", name := "isLowSurrogate", desc := "(C)Z" } : Jvm.MethodName) jdk_89_method_15_code (1 : Nat) (Option.some Jvm.ClassFile.FieldType.boolean), Jvm.Cond.code ({ cls := "java/lang/Character", name := "toCodePoint", desc := "(CC)I" } : Jvm.MethodName) jdk_89_method_19_code (2 : Nat) (Option.some Jvm.ClassFile.FieldType.int), Jvm.Cond.code ({ cls := "java/lang/Character", name := "charCount", desc := "(I)I" } : Jvm.MethodName) jdk_89_method_18_code (1 : Nat) (Option.some Jvm.ClassFile.FieldType.int)]
set_option maxRecDepth 65536 in
theorem codes_eq : words1.filter isCode = codes1 := rfl
theorem w_codes : ∀ c ∈ words1.filter isCode, c.before args0 about1 = true := by
  rw [codes_eq]
  intro c hc
  simp only [codes1, List.mem_cons, List.not_mem_nil, or_false] at hc
  rcases hc with rfl | rfl | rfl | rfl | rfl | rfl | rfl | rfl | rfl | rfl | rfl | rfl | rfl | rfl | rfl | rfl | rfl | rfl | rfl | rfl | rfl | rfl | rfl | rfl | rfl | rfl | rfl | rfl | rfl | rfl | rfl | rfl
  · exact w_c0
  · exact w_c1
  · exact w_c2
  · exact w_c3
  · exact w_c4
  · exact w_c5
  · exact w_c6
  · exact w_c7
  · exact w_c8
  · exact w_c9
  · exact w_c10
  · exact w_c11
  · exact w_c12
  · exact w_c13
  · exact w_c14
  · exact w_c15
  · exact w_c16
  · exact w_c17
  · exact w_c18
  · exact w_c19
  · exact w_c20
  · exact w_c21
  · exact w_c22
  · exact w_c23
  · exact w_c24
  · exact w_c25
  · exact w_c26
  · exact w_c27
  · exact w_c28
  · exact w_c29
  · exact w_c30
  · exact w_c31
set_option maxRecDepth 65536 in
theorem w_t1 : (words1.take 24).all (fun c => isCode c || c.before args0 about1) = true := by decide +kernel
set_option maxRecDepth 65536 in
theorem w_t2 : ((words1.drop 24).take 24).all (fun c => isCode c || c.before args0 about1) = true := by decide +kernel
set_option maxRecDepth 65536 in
theorem w_t3 : (((words1.drop 24).drop 24).take 24).all (fun c => isCode c || c.before args0 about1) = true := by decide +kernel
set_option maxRecDepth 65536 in
theorem w_t4 : ((((words1.drop 24).drop 24).drop 24).take 24).all (fun c => isCode c || c.before args0 about1) = true := by decide +kernel
set_option maxRecDepth 65536 in
theorem w_t5 : (((((words1.drop 24).drop 24).drop 24).drop 24).take 24).all (fun c => isCode c || c.before args0 about1) = true := by decide +kernel
set_option maxRecDepth 65536 in
theorem w_t6 : (((((words1.drop 24).drop 24).drop 24).drop 24).drop 24).all (fun c => isCode c || c.before args0 about1) = true := by decide +kernel
theorem w_tables : (allAtoms (Jvm.Cond.code x code maxLocals ret :: tables_1)).before args0 about1 = true := by
  rw [allAtoms_all]
  show words1.all (fun c => c.before args0 about1) = true
  refine all_split ?_ w_codes
  rw [← List.take_append_drop 24 words1, List.all_append, w_t1, ← List.take_append_drop 24 (words1.drop 24), List.all_append, w_t2, ← List.take_append_drop 24 ((words1.drop 24).drop 24), List.all_append, w_t3, ← List.take_append_drop 24 (((words1.drop 24).drop 24).drop 24), List.all_append, w_t4, ← List.take_append_drop 24 ((((words1.drop 24).drop 24).drop 24).drop 24), List.all_append, w_t5, w_t6]
  rfl
set_option maxRecDepth 65536 in
theorem w_rest : rest_1_c.before args0 about1 = true := by decide +kernel
set_option maxRecDepth 65536 in
theorem w_case : (Jvm.Cond.and given_1 narrow_1).before args0 about1 = true := by decide +kernel
set_option maxRecDepth 65536 in
theorem w_consts : constsHeld consts_1 about1 := Jvm.Lit.constsHeldB_iff.mp (by decide +kernel)
theorem w_applies : (headSpec (Jvm.Cond.code x code maxLocals ret :: tables_1) room_1).applies x e0.platform about1 = true :=
  (Spec.applies_iff w_frames).mpr ⟨w_running, w_runnable, w_alone, w_named, w_hears, w_ripe, w_room, w_tables⟩
theorem atStart : AtStart classFile x code maxLocals ret World_1 tables_1 room_1 Calls_1 rest_1 Pre_1 launch0 p0 e0 about1 theMethod args0 below0 :=
  ⟨lists_1, trivial, launch0.admits_env _ _ _, launch0.least_env, fairChoices_fair.cas, fairChoices_fair.clock, w_frames, w_args, w_heap, w_applies, ⟨w_consts, trivial⟩, w_rest, w_case⟩
end start1
theorem witness_1 : WitnessClaimed_1 := ⟨start1.p0, start1.e0, start1.about1, start1.theMethod, start1.args0, start1.below0, start1.atStart⟩
end Jvm.Pilot.@@N@@
