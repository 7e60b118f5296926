import JvmDerived
import JvmDerived.Pilot.@@N@@Statement
import JvmDerived.Pilot.@@N@@Code
set_option linter.unusedVariables false
set_option linter.unusedSimpArgs false

/- laws to paste: Road.backV, Road.lenW, Road.codOf, pair_says (cut by pick.py; bodies as the Statement names them) -/
namespace Jvm.Pilot.@@N@@
namespace StrChars
open Jvm Sem ClassFile Op Lib Jvm.Stand Jvm.Free.XT Jvm.Free.ALB Jvm.Free.JM Jvm.Free
open Jvm.Lib.Cold (StaticIs)
/-- a char array whose places are chars -/
def Ch (a : Addr) (A : Cell) (U : State) : Prop := Arr .char a A U ∧ Typed .char A
theorem Ch.mv {a : Addr} {A : Cell} {U U' : State} (h : Ch a A U) (hal : U.vm.Alike U'.vm) (hh : U'.heap = U.heap) : Ch a A U' := ⟨h.1.mv hal hh, h.2⟩
theorem Ch.keep {a : Addr} {A : Cell} {U U' : State} (h : Ch a A U) (hal : U.vm.Alike U'.vm) (hk : U'.heap[a]? = some A) : Ch a A U' := ⟨h.1.keep hal hk, h.2⟩
/-- what place i of a char[]'s cell holds -/
def cv (A : Cell) (i : Nat) : Int32 := match A.slots[i]? with | some (.int x) => x | _ => 0
theorem Ch.get {a : Addr} {A : Cell} {U : State} (h : Ch a A U) {i : Nat} (hi : i < A.slots.size) : A.slots[i]? = some (.int (cv A i)) := by
  have e := Array.getElem?_eq_getElem hi
  have f := h.2 i _ e
  unfold cv; rw [e]
  generalize A.slots[i] = v at f
  cases v <;> simp [fits] at f ⊢
/-- the byte that i2b leaves of a char -/
def lo8 (x : Int32) : Int32 := x.toInt8.toInt32
theorem fits_lo8 (y : Int32) : fits .byte (.int (lo8 y)) = true := by
  have h1 := y.toInt8.le_toInt
  have h2 := y.toInt8.toInt_lt
  simp only [lo8, fits, Bool.and_eq_true, decide_eq_true_eq, Int32.le_iff_toInt_le, Int8.toInt_toInt32, show (-128 : Int32).toInt = -128 from by decide, show (127 : Int32).toInt = 127 from by decide]
  omega
/-- A' is A but that each place j of lo .. hi - 1 holds f j -/
def Laid (A A' : Cell) (lo hi : Nat) (f : Nat → Value) : Prop := A'.cls = A.cls ∧ A'.vm = A.vm ∧ A'.slots.size = A.slots.size ∧ ∀ i, A'.slots[i]? = if lo ≤ i ∧ i < hi then some (f i) else A.slots[i]?
theorem Laid.zero (A : Cell) (lo : Nat) (f : Nat → Value) : Laid A A lo (lo + 0) f := ⟨rfl, rfl, rfl, fun i => by rw [if_neg (by omega)]⟩
theorem Laid.step {A Ak : Cell} {lo k : Nat} {f : Nat → Value} {v : Value} (h : Laid A Ak lo k f) (hlo : lo ≤ k) (hk : k < Ak.slots.size) (hv : v = f k) : Laid A (Ak.setSlot k v) lo (k + 1) f := by
  refine ⟨h.1, h.2.1, by simpa [Cell.setSlot] using h.2.2.1, fun i => ?_⟩
  by_cases e : k = i
  · subst e; rw [Cell.slots_setSlot_self v hk, if_pos (by omega), hv]
  · rw [Cell.slots_setSlot_ne v e, h.2.2.2 i]
    by_cases q : lo ≤ i ∧ i < k
    · rw [if_pos q, if_pos (by omega)]
    · rw [if_neg q, if_neg (by omega)]
def U16 : String := "java/lang/StringUTF16"
namespace Cmp5
def yN : MethodName := ⟨"java/lang/StringUTF16", "compress", "([CI[BII)I"⟩
abbrev yB : ByteArray := jdk_52_method_21_code
theorem d0 : decode yB 0 = .ok (.iconst 0, 1) := by decide +kernel
theorem d1 : decode yB 1 = .ok (.istore 5, 2) := by decide +kernel
theorem d3 : decode yB 3 = .ok (.iload 5, 2) := by decide +kernel
theorem d5 : decode yB 5 = .ok (.iload 4, 2) := by decide +kernel
theorem d7 : decode yB 7 = .ok (.if_icmp (.ge) 37, 3) := by decide +kernel
theorem d10 : decode yB 10 = .ok (.aload_n 0, 1) := by decide +kernel
theorem d11 : decode yB 11 = .ok (.iload_n 1, 1) := by decide +kernel
theorem d12 : decode yB 12 = .ok (.caload, 1) := by decide +kernel
theorem d13 : decode yB 13 = .ok (.istore 6, 2) := by decide +kernel
theorem d15 : decode yB 15 = .ok (.iload 6, 2) := by decide +kernel
theorem d17 : decode yB 17 = .ok (.sipush 255, 3) := by decide +kernel
theorem d20 : decode yB 20 = .ok (.if_icmp (.le) 6, 3) := by decide +kernel
theorem d26 : decode yB 26 = .ok (.aload_n 2, 1) := by decide +kernel
theorem d27 : decode yB 27 = .ok (.iload_n 3, 1) := by decide +kernel
theorem d28 : decode yB 28 = .ok (.iload 6, 2) := by decide +kernel
theorem d30 : decode yB 30 = .ok (.i2b, 1) := by decide +kernel
theorem d31 : decode yB 31 = .ok (.bastore, 1) := by decide +kernel
theorem d32 : decode yB 32 = .ok (.iinc 1 1, 3) := by decide +kernel
theorem d35 : decode yB 35 = .ok (.iinc 3 1, 3) := by decide +kernel
theorem d38 : decode yB 38 = .ok (.iinc 5 1, 3) := by decide +kernel
theorem d41 : decode yB 41 = .ok (.goto (-38), 3) := by decide +kernel
theorem d44 : decode yB 44 = .ok (.iload 4, 2) := by decide +kernel
theorem d46 : decode yB 46 = .ok (.ireturn, 1) := by decide +kernel
def site : List Cond := []
def tab : Cond := tabOf yN yB 7 (some .int) site
def P (b : Addr) (A : Cell) (d : Addr) (B : Cell) (o q len : Nat) (args : Array Value) (s : State) : Prop := args = #[.ref b, .int (Int32.ofNat o), .ref d, .int (Int32.ofNat q), .int (Int32.ofNat len)] ∧ Ch b A s ∧ Arr .byte d B s ∧ b ≠ d ∧ o + len ≤ A.slots.size ∧ q + len ≤ B.slots.size ∧ ∀ i, i < len → ¬ 255 < cv A (o + i)
def E (b : Addr) (A : Cell) (d : Addr) (B : Cell) (o q len : Nat) (r : Option Value) (s u : State) : Prop := r = some (.int (Int32.ofNat len)) ∧ ∃ B', Put d B' s u ∧ Laid B B' q (q + len) (fun j => Value.int (lo8 (cv A (o + (j - q)))))
/-- no char of the range above 255: len; the places written hold each char's low byte -/
theorem law (l : Launch) (b : Addr) (A : Cell) (d : Addr) (B : Cell) (o q len : Nat) : Law l yN 5 5 0 0 yB 7 (some .int) site (P b A d B o q len) (E b A d B o q len) (copyLocs d q len) 0 0 := by
  refine Law.of_walk (plainFor_of_name (by decide +kernel)) (by decide +kernel) (by decide +kernel) (by decide) (fun _ _ h => by rw [h.1]; rfl) (fun _ U U' hal hh h => ⟨h.1, h.2.1.mv hal hh, h.2.2.1.mv hal hh, h.2.2.2⟩) (fun r U U' V V' h1 hal h2 h => ⟨h.1, h.2.elim fun B' q => ⟨B', q.1.mv h1 h2, q.2⟩⟩) ?_
  intro p e s m args below meth c s₁ X0 hexec hbytes hml hret hlk hnm hown hh0 W hP
  obtain ⟨rfl, hA, hB, hne, l1, l2, hp⟩ := hP
  have c1 : Steps p.tables e below (s₁.setTop (entryFrame m #[.ref b, .int (Int32.ofNat o), .ref d, .int (Int32.ofNat q), .int (Int32.ofNat len)] 7)) (s₁.setTop (mkF m 0 #[.val (.ref b), .val (.int (Int32.ofNat o)), .val (.ref d), .val (.int (Int32.ofNat q)), .val (.int (Int32.ofNat len)), .unset, .unset] [])) := entry rfl
  have hA0 := hA.1.mv X0.warmed.alike hh0
  have hB0 := hB.mv X0.warmed.alike hh0
  have a31 := hA.1.2.2.2
  have c2 : Steps p.tables e below (s₁.setTop (entryFrame m #[.ref b, .int (Int32.ofNat o), .ref d, .int (Int32.ofNat q), .int (Int32.ofNat len)] 7)) (s₁.setTop (mkF m 3 #[.val (.ref b), .val (.int (Int32.ofNat o)), .val (.ref d), .val (.int (Int32.ofNat q)), .val (.int (Int32.ofNat len)), .val (.int 0), .unset] [])) := c1.trans (by
    refine iconstV X0.here hexec rfl 0 (hb hbytes d0) (by decide) ?_
    refine XS.istore X0.here hexec rfl (hb hbytes d1) rfl rfl ?_
    exact Steps.refl _)
  have loop : ∀ (r i : Nat), i + r = len → ∀ (z : Slot), (z = .unset ∨ ∃ w, z = .val w ∧ w.category = 1) → ∀ (Tl : State) (Bk : Cell), Stand p l e { frames := 0, locals := 0, cells := 0, slots := 0 } s m #[.ref b, .int (Int32.ofNat o), .ref d, .int (Int32.ofNat q), .int (Int32.ofNat len)] below meth c Tl ([] ++ copyLocs d q i) 0 0 → Put d Bk s₁ Tl → Laid B Bk q (q + i) (fun j => Value.int (lo8 (cv A (o + (j - q))))) →
      Steps p.tables e below (s₁.setTop (entryFrame m #[.ref b, .int (Int32.ofNat o), .ref d, .int (Int32.ofNat q), .int (Int32.ofNat len)] 7)) (Tl.setTop (mkF m 3 #[.val (.ref b), .val (.int (Int32.ofNat (o + i))), .val (.ref d), .val (.int (Int32.ofNat (q + i))), .val (.int (Int32.ofNat len)), .val (.int (Int32.ofNat i)), z] [])) → ∃ (T' : State) (B' : Cell) (z' : Slot), Stand p l e { frames := 0, locals := 0, cells := 0, slots := 0 } s m #[.ref b, .int (Int32.ofNat o), .ref d, .int (Int32.ofNat q), .int (Int32.ofNat len)] below meth c T' ([] ++ copyLocs d q len) 0 0 ∧ Put d B' s₁ T' ∧ Laid B B' q (q + len) (fun j => Value.int (lo8 (cv A (o + (j - q))))) ∧
      Steps p.tables e below (s₁.setTop (entryFrame m #[.ref b, .int (Int32.ofNat o), .ref d, .int (Int32.ofNat q), .int (Int32.ofNat len)] 7)) (T'.setTop (mkF m 3 #[.val (.ref b), .val (.int (Int32.ofNat (o + len))), .val (.ref d), .val (.int (Int32.ofNat (q + len))), .val (.int (Int32.ofNat len)), .val (.int (Int32.ofNat len)), z'] [])) := by
    intro r
    induction r with
    | zero =>
      intro i hi z hz Tl Bk Xl pl fl cl
      have hil : i = len := by omega
      rw [hil] at Xl fl cl
      exact ⟨Tl, Bk, z, Xl, pl, fl, cl⟩
    | succ r ih =>
      intro i hi z hz Tl Bk Xl pl fl cl
      have all := X0.warmed.alike.symm.trans Xl.warmed.alike
      have hAl := hA0.keep all (pl.other hne hA0.1)
      have hBk := hB0.like all pl.1 fl.1 fl.2.1 fl.2.2.1
      have hlt : q + i < Bk.slots.size := by rw [fl.2.2.1]; omega
      have c3 : Steps p.tables e below (s₁.setTop (entryFrame m #[.ref b, .int (Int32.ofNat o), .ref d, .int (Int32.ofNat q), .int (Int32.ofNat len)] 7)) (Tl.setTop (mkF m 12 #[.val (.ref b), .val (.int (Int32.ofNat (o + i))), .val (.ref d), .val (.int (Int32.ofNat (q + i))), .val (.int (Int32.ofNat len)), .val (.int (Int32.ofNat i)), z] [.int (Int32.ofNat (o + i)), .ref b])) := cl.trans (by
        refine XS.iload Xl.here hexec rfl (hb hbytes d3) rfl ?_
        refine XS.iload Xl.here hexec rfl (hb hbytes d5) rfl ?_
        refine XS.icmpNo Xl.here hexec rfl (hb hbytes d7) rfl (ii_ge_f (lt32 (by omega) (by omega))) ?_
        refine XS.aloadN Xl.here hexec rfl (hb hbytes d10) rfl rfl ?_
        refine XS.iloadN Xl.here hexec rfl (hb hbytes d11) rfl ?_
        exact Steps.refl _)
      have c4 : Steps p.tables e below (s₁.setTop (entryFrame m #[.ref b, .int (Int32.ofNat o), .ref d, .int (Int32.ofNat q), .int (Int32.ofNat len)] 7)) (Tl.setTop (mkF m 13 #[.val (.ref b), .val (.int (Int32.ofNat (o + i))), .val (.ref d), .val (.int (Int32.ofNat (q + i))), .val (.int (Int32.ofNat len)), .val (.int (Int32.ofNat i)), z] [.int (cv A (o + i))])) := c3.trans (by
        refine Xl.aget hexec hAl rfl (hA.get (i := o + i) (by omega)) rfl rfl (hb hbytes d12) ?_
        exact Steps.refl _)
      have c5 : Steps p.tables e below (s₁.setTop (entryFrame m #[.ref b, .int (Int32.ofNat o), .ref d, .int (Int32.ofNat q), .int (Int32.ofNat len)] 7)) (Tl.setTop (mkF m 15 #[.val (.ref b), .val (.int (Int32.ofNat (o + i))), .val (.ref d), .val (.int (Int32.ofNat (q + i))), .val (.int (Int32.ofNat len)), .val (.int (Int32.ofNat i)), .val (.int (cv A (o + i)))] [])) := c4.trans (by
        refine XS.istoreS Xl.here hexec rfl (hb hbytes d13) rfl rfl hz ?_
        exact Steps.refl _)
      have c6 : Steps p.tables e below (s₁.setTop (entryFrame m #[.ref b, .int (Int32.ofNat o), .ref d, .int (Int32.ofNat q), .int (Int32.ofNat len)] 7)) (Tl.setTop (mkF m 31 #[.val (.ref b), .val (.int (Int32.ofNat (o + i))), .val (.ref d), .val (.int (Int32.ofNat (q + i))), .val (.int (Int32.ofNat len)), .val (.int (Int32.ofNat i)), .val (.int (cv A (o + i)))] [.int (lo8 (cv A (o + i))), .int (Int32.ofNat (q + i)), .ref d])) := c5.trans (by
        refine XS.iload Xl.here hexec rfl (hb hbytes d15) rfl ?_
        refine sipushV Xl.here hexec rfl 255 (hb hbytes d17) (by decide) ?_
        refine XS.icmpYes Xl.here hexec rfl (pc0 := 20) rfl (hb hbytes d20) rfl (ii_le_t (hp i (by omega))) (by decide) rfl ?_
        refine XS.aloadN Xl.here hexec rfl (hb hbytes d26) rfl rfl ?_
        refine XS.iloadN Xl.here hexec rfl (hb hbytes d27) rfl ?_
        refine XS.iload Xl.here hexec rfl (hb hbytes d28) rfl ?_
        refine i2b Xl.here hexec rfl (hb hbytes d30) rfl ?_
        exact Steps.refl _)
      obtain ⟨T7, X7, p7, st7⟩ := Xl.aput hexec hBk rfl hlt rfl (fits_lo8 (cv A (o + i))) (g := (mkF m 31 #[.val (.ref b), .val (.int (Int32.ofNat (o + i))), .val (.ref d), .val (.int (Int32.ofNat (q + i))), .val (.int (Int32.ofNat len)), .val (.int (Int32.ofNat i)), .val (.int (cv A (o + i)))] [.int (lo8 (cv A (o + i))), .int (Int32.ofNat (q + i)), .ref d])) rfl (rest := []) rfl (hb hbytes d31)
      have c8 : Steps p.tables e below (s₁.setTop (entryFrame m #[.ref b, .int (Int32.ofNat o), .ref d, .int (Int32.ofNat q), .int (Int32.ofNat len)] 7)) (T7.setTop (mkF m 32 #[.val (.ref b), .val (.int (Int32.ofNat (o + i))), .val (.ref d), .val (.int (Int32.ofNat (q + i))), .val (.int (Int32.ofNat len)), .val (.int (Int32.ofNat i)), .val (.int (cv A (o + i)))] [])) := c6.trans (st7 _ (Steps.refl _))
      have c9 : Steps p.tables e below (s₁.setTop (entryFrame m #[.ref b, .int (Int32.ofNat o), .ref d, .int (Int32.ofNat q), .int (Int32.ofNat len)] 7)) (T7.setTop (mkF m 3 #[.val (.ref b), .val (.int (Int32.ofNat (o + i) + 1)), .val (.ref d), .val (.int (Int32.ofNat (q + i) + 1)), .val (.int (Int32.ofNat len)), .val (.int (Int32.ofNat i + 1)), .val (.int (cv A (o + i)))] [])) := c8.trans (by
        refine iincV X7.here hexec rfl 1 (hb hbytes d32) (by decide) rfl rfl ?_
        refine iincV X7.here hexec rfl 1 (hb hbytes d35) (by decide) rfl rfl ?_
        refine iincV X7.here hexec rfl 1 (hb hbytes d38) (by decide) rfl rfl ?_
        refine XS.goto X7.here hexec rfl (pc0 := 41) rfl (hb hbytes d41) (by decide) rfl ?_
        exact Steps.refl _)
      have c10 : Steps p.tables e below (s₁.setTop (entryFrame m #[.ref b, .int (Int32.ofNat o), .ref d, .int (Int32.ofNat q), .int (Int32.ofNat len)] 7)) (T7.setTop (mkF m 3 #[.val (.ref b), .val (.int (Int32.ofNat (o + (i + 1)))), .val (.ref d), .val (.int (Int32.ofNat (q + (i + 1)))), .val (.int (Int32.ofNat len)), .val (.int (Int32.ofNat (i + 1))), .val (.int (cv A (o + i)))] [])) := by
        have := c9
        rw [succ32, succ32, succ32] at this
        exact this
      exact ih (i + 1) (by omega) _ (Or.inr ⟨_, rfl, rfl⟩) T7 _ (by rw [copyLocs_step, ← List.append_assoc]; exact X7) (pl.trans p7) (fl.step (by omega) hlt (by simp)) c10
  obtain ⟨T9, B9, z9, X9, p9, f9, g9⟩ := loop len 0 (by omega) .unset (Or.inl rfl) s₁ B (by simpa [copyLocs] using X0) ⟨hB0.1, fun _ _ => rfl, rfl⟩ (Laid.zero _ _ _) c2
  have c11 : Steps p.tables e below (s₁.setTop (entryFrame m #[.ref b, .int (Int32.ofNat o), .ref d, .int (Int32.ofNat q), .int (Int32.ofNat len)] 7)) (T9.setTop (mkF m 46 #[.val (.ref b), .val (.int (Int32.ofNat (o + len))), .val (.ref d), .val (.int (Int32.ofNat (q + len))), .val (.int (Int32.ofNat len)), .val (.int (Int32.ofNat len)), z9] [.int (Int32.ofNat len)])) := g9.trans (by
    refine XS.iload X9.here hexec rfl (hb hbytes d3) rfl ?_
    refine XS.iload X9.here hexec rfl (hb hbytes d5) rfl ?_
    refine XS.icmpYes X9.here hexec rfl (pc0 := 7) rfl (hb hbytes d7) rfl (ii_ge_t (nlt32 (by omega) (Nat.le_refl _))) (by decide) rfl ?_
    refine XS.iload X9.here hexec rfl (hb hbytes d44) rfl ?_
    exact Steps.refl _)
  exact ⟨T9, some (.int (Int32.ofNat len)), _, _, _, X9, by simp, rfl, rfl, (fun h => by cases h), ⟨rfl, B9, p9.from hh0, f9⟩, fun fs hl => c11.trans (X9.ireturnOut hexec hret rfl (Or.inl rfl) (hb hbytes d46) hl)⟩
end Cmp5
namespace Cmp3
def yN : MethodName := ⟨"java/lang/StringUTF16", "compress", "([CII)[B"⟩
abbrev yB : ByteArray := jdk_52_method_16_code
theorem d0 : decode yB 0 = .ok (.iload_n 2, 1) := by decide +kernel
theorem d1 : decode yB 1 = .ok (.newarray .byte, 2) := by decide +kernel
theorem d3 : decode yB 3 = .ok (.astore_n 3, 1) := by decide +kernel
theorem d4 : decode yB 4 = .ok (.aload_n 0, 1) := by decide +kernel
theorem d5 : decode yB 5 = .ok (.iload_n 1, 1) := by decide +kernel
theorem d6 : decode yB 6 = .ok (.aload_n 3, 1) := by decide +kernel
theorem d7 : decode yB 7 = .ok (.iconst 0, 1) := by decide +kernel
theorem d8 : decode yB 8 = .ok (.iload_n 2, 1) := by decide +kernel
theorem d9 : decode yB 9 = .ok (.invokestatic 115, 3) := by decide +kernel
theorem d12 : decode yB 12 = .ok (.istore 4, 2) := by decide +kernel
theorem d14 : decode yB 14 = .ok (.iload 4, 2) := by decide +kernel
theorem d16 : decode yB 16 = .ok (.iload_n 2, 1) := by decide +kernel
theorem d17 : decode yB 17 = .ok (.if_icmp (.eq) 40, 3) := by decide +kernel
theorem d57 : decode yB 57 = .ok (.aload_n 3, 1) := by decide +kernel
theorem d58 : decode yB 58 = .ok (.areturn, 1) := by decide +kernel
def site : List Cond := [.arrayClass .byte, Cmp5.tab] ++ staticW U16 115 Cmp5.yN
def tab : Cond := tabOf yN yB 6 (some (.array .byte)) site
def P (b : Addr) (A : Cell) (o len : Nat) (args : Array Value) (s : State) : Prop := args = #[.ref b, .int (Int32.ofNat o), .int (Int32.ofNat len)] ∧ Ch b A s ∧ o + len ≤ A.slots.size ∧ len ≤ 536870912 ∧ ∀ i, i < len → ¬ 255 < cv A (o + i)
def E (b : Addr) (A : Cell) (o len : Nat) (r : Option Value) (s u : State) : Prop := NewArr .byte "[B" len (fun j => .int (lo8 (cv A (o + j)))) r s u ∧ u.heap.size = s.heap.size + 1
/-- no char of the range above 255: a new byte[] of their low bytes -/
theorem law (l : Launch) (b : Addr) (A : Cell) (o len : Nat) : Law l yN 3 3 1 18 yB 6 (some (.array .byte)) site (P b A o len) (E b A o len) [] 1 len := by
  refine Law.of_walk (plainFor_of_name (by decide +kernel)) (by decide +kernel) (by decide +kernel) (by decide) (fun _ _ h => by rw [h.1]; rfl) (fun _ U U' hal hh h => ⟨h.1, h.2.1.mv hal hh, h.2.2⟩) (fun r U U' V V' h1 hal h2 h => ⟨NewArr.mv r U U' V V' h1 hal h2 h.1, by rw [h1, h2]; exact h.2⟩) ?_
  intro p e s m args below meth c s₁ X0 hexec hbytes hml hret hlk hnm hown hh0 W hP
  obtain ⟨rfl, hA, l1, l2, hp⟩ := hP
  have a31 := hA.1.2.2.2
  have c1 : Steps p.tables e below (s₁.setTop (entryFrame m #[.ref b, .int (Int32.ofNat o), .int (Int32.ofNat len)] 6)) (s₁.setTop (mkF m 0 #[.val (.ref b), .val (.int (Int32.ofNat o)), .val (.int (Int32.ofNat len)), .unset, .unset, .unset] [])) := entry rfl
  have c2 : Steps p.tables e below (s₁.setTop (entryFrame m #[.ref b, .int (Int32.ofNat o), .int (Int32.ofNat len)] 6)) (s₁.setTop (mkF m 1 #[.val (.ref b), .val (.int (Int32.ofNat o)), .val (.int (Int32.ofNat len)), .unset, .unset, .unset] [.int (Int32.ofNat len)])) := c1.trans (by
    refine XS.iloadN X0.here hexec rfl (hb hbytes d0) rfl ?_
    exact Steps.refl _)
  obtain ⟨T3, B3, X3, ba3, bs3, bv3, bh3, bf3, st3⟩ := X0.anew hexec (atype := .byte) (wk W (.arrayClass .byte)) rfl (by show len * 1 ≤ _; omega) (by omega) (g := (mkF m 1 #[.val (.ref b), .val (.int (Int32.ofNat o)), .val (.int (Int32.ofNat len)), .unset, .unset, .unset] [.int (Int32.ofNat len)])) rfl (hb hbytes d1) (rest := []) rfl (Nat.le_refl _) (by show 0 + len ≤ len; omega)
  rw [hh0] at ba3 st3
  have kp3 : XT.Kept s T3 := (XT.Kept.of_eq hh0).push bh3
  have hA3 := hA.keep X3.warmed.alike (kp3 _ _ hA.1.1)
  have hne : b ≠ s.heap.size := hA.1.ne
  have c4 : Steps p.tables e below (s₁.setTop (entryFrame m #[.ref b, .int (Int32.ofNat o), .int (Int32.ofNat len)] 6)) (T3.setTop (mkF m 3 #[.val (.ref b), .val (.int (Int32.ofNat o)), .val (.int (Int32.ofNat len)), .unset, .unset, .unset] [.ref s.heap.size])) := c2.trans (st3 _ (Steps.refl _))
  have c5 : Steps p.tables e below (s₁.setTop (entryFrame m #[.ref b, .int (Int32.ofNat o), .int (Int32.ofNat len)] 6)) (T3.setTop (mkF m 9 #[.val (.ref b), .val (.int (Int32.ofNat o)), .val (.int (Int32.ofNat len)), .val (.ref s.heap.size), .unset, .unset] [.int (Int32.ofNat len), .int 0, .ref s.heap.size, .int (Int32.ofNat o), .ref b])) := c4.trans (by
    refine XS.astoreN X3.here hexec rfl (hb hbytes d3) rfl rfl rfl ?_
    refine XS.aloadN X3.here hexec rfl (hb hbytes d4) rfl rfl ?_
    refine XS.iloadN X3.here hexec rfl (hb hbytes d5) rfl ?_
    refine XS.aloadN X3.here hexec rfl (hb hbytes d6) rfl rfl ?_
    refine iconstV X3.here hexec rfl 0 (hb hbytes d7) (by decide) ?_
    refine XS.iloadN X3.here hexec rfl (hb hbytes d8) rfl ?_
    exact Steps.refl _)
  obtain ⟨v6, T6, X6, E6, g6⟩ := X3.callS hexec (Cmp5.law l b A s.heap.size B3 o 0 len) hown (wks W (staticW U16 115 Cmp5.yN)) (wk W Cmp5.tab) (W := 0) (Nat.le_of_ble_eq_true rfl) (Nat.le_of_ble_eq_true rfl) (Nat.le_refl _) (by show 0 + len + 0 ≤ len; omega) (g := (mkF m 9 #[.val (.ref b), .val (.int (Int32.ofNat o)), .val (.int (Int32.ofNat len)), .val (.ref s.heap.size), .unset, .unset] [.int (Int32.ofNat len), .int (Int32.ofNat 0), .ref s.heap.size, .int (Int32.ofNat o), .ref b])) rfl (by rw [hml]; rfl) c5 (argsL := [.ref b, .int (Int32.ofNat o), .ref s.heap.size, .int (Int32.ofNat 0), .int (Int32.ofNat len)]) (rest := []) rfl rfl (by show 2 * 0 + 0 ≤ _; decide) (hb hbytes d9) (⟨rfl, hA3, ba3, hne, l1, by rw [bs3]; simp, hp⟩)
  obtain ⟨rfl, B6, p6, f6⟩ := E6
  have c7 : Steps p.tables e below (s₁.setTop (entryFrame m #[.ref b, .int (Int32.ofNat o), .int (Int32.ofNat len)] 6)) (T6.setTop (mkF m 12 #[.val (.ref b), .val (.int (Int32.ofNat o)), .val (.int (Int32.ofNat len)), .val (.ref s.heap.size), .unset, .unset] [.int (Int32.ofNat len)])) := g6
  have c8 : Steps p.tables e below (s₁.setTop (entryFrame m #[.ref b, .int (Int32.ofNat o), .int (Int32.ofNat len)] 6)) (T6.setTop (mkF m 58 #[.val (.ref b), .val (.int (Int32.ofNat o)), .val (.int (Int32.ofNat len)), .val (.ref s.heap.size), .val (.int (Int32.ofNat len)), .unset] [.ref s.heap.size])) := c7.trans (by
    refine XS.istore X6.here hexec rfl (hb hbytes d12) rfl rfl ?_
    refine XS.iload X6.here hexec rfl (hb hbytes d14) rfl ?_
    refine XS.iloadN X6.here hexec rfl (hb hbytes d16) rfl ?_
    refine XS.icmpYes X6.here hexec rfl (pc0 := 17) rfl (hb hbytes d17) rfl (ii_eq_t rfl) (by decide) rfl ?_
    refine XS.aloadN X6.here hexec rfl (hb hbytes d57) rfl rfl ?_
    exact Steps.refl _)
  have X8 := X6.wide (L' := []) (cells' := 1) (slots' := len) (fun x hx hlt => by
    simp only [List.nil_append, copyLocs, List.mem_map, List.mem_range] at hx
    obtain ⟨i, -, rfl⟩ := hx
    exact absurd hlt (Nat.lt_irrefl _)) (Nat.le_refl _) (by omega)
  exact ⟨T6, some (.ref s.heap.size), _, _, _, X8, rfl, rfl, rfl, (fun h => by cases h), ⟨⟨rfl, B6, ba3.like (X3.warmed.alike.symm.trans X6.warmed.alike) p6.1 f6.1 f6.2.1 f6.2.2.1, f6.2.1.trans bv3, by rw [X6.warmed.alike.findClass, f6.1]; exact bf3, by rw [f6.2.2.1, bs3]; simp, fun j hj => by rw [f6.2.2.2 j, if_pos (by omega)]; rfl, kp3.put p6 (Nat.le_refl _)⟩, by rw [p6.2.2, bh3, hh0]; simp⟩, fun fs hl => c8.trans (X8.areturnOut hexec rfl hret rfl (hb hbytes d58) hl)⟩
end Cmp3
namespace CodL
def yN : MethodName := ⟨"java/lang/StringUTF16", "coderFromArrayLen", "([BI)B"⟩
abbrev yB : ByteArray := jdk_52_method_15_code
theorem d0 : decode yB 0 = .ok (.iload_n 1, 1) := by decide +kernel
theorem d1 : decode yB 1 = .ok (.aload_n 0, 1) := by decide +kernel
theorem d2 : decode yB 2 = .ok (.arraylength, 1) := by decide +kernel
theorem d3 : decode yB 3 = .ok (.isub, 1) := by decide +kernel
theorem d4 : decode yB 4 = .ok (.bipush 31, 2) := by decide +kernel
theorem d6 : decode yB 6 = .ok (.iushr, 1) := by decide +kernel
theorem d7 : decode yB 7 = .ok (.i2b, 1) := by decide +kernel
theorem d8 : decode yB 8 = .ok (.ireturn, 1) := by decide +kernel
def site : List Cond := []
def tab : Cond := tabOf yN yB 2 (some .byte) site
def P (d : Addr) (B : Cell) (args : Array Value) (s : State) : Prop := args = #[.ref d, .int (Int32.ofNat B.slots.size)] ∧ Arr .byte d B s
def E (r : Option Value) (s u : State) : Prop := XT.PureE (some (.int 0)) r s u
/-- an array as long as the number of chars: LATIN1 -/
theorem law (l : Launch) (d : Addr) (B : Cell) : Law l yN 2 2 0 0 yB 2 (some .byte) site (P d B) E [] 0 0 := by
  refine Law.of_walk (plainFor_of_name (by decide +kernel)) (by decide +kernel) (by decide +kernel) (by decide) (fun _ _ h => by rw [h.1]; rfl) (fun _ U U' hal hh h => ⟨h.1, h.2.mv hal hh⟩) (fun r U U' V V' h1 hal h2 h => XT.PureE.mv r U U' V V' h1 hal h2 h) ?_
  intro p e s m args below meth c s₁ X0 hexec hbytes hml hret hlk hnm hown hh0 W hP
  obtain ⟨rfl, hB⟩ := hP
  have hB0 := hB.mv X0.warmed.alike hh0
  have c1 : Steps p.tables e below (s₁.setTop (entryFrame m #[.ref d, .int (Int32.ofNat B.slots.size)] 2)) (s₁.setTop (mkF m 0 #[.val (.ref d), .val (.int (Int32.ofNat B.slots.size))] [])) := entry rfl
  have c2 : Steps p.tables e below (s₁.setTop (entryFrame m #[.ref d, .int (Int32.ofNat B.slots.size)] 2)) (s₁.setTop (mkF m 2 #[.val (.ref d), .val (.int (Int32.ofNat B.slots.size))] [.ref d, .int (Int32.ofNat B.slots.size)])) := c1.trans (by
    refine XS.iloadN X0.here hexec rfl (hb hbytes d0) rfl ?_
    refine XS.aloadN X0.here hexec rfl (hb hbytes d1) rfl rfl ?_
    exact Steps.refl _)
  have c3 : Steps p.tables e below (s₁.setTop (entryFrame m #[.ref d, .int (Int32.ofNat B.slots.size)] 2)) (s₁.setTop (mkF m 8 #[.val (.ref d), .val (.int (Int32.ofNat B.slots.size))] [.int (lo8 (ushr (Int32.ofNat B.slots.size - Int32.ofNat B.slots.size) 31))])) := c2.trans (by
    refine X0.alen hexec hB0 rfl rfl (hb hbytes d2) ?_
    refine XS.isub X0.here hexec rfl (hb hbytes d3) rfl ?_
    refine bipushV X0.here hexec rfl 31 (hb hbytes d4) (by decide) ?_
    refine iushr X0.here hexec rfl (hb hbytes d6) rfl ?_
    refine i2b X0.here hexec rfl (hb hbytes d7) rfl ?_
    exact Steps.refl _)
  have e0 : lo8 (ushr (Int32.ofNat B.slots.size - Int32.ofNat B.slots.size) 31) = 0 := by rw [Int32.sub_self]; decide
  rw [e0] at c3
  exact ⟨s₁, some (.int 0), _, _, _, X0, rfl, rfl, rfl, (fun h => by cases h), ⟨rfl, hh0⟩, fun fs hl => c3.trans (X0.ireturnOut hexec hret rfl (Or.inr (Or.inr (Or.inl rfl))) (hb hbytes d8) hl)⟩
end CodL
/-- the String at a is Latin-1 over a new byte[] (the heap's one new cell): the low bytes of the len chars of A from o on; every cell but a is kept -/
def Got (a : Addr) (D : Cell) (fV fC : Field) (A : Cell) (o len : Nat) (r : Option Value) (s u : State) : Prop := r = none ∧ ∃ D' V : Cell, Blank "java/lang/String" a D' u ∧ Same D D' [fV.slot, fC.slot] ∧ D'.slots[fV.slot]? = some (.ref s.heap.size) ∧ D'.slots[fC.slot]? = some (.int 0) ∧ Arr .byte s.heap.size V u ∧ V.vm = .none ∧ u.vm.findClass "[B" = some V.cls ∧ V.slots.size = len ∧ (∀ j, j < len → V.slots[j]? = some (.int (lo8 (cv A (o + j))))) ∧ (∀ (y : Addr) (c : Cell), y ≠ a → s.heap[y]? = some c → u.heap[y]? = some c) ∧ u.heap.size = s.heap.size + 1
theorem Got.mv {a : Addr} {D A : Cell} {fV fC : Field} {o len : Nat} : ∀ r (U U' V V' : State), U'.heap = U.heap → V.vm.Alike V'.vm → V'.heap = V.heap → Got a D fV fC A o len r U V → Got a D fV fC A o len r U' V' :=
  fun r U U' V V' h1 hal h2 ⟨e0, D', X, a1, a2, a3, a4, a5, a6, a7, a8, a9, a10, a11⟩ => ⟨e0, D', X, a1.mv hal h2, a2, by rw [h1]; exact a3, a4, by rw [h1]; exact a5.mv hal h2, a6, by rw [hal.findClass]; exact a7, a8, a9, by rw [h1, h2]; exact a10, by rw [h1, h2]; exact a11⟩
namespace New4
def yN : MethodName := ⟨"java/lang/String", "<init>", "([CIILjava/lang/Void;)V"⟩
abbrev yB : ByteArray := jdk_42_method_149_code
theorem d0 : decode yB 0 = .ok (.aload_n 0, 1) := by decide +kernel
theorem d1 : decode yB 1 = .ok (.invokespecial 1, 3) := by decide +kernel
theorem d4 : decode yB 4 = .ok (.iload_n 3, 1) := by decide +kernel
theorem d5 : decode yB 5 = .ok (.ifCond (.ne) 22, 3) := by decide +kernel
theorem d27 : decode yB 27 = .ok (.getstatic 38, 3) := by decide +kernel
theorem d30 : decode yB 30 = .ok (.ifCond (.eq) 28, 3) := by decide +kernel
theorem d33 : decode yB 33 = .ok (.aload_n 1, 1) := by decide +kernel
theorem d34 : decode yB 34 = .ok (.iload_n 2, 1) := by decide +kernel
theorem d35 : decode yB 35 = .ok (.iload_n 3, 1) := by decide +kernel
theorem d36 : decode yB 36 = .ok (.invokestatic 177, 3) := by decide +kernel
theorem d39 : decode yB 39 = .ok (.astore 5, 2) := by decide +kernel
theorem d41 : decode yB 41 = .ok (.aload_n 0, 1) := by decide +kernel
theorem d42 : decode yB 42 = .ok (.aload 5, 2) := by decide +kernel
theorem d44 : decode yB 44 = .ok (.iload_n 3, 1) := by decide +kernel
theorem d45 : decode yB 45 = .ok (.invokestatic 47, 3) := by decide +kernel
theorem d48 : decode yB 48 = .ok (.putfield 15, 3) := by decide +kernel
theorem d51 : decode yB 51 = .ok (.aload_n 0, 1) := by decide +kernel
theorem d52 : decode yB 52 = .ok (.aload 5, 2) := by decide +kernel
theorem d54 : decode yB 54 = .ok (.putfield 9, 3) := by decide +kernel
theorem d57 : decode yB 57 = .ok (.return_, 1) := by decide +kernel
def site : List Cond := [.fieldLink "java/lang/String" 38 "java/lang/String" "COMPACT_STRINGS" "Z", Cmp3.tab, CodL.tab, .laysFinal "java/lang/String" "java/lang/String" "value" "[B", .fieldLink "java/lang/String" 9 "java/lang/String" "value" "[B", .laysFinal "java/lang/String" "java/lang/String" "coder" "B", .fieldLink "java/lang/String" 15 "java/lang/String" "coder" "B"] ++ objW "java/lang/String" 1 ++ staticW "java/lang/String" 177 Cmp3.yN ++ staticW "java/lang/String" 47 CodL.yN
def tab : Cond := tabOf yN yB 6 none site
def P (a : Addr) (D : Cell) (fV fC : Field) (b : Addr) (A : Cell) (z : Int32) (o len : Nat) (args : Array Value) (s : State) : Prop := args = #[.ref a, .ref b, .int (Int32.ofNat o), .int (Int32.ofNat len), .null] ∧ Blank "java/lang/String" a D s ∧ Found "java/lang/String" "value" "[B" fV s ∧ Found "java/lang/String" "coder" "B" fC s ∧ Ch b A s ∧ StaticIs s "java/lang/String" "COMPACT_STRINGS" "Z" (.int z) ∧ ¬ z = 0 ∧ 0 < len ∧ o + len ≤ A.slots.size ∧ len ≤ 536870912 ∧ ∀ i, i < len → ¬ 255 < cv A (o + i)
def E (a : Addr) (D : Cell) (fV fC : Field) (A : Cell) (o len : Nat) (r : Option Value) (s u : State) : Prop := Got a D fV fC A o len r s u
/-- len > 0, no char of the range above 255: a Latin-1 String of their low bytes -/
theorem law (l : Launch) (a : Addr) (D : Cell) (fV fC : Field) (b : Addr) (A : Cell) (z : Int32) (o len : Nat) : Law l yN 5 4 2 35 yB 6 none site (P a D fV fC b A z o len) (E a D fV fC A o len) [⟨a, fC.slot⟩, ⟨a, fV.slot⟩] 1 len := by
  refine Law.of_walk (plainFor_of_name (by decide +kernel)) (by decide +kernel) (by decide +kernel) (by decide) (fun _ _ h => by rw [h.1]; rfl) (fun _ U U' hal hh h => ⟨h.1, h.2.1.mv hal hh, h.2.2.1.al hal, h.2.2.2.1.al hal, h.2.2.2.2.1.mv hal hh, h.2.2.2.2.2.1.there hal hh, h.2.2.2.2.2.2⟩) (fun r U U' V V' h1 hal h2 h => Got.mv r U U' V V' h1 hal h2 h) ?_
  intro p e s m args below meth c s₁ X0 hexec hbytes hml hret hlk hnm hown hh0 W hP
  obtain ⟨rfl, hB, f1, f2, hA, s1, hz, l0, l1, l2, hp⟩ := hP
  have a31 := hA.1.2.2.2
  have c1 : Steps p.tables e below (s₁.setTop (entryFrame m #[.ref a, .ref b, .int (Int32.ofNat o), .int (Int32.ofNat len), .null] 6)) (s₁.setTop (mkF m 0 #[.val (.ref a), .val (.ref b), .val (.int (Int32.ofNat o)), .val (.int (Int32.ofNat len)), .val .null, .unset] [])) := entry rfl
  have c2 : Steps p.tables e below (s₁.setTop (entryFrame m #[.ref a, .ref b, .int (Int32.ofNat o), .int (Int32.ofNat len), .null] 6)) (s₁.setTop (mkF m 1 #[.val (.ref a), .val (.ref b), .val (.int (Int32.ofNat o)), .val (.int (Int32.ofNat len)), .val .null, .unset] [.ref a])) := c1.trans (by
    refine XS.aloadN X0.here hexec rfl (hb hbytes d0) rfl rfl ?_
    exact Steps.refl _)
  obtain ⟨T3, X3, q3, st3⟩ := X0.oinit hexec hown (wks W (objW "java/lang/String" 1)) (g := (mkF m 1 #[.val (.ref a), .val (.ref b), .val (.int (Int32.ofNat o)), .val (.int (Int32.ofNat len)), .val .null, .unset] [.ref a])) rfl (by rw [hml]; rfl) (rest := []) rfl (hb hbytes d1) (W := 0) (by show 2 * 0 + 0 ≤ _; decide) (Nat.le_of_ble_eq_true rfl) (Nat.le_of_ble_eq_true rfl)
  have hh3 := q3.trans hh0
  have c4 : Steps p.tables e below (s₁.setTop (entryFrame m #[.ref a, .ref b, .int (Int32.ofNat o), .int (Int32.ofNat len), .null] 6)) (T3.setTop (mkF m 27 #[.val (.ref a), .val (.ref b), .val (.int (Int32.ofNat o)), .val (.int (Int32.ofNat len)), .val .null, .unset] [])) := (c2.trans (st3 _ (Steps.refl _))).trans (by
    refine XS.iloadN X3.here hexec rfl (hb hbytes d4) rfl ?_
    refine XS.ifYes X3.here hexec rfl (pc0 := 5) rfl (hb hbytes d5) rfl (i0_ne_t (nz32 (by omega) l0)) (by decide) rfl ?_
    exact Steps.refl _)
  obtain ⟨T5, X5, q5, st5⟩ := X3.sget hexec hown (wk W (.fieldLink "java/lang/String" 38 "java/lang/String" "COMPACT_STRINGS" "Z")) s1 (fun _ _ h => by rw [hh3]; exact h) (g := (mkF m 27 #[.val (.ref a), .val (.ref b), .val (.int (Int32.ofNat o)), .val (.int (Int32.ofNat len)), .val .null, .unset] [])) rfl (hb hbytes d27)
  have hh5 := q5.trans hh3
  have c6 : Steps p.tables e below (s₁.setTop (entryFrame m #[.ref a, .ref b, .int (Int32.ofNat o), .int (Int32.ofNat len), .null] 6)) (T5.setTop (mkF m 30 #[.val (.ref a), .val (.ref b), .val (.int (Int32.ofNat o)), .val (.int (Int32.ofNat len)), .val .null, .unset] [.int z])) := c4.trans (st5 _ (Steps.refl _))
  have c7 : Steps p.tables e below (s₁.setTop (entryFrame m #[.ref a, .ref b, .int (Int32.ofNat o), .int (Int32.ofNat len), .null] 6)) (T5.setTop (mkF m 36 #[.val (.ref a), .val (.ref b), .val (.int (Int32.ofNat o)), .val (.int (Int32.ofNat len)), .val .null, .unset] [.int (Int32.ofNat len), .int (Int32.ofNat o), .ref b])) := c6.trans (by
    refine XS.ifNo X5.here hexec rfl (hb hbytes d30) rfl (i0_eq_f hz) ?_
    refine XS.aloadN X5.here hexec rfl (hb hbytes d33) rfl rfl ?_
    refine XS.iloadN X5.here hexec rfl (hb hbytes d34) rfl ?_
    refine XS.iloadN X5.here hexec rfl (hb hbytes d35) rfl ?_
    exact Steps.refl _)
  obtain ⟨v8, T8, X8, E8, g8⟩ := X5.callS hexec (Cmp3.law l b A o len) hown (wks W (staticW "java/lang/String" 177 Cmp3.yN)) (wk W Cmp3.tab) (W := 0) (Nat.le_of_ble_eq_true rfl) (Nat.le_of_ble_eq_true rfl) (Nat.le_refl _) (by show 0 + len ≤ len; omega) (g := (mkF m 36 #[.val (.ref a), .val (.ref b), .val (.int (Int32.ofNat o)), .val (.int (Int32.ofNat len)), .val .null, .unset] [.int (Int32.ofNat len), .int (Int32.ofNat o), .ref b])) rfl (by rw [hml]; rfl) c7 (argsL := [.ref b, .int (Int32.ofNat o), .int (Int32.ofNat len)]) (rest := []) rfl rfl (by show 2 * 0 + 0 ≤ _; decide) (hb hbytes d36) (⟨rfl, hA.mv X5.warmed.alike hh5, l1, l2, hp⟩)
  obtain ⟨e8, z8⟩ := E8
  obtain ⟨rfl, N, n1, n2, n3, n4, n5, n6⟩ := NewArr.mv _ T5 s _ _ hh5.symm (Vm.Alike.refl _) rfl e8
  rw [hh5] at z8
  have hB1 := hB.keep X8.warmed.alike (n6 _ _ hB.1)
  have hne : s.heap.size ≠ a := (Nat.ne_of_lt (Array.getElem?_eq_some_iff.mp hB.1).1).symm
  have c9 : Steps p.tables e below (s₁.setTop (entryFrame m #[.ref a, .ref b, .int (Int32.ofNat o), .int (Int32.ofNat len), .null] 6)) (T8.setTop (mkF m 39 #[.val (.ref a), .val (.ref b), .val (.int (Int32.ofNat o)), .val (.int (Int32.ofNat len)), .val .null, .unset] [.ref s.heap.size])) := g8
  have c10 : Steps p.tables e below (s₁.setTop (entryFrame m #[.ref a, .ref b, .int (Int32.ofNat o), .int (Int32.ofNat len), .null] 6)) (T8.setTop (mkF m 45 #[.val (.ref a), .val (.ref b), .val (.int (Int32.ofNat o)), .val (.int (Int32.ofNat len)), .val .null, .val (.ref s.heap.size)] [.int (Int32.ofNat N.slots.size), .ref s.heap.size, .ref a])) := by
    have hc : Steps p.tables e below (s₁.setTop (entryFrame m #[.ref a, .ref b, .int (Int32.ofNat o), .int (Int32.ofNat len), .null] 6)) (T8.setTop (mkF m 45 #[.val (.ref a), .val (.ref b), .val (.int (Int32.ofNat o)), .val (.int (Int32.ofNat len)), .val .null, .val (.ref s.heap.size)] [.int (Int32.ofNat len), .ref s.heap.size, .ref a])) := c9.trans (by
      refine XS.astore X8.here hexec rfl (hb hbytes d39) rfl rfl rfl ?_
      refine XS.aloadN X8.here hexec rfl (hb hbytes d41) rfl rfl ?_
      refine XS.aload X8.here hexec rfl (hb hbytes d42) rfl rfl ?_
      refine XS.iloadN X8.here hexec rfl (hb hbytes d44) rfl ?_
      exact Steps.refl _)
    rw [n4]; exact hc
  obtain ⟨v11, T11, X11, E11, g11⟩ := X8.callS hexec (CodL.law l s.heap.size N) hown (wks W (staticW "java/lang/String" 47 CodL.yN)) (wk W CodL.tab) (W := 1) (Nat.le_of_ble_eq_true rfl) (Nat.le_of_ble_eq_true rfl) (Nat.le_refl _) (by show 0 + len + 0 ≤ len; omega) (g := (mkF m 45 #[.val (.ref a), .val (.ref b), .val (.int (Int32.ofNat o)), .val (.int (Int32.ofNat len)), .val .null, .val (.ref s.heap.size)] [.int (Int32.ofNat N.slots.size), .ref s.heap.size, .ref a])) rfl (by rw [hml]; rfl) c10 (argsL := [.ref s.heap.size, .int (Int32.ofNat N.slots.size)]) (rest := [.ref a]) rfl rfl (by show 2 * 0 + (1 + 0) ≤ _; decide) (hb hbytes d45) (⟨rfl, n1⟩)
  obtain ⟨rfl, q11⟩ := E11
  have hB11 := hB1.mv (X8.warmed.alike.symm.trans X11.warmed.alike) q11
  have c12 : Steps p.tables e below (s₁.setTop (entryFrame m #[.ref a, .ref b, .int (Int32.ofNat o), .int (Int32.ofNat len), .null] 6)) (T11.setTop (mkF m 48 #[.val (.ref a), .val (.ref b), .val (.int (Int32.ofNat o)), .val (.int (Int32.ofNat len)), .val .null, .val (.ref s.heap.size)] [.int 0, .ref a])) := g11
  obtain ⟨T13, X13, p13, bl13, sl13, st13⟩ := X11.finit hexec hown (wk W (.fieldLink "java/lang/String" 15 "java/lang/String" "coder" "B")) (Or.inr ⟨_, (wk W (.laysFinal "java/lang/String" "java/lang/String" "coder" "B"))⟩) (Or.inl ⟨rfl, hnm⟩) f2 (Or.inl rfl) hB11 (t := .byte) (by decide +kernel) rfl (g := (mkF m 48 #[.val (.ref a), .val (.ref b), .val (.int (Int32.ofNat o)), .val (.int (Int32.ofNat len)), .val .null, .val (.ref s.heap.size)] [.int 0, .ref a])) rfl (rest := []) rfl (hb hbytes d48)
  have c14 : Steps p.tables e below (s₁.setTop (entryFrame m #[.ref a, .ref b, .int (Int32.ofNat o), .int (Int32.ofNat len), .null] 6)) (T13.setTop (mkF m 54 #[.val (.ref a), .val (.ref b), .val (.int (Int32.ofNat o)), .val (.int (Int32.ofNat len)), .val .null, .val (.ref s.heap.size)] [.ref s.heap.size, .ref a])) := (c12.trans (st13 _ (Steps.refl _))).trans (by
    refine XS.aloadN X13.here hexec rfl (hb hbytes d51) rfl rfl ?_
    refine XS.aload X13.here hexec rfl (hb hbytes d52) rfl rfl ?_
    exact Steps.refl _)
  obtain ⟨T15, X15, p15, bl15, sl15, st15⟩ := X13.finit hexec hown (wk W (.fieldLink "java/lang/String" 9 "java/lang/String" "value" "[B")) (Or.inr ⟨_, (wk W (.laysFinal "java/lang/String" "java/lang/String" "value" "[B"))⟩) (Or.inl ⟨rfl, hnm⟩) f1 (Or.inl rfl) bl13 (t := (.array .byte)) (by decide +kernel) rfl (g := (mkF m 54 #[.val (.ref a), .val (.ref b), .val (.int (Int32.ofNat o)), .val (.int (Int32.ofNat len)), .val .null, .val (.ref s.heap.size)] [.ref s.heap.size, .ref a])) rfl (rest := []) rfl (hb hbytes d54)
  have c16 : Steps p.tables e below (s₁.setTop (entryFrame m #[.ref a, .ref b, .int (Int32.ofNat o), .int (Int32.ofNat len), .null] 6)) (T15.setTop (mkF m 57 #[.val (.ref a), .val (.ref b), .val (.int (Int32.ofNat o)), .val (.int (Int32.ofNat len)), .val .null, .val (.ref s.heap.size)] [])) := c14.trans (st15 _ (Steps.refl _))
  have ap := apart (Or.inr ⟨_, (wk W (.laysFinal "java/lang/String" "java/lang/String" "value" "[B"))⟩) (Or.inr ⟨_, (wk W (.laysFinal "java/lang/String" "java/lang/String" "coder" "B"))⟩) f1 f2 (t₁ := .array .byte) (t₂ := .byte) (by decide +kernel) (by decide +kernel) (by decide)
  have al := X8.warmed.alike.symm.trans X15.warmed.alike
  have n7 : T11.heap[s.heap.size]? = some N := by rw [q11]; exact n1.1
  exact ⟨T15, none, _, _, _, X15, by simp, rfl, by omega, (fun _ => rfl), ⟨rfl, _, N, bl15, ((Same.refl D _).set _ (by simp)).set _ (by simp), sl15, (Cell.slots_setSlot_ne _ ap).trans sl13, n1.keep al (p15.other hne (p13.other hne n7)), n2, by rw [al.findClass]; exact n3, n4, n5, fun y c h1 h2 => p15.other h1 (p13.other h1 (by rw [q11]; exact n6 y c h2)), by rw [p15.2.2, p13.2.2, q11]; exact z8⟩, fun fs hl => c16.trans (X15.returnOut hexec hret (hb hbytes d57) hl)⟩
end New4
namespace New1
def yN : MethodName := ⟨"java/lang/String", "<init>", "([C)V"⟩
abbrev yB : ByteArray := jdk_42_method_3_code
theorem d0 : decode yB 0 = .ok (.aload_n 0, 1) := by decide +kernel
theorem d1 : decode yB 1 = .ok (.aload_n 1, 1) := by decide +kernel
theorem d2 : decode yB 2 = .ok (.iconst 0, 1) := by decide +kernel
theorem d3 : decode yB 3 = .ok (.aload_n 1, 1) := by decide +kernel
theorem d4 : decode yB 4 = .ok (.arraylength, 1) := by decide +kernel
theorem d5 : decode yB 5 = .ok (.aconst_null, 1) := by decide +kernel
theorem d6 : decode yB 6 = .ok (.invokespecial 27, 3) := by decide +kernel
theorem d9 : decode yB 9 = .ok (.return_, 1) := by decide +kernel
def site : List Cond := [New4.tab] ++ initW "java/lang/String" 27 New4.yN
def tab : Cond := tabOf yN yB 2 none site
def P (a : Addr) (D : Cell) (fV fC : Field) (b : Addr) (A : Cell) (z : Int32) (args : Array Value) (s : State) : Prop := args = #[.ref a, .ref b] ∧ Blank "java/lang/String" a D s ∧ Found "java/lang/String" "value" "[B" fV s ∧ Found "java/lang/String" "coder" "B" fC s ∧ Ch b A s ∧ StaticIs s "java/lang/String" "COMPACT_STRINGS" "Z" (.int z) ∧ ¬ z = 0 ∧ 0 < A.slots.size ∧ A.slots.size ≤ 536870912 ∧ ∀ i, i < A.slots.size → ¬ 255 < cv A i
def E (a : Addr) (D : Cell) (fV fC : Field) (A : Cell) (r : Option Value) (s u : State) : Prop := Got a D fV fC A 0 A.slots.size r s u
/-- new String(chars), not empty, no char above 255: a Latin-1 String of their low bytes -/
theorem law (l : Launch) (a : Addr) (D : Cell) (fV fC : Field) (b : Addr) (A : Cell) (z : Int32) : Law l yN 2 1 3 52 yB 2 none site (P a D fV fC b A z) (E a D fV fC A) [⟨a, fC.slot⟩, ⟨a, fV.slot⟩] 1 A.slots.size := by
  refine Law.of_walk (plainFor_of_name (by decide +kernel)) (by decide +kernel) (by decide +kernel) (by decide) (fun _ _ h => by rw [h.1]; rfl) (fun _ U U' hal hh h => ⟨h.1, h.2.1.mv hal hh, h.2.2.1.al hal, h.2.2.2.1.al hal, h.2.2.2.2.1.mv hal hh, h.2.2.2.2.2.1.there hal hh, h.2.2.2.2.2.2⟩) (fun r U U' V V' h1 hal h2 h => Got.mv r U U' V V' h1 hal h2 h) ?_
  intro p e s m args below meth c s₁ X0 hexec hbytes hml hret hlk hnm hown hh0 W hP
  obtain ⟨rfl, hB, f1, f2, hA, s1, hz, l0, l2, hp⟩ := hP
  have c1 : Steps p.tables e below (s₁.setTop (entryFrame m #[.ref a, .ref b] 2)) (s₁.setTop (mkF m 0 #[.val (.ref a), .val (.ref b)] [])) := entry rfl
  have c2 : Steps p.tables e below (s₁.setTop (entryFrame m #[.ref a, .ref b] 2)) (s₁.setTop (mkF m 6 #[.val (.ref a), .val (.ref b)] [.null, .int (Int32.ofNat A.slots.size), .int 0, .ref b, .ref a])) := c1.trans (by
    refine XS.aloadN X0.here hexec rfl (hb hbytes d0) rfl rfl ?_
    refine XS.aloadN X0.here hexec rfl (hb hbytes d1) rfl rfl ?_
    refine iconstV X0.here hexec rfl 0 (hb hbytes d2) (by decide) ?_
    refine XS.aloadN X0.here hexec rfl (hb hbytes d3) rfl rfl ?_
    refine X0.alen hexec (hA.1.mv X0.warmed.alike hh0) rfl rfl (hb hbytes d4) ?_
    refine XS.aconstNull X0.here hexec rfl (hb hbytes d5) ?_
    exact Steps.refl _)
  obtain ⟨v3, T3, X3, E3, g3⟩ := X0.callN hexec (New4.law l a D fV fC b A z 0 A.slots.size) rfl hown (wks W (initW "java/lang/String" 27 New4.yN)) (W New4.tab (by simp only [site, List.mem_cons, List.mem_append, true_or, or_true])) (W := 0) (Nat.le_of_ble_eq_true rfl) (Nat.le_of_ble_eq_true rfl) (Nat.le_refl _) (by show 0 + A.slots.size ≤ A.slots.size; omega) (g := (mkF m 6 #[.val (.ref a), .val (.ref b)] [.null, .int (Int32.ofNat A.slots.size), .int (Int32.ofNat 0), .ref b, .ref a])) rfl (by rw [hml]; rfl) c2 (argsL := [.ref b, .int (Int32.ofNat 0), .int (Int32.ofNat A.slots.size), .null]) (rest := []) rfl rfl (by show 2 * 0 + 0 ≤ _; decide) (hb hbytes d6) (⟨rfl, hB.mv X0.warmed.alike hh0, f1.al X0.warmed.alike, f2.al X0.warmed.alike, hA.mv X0.warmed.alike hh0, s1.there X0.warmed.alike hh0, hz, l0, by omega, l2, fun i hi => by rw [Nat.zero_add]; exact hp i hi⟩)
  have e0 := Got.mv _ s₁ s _ _ hh0.symm (Vm.Alike.refl _) rfl E3
  obtain rfl := e0.1
  have c4 : Steps p.tables e below (s₁.setTop (entryFrame m #[.ref a, .ref b] 2)) (T3.setTop (mkF m 9 #[.val (.ref a), .val (.ref b)] [])) := g3
  exact ⟨T3, none, _, _, _, X3, by simp, rfl, by omega, (fun _ => rfl), e0, fun fs hl => c4.trans (X3.returnOut hexec hret (hb hbytes d9) hl)⟩
theorem pays {l : Launch} {R : Room} {p : Program} {e : Env} {below : List Frame} {s : State} {sargs : Array Value} {len W : Nat} (a : Addr) (D : Cell) (fV fC : Field) (b : Addr) (A : Cell) (z : Int32) (htab : tab.before sargs s = true) (hfr : 4 ≤ R.frames) (hlo : W + 65 ≤ R.locals) :
    Back l R p e below s sargs yN len W (fun A₁ a₁ => A₁.cells + 1 ≤ R.cells ∧ A₁.slots + A.slots.size ≤ R.slots ∧ P a D fV fC b A z a₁ A₁.U) (fun A₁ _ v₁ B₁ => E a D fV fC A v₁ A₁.U B₁.U ∧ B₁.locs = A₁.locs ++ [⟨a, fC.slot⟩, ⟨a, fV.slot⟩] ∧ B₁.cells = A₁.cells + 1 ∧ B₁.slots = A₁.slots + A.slots.size) :=
  (law l a D fV fC b A z).pays htab hfr (by omega)
end New1
end StrChars
namespace StrChars.Road
open Jvm Sem ClassFile Op Lib Jvm.Stand Jvm.Free Jvm.Free.XT
open Jvm.Lib.Cold (StaticIs)
abbrev ST : String := "java/lang/String"
/-- every table word that New1's law asks, flat -/
abbrev words : List Jvm.Cond := [.code New1.yN New1.yB 2 none, .initialized ST, .methodLink ST 27 New4.yN, .instanceMethod New4.yN,
  .code New4.yN New4.yB 6 none, .fieldLink ST 38 ST "COMPACT_STRINGS" "Z", .laysFinal ST ST "value" "[B", .fieldLink ST 9 ST "value" "[B", .laysFinal ST ST "coder" "B", .fieldLink ST 15 ST "coder" "B",
  .methodLink ST 1 Lib.objectInit, .instanceMethod Lib.objectInit, .code Lib.objectInit ⟨#[0xb1]⟩ 1 none, .methodLink ST 177 Cmp3.yN, .static Cmp3.yN, .methodLink ST 47 CodL.yN, .static CodL.yN,
  .code Cmp3.yN Cmp3.yB 6 (some (.array .byte)), .initialized U16, .arrayClass .byte, .methodLink U16 115 Cmp5.yN, .static Cmp5.yN, .code Cmp5.yN Cmp5.yB 7 (some .int), .code CodL.yN CodL.yB 2 (some .byte)]
theorem tab_of {a : Array Value} {s : State} (h : ∀ w ∈ words, w.before a s = true) : New1.tab.before a s = true := by
  have h5 : Cmp5.tab.before a s = true := unparts (wk h (.code Cmp5.yN Cmp5.yB 7 (some .int))) (wks h (.initialized Cmp5.yN.cls :: Cmp5.site))
  have hc : CodL.tab.before a s = true := unparts (wk h (.code CodL.yN CodL.yB 2 (some .byte))) (wks h (.initialized CodL.yN.cls :: CodL.site))
  have q5 : ∀ w ∈ Cmp5.tab :: words, w.before a s = true := fun w hw => (List.mem_cons.mp hw).elim (fun e => e ▸ h5) (h w)
  have h3 : Cmp3.tab.before a s = true := unparts (wk q5 (.code Cmp3.yN Cmp3.yB 6 (some (.array .byte)))) (wks q5 (.initialized Cmp3.yN.cls :: Cmp3.site))
  have q3 : ∀ w ∈ Cmp3.tab :: CodL.tab :: words, w.before a s = true := fun w hw => (List.mem_cons.mp hw).elim (fun e => e ▸ h3) fun hw => (List.mem_cons.mp hw).elim (fun e => e ▸ hc) (h w)
  have h4 : New4.tab.before a s = true := unparts (wk q3 (.code New4.yN New4.yB 6 none)) (wks q3 (.initialized New4.yN.cls :: New4.site))
  have q4 : ∀ w ∈ New4.tab :: words, w.before a s = true := fun w hw => (List.mem_cons.mp hw).elim (fun e => e ▸ h4) (h w)
  exact unparts (wk q4 (.code New1.yN New1.yB 2 none)) (wks q4 (.initialized New1.yN.cls :: New1.site))
/-- the words ride from the start Z to the walk's own state -/
theorem moved {Z s : State} {a0 args : Array Value} (hZ : Z.Warmed39 s.vm) (hw : ∀ d ∈ words, d.before a0 Z = true) : ∀ d ∈ words, d.before args s = true := fun d hd => by
  have q := hw d hd
  have t : ∀ d ∈ words, d = .arrayClass .byte ∨ (d.onTables && d.keepsFace) = true := by decide +kernel
  rcases t d hd with rfl | t
  · exact RoadKit.mvA hZ q
  · exact RoadKit.mv hZ q t
/-- WHAT COMES BACK, over the tables of the start Z: h the heap at the call, h' behind it -/
def Q (Z : State) (x : Addr) (A : Cell) (h : Heap) (v : Option Value) (h' : Heap) (L : List Loc) : Prop := v = none ∧ (∀ y ∈ L, y.base = x) ∧ RoadKit.Keep h h' [x] ∧ h'.size = h.size + 1 ∧ RoadKit.Exa Z h' x ST ∧ RoadKit.Fld Z h' x ST "value" "[B" (.ref h.size) ∧ RoadKit.Fld Z h' x ST "coder" "B" (.int 0) ∧
  (∃ V : Cell, RoadKit.Arr Z h' h.size V .byte ∧ V.vm = .none ∧ Z.vm.findClass "[B" = some V.cls ∧ V.slots.size = A.slots.size ∧ ∀ j, j < A.slots.size → V.slots[j]? = some (.int (lo8 (cv A j)))) ∧
  ∀ (O n d : String) (w : Value), RoadKit.Fld Z h x O n d w → RoadKit.slotOf Z O n d ≠ RoadKit.slotOf Z ST "value" "[B" → RoadKit.slotOf Z O n d ≠ RoadKit.slotOf Z ST "coder" "B" → RoadKit.Fld Z h' x O n d w
/-- **new String(chars) AT A CALL, IN THE ROAD'S FORM**: for specialBack behind newO: x the fresh String, b the char[] with the cell A -/
theorem back {p : Program} {l : Launch} {e : Env} {R : Room} {s : State} {args : Array Value} {below : List Frame} {len W : Nat} {Z : State} {a0 : Array Value} {h : Heap} (hZ : Z.Warmed39 s.vm) (hw : ∀ d ∈ words, d.before a0 Z = true) {kI : Nat} (wi : (Jvm.Cond.instantiable ST kI).before a0 Z = true)
    {x b : Addr} {A : Cell} {z : Int32} {v0 c0 : Value} (E : RoadKit.Exa Z h x ST) (V : RoadKit.Fld Z h x ST "value" "[B" v0) (C : RoadKit.Fld Z h x ST "coder" "B" c0) (K : RoadKit.Arr Z h b A .char) (hty : Typed .char A) (S : RoadKit.Sta Z h ST "COMPACT_STRINGS" "Z" (.int z)) (hz : ¬ z = 0)
    (l0 : 0 < A.slots.size) (l2 : A.slots.size ≤ 536870912) (hp : ∀ i, i < A.slots.size → ¬ 255 < cv A i) (hfr : 4 ≤ R.frames) (hlo : W + 65 ≤ R.locals) :
    Back l R p e below s args New1.yN len W (fun P a => a = #[.ref x, .ref b] ∧ P.U.heap = h ∧ P.cells + 1 ≤ R.cells ∧ P.slots + A.slots.size ≤ R.slots)
      (fun P _ v B => ∃ L, Q Z x A h v B.U.heap L ∧ B.locs = P.locs ++ L ∧ B.cells = P.cells + 1 ∧ B.slots = P.slots + A.slots.size) := by
  intro m meth c P g ig mk a X hg hsize hdg hW hn hp'
  obtain ⟨rfl, rfl, r1, r2⟩ := hp'
  have al : Z.vm.Alike P.U.vm := hZ.alike.trans X.warmed.alike
  obtain ⟨D, cfV, kV, iV, fV, hD, gV, stV, knV, obV, asV, slV⟩ := id V
  obtain ⟨D', cfC, kC, iC, fC, hD', gC, stC, -, -, asC, slC⟩ := id C
  cases hD.symm.trans hD'
  obtain ⟨D2, kD, e1, e2, e3, e4, e5⟩ := id E
  cases hD.symm.trans e1
  obtain ⟨c2, k2, i1, i2, i3, -⟩ := Cond.instantiable_spec wi
  cases e2.symm.trans i1
  cases e3.symm.trans i2
  obtain ⟨kU, u1, u2⟩ := al.2.2 _ _ e3
  have hB : Blank ST x D P.U := ⟨hD, ⟨knV, fun q hq => by rw [hq] at obV; cases obV⟩, by rw [al.findClass]; exact e2, kU, u1, by rw [u2]; exact i3, by rw [u2]; exact e5 i3⟩
  have F1 : Found ST "value" "[B" fV P.U := ⟨SBG.found_only al ⟨cfV, kV, iV, gV⟩, stV⟩
  have F2 : Found ST "coder" "B" fC P.U := ⟨SBG.found_only al ⟨cfC, kC, iC, gC⟩, stC⟩
  have hA : Ch b A P.U := ⟨⟨K.1, State.isArrayOf_alike al K.2.1, K.2.2, by omega⟩, hty⟩
  have hS : StaticIs P.U ST "COMPACT_STRINGS" "Z" (.int z) := by
    obtain ⟨cfS, iS, kS, fS, st, cS, t1, t2, t3, t4, t5, t6, t7⟩ := S
    exact StaticIs.there (s := { Z with heap := P.U.heap }) ⟨cfS, iS, kS, fS, st, cS, t1, t2, t3, t4, t5, (fun q => by rw [q] at t6; cases t6), t7⟩ al rfl
  obtain ⟨v, B, X', ⟨⟨hv, E', V', q1, q2, q3, q4, q5, q6, q7, q8, q9, q10, q11⟩, hl, hc, hs⟩, st⟩ := New1.pays x D fV fC b A z (tab_of (moved hZ hw)) hfr hlo m meth c P g ig mk _ X hg hsize hdg hW hn ⟨r1, r2, rfl, hB, F1, F2, hA, hS, hz, l0, l2, hp⟩
  have al' : Z.vm.Alike B.U.vm := hZ.alike.trans X'.warmed.alike
  have hsz : E'.slots.size = D.slots.size := by
    obtain ⟨-, -, -, kB, w1, w2, w3⟩ := q1
    obtain ⟨kB', y1, y2⟩ := al'.2.2 _ _ e3
    rw [q2.2.1] at w1
    cases w1.symm.trans y1
    rw [w3, e5 i3, y2]
  refine ⟨v, B, X', ⟨_, ⟨hv, ?_, ⟨by omega, fun y cy hy hn' => q10 y cy (by simpa using hn') hy, fun y cy hy => ?_⟩, q11, ⟨E', _, q1.1, by rw [q2.2.1]; exact e2, by rw [q2.2.1]; exact e3, by rw [q2.1]; exact obV, fun _ => by rw [hsz]; exact e5 i3⟩,
    ⟨E', cfV, kV, iV, fV, q1.1, gV, stV, by rw [q2.1]; exact knV, by rw [q2.1]; exact obV, by rw [q2.2.1]; exact asV, q3⟩, ⟨E', cfC, kC, iC, fC, q1.1, gC, stC, by rw [q2.1]; exact knV, by rw [q2.1]; exact obV, by rw [q2.2.1]; exact asC, q4⟩,
    ⟨V', ⟨q5.1, State.isArrayOf_alike al'.symm q5.2.1, q5.2.2.1⟩, q6, by rw [← al'.findClass]; exact q7, q8, fun j hj => by have := q9 j hj; rwa [Nat.zero_add] at this⟩, fun O n d w F n1 n2 => ?_⟩, hl, hc, hs⟩, st⟩
  · intro y hy
    simp only [List.mem_cons, List.not_mem_nil, or_false] at hy
    rcases hy with rfl | rfl <;> rfl
  · by_cases q : y = x
    · subst q
      cases hD.symm.trans hy
      exact ⟨E', q1.1, q2.2.1, q2.1, hsz⟩
    · exact ⟨cy, q10 y cy q hy, rfl, rfl, rfl⟩
  · obtain ⟨D3, cf, k, i, f, g1, g2, g3, g4, g5, g6, g7⟩ := F
    cases hD.symm.trans g1
    simp only [RoadKit.slotOf, g2, gV, gC, Option.map_some, Option.getD_some] at n1 n2
    exact ⟨E', cf, k, i, f, q1.1, g2, g3, by rw [q2.1]; exact g4, by rw [q2.1]; exact g5, by rw [q2.2.1]; exact g6, by rw [q2.2.2 f.slot (by simp [n1, n2])]; exact g7⟩
end StrChars.Road
namespace StrChars.Road
open Jvm Sem ClassFile Op Lib Jvm.Stand Jvm.Free Jvm.Free.XT
/-- WHAT COMES BACK, the byte[] as a list of values -/
def QA (Z : State) (x : Addr) (zn : Int32) (cs : List Int32) (h : Heap) (v : Option Value) (h' : Heap) (L : List Loc) : Prop := v = none ∧ (∀ y ∈ L, y.base = x) ∧ RoadKit.Keep h h' [x] ∧ h'.size = h.size + 1 ∧ RoadKit.Exa Z h' x ST ∧ RoadKit.Fld Z h' x ST "value" "[B" (.ref h.size) ∧ RoadKit.Fld Z h' x ST "coder" "B" (.int 0) ∧
  (∃ kb, Z.vm.findClass "[B" = some kb ∧ RoadKit.Arv Z h' h.size kb .byte zn (cs.map fun c => .int (lo8 c)) (.int 0)) ∧
  ∀ (O n d : String) (w : Value), RoadKit.Fld Z h x O n d w → RoadKit.slotOf Z O n d ≠ RoadKit.slotOf Z ST "value" "[B" → RoadKit.slotOf Z O n d ≠ RoadKit.slotOf Z ST "coder" "B" → RoadKit.Fld Z h' x O n d w
/-- **new String(chars) AT A CALL, THE ARRAYS AS LISTS**: the char[] at b holds cs, not empty, no char above 255 -/
theorem backArv {p : Program} {l : Launch} {e : Env} {R : Room} {s : State} {args : Array Value} {below : List Frame} {len W : Nat} {Z : State} {a0 : Array Value} {h : Heap} (hZ : Z.Warmed39 s.vm) (hw : ∀ d ∈ words, d.before a0 Z = true) {kI : Nat} (wi : (Jvm.Cond.instantiable ST kI).before a0 Z = true)
    {x b : Addr} {k : ClassId} {zn z : Int32} {cs : List Int32} {dv v0 c0 : Value} (E : RoadKit.Exa Z h x ST) (V : RoadKit.Fld Z h x ST "value" "[B" v0) (C : RoadKit.Fld Z h x ST "coder" "B" c0) (K : RoadKit.Arv Z h b k .char zn (cs.map Value.int) dv) (S : RoadKit.Sta Z h ST "COMPACT_STRINGS" "Z" (.int z)) (hz : ¬ z = 0)
    (hlen : zn.toNatClampNeg = cs.length) (h0 : 0 < cs.length) (hbig : cs.length ≤ 536870912) (hall : ∀ c ∈ cs, ¬ 255 < c) (hfr : 4 ≤ R.frames) (hlo : W + 65 ≤ R.locals) :
    Back l R p e below s args New1.yN len W (fun P a => a = #[.ref x, .ref b] ∧ P.U.heap = h ∧ P.cells + 1 ≤ R.cells ∧ P.slots + cs.length ≤ R.slots)
      (fun P _ v B => ∃ L, QA Z x zn cs h v B.U.heap L ∧ B.locs = P.locs ++ L ∧ B.cells = P.cells + 1 ∧ B.slots = P.slots + cs.length) := by
  obtain ⟨A, K1, K2, K3, K4, K5, K6⟩ := K
  have e : A.slots.size = cs.length := K3.trans hlen
  have hat : ∀ (i : Nat) (hi : i < cs.length), A.slots[i]? = some (.int cs[i]) := fun i hi => by rw [K5 i (by omega)]; simp [List.getD_eq_getElem?_getD, hi]
  have hcv : ∀ (i : Nat) (hi : i < cs.length), cv A i = cs[i] := fun i hi => by unfold cv; rw [hat i hi]
  have hty : Typed .char A := fun i v hv => by
    have hi : i < A.slots.size := (Array.getElem?_eq_some_iff.mp hv).1
    have q := K5 i hi
    rw [hv] at q
    rw [Option.some.inj q]
    exact K6 i hi
  refine Back.mono (back hZ hw wi E V C K1 hty S hz (by omega) (by omega) (fun i hi => by rw [hcv i (by omega)]; exact hall _ (List.getElem_mem _)) hfr hlo) (fun P a hp => ⟨hp.1, hp.2.1, hp.2.2.1, by rw [e]; exact hp.2.2.2⟩) (fun P a v B hp hq => ?_)
  obtain ⟨L, ⟨q1, q2, q3, q4, q5, q6, q7, ⟨V', v1, v2, v3, v4, v5⟩, q9⟩, hl, hc, hs⟩ := hq
  refine ⟨L, ⟨q1, q2, q3, q4, q5, q6, q7, ⟨V'.cls, v3, V', v1, rfl, by rw [v4, e, hlen], K4, fun i hi => ?_, fun i hi => ?_⟩, q9⟩, hl, hc, by rw [hs, e]⟩
  · have hi' : i < cs.length := by omega
    rw [v5 i (by omega), hcv i hi']; simp [List.getD_eq_getElem?_getD, hi']
  · have hi' : i < cs.length := by omega
    simp only [List.getD_eq_getElem?_getD, List.getElem?_map, List.getElem?_eq_getElem hi', Option.map_some, Option.getD_some]
    exact fits_lo8 _
end StrChars.Road
namespace StrChars.Road
open Jvm Sem ClassFile Op Lib Jvm.Stand Jvm.Free Jvm.Free.XT
/-- WHAT COMES BACK, in the writer's own shape -/
def QV (Z : State) (x : Addr) (N : Int32) (bs : List Int32) (h : Heap) (n0 : Nat) (v : Option Value) (h' : Heap) (L : List Loc) : Prop := v = none ∧ RoadKit.Fr n0 L ∧ RoadKit.Keep h h' [x] ∧ RoadKit.Exa Z h' x ST ∧ RoadKit.Fld Z h' x ST "coder" "B" (.int 0) ∧
  ∃ (t : Addr) (kb : ClassId), n0 ≤ t ∧ h.size ≤ t ∧ ¬ t = x ∧ RoadKit.Fld Z h' x ST "value" "[B" (.ref t) ∧ RoadKit.Arv Z h' t kb .byte N (bs.map Value.int) (.int 0)
/-- **new String(chars) AT A CALL, FOR THE WRITER**: a char[] of n known ints, each 0 to 255 -/
theorem backV {p : Program} {l : Launch} {e : Env} {R : Room} {s : State} {args : Array Value} {below : List Frame} {len W : Nat} {Z : State} {a0 : Array Value} {h : Heap} (hZ : Z.Warmed39 s.vm) (hw : ∀ d ∈ words, d.before a0 Z = true) {kI : Nat} (wi : (Jvm.Cond.instantiable ST kI).before a0 Z = true)
    {x b : Addr} {kC : ClassId} {cs bs : List Int32} {d v0 c0 : Value} {z N : Int32} {n n0 : Nat} (hx0 : n0 ≤ x) (hh0 : n0 ≤ h.size) (E : RoadKit.Exa Z h x ST) (V : RoadKit.Fld Z h x ST "value" "[B" v0) (C : RoadKit.Fld Z h x ST "coder" "B" c0) (K : RoadKit.Arv Z h b kC .char N (cs.map Value.int) d) (S : RoadKit.Sta Z h ST "COMPACT_STRINGS" "Z" (.int z)) (hz : ¬ z = 0)
    (hn : cs.length = n) (hN : N = Int32.ofNat n) (l0 : 0 < n) (l2 : n ≤ 4000) (hp : ∀ c ∈ cs, ¬ c < 0 ∧ ¬ (255 : Int32) < c) (hb : bs = cs.map (fun c => c.toInt8.toInt32)) (hfr : 4 ≤ R.frames) (hlo : W + 65 ≤ R.locals) :
    Back l R p e below s args (⟨"java/lang/String", "<init>", "([C)V"⟩ : MethodName) len W (fun P a => a = #[.ref x, .ref b] ∧ P.U.heap = h ∧ P.cells + 1 ≤ R.cells ∧ P.slots + n ≤ R.slots)
      (fun P _ v B => ∃ L, QV Z x N bs h n0 v B.U.heap L ∧ B.locs = P.locs ++ L ∧ B.cells = P.cells + 1 ∧ B.slots = P.slots + n) := by
  subst hn hN hb
  refine Back.mono (backArv hZ hw wi E V C K S hz (n32 (by omega)) l0 (by omega) (fun c hc => (hp c hc).2) hfr hlo) (fun P a hp => hp) (fun P a v B hp hq => ?_)
  obtain ⟨L, ⟨q1, q2, q3, q4, q5, q6, q7, ⟨kb, v1, v2⟩, q9⟩, hl, hc, hs⟩ := hq
  exact ⟨L, ⟨q1, fun y hy => by rw [q2 y hy]; exact hx0, q3, q5, q7, h.size, kb, hh0, Nat.le_refl _, Nat.ne_of_gt E.lt, q6, by rw [List.map_map]; exact v2⟩, hl, hc, hs⟩
end StrChars.Road
namespace StrChars
open Jvm Sem ClassFile Op Lib Jvm.Stand Jvm.Free.XT Jvm.Free.ALB Jvm.Free.JM Jvm.Free
open Jvm.Lib.Cold (StaticIs)
def hi8 (x : Int32) : Int32 := lo8 (x >>> ((8 : Int32) &&& 31))
/-- what StringUTF16.getChar makes of two bytes -/
def pairCh (u v : Int32) : Int32 := (((u &&& 255) <<< ((0 : Int32) &&& 31)) ||| ((v &&& 255) <<< ((8 : Int32) &&& 31))).toUInt32.toUInt16.toUInt32.toInt32
theorem shr0 (c : Int32) : c >>> ((0 : Int32) &&& 31) = c := by
  have e : ((0 : Int32) &&& 31) = 0 := by decide
  rw [e]
  apply Int32.toBitVec_inj.mp
  rw [Int32.toBitVec_shiftRight]
  have e1 : ((0 : Int32).toBitVec.smod 32) = 0#32 := by decide
  rw [e1, BitVec.sshiftRight_eq']
  exact BitVec.sshiftRight_zero
theorem lo8_and (x : Int32) : (lo8 x &&& 255).toBitVec.toNat = x.toBitVec.toNat % 256 := by
  have h : (lo8 x).toBitVec = (x.toBitVec.signExtend 8).signExtend 32 := by rw [lo8, Int8.toBitVec_toInt32, Int32.toBitVec_toInt8]
  rw [Int32.toBitVec_and, BitVec.toNat_and, h]
  have e : ((x.toBitVec.signExtend 8).signExtend 32).toNat % 256 = x.toBitVec.toNat % 256 := by
    rw [BitVec.toNat_signExtend]
    have hlt := x.toBitVec.isLt
    simp only [BitVec.toNat_setWidth, BitVec.toNat_signExtend]
    split <;> split <;> omega
  rw [← e]
  exact Nat.and_two_pow_sub_one_eq_mod _ 8
theorem pair_says {c : Int32} (h0 : ¬ c < 0) (h1 : ¬ 65535 < c) : pairCh (lo8 c) (hi8 c) = c := by
  rw [Int32.lt_iff_toInt_lt] at h0 h1
  have e0 : (0 : Int32).toInt = 0 := rfl
  have e1 : (65535 : Int32).toInt = 65535 := rfl
  have hc : c.toInt = c.toBitVec.toNat := by
    have := c.toBitVec.isLt
    have e : c.toInt = c.toBitVec.toInt := rfl
    rw [e] at h0 h1
    rw [e]
    rw [BitVec.toInt_eq_toNat_cond] at h0 h1 ⊢
    split at h0 <;> split <;> omega
  have hn : c.toBitVec.toNat < 65536 := by omega
  have a1 := lo8_and c
  have a2 : (hi8 c &&& 255).toBitVec.toNat = c.toBitVec.toNat / 256 := by
    rw [hi8, lo8_and]
    have e : ((8 : Int32) &&& 31) = 8 := by decide
    rw [e, Int32.toBitVec_shiftRight]
    have e2 : ((8 : Int32).toBitVec.smod 32) = 8#32 := by decide
    rw [e2, BitVec.sshiftRight_eq', BitVec.toNat_sshiftRight_of_msb_false (by rw [BitVec.msb_eq_false_iff_two_mul_lt]; omega)]
    show c.toBitVec.toNat >>> 8 % 256 = _
    rw [Nat.shiftRight_eq_div_pow]
    omega
  unfold pairCh
  apply Int32.toBitVec_inj.mp
  apply BitVec.eq_of_toNat_eq
  have f0 : ((0 : Int32) &&& 31) = 0 := by decide
  have f8 : ((8 : Int32) &&& 31) = 8 := by decide
  rw [f0, f8]
  have g : (((lo8 c &&& 255) <<< (0 : Int32)) ||| ((hi8 c &&& 255) <<< (8 : Int32))).toBitVec.toNat = c.toBitVec.toNat := by
    rw [Int32.toBitVec_or, Int32.toBitVec_shiftLeft, Int32.toBitVec_shiftLeft]
    have s0 : ((0 : Int32).toBitVec.smod 32) = 0#32 := by decide
    have s8 : ((8 : Int32).toBitVec.smod 32) = 8#32 := by decide
    rw [s0, s8, BitVec.toNat_or]
    simp only [BitVec.shiftLeft_eq', BitVec.toNat_shiftLeft, a1, a2]
    show (c.toBitVec.toNat % 256) <<< 0 % 2 ^ 32 ||| (c.toBitVec.toNat / 256) <<< 8 % 2 ^ 32 = _
    rw [Nat.shiftLeft_zero, Nat.mod_eq_of_lt (show c.toBitVec.toNat % 256 < 2 ^ 32 by omega), Nat.mod_eq_of_lt (show (c.toBitVec.toNat / 256) <<< 8 < 2 ^ 32 by rw [Nat.shiftLeft_eq]; omega), Nat.or_comm, ← Nat.shiftLeft_add_eq_or_of_lt (by omega), Nat.shiftLeft_eq]
    omega
  show BitVec.toNat (((((lo8 c &&& 255) <<< (0 : Int32)) ||| ((hi8 c &&& 255) <<< (8 : Int32))).toBitVec.setWidth 16).setWidth 32) = _
  rw [BitVec.toNat_setWidth, BitVec.toNat_setWidth, g]
  omega
end StrChars
namespace StrChars
open Jvm Sem ClassFile Op Lib Jvm.Stand Jvm.Free.XT Jvm.Free.ALB Jvm.Free.JM Jvm.Free
open Jvm.Lib.Cold (StaticIs)
theorem shr1 {n : Nat} (h : 2 * n < 2 ^ 31) : Int32.ofNat (2 * n) >>> ((1 : Int32) &&& 31) = Int32.ofNat n := by
  have e : ((1 : Int32) &&& 31) = 1 := by decide
  rw [e]
  apply Int32.toBitVec_inj.mp
  rw [Int32.toBitVec_shiftRight]
  have e1 : ((1 : Int32).toBitVec.smod 32) = 1#32 := by decide
  have hm : (BitVec.ofNat 32 (2 * n)).toNat = 2 * n := by rw [BitVec.toNat_ofNat, Nat.mod_eq_of_lt (by omega)]
  rw [e1, BitVec.sshiftRight_eq']
  apply BitVec.eq_of_toNat_eq
  show ((BitVec.ofNat 32 (2 * n)).sshiftRight 1).toNat = (BitVec.ofNat 32 n).toNat
  rw [BitVec.toNat_sshiftRight_of_msb_false (by rw [BitVec.msb_eq_false_iff_two_mul_lt, hm]; omega), hm, BitVec.toNat_ofNat, Nat.shiftRight_eq_div_pow]
  omega
/-- the array's cell V codes the n chars f 0 .. f (n - 1) by the coder cd, as the JDK does: coder 1 just where some char is above 255 -/
def Cod (cd : Int32) (n : Nat) (f : Nat → Int32) (V : Cell) : Prop := (cd = 0 ∧ V.slots.size = n ∧ ∀ j, j < n → V.slots[j]? = some (.int (lo8 (f j))) ∧ ¬ 255 < f j) ∨ (cd = 1 ∧ V.slots.size = 2 * n ∧ (∀ j, j < n → V.slots[2 * j]? = some (.int (lo8 (f j))) ∧ V.slots[2 * j + 1]? = some (.int (hi8 (f j)))) ∧ ∃ j, j < n ∧ 255 < f j)
theorem Cod.cd {cd : Int32} {n : Nat} {f : Nat → Int32} {V : Cell} (h : Cod cd n f V) : cd = 0 ∨ cd = 1 := h.imp (fun q => q.1) fun q => q.1
theorem Cod.len {cd : Int32} {n : Nat} {f : Nat → Int32} {V : Cell} (h : Cod cd n f V) (hs : V.slots.size < 2 ^ 31) : Int32.ofNat V.slots.size >>> (cd &&& 31) = Int32.ofNat n := by
  rcases h with ⟨rfl, h, -⟩ | ⟨rfl, h, -⟩
  · rw [shr0, h]
  · rw [h, shr1 (by omega)]
/-- **x is a String of the n chars f 0 .. f (n - 1)**, Latin-1 or UTF-16; its array at t has the cell V -/
def Txt (x t : Addr) (V : Cell) (cd : Int32) (n : Nat) (f : Nat → Int32) (U : State) : Prop := Exact "java/lang/String" x U ∧ Has x "java/lang/String" "value" "[B" (.ref t) U ∧ Has x "java/lang/String" "coder" "B" (.int cd) U ∧ XT.Arr .byte t V U ∧ Cod cd n f V ∧ ∀ j, j < n → ¬ f j < 0 ∧ ¬ 65535 < f j
theorem Txt.mv {x t : Addr} {V : Cell} {cd : Int32} {n : Nat} {f : Nat → Int32} {U U' : State} (h : Txt x t V cd n f U) (hal : U.vm.Alike U'.vm) (hh : U'.heap = U.heap) : Txt x t V cd n f U' := ⟨h.1.mv hal hh, h.2.1.mv hal hh, h.2.2.1.mv hal hh, h.2.2.2.1.mv hal hh, h.2.2.2.2⟩
namespace Cdr
def yN : MethodName := ⟨"java/lang/String", "coder", "()B"⟩
abbrev yB : ByteArray := jdk_42_method_152_code
theorem d0 : decode yB 0 = .ok (.getstatic 38, 3) := by decide +kernel
theorem d3 : decode yB 3 = .ok (.ifCond (.eq) 10, 3) := by decide +kernel
theorem d6 : decode yB 6 = .ok (.aload_n 0, 1) := by decide +kernel
theorem d7 : decode yB 7 = .ok (.getfield 15, 3) := by decide +kernel
theorem d10 : decode yB 10 = .ok (.goto 4, 3) := by decide +kernel
theorem d14 : decode yB 14 = .ok (.ireturn, 1) := by decide +kernel
def site : List Cond := [.fieldLink "java/lang/String" 38 "java/lang/String" "COMPACT_STRINGS" "Z", .fieldLink "java/lang/String" 15 "java/lang/String" "coder" "B"]
def tab : Cond := tabOf yN yB 1 (some .byte) site
def P (x : Addr) (cd z : Int32) (args : Array Value) (s : State) : Prop := args = #[.ref x] ∧ Has x "java/lang/String" "coder" "B" (.int cd) s ∧ (cd = 0 ∨ cd = 1) ∧ StaticIs s "java/lang/String" "COMPACT_STRINGS" "Z" (.int z) ∧ ¬ z = 0
def E (cd : Int32) (r : Option Value) (s u : State) : Prop := XT.PureE (some (.int cd)) r s u
theorem law (l : Launch) (x : Addr) (cd z : Int32) : Law l yN 1 0 0 0 yB 1 (some .byte) site (P x cd z) (E cd) [] 0 0 := by
  refine Law.of_walk (plainFor_of_name (by decide +kernel)) (by decide +kernel) (by decide +kernel) (by decide) (fun _ _ h => by rw [h.1]; rfl) (fun _ U U' hal hh h => ⟨h.1, h.2.1.mv hal hh, h.2.2.1, h.2.2.2.1.there hal hh, h.2.2.2.2⟩) (fun r U U' V V' h1 hal h2 h => XT.PureE.mv r U U' V V' h1 hal h2 h) ?_
  intro p e s m args below meth c s₁ X0 hexec hbytes hml hret hlk hnm hown hh0 W hP
  obtain ⟨rfl, hx, hc, s1, hz⟩ := hP
  have c1 : Steps p.tables e below (s₁.setTop (entryFrame m #[.ref x] 1)) (s₁.setTop (mkF m 0 #[.val (.ref x)] [])) := entry rfl
  obtain ⟨T2, X2, q2, st2⟩ := X0.sget hexec hown (wk W (.fieldLink "java/lang/String" 38 "java/lang/String" "COMPACT_STRINGS" "Z")) s1 (fun _ _ h => by rw [hh0]; exact h) (g := (mkF m 0 #[.val (.ref x)] [])) rfl (hb hbytes d0)
  have hh2 := q2.trans hh0
  have c3 : Steps p.tables e below (s₁.setTop (entryFrame m #[.ref x] 1)) (T2.setTop (mkF m 7 #[.val (.ref x)] [.ref x])) := (c1.trans (st2 _ (Steps.refl _))).trans (by
    refine XS.ifNo X2.here hexec rfl (hb hbytes d3) rfl (i0_eq_f hz) ?_
    refine XS.aloadN X2.here hexec rfl (hb hbytes d6) rfl rfl ?_
    exact Steps.refl _)
  obtain ⟨T4, X4, q4, st4⟩ := X2.hget hexec hown (wk W (.fieldLink "java/lang/String" 15 "java/lang/String" "coder" "B")) (hx.mv X2.warmed.alike hh2) (g := (mkF m 7 #[.val (.ref x)] [.ref x])) rfl (rest := []) rfl (hb hbytes d7)
  have c5 : Steps p.tables e below (s₁.setTop (entryFrame m #[.ref x] 1)) (T4.setTop (mkF m 14 #[.val (.ref x)] [.int cd])) := (c3.trans (st4 _ (Steps.refl _))).trans (by
    refine XS.goto X4.here hexec rfl (pc0 := 10) rfl (hb hbytes d10) (by decide) rfl ?_
    exact Steps.refl _)
  exact ⟨T4, some (.int cd), _, _, _, X4, rfl, rfl, rfl, (fun h => by cases h), ⟨rfl, q4.trans hh2⟩, fun fs hl => c5.trans (X4.ireturnOut hexec hret (by rcases hc with rfl | rfl <;> rfl) (Or.inr (Or.inr (Or.inl rfl))) (hb hbytes d14) hl)⟩
end Cdr
namespace Len
def yN : MethodName := ⟨"java/lang/String", "length", "()I"⟩
abbrev yB : ByteArray := jdk_42_method_54_code
theorem d0 : decode yB 0 = .ok (.aload_n 0, 1) := by decide +kernel
theorem d1 : decode yB 1 = .ok (.getfield 9, 3) := by decide +kernel
theorem d4 : decode yB 4 = .ok (.arraylength, 1) := by decide +kernel
theorem d5 : decode yB 5 = .ok (.aload_n 0, 1) := by decide +kernel
theorem d6 : decode yB 6 = .ok (.invokevirtual 335, 3) := by decide +kernel
theorem d9 : decode yB 9 = .ok (.ishr, 1) := by decide +kernel
theorem d10 : decode yB 10 = .ok (.ireturn, 1) := by decide +kernel
def site : List Cond := [.fieldLink "java/lang/String" 9 "java/lang/String" "value" "[B", Cdr.tab] ++ virtW "java/lang/String" 335 "java/lang/String" Cdr.yN Cdr.yN
def tab : Cond := tabOf yN yB 1 (some .int) site
def P (x t : Addr) (V : Cell) (cd : Int32) (n : Nat) (f : Nat → Int32) (z : Int32) (args : Array Value) (s : State) : Prop := args = #[.ref x] ∧ Txt x t V cd n f s ∧ StaticIs s "java/lang/String" "COMPACT_STRINGS" "Z" (.int z) ∧ ¬ z = 0
def E (n : Nat) (r : Option Value) (s u : State) : Prop := XT.PureE (some (.int (Int32.ofNat n))) r s u
/-- length() of a String of n chars, in either coding -/
theorem law (l : Launch) (x t : Addr) (V : Cell) (cd : Int32) (n : Nat) (f : Nat → Int32) (z : Int32) : Law l yN 1 0 1 13 yB 1 (some .int) site (P x t V cd n f z) (E n) [] 0 0 := by
  refine Law.of_walk (plainFor_of_name (by decide +kernel)) (by decide +kernel) (by decide +kernel) (by decide) (fun _ _ h => by rw [h.1]; rfl) (fun _ U U' hal hh h => ⟨h.1, h.2.1.mv hal hh, h.2.2.1.there hal hh, h.2.2.2⟩) (fun r U U' V V' h1 hal h2 h => XT.PureE.mv r U U' V V' h1 hal h2 h) ?_
  intro p e s m args below meth c s₁ X0 hexec hbytes hml hret hlk hnm hown hh0 W hP
  obtain ⟨rfl, hx, s1, hz⟩ := hP
  have v31 := hx.2.2.2.1.2.2.2
  have c1 : Steps p.tables e below (s₁.setTop (entryFrame m #[.ref x] 1)) (s₁.setTop (mkF m 1 #[.val (.ref x)] [.ref x])) := Steps.trans (entry rfl) (by
    show Steps p.tables e below (s₁.setTop (mkF m 0 #[.val (.ref x)] [])) _
    refine XS.aloadN X0.here hexec rfl (hb hbytes d0) rfl rfl ?_
    exact Steps.refl _)
  obtain ⟨T2, X2, q2, st2⟩ := X0.hget hexec hown (wk W (.fieldLink "java/lang/String" 9 "java/lang/String" "value" "[B")) (hx.mv X0.warmed.alike hh0).2.1 (g := (mkF m 1 #[.val (.ref x)] [.ref x])) rfl (rest := []) rfl (hb hbytes d1)
  have hh2 := q2.trans hh0
  have hx2 := hx.mv X2.warmed.alike hh2
  have c3 : Steps p.tables e below (s₁.setTop (entryFrame m #[.ref x] 1)) (T2.setTop (mkF m 6 #[.val (.ref x)] [.ref x, .int (Int32.ofNat V.slots.size)])) := (c1.trans (st2 _ (Steps.refl _))).trans (by
    refine X2.alen hexec hx2.2.2.2.1 rfl rfl (hb hbytes d4) ?_
    refine XS.aloadN X2.here hexec rfl (hb hbytes d5) rfl rfl ?_
    exact Steps.refl _)
  obtain ⟨v4, T4, X4, E4, g4⟩ := X2.callV hexec (Cdr.law l x cd z) hown (wks W (virtW "java/lang/String" 335 "java/lang/String" Cdr.yN Cdr.yN)) rfl (by decide) (wk W Cdr.tab) (W := 1) (Nat.le_of_ble_eq_true rfl) (Nat.le_of_ble_eq_true rfl) (Nat.le_refl _) (Nat.le_refl _) (hx2.1.fc X2.warmed.alike) hx2.1.is (g := (mkF m 6 #[.val (.ref x)] [.ref x, .int (Int32.ofNat V.slots.size)])) rfl (by rw [hml]; rfl) c3 (argsL := []) (rest := [.int (Int32.ofNat V.slots.size)]) rfl rfl (by show 2 * 0 + (1 + 0) ≤ _; decide) (hb hbytes d6) (⟨rfl, hx2.2.2.1, hx.2.2.2.2.1.cd, s1.there X2.warmed.alike hh2, hz⟩)
  obtain ⟨rfl, q4⟩ := E4
  have c5 : Steps p.tables e below (s₁.setTop (entryFrame m #[.ref x] 1)) (T4.setTop (mkF m 10 #[.val (.ref x)] [.int (Int32.ofNat V.slots.size >>> (cd &&& 31))])) := Steps.trans g4 (by
    refine ishr X4.here hexec rfl (hb hbytes d9) rfl ?_
    exact Steps.refl _)
  rw [hx.2.2.2.2.1.len v31] at c5
  exact ⟨T4, some (.int (Int32.ofNat n)), _, _, _, X4, rfl, rfl, rfl, (fun h => by cases h), ⟨rfl, q4.trans hh2⟩, fun fs hl => c5.trans (X4.ireturnOut hexec hret rfl (Or.inl rfl) (hb hbytes d10) hl)⟩
theorem pays {l : Launch} {R : Room} {p : Program} {e : Env} {below : List Frame} {s : State} {sargs : Array Value} {len W : Nat} (x t : Addr) (V : Cell) (cd : Int32) (n : Nat) (f : Nat → Int32) (z : Int32) (htab : tab.before sargs s = true) (hfr : 2 ≤ R.frames) (hlo : W + 25 ≤ R.locals) :
    Back l R p e below s sargs yN len W (fun A₁ a₁ => A₁.cells + 0 ≤ R.cells ∧ A₁.slots + 0 ≤ R.slots ∧ P x t V cd n f z a₁ A₁.U) (fun A₁ _ v₁ B₁ => E n v₁ A₁.U B₁.U ∧ B₁.locs = A₁.locs ++ [] ∧ B₁.cells = A₁.cells + 0 ∧ B₁.slots = A₁.slots + 0) :=
  (law l x t V cd n f z).pays htab hfr (by omega)
end Len
end StrChars
namespace StrChars.Road
open Jvm Sem ClassFile Op Lib Jvm.Stand Jvm.Free Jvm.Free.XT
open Jvm.Lib.Cold (StaticIs)
theorem consq {a : Array Value} {s : State} {c : Jvm.Cond} {L : List Jvm.Cond} (h0 : c.before a s = true) (h : ∀ w ∈ L, w.before a s = true) : ∀ w ∈ c :: L, w.before a s = true := fun w hw => (List.mem_cons.mp hw).elim (fun e => e ▸ h0) (h w)
/-- the words of String.length(), either coding -/
abbrev wordsLen : List Jvm.Cond := [.code Len.yN Len.yB 1 (some .int), .initialized ST, .fieldLink ST 9 ST "value" "[B", .fieldLink ST 38 ST "COMPACT_STRINGS" "Z", .fieldLink ST 15 ST "coder" "B", .code Cdr.yN Cdr.yB 1 (some .byte), .methodLink ST 335 Cdr.yN, .declares Cdr.yN, .selects ST Cdr.yN Cdr.yN, .instanceMethod Cdr.yN]
theorem tabLen_of {a : Array Value} {s : State} (h : ∀ w ∈ wordsLen, w.before a s = true) : Len.tab.before a s = true := by
  have hc : Cdr.tab.before a s = true := unparts (wk h (.code Cdr.yN Cdr.yB 1 (some .byte))) (wks h (.initialized Cdr.yN.cls :: Cdr.site))
  have q := consq hc h
  exact unparts (wk q (.code Len.yN Len.yB 1 (some .int))) (wks q (.initialized Len.yN.cls :: Len.site))
theorem movedLen {Z s : State} {a0 args : Array Value} (hZ : Z.Warmed39 s.vm) (hw : ∀ d ∈ wordsLen, d.before a0 Z = true) : ∀ d ∈ wordsLen, d.before args s = true := fun d hd => by
  have q := hw d hd
  have t : ∀ d ∈ wordsLen, d = .arrayClass .byte ∨ (d.onTables && d.keepsFace) = true := by decide +kernel
  rcases t d hd with rfl | t
  · exact RoadKit.mvA hZ q
  · exact RoadKit.mv hZ q t
/-- the bytes of the chars cs, low before high -/
def wideBytes : List Int32 → List Value
  | [] => []
  | c :: cs => .int (lo8 c) :: .int (hi8 c) :: wideBytes cs
theorem wide_lo (d : Value) : ∀ (cs : List Int32) (j : Nat), j < cs.length → (wideBytes cs).getD (2 * j) d = .int (lo8 (cs.getD j 0))
  | [], j, h => absurd h (Nat.not_lt_zero j)
  | c :: cs, 0, _ => rfl
  | c :: cs, j + 1, h => by
    have q := wide_lo d cs j (by simpa using h)
    rw [show 2 * (j + 1) = 2 * j + 1 + 1 from by omega]
    simpa [wideBytes] using q
theorem wide_hi (d : Value) : ∀ (cs : List Int32) (j : Nat), j < cs.length → (wideBytes cs).getD (2 * j + 1) d = .int (hi8 (cs.getD j 0))
  | [], j, h => absurd h (Nat.not_lt_zero j)
  | c :: cs, 0, _ => rfl
  | c :: cs, j + 1, h => by
    have q := wide_hi d cs j (by simpa using h)
    rw [show 2 * (j + 1) + 1 = 2 * j + 1 + 1 + 1 from by omega]
    simpa [wideBytes] using q
theorem low_at (d : Value) (cs : List Int32) (j : Nat) (h : j < cs.length) : (cs.map fun c => Value.int (lo8 c)).getD j d = .int (lo8 (cs.getD j 0)) := by
  simp [List.getD_eq_getElem?_getD, h]
/-- an array of N2 bytes vs codes the chars cs by the coder cd -/
def CodA (cs : List Int32) (cd N2 : Int32) (vs : List Value) : Prop := (cd = 0 ∧ N2 = Int32.ofNat cs.length ∧ vs = (cs.map fun c => Value.int (lo8 c)) ∧ ∀ c ∈ cs, ¬ 255 < c) ∨ (cd = 1 ∧ N2 = Int32.ofNat (2 * cs.length) ∧ vs = wideBytes cs ∧ ∃ c ∈ cs, 255 < c)
theorem CodA.cod {cs : List Int32} {cd N2 : Int32} {vs : List Value} {V : Cell} (h : CodA cs cd N2 vs) (hn : 2 * cs.length < 2 ^ 31) (hs : V.slots.size = N2.toNatClampNeg) (hv : RoadKit.Has V vs (.int 0)) : Cod cd cs.length (fun j => cs.getD j 0) V := by
  rcases h with ⟨rfl, rfl, rfl, h⟩ | ⟨rfl, rfl, rfl, c, hc, hw⟩
  · rw [n32 (by omega)] at hs
    exact Or.inl ⟨rfl, hs, fun j hj => ⟨by rw [hv j (by omega), low_at _ _ _ hj], by
      have e : cs.getD j 0 = cs[j] := by simp [List.getD_eq_getElem?_getD, hj]
      show ¬ 255 < cs.getD j 0
      rw [e]; exact h _ (List.getElem_mem _)⟩⟩
  · rw [n32 (by omega)] at hs
    obtain ⟨j, hj, rfl⟩ := List.getElem_of_mem hc
    exact Or.inr ⟨rfl, hs, fun j hj => ⟨by rw [hv _ (by omega), wide_lo _ _ _ hj], by rw [hv _ (by omega), wide_hi _ _ _ hj]⟩, j, hj, by
      have e : cs.getD j 0 = cs[j] := by simp [List.getD_eq_getElem?_getD, hj]
      show 255 < cs.getD j 0
      rw [e]; exact hw⟩
/-- an object of exactly java/lang/String, its two fields found: as the laws ask it -/
theorem strObj {Z U : State} {a0 : Array Value} {kI : Nat} (wi : (Jvm.Cond.instantiable ST kI).before a0 Z = true) (al : Z.vm.Alike U.vm) {x : Addr} {v0 c0 : Value} (E : RoadKit.Exa Z U.heap x ST) (V : RoadKit.Fld Z U.heap x ST "value" "[B" v0) (C : RoadKit.Fld Z U.heap x ST "coder" "B" c0) :
    ∃ (D : Cell) (fV fC : Field), Blank ST x D U ∧ Found ST "value" "[B" fV U ∧ Found ST "coder" "B" fC U ∧ D.slots[fV.slot]? = some v0 ∧ D.slots[fC.slot]? = some c0 ∧ RoadKit.slotOf Z ST "value" "[B" = fV.slot ∧ RoadKit.slotOf Z ST "coder" "B" = fC.slot := by
  obtain ⟨D, cfV, kV, iV, fV, hD, gV, stV, knV, obV, asV, slV⟩ := V
  obtain ⟨D', cfC, kC, iC, fC, hD', gC, stC, -, -, asC, slC⟩ := C
  cases hD.symm.trans hD'
  obtain ⟨D2, kD, e1, e2, e3, e4, e5⟩ := E
  cases hD.symm.trans e1
  obtain ⟨c2, k2, i1, i2, i3, -⟩ := Cond.instantiable_spec wi
  cases e2.symm.trans i1
  cases e3.symm.trans i2
  obtain ⟨kU, u1, u2⟩ := al.2.2 _ _ e3
  exact ⟨D, fV, fC, ⟨hD, ⟨knV, fun q hq => by rw [hq] at obV; cases obV⟩, by rw [al.findClass]; exact e2, kU, u1, by rw [u2]; exact i3, by rw [u2]; exact e5 i3⟩, ⟨SBG.found_only al ⟨cfV, kV, iV, gV⟩, stV⟩, ⟨SBG.found_only al ⟨cfC, kC, iC, gC⟩, stC⟩, slV, slC, by simp [RoadKit.slotOf, gV], by simp [RoadKit.slotOf, gC]⟩
theorem sta_is {Z U : State} (al : Z.vm.Alike U.vm) {C n d : String} {v : Value} (S : RoadKit.Sta Z U.heap C n d v) : StaticIs U C n d v := by
  obtain ⟨cfS, iS, kS, fS, st, cS, t1, t2, t3, t4, t5, t6, t7⟩ := S
  exact StaticIs.there (s := { Z with heap := U.heap }) ⟨cfS, iS, kS, fS, st, cS, t1, t2, t3, t4, t5, (fun q => by rw [q] at t6; cases t6), t7⟩ al rfl
/-- **length() OF SUCH A STRING** -/
theorem lenW {p : Program} {l : Launch} {e : Env} {R : Room} {s : State} {args : Array Value} {below : List Frame} {len W : Nat} {Z : State} {a0 : Array Value} {h : Heap} (hZ : Z.Warmed39 s.vm) (hw : ∀ d ∈ wordsLen, d.before a0 Z = true) {kI : Nat} (wi : (Jvm.Cond.instantiable ST kI).before a0 Z = true)
    {x t : Addr} {kb : ClassId} {cs : List Int32} {cd N2 z : Int32} {vs : List Value} (E : RoadKit.Exa Z h x ST) (V : RoadKit.Fld Z h x ST "value" "[B" (.ref t)) (C : RoadKit.Fld Z h x ST "coder" "B" (.int cd)) (K : RoadKit.Arv Z h t kb .byte N2 vs (.int 0)) (hc : CodA cs cd N2 vs) (hb : ∀ c ∈ cs, ¬ c < 0 ∧ ¬ (65535 : Int32) < c)
    (S : RoadKit.Sta Z h ST "COMPACT_STRINGS" "Z" (.int z)) (hz : ¬ z = 0) (l2 : cs.length ≤ 4000) (hfr : 2 ≤ R.frames) (hlo : W + 25 ≤ R.locals) :
    Back l R p e below s args (⟨"java/lang/String", "length", "()I"⟩ : MethodName) len W (fun P a => a = #[.ref x] ∧ P.U.heap = h ∧ P.cells + 0 ≤ R.cells ∧ P.slots + 0 ≤ R.slots)
      (fun P _ v B => ∃ L, (v = some (.int (Int32.ofNat cs.length)) ∧ L = [] ∧ B.U.heap = h) ∧ B.locs = P.locs ++ L ∧ B.cells = P.cells + 0 ∧ B.slots = P.slots + 0) := by
  obtain ⟨A, K1, K2, K3, K4, K5, K6⟩ := K
  have hcod := hc.cod (by omega) K3 K5
  intro m meth c P g ig mk a X hg hsize hdg hW hn hp'
  obtain ⟨rfl, rfl, r1, r2⟩ := hp'
  have al : Z.vm.Alike P.U.vm := hZ.alike.trans X.warmed.alike
  obtain ⟨D, fV, fC, hB, F1, F2, g1, g2, -, -⟩ := strObj wi al E V C
  have hx : Txt x t A cd cs.length (fun j => cs.getD j 0) P.U := ⟨⟨_, hB.2.2.1, D, hB.1, rfl, by cases q : D.vm <;> first | rfl | exact absurd q (hB.2.1.2 _)⟩, Has.of hB F1 g1, Has.of hB F2 g2, ⟨K1.1, State.isArrayOf_alike al K1.2.1, K1.2.2, by rcases hcod with ⟨-, q, -⟩ | ⟨-, q, -⟩ <;> omega⟩, hcod, fun j hj => by
    have e : cs.getD j 0 = cs[j] := by simp [List.getD_eq_getElem?_getD, hj]
    show ¬ cs.getD j 0 < 0 ∧ ¬ 65535 < cs.getD j 0
    rw [e]; exact hb _ (List.getElem_mem _)⟩
  obtain ⟨v, B, X', ⟨⟨hv, hh⟩, hl, hk, hs⟩, st⟩ := Len.pays x t A cd cs.length (fun j => cs.getD j 0) z (tabLen_of (movedLen hZ hw)) hfr hlo m meth c P g ig mk _ X hg hsize hdg hW hn ⟨r1, r2, rfl, hx, sta_is al S, hz⟩
  exact ⟨v, B, X', ⟨[], ⟨hv, rfl, hh⟩, hl, hk, hs⟩, st⟩
end StrChars.Road
namespace StrChars.Road
open Jvm Sem ClassFile Op Lib Jvm.Stand Jvm.Free Jvm.Free.XT
open Jvm.Lib.Cold (StaticIs)
/-- what backV says of its String, as the contracts of this text ask it: cs's low bytes, coder 0 -/
theorem codOf {cs : List Int32} {n : Nat} (hn : cs.length = n) (hb : ∀ c ∈ cs, ¬ 255 < c) : CodA cs 0 (Int32.ofNat n) ((cs.map lo8).map Value.int) := Or.inl ⟨rfl, by rw [hn], by simp [List.map_map, Function.comp_def], hb⟩
end StrChars.Road
end Jvm.Pilot.@@N@@


namespace Jvm.Pilot.@@N@@
open Jvm Jvm.ClassFile Sem Op Lib Jvm.Free Jvm.Stand Jvm.LawKit Jvm.RoadKit Bundle Jvm.Pilot.@@N@@.Jvm.D
def own_Go (tb : Tables) (e : Env) (below : List Frame) (P : Outcome → State → Prop) (U : State) : Prop := ∃ s₂ o, Steps tb e below U s₂ ∧ s₂.status = .running ∧ Ended s₂ below o ∧ P o s₂
theorem own_Go.st {tb : Tables} {e : Env} {below : List Frame} {P : Outcome → State → Prop} {U U' : State} (h : ∀ t, Steps tb e below U' t → Steps tb e below U t) (k : own_Go tb e below P U') : own_Go tb e below P U := by
  obtain ⟨t, o, a, r⟩ := k
  exact ⟨t, o, h t a, r⟩
theorem own_Go.tr {tb : Tables} {e : Env} {below : List Frame} {P : Outcome → State → Prop} {U U' : State} (h : Steps tb e below U U') (k : own_Go tb e below P U') : own_Go tb e below P U := own_Go.st (fun _ a => h.trans a) k
section OwnRet
variable {p : Program} {l : Launch} {e : Env} {R : Room} {s : State} {m : MethodId} {args : Array Value} {below : List Frame} {meth : Method} {c : Code} {T : State} {locs : List Loc} {cells slots : Nat}
theorem own_retI (X : Stand p l e R s m args below meth c T locs cells slots) (hx : p.tables.exec = Jvm.exec) {pc : Nat} {Ls : Array Slot} {z : Int32} {rest : List Value} (hret : meth.sig.returnType = some .int) (hd : decode c.code pc = .ok (.ireturn, 1)) {fs : List Frame}
    (hl : ∀ (f : JFrame) (acts : List Action), f.method = m → f.locked = none → f.entered = [] → (doReturn e (T.setTop f) acts (some (.int z))).1 = T.setFrames fs) : Steps p.tables e below (T.setTop (mkF m pc Ls (.int z :: rest))) (T.setFrames fs) :=
  retOut X hx hret rfl (Or.inl ⟨rfl, Or.inl rfl, z, rfl⟩) hd hl
theorem own_retL (X : Stand p l e R s m args below meth c T locs cells slots) (hx : p.tables.exec = Jvm.exec) {pc : Nat} {Ls : Array Slot} {z : Int64} {rest : List Value} (hret : meth.sig.returnType = some .long) (hd : decode c.code pc = .ok (.lreturn, 1)) {fs : List Frame}
    (hl : ∀ (f : JFrame) (acts : List Action), f.method = m → f.locked = none → f.entered = [] → (doReturn e (T.setTop f) acts (some (.long z))).1 = T.setFrames fs) : Steps p.tables e below (T.setTop (mkF m pc Ls (.long z :: rest))) (T.setFrames fs) :=
  retOut X hx hret rfl (Or.inr (Or.inl ⟨rfl, rfl, z, rfl⟩)) hd hl
theorem own_narRef {t : FieldType} {w : Value} (ht : t.isReference = true) (hw : w.isRef = true) : narrow t w = w := by
  cases t <;> first | rfl | (simp [FieldType.isReference] at ht; done) | (cases w <;> first | rfl | simp [Value.isRef] at hw)
theorem own_retA (X : Stand p l e R s m args below meth c T locs cells slots) (hx : p.tables.exec = Jvm.exec) {pc : Nat} {Ls : Array Slot} {w : Value} {t : FieldType} {rest : List Value} (hret : meth.sig.returnType = some t) (ht : t.isReference = true) (hw : w.isRef = true) (hd : decode c.code pc = .ok (.areturn, 1)) {fs : List Frame}
    (hl : ∀ (f : JFrame) (acts : List Action), f.method = m → f.locked = none → f.entered = [] → (doReturn e (T.setTop f) acts (some w)).1 = T.setFrames fs) : Steps p.tables e below (T.setTop (mkF m pc Ls (w :: rest))) (T.setFrames fs) :=
  retOut X hx hret (own_narRef ht hw) (Or.inr (Or.inr (Or.inr (Or.inr ⟨rfl, ht, hw⟩)))) hd hl
end OwnRet
theorem own_nar {x : Int32} (h : ¬ x < 0 ∧ ¬ (65535 : Int32) < x) : nar .char x = x := by
  have q := c_i2c x
  have h1 := h.1; have h2 := h.2
  rw [Int32.lt_iff_toInt_lt] at h1 h2
  have e1 : (0 : Int32).toInt = 0 := by decide
  have e2 : (65535 : Int32).toInt = 65535 := by decide
  rw [e1] at h1; rw [e2] at h2
  show x.toUInt32.toUInt16.toUInt32.toInt32 = x
  apply Int32.toInt_inj.mp
  omega
theorem own_up {x : Int32} (h : ¬ x < 0 ∧ ¬ (255 : Int32) < x) : ¬ x < 0 ∧ ¬ (65535 : Int32) < x := by
  refine ⟨h.1, fun q => h.2 ?_⟩
  rw [Int32.lt_iff_toInt_lt] at q ⊢
  have e1 : (255 : Int32).toInt = 255 := by decide
  have e2 : (65535 : Int32).toInt = 65535 := by decide
  omega
theorem own_arvTy {Z : State} {h : Heap} {a b : Addr} {k k' : ClassId} {ty ty' : FieldType} {n n' : Int32} {vs vs' : List Value} {d d' : Value} (A : Arv Z h a k ty n vs d) (B : Arv Z h b k' ty' n' vs' d') (ht : ty ≠ ty') : a ≠ b := fun q => by
  subst q
  obtain ⟨c, C, -⟩ := A
  obtain ⟨c', C', -⟩ := B
  cases C.1.symm.trans C'.1
  obtain ⟨-, k1, j1, cp1, j2⟩ := C.2.1
  obtain ⟨-, k2, i1, cp2, i2⟩ := C'.2.1
  cases j1.symm.trans i1
  rw [j2] at i2
  cases i2
  exact ht rfl


def own_Str (Z : State) (h : Heap) (x t : Addr) (cs : List Int32) : Prop := ∃ (kb : ClassId) (cd N2 : Int32) (vs : List Value), Exa Z h x "java/lang/String" ∧ Fld Z h x "java/lang/String" "value" "[B" (.ref t) ∧ Fld Z h x "java/lang/String" "coder" "B" (.int cd) ∧ Arv Z h t kb .byte N2 vs (.int 0) ∧ StrChars.Road.CodA cs cd N2 vs ∧ (∀ c ∈ cs, ¬ c < 0 ∧ ¬ (65535 : Int32) < c) ∧ cs.length ≤ 4000
section OwnStr
variable {Z : State} {h h' : Heap} {x t a : Addr} {cs : List Int32} {sl : Nat} {v : Value} {ws : List Addr}
theorem own_Str.ext (F : own_Str Z h x t cs) (E : Ext h h') : own_Str Z h' x t cs := by
  obtain ⟨kb, cd, N2, vs, h1, h2, h3, h4, r⟩ := F
  exact ⟨kb, cd, N2, vs, h1.ext E, h2.ext E, h3.ext E, h4.ext E, r⟩
theorem own_Str.other (F : own_Str Z h x t cs) (W : Wr h h' a sl v) (n1 : x ≠ a) (n2 : t ≠ a) : own_Str Z h' x t cs := by
  obtain ⟨kb, cd, N2, vs, h1, h2, h3, h4, r⟩ := F
  exact ⟨kb, cd, N2, vs, h1.wr W, h2.other W (Or.inl n1), h3.other W (Or.inl n1), h4.other W n2, r⟩
theorem own_Str.keep (F : own_Str Z h x t cs) (K : Keep h h' ws) (n1 : x ∉ ws) (n2 : t ∉ ws) : own_Str Z h' x t cs := by
  obtain ⟨kb, cd, N2, vs, h1, h2, h3, h4, r⟩ := F
  exact ⟨kb, cd, N2, vs, h1.keep K, h2.keep K n1, h3.keep K n1, h4.keep K n2, r⟩
theorem own_Str.exa (F : own_Str Z h x t cs) : Exa Z h x "java/lang/String" := by obtain ⟨kb, cd, N2, vs, h1, -⟩ := F; exact h1
theorem own_Str.lt (F : own_Str Z h x t cs) : x < h.size := F.exa.lt
theorem own_Str.ltv (F : own_Str Z h x t cs) : t < h.size := by obtain ⟨kb, cd, N2, vs, -, -, -, h4, -⟩ := F; exact h4.lt
theorem own_Str.le (F : own_Str Z h x t cs) : cs.length ≤ 4000 := by obtain ⟨kb, cd, N2, vs, -, -, -, -, -, -, h⟩ := F; exact h
theorem own_Str.rng (F : own_Str Z h x t cs) : ∀ c ∈ cs, ¬ c < 0 ∧ ¬ (65535 : Int32) < c := by obtain ⟨kb, cd, N2, vs, -, -, -, -, -, h, -⟩ := F; exact h
theorem own_Str.neArv {b : Addr} {k : ClassId} {ty : FieldType} {n : Int32} {us : List Value} {d : Value} {a0 : Array Value} {kI : Nat} (F : own_Str Z h x t cs) (B : Arv Z h b k ty n us d) (wi : (Jvm.Cond.instantiable "java/lang/String" kI).before a0 Z = true) : x ≠ b := F.exa.neArv B wi
theorem own_Str.neTy {b : Addr} {k : ClassId} {ty : FieldType} {n : Int32} {us : List Value} {d : Value} (F : own_Str Z h x t cs) (B : Arv Z h b k ty n us d) (ht : .byte ≠ ty) : t ≠ b := by
  obtain ⟨kb, cd, N2, vs, -, -, -, h4, -⟩ := F
  exact own_arvTy h4 B ht
end OwnStr


theorem own_a0 {P : Int32 → Prop} : ∀ c ∈ ([] : List Int32), P c := fun _ q => nomatch q
theorem own_aS {P : Int32 → Prop} {x : Int32} {L : List Int32} (h : P x) (r : ∀ c ∈ L, P c) : ∀ c ∈ x :: L, P c := fun c q => (List.mem_cons.mp q).elim (fun u => u ▸ h) (r c)
theorem own_upL {cs : List Int32} (h : ∀ c ∈ cs, ¬ c < 0 ∧ ¬ (255 : Int32) < c) : ∀ c ∈ cs, ¬ c < 0 ∧ ¬ (65535 : Int32) < c := fun c q => own_up (h c q)


theorem own_Str.lat {Z : State} {h : Heap} {x t : Addr} {cs : List Int32} (F : own_Str Z h x t cs) (hl : ∀ c ∈ cs, ¬ (255 : Int32) < c) : ∃ (kb : ClassId) (N2 : Int32) (vs : List Value), Exa Z h x "java/lang/String" ∧ Fld Z h x "java/lang/String" "value" "[B" (.ref t) ∧ Fld Z h x "java/lang/String" "coder" "B" (.int 0) ∧ Arv Z h t kb .byte N2 vs (.int 0) ∧ StrChars.Road.CodA cs 0 N2 vs := by
  obtain ⟨kb, cd, N2, vs, h1, h2, h3, h4, h5, -⟩ := F
  rcases h5 with ⟨rfl, a, b, c⟩ | ⟨-, -, -, c, hc, q⟩
  · exact ⟨kb, N2, vs, h1, h2, h3, h4, Or.inl ⟨rfl, a, b, c⟩⟩
  · exact absurd q (hl c hc)


theorem own_eqv {v : Option Value} {A : Prop} (h : (v = some (.int 1) ∧ A) ∨ (v = some (.int 0) ∧ ¬ A)) : ∃ r : Int32, v = some (.int r) ∧ ((r = 1 ∧ A) ∨ (r = 0 ∧ ¬ A)) := by
  rcases h with ⟨a, b⟩ | ⟨a, b⟩
  · exact ⟨1, a, Or.inl ⟨rfl, b⟩⟩
  · exact ⟨0, a, Or.inr ⟨rfl, b⟩⟩

theorem own_hws {a0 : Array Value} {Z : State} (hw : ∀ d ∈ tables_1, d.before a0 Z = true) : ∀ d ∈ StrChars.Road.words, d.before a0 Z = true := fun d hd => hw d ((by decide +kernel : ∀ d ∈ StrChars.Road.words, d ∈ tables_1) d hd)
theorem own_hln {a0 : Array Value} {Z : State} (hw : ∀ d ∈ tables_1, d.before a0 Z = true) : ∀ d ∈ StrChars.Road.wordsLen, d.before a0 Z = true := fun d hd => hw d ((by decide +kernel : ∀ d ∈ StrChars.Road.wordsLen, d ∈ tables_1) d hd)

theorem own_wS {a0 : Array Value} {Z : State} (hw : ∀ d ∈ tables_1, d.before a0 Z = true) : ∀ d ∈ Bundle.stringAtoms, d.before a0 Z = true := fun d hd => hw d ((by decide +kernel : ∀ d ∈ Bundle.stringAtoms, d ∈ tables_1) d hd)
theorem own_safeNull {Z : State} {EL : List (String × Nat)} {vm : Vm} {h : Heap} {x : Addr} (hal : Z.vm.Alike vm) (E : Exa Z h x "java/lang/String") (F : Fld Z h x "java/lang/String" "value" "[B" .null) : Safe Z EL vm h x := fun B => by
  obtain ⟨p, -, u, a, -, q, -, G, hx | hx⟩ := B
  · obtain ⟨cS, ⟨S1, -, -⟩, -⟩ := G
    obtain ⟨g1, -, -, ⟨c', k', i', g2, -⟩, -, -, -, g3, -⟩ := S1
    obtain ⟨cell, cf, k, i, f, e1, e2, -, -, -, -, e3⟩ := F
    obtain ⟨k2, g4⟩ := ff_back (U := Wst Z vm h) hal g2
    rw [hx] at e1
    have e4 : cell = q.sC := Option.some.inj (e1.symm.trans g1)
    have e5 : f = q.fSV := by
      have e6 := Option.some.inj (e2.symm.trans g4)
      simp only [Prod.mk.injEq] at e6
      exact e6.2.2.2
    rw [e4, e5, g3] at e3
    cases e3
  · have hd := G.hd
    obtain ⟨cS, -, -, f, -⟩ := G
    obtain ⟨cell, k, e1, e2, -⟩ := E
    rw [hx] at e1
    have e4 : cell = q.SA := Option.some.inj (e1.symm.trans hd)
    have f' : Z.vm.findClass "[B" = some q.SA.cls := by rw [← hal.findClass]; exact f
    rw [e4] at e2
    obtain ⟨k1, q1, q2⟩ := Vm.findClass_spec f'
    obtain ⟨k2, q3, q4⟩ := Vm.findClass_spec e2
    cases q1.symm.trans q3
    exact absurd (q2.symm.trans q4) (by decide)

theorem pn_0 : plainName "java/lang/String" = true := by first | (simp [plainName, overriddenIn]; done) | decide +kernel
theorem ef_1 (m : MethodId) (x0 : Nat) (x1 : Nat) (x2 : Int32) (x3 : Int32) : entryFrame m #[(.ref x0), (.ref x1), (.int x2), (.int x3), .null] 6 = mkF m 0 #[.val (.ref x0), .val (.ref x1), .val (.int x2), .val (.int x3), .val .null, .unset] [] := by first | (simp [entryFrame, mkF, argsToLocals, Value.category]; done) | rfl
theorem d_jdk_42_method_149_0 : decode jdk_42_method_149_code 0 = .ok (.aload_n 0, 1) := by decide +kernel
theorem d_jdk_42_method_149_1 : decode jdk_42_method_149_code 1 = .ok (.invokespecial 1, 3) := by decide +kernel
theorem d_jdk_42_method_149_4 : decode jdk_42_method_149_code 4 = .ok (.iload_n 3, 1) := by decide +kernel
theorem d_jdk_42_method_149_5 : decode jdk_42_method_149_code 5 = .ok (.ifCond .ne 22, 3) := by decide +kernel
theorem d_jdk_42_method_149_8 : decode jdk_42_method_149_code 8 = .ok (.aload_n 0, 1) := by decide +kernel
theorem d_jdk_42_method_149_9 : decode jdk_42_method_149_code 9 = .ok (.ldc 7, 2) := by decide +kernel
theorem d_jdk_42_method_149_11 : decode jdk_42_method_149_code 11 = .ok (.getfield 9, 3) := by decide +kernel
theorem d_jdk_42_method_149_14 : decode jdk_42_method_149_code 14 = .ok (.putfield 9, 3) := by decide +kernel
theorem d_jdk_42_method_149_17 : decode jdk_42_method_149_code 17 = .ok (.aload_n 0, 1) := by decide +kernel
theorem d_jdk_42_method_149_18 : decode jdk_42_method_149_code 18 = .ok (.ldc 7, 2) := by decide +kernel
theorem d_jdk_42_method_149_20 : decode jdk_42_method_149_code 20 = .ok (.getfield 15, 3) := by decide +kernel
theorem d_jdk_42_method_149_23 : decode jdk_42_method_149_code 23 = .ok (.putfield 15, 3) := by decide +kernel
theorem d_jdk_42_method_149_26 : decode jdk_42_method_149_code 26 = .ok (.return_, 1) := by decide +kernel
def Q_init4e (Z : State) (a1 : Nat) (a2 : Nat) (h0 : Heap) (v : Option Value) (h : Heap) (L : List Loc) : Prop := ∃ (t : Nat), v = none ∧ Fr Z.heap.size L ∧ Keep h0 h [a1] ∧ own_Str Z h a1 t []
set_option maxRecDepth 65536 in
set_option maxHeartbeats 40000000 in
theorem rm_init4e (l : Launch) (Z : State) (a0 : Array Value) (hw : ∀ d ∈ tables_1, d.before a0 Z = true) (ws : List Jvm.Cond) (a1 : Nat) (a2 : Nat) (h0 : Heap) (hEL : EW Z a0 consts_1) (OL : Old Z Z.heap.size h0) (p0_ : Exa Z h0 a1 "java/lang/String") (p1_ : Fld Z h0 a1 "java/lang/String" "value" "[B" .null) (p2_ : Fld Z h0 a1 "java/lang/String" "coder" "B" (.int (0 : Int32))) (hn0 : Z.heap.size ≤ a1) :
    MetFree l (⟨"java/lang/String", "<init>", "([CIILjava/lang/Void;)V"⟩ : MethodName) (head1 (Jvm.Cond.code (⟨"java/lang/String", "<init>", "([CIILjava/lang/Void;)V"⟩ : MethodName) jdk_42_method_149_code 6 none :: ws) ({ frames := 1, cells := 4, slots := 8, locals := 12 } : Room)) (fun a U => a = #[(.ref a1), (.ref a2), (.int (0 : Int32)), (.int (0 : Int32)), .null] ∧ Z.Warmed39 U.vm ∧ U.heap = h0 ∧ CHv Z consts_1 U.vm h0) (fun _ _ _ _ _ => True) (fun _ U o U' => ∃ v L, o = .returned v ∧ Q_init4e Z a1 a2 h0 v U'.heap L ∧ CHr Z consts_1 U.vm U.heap U'.vm U'.heap ∧ ReturnedEndW U o U' L ({ frames := 1, cells := 4, slots := 8, locals := 12 } : Room).cells ({ frames := 1, cells := 4, slots := 8, locals := 12 } : Room).slots) := by
  refine MetFree.of_bodySF (plainFor_of_name pn_0) hisR ?_
  intro p e s m args below meth c s₁ Bd hml0 hP hK
  obtain ⟨rfl, hZ, hh, hC0⟩ := hP
  have hx := Bd.exec
  have hby := Bd.bytes
  have hml : c.maxLocals = 6 := hml0
  have hown : s.vm.findClass "java/lang/String" = some m.cls := findClass_of_methodNamed Bd.named
  have hnm := (name_of_methodNamed Bd.named Bd.method).1
  have X0 : Stand p l e ({ frames := 1, cells := 4, slots := 8, locals := 12 } : Room) (s.setVm s.vm) m #[(.ref a1), (.ref a2), (.int (0 : Int32)), (.int (0 : Int32)), .null] below meth c s₁ [] 0 0 := Stand.of_body Bd
  have e0 : s₁.heap = h0 := by rw [← hh, Bd.state]; rfl
  have N0 := Fr.nil Z.heap.size
  have Z0 : Z.heap.size ≤ h0.size := OL.2.1
  have hS0 : s.Since s.vm h0.size := (State.WarmedH.refl s).since _
  have wS := own_wS hw
  have R0 : CHr Z consts_1 s.vm h0 s.vm h0 := CHr.refl hC0
  have lt_0 : @LT.lt Nat _ a1 h0.size := p0_.lt
  have lt_1 : @LT.lt Nat _ a1 h0.size := p1_.lt
  have lt_2 : @LT.lt Nat _ a1 h0.size := p2_.lt
  obtain ⟨PP, hPP⟩ : ∃ PP : Outcome → State → Prop, PP = (fun o tE => ∃ v L, o = .returned v ∧ Q_init4e Z a1 a2 h0 v tE.heap L ∧ CHr Z consts_1 s.vm s.heap tE.vm tE.heap ∧ ReturnedEndW s o tE L ({ frames := 1, cells := 4, slots := 8, locals := 12 } : Room).cells ({ frames := 1, cells := 4, slots := 8, locals := 12 } : Room).slots) := ⟨_, rfl⟩
  show own_Go p.tables e below (fun o tE => ∃ v L, o = .returned v ∧ Q_init4e Z a1 a2 h0 v tE.heap L ∧ CHr Z consts_1 s.vm s.heap tE.vm tE.heap ∧ ReturnedEndW s o tE L ({ frames := 1, cells := 4, slots := 8, locals := 12 } : Room).cells ({ frames := 1, cells := 4, slots := 8, locals := 12 } : Room).slots) (s₁.setTop (entryFrame m #[(.ref a1), (.ref a2), (.int (0 : Int32)), (.int (0 : Int32)), .null] 6))
  rw [← hPP]
  refine own_Go.st (fun t k => castTop (ef_1 m a1 a2 (0 : Int32) (0 : Int32)) k) ?_
  show own_Go _ _ _ _ (s₁.setTop (mkF m 0 #[.val (.ref a1), .val (.ref a2), .val (.int (0 : Int32)), .val (.int (0 : Int32)), .val .null, .unset] []))
  refine own_Go.st (fun _ k => XS.aloadN X0.here hx rfl (hb hby d_jdk_42_method_149_0) rfl rfl k) ?_
  show own_Go _ _ _ _ (s₁.setTop (mkF m 1 #[.val (.ref a1), .val (.ref a2), .val (.int (0 : Int32)), .val (.int (0 : Int32)), .val .null, .unset] [(.ref a1)]))
  obtain ⟨T101, X101, e101, st101⟩ := initO X0 hx hZ hown (hw _ (List.mem_of_getElem? (i := 15) rfl)) (hw _ (List.mem_of_getElem? (i := 16) rfl)) (hw _ (List.mem_of_getElem? (i := 17) rfl)) e0 (g := (mkF m 1 #[.val (.ref a1), .val (.ref a2), .val (.int (0 : Int32)), .val (.int (0 : Int32)), .val .null, .unset] [(.ref a1)])) rfl (by rw [hml]; rfl) rfl (hb hby d_jdk_42_method_149_1) (by decide) (W := 0) (by show 2 * 0 + _ ≤ _; exact Nat.le_of_eq rfl) (by decide)
  refine own_Go.st st101 ?_
  show own_Go _ _ _ _ (T101.setTop (mkF m 4 #[.val (.ref a1), .val (.ref a2), .val (.int (0 : Int32)), .val (.int (0 : Int32)), .val .null, .unset] []))
  refine own_Go.st (fun _ k => XS.iloadN X101.here hx rfl (hb hby d_jdk_42_method_149_4) rfl k) ?_
  show own_Go _ _ _ _ (T101.setTop (mkF m 5 #[.val (.ref a1), .val (.ref a2), .val (.int (0 : Int32)), .val (.int (0 : Int32)), .val .null, .unset] [(.int (0 : Int32))]))
  refine own_Go.st (fun _ k => XS.ifNo X101.here hx rfl (hb hby d_jdk_42_method_149_5) rfl ((if0 _ _).trans (teq (rfl : (0 : Int32) = (0 : Int32))).2) k) ?_
  show own_Go _ _ _ _ (T101.setTop (mkF m 8 #[.val (.ref a1), .val (.ref a2), .val (.int (0 : Int32)), .val (.int (0 : Int32)), .val .null, .unset] []))
  refine own_Go.st (fun _ k => XS.aloadN X101.here hx rfl (hb hby d_jdk_42_method_149_8) rfl rfl k) ?_
  show own_Go _ _ _ _ (T101.setTop (mkF m 9 #[.val (.ref a1), .val (.ref a2), .val (.int (0 : Int32)), .val (.int (0 : Int32)), .val .null, .unset] [(.ref a1)]))
  obtain ⟨a102, T102, h102, kk102, t102, kb102, X102, e102, E102, hS102, hk102, hZ102, hown102, A102, C102, V102, B102, la102, lb102, ch102, Li102, sf102, st102⟩ := ldcCH X101 hx hZ hown (hw _ (List.mem_of_getElem? (i := 18) rfl)) wS e101 hS0 (by omega) hEL (by decide) R0.1 (vs := []) (z := (0 : Int32)) (by decide) (by decide) (by decide) (g := (mkF m 9 #[.val (.ref a1), .val (.ref a2), .val (.int (0 : Int32)), .val (.int (0 : Int32)), .val .null, .unset] [(.ref a1)])) rfl (hb hby d_jdk_42_method_149_9) (n := 0) (by decide) (by decide) (by decide) (by decide)
  refine own_Go.st st102 ?_
  have z102 : h0.size ≤ h102.size := E102.1
  have la102' : @LT.lt Nat _ a102 h102.size := la102
  have lb102' : @LT.lt Nat _ t102 h102.size := lb102
  have R102 : CHr Z consts_1 s.vm h0 T102.vm h102 := R0.trans ch102
  have fT102 : own_Str Z h102 a102 t102 ([] : List Int32) := ⟨kb102, 0, (0 : Int32), [], A102, V102, C102, B102, Or.inl ⟨rfl, rfl, rfl, (by decide)⟩, (by decide), (by decide)⟩
  show own_Go _ _ _ _ (T102.setTop (mkF m 11 #[.val (.ref a1), .val (.ref a2), .val (.int (0 : Int32)), .val (.int (0 : Int32)), .val .null, .unset] [(.ref a102), (.ref a1)]))
  obtain ⟨T103, X103, e103, st103⟩ := getF X102 hx hZ102 hown102 (host := "") (Or.inl (hw _ (List.mem_of_getElem? (i := 24) rfl))) Via.refl e102 V102 (g := (mkF m 11 #[.val (.ref a1), .val (.ref a2), .val (.int (0 : Int32)), .val (.int (0 : Int32)), .val .null, .unset] [(.ref a102), (.ref a1)])) rfl rfl (hb hby d_jdk_42_method_149_11)
  refine own_Go.st st103 ?_
  show own_Go _ _ _ _ (T103.setTop (mkF m 14 #[.val (.ref a1), .val (.ref a2), .val (.int (0 : Int32)), .val (.int (0 : Int32)), .val .null, .unset] [(.ref t102), (.ref a1)]))
  have f104 : Fld Z h102 a1 "java/lang/String" "value" "[B" .null := p1_.ext E102
  have f105 : Exa Z h102 a1 "java/lang/String" := p0_.ext E102
  obtain ⟨T106, h106, X106, e106, W106, st106⟩ := putF X103 hx hZ102 hown102 (host := "") (Or.inl (hw _ (List.mem_of_getElem? (i := 24) rfl))) Via.refl e103 f104 f105 (Or.inr ⟨(hw _ (List.mem_of_getElem? (i := 20) rfl)), rfl, hnm⟩) (hw _ (List.mem_of_getElem? (i := 6) rfl)) (ty := (.array .byte)) (by decide) rfl rfl (g := (mkF m 14 #[.val (.ref a1), .val (.ref a2), .val (.int (0 : Int32)), .val (.int (0 : Int32)), .val .null, .unset] [(.ref t102), (.ref a1)])) rfl rfl (hb hby d_jdk_42_method_149_14)
  refine own_Go.st st106 ?_
  have N106 := Fr.snoc X106 N0 (by omega)
  have Sf108 : Safe Z consts_1 T102.vm h102 a1 := own_safeNull hZ102.alike f105 f104
  have z106 : h102.size ≤ h106.size := Nat.le_of_eq W106.size.symm
  have f107 : Fld Z h106 a1 "java/lang/String" "value" "[B" (.ref t102) := f104.same W106
  have R106 : CHr Z consts_1 s.vm h0 T102.vm h106 := R102.trans (CHr.wr W106 Sf108 R102.1)
  have Sf109 : Safe Z consts_1 T102.vm h106 a1 := Safe.wr W106 Sf108 R102.1 Sf108
  show own_Go _ _ _ _ (T106.setTop (mkF m 17 #[.val (.ref a1), .val (.ref a2), .val (.int (0 : Int32)), .val (.int (0 : Int32)), .val .null, .unset] []))
  refine own_Go.st (fun _ k => XS.aloadN X106.here hx rfl (hb hby d_jdk_42_method_149_17) rfl rfl k) ?_
  show own_Go _ _ _ _ (T106.setTop (mkF m 18 #[.val (.ref a1), .val (.ref a2), .val (.int (0 : Int32)), .val (.int (0 : Int32)), .val .null, .unset] [(.ref a1)]))
  obtain ⟨a110, T110, h110, kk110, t110, kb110, X110, e110, E110, hS110, hk110, hZ110, hown110, A110, C110, V110, B110, la110, lb110, ch110, Li110, sf110, st110⟩ := ldcCH X106 hx hZ102 hown102 (hw _ (List.mem_of_getElem? (i := 18) rfl)) wS e106 hS102 (by omega) hEL (by decide) R106.1 (vs := []) (z := (0 : Int32)) (by decide) (by decide) (by decide) (g := (mkF m 18 #[.val (.ref a1), .val (.ref a2), .val (.int (0 : Int32)), .val (.int (0 : Int32)), .val .null, .unset] [(.ref a1)])) rfl (hb hby d_jdk_42_method_149_18) (n := 0) (by decide) (by decide) (by decide) (by decide)
  refine own_Go.st st110 ?_
  have z110 : h106.size ≤ h110.size := E110.1
  have la110' : @LT.lt Nat _ a110 h110.size := la110
  have lb110' : @LT.lt Nat _ t110 h110.size := lb110
  have R110 : CHr Z consts_1 s.vm h0 T110.vm h110 := R106.trans ch110
  have Sf111 : Safe Z consts_1 T110.vm h110 a1 := ch110.safe (by show @LT.lt Nat _ a1 _; omega) Sf109
  have fT110 : own_Str Z h110 a110 t110 ([] : List Int32) := ⟨kb110, 0, (0 : Int32), [], A110, V110, C110, B110, Or.inl ⟨rfl, rfl, rfl, (by decide)⟩, (by decide), (by decide)⟩
  show own_Go _ _ _ _ (T110.setTop (mkF m 20 #[.val (.ref a1), .val (.ref a2), .val (.int (0 : Int32)), .val (.int (0 : Int32)), .val .null, .unset] [(.ref a110), (.ref a1)]))
  obtain ⟨T112, X112, e112, st112⟩ := getF X110 hx hZ110 hown110 (host := "") (Or.inl (hw _ (List.mem_of_getElem? (i := 25) rfl))) Via.refl e110 C110 (g := (mkF m 20 #[.val (.ref a1), .val (.ref a2), .val (.int (0 : Int32)), .val (.int (0 : Int32)), .val .null, .unset] [(.ref a110), (.ref a1)])) rfl rfl (hb hby d_jdk_42_method_149_20)
  refine own_Go.st st112 ?_
  show own_Go _ _ _ _ (T112.setTop (mkF m 23 #[.val (.ref a1), .val (.ref a2), .val (.int (0 : Int32)), .val (.int (0 : Int32)), .val .null, .unset] [(.int 0), (.ref a1)]))
  have f113 : Fld Z h102 a1 "java/lang/String" "coder" "B" (.int (0 : Int32)) := p2_.ext E102
  have f114 : Fld Z h106 a1 "java/lang/String" "coder" "B" (.int (0 : Int32)) := f113.other W106 (Or.inr (slot_ne (Or.inr (hw _ (List.mem_of_getElem? (i := 21) rfl))) (Or.inr (hw _ (List.mem_of_getElem? (i := 20) rfl))) (by decide) (t := .byte) (t' := (.array .byte)) (by decide) (by decide)))
  have f115 : Fld Z h110 a1 "java/lang/String" "coder" "B" (.int (0 : Int32)) := f114.ext E110
  have f116 : Exa Z h106 a1 "java/lang/String" := f105.wr W106
  have f117 : Exa Z h110 a1 "java/lang/String" := f116.ext E110
  obtain ⟨T118, h118, X118, e118, W118, st118⟩ := putF X112 hx hZ110 hown110 (host := "") (Or.inl (hw _ (List.mem_of_getElem? (i := 25) rfl))) Via.refl e112 f115 f117 (Or.inr ⟨(hw _ (List.mem_of_getElem? (i := 21) rfl)), rfl, hnm⟩) (hw _ (List.mem_of_getElem? (i := 6) rfl)) (ty := .byte) (by decide) rfl (by decide) (g := (mkF m 23 #[.val (.ref a1), .val (.ref a2), .val (.int (0 : Int32)), .val (.int (0 : Int32)), .val .null, .unset] [(.int 0), (.ref a1)])) rfl rfl (hb hby d_jdk_42_method_149_23)
  refine own_Go.st st118 ?_
  have N118 := Fr.snoc X118 N106 (by omega)
  have z118 : h110.size ≤ h118.size := Nat.le_of_eq W118.size.symm
  have f119 : Fld Z h118 a1 "java/lang/String" "coder" "B" (.int 0) := f115.same W118
  have R118 : CHr Z consts_1 s.vm h0 T110.vm h118 := R110.trans (CHr.wr W118 Sf111 R110.1)
  have Sf120 : Safe Z consts_1 T110.vm h118 a1 := Safe.wr W118 Sf111 R110.1 Sf111
  show own_Go _ _ _ _ (T118.setTop (mkF m 26 #[.val (.ref a1), .val (.ref a2), .val (.int (0 : Int32)), .val (.int (0 : Int32)), .val .null, .unset] []))
  obtain ⟨fs121, hr121, hrun121, hend121, hret121⟩ := X118.leaveW hS110 (by rw [e118]; exact (by omega)) (v := none) (fun _ => rfl)
  have f122 : Fld Z h110 a1 "java/lang/String" "value" "[B" (.ref t102) := f107.ext E110
  have f123 : Fld Z h118 a1 "java/lang/String" "value" "[B" (.ref t102) := f122.other W118 (Or.inr (slot_ne (Or.inr (hw _ (List.mem_of_getElem? (i := 20) rfl))) (Or.inr (hw _ (List.mem_of_getElem? (i := 21) rfl))) (by decide) (t := (.array .byte)) (t' := .byte) (by decide) (by decide)))
  have f124 : Exa Z h118 a1 "java/lang/String" := f117.wr W118
  have ne125 : @Ne Nat a1 t102 := Exa.neArv f105 B102 (hw _ (List.mem_of_getElem? (i := 6) rfl))
  have f126 : Arv Z h106 t102 kb102 .byte (0 : Int32) [] (.int 0) := B102.other W106 (Ne.symm ne125)
  have f127 : Arv Z h110 t102 kb102 .byte (0 : Int32) [] (.int 0) := f126.ext E110
  have f128 : Arv Z h118 t102 kb102 .byte (0 : Int32) [] (.int 0) := f127.other W118 (Ne.symm ne125)
  have K129 : Keep h0 h102 [a1] := (Keep.refl h0 [a1]).ext E102
  have K130 : Keep h0 h106 [a1] := K129.wr W106 (Or.inl (List.mem_of_getElem? (i := 0) rfl))
  have K131 : Keep h0 h110 [a1] := K130.ext E110
  have K132 : Keep h0 h118 [a1] := K131.wr W118 (Or.inl (List.mem_of_getElem? (i := 0) rfl))
  subst hPP
  refine ⟨_, _, X118.returnOut hx Bd.returns (hb hby d_jdk_42_method_149_26) hr121, hrun121, hend121, _, _, rfl, ?_, ?_, hret121.1, hret121.2.1, hret121.2.2.1, hret121.2.2.2.mono (by decide) (by decide)⟩
  · show Q_init4e Z _ _ h0 _ T118.heap _
    rw [e118]
    exact ⟨t102, rfl, N118, K132, ⟨kb102, 0, 0, [], f124, f123, f119, f128, Or.inl ⟨rfl, rfl, rfl, own_a0⟩, own_a0, by decide⟩⟩
  · have hfin := R118.trans (CHv.at X118 hZ110 hEL R118.1)
    rw [← hh] at hfin
    show CHr Z consts_1 s.vm s.heap T118.vm T118.heap
    rw [e118]
    exact hfin
theorem ef_15 (m : MethodId) (x0 : Nat) (x1 : Nat) : entryFrame m #[(.ref x0), (.ref x1)] 2 = mkF m 0 #[.val (.ref x0), .val (.ref x1)] [] := by first | (simp [entryFrame, mkF, argsToLocals, Value.category]; done) | rfl
theorem d_jdk_42_method_3_0 : decode jdk_42_method_3_code 0 = .ok (.aload_n 0, 1) := by decide +kernel
theorem d_jdk_42_method_3_1 : decode jdk_42_method_3_code 1 = .ok (.aload_n 1, 1) := by decide +kernel
theorem d_jdk_42_method_3_2 : decode jdk_42_method_3_code 2 = .ok (.iconst 0, 1) := by decide +kernel
theorem d_jdk_42_method_3_3 : decode jdk_42_method_3_code 3 = .ok (.aload_n 1, 1) := by decide +kernel
theorem d_jdk_42_method_3_4 : decode jdk_42_method_3_code 4 = .ok (.arraylength, 1) := by decide +kernel
theorem d_jdk_42_method_3_5 : decode jdk_42_method_3_code 5 = .ok (.aconst_null, 1) := by decide +kernel
theorem pd_22 : parseMethodDescriptor "([CIILjava/lang/Void;)V" = some ⟨[(.array .char), .int, .int, (.object "java/lang/Void")], none⟩ := by decide +kernel
theorem d_jdk_42_method_3_6 : decode jdk_42_method_3_code 6 = .ok (.invokespecial 27, 3) := by decide +kernel
theorem d_jdk_42_method_3_9 : decode jdk_42_method_3_code 9 = .ok (.return_, 1) := by decide +kernel
def Q_init1e (Z : State) (a1 : Nat) (a2 : Nat) (k : ClassId) (vs : List Value) (d : Value) (h0 : Heap) (v : Option Value) (h : Heap) (L : List Loc) : Prop := ∃ (t : Nat), v = none ∧ Fr Z.heap.size L ∧ Keep h0 h [a1] ∧ own_Str Z h a1 t []
set_option maxRecDepth 65536 in
set_option maxHeartbeats 40000000 in
theorem rm_init1e (l : Launch) (Z : State) (a0 : Array Value) (hw : ∀ d ∈ tables_1, d.before a0 Z = true) (ws : List Jvm.Cond) (a1 : Nat) (a2 : Nat) (k : ClassId) (vs : List Value) (d : Value) (h0 : Heap) (hEL : EW Z a0 consts_1) (OL : Old Z Z.heap.size h0) (p0_ : Exa Z h0 a1 "java/lang/String") (p1_ : Fld Z h0 a1 "java/lang/String" "value" "[B" .null) (p2_ : Fld Z h0 a1 "java/lang/String" "coder" "B" (.int (0 : Int32))) (p3_ : Arv Z h0 a2 k .char (0 : Int32) vs d) (hn0 : Z.heap.size ≤ a1) :
    MetFree l (⟨"java/lang/String", "<init>", "([C)V"⟩ : MethodName) (head1 (Jvm.Cond.code (⟨"java/lang/String", "<init>", "([C)V"⟩ : MethodName) jdk_42_method_3_code 2 none :: ws) ({ frames := 2, cells := 4, slots := 8, locals := 29 } : Room)) (fun a U => a = #[(.ref a1), (.ref a2)] ∧ Z.Warmed39 U.vm ∧ U.heap = h0 ∧ CHv Z consts_1 U.vm h0) (fun _ _ _ _ _ => True) (fun _ U o U' => ∃ v L, o = .returned v ∧ Q_init1e Z a1 a2 k vs d h0 v U'.heap L ∧ CHr Z consts_1 U.vm U.heap U'.vm U'.heap ∧ ReturnedEndW U o U' L ({ frames := 2, cells := 4, slots := 8, locals := 29 } : Room).cells ({ frames := 2, cells := 4, slots := 8, locals := 29 } : Room).slots) := by
  refine MetFree.of_bodySF (plainFor_of_name pn_0) hisR ?_
  intro p e s m args below meth c s₁ Bd hml0 hP hK
  obtain ⟨rfl, hZ, hh, hC0⟩ := hP
  have hx := Bd.exec
  have hby := Bd.bytes
  have hml : c.maxLocals = 2 := hml0
  have hown : s.vm.findClass "java/lang/String" = some m.cls := findClass_of_methodNamed Bd.named
  have hnm := (name_of_methodNamed Bd.named Bd.method).1
  have X0 : Stand p l e ({ frames := 2, cells := 4, slots := 8, locals := 29 } : Room) (s.setVm s.vm) m #[(.ref a1), (.ref a2)] below meth c s₁ [] 0 0 := Stand.of_body Bd
  have e0 : s₁.heap = h0 := by rw [← hh, Bd.state]; rfl
  have N0 := Fr.nil Z.heap.size
  have Z0 : Z.heap.size ≤ h0.size := OL.2.1
  have hS0 : s.Since s.vm h0.size := (State.WarmedH.refl s).since _
  have wS := own_wS hw
  have R0 : CHr Z consts_1 s.vm h0 s.vm h0 := CHr.refl hC0
  have lt_0 : @LT.lt Nat _ a1 h0.size := p0_.lt
  have lt_1 : @LT.lt Nat _ a1 h0.size := p1_.lt
  have lt_2 : @LT.lt Nat _ a1 h0.size := p2_.lt
  have lt_3 : @LT.lt Nat _ a2 h0.size := p3_.lt
  obtain ⟨PP, hPP⟩ : ∃ PP : Outcome → State → Prop, PP = (fun o tE => ∃ v L, o = .returned v ∧ Q_init1e Z a1 a2 k vs d h0 v tE.heap L ∧ CHr Z consts_1 s.vm s.heap tE.vm tE.heap ∧ ReturnedEndW s o tE L ({ frames := 2, cells := 4, slots := 8, locals := 29 } : Room).cells ({ frames := 2, cells := 4, slots := 8, locals := 29 } : Room).slots) := ⟨_, rfl⟩
  show own_Go p.tables e below (fun o tE => ∃ v L, o = .returned v ∧ Q_init1e Z a1 a2 k vs d h0 v tE.heap L ∧ CHr Z consts_1 s.vm s.heap tE.vm tE.heap ∧ ReturnedEndW s o tE L ({ frames := 2, cells := 4, slots := 8, locals := 29 } : Room).cells ({ frames := 2, cells := 4, slots := 8, locals := 29 } : Room).slots) (s₁.setTop (entryFrame m #[(.ref a1), (.ref a2)] 2))
  rw [← hPP]
  refine own_Go.st (fun t k => castTop (ef_15 m a1 a2) k) ?_
  show own_Go _ _ _ _ (s₁.setTop (mkF m 0 #[.val (.ref a1), .val (.ref a2)] []))
  refine own_Go.st (fun _ k => XS.aloadN X0.here hx rfl (hb hby d_jdk_42_method_3_0) rfl rfl k) ?_
  show own_Go _ _ _ _ (s₁.setTop (mkF m 1 #[.val (.ref a1), .val (.ref a2)] [(.ref a1)]))
  refine own_Go.st (fun _ k => XS.aloadN X0.here hx rfl (hb hby d_jdk_42_method_3_1) rfl rfl k) ?_
  show own_Go _ _ _ _ (s₁.setTop (mkF m 2 #[.val (.ref a1), .val (.ref a2)] [(.ref a2), (.ref a1)]))
  refine own_Go.st (fun _ k => XS.iconst X0.here hx rfl (hb hby d_jdk_42_method_3_2) k) ?_
  show own_Go _ _ _ _ (s₁.setTop (mkF m 3 #[.val (.ref a1), .val (.ref a2)] [(.int (0 : Int32)), (.ref a2), (.ref a1)]))
  refine own_Go.st (fun _ k => XS.aloadN X0.here hx rfl (hb hby d_jdk_42_method_3_3) rfl rfl k) ?_
  show own_Go _ _ _ _ (s₁.setTop (mkF m 4 #[.val (.ref a1), .val (.ref a2)] [(.ref a2), (.int (0 : Int32)), (.ref a2), (.ref a1)]))
  obtain ⟨c133, Ar133, q133, S133, Nn133, H133, G133⟩ := id p3_
  refine own_Go.st (X0.arraylength hx (by rw [e0]; exact Ar133.1) (State.isArrayOf_alike hZ.alike Ar133.2.1) (g := (mkF m 4 #[.val (.ref a1), .val (.ref a2)] [(.ref a2), (.int (0 : Int32)), (.ref a2), (.ref a1)])) rfl rfl (hb hby d_jdk_42_method_3_4)) ?_
  rw [len_of S133 Nn133]
  show own_Go _ _ _ _ (s₁.setTop (mkF m 5 #[.val (.ref a1), .val (.ref a2)] [(.int (0 : Int32)), (.int (0 : Int32)), (.ref a2), (.ref a1)]))
  refine own_Go.st (fun _ k => XS.aconstNull X0.here hx rfl (hb hby d_jdk_42_method_3_5) k) ?_
  show own_Go _ _ _ _ (s₁.setTop (mkF m 6 #[.val (.ref a1), .val (.ref a2)] [.null, (.int (0 : Int32)), (.int (0 : Int32)), (.ref a2), (.ref a1)]))
  obtain ⟨_, _, ⟨T134, L134, k134, n134⟩, -, X134, hs134, hg134, ⟨Lc134, hQ134, l134, y134, z134, ch134⟩, st134⟩ := X0.specialBackS hx (y := (⟨"java/lang/String", "<init>", "([CIILjava/lang/Void;)V"⟩ : MethodName)) rfl hown (mvT hZ (hw _ (List.mem_of_getElem? (i := 11) rfl))) (mvT hZ (hw _ (List.mem_of_getElem? (i := 12) rfl))) (mvT hZ (hw _ (List.mem_of_getElem? (i := 14) rfl))) (by decide) (backOfSH (s := s) (vm0 := s.vm) (W := 0) (rm_init4e l Z a0 hw [] a1 a2 h0 hEL OL p0_ p1_ p2_ (by first | assumption | decide)) hZ (hw _ (List.mem_of_getElem? (i := 14) rfl)) (hw _ (List.mem_of_getElem? (i := 7) rfl)) (by decide) (by decide) hEL R0.1) (g := (mkF m 6 #[.val (.ref a1), .val (.ref a2)] [.null, (.int (0 : Int32)), (.int (0 : Int32)), (.ref a2), (.ref a1)])) rfl (by rw [hml]; rfl) (Steps.refl _) (a := a1) (argsL := [(.ref a2), (.int (0 : Int32)), (.int (0 : Int32)), .null]) (rest := []) (lenOf pd_22 rfl) rfl (by show 2 * 0 + _ ≤ _; exact Nat.le_of_eq rfl) (hb hby d_jdk_42_method_3_6) (fun _ _ => ⟨rfl, e0, (by decide : 0 + 4 ≤ _), (by decide : 0 + 8 ≤ _)⟩)
  dsimp only [Pt.U, Pt.locs, Pt.cells, Pt.slots] at X134 l134 y134 z134 st134 hQ134 hs134 hg134 ch134
  subst l134 y134 z134
  obtain ⟨t_134, rfl, N134q, K134, f134_0⟩ := hQ134
  have N134 := Fr.app N0 N134q
  obtain ⟨Y134, hS134, hZ134, hown134⟩ := rebS hS0 (n1 := h0.size) (by omega) X134 hs134 (by have := hg134; first | exact this | (rw [← e0]; exact this)) hZ hown
  have z134 : h0.size ≤ T134.heap.size := K134.1
  have R134 : CHr Z consts_1 s.vm h0 T134.vm T134.heap := R0.trans ch134
  have lt134_0 : @LT.lt Nat _ a1 T134.heap.size := f134_0.lt
  have ltv134_0 : @LT.lt Nat _ t_134 T134.heap.size := f134_0.ltv
  refine own_Go.tr st134 ?_
  show own_Go _ _ _ _ (T134.setTop (mkF m 9 #[.val (.ref a1), .val (.ref a2)] []))
  obtain ⟨fs135, hr135, hrun135, hend135, hret135⟩ := Y134.leaveW hS134 (by omega) (v := none) (fun _ => rfl)
  have K136 : Keep h0 T134.heap [a1] := (Keep.refl h0 [a1]).trans K134 (allS (Or.inl (List.mem_of_getElem? (i := 0) rfl)) all0)
  subst hPP
  refine ⟨_, _, Y134.returnOut hx Bd.returns (hb hby d_jdk_42_method_3_9) hr135, hrun135, hend135, _, _, rfl, ?_, ?_, hret135.1, hret135.2.1, hret135.2.2.1, hret135.2.2.2.mono (by decide) (by decide)⟩
  · show Q_init1e Z _ _ _ _ _ h0 _ T134.heap _
    exact ⟨t_134, rfl, N134, K136, f134_0⟩
  · have hfin := R134.trans (CHv.at Y134 hZ134 hEL R134.1)
    rw [← hh] at hfin
    show CHr Z consts_1 s.vm s.heap T134.vm T134.heap
    exact hfin

theorem own_of {i : Nat} (h : i < 2147483648) : (Int32.ofNat i).toInt = i := Int32.toInt_ofNat_small h
theorem own_ofn {i : Nat} (h : i < 2147483648) : (Int32.ofNat i).toNatClampNeg = i := by
  have := own_of h
  simp only [Int32.toNatClampNeg, this]
  omega
theorem own_of0 {i : Nat} (h : i < 2147483648) : ¬ (Int32.ofNat i) < 0 := by
  have := own_of h
  have e0 : (0 : Int32).toInt = 0 := by decide
  rw [Int32.lt_iff_toInt_lt, this, e0]
  omega
theorem own_oflt {i j : Nat} (hi : i < 2147483648) (hj : j < 2147483648) : (Int32.ofNat i) < (Int32.ofNat j) ↔ i < j := by
  rw [Int32.lt_iff_toInt_lt, own_of hi, own_of hj]
  omega
theorem own_ofS {i : Nat} (h : i < 1073741823) : Int32.ofNat i + (1 : Int32) = Int32.ofNat (i + 1) := by
  apply Int32.toInt_inj.mp
  have a := c_iadd (Int32.ofNat i) 1
  have b := own_of (i := i) (by omega)
  have c := own_of (i := i + 1) (by omega)
  have r := rng32 (Int32.ofNat i + 1)
  have e1 : (1 : Int32).toInt = 1 := by decide
  omega
theorem own_getD {cs : List Int32} {i : Nat} (hi : i < cs.length) (hl : cs.length ≤ 4000) (d : Value) : (cs.map Value.int).getD (Int32.ofNat i).toNatClampNeg d = .int (cs.getD i 0) := by
  rw [own_ofn (by omega)]
  simp [List.getD_eq_getElem?_getD, hi]
theorem own_arvAny {Z : State} {h h' : Heap} {a : Addr} {k : ClassId} {ty : FieldType} {n j : Int32} {vs : List Value} {d v : Value} (F : Arv Z h a k ty n vs d) (hv : fits ty v = true) (hj : ¬ j < 0 ∧ j < n) (W : Wr h h' a j.toNatClampNeg v) : ∃ vs', Arv Z h' a k ty n vs' d := by
  have F' := F.pad (pad_rep vs d (j.toNatClampNeg + 1))
  obtain ⟨c, A, q1, S, q3, H, G⟩ := F'
  exact ⟨_, Arv.set A q1 S q3 H G hv W j.toNatClampNeg rfl (by simp only [List.length_append, List.length_replicate]; omega)⟩


theorem own_shl1 {i : Nat} (h : i < 1000000) : (Int32.ofNat i) <<< ((1 : Int32) &&& 31) = Int32.ofNat (2 * i) := by
  apply Int32.toInt_inj.mp
  have a := c_ishl (Int32.ofNat i) 1 1 (by decide)
  have b := own_of (i := i) (by omega)
  have c := own_of (i := 2 * i) (by omega)
  have r := rng32 (Int32.ofNat i <<< ((1 : Int32) &&& 31))
  omega
theorem own_wlen (cs : List Int32) : (StrChars.Road.wideBytes cs).length = 2 * cs.length := by
  induction cs with
  | nil => rfl
  | cons c r ih => simp only [StrChars.Road.wideBytes, List.length_cons, ih]; omega
theorem own_cfal {i : Nat} (h : 0 < i ∧ i ≤ 4000) : nar .byte ((((Int32.ofNat i - Int32.ofNat (2 * i)).toUInt32 >>> ((31 : Int32) &&& 31).toUInt32).toInt32).toInt8.toInt32) = 1 := by
  have a := c_isub (Int32.ofNat i) (Int32.ofNat (2 * i))
  have b := own_of (i := i) (by omega)
  have c := own_of (i := 2 * i) (by omega)
  have r := rng32 (Int32.ofNat i - Int32.ofNat (2 * i))
  have s := c_iushr (Int32.ofNat i - Int32.ofNat (2 * i)) 31 31 (by decide) (by decide)
  have t := c_i2b (((Int32.ofNat i - Int32.ofNat (2 * i)).toUInt32 >>> ((31 : Int32) &&& 31).toUInt32).toInt32)
  have u := c_i2b ((((Int32.ofNat i - Int32.ofNat (2 * i)).toUInt32 >>> ((31 : Int32) &&& 31).toUInt32).toInt32).toInt8.toInt32)
  apply Int32.toInt_inj.mp
  have e1 : (1 : Int32).toInt = 1 := by decide
  simp only [nar]
  omega
theorem own_i2b2 (x : Int32) : (x.toInt8.toInt32).toInt8.toInt32 = x.toInt8.toInt32 := by simp
theorem own_narB (x : Int32) : nar .byte (x.toInt8.toInt32) = StrChars.lo8 x := by
  show (x.toInt8.toInt32).toInt8.toInt32 = x.toInt8.toInt32
  simp
theorem own_setget {vs : List Value} {i j : Nat} {v d : Value} (h : i < vs.length) : (vs.set i v).getD j d = if i = j then v else vs.getD j d := by
  simp only [List.getD_eq_getElem?_getD, List.getElem?_set]
  split
  · rename_i q; subst q; simp [h]
  · rfl
theorem own_wide (cs : List Int32) (d : Value) : ∀ (vs : List Value), vs.length = 2 * cs.length → (∀ j, j < cs.length → vs.getD (2 * j) d = .int (StrChars.lo8 (cs.getD j 0)) ∧ vs.getD (2 * j + 1) d = .int (StrChars.hi8 (cs.getD j 0))) → vs = StrChars.Road.wideBytes cs := by
  induction cs with
  | nil => intro vs h _; simp at h; subst h; rfl
  | cons c r ih =>
    intro vs h q
    match vs, h with
    | a :: b :: t, h =>
      have q0 := q 0 (by simp)
      have e1 : a = .int (StrChars.lo8 c) := by simpa using q0.1
      have e2 : b = .int (StrChars.hi8 c) := by simpa using q0.2
      have e3 : t = StrChars.Road.wideBytes r := ih t (by simp at h; omega) (fun j hj => by
        have := q (j + 1) (by simp; omega)
        have w1 : 2 * (j + 1) = 2 * j + 1 + 1 := by omega
        rw [w1] at this
        simpa using this)
      rw [e1, e2, e3]
      rfl
    | [a], h => simp at h; omega
    | [], h => simp at h

theorem pn_25 : plainName "java/lang/StringUTF16" = true := by first | (simp [plainName, overriddenIn]; done) | decide +kernel
theorem ef_26 (m : MethodId) (x0 : Nat) (x1 : Int32) (x2 : Nat) (x3 : Int32) (x4 : Int32) : entryFrame m #[(.ref x0), (.int x1), (.ref x2), (.int x3), (.int x4)] 7 = mkF m 0 #[.val (.ref x0), .val (.int x1), .val (.ref x2), .val (.int x3), .val (.int x4), .unset, .unset] [] := by first | (simp [entryFrame, mkF, argsToLocals, Value.category]; done) | rfl
theorem d_jdk_52_method_21_0 : decode jdk_52_method_21_code 0 = .ok (.iconst 0, 1) := by decide +kernel
theorem d_jdk_52_method_21_1 : decode jdk_52_method_21_code 1 = .ok (.istore 5, 2) := by decide +kernel
theorem d_jdk_52_method_21_3 : decode jdk_52_method_21_code 3 = .ok (.iload 5, 2) := by decide +kernel
theorem d_jdk_52_method_21_5 : decode jdk_52_method_21_code 5 = .ok (.iload 4, 2) := by decide +kernel
theorem d_jdk_52_method_21_7 : decode jdk_52_method_21_code 7 = .ok (.if_icmp .ge 37, 3) := by decide +kernel
theorem d_jdk_52_method_21_10 : decode jdk_52_method_21_code 10 = .ok (.aload_n 0, 1) := by decide +kernel
theorem d_jdk_52_method_21_11 : decode jdk_52_method_21_code 11 = .ok (.iload_n 1, 1) := by decide +kernel
theorem d_jdk_52_method_21_12 : decode jdk_52_method_21_code 12 = .ok (.caload, 1) := by decide +kernel
theorem d_jdk_52_method_21_13 : decode jdk_52_method_21_code 13 = .ok (.istore 6, 2) := by decide +kernel
theorem d_jdk_52_method_21_15 : decode jdk_52_method_21_code 15 = .ok (.iload 6, 2) := by decide +kernel
theorem d_jdk_52_method_21_17 : decode jdk_52_method_21_code 17 = .ok (.sipush 255, 3) := by decide +kernel
theorem d_jdk_52_method_21_20 : decode jdk_52_method_21_code 20 = .ok (.if_icmp .le 6, 3) := by decide +kernel
theorem d_jdk_52_method_21_23 : decode jdk_52_method_21_code 23 = .ok (.iload 5, 2) := by decide +kernel
theorem d_jdk_52_method_21_25 : decode jdk_52_method_21_code 25 = .ok (.ireturn, 1) := by decide +kernel
theorem d_jdk_52_method_21_26 : decode jdk_52_method_21_code 26 = .ok (.aload_n 2, 1) := by decide +kernel
theorem d_jdk_52_method_21_27 : decode jdk_52_method_21_code 27 = .ok (.iload_n 3, 1) := by decide +kernel
theorem d_jdk_52_method_21_28 : decode jdk_52_method_21_code 28 = .ok (.iload 6, 2) := by decide +kernel
theorem d_jdk_52_method_21_30 : decode jdk_52_method_21_code 30 = .ok (.i2b, 1) := by decide +kernel
theorem d_jdk_52_method_21_31 : decode jdk_52_method_21_code 31 = .ok (.bastore, 1) := by decide +kernel
theorem d_jdk_52_method_21_32 : decode jdk_52_method_21_code 32 = .ok (.iinc 1 1, 3) := by decide +kernel
theorem d_jdk_52_method_21_35 : decode jdk_52_method_21_code 35 = .ok (.iinc 3 1, 3) := by decide +kernel
theorem d_jdk_52_method_21_38 : decode jdk_52_method_21_code 38 = .ok (.iinc 5 1, 3) := by decide +kernel
theorem d_jdk_52_method_21_41 : decode jdk_52_method_21_code 41 = .ok (.goto (-38), 3) := by decide +kernel
def Q_cmp5 (Z : State) (a1 : Nat) (a3 : Nat) (nn : Int32) (cs : List Int32) (k1 : ClassId) (d1 : Value) (k3 : ClassId) (vs3 : List Value) (d3 : Value) (h0 : Heap) (v : Option Value) (h : Heap) (L : List Loc) : Prop := ∃ (f : Nat), ∃ (vs4 : List Value), v = some (.int (Int32.ofNat f)) ∧ Fr Z.heap.size L ∧ Keep h0 h [a3] ∧ Arv Z h a3 k3 .byte nn vs4 d3 ∧ (f < cs.length) ∧ ((255 : Int32) < cs.getD f 0)
set_option maxRecDepth 65536 in
set_option maxHeartbeats 40000000 in
theorem rm_cmp5 (l : Launch) (Z : State) (a0 : Array Value) (hw : ∀ d ∈ tables_1, d.before a0 Z = true) (ws : List Jvm.Cond) (a1 : Nat) (a3 : Nat) (nn : Int32) (cs : List Int32) (k1 : ClassId) (d1 : Value) (k3 : ClassId) (vs3 : List Value) (d3 : Value) (h0 : Heap) (OL : Old Z Z.heap.size h0) (p0_ : Arv Z h0 a1 k1 .char nn (cs.map Value.int) d1) (p1_ : Arv Z h0 a3 k3 .byte nn vs3 d3) (hnn : nn = Int32.ofNat cs.length) (hle : cs.length ≤ 4000) (hbig : ∃ c ∈ cs, (255 : Int32) < c) (hn0 : Z.heap.size ≤ a3) :
    MetFree l (⟨"java/lang/StringUTF16", "compress", "([CI[BII)I"⟩ : MethodName) (head1 (Jvm.Cond.code (⟨"java/lang/StringUTF16", "compress", "([CI[BII)I"⟩ : MethodName) jdk_52_method_21_code 7 (some .int) :: ws) ({ frames := 0, cells := 0, slots := 0, locals := 0 } : Room)) (fun a U => a = #[(.ref a1), (.int (0 : Int32)), (.ref a3), (.int (0 : Int32)), (.int nn)] ∧ Z.Warmed39 U.vm ∧ U.heap = h0) (fun _ _ _ _ _ => True) (fun _ U o U' => ∃ v L, o = .returned v ∧ Q_cmp5 Z a1 a3 nn cs k1 d1 k3 vs3 d3 h0 v U'.heap L ∧ FrameEnd U o U' L ({ frames := 0, cells := 0, slots := 0, locals := 0 } : Room).cells ({ frames := 0, cells := 0, slots := 0, locals := 0 } : Room).slots) := by
  refine MetFree.of_bodySF (plainFor_of_name pn_25) hisR ?_
  intro p e s m args below meth c s₁ Bd hml0 hP hK
  obtain ⟨rfl, hZ, hh⟩ := hP
  have hx := Bd.exec
  have hby := Bd.bytes
  have hml : c.maxLocals = 7 := hml0
  have hown : s.vm.findClass "java/lang/StringUTF16" = some m.cls := findClass_of_methodNamed Bd.named
  have hnm := (name_of_methodNamed Bd.named Bd.method).1
  have X0 : Stand p l e ({ frames := 0, cells := 0, slots := 0, locals := 0 } : Room) s m #[(.ref a1), (.int (0 : Int32)), (.ref a3), (.int (0 : Int32)), (.int nn)] below meth c s₁ [] 0 0 := Stand.of_body Bd
  have e0 : s₁.heap = h0 := by rw [← hh, Bd.state]; rfl
  have N0 := Fr.nil Z.heap.size
  have Z0 : Z.heap.size ≤ h0.size := OL.2.1
  have lt_0 : @LT.lt Nat _ a1 h0.size := p0_.lt
  have lt_1 : @LT.lt Nat _ a3 h0.size := p1_.lt
  obtain ⟨PP, hPP⟩ : ∃ PP : Outcome → State → Prop, PP = (fun o tE => ∃ v L, o = .returned v ∧ Q_cmp5 Z a1 a3 nn cs k1 d1 k3 vs3 d3 h0 v tE.heap L ∧ FrameEnd s o tE L ({ frames := 0, cells := 0, slots := 0, locals := 0 } : Room).cells ({ frames := 0, cells := 0, slots := 0, locals := 0 } : Room).slots) := ⟨_, rfl⟩
  show own_Go p.tables e below (fun o tE => ∃ v L, o = .returned v ∧ Q_cmp5 Z a1 a3 nn cs k1 d1 k3 vs3 d3 h0 v tE.heap L ∧ FrameEnd s o tE L ({ frames := 0, cells := 0, slots := 0, locals := 0 } : Room).cells ({ frames := 0, cells := 0, slots := 0, locals := 0 } : Room).slots) (s₁.setTop (entryFrame m #[(.ref a1), (.int (0 : Int32)), (.ref a3), (.int (0 : Int32)), (.int nn)] 7))
  rw [← hPP]
  refine own_Go.st (fun t k => castTop (ef_26 m a1 (0 : Int32) a3 (0 : Int32) nn) k) ?_
  show own_Go _ _ _ _ (s₁.setTop (mkF m 0 #[.val (.ref a1), .val (.int (0 : Int32)), .val (.ref a3), .val (.int (0 : Int32)), .val (.int nn), .unset, .unset] []))
  refine own_Go.st (fun _ k => XS.iconst X0.here hx rfl (hb hby d_jdk_52_method_21_0) k) ?_
  show own_Go _ _ _ _ (s₁.setTop (mkF m 1 #[.val (.ref a1), .val (.int (0 : Int32)), .val (.ref a3), .val (.int (0 : Int32)), .val (.int nn), .unset, .unset] [(.int (0 : Int32))]))
  refine own_Go.st (fun _ k => XS.istore X0.here hx rfl (hb hby d_jdk_52_method_21_1) rfl (l' := #[.val (.ref a1), .val (.int (0 : Int32)), .val (.ref a3), .val (.int (0 : Int32)), .val (.int nn), .val (.int (0 : Int32)), .unset]) rfl k) ?_
  show own_Go _ _ _ _ (s₁.setTop (mkF m 3 #[.val (.ref a1), .val (.int (0 : Int32)), .val (.ref a3), .val (.int (0 : Int32)), .val (.int nn), .val (.int (0 : Int32)), .unset] []))
  have LP137 : ∀ (nL : Nat) (i : Nat) (s6 : Slot) (vsL : List Value) (TL137 : State) (hL137 : Heap) (lL137 : List Loc), (i ≤ cs.length) → (One s6) → (∀ j, j < i → ¬ (255 : Int32) < cs.getD j 0) → (Stand p l e ({ frames := 0, cells := 0, slots := 0, locals := 0 } : Room) s m #[(.ref a1), (.int (0 : Int32)), (.ref a3), (.int (0 : Int32)), (.int nn)] below meth c TL137 lL137 0 0) → (TL137.heap = hL137) → (Fr Z.heap.size lL137) → (Keep h0 hL137 [a3]) → (Old Z Z.heap.size hL137) → (Arv Z hL137 a1 k1 .char nn (cs.map Value.int) d1) → (Arv Z hL137 a3 k3 .byte nn vsL d3) → cs.length - i = nL → own_Go p.tables e below PP (TL137.setTop (mkF m 3 #[.val (.ref a1), .val (.int (Int32.ofNat i)), .val (.ref a3), .val (.int (Int32.ofNat i)), .val (.int nn), .val (.int (Int32.ofNat i)), s6] [])) := by
    intro nL
    induction nL using Nat.strongRecOn with
    | _ nL ihL =>
      intro i s6 vsL TL137 hL137 lL137 hi hs6 hlow XL137 eL137 NL137 KL137 OL137 fL137_0 fL137_1 hmL
      have zL137 : h0.size ≤ hL137.size := KL137.1
      have ltL137_0 : @LT.lt Nat _ a1 hL137.size := fL137_0.lt
      have ltL137_1 : @LT.lt Nat _ a3 hL137.size := fL137_1.lt
      refine own_Go.st (fun _ k => XS.iload XL137.here hx rfl (hb hby d_jdk_52_method_21_3) rfl k) ?_
      show own_Go _ _ _ _ (TL137.setTop (mkF m 5 #[.val (.ref a1), .val (.int (Int32.ofNat i)), .val (.ref a3), .val (.int (Int32.ofNat i)), .val (.int nn), .val (.int (Int32.ofNat i)), s6] [(.int (Int32.ofNat i))]))
      refine own_Go.st (fun _ k => XS.iload XL137.here hx rfl (hb hby d_jdk_52_method_21_5) rfl k) ?_
      show own_Go _ _ _ _ (TL137.setTop (mkF m 7 #[.val (.ref a1), .val (.int (Int32.ofNat i)), .val (.ref a3), .val (.int (Int32.ofNat i)), .val (.int nn), .val (.int (Int32.ofNat i)), s6] [(.int nn), (.int (Int32.ofNat i))]))
      by_cases h7 : (Int32.ofNat i) < nn
      ·
        refine own_Go.st (fun _ k => XS.icmpNo XL137.here hx rfl (hb hby d_jdk_52_method_21_7) rfl (tlt h7).2.1 k) ?_
        show own_Go _ _ _ _ (TL137.setTop (mkF m 10 #[.val (.ref a1), .val (.int (Int32.ofNat i)), .val (.ref a3), .val (.int (Int32.ofNat i)), .val (.int nn), .val (.int (Int32.ofNat i)), s6] []))
        have hi7 : i < cs.length := (own_oflt (by omega) (by omega)).mp (hnn ▸ h7)
        refine own_Go.st (fun _ k => XS.aloadN XL137.here hx rfl (hb hby d_jdk_52_method_21_10) rfl rfl k) ?_
        show own_Go _ _ _ _ (TL137.setTop (mkF m 11 #[.val (.ref a1), .val (.int (Int32.ofNat i)), .val (.ref a3), .val (.int (Int32.ofNat i)), .val (.int nn), .val (.int (Int32.ofNat i)), s6] [(.ref a1)]))
        refine own_Go.st (fun _ k => XS.iloadN XL137.here hx rfl (hb hby d_jdk_52_method_21_11) rfl k) ?_
        show own_Go _ _ _ _ (TL137.setTop (mkF m 12 #[.val (.ref a1), .val (.int (Int32.ofNat i)), .val (.ref a3), .val (.int (Int32.ofNat i)), .val (.int nn), .val (.int (Int32.ofNat i)), s6] [(.int (Int32.ofNat i)), (.ref a1)]))
        obtain ⟨c138, Ar138, q138, S138, Nn138, H138, G138⟩ := id fL137_0
        have hin138 : ¬ ((Int32.ofNat i) < 0 ∨ c138.slots.size ≤ ((Int32.ofNat i)).toNatClampNeg) := inb_of S138 ⟨own_of0 (by omega), h7⟩
        have hat138 : c138.slots[((Int32.ofNat i)).toNatClampNeg]? = some (.int (cs.getD i 0)) := H138.at hin138 (own_getD hi7 hle _)
        refine own_Go.st (XL137.caload hx (j := (Int32.ofNat i)) (v := (.int (cs.getD i 0))) (by rw [eL137]; exact Ar138.1) (State.isArrayOf_alike hZ.alike Ar138.2.1) Ar138.2.2 hin138 hat138 (g := (mkF m 12 #[.val (.ref a1), .val (.int (Int32.ofNat i)), .val (.ref a3), .val (.int (Int32.ofNat i)), .val (.int nn), .val (.int (Int32.ofNat i)), s6] [(.int (Int32.ofNat i)), (.ref a1)])) rfl rfl (hb hby d_jdk_52_method_21_12)) ?_
        show own_Go _ _ _ _ (TL137.setTop (mkF m 13 #[.val (.ref a1), .val (.int (Int32.ofNat i)), .val (.ref a3), .val (.int (Int32.ofNat i)), .val (.int nn), .val (.int (Int32.ofNat i)), s6] [(.int (cs.getD i 0))]))
        refine own_Go.st (fun _ k => XS.istoreS XL137.here hx rfl (hb hby d_jdk_52_method_21_13) rfl rfl hs6 k) ?_
        show own_Go _ _ _ _ (TL137.setTop (mkF m 15 #[.val (.ref a1), .val (.int (Int32.ofNat i)), .val (.ref a3), .val (.int (Int32.ofNat i)), .val (.int nn), .val (.int (Int32.ofNat i)), .val (.int (cs.getD i 0))] []))
        refine own_Go.st (fun _ k => XS.iload XL137.here hx rfl (hb hby d_jdk_52_method_21_15) rfl k) ?_
        show own_Go _ _ _ _ (TL137.setTop (mkF m 17 #[.val (.ref a1), .val (.int (Int32.ofNat i)), .val (.ref a3), .val (.int (Int32.ofNat i)), .val (.int nn), .val (.int (Int32.ofNat i)), .val (.int (cs.getD i 0))] [(.int (cs.getD i 0))]))
        refine own_Go.st (fun _ k => XS.sipush XL137.here hx rfl (hb hby d_jdk_52_method_21_17) k) ?_
        show own_Go _ _ _ _ (TL137.setTop (mkF m 20 #[.val (.ref a1), .val (.int (Int32.ofNat i)), .val (.ref a3), .val (.int (Int32.ofNat i)), .val (.int nn), .val (.int (Int32.ofNat i)), .val (.int (cs.getD i 0))] [(.int (255 : Int32)), (.int (cs.getD i 0))]))
        by_cases hc139 : (255 : Int32) < (cs.getD i 0)
        ·
          refine own_Go.st (fun _ k => XS.icmpNo XL137.here hx rfl (hb hby d_jdk_52_method_21_20) rfl (tlt hc139).2.2.2 k) ?_
          show own_Go _ _ _ _ (TL137.setTop (mkF m 23 #[.val (.ref a1), .val (.int (Int32.ofNat i)), .val (.ref a3), .val (.int (Int32.ofNat i)), .val (.int nn), .val (.int (Int32.ofNat i)), .val (.int (cs.getD i 0))] []))
          refine own_Go.st (fun _ k => XS.iload XL137.here hx rfl (hb hby d_jdk_52_method_21_23) rfl k) ?_
          show own_Go _ _ _ _ (TL137.setTop (mkF m 25 #[.val (.ref a1), .val (.int (Int32.ofNat i)), .val (.ref a3), .val (.int (Int32.ofNat i)), .val (.int nn), .val (.int (Int32.ofNat i)), .val (.int (cs.getD i 0))] [(.int (Int32.ofNat i))]))
          obtain ⟨fs140, hr140, hrun140, hend140, hW140, hsm140⟩ := XL137.leave (v := some (.int (Int32.ofNat i))) (fun h => by rw [Bd.returns] at h; cases h)
          subst hPP
          refine ⟨_, _, own_retI XL137 hx Bd.returns (hb hby d_jdk_52_method_21_25) hr140, hrun140, hend140, _, _, rfl, ?_, ⟨_, rfl⟩, hW140, hsm140.mono (by decide) (by decide)⟩
          · show Q_cmp5 Z _ _ _ _ _ _ _ _ _ h0 _ TL137.heap _
            rw [eL137]
            exact ⟨i, vsL, rfl, NL137, KL137, fL137_1, hi7, hc139⟩
        ·
          refine own_Go.st (fun _ k => XS.icmpYes XL137.here hx rfl (pc0 := 20) (pc' := 26) rfl (hb hby d_jdk_52_method_21_20) rfl (flt hc139).2.2.2 (by decide) (by decide) k) ?_
          show own_Go _ _ _ _ (TL137.setTop (mkF m 26 #[.val (.ref a1), .val (.int (Int32.ofNat i)), .val (.ref a3), .val (.int (Int32.ofNat i)), .val (.int nn), .val (.int (Int32.ofNat i)), .val (.int (cs.getD i 0))] []))
          refine own_Go.st (fun _ k => XS.aloadN XL137.here hx rfl (hb hby d_jdk_52_method_21_26) rfl rfl k) ?_
          show own_Go _ _ _ _ (TL137.setTop (mkF m 27 #[.val (.ref a1), .val (.int (Int32.ofNat i)), .val (.ref a3), .val (.int (Int32.ofNat i)), .val (.int nn), .val (.int (Int32.ofNat i)), .val (.int (cs.getD i 0))] [(.ref a3)]))
          refine own_Go.st (fun _ k => XS.iloadN XL137.here hx rfl (hb hby d_jdk_52_method_21_27) rfl k) ?_
          show own_Go _ _ _ _ (TL137.setTop (mkF m 28 #[.val (.ref a1), .val (.int (Int32.ofNat i)), .val (.ref a3), .val (.int (Int32.ofNat i)), .val (.int nn), .val (.int (Int32.ofNat i)), .val (.int (cs.getD i 0))] [(.int (Int32.ofNat i)), (.ref a3)]))
          refine own_Go.st (fun _ k => XS.iload XL137.here hx rfl (hb hby d_jdk_52_method_21_28) rfl k) ?_
          show own_Go _ _ _ _ (TL137.setTop (mkF m 30 #[.val (.ref a1), .val (.int (Int32.ofNat i)), .val (.ref a3), .val (.int (Int32.ofNat i)), .val (.int nn), .val (.int (Int32.ofNat i)), .val (.int (cs.getD i 0))] [(.int (cs.getD i 0)), (.int (Int32.ofNat i)), (.ref a3)]))
          refine own_Go.st (fun _ k => XS.i2b XL137.here hx rfl (hb hby d_jdk_52_method_21_30) rfl k) ?_
          show own_Go _ _ _ _ (TL137.setTop (mkF m 31 #[.val (.ref a1), .val (.int (Int32.ofNat i)), .val (.ref a3), .val (.int (Int32.ofNat i)), .val (.int nn), .val (.int (Int32.ofNat i)), .val (.int (cs.getD i 0))] [(.int ((cs.getD i 0).toInt8.toInt32)), (.int (Int32.ofNat i)), (.ref a3)]))
          obtain ⟨c141, Ar141, q141, S141, Nn141, H141, G141⟩ := id fL137_1
          have hin141 : ¬ ((Int32.ofNat i) < 0 ∨ c141.slots.size ≤ ((Int32.ofNat i)).toNatClampNeg) := inb_of S141 ⟨own_of0 (by omega), h7⟩
          obtain ⟨T141, h141, X141, e141, W141, st141⟩ := stB XL137 hx hZ eL137 Ar141 (j := (Int32.ofNat i)) hin141 (g := (mkF m 31 #[.val (.ref a1), .val (.int (Int32.ofNat i)), .val (.ref a3), .val (.int (Int32.ofNat i)), .val (.int nn), .val (.int (Int32.ofNat i)), .val (.int (cs.getD i 0))] [(.int ((cs.getD i 0).toInt8.toInt32)), (.int (Int32.ofNat i)), (.ref a3)])) rfl rfl (hb hby d_jdk_52_method_21_31)
          refine own_Go.st st141 ?_
          have N141 := Fr.snoc X141 NL137 (by omega)
          have z141 : hL137.size ≤ h141.size := Nat.le_of_eq W141.size.symm
          obtain ⟨vs144, f143⟩ := own_arvAny fL137_1 (fits_nar_byte _) ⟨own_of0 (by omega), h7⟩ W141
          show own_Go _ _ _ _ (T141.setTop (mkF m 32 #[.val (.ref a1), .val (.int (Int32.ofNat i)), .val (.ref a3), .val (.int (Int32.ofNat i)), .val (.int nn), .val (.int (Int32.ofNat i)), .val (.int (cs.getD i 0))] []))
          refine own_Go.st (fun _ k => XS.iinc X141.here hx rfl (hb hby d_jdk_52_method_21_32) rfl (l' := #[.val (.ref a1), .val (.int ((Int32.ofNat i) + (1 : Int32))), .val (.ref a3), .val (.int (Int32.ofNat i)), .val (.int nn), .val (.int (Int32.ofNat i)), .val (.int (cs.getD i 0))]) rfl k) ?_
          show own_Go _ _ _ _ (T141.setTop (mkF m 35 #[.val (.ref a1), .val (.int ((Int32.ofNat i) + (1 : Int32))), .val (.ref a3), .val (.int (Int32.ofNat i)), .val (.int nn), .val (.int (Int32.ofNat i)), .val (.int (cs.getD i 0))] []))
          refine own_Go.st (fun _ k => XS.iinc X141.here hx rfl (hb hby d_jdk_52_method_21_35) rfl (l' := #[.val (.ref a1), .val (.int ((Int32.ofNat i) + (1 : Int32))), .val (.ref a3), .val (.int ((Int32.ofNat i) + (1 : Int32))), .val (.int nn), .val (.int (Int32.ofNat i)), .val (.int (cs.getD i 0))]) rfl k) ?_
          show own_Go _ _ _ _ (T141.setTop (mkF m 38 #[.val (.ref a1), .val (.int ((Int32.ofNat i) + (1 : Int32))), .val (.ref a3), .val (.int ((Int32.ofNat i) + (1 : Int32))), .val (.int nn), .val (.int (Int32.ofNat i)), .val (.int (cs.getD i 0))] []))
          refine own_Go.st (fun _ k => XS.iinc X141.here hx rfl (hb hby d_jdk_52_method_21_38) rfl (l' := #[.val (.ref a1), .val (.int ((Int32.ofNat i) + (1 : Int32))), .val (.ref a3), .val (.int ((Int32.ofNat i) + (1 : Int32))), .val (.int nn), .val (.int ((Int32.ofNat i) + (1 : Int32))), .val (.int (cs.getD i 0))]) rfl k) ?_
          show own_Go _ _ _ _ (T141.setTop (mkF m 41 #[.val (.ref a1), .val (.int ((Int32.ofNat i) + (1 : Int32))), .val (.ref a3), .val (.int ((Int32.ofNat i) + (1 : Int32))), .val (.int nn), .val (.int ((Int32.ofNat i) + (1 : Int32))), .val (.int (cs.getD i 0))] []))
          rw [own_ofS (by omega : i < 1073741823)]
          show own_Go _ _ _ _ (T141.setTop (mkF m 41 #[.val (.ref a1), .val (.int (Int32.ofNat (i + 1))), .val (.ref a3), .val (.int (Int32.ofNat (i + 1))), .val (.int nn), .val (.int (Int32.ofNat (i + 1))), .val (.int (cs.getD i 0))] []))
          refine own_Go.st (fun _ k => XS.goto X141.here hx rfl (pc0 := 41) (pc' := 3) rfl (hb hby d_jdk_52_method_21_41) (by decide) (by decide) k) ?_
          show own_Go _ _ _ _ (T141.setTop (mkF m 3 #[.val (.ref a1), .val (.int (Int32.ofNat (i + 1))), .val (.ref a3), .val (.int (Int32.ofNat (i + 1))), .val (.int nn), .val (.int (Int32.ofNat (i + 1))), .val (.int (cs.getD i 0))] []))
          have K145 : Keep h0 h141 [a3] := KL137.wr W141 (Or.inl (List.mem_of_getElem? (i := 0) rfl))
          have f146 : Old Z Z.heap.size h141 := OL137.wr W141 (by omega)
          have f147 : Arv Z h141 a1 k1 .char nn (cs.map Value.int) d1 := fL137_0.other W141 (own_arvTy p0_ p1_ (by decide))
          exact ihL _ (by omega) (i + 1) _ vs144 T141 h141 _ (by omega) (One.val rfl) (fun j hj => by rcases Nat.lt_succ_iff_lt_or_eq.mp hj with q | q; exact hlow j q; exact q ▸ hc139) X141 e141 N141 K145 f146 f147 f143 rfl
      ·
        refine own_Go.st (fun _ k => XS.icmpYes XL137.here hx rfl (pc0 := 7) (pc' := 44) rfl (hb hby d_jdk_52_method_21_7) rfl (flt h7).2.1 (by decide) (by decide) k) ?_
        show own_Go _ _ _ _ (TL137.setTop (mkF m 44 #[.val (.ref a1), .val (.int (Int32.ofNat i)), .val (.ref a3), .val (.int (Int32.ofNat i)), .val (.int nn), .val (.int (Int32.ofNat i)), s6] []))
        exfalso
        obtain ⟨c, hc, hcb⟩ := hbig
        obtain ⟨j, hj, rfl⟩ := List.getElem_of_mem hc
        have h7' : ¬ i < cs.length := fun q => h7 (hnn ▸ (own_oflt (by omega) (by omega)).mpr q)
        exact hlow j (by omega) (by simpa [List.getD_eq_getElem?_getD, hj] using hcb)
  exact LP137 _ 0 .unset vs3 s₁ h0 _ (Nat.zero_le _) One.u (fun j hj => absurd hj (Nat.not_lt_zero j)) X0 e0 N0 (Keep.refl h0 [a3]) OL p0_ p1_ rfl
theorem ef_50 (m : MethodId) (x0 : Nat) (x1 : Int32) (x2 : Int32) : entryFrame m #[(.ref x0), (.int x1), (.int x2)] 3 = mkF m 0 #[.val (.ref x0), .val (.int x1), .val (.int x2)] [] := by first | (simp [entryFrame, mkF, argsToLocals, Value.category]; done) | rfl
theorem d_jdk_52_method_4_0 : decode jdk_52_method_4_code 0 = .ok (.getstatic 44, 3) := by decide +kernel
theorem d_jdk_52_method_4_3 : decode jdk_52_method_4_code 3 = .ok (.ifCond .ne 25, 3) := by decide +kernel
theorem d_jdk_52_method_4_28 : decode jdk_52_method_4_code 28 = .ok (.iload_n 1, 1) := by decide +kernel
theorem d_jdk_52_method_4_29 : decode jdk_52_method_4_code 29 = .ok (.iconst 1, 1) := by decide +kernel
theorem d_jdk_52_method_4_30 : decode jdk_52_method_4_code 30 = .ok (.ishl, 1) := by decide +kernel
theorem d_jdk_52_method_4_31 : decode jdk_52_method_4_code 31 = .ok (.istore_n 1, 1) := by decide +kernel
theorem d_jdk_52_method_4_32 : decode jdk_52_method_4_code 32 = .ok (.aload_n 0, 1) := by decide +kernel
theorem d_jdk_52_method_4_33 : decode jdk_52_method_4_code 33 = .ok (.iload_n 1, 1) := by decide +kernel
theorem d_jdk_52_method_4_34 : decode jdk_52_method_4_code 34 = .ok (.iinc 1 1, 3) := by decide +kernel
theorem d_jdk_52_method_4_37 : decode jdk_52_method_4_code 37 = .ok (.iload_n 2, 1) := by decide +kernel
theorem d_jdk_52_method_4_38 : decode jdk_52_method_4_code 38 = .ok (.getstatic 59, 3) := by decide +kernel
theorem d_jdk_52_method_4_41 : decode jdk_52_method_4_code 41 = .ok (.ishr, 1) := by decide +kernel
theorem d_jdk_52_method_4_42 : decode jdk_52_method_4_code 42 = .ok (.i2b, 1) := by decide +kernel
theorem d_jdk_52_method_4_43 : decode jdk_52_method_4_code 43 = .ok (.bastore, 1) := by decide +kernel
theorem d_jdk_52_method_4_44 : decode jdk_52_method_4_code 44 = .ok (.aload_n 0, 1) := by decide +kernel
theorem d_jdk_52_method_4_45 : decode jdk_52_method_4_code 45 = .ok (.iload_n 1, 1) := by decide +kernel
theorem d_jdk_52_method_4_46 : decode jdk_52_method_4_code 46 = .ok (.iload_n 2, 1) := by decide +kernel
theorem d_jdk_52_method_4_47 : decode jdk_52_method_4_code 47 = .ok (.getstatic 63, 3) := by decide +kernel
theorem d_jdk_52_method_4_50 : decode jdk_52_method_4_code 50 = .ok (.ishr, 1) := by decide +kernel
theorem d_jdk_52_method_4_51 : decode jdk_52_method_4_code 51 = .ok (.i2b, 1) := by decide +kernel
theorem d_jdk_52_method_4_52 : decode jdk_52_method_4_code 52 = .ok (.bastore, 1) := by decide +kernel
theorem d_jdk_52_method_4_53 : decode jdk_52_method_4_code 53 = .ok (.return_, 1) := by decide +kernel
def Q_putc (Z : State) (a1 : Nat) (p2 : Int32) (p3 : Int32) (i : Nat) (k : ClassId) (n : Int32) (vs : List Value) (d : Value) (h0 : Heap) (v : Option Value) (h : Heap) (L : List Loc) : Prop := v = none ∧ Fr Z.heap.size L ∧ Keep h0 h [a1] ∧ Arv Z h a1 k .byte n ((vs.set (2 * i) (.int (StrChars.lo8 p3))).set (2 * i + 1) (.int (StrChars.hi8 p3))) d
set_option maxRecDepth 65536 in
set_option maxHeartbeats 40000000 in
theorem rm_putc (l : Launch) (Z : State) (a0 : Array Value) (hw : ∀ d ∈ tables_1, d.before a0 Z = true) (ws : List Jvm.Cond) (a1 : Nat) (p2 : Int32) (p3 : Int32) (i : Nat) (k : ClassId) (n : Int32) (vs : List Value) (d : Value) (h0 : Heap) (OL : Old Z Z.heap.size h0) (p0_ : Arv Z h0 a1 k .byte n vs d) (st__assertionsDisabled : Sta Z Z.heap "java/lang/StringUTF16" "$assertionsDisabled" "Z" (.int (1 : Int32))) (st_HI_BYTE_SHIFT : Sta Z Z.heap "java/lang/StringUTF16" "HI_BYTE_SHIFT" "I" (.int (0 : Int32))) (st_LO_BYTE_SHIFT : Sta Z Z.heap "java/lang/StringUTF16" "LO_BYTE_SHIFT" "I" (.int (8 : Int32))) (hp2 : p2 = Int32.ofNat i) (hin : 2 * i + 1 < vs.length) (hvl : n = Int32.ofNat vs.length) (hvs : vs.length ≤ 8000) (hn0 : Z.heap.size ≤ a1) :
    MetFree l (⟨"java/lang/StringUTF16", "putChar", "([BII)V"⟩ : MethodName) (head1 (Jvm.Cond.code (⟨"java/lang/StringUTF16", "putChar", "([BII)V"⟩ : MethodName) jdk_52_method_4_code 3 none :: ws) ({ frames := 0, cells := 0, slots := 0, locals := 0 } : Room)) (fun a U => a = #[(.ref a1), (.int p2), (.int p3)] ∧ Z.Warmed39 U.vm ∧ U.heap = h0) (fun _ _ _ _ _ => True) (fun _ U o U' => ∃ v L, o = .returned v ∧ Q_putc Z a1 p2 p3 i k n vs d h0 v U'.heap L ∧ FrameEnd U o U' L ({ frames := 0, cells := 0, slots := 0, locals := 0 } : Room).cells ({ frames := 0, cells := 0, slots := 0, locals := 0 } : Room).slots) := by
  refine MetFree.of_bodySF (plainFor_of_name pn_25) hisR ?_
  intro p e s m args below meth c s₁ Bd hml0 hP hK
  obtain ⟨rfl, hZ, hh⟩ := hP
  have hx := Bd.exec
  have hby := Bd.bytes
  have hml : c.maxLocals = 3 := hml0
  have hown : s.vm.findClass "java/lang/StringUTF16" = some m.cls := findClass_of_methodNamed Bd.named
  have hnm := (name_of_methodNamed Bd.named Bd.method).1
  have X0 : Stand p l e ({ frames := 0, cells := 0, slots := 0, locals := 0 } : Room) s m #[(.ref a1), (.int p2), (.int p3)] below meth c s₁ [] 0 0 := Stand.of_body Bd
  have e0 : s₁.heap = h0 := by rw [← hh, Bd.state]; rfl
  have N0 := Fr.nil Z.heap.size
  have Z0 : Z.heap.size ≤ h0.size := OL.2.1
  have lt_0 : @LT.lt Nat _ a1 h0.size := p0_.lt
  obtain ⟨PP, hPP⟩ : ∃ PP : Outcome → State → Prop, PP = (fun o tE => ∃ v L, o = .returned v ∧ Q_putc Z a1 p2 p3 i k n vs d h0 v tE.heap L ∧ FrameEnd s o tE L ({ frames := 0, cells := 0, slots := 0, locals := 0 } : Room).cells ({ frames := 0, cells := 0, slots := 0, locals := 0 } : Room).slots) := ⟨_, rfl⟩
  show own_Go p.tables e below (fun o tE => ∃ v L, o = .returned v ∧ Q_putc Z a1 p2 p3 i k n vs d h0 v tE.heap L ∧ FrameEnd s o tE L ({ frames := 0, cells := 0, slots := 0, locals := 0 } : Room).cells ({ frames := 0, cells := 0, slots := 0, locals := 0 } : Room).slots) (s₁.setTop (entryFrame m #[(.ref a1), (.int p2), (.int p3)] 3))
  rw [← hPP]
  refine own_Go.st (fun t k => castTop (ef_50 m a1 p2 p3) k) ?_
  subst hp2
  show own_Go _ _ _ _ (s₁.setTop (mkF m 0 #[.val (.ref a1), .val (.int (Int32.ofNat i)), .val (.int p3)] []))
  obtain ⟨T148, X148, e148, st148⟩ := getS2 X0 hx hZ hown (host := "") (Or.inl (hw _ (List.mem_of_getElem? (i := 68) rfl))) Via.refl e0 (st__assertionsDisabled.ext OL.2) (g := (mkF m 0 #[.val (.ref a1), .val (.int (Int32.ofNat i)), .val (.int p3)] [])) rfl (hb hby d_jdk_52_method_4_0)
  refine own_Go.st st148 ?_
  show own_Go _ _ _ _ (T148.setTop (mkF m 3 #[.val (.ref a1), .val (.int (Int32.ofNat i)), .val (.int p3)] [(.int (1 : Int32))]))
  refine own_Go.st (fun _ k => XS.ifYes X148.here hx rfl (pc0 := 3) (pc' := 28) rfl (hb hby d_jdk_52_method_4_3) rfl ((if0 _ _).trans (feq (by decide : ¬ ((1 : Int32) = (0 : Int32)))).2) (by decide) (by decide) k) ?_
  show own_Go _ _ _ _ (T148.setTop (mkF m 28 #[.val (.ref a1), .val (.int (Int32.ofNat i)), .val (.int p3)] []))
  refine own_Go.st (fun _ k => XS.iloadN X148.here hx rfl (hb hby d_jdk_52_method_4_28) rfl k) ?_
  show own_Go _ _ _ _ (T148.setTop (mkF m 29 #[.val (.ref a1), .val (.int (Int32.ofNat i)), .val (.int p3)] [(.int (Int32.ofNat i))]))
  refine own_Go.st (fun _ k => XS.iconst X148.here hx rfl (hb hby d_jdk_52_method_4_29) k) ?_
  show own_Go _ _ _ _ (T148.setTop (mkF m 30 #[.val (.ref a1), .val (.int (Int32.ofNat i)), .val (.int p3)] [(.int (1 : Int32)), (.int (Int32.ofNat i))]))
  refine own_Go.st (fun _ k => XS.ishl X148.here hx rfl (hb hby d_jdk_52_method_4_30) rfl k) ?_
  show own_Go _ _ _ _ (T148.setTop (mkF m 31 #[.val (.ref a1), .val (.int (Int32.ofNat i)), .val (.int p3)] [(.int ((Int32.ofNat i) <<< ((1 : Int32) &&& 31)))]))
  refine own_Go.st (fun _ k => XS.istoreN X148.here hx rfl (hb hby d_jdk_52_method_4_31) rfl (l' := #[.val (.ref a1), .val (.int ((Int32.ofNat i) <<< ((1 : Int32) &&& 31))), .val (.int p3)]) rfl k) ?_
  show own_Go _ _ _ _ (T148.setTop (mkF m 32 #[.val (.ref a1), .val (.int ((Int32.ofNat i) <<< ((1 : Int32) &&& 31))), .val (.int p3)] []))
  rw [own_shl1 (by omega : i < 1000000)]
  show own_Go _ _ _ _ (T148.setTop (mkF m 32 #[.val (.ref a1), .val (.int (Int32.ofNat (2 * i))), .val (.int p3)] []))
  refine own_Go.st (fun _ k => XS.aloadN X148.here hx rfl (hb hby d_jdk_52_method_4_32) rfl rfl k) ?_
  show own_Go _ _ _ _ (T148.setTop (mkF m 33 #[.val (.ref a1), .val (.int (Int32.ofNat (2 * i))), .val (.int p3)] [(.ref a1)]))
  refine own_Go.st (fun _ k => XS.iloadN X148.here hx rfl (hb hby d_jdk_52_method_4_33) rfl k) ?_
  show own_Go _ _ _ _ (T148.setTop (mkF m 34 #[.val (.ref a1), .val (.int (Int32.ofNat (2 * i))), .val (.int p3)] [(.int (Int32.ofNat (2 * i))), (.ref a1)]))
  refine own_Go.st (fun _ k => XS.iinc X148.here hx rfl (hb hby d_jdk_52_method_4_34) rfl (l' := #[.val (.ref a1), .val (.int ((Int32.ofNat (2 * i)) + (1 : Int32))), .val (.int p3)]) rfl k) ?_
  show own_Go _ _ _ _ (T148.setTop (mkF m 37 #[.val (.ref a1), .val (.int ((Int32.ofNat (2 * i)) + (1 : Int32))), .val (.int p3)] [(.int (Int32.ofNat (2 * i))), (.ref a1)]))
  rw [own_ofS (by omega : 2 * i < 1073741823)]
  show own_Go _ _ _ _ (T148.setTop (mkF m 37 #[.val (.ref a1), .val (.int (Int32.ofNat (2 * i + 1))), .val (.int p3)] [(.int (Int32.ofNat (2 * i))), (.ref a1)]))
  refine own_Go.st (fun _ k => XS.iloadN X148.here hx rfl (hb hby d_jdk_52_method_4_37) rfl k) ?_
  show own_Go _ _ _ _ (T148.setTop (mkF m 38 #[.val (.ref a1), .val (.int (Int32.ofNat (2 * i + 1))), .val (.int p3)] [(.int p3), (.int (Int32.ofNat (2 * i))), (.ref a1)]))
  obtain ⟨T149, X149, e149, st149⟩ := getS2 X148 hx hZ hown (host := "") (Or.inl (hw _ (List.mem_of_getElem? (i := 69) rfl))) Via.refl e148 (st_HI_BYTE_SHIFT.ext OL.2) (g := (mkF m 38 #[.val (.ref a1), .val (.int (Int32.ofNat (2 * i + 1))), .val (.int p3)] [(.int p3), (.int (Int32.ofNat (2 * i))), (.ref a1)])) rfl (hb hby d_jdk_52_method_4_38)
  refine own_Go.st st149 ?_
  show own_Go _ _ _ _ (T149.setTop (mkF m 41 #[.val (.ref a1), .val (.int (Int32.ofNat (2 * i + 1))), .val (.int p3)] [(.int (0 : Int32)), (.int p3), (.int (Int32.ofNat (2 * i))), (.ref a1)]))
  refine own_Go.st (fun _ k => XS.ishr X149.here hx rfl (hb hby d_jdk_52_method_4_41) rfl k) ?_
  show own_Go _ _ _ _ (T149.setTop (mkF m 42 #[.val (.ref a1), .val (.int (Int32.ofNat (2 * i + 1))), .val (.int p3)] [(.int (p3 >>> ((0 : Int32) &&& 31))), (.int (Int32.ofNat (2 * i))), (.ref a1)]))
  refine own_Go.st (fun _ k => XS.i2b X149.here hx rfl (hb hby d_jdk_52_method_4_42) rfl k) ?_
  show own_Go _ _ _ _ (T149.setTop (mkF m 43 #[.val (.ref a1), .val (.int (Int32.ofNat (2 * i + 1))), .val (.int p3)] [(.int ((p3 >>> ((0 : Int32) &&& 31)).toInt8.toInt32)), (.int (Int32.ofNat (2 * i))), (.ref a1)]))
  obtain ⟨c150, Ar150, q150, S150, Nn150, H150, G150⟩ := id p0_
  have hin150 : ¬ ((Int32.ofNat (2 * i)) < 0 ∨ c150.slots.size ≤ ((Int32.ofNat (2 * i))).toNatClampNeg) := inb_of S150 ⟨own_of0 (by omega), by rw [hvl]; exact (own_oflt (by omega) (by omega)).mpr (by omega)⟩
  obtain ⟨T150, h150, X150, e150, W150, st150⟩ := stB X149 hx hZ e149 Ar150 (j := (Int32.ofNat (2 * i))) hin150 (g := (mkF m 43 #[.val (.ref a1), .val (.int (Int32.ofNat (2 * i + 1))), .val (.int p3)] [(.int ((p3 >>> ((0 : Int32) &&& 31)).toInt8.toInt32)), (.int (Int32.ofNat (2 * i))), (.ref a1)])) rfl rfl (hb hby d_jdk_52_method_4_43)
  refine own_Go.st st150 ?_
  have N150 := Fr.snoc X150 N0 (by omega)
  have z150 : h0.size ≤ h150.size := Nat.le_of_eq W150.size.symm
  have f152 := Arv.set Ar150 q150 S150 Nn150 H150 G150 (fits_nar_byte _) W150 (2 * i) (own_ofn (by omega)) (by (try simp only [List.length_set]); omega)
  rw [own_i2b2, StrChars.shr0] at f152
  have f153 : Arv Z h150 a1 k .byte n (vs.set (2 * i) (.int (StrChars.lo8 p3))) d := f152
  show own_Go _ _ _ _ (T150.setTop (mkF m 44 #[.val (.ref a1), .val (.int (Int32.ofNat (2 * i + 1))), .val (.int p3)] []))
  refine own_Go.st (fun _ k => XS.aloadN X150.here hx rfl (hb hby d_jdk_52_method_4_44) rfl rfl k) ?_
  show own_Go _ _ _ _ (T150.setTop (mkF m 45 #[.val (.ref a1), .val (.int (Int32.ofNat (2 * i + 1))), .val (.int p3)] [(.ref a1)]))
  refine own_Go.st (fun _ k => XS.iloadN X150.here hx rfl (hb hby d_jdk_52_method_4_45) rfl k) ?_
  show own_Go _ _ _ _ (T150.setTop (mkF m 46 #[.val (.ref a1), .val (.int (Int32.ofNat (2 * i + 1))), .val (.int p3)] [(.int (Int32.ofNat (2 * i + 1))), (.ref a1)]))
  refine own_Go.st (fun _ k => XS.iloadN X150.here hx rfl (hb hby d_jdk_52_method_4_46) rfl k) ?_
  show own_Go _ _ _ _ (T150.setTop (mkF m 47 #[.val (.ref a1), .val (.int (Int32.ofNat (2 * i + 1))), .val (.int p3)] [(.int p3), (.int (Int32.ofNat (2 * i + 1))), (.ref a1)]))
  have f154 : Old Z Z.heap.size h150 := OL.wr W150 (by omega)
  obtain ⟨T155, X155, e155, st155⟩ := getS2 X150 hx hZ hown (host := "") (Or.inl (hw _ (List.mem_of_getElem? (i := 70) rfl))) Via.refl e150 (st_LO_BYTE_SHIFT.ext f154.2) (g := (mkF m 47 #[.val (.ref a1), .val (.int (Int32.ofNat (2 * i + 1))), .val (.int p3)] [(.int p3), (.int (Int32.ofNat (2 * i + 1))), (.ref a1)])) rfl (hb hby d_jdk_52_method_4_47)
  refine own_Go.st st155 ?_
  show own_Go _ _ _ _ (T155.setTop (mkF m 50 #[.val (.ref a1), .val (.int (Int32.ofNat (2 * i + 1))), .val (.int p3)] [(.int (8 : Int32)), (.int p3), (.int (Int32.ofNat (2 * i + 1))), (.ref a1)]))
  refine own_Go.st (fun _ k => XS.ishr X155.here hx rfl (hb hby d_jdk_52_method_4_50) rfl k) ?_
  show own_Go _ _ _ _ (T155.setTop (mkF m 51 #[.val (.ref a1), .val (.int (Int32.ofNat (2 * i + 1))), .val (.int p3)] [(.int (p3 >>> ((8 : Int32) &&& 31))), (.int (Int32.ofNat (2 * i + 1))), (.ref a1)]))
  refine own_Go.st (fun _ k => XS.i2b X155.here hx rfl (hb hby d_jdk_52_method_4_51) rfl k) ?_
  show own_Go _ _ _ _ (T155.setTop (mkF m 52 #[.val (.ref a1), .val (.int (Int32.ofNat (2 * i + 1))), .val (.int p3)] [(.int ((p3 >>> ((8 : Int32) &&& 31)).toInt8.toInt32)), (.int (Int32.ofNat (2 * i + 1))), (.ref a1)]))
  obtain ⟨c156, Ar156, q156, S156, Nn156, H156, G156⟩ := id f153
  have hin156 : ¬ ((Int32.ofNat (2 * i + 1)) < 0 ∨ c156.slots.size ≤ ((Int32.ofNat (2 * i + 1))).toNatClampNeg) := inb_of S156 ⟨own_of0 (by omega), by rw [hvl]; exact (own_oflt (by omega) (by omega)).mpr (by omega)⟩
  obtain ⟨T156, h156, X156, e156, W156, st156⟩ := stB X155 hx hZ e155 Ar156 (j := (Int32.ofNat (2 * i + 1))) hin156 (g := (mkF m 52 #[.val (.ref a1), .val (.int (Int32.ofNat (2 * i + 1))), .val (.int p3)] [(.int ((p3 >>> ((8 : Int32) &&& 31)).toInt8.toInt32)), (.int (Int32.ofNat (2 * i + 1))), (.ref a1)])) rfl rfl (hb hby d_jdk_52_method_4_52)
  refine own_Go.st st156 ?_
  have N156 := Fr.snoc X156 N150 (by omega)
  have z156 : h150.size ≤ h156.size := Nat.le_of_eq W156.size.symm
  have f158 := Arv.set Ar156 q156 S156 Nn156 H156 G156 (fits_nar_byte _) W156 (2 * i + 1) (own_ofn (by omega)) (by (try simp only [List.length_set]); omega)
  rw [own_i2b2] at f158
  have f159 : Arv Z h156 a1 k .byte n ((vs.set (2 * i) (.int (StrChars.lo8 p3))).set (2 * i + 1) (.int (StrChars.hi8 p3))) d := f158
  show own_Go _ _ _ _ (T156.setTop (mkF m 53 #[.val (.ref a1), .val (.int (Int32.ofNat (2 * i + 1))), .val (.int p3)] []))
  obtain ⟨fs160, hr160, hrun160, hend160, hW160, hsm160⟩ := X156.leave (v := none) (fun _ => rfl)
  have K161 : Keep h0 h150 [a1] := (Keep.refl h0 [a1]).wr W150 (Or.inl (List.mem_of_getElem? (i := 0) rfl))
  have K162 : Keep h0 h156 [a1] := K161.wr W156 (Or.inl (List.mem_of_getElem? (i := 0) rfl))
  subst hPP
  refine ⟨_, _, X156.returnOut hx Bd.returns (hb hby d_jdk_52_method_4_53) hr160, hrun160, hend160, _, _, rfl, ?_, ⟨_, rfl⟩, hW160, hsm160.mono (by decide) (by decide)⟩
  · show Q_putc Z _ _ _ _ _ _ _ _ h0 _ T156.heap _
    rw [e156]
    exact ⟨rfl, N156, K162, f159⟩
theorem ef_73 (m : MethodId) (x0 : Nat) (x1 : Int32) : entryFrame m #[(.ref x0), (.int x1)] 2 = mkF m 0 #[.val (.ref x0), .val (.int x1)] [] := by first | (simp [entryFrame, mkF, argsToLocals, Value.category]; done) | rfl
theorem d_jdk_52_method_5_0 : decode jdk_52_method_5_code 0 = .ok (.getstatic 44, 3) := by decide +kernel
theorem d_jdk_52_method_5_3 : decode jdk_52_method_5_code 3 = .ok (.ifCond .ne 25, 3) := by decide +kernel
theorem d_jdk_52_method_5_28 : decode jdk_52_method_5_code 28 = .ok (.iload_n 1, 1) := by decide +kernel
theorem d_jdk_52_method_5_29 : decode jdk_52_method_5_code 29 = .ok (.iconst 1, 1) := by decide +kernel
theorem d_jdk_52_method_5_30 : decode jdk_52_method_5_code 30 = .ok (.ishl, 1) := by decide +kernel
theorem d_jdk_52_method_5_31 : decode jdk_52_method_5_code 31 = .ok (.istore_n 1, 1) := by decide +kernel
theorem d_jdk_52_method_5_32 : decode jdk_52_method_5_code 32 = .ok (.aload_n 0, 1) := by decide +kernel
theorem d_jdk_52_method_5_33 : decode jdk_52_method_5_code 33 = .ok (.iload_n 1, 1) := by decide +kernel
theorem d_jdk_52_method_5_34 : decode jdk_52_method_5_code 34 = .ok (.iinc 1 1, 3) := by decide +kernel
theorem d_jdk_52_method_5_37 : decode jdk_52_method_5_code 37 = .ok (.baload, 1) := by decide +kernel
theorem d_jdk_52_method_5_38 : decode jdk_52_method_5_code 38 = .ok (.sipush 255, 3) := by decide +kernel
theorem d_jdk_52_method_5_41 : decode jdk_52_method_5_code 41 = .ok (.iand, 1) := by decide +kernel
theorem d_jdk_52_method_5_42 : decode jdk_52_method_5_code 42 = .ok (.getstatic 59, 3) := by decide +kernel
theorem d_jdk_52_method_5_45 : decode jdk_52_method_5_code 45 = .ok (.ishl, 1) := by decide +kernel
theorem d_jdk_52_method_5_46 : decode jdk_52_method_5_code 46 = .ok (.aload_n 0, 1) := by decide +kernel
theorem d_jdk_52_method_5_47 : decode jdk_52_method_5_code 47 = .ok (.iload_n 1, 1) := by decide +kernel
theorem d_jdk_52_method_5_48 : decode jdk_52_method_5_code 48 = .ok (.baload, 1) := by decide +kernel
theorem d_jdk_52_method_5_49 : decode jdk_52_method_5_code 49 = .ok (.sipush 255, 3) := by decide +kernel
theorem d_jdk_52_method_5_52 : decode jdk_52_method_5_code 52 = .ok (.iand, 1) := by decide +kernel
theorem d_jdk_52_method_5_53 : decode jdk_52_method_5_code 53 = .ok (.getstatic 63, 3) := by decide +kernel
theorem d_jdk_52_method_5_56 : decode jdk_52_method_5_code 56 = .ok (.ishl, 1) := by decide +kernel
theorem d_jdk_52_method_5_57 : decode jdk_52_method_5_code 57 = .ok (.ior, 1) := by decide +kernel
theorem d_jdk_52_method_5_58 : decode jdk_52_method_5_code 58 = .ok (.i2c, 1) := by decide +kernel
theorem d_jdk_52_method_5_59 : decode jdk_52_method_5_code 59 = .ok (.ireturn, 1) := by decide +kernel
def Q_getc (Z : State) (a1 : Nat) (p2 : Int32) (i : Nat) (k : ClassId) (n : Int32) (vs : List Value) (d : Value) (ch : Int32) (h0 : Heap) (v : Option Value) (h : Heap) (L : List Loc) : Prop := v = some (.int ch) ∧ Fr Z.heap.size L ∧ h = h0
set_option maxRecDepth 65536 in
set_option maxHeartbeats 40000000 in
theorem rm_getc (l : Launch) (Z : State) (a0 : Array Value) (hw : ∀ d ∈ tables_1, d.before a0 Z = true) (ws : List Jvm.Cond) (a1 : Nat) (p2 : Int32) (i : Nat) (k : ClassId) (n : Int32) (vs : List Value) (d : Value) (ch : Int32) (h0 : Heap) (OL : Old Z Z.heap.size h0) (p0_ : Arv Z h0 a1 k .byte n vs d) (st__assertionsDisabled : Sta Z Z.heap "java/lang/StringUTF16" "$assertionsDisabled" "Z" (.int (1 : Int32))) (st_HI_BYTE_SHIFT : Sta Z Z.heap "java/lang/StringUTF16" "HI_BYTE_SHIFT" "I" (.int (0 : Int32))) (st_LO_BYTE_SHIFT : Sta Z Z.heap "java/lang/StringUTF16" "LO_BYTE_SHIFT" "I" (.int (8 : Int32))) (hp2 : p2 = Int32.ofNat i) (hin : 2 * i + 1 < vs.length) (hvl : n = Int32.ofNat vs.length) (hvs : vs.length ≤ 8000) (hlo : vs.getD (2 * i) d = .int (StrChars.lo8 ch)) (hhi : vs.getD (2 * i + 1) d = .int (StrChars.hi8 ch)) (hch : ¬ ch < 0 ∧ ¬ (65535 : Int32) < ch) :
    MetFree l (⟨"java/lang/StringUTF16", "getChar", "([BI)C"⟩ : MethodName) (head1 (Jvm.Cond.code (⟨"java/lang/StringUTF16", "getChar", "([BI)C"⟩ : MethodName) jdk_52_method_5_code 2 (some .char) :: ws) ({ frames := 0, cells := 0, slots := 0, locals := 0 } : Room)) (fun a U => a = #[(.ref a1), (.int p2)] ∧ Z.Warmed39 U.vm ∧ U.heap = h0) (fun _ _ _ _ _ => True) (fun _ U o U' => ∃ v L, o = .returned v ∧ Q_getc Z a1 p2 i k n vs d ch h0 v U'.heap L ∧ FrameEnd U o U' L ({ frames := 0, cells := 0, slots := 0, locals := 0 } : Room).cells ({ frames := 0, cells := 0, slots := 0, locals := 0 } : Room).slots) := by
  refine MetFree.of_bodySF (plainFor_of_name pn_25) hisR ?_
  intro p e s m args below meth c s₁ Bd hml0 hP hK
  obtain ⟨rfl, hZ, hh⟩ := hP
  have hx := Bd.exec
  have hby := Bd.bytes
  have hml : c.maxLocals = 2 := hml0
  have hown : s.vm.findClass "java/lang/StringUTF16" = some m.cls := findClass_of_methodNamed Bd.named
  have hnm := (name_of_methodNamed Bd.named Bd.method).1
  have X0 : Stand p l e ({ frames := 0, cells := 0, slots := 0, locals := 0 } : Room) s m #[(.ref a1), (.int p2)] below meth c s₁ [] 0 0 := Stand.of_body Bd
  have e0 : s₁.heap = h0 := by rw [← hh, Bd.state]; rfl
  have N0 := Fr.nil Z.heap.size
  have Z0 : Z.heap.size ≤ h0.size := OL.2.1
  have lt_0 : @LT.lt Nat _ a1 h0.size := p0_.lt
  obtain ⟨PP, hPP⟩ : ∃ PP : Outcome → State → Prop, PP = (fun o tE => ∃ v L, o = .returned v ∧ Q_getc Z a1 p2 i k n vs d ch h0 v tE.heap L ∧ FrameEnd s o tE L ({ frames := 0, cells := 0, slots := 0, locals := 0 } : Room).cells ({ frames := 0, cells := 0, slots := 0, locals := 0 } : Room).slots) := ⟨_, rfl⟩
  show own_Go p.tables e below (fun o tE => ∃ v L, o = .returned v ∧ Q_getc Z a1 p2 i k n vs d ch h0 v tE.heap L ∧ FrameEnd s o tE L ({ frames := 0, cells := 0, slots := 0, locals := 0 } : Room).cells ({ frames := 0, cells := 0, slots := 0, locals := 0 } : Room).slots) (s₁.setTop (entryFrame m #[(.ref a1), (.int p2)] 2))
  rw [← hPP]
  refine own_Go.st (fun t k => castTop (ef_73 m a1 p2) k) ?_
  subst hp2
  show own_Go _ _ _ _ (s₁.setTop (mkF m 0 #[.val (.ref a1), .val (.int (Int32.ofNat i))] []))
  obtain ⟨T163, X163, e163, st163⟩ := getS2 X0 hx hZ hown (host := "") (Or.inl (hw _ (List.mem_of_getElem? (i := 68) rfl))) Via.refl e0 (st__assertionsDisabled.ext OL.2) (g := (mkF m 0 #[.val (.ref a1), .val (.int (Int32.ofNat i))] [])) rfl (hb hby d_jdk_52_method_5_0)
  refine own_Go.st st163 ?_
  show own_Go _ _ _ _ (T163.setTop (mkF m 3 #[.val (.ref a1), .val (.int (Int32.ofNat i))] [(.int (1 : Int32))]))
  refine own_Go.st (fun _ k => XS.ifYes X163.here hx rfl (pc0 := 3) (pc' := 28) rfl (hb hby d_jdk_52_method_5_3) rfl ((if0 _ _).trans (feq (by decide : ¬ ((1 : Int32) = (0 : Int32)))).2) (by decide) (by decide) k) ?_
  show own_Go _ _ _ _ (T163.setTop (mkF m 28 #[.val (.ref a1), .val (.int (Int32.ofNat i))] []))
  refine own_Go.st (fun _ k => XS.iloadN X163.here hx rfl (hb hby d_jdk_52_method_5_28) rfl k) ?_
  show own_Go _ _ _ _ (T163.setTop (mkF m 29 #[.val (.ref a1), .val (.int (Int32.ofNat i))] [(.int (Int32.ofNat i))]))
  refine own_Go.st (fun _ k => XS.iconst X163.here hx rfl (hb hby d_jdk_52_method_5_29) k) ?_
  show own_Go _ _ _ _ (T163.setTop (mkF m 30 #[.val (.ref a1), .val (.int (Int32.ofNat i))] [(.int (1 : Int32)), (.int (Int32.ofNat i))]))
  refine own_Go.st (fun _ k => XS.ishl X163.here hx rfl (hb hby d_jdk_52_method_5_30) rfl k) ?_
  show own_Go _ _ _ _ (T163.setTop (mkF m 31 #[.val (.ref a1), .val (.int (Int32.ofNat i))] [(.int ((Int32.ofNat i) <<< ((1 : Int32) &&& 31)))]))
  refine own_Go.st (fun _ k => XS.istoreN X163.here hx rfl (hb hby d_jdk_52_method_5_31) rfl (l' := #[.val (.ref a1), .val (.int ((Int32.ofNat i) <<< ((1 : Int32) &&& 31)))]) rfl k) ?_
  show own_Go _ _ _ _ (T163.setTop (mkF m 32 #[.val (.ref a1), .val (.int ((Int32.ofNat i) <<< ((1 : Int32) &&& 31)))] []))
  rw [own_shl1 (by omega : i < 1000000)]
  show own_Go _ _ _ _ (T163.setTop (mkF m 32 #[.val (.ref a1), .val (.int (Int32.ofNat (2 * i)))] []))
  refine own_Go.st (fun _ k => XS.aloadN X163.here hx rfl (hb hby d_jdk_52_method_5_32) rfl rfl k) ?_
  show own_Go _ _ _ _ (T163.setTop (mkF m 33 #[.val (.ref a1), .val (.int (Int32.ofNat (2 * i)))] [(.ref a1)]))
  refine own_Go.st (fun _ k => XS.iloadN X163.here hx rfl (hb hby d_jdk_52_method_5_33) rfl k) ?_
  show own_Go _ _ _ _ (T163.setTop (mkF m 34 #[.val (.ref a1), .val (.int (Int32.ofNat (2 * i)))] [(.int (Int32.ofNat (2 * i))), (.ref a1)]))
  refine own_Go.st (fun _ k => XS.iinc X163.here hx rfl (hb hby d_jdk_52_method_5_34) rfl (l' := #[.val (.ref a1), .val (.int ((Int32.ofNat (2 * i)) + (1 : Int32)))]) rfl k) ?_
  show own_Go _ _ _ _ (T163.setTop (mkF m 37 #[.val (.ref a1), .val (.int ((Int32.ofNat (2 * i)) + (1 : Int32)))] [(.int (Int32.ofNat (2 * i))), (.ref a1)]))
  rw [own_ofS (by omega : 2 * i < 1073741823)]
  show own_Go _ _ _ _ (T163.setTop (mkF m 37 #[.val (.ref a1), .val (.int (Int32.ofNat (2 * i + 1)))] [(.int (Int32.ofNat (2 * i))), (.ref a1)]))
  obtain ⟨c164, Ar164, q164, S164, Nn164, H164, G164⟩ := id p0_
  have hin164 : ¬ ((Int32.ofNat (2 * i)) < 0 ∨ c164.slots.size ≤ ((Int32.ofNat (2 * i))).toNatClampNeg) := inb_of S164 ⟨own_of0 (by omega), by rw [hvl]; exact (own_oflt (by omega) (by omega)).mpr (by omega)⟩
  have hat164 : c164.slots[((Int32.ofNat (2 * i))).toNatClampNeg]? = some (.int (StrChars.lo8 ch)) := H164.at hin164 (by rw [own_ofn (by omega)]; exact hlo)
  refine own_Go.st (X163.baloadBytes hx (j := (Int32.ofNat (2 * i))) (v := (.int (StrChars.lo8 ch))) (by rw [e163]; exact Ar164.1) (State.isArrayOf_alike hZ.alike Ar164.2.1) Ar164.2.2 hin164 hat164 (g := (mkF m 37 #[.val (.ref a1), .val (.int (Int32.ofNat (2 * i + 1)))] [(.int (Int32.ofNat (2 * i))), (.ref a1)])) rfl rfl (hb hby d_jdk_52_method_5_37)) ?_
  show own_Go _ _ _ _ (T163.setTop (mkF m 38 #[.val (.ref a1), .val (.int (Int32.ofNat (2 * i + 1)))] [(.int (StrChars.lo8 ch))]))
  refine own_Go.st (fun _ k => XS.sipush X163.here hx rfl (hb hby d_jdk_52_method_5_38) k) ?_
  show own_Go _ _ _ _ (T163.setTop (mkF m 41 #[.val (.ref a1), .val (.int (Int32.ofNat (2 * i + 1)))] [(.int (255 : Int32)), (.int (StrChars.lo8 ch))]))
  refine own_Go.st (fun _ k => XS.iand X163.here hx rfl (hb hby d_jdk_52_method_5_41) rfl k) ?_
  show own_Go _ _ _ _ (T163.setTop (mkF m 42 #[.val (.ref a1), .val (.int (Int32.ofNat (2 * i + 1)))] [(.int ((StrChars.lo8 ch) &&& (255 : Int32)))]))
  obtain ⟨T165, X165, e165, st165⟩ := getS2 X163 hx hZ hown (host := "") (Or.inl (hw _ (List.mem_of_getElem? (i := 69) rfl))) Via.refl e163 (st_HI_BYTE_SHIFT.ext OL.2) (g := (mkF m 42 #[.val (.ref a1), .val (.int (Int32.ofNat (2 * i + 1)))] [(.int ((StrChars.lo8 ch) &&& (255 : Int32)))])) rfl (hb hby d_jdk_52_method_5_42)
  refine own_Go.st st165 ?_
  show own_Go _ _ _ _ (T165.setTop (mkF m 45 #[.val (.ref a1), .val (.int (Int32.ofNat (2 * i + 1)))] [(.int (0 : Int32)), (.int ((StrChars.lo8 ch) &&& (255 : Int32)))]))
  refine own_Go.st (fun _ k => XS.ishl X165.here hx rfl (hb hby d_jdk_52_method_5_45) rfl k) ?_
  show own_Go _ _ _ _ (T165.setTop (mkF m 46 #[.val (.ref a1), .val (.int (Int32.ofNat (2 * i + 1)))] [(.int (((StrChars.lo8 ch) &&& (255 : Int32)) <<< ((0 : Int32) &&& 31)))]))
  refine own_Go.st (fun _ k => XS.aloadN X165.here hx rfl (hb hby d_jdk_52_method_5_46) rfl rfl k) ?_
  show own_Go _ _ _ _ (T165.setTop (mkF m 47 #[.val (.ref a1), .val (.int (Int32.ofNat (2 * i + 1)))] [(.ref a1), (.int (((StrChars.lo8 ch) &&& (255 : Int32)) <<< ((0 : Int32) &&& 31)))]))
  refine own_Go.st (fun _ k => XS.iloadN X165.here hx rfl (hb hby d_jdk_52_method_5_47) rfl k) ?_
  show own_Go _ _ _ _ (T165.setTop (mkF m 48 #[.val (.ref a1), .val (.int (Int32.ofNat (2 * i + 1)))] [(.int (Int32.ofNat (2 * i + 1))), (.ref a1), (.int (((StrChars.lo8 ch) &&& (255 : Int32)) <<< ((0 : Int32) &&& 31)))]))
  obtain ⟨c166, Ar166, q166, S166, Nn166, H166, G166⟩ := id p0_
  have hin166 : ¬ ((Int32.ofNat (2 * i + 1)) < 0 ∨ c166.slots.size ≤ ((Int32.ofNat (2 * i + 1))).toNatClampNeg) := inb_of S166 ⟨own_of0 (by omega), by rw [hvl]; exact (own_oflt (by omega) (by omega)).mpr (by omega)⟩
  have hat166 : c166.slots[((Int32.ofNat (2 * i + 1))).toNatClampNeg]? = some (.int (StrChars.hi8 ch)) := H166.at hin166 (by rw [own_ofn (by omega)]; exact hhi)
  refine own_Go.st (X165.baloadBytes hx (j := (Int32.ofNat (2 * i + 1))) (v := (.int (StrChars.hi8 ch))) (by rw [e165]; exact Ar166.1) (State.isArrayOf_alike hZ.alike Ar166.2.1) Ar166.2.2 hin166 hat166 (g := (mkF m 48 #[.val (.ref a1), .val (.int (Int32.ofNat (2 * i + 1)))] [(.int (Int32.ofNat (2 * i + 1))), (.ref a1), (.int (((StrChars.lo8 ch) &&& (255 : Int32)) <<< ((0 : Int32) &&& 31)))])) rfl rfl (hb hby d_jdk_52_method_5_48)) ?_
  show own_Go _ _ _ _ (T165.setTop (mkF m 49 #[.val (.ref a1), .val (.int (Int32.ofNat (2 * i + 1)))] [(.int (StrChars.hi8 ch)), (.int (((StrChars.lo8 ch) &&& (255 : Int32)) <<< ((0 : Int32) &&& 31)))]))
  refine own_Go.st (fun _ k => XS.sipush X165.here hx rfl (hb hby d_jdk_52_method_5_49) k) ?_
  show own_Go _ _ _ _ (T165.setTop (mkF m 52 #[.val (.ref a1), .val (.int (Int32.ofNat (2 * i + 1)))] [(.int (255 : Int32)), (.int (StrChars.hi8 ch)), (.int (((StrChars.lo8 ch) &&& (255 : Int32)) <<< ((0 : Int32) &&& 31)))]))
  refine own_Go.st (fun _ k => XS.iand X165.here hx rfl (hb hby d_jdk_52_method_5_52) rfl k) ?_
  show own_Go _ _ _ _ (T165.setTop (mkF m 53 #[.val (.ref a1), .val (.int (Int32.ofNat (2 * i + 1)))] [(.int ((StrChars.hi8 ch) &&& (255 : Int32))), (.int (((StrChars.lo8 ch) &&& (255 : Int32)) <<< ((0 : Int32) &&& 31)))]))
  obtain ⟨T167, X167, e167, st167⟩ := getS2 X165 hx hZ hown (host := "") (Or.inl (hw _ (List.mem_of_getElem? (i := 70) rfl))) Via.refl e165 (st_LO_BYTE_SHIFT.ext OL.2) (g := (mkF m 53 #[.val (.ref a1), .val (.int (Int32.ofNat (2 * i + 1)))] [(.int ((StrChars.hi8 ch) &&& (255 : Int32))), (.int (((StrChars.lo8 ch) &&& (255 : Int32)) <<< ((0 : Int32) &&& 31)))])) rfl (hb hby d_jdk_52_method_5_53)
  refine own_Go.st st167 ?_
  show own_Go _ _ _ _ (T167.setTop (mkF m 56 #[.val (.ref a1), .val (.int (Int32.ofNat (2 * i + 1)))] [(.int (8 : Int32)), (.int ((StrChars.hi8 ch) &&& (255 : Int32))), (.int (((StrChars.lo8 ch) &&& (255 : Int32)) <<< ((0 : Int32) &&& 31)))]))
  refine own_Go.st (fun _ k => XS.ishl X167.here hx rfl (hb hby d_jdk_52_method_5_56) rfl k) ?_
  show own_Go _ _ _ _ (T167.setTop (mkF m 57 #[.val (.ref a1), .val (.int (Int32.ofNat (2 * i + 1)))] [(.int (((StrChars.hi8 ch) &&& (255 : Int32)) <<< ((8 : Int32) &&& 31))), (.int (((StrChars.lo8 ch) &&& (255 : Int32)) <<< ((0 : Int32) &&& 31)))]))
  refine own_Go.st (fun _ k => XS.ior X167.here hx rfl (hb hby d_jdk_52_method_5_57) rfl k) ?_
  show own_Go _ _ _ _ (T167.setTop (mkF m 58 #[.val (.ref a1), .val (.int (Int32.ofNat (2 * i + 1)))] [(.int ((((StrChars.lo8 ch) &&& (255 : Int32)) <<< ((0 : Int32) &&& 31)) ||| (((StrChars.hi8 ch) &&& (255 : Int32)) <<< ((8 : Int32) &&& 31))))]))
  refine own_Go.st (fun _ k => XS.i2c X167.here hx rfl (hb hby d_jdk_52_method_5_58) rfl k) ?_
  show own_Go _ _ _ _ (T167.setTop (mkF m 59 #[.val (.ref a1), .val (.int (Int32.ofNat (2 * i + 1)))] [(.int (((((StrChars.lo8 ch) &&& (255 : Int32)) <<< ((0 : Int32) &&& 31)) ||| (((StrChars.hi8 ch) &&& (255 : Int32)) <<< ((8 : Int32) &&& 31))).toUInt32.toUInt16.toUInt32.toInt32))]))
  obtain ⟨fs168, hr168, hrun168, hend168, hW168, hsm168⟩ := X167.leave (v := some (.int (nar .char (((((StrChars.lo8 ch) &&& (255 : Int32)) <<< ((0 : Int32) &&& 31)) ||| (((StrChars.hi8 ch) &&& (255 : Int32)) <<< ((8 : Int32) &&& 31))).toUInt32.toUInt16.toUInt32.toInt32)))) (fun h => by rw [Bd.returns] at h; cases h)
  subst hPP
  refine ⟨_, _, retN X167 hx (t := .char) Bd.returns (by simp) (hb hby d_jdk_52_method_5_59) hr168, hrun168, hend168, _, _, rfl, ?_, ⟨_, rfl⟩, hW168, hsm168.mono (by decide) (by decide)⟩
  · show Q_getc Z _ _ _ _ _ _ _ _ h0 _ T167.heap _
    rw [e167]
    exact ⟨(by have q := StrChars.pair_says hch.1 hch.2; unfold StrChars.pairCh at q; rw [q, own_nar hch]), N0, rfl⟩
theorem ef_98 (m : MethodId) (x0 : Int32) : entryFrame m #[(.int x0)] 1 = mkF m 0 #[.val (.int x0)] [] := by first | (simp [entryFrame, mkF, argsToLocals, Value.category]; done) | rfl
theorem d_jdk_52_method_3_0 : decode jdk_52_method_3_code 0 = .ok (.iload_n 0, 1) := by decide +kernel
theorem d_jdk_52_method_3_1 : decode jdk_52_method_3_code 1 = .ok (.ifCond .ge 11, 3) := by decide +kernel
theorem d_jdk_52_method_3_12 : decode jdk_52_method_3_code 12 = .ok (.iload_n 0, 1) := by decide +kernel
theorem d_jdk_52_method_3_13 : decode jdk_52_method_3_code 13 = .ok (.ldc 20, 2) := by decide +kernel
theorem d_jdk_52_method_3_15 : decode jdk_52_method_3_code 15 = .ok (.if_icmp .lt 40, 3) := by decide +kernel
theorem d_jdk_52_method_3_55 : decode jdk_52_method_3_code 55 = .ok (.iload_n 0, 1) := by decide +kernel
theorem d_jdk_52_method_3_56 : decode jdk_52_method_3_code 56 = .ok (.iconst 1, 1) := by decide +kernel
theorem d_jdk_52_method_3_57 : decode jdk_52_method_3_code 57 = .ok (.ishl, 1) := by decide +kernel
theorem d_jdk_52_method_3_58 : decode jdk_52_method_3_code 58 = .ok (.ireturn, 1) := by decide +kernel
def Q_nbl (Z : State) (p1 : Int32) (i : Nat) (h0 : Heap) (v : Option Value) (h : Heap) (L : List Loc) : Prop := v = some (.int (Int32.ofNat (2 * i))) ∧ Fr Z.heap.size L ∧ h = h0
set_option maxRecDepth 65536 in
set_option maxHeartbeats 40000000 in
theorem rm_nbl (l : Launch) (Z : State) (a0 : Array Value) (hw : ∀ d ∈ tables_1, d.before a0 Z = true) (ws : List Jvm.Cond) (p1 : Int32) (i : Nat) (h0 : Heap) (OL : Old Z Z.heap.size h0) (hp1 : p1 = Int32.ofNat i) (hle : i ≤ 4000) :
    MetFree l (⟨"java/lang/StringUTF16", "newBytesLength", "(I)I"⟩ : MethodName) (head1 (Jvm.Cond.code (⟨"java/lang/StringUTF16", "newBytesLength", "(I)I"⟩ : MethodName) jdk_52_method_3_code 1 (some .int) :: ws) ({ frames := 0, cells := 0, slots := 0, locals := 0 } : Room)) (fun a U => a = #[(.int p1)] ∧ Z.Warmed39 U.vm ∧ U.heap = h0) (fun _ _ _ _ _ => True) (fun _ U o U' => ∃ v L, o = .returned v ∧ Q_nbl Z p1 i h0 v U'.heap L ∧ FrameEnd U o U' L ({ frames := 0, cells := 0, slots := 0, locals := 0 } : Room).cells ({ frames := 0, cells := 0, slots := 0, locals := 0 } : Room).slots) := by
  refine MetFree.of_bodySF (plainFor_of_name pn_25) hisR ?_
  intro p e s m args below meth c s₁ Bd hml0 hP hK
  obtain ⟨rfl, hZ, hh⟩ := hP
  have hx := Bd.exec
  have hby := Bd.bytes
  have hml : c.maxLocals = 1 := hml0
  have hown : s.vm.findClass "java/lang/StringUTF16" = some m.cls := findClass_of_methodNamed Bd.named
  have hnm := (name_of_methodNamed Bd.named Bd.method).1
  have X0 : Stand p l e ({ frames := 0, cells := 0, slots := 0, locals := 0 } : Room) s m #[(.int p1)] below meth c s₁ [] 0 0 := Stand.of_body Bd
  have e0 : s₁.heap = h0 := by rw [← hh, Bd.state]; rfl
  have N0 := Fr.nil Z.heap.size
  have Z0 : Z.heap.size ≤ h0.size := OL.2.1
  obtain ⟨PP, hPP⟩ : ∃ PP : Outcome → State → Prop, PP = (fun o tE => ∃ v L, o = .returned v ∧ Q_nbl Z p1 i h0 v tE.heap L ∧ FrameEnd s o tE L ({ frames := 0, cells := 0, slots := 0, locals := 0 } : Room).cells ({ frames := 0, cells := 0, slots := 0, locals := 0 } : Room).slots) := ⟨_, rfl⟩
  show own_Go p.tables e below (fun o tE => ∃ v L, o = .returned v ∧ Q_nbl Z p1 i h0 v tE.heap L ∧ FrameEnd s o tE L ({ frames := 0, cells := 0, slots := 0, locals := 0 } : Room).cells ({ frames := 0, cells := 0, slots := 0, locals := 0 } : Room).slots) (s₁.setTop (entryFrame m #[(.int p1)] 1))
  rw [← hPP]
  refine own_Go.st (fun t k => castTop (ef_98 m p1) k) ?_
  subst hp1
  show own_Go _ _ _ _ (s₁.setTop (mkF m 0 #[.val (.int (Int32.ofNat i))] []))
  refine own_Go.st (fun _ k => XS.iloadN X0.here hx rfl (hb hby d_jdk_52_method_3_0) rfl k) ?_
  show own_Go _ _ _ _ (s₁.setTop (mkF m 1 #[.val (.int (Int32.ofNat i))] [(.int (Int32.ofNat i))]))
  have hc169 : ¬ ((Int32.ofNat i) < (0 : Int32)) := own_of0 (by omega)
  refine own_Go.st (fun _ k => XS.ifYes X0.here hx rfl (pc0 := 1) (pc' := 12) rfl (hb hby d_jdk_52_method_3_1) rfl ((if0 _ _).trans (flt hc169).2.1) (by decide) (by decide) k) ?_
  show own_Go _ _ _ _ (s₁.setTop (mkF m 12 #[.val (.int (Int32.ofNat i))] []))
  refine own_Go.st (fun _ k => XS.iloadN X0.here hx rfl (hb hby d_jdk_52_method_3_12) rfl k) ?_
  show own_Go _ _ _ _ (s₁.setTop (mkF m 13 #[.val (.int (Int32.ofNat i))] [(.int (Int32.ofNat i))]))
  refine own_Go.st (X0.ldcInt hx hown (mvT hZ (hw _ (List.mem_of_getElem? (i := 64) rfl))) (g := (mkF m 13 #[.val (.int (Int32.ofNat i))] [(.int (Int32.ofNat i))])) rfl (hb hby d_jdk_52_method_3_13)) ?_
  show own_Go _ _ _ _ (s₁.setTop (mkF m 15 #[.val (.int (Int32.ofNat i))] [(.int (1073741823 : Int32)), (.int (Int32.ofNat i))]))
  have hc170 : (Int32.ofNat i) < (1073741823 : Int32) := by have e1 : (1073741823 : Int32).toInt = 1073741823 := (by decide); rw [Int32.lt_iff_toInt_lt, own_of (by omega), e1]; omega
  refine own_Go.st (fun _ k => XS.icmpYes X0.here hx rfl (pc0 := 15) (pc' := 55) rfl (hb hby d_jdk_52_method_3_15) rfl (tlt hc170).1 (by decide) (by decide) k) ?_
  show own_Go _ _ _ _ (s₁.setTop (mkF m 55 #[.val (.int (Int32.ofNat i))] []))
  refine own_Go.st (fun _ k => XS.iloadN X0.here hx rfl (hb hby d_jdk_52_method_3_55) rfl k) ?_
  show own_Go _ _ _ _ (s₁.setTop (mkF m 56 #[.val (.int (Int32.ofNat i))] [(.int (Int32.ofNat i))]))
  refine own_Go.st (fun _ k => XS.iconst X0.here hx rfl (hb hby d_jdk_52_method_3_56) k) ?_
  show own_Go _ _ _ _ (s₁.setTop (mkF m 57 #[.val (.int (Int32.ofNat i))] [(.int (1 : Int32)), (.int (Int32.ofNat i))]))
  refine own_Go.st (fun _ k => XS.ishl X0.here hx rfl (hb hby d_jdk_52_method_3_57) rfl k) ?_
  show own_Go _ _ _ _ (s₁.setTop (mkF m 58 #[.val (.int (Int32.ofNat i))] [(.int ((Int32.ofNat i) <<< ((1 : Int32) &&& 31)))]))
  obtain ⟨fs171, hr171, hrun171, hend171, hW171, hsm171⟩ := X0.leave (v := some (.int ((Int32.ofNat i) <<< ((1 : Int32) &&& 31)))) (fun h => by rw [Bd.returns] at h; cases h)
  subst hPP
  refine ⟨_, _, own_retI X0 hx Bd.returns (hb hby d_jdk_52_method_3_58) hr171, hrun171, hend171, _, _, rfl, ?_, ⟨_, rfl⟩, hW171, hsm171.mono (by decide) (by decide)⟩
  · show Q_nbl Z _ _ h0 _ s₁.heap _
    rw [e0]
    exact ⟨(by rw [own_shl1 (by omega)]), N0, rfl⟩
theorem d_jdk_52_method_2_0 : decode jdk_52_method_2_code 0 = .ok (.iload_n 0, 1) := by decide +kernel
theorem pd_109 : parseMethodDescriptor "(I)I" = some ⟨[.int], some .int⟩ := by decide +kernel
theorem d_jdk_52_method_2_1 : decode jdk_52_method_2_code 1 = .ok (.invokestatic 11, 3) := by decide +kernel
theorem d_jdk_52_method_2_4 : decode jdk_52_method_2_code 4 = .ok (.newarray .byte, 2) := by decide +kernel
theorem d_jdk_52_method_2_6 : decode jdk_52_method_2_code 6 = .ok (.areturn, 1) := by decide +kernel
def Q_nbf (Z : State) (p1 : Int32) (i : Nat) (h0 : Heap) (v : Option Value) (h : Heap) (L : List Loc) : Prop := ∃ (x : Nat), ∃ (k : ClassId), v = some (.ref x) ∧ Fr Z.heap.size L ∧ Keep h0 h [] ∧ Arv Z h x k .byte (Int32.ofNat (2 * i)) [] (.int (0 : Int32)) ∧ (h0.size ≤ x)
set_option maxRecDepth 65536 in
set_option maxHeartbeats 40000000 in
theorem rm_nbf (l : Launch) (Z : State) (a0 : Array Value) (hw : ∀ d ∈ tables_1, d.before a0 Z = true) (ws : List Jvm.Cond) (p1 : Int32) (i : Nat) (h0 : Heap) (OL : Old Z Z.heap.size h0) (hp1 : p1 = Int32.ofNat i) (hle : i ≤ 8) :
    MetFree l (⟨"java/lang/StringUTF16", "newBytesFor", "(I)[B"⟩ : MethodName) (head1 (Jvm.Cond.code (⟨"java/lang/StringUTF16", "newBytesFor", "(I)[B"⟩ : MethodName) jdk_52_method_2_code 1 (some (.array .byte)) :: ws) ({ frames := 1, cells := 1, slots := 16, locals := 12 } : Room)) (fun a U => a = #[(.int p1)] ∧ Z.Warmed39 U.vm ∧ U.heap = h0) (fun _ _ _ _ _ => True) (fun _ U o U' => ∃ v L, o = .returned v ∧ Q_nbf Z p1 i h0 v U'.heap L ∧ FrameEnd U o U' L ({ frames := 1, cells := 1, slots := 16, locals := 12 } : Room).cells ({ frames := 1, cells := 1, slots := 16, locals := 12 } : Room).slots) := by
  refine MetFree.of_bodySF (plainFor_of_name pn_25) hisR ?_
  intro p e s m args below meth c s₁ Bd hml0 hP hK
  obtain ⟨rfl, hZ, hh⟩ := hP
  have hx := Bd.exec
  have hby := Bd.bytes
  have hml : c.maxLocals = 1 := hml0
  have hown : s.vm.findClass "java/lang/StringUTF16" = some m.cls := findClass_of_methodNamed Bd.named
  have hnm := (name_of_methodNamed Bd.named Bd.method).1
  have X0 : Stand p l e ({ frames := 1, cells := 1, slots := 16, locals := 12 } : Room) s m #[(.int p1)] below meth c s₁ [] 0 0 := Stand.of_body Bd
  have e0 : s₁.heap = h0 := by rw [← hh, Bd.state]; rfl
  have N0 := Fr.nil Z.heap.size
  have Z0 : Z.heap.size ≤ h0.size := OL.2.1
  obtain ⟨PP, hPP⟩ : ∃ PP : Outcome → State → Prop, PP = (fun o tE => ∃ v L, o = .returned v ∧ Q_nbf Z p1 i h0 v tE.heap L ∧ FrameEnd s o tE L ({ frames := 1, cells := 1, slots := 16, locals := 12 } : Room).cells ({ frames := 1, cells := 1, slots := 16, locals := 12 } : Room).slots) := ⟨_, rfl⟩
  show own_Go p.tables e below (fun o tE => ∃ v L, o = .returned v ∧ Q_nbf Z p1 i h0 v tE.heap L ∧ FrameEnd s o tE L ({ frames := 1, cells := 1, slots := 16, locals := 12 } : Room).cells ({ frames := 1, cells := 1, slots := 16, locals := 12 } : Room).slots) (s₁.setTop (entryFrame m #[(.int p1)] 1))
  rw [← hPP]
  refine own_Go.st (fun t k => castTop (ef_98 m p1) k) ?_
  show own_Go _ _ _ _ (s₁.setTop (mkF m 0 #[.val (.int p1)] []))
  refine own_Go.st (fun _ k => XS.iloadN X0.here hx rfl (hb hby d_jdk_52_method_2_0) rfl k) ?_
  show own_Go _ _ _ _ (s₁.setTop (mkF m 1 #[.val (.int p1)] [(.int p1)]))
  obtain ⟨_, _, ⟨T172, L172, k172, n172⟩, -, X172, ⟨Lc172, hQ172, l172, y172, z172⟩, st172⟩ := Jvm.LawKit.callS X0 hx (y := (⟨"java/lang/StringUTF16", "newBytesLength", "(I)I"⟩ : MethodName)) hown (mvT hZ (hw _ (List.mem_of_getElem? (i := 61) rfl))) (mvT hZ (hw _ (List.mem_of_getElem? (i := 62) rfl))) (mvT hZ (hw _ (List.mem_of_getElem? (i := 47) rfl))) (mvT hZ (hw _ (List.mem_of_getElem? (i := 63) rfl))) (by decide) (backOf (W := 0) (rm_nbl l Z a0 hw [] p1 i h0 OL hp1 (by omega)) hZ (hw _ (List.mem_of_getElem? (i := 63) rfl)) (hw _ (List.mem_of_getElem? (i := 47) rfl)) (by decide) (by decide)) (g := (mkF m 1 #[.val (.int p1)] [(.int p1)])) rfl (by rw [hml]; rfl) (argsL := [(.int p1)]) (rest := []) (lenOf pd_109 rfl) rfl (by show 2 * 0 + _ ≤ _; exact Nat.le_of_eq rfl) (hb hby d_jdk_52_method_2_1) (fun _ _ => ⟨rfl, e0, (by decide : 0 + 0 ≤ _), (by decide : 0 + 0 ≤ _)⟩)
  dsimp only [Pt.U, Pt.locs, Pt.cells, Pt.slots] at X172 l172 y172 z172 st172 hQ172
  subst l172 y172 z172
  obtain ⟨rfl, N172q, K172⟩ := hQ172
  have N172 := Fr.app N0 N172q
  refine own_Go.st st172 ?_
  show own_Go _ _ _ _ (T172.setTop (mkF m 4 #[.val (.int p1)] [(.int (Int32.ofNat (2 * i)))]))
  obtain ⟨T173, h173, k173, X173, e173, E173, A173, st173⟩ := newP X172 hx hZ (hw _ (List.mem_of_getElem? (i := 19) rfl)) K172 (g := (mkF m 4 #[.val (.int p1)] [(.int (Int32.ofNat (2 * i)))])) rfl (hb hby d_jdk_52_method_2_4) rfl (own_of0 (by omega)) (cap := 16) (by rw [own_ofn (by omega)]; omega) (by decide) (by decide) (by decide)
  obtain ⟨b173, g173⟩ : ∃ z, z = h0.size := ⟨_, rfl⟩
  rw [← g173] at A173 st173
  refine own_Go.st st173 ?_
  have z173 : h0.size ≤ h173.size := E173.1
  have f174 : Arv Z h173 b173 k173 .byte (Int32.ofNat (2 * i)) [] (.int (0 : Int32)) := Arv.new A173 (own_of0 (by omega))
  have lt_b173 : @LT.lt Nat _ b173 h173.size := f174.lt
  show own_Go _ _ _ _ (T173.setTop (mkF m 6 #[.val (.int p1)] [(.ref b173)]))
  obtain ⟨fs175, hr175, hrun175, hend175, hW175, hsm175⟩ := X173.leave (v := some (.ref b173)) (fun h => by rw [Bd.returns] at h; cases h)
  have K176 : Keep h0 h173 [] := (Keep.refl h0 []).ext E173
  subst hPP
  refine ⟨_, _, own_retA X173 hx Bd.returns rfl rfl (hb hby d_jdk_52_method_2_6) hr175, hrun175, hend175, _, _, rfl, ?_, ⟨_, rfl⟩, hW175, hsm175.mono (by decide) (by decide)⟩
  · show Q_nbf Z _ _ h0 _ T173.heap _
    rw [e173]
    exact ⟨b173, k173, rfl, N172, K176, f174, (by omega)⟩
theorem ef_113 (m : MethodId) (x0 : Nat) (x1 : Int32) (x2 : Int32) : entryFrame m #[(.ref x0), (.int x1), (.int x2)] 5 = mkF m 0 #[.val (.ref x0), .val (.int x1), .val (.int x2), .unset, .unset] [] := by first | (simp [entryFrame, mkF, argsToLocals, Value.category]; done) | rfl
theorem d_jdk_52_method_14_0 : decode jdk_52_method_14_code 0 = .ok (.iload_n 2, 1) := by decide +kernel
theorem pd_115 : parseMethodDescriptor "(I)[B" = some ⟨[.int], some (.array .byte)⟩ := by decide +kernel
theorem d_jdk_52_method_14_1 : decode jdk_52_method_14_code 1 = .ok (.invokestatic 107, 3) := by decide +kernel
theorem d_jdk_52_method_14_4 : decode jdk_52_method_14_code 4 = .ok (.astore_n 3, 1) := by decide +kernel
theorem d_jdk_52_method_14_5 : decode jdk_52_method_14_code 5 = .ok (.iconst 0, 1) := by decide +kernel
theorem d_jdk_52_method_14_6 : decode jdk_52_method_14_code 6 = .ok (.istore 4, 2) := by decide +kernel
theorem d_jdk_52_method_14_8 : decode jdk_52_method_14_code 8 = .ok (.iload 4, 2) := by decide +kernel
theorem d_jdk_52_method_14_10 : decode jdk_52_method_14_code 10 = .ok (.iload_n 2, 1) := by decide +kernel
theorem d_jdk_52_method_14_11 : decode jdk_52_method_14_code 11 = .ok (.if_icmp .ge 21, 3) := by decide +kernel
theorem d_jdk_52_method_14_14 : decode jdk_52_method_14_code 14 = .ok (.aload_n 3, 1) := by decide +kernel
theorem d_jdk_52_method_14_15 : decode jdk_52_method_14_code 15 = .ok (.iload 4, 2) := by decide +kernel
theorem d_jdk_52_method_14_17 : decode jdk_52_method_14_code 17 = .ok (.aload_n 0, 1) := by decide +kernel
theorem d_jdk_52_method_14_18 : decode jdk_52_method_14_code 18 = .ok (.iload_n 1, 1) := by decide +kernel
theorem d_jdk_52_method_14_19 : decode jdk_52_method_14_code 19 = .ok (.caload, 1) := by decide +kernel
theorem pd_128 : parseMethodDescriptor "([BII)V" = some ⟨[(.array .byte), .int, .int], none⟩ := by decide +kernel
theorem d_jdk_52_method_14_20 : decode jdk_52_method_14_code 20 = .ok (.invokestatic 111, 3) := by decide +kernel
theorem d_jdk_52_method_14_23 : decode jdk_52_method_14_code 23 = .ok (.iinc 1 1, 3) := by decide +kernel
theorem d_jdk_52_method_14_26 : decode jdk_52_method_14_code 26 = .ok (.iinc 4 1, 3) := by decide +kernel
theorem d_jdk_52_method_14_29 : decode jdk_52_method_14_code 29 = .ok (.goto (-21), 3) := by decide +kernel
theorem d_jdk_52_method_14_32 : decode jdk_52_method_14_code 32 = .ok (.aload_n 3, 1) := by decide +kernel
theorem d_jdk_52_method_14_33 : decode jdk_52_method_14_code 33 = .ok (.areturn, 1) := by decide +kernel
def Q_tob (Z : State) (a1 : Nat) (nn : Int32) (cs : List Int32) (k1 : ClassId) (d1 : Value) (h0 : Heap) (v : Option Value) (h : Heap) (L : List Loc) : Prop := ∃ (x : Nat), ∃ (k : ClassId), v = some (.ref x) ∧ Fr Z.heap.size L ∧ Keep h0 h [] ∧ Arv Z h x k .byte (Int32.ofNat (2 * cs.length)) (StrChars.Road.wideBytes cs) (.int (0 : Int32)) ∧ (h0.size ≤ x)
set_option maxRecDepth 65536 in
set_option maxHeartbeats 40000000 in
theorem rm_tob (l : Launch) (Z : State) (a0 : Array Value) (hw : ∀ d ∈ tables_1, d.before a0 Z = true) (ws : List Jvm.Cond) (a1 : Nat) (nn : Int32) (cs : List Int32) (k1 : ClassId) (d1 : Value) (h0 : Heap) (OL : Old Z Z.heap.size h0) (p0_ : Arv Z h0 a1 k1 .char nn (cs.map Value.int) d1) (st__assertionsDisabled : Sta Z Z.heap "java/lang/StringUTF16" "$assertionsDisabled" "Z" (.int (1 : Int32))) (st_HI_BYTE_SHIFT : Sta Z Z.heap "java/lang/StringUTF16" "HI_BYTE_SHIFT" "I" (.int (0 : Int32))) (st_LO_BYTE_SHIFT : Sta Z Z.heap "java/lang/StringUTF16" "LO_BYTE_SHIFT" "I" (.int (8 : Int32))) (hnn : nn = Int32.ofNat cs.length) (hle : cs.length ≤ 8) :
    MetFree l (⟨"java/lang/StringUTF16", "toBytes", "([CII)[B"⟩ : MethodName) (head1 (Jvm.Cond.code (⟨"java/lang/StringUTF16", "toBytes", "([CII)[B"⟩ : MethodName) jdk_52_method_14_code 5 (some (.array .byte)) :: ws) ({ frames := 2, cells := 1, slots := 16, locals := 24 } : Room)) (fun a U => a = #[(.ref a1), (.int (0 : Int32)), (.int nn)] ∧ Z.Warmed39 U.vm ∧ U.heap = h0) (fun _ _ _ _ _ => True) (fun _ U o U' => ∃ v L, o = .returned v ∧ Q_tob Z a1 nn cs k1 d1 h0 v U'.heap L ∧ FrameEnd U o U' L ({ frames := 2, cells := 1, slots := 16, locals := 24 } : Room).cells ({ frames := 2, cells := 1, slots := 16, locals := 24 } : Room).slots) := by
  refine MetFree.of_bodySF (plainFor_of_name pn_25) hisR ?_
  intro p e s m args below meth c s₁ Bd hml0 hP hK
  obtain ⟨rfl, hZ, hh⟩ := hP
  have hx := Bd.exec
  have hby := Bd.bytes
  have hml : c.maxLocals = 5 := hml0
  have hown : s.vm.findClass "java/lang/StringUTF16" = some m.cls := findClass_of_methodNamed Bd.named
  have hnm := (name_of_methodNamed Bd.named Bd.method).1
  have X0 : Stand p l e ({ frames := 2, cells := 1, slots := 16, locals := 24 } : Room) s m #[(.ref a1), (.int (0 : Int32)), (.int nn)] below meth c s₁ [] 0 0 := Stand.of_body Bd
  have e0 : s₁.heap = h0 := by rw [← hh, Bd.state]; rfl
  have N0 := Fr.nil Z.heap.size
  have Z0 : Z.heap.size ≤ h0.size := OL.2.1
  have lt_0 : @LT.lt Nat _ a1 h0.size := p0_.lt
  obtain ⟨PP, hPP⟩ : ∃ PP : Outcome → State → Prop, PP = (fun o tE => ∃ v L, o = .returned v ∧ Q_tob Z a1 nn cs k1 d1 h0 v tE.heap L ∧ FrameEnd s o tE L ({ frames := 2, cells := 1, slots := 16, locals := 24 } : Room).cells ({ frames := 2, cells := 1, slots := 16, locals := 24 } : Room).slots) := ⟨_, rfl⟩
  show own_Go p.tables e below (fun o tE => ∃ v L, o = .returned v ∧ Q_tob Z a1 nn cs k1 d1 h0 v tE.heap L ∧ FrameEnd s o tE L ({ frames := 2, cells := 1, slots := 16, locals := 24 } : Room).cells ({ frames := 2, cells := 1, slots := 16, locals := 24 } : Room).slots) (s₁.setTop (entryFrame m #[(.ref a1), (.int (0 : Int32)), (.int nn)] 5))
  rw [← hPP]
  refine own_Go.st (fun t k => castTop (ef_113 m a1 (0 : Int32) nn) k) ?_
  show own_Go _ _ _ _ (s₁.setTop (mkF m 0 #[.val (.ref a1), .val (.int (0 : Int32)), .val (.int nn), .unset, .unset] []))
  refine own_Go.st (fun _ k => XS.iloadN X0.here hx rfl (hb hby d_jdk_52_method_14_0) rfl k) ?_
  show own_Go _ _ _ _ (s₁.setTop (mkF m 1 #[.val (.ref a1), .val (.int (0 : Int32)), .val (.int nn), .unset, .unset] [(.int nn)]))
  obtain ⟨_, _, ⟨T177, L177, k177, n177⟩, -, X177, ⟨Lc177, hQ177, l177, y177, z177⟩, st177⟩ := Jvm.LawKit.callS X0 hx (y := (⟨"java/lang/StringUTF16", "newBytesFor", "(I)[B"⟩ : MethodName)) hown (mvT hZ (hw _ (List.mem_of_getElem? (i := 58) rfl))) (mvT hZ (hw _ (List.mem_of_getElem? (i := 59) rfl))) (mvT hZ (hw _ (List.mem_of_getElem? (i := 47) rfl))) (mvT hZ (hw _ (List.mem_of_getElem? (i := 60) rfl))) (by decide) (backOf (W := 0) (rm_nbf l Z a0 hw [] nn cs.length h0 OL hnn hle) hZ (hw _ (List.mem_of_getElem? (i := 60) rfl)) (hw _ (List.mem_of_getElem? (i := 47) rfl)) (by decide) (by decide)) (g := (mkF m 1 #[.val (.ref a1), .val (.int (0 : Int32)), .val (.int nn), .unset, .unset] [(.int nn)])) rfl (by rw [hml]; rfl) (argsL := [(.int nn)]) (rest := []) (lenOf pd_115 rfl) rfl (by show 2 * 0 + _ ≤ _; exact Nat.le_of_eq rfl) (hb hby d_jdk_52_method_14_1) (fun _ _ => ⟨rfl, e0, (by decide : 0 + 1 ≤ _), (by decide : 0 + 16 ≤ _)⟩)
  dsimp only [Pt.U, Pt.locs, Pt.cells, Pt.slots] at X177 l177 y177 z177 st177 hQ177
  subst l177 y177 z177
  obtain ⟨x_177, k_177, rfl, N177q, K177, f177_0, pr177_0⟩ := hQ177
  have N177 := Fr.app N0 N177q
  have z177 : h0.size ≤ T177.heap.size := K177.1
  have lt177_0 : @LT.lt Nat _ x_177 T177.heap.size := f177_0.lt
  have hx1 := pr177_0
  refine own_Go.st st177 ?_
  show own_Go _ _ _ _ (T177.setTop (mkF m 4 #[.val (.ref a1), .val (.int (0 : Int32)), .val (.int nn), .unset, .unset] [(.ref x_177)]))
  refine own_Go.st (fun _ k => XS.astoreN X177.here hx rfl (hb hby d_jdk_52_method_14_4) rfl rfl (l' := #[.val (.ref a1), .val (.int (0 : Int32)), .val (.int nn), .val (.ref x_177), .unset]) rfl k) ?_
  show own_Go _ _ _ _ (T177.setTop (mkF m 5 #[.val (.ref a1), .val (.int (0 : Int32)), .val (.int nn), .val (.ref x_177), .unset] []))
  refine own_Go.st (fun _ k => XS.iconst X177.here hx rfl (hb hby d_jdk_52_method_14_5) k) ?_
  show own_Go _ _ _ _ (T177.setTop (mkF m 6 #[.val (.ref a1), .val (.int (0 : Int32)), .val (.int nn), .val (.ref x_177), .unset] [(.int (0 : Int32))]))
  refine own_Go.st (fun _ k => XS.istore X177.here hx rfl (hb hby d_jdk_52_method_14_6) rfl (l' := #[.val (.ref a1), .val (.int (0 : Int32)), .val (.int nn), .val (.ref x_177), .val (.int (0 : Int32))]) rfl k) ?_
  show own_Go _ _ _ _ (T177.setTop (mkF m 8 #[.val (.ref a1), .val (.int (0 : Int32)), .val (.int nn), .val (.ref x_177), .val (.int (0 : Int32))] []))
  have f178 : Arv Z T177.heap x_177 k_177 .byte (Int32.ofNat (2 * cs.length)) ([] ++ List.replicate (2 * cs.length) (.int (0 : Int32))) (.int (0 : Int32)) := f177_0.pad (pad_rep [] _ _)
  have LP179 : ∀ (nL : Nat) (i : Nat) (vsL : List Value) (TL179 : State) (hL179 : Heap) (lL179 : List Loc), (i ≤ cs.length) → (vsL.length = 2 * cs.length) → (∀ j, j < i → vsL.getD (2 * j) (.int (0 : Int32)) = .int (StrChars.lo8 (cs.getD j 0)) ∧ vsL.getD (2 * j + 1) (.int (0 : Int32)) = .int (StrChars.hi8 (cs.getD j 0))) → (Stand p l e ({ frames := 2, cells := 1, slots := 16, locals := 24 } : Room) s m #[(.ref a1), (.int (0 : Int32)), (.int nn)] below meth c TL179 lL179 1 16) → (TL179.heap = hL179) → (Fr Z.heap.size lL179) → (Keep h0 hL179 []) → (Old Z Z.heap.size hL179) → (Arv Z hL179 a1 k1 .char nn (cs.map Value.int) d1) → (Arv Z hL179 x_177 k_177 .byte (Int32.ofNat (2 * cs.length)) vsL (.int (0 : Int32))) → cs.length - i = nL → own_Go p.tables e below PP (TL179.setTop (mkF m 8 #[.val (.ref a1), .val (.int (Int32.ofNat i)), .val (.int nn), .val (.ref x_177), .val (.int (Int32.ofNat i))] [])) := by
    intro nL
    induction nL using Nat.strongRecOn with
    | _ nL ihL =>
      intro i vsL TL179 hL179 lL179 hi hvL hinv XL179 eL179 NL179 KL179 OL179 fL179_0 fL179_1 hmL
      have zL179 : h0.size ≤ hL179.size := KL179.1
      have ltL179_0 : @LT.lt Nat _ a1 hL179.size := fL179_0.lt
      have ltL179_1 : @LT.lt Nat _ x_177 hL179.size := fL179_1.lt
      refine own_Go.st (fun _ k => XS.iload XL179.here hx rfl (hb hby d_jdk_52_method_14_8) rfl k) ?_
      show own_Go _ _ _ _ (TL179.setTop (mkF m 10 #[.val (.ref a1), .val (.int (Int32.ofNat i)), .val (.int nn), .val (.ref x_177), .val (.int (Int32.ofNat i))] [(.int (Int32.ofNat i))]))
      refine own_Go.st (fun _ k => XS.iloadN XL179.here hx rfl (hb hby d_jdk_52_method_14_10) rfl k) ?_
      show own_Go _ _ _ _ (TL179.setTop (mkF m 11 #[.val (.ref a1), .val (.int (Int32.ofNat i)), .val (.int nn), .val (.ref x_177), .val (.int (Int32.ofNat i))] [(.int nn), (.int (Int32.ofNat i))]))
      by_cases h11 : (Int32.ofNat i) < nn
      ·
        refine own_Go.st (fun _ k => XS.icmpNo XL179.here hx rfl (hb hby d_jdk_52_method_14_11) rfl (tlt h11).2.1 k) ?_
        show own_Go _ _ _ _ (TL179.setTop (mkF m 14 #[.val (.ref a1), .val (.int (Int32.ofNat i)), .val (.int nn), .val (.ref x_177), .val (.int (Int32.ofNat i))] []))
        have hi7 : i < cs.length := (own_oflt (by omega) (by omega)).mp (hnn ▸ h11)
        refine own_Go.st (fun _ k => XS.aloadN XL179.here hx rfl (hb hby d_jdk_52_method_14_14) rfl rfl k) ?_
        show own_Go _ _ _ _ (TL179.setTop (mkF m 15 #[.val (.ref a1), .val (.int (Int32.ofNat i)), .val (.int nn), .val (.ref x_177), .val (.int (Int32.ofNat i))] [(.ref x_177)]))
        refine own_Go.st (fun _ k => XS.iload XL179.here hx rfl (hb hby d_jdk_52_method_14_15) rfl k) ?_
        show own_Go _ _ _ _ (TL179.setTop (mkF m 17 #[.val (.ref a1), .val (.int (Int32.ofNat i)), .val (.int nn), .val (.ref x_177), .val (.int (Int32.ofNat i))] [(.int (Int32.ofNat i)), (.ref x_177)]))
        refine own_Go.st (fun _ k => XS.aloadN XL179.here hx rfl (hb hby d_jdk_52_method_14_17) rfl rfl k) ?_
        show own_Go _ _ _ _ (TL179.setTop (mkF m 18 #[.val (.ref a1), .val (.int (Int32.ofNat i)), .val (.int nn), .val (.ref x_177), .val (.int (Int32.ofNat i))] [(.ref a1), (.int (Int32.ofNat i)), (.ref x_177)]))
        refine own_Go.st (fun _ k => XS.iloadN XL179.here hx rfl (hb hby d_jdk_52_method_14_18) rfl k) ?_
        show own_Go _ _ _ _ (TL179.setTop (mkF m 19 #[.val (.ref a1), .val (.int (Int32.ofNat i)), .val (.int nn), .val (.ref x_177), .val (.int (Int32.ofNat i))] [(.int (Int32.ofNat i)), (.ref a1), (.int (Int32.ofNat i)), (.ref x_177)]))
        obtain ⟨c180, Ar180, q180, S180, Nn180, H180, G180⟩ := id fL179_0
        have hin180 : ¬ ((Int32.ofNat i) < 0 ∨ c180.slots.size ≤ ((Int32.ofNat i)).toNatClampNeg) := inb_of S180 ⟨own_of0 (by omega), h11⟩
        have hat180 : c180.slots[((Int32.ofNat i)).toNatClampNeg]? = some (.int (cs.getD i 0)) := H180.at hin180 (own_getD hi7 (by omega) _)
        refine own_Go.st (XL179.caload hx (j := (Int32.ofNat i)) (v := (.int (cs.getD i 0))) (by rw [eL179]; exact Ar180.1) (State.isArrayOf_alike hZ.alike Ar180.2.1) Ar180.2.2 hin180 hat180 (g := (mkF m 19 #[.val (.ref a1), .val (.int (Int32.ofNat i)), .val (.int nn), .val (.ref x_177), .val (.int (Int32.ofNat i))] [(.int (Int32.ofNat i)), (.ref a1), (.int (Int32.ofNat i)), (.ref x_177)])) rfl rfl (hb hby d_jdk_52_method_14_19)) ?_
        show own_Go _ _ _ _ (TL179.setTop (mkF m 20 #[.val (.ref a1), .val (.int (Int32.ofNat i)), .val (.int nn), .val (.ref x_177), .val (.int (Int32.ofNat i))] [(.int (cs.getD i 0)), (.int (Int32.ofNat i)), (.ref x_177)]))
        obtain ⟨_, _, ⟨T181, L181, k181, n181⟩, -, X181, ⟨Lc181, hQ181, l181, y181, z181⟩, st181⟩ := Jvm.LawKit.callS XL179 hx (y := (⟨"java/lang/StringUTF16", "putChar", "([BII)V"⟩ : MethodName)) hown (mvT hZ (hw _ (List.mem_of_getElem? (i := 65) rfl))) (mvT hZ (hw _ (List.mem_of_getElem? (i := 66) rfl))) (mvT hZ (hw _ (List.mem_of_getElem? (i := 47) rfl))) (mvT hZ (hw _ (List.mem_of_getElem? (i := 67) rfl))) (by decide) (backOf (W := 0) (rm_putc l Z a0 hw [] x_177 (Int32.ofNat i) (cs.getD i 0) i k_177 (Int32.ofNat (2 * cs.length)) vsL (.int (0 : Int32)) hL179 OL179 fL179_1 st__assertionsDisabled st_HI_BYTE_SHIFT st_LO_BYTE_SHIFT rfl (by omega) (by rw [hvL]) (by omega) (by omega)) hZ (hw _ (List.mem_of_getElem? (i := 67) rfl)) (hw _ (List.mem_of_getElem? (i := 47) rfl)) (by decide) (by decide)) (g := (mkF m 20 #[.val (.ref a1), .val (.int (Int32.ofNat i)), .val (.int nn), .val (.ref x_177), .val (.int (Int32.ofNat i))] [(.int (cs.getD i 0)), (.int (Int32.ofNat i)), (.ref x_177)])) rfl (by rw [hml]; rfl) (argsL := [(.ref x_177), (.int (Int32.ofNat i)), (.int (cs.getD i 0))]) (rest := []) (lenOf pd_128 rfl) rfl (by show 2 * 0 + _ ≤ _; exact Nat.le_of_eq rfl) (hb hby d_jdk_52_method_14_20) (fun _ _ => ⟨rfl, eL179, (by decide : 1 + 0 ≤ _), (by decide : 16 + 0 ≤ _)⟩)
        dsimp only [Pt.U, Pt.locs, Pt.cells, Pt.slots] at X181 l181 y181 z181 st181 hQ181
        subst l181 y181 z181
        obtain ⟨rfl, N181q, K181, f181_0⟩ := hQ181
        have N181 := Fr.app NL179 N181q
        have z181 : hL179.size ≤ T181.heap.size := K181.1
        have lt181_0 : @LT.lt Nat _ x_177 T181.heap.size := f181_0.lt
        refine own_Go.st st181 ?_
        show own_Go _ _ _ _ (T181.setTop (mkF m 23 #[.val (.ref a1), .val (.int (Int32.ofNat i)), .val (.int nn), .val (.ref x_177), .val (.int (Int32.ofNat i))] []))
        refine own_Go.st (fun _ k => XS.iinc X181.here hx rfl (hb hby d_jdk_52_method_14_23) rfl (l' := #[.val (.ref a1), .val (.int ((Int32.ofNat i) + (1 : Int32))), .val (.int nn), .val (.ref x_177), .val (.int (Int32.ofNat i))]) rfl k) ?_
        show own_Go _ _ _ _ (T181.setTop (mkF m 26 #[.val (.ref a1), .val (.int ((Int32.ofNat i) + (1 : Int32))), .val (.int nn), .val (.ref x_177), .val (.int (Int32.ofNat i))] []))
        refine own_Go.st (fun _ k => XS.iinc X181.here hx rfl (hb hby d_jdk_52_method_14_26) rfl (l' := #[.val (.ref a1), .val (.int ((Int32.ofNat i) + (1 : Int32))), .val (.int nn), .val (.ref x_177), .val (.int ((Int32.ofNat i) + (1 : Int32)))]) rfl k) ?_
        show own_Go _ _ _ _ (T181.setTop (mkF m 29 #[.val (.ref a1), .val (.int ((Int32.ofNat i) + (1 : Int32))), .val (.int nn), .val (.ref x_177), .val (.int ((Int32.ofNat i) + (1 : Int32)))] []))
        rw [own_ofS (by omega : i < 1073741823)]
        show own_Go _ _ _ _ (T181.setTop (mkF m 29 #[.val (.ref a1), .val (.int (Int32.ofNat (i + 1))), .val (.int nn), .val (.ref x_177), .val (.int (Int32.ofNat (i + 1)))] []))
        refine own_Go.st (fun _ k => XS.goto X181.here hx rfl (pc0 := 29) (pc' := 8) rfl (hb hby d_jdk_52_method_14_29) (by decide) (by decide) k) ?_
        show own_Go _ _ _ _ (T181.setTop (mkF m 8 #[.val (.ref a1), .val (.int (Int32.ofNat (i + 1))), .val (.int nn), .val (.ref x_177), .val (.int (Int32.ofNat (i + 1)))] []))
        have K182 : Keep h0 T181.heap [] := KL179.trans K181 (allS (Or.inr (by omega)) all0)
        have f183 : Old Z Z.heap.size T181.heap := OL179.keep K181 (allS (by omega) all0)
        have f184 : Arv Z T181.heap a1 k1 .char nn (cs.map Value.int) d1 := fL179_0.keep K181 (ninS (by show @Ne Nat a1 x_177; omega) nin0)
        exact ihL _ (by omega) (i + 1) ((vsL.set (2 * i) (.int (StrChars.lo8 (cs.getD i 0)))).set (2 * i + 1) (.int (StrChars.hi8 (cs.getD i 0)))) T181 T181.heap _ (by omega) (by simp only [List.length_set]; exact hvL) (fun j hj => by
          rw [own_setget (by simp only [List.length_set]; omega), own_setget (by omega), own_setget (by simp only [List.length_set]; omega), own_setget (by omega)]
          rcases Nat.lt_succ_iff_lt_or_eq.mp hj with q | q
          · have := hinv j q
            rw [if_neg (by omega), if_neg (by omega), if_neg (by omega), if_neg (by omega)]; exact this
          · subst q; rw [if_neg (by omega), if_pos rfl, if_pos rfl]; exact ⟨rfl, rfl⟩) X181 rfl N181 K182 f183 f184 f181_0 rfl
      ·
        refine own_Go.st (fun _ k => XS.icmpYes XL179.here hx rfl (pc0 := 11) (pc' := 32) rfl (hb hby d_jdk_52_method_14_11) rfl (flt h11).2.1 (by decide) (by decide) k) ?_
        show own_Go _ _ _ _ (TL179.setTop (mkF m 32 #[.val (.ref a1), .val (.int (Int32.ofNat i)), .val (.int nn), .val (.ref x_177), .val (.int (Int32.ofNat i))] []))
        have hi8 : i = cs.length := by
          have : ¬ i < cs.length := fun q => h11 (hnn ▸ (own_oflt (by omega) (by omega)).mpr q)
          omega
        refine own_Go.st (fun _ k => XS.aloadN XL179.here hx rfl (hb hby d_jdk_52_method_14_32) rfl rfl k) ?_
        show own_Go _ _ _ _ (TL179.setTop (mkF m 33 #[.val (.ref a1), .val (.int (Int32.ofNat i)), .val (.int nn), .val (.ref x_177), .val (.int (Int32.ofNat i))] [(.ref x_177)]))
        obtain ⟨fs185, hr185, hrun185, hend185, hW185, hsm185⟩ := XL179.leave (v := some (.ref x_177)) (fun h => by rw [Bd.returns] at h; cases h)
        have hwide : vsL = StrChars.Road.wideBytes cs := own_wide cs (.int (0 : Int32)) vsL hvL (fun j hj => hinv j (by omega))
        rw [hwide] at fL179_1
        subst hPP
        refine ⟨_, _, own_retA XL179 hx Bd.returns rfl rfl (hb hby d_jdk_52_method_14_33) hr185, hrun185, hend185, _, _, rfl, ?_, ⟨_, rfl⟩, hW185, hsm185.mono (by decide) (by decide)⟩
        · show Q_tob Z _ _ _ _ _ h0 _ TL179.heap _
          rw [eL179]
          exact ⟨x_177, k_177, rfl, NL179, KL179, fL179_1, (by omega)⟩
  have K186 : Keep h0 T177.heap [] := (Keep.refl h0 []).trans K177 all0
  have f187 : Old Z Z.heap.size T177.heap := OL.keep K177 all0
  have f188 : Arv Z T177.heap a1 k1 .char nn (cs.map Value.int) d1 := p0_.keep K177 nin0
  exact LP179 _ 0 ([] ++ List.replicate (2 * cs.length) (.int (0 : Int32))) T177 T177.heap _ (Nat.zero_le _) (by simp) (fun j hj => absurd hj (Nat.not_lt_zero j)) X177 rfl N177 K186 f187 f188 f178 rfl
theorem ef_135 (m : MethodId) (x0 : Nat) (x1 : Int32) (x2 : Int32) : entryFrame m #[(.ref x0), (.int x1), (.int x2)] 6 = mkF m 0 #[.val (.ref x0), .val (.int x1), .val (.int x2), .unset, .unset, .unset] [] := by first | (simp [entryFrame, mkF, argsToLocals, Value.category]; done) | rfl
theorem d_jdk_52_method_16_0 : decode jdk_52_method_16_code 0 = .ok (.iload_n 2, 1) := by decide +kernel
theorem d_jdk_52_method_16_1 : decode jdk_52_method_16_code 1 = .ok (.newarray .byte, 2) := by decide +kernel
theorem d_jdk_52_method_16_3 : decode jdk_52_method_16_code 3 = .ok (.astore_n 3, 1) := by decide +kernel
theorem d_jdk_52_method_16_4 : decode jdk_52_method_16_code 4 = .ok (.aload_n 0, 1) := by decide +kernel
theorem d_jdk_52_method_16_5 : decode jdk_52_method_16_code 5 = .ok (.iload_n 1, 1) := by decide +kernel
theorem d_jdk_52_method_16_6 : decode jdk_52_method_16_code 6 = .ok (.aload_n 3, 1) := by decide +kernel
theorem d_jdk_52_method_16_7 : decode jdk_52_method_16_code 7 = .ok (.iconst 0, 1) := by decide +kernel
theorem d_jdk_52_method_16_8 : decode jdk_52_method_16_code 8 = .ok (.iload_n 2, 1) := by decide +kernel
theorem pd_144 : parseMethodDescriptor "([CI[BII)I" = some ⟨[(.array .char), .int, (.array .byte), .int, .int], some .int⟩ := by decide +kernel
theorem d_jdk_52_method_16_9 : decode jdk_52_method_16_code 9 = .ok (.invokestatic 115, 3) := by decide +kernel
theorem d_jdk_52_method_16_12 : decode jdk_52_method_16_code 12 = .ok (.istore 4, 2) := by decide +kernel
theorem d_jdk_52_method_16_14 : decode jdk_52_method_16_code 14 = .ok (.iload 4, 2) := by decide +kernel
theorem d_jdk_52_method_16_16 : decode jdk_52_method_16_code 16 = .ok (.iload_n 2, 1) := by decide +kernel
theorem d_jdk_52_method_16_17 : decode jdk_52_method_16_code 17 = .ok (.if_icmp .eq 40, 3) := by decide +kernel
theorem d_jdk_52_method_16_20 : decode jdk_52_method_16_code 20 = .ok (.aload_n 0, 1) := by decide +kernel
theorem d_jdk_52_method_16_21 : decode jdk_52_method_16_code 21 = .ok (.iload_n 1, 1) := by decide +kernel
theorem d_jdk_52_method_16_22 : decode jdk_52_method_16_code 22 = .ok (.iload_n 2, 1) := by decide +kernel
theorem pd_153 : parseMethodDescriptor "([CII)[B" = some ⟨[(.array .char), .int, .int], some (.array .byte)⟩ := by decide +kernel
theorem d_jdk_52_method_16_23 : decode jdk_52_method_16_code 23 = .ok (.invokestatic 119, 3) := by decide +kernel
theorem d_jdk_52_method_16_26 : decode jdk_52_method_16_code 26 = .ok (.astore 5, 2) := by decide +kernel
theorem d_jdk_52_method_16_28 : decode jdk_52_method_16_code 28 = .ok (.aload 5, 2) := by decide +kernel
theorem d_jdk_52_method_16_30 : decode jdk_52_method_16_code 30 = .ok (.iload 4, 2) := by decide +kernel
theorem pd_158 : parseMethodDescriptor "([BI)C" = some ⟨[(.array .byte), .int], some .char⟩ := by decide +kernel
theorem d_jdk_52_method_16_32 : decode jdk_52_method_16_code 32 = .ok (.invokestatic 71, 3) := by decide +kernel
theorem d_jdk_52_method_16_35 : decode jdk_52_method_16_code 35 = .ok (.sipush 255, 3) := by decide +kernel
theorem d_jdk_52_method_16_38 : decode jdk_52_method_16_code 38 = .ok (.if_icmp .gt 16, 3) := by decide +kernel
theorem d_jdk_52_method_16_54 : decode jdk_52_method_16_code 54 = .ok (.aload 5, 2) := by decide +kernel
theorem d_jdk_52_method_16_56 : decode jdk_52_method_16_code 56 = .ok (.areturn, 1) := by decide +kernel
def Q_cmp3 (Z : State) (a1 : Nat) (nn : Int32) (cs : List Int32) (k1 : ClassId) (d1 : Value) (h0 : Heap) (v : Option Value) (h : Heap) (L : List Loc) : Prop := ∃ (x : Nat), ∃ (k : ClassId), v = some (.ref x) ∧ Fr Z.heap.size L ∧ Keep h0 h [] ∧ Arv Z h x k .byte (Int32.ofNat (2 * cs.length)) (StrChars.Road.wideBytes cs) (.int (0 : Int32)) ∧ (h0.size ≤ x)
set_option maxRecDepth 65536 in
set_option maxHeartbeats 40000000 in
theorem rm_cmp3 (l : Launch) (Z : State) (a0 : Array Value) (hw : ∀ d ∈ tables_1, d.before a0 Z = true) (ws : List Jvm.Cond) (a1 : Nat) (nn : Int32) (cs : List Int32) (k1 : ClassId) (d1 : Value) (h0 : Heap) (OL : Old Z Z.heap.size h0) (p0_ : Arv Z h0 a1 k1 .char nn (cs.map Value.int) d1) (st__assertionsDisabled : Sta Z Z.heap "java/lang/StringUTF16" "$assertionsDisabled" "Z" (.int (1 : Int32))) (st_HI_BYTE_SHIFT : Sta Z Z.heap "java/lang/StringUTF16" "HI_BYTE_SHIFT" "I" (.int (0 : Int32))) (st_LO_BYTE_SHIFT : Sta Z Z.heap "java/lang/StringUTF16" "LO_BYTE_SHIFT" "I" (.int (8 : Int32))) (hnn : nn = Int32.ofNat cs.length) (hle : cs.length ≤ 8) (hbig : ∃ c ∈ cs, (255 : Int32) < c) (hrng : ∀ c ∈ cs, ¬ c < 0 ∧ ¬ (65535 : Int32) < c) :
    MetFree l (⟨"java/lang/StringUTF16", "compress", "([CII)[B"⟩ : MethodName) (head1 (Jvm.Cond.code (⟨"java/lang/StringUTF16", "compress", "([CII)[B"⟩ : MethodName) jdk_52_method_16_code 6 (some (.array .byte)) :: ws) ({ frames := 3, cells := 2, slots := 24, locals := 42 } : Room)) (fun a U => a = #[(.ref a1), (.int (0 : Int32)), (.int nn)] ∧ Z.Warmed39 U.vm ∧ U.heap = h0) (fun _ _ _ _ _ => True) (fun _ U o U' => ∃ v L, o = .returned v ∧ Q_cmp3 Z a1 nn cs k1 d1 h0 v U'.heap L ∧ FrameEnd U o U' L ({ frames := 3, cells := 2, slots := 24, locals := 42 } : Room).cells ({ frames := 3, cells := 2, slots := 24, locals := 42 } : Room).slots) := by
  refine MetFree.of_bodySF (plainFor_of_name pn_25) hisR ?_
  intro p e s m args below meth c s₁ Bd hml0 hP hK
  obtain ⟨rfl, hZ, hh⟩ := hP
  have hx := Bd.exec
  have hby := Bd.bytes
  have hml : c.maxLocals = 6 := hml0
  have hown : s.vm.findClass "java/lang/StringUTF16" = some m.cls := findClass_of_methodNamed Bd.named
  have hnm := (name_of_methodNamed Bd.named Bd.method).1
  have X0 : Stand p l e ({ frames := 3, cells := 2, slots := 24, locals := 42 } : Room) s m #[(.ref a1), (.int (0 : Int32)), (.int nn)] below meth c s₁ [] 0 0 := Stand.of_body Bd
  have e0 : s₁.heap = h0 := by rw [← hh, Bd.state]; rfl
  have N0 := Fr.nil Z.heap.size
  have Z0 : Z.heap.size ≤ h0.size := OL.2.1
  have lt_0 : @LT.lt Nat _ a1 h0.size := p0_.lt
  obtain ⟨PP, hPP⟩ : ∃ PP : Outcome → State → Prop, PP = (fun o tE => ∃ v L, o = .returned v ∧ Q_cmp3 Z a1 nn cs k1 d1 h0 v tE.heap L ∧ FrameEnd s o tE L ({ frames := 3, cells := 2, slots := 24, locals := 42 } : Room).cells ({ frames := 3, cells := 2, slots := 24, locals := 42 } : Room).slots) := ⟨_, rfl⟩
  show own_Go p.tables e below (fun o tE => ∃ v L, o = .returned v ∧ Q_cmp3 Z a1 nn cs k1 d1 h0 v tE.heap L ∧ FrameEnd s o tE L ({ frames := 3, cells := 2, slots := 24, locals := 42 } : Room).cells ({ frames := 3, cells := 2, slots := 24, locals := 42 } : Room).slots) (s₁.setTop (entryFrame m #[(.ref a1), (.int (0 : Int32)), (.int nn)] 6))
  rw [← hPP]
  refine own_Go.st (fun t k => castTop (ef_135 m a1 (0 : Int32) nn) k) ?_
  show own_Go _ _ _ _ (s₁.setTop (mkF m 0 #[.val (.ref a1), .val (.int (0 : Int32)), .val (.int nn), .unset, .unset, .unset] []))
  refine own_Go.st (fun _ k => XS.iloadN X0.here hx rfl (hb hby d_jdk_52_method_16_0) rfl k) ?_
  show own_Go _ _ _ _ (s₁.setTop (mkF m 1 #[.val (.ref a1), .val (.int (0 : Int32)), .val (.int nn), .unset, .unset, .unset] [(.int nn)]))
  obtain ⟨T189, h189, k189, X189, e189, E189, A189, st189⟩ := newP X0 hx hZ (hw _ (List.mem_of_getElem? (i := 19) rfl)) e0 (g := (mkF m 1 #[.val (.ref a1), .val (.int (0 : Int32)), .val (.int nn), .unset, .unset, .unset] [(.int nn)])) rfl (hb hby d_jdk_52_method_16_1) rfl (by rw [hnn]; exact own_of0 (by omega)) (cap := 8) (by rw [hnn, own_ofn (by omega)]; omega) (by decide) (by decide) (by decide)
  obtain ⟨b189, g189⟩ : ∃ z, z = h0.size := ⟨_, rfl⟩
  rw [← g189] at A189 st189
  refine own_Go.st st189 ?_
  have z189 : h0.size ≤ h189.size := E189.1
  have f190 : Arv Z h189 b189 k189 .byte nn [] (.int (0 : Int32)) := Arv.new A189 (by rw [hnn]; exact own_of0 (by omega))
  have lt_b189 : @LT.lt Nat _ b189 h189.size := f190.lt
  show own_Go _ _ _ _ (T189.setTop (mkF m 3 #[.val (.ref a1), .val (.int (0 : Int32)), .val (.int nn), .unset, .unset, .unset] [(.ref b189)]))
  refine own_Go.st (fun _ k => XS.astoreN X189.here hx rfl (hb hby d_jdk_52_method_16_3) rfl rfl (l' := #[.val (.ref a1), .val (.int (0 : Int32)), .val (.int nn), .val (.ref b189), .unset, .unset]) rfl k) ?_
  show own_Go _ _ _ _ (T189.setTop (mkF m 4 #[.val (.ref a1), .val (.int (0 : Int32)), .val (.int nn), .val (.ref b189), .unset, .unset] []))
  refine own_Go.st (fun _ k => XS.aloadN X189.here hx rfl (hb hby d_jdk_52_method_16_4) rfl rfl k) ?_
  show own_Go _ _ _ _ (T189.setTop (mkF m 5 #[.val (.ref a1), .val (.int (0 : Int32)), .val (.int nn), .val (.ref b189), .unset, .unset] [(.ref a1)]))
  refine own_Go.st (fun _ k => XS.iloadN X189.here hx rfl (hb hby d_jdk_52_method_16_5) rfl k) ?_
  show own_Go _ _ _ _ (T189.setTop (mkF m 6 #[.val (.ref a1), .val (.int (0 : Int32)), .val (.int nn), .val (.ref b189), .unset, .unset] [(.int (0 : Int32)), (.ref a1)]))
  refine own_Go.st (fun _ k => XS.aloadN X189.here hx rfl (hb hby d_jdk_52_method_16_6) rfl rfl k) ?_
  show own_Go _ _ _ _ (T189.setTop (mkF m 7 #[.val (.ref a1), .val (.int (0 : Int32)), .val (.int nn), .val (.ref b189), .unset, .unset] [(.ref b189), (.int (0 : Int32)), (.ref a1)]))
  refine own_Go.st (fun _ k => XS.iconst X189.here hx rfl (hb hby d_jdk_52_method_16_7) k) ?_
  show own_Go _ _ _ _ (T189.setTop (mkF m 8 #[.val (.ref a1), .val (.int (0 : Int32)), .val (.int nn), .val (.ref b189), .unset, .unset] [(.int (0 : Int32)), (.ref b189), (.int (0 : Int32)), (.ref a1)]))
  refine own_Go.st (fun _ k => XS.iloadN X189.here hx rfl (hb hby d_jdk_52_method_16_8) rfl k) ?_
  show own_Go _ _ _ _ (T189.setTop (mkF m 9 #[.val (.ref a1), .val (.int (0 : Int32)), .val (.int nn), .val (.ref b189), .unset, .unset] [(.int nn), (.int (0 : Int32)), (.ref b189), (.int (0 : Int32)), (.ref a1)]))
  have f192 : Arv Z h189 a1 k1 .char nn (cs.map Value.int) d1 := p0_.ext E189
  have f193 : Old Z Z.heap.size h189 := OL.ext E189
  obtain ⟨_, _, ⟨T191, L191, k191, n191⟩, -, X191, ⟨Lc191, hQ191, l191, y191, z191⟩, st191⟩ := Jvm.LawKit.callS X189 hx (y := (⟨"java/lang/StringUTF16", "compress", "([CI[BII)I"⟩ : MethodName)) hown (mvT hZ (hw _ (List.mem_of_getElem? (i := 49) rfl))) (mvT hZ (hw _ (List.mem_of_getElem? (i := 50) rfl))) (mvT hZ (hw _ (List.mem_of_getElem? (i := 47) rfl))) (mvT hZ (hw _ (List.mem_of_getElem? (i := 51) rfl))) (by decide) (backOf (W := 0) (rm_cmp5 l Z a0 hw [] a1 b189 nn cs k1 d1 k189 [] (.int (0 : Int32)) h189 f193 f192 f190 (by first | assumption | decide) (by omega) (by first | assumption | decide) (by omega)) hZ (hw _ (List.mem_of_getElem? (i := 51) rfl)) (hw _ (List.mem_of_getElem? (i := 47) rfl)) (by decide) (by decide)) (g := (mkF m 9 #[.val (.ref a1), .val (.int (0 : Int32)), .val (.int nn), .val (.ref b189), .unset, .unset] [(.int nn), (.int (0 : Int32)), (.ref b189), (.int (0 : Int32)), (.ref a1)])) rfl (by rw [hml]; rfl) (argsL := [(.ref a1), (.int (0 : Int32)), (.ref b189), (.int (0 : Int32)), (.int nn)]) (rest := []) (lenOf pd_144 rfl) rfl (by show 2 * 0 + _ ≤ _; exact Nat.le_of_eq rfl) (hb hby d_jdk_52_method_16_9) (fun _ _ => ⟨rfl, e189, (by decide : 1 + 0 ≤ _), (by decide : 8 + 0 ≤ _)⟩)
  dsimp only [Pt.U, Pt.locs, Pt.cells, Pt.slots] at X191 l191 y191 z191 st191 hQ191
  subst l191 y191 z191
  obtain ⟨f_191, vs4_191, rfl, N191q, K191, f191_0, pr191_0, pr191_1⟩ := hQ191
  have N191 := Fr.app N0 N191q
  have z191 : h189.size ≤ T191.heap.size := K191.1
  have lt191_0 : @LT.lt Nat _ b189 T191.heap.size := f191_0.lt
  have hf1 := pr191_0
  have hf2 := pr191_1
  refine own_Go.st st191 ?_
  show own_Go _ _ _ _ (T191.setTop (mkF m 12 #[.val (.ref a1), .val (.int (0 : Int32)), .val (.int nn), .val (.ref b189), .unset, .unset] [(.int (Int32.ofNat f_191))]))
  refine own_Go.st (fun _ k => XS.istore X191.here hx rfl (hb hby d_jdk_52_method_16_12) rfl (l' := #[.val (.ref a1), .val (.int (0 : Int32)), .val (.int nn), .val (.ref b189), .val (.int (Int32.ofNat f_191)), .unset]) rfl k) ?_
  show own_Go _ _ _ _ (T191.setTop (mkF m 14 #[.val (.ref a1), .val (.int (0 : Int32)), .val (.int nn), .val (.ref b189), .val (.int (Int32.ofNat f_191)), .unset] []))
  refine own_Go.st (fun _ k => XS.iload X191.here hx rfl (hb hby d_jdk_52_method_16_14) rfl k) ?_
  show own_Go _ _ _ _ (T191.setTop (mkF m 16 #[.val (.ref a1), .val (.int (0 : Int32)), .val (.int nn), .val (.ref b189), .val (.int (Int32.ofNat f_191)), .unset] [(.int (Int32.ofNat f_191))]))
  refine own_Go.st (fun _ k => XS.iloadN X191.here hx rfl (hb hby d_jdk_52_method_16_16) rfl k) ?_
  show own_Go _ _ _ _ (T191.setTop (mkF m 17 #[.val (.ref a1), .val (.int (0 : Int32)), .val (.int nn), .val (.ref b189), .val (.int (Int32.ofNat f_191)), .unset] [(.int nn), (.int (Int32.ofNat f_191))]))
  have hc194 : ¬ ((Int32.ofNat f_191) = nn) := by rw [hnn]; intro q; have := congrArg Int32.toInt q; rw [own_of (by omega), own_of (by omega)] at this; omega
  refine own_Go.st (fun _ k => XS.icmpNo X191.here hx rfl (hb hby d_jdk_52_method_16_17) rfl (feq hc194).1 k) ?_
  show own_Go _ _ _ _ (T191.setTop (mkF m 20 #[.val (.ref a1), .val (.int (0 : Int32)), .val (.int nn), .val (.ref b189), .val (.int (Int32.ofNat f_191)), .unset] []))
  refine own_Go.st (fun _ k => XS.aloadN X191.here hx rfl (hb hby d_jdk_52_method_16_20) rfl rfl k) ?_
  show own_Go _ _ _ _ (T191.setTop (mkF m 21 #[.val (.ref a1), .val (.int (0 : Int32)), .val (.int nn), .val (.ref b189), .val (.int (Int32.ofNat f_191)), .unset] [(.ref a1)]))
  refine own_Go.st (fun _ k => XS.iloadN X191.here hx rfl (hb hby d_jdk_52_method_16_21) rfl k) ?_
  show own_Go _ _ _ _ (T191.setTop (mkF m 22 #[.val (.ref a1), .val (.int (0 : Int32)), .val (.int nn), .val (.ref b189), .val (.int (Int32.ofNat f_191)), .unset] [(.int (0 : Int32)), (.ref a1)]))
  refine own_Go.st (fun _ k => XS.iloadN X191.here hx rfl (hb hby d_jdk_52_method_16_22) rfl k) ?_
  show own_Go _ _ _ _ (T191.setTop (mkF m 23 #[.val (.ref a1), .val (.int (0 : Int32)), .val (.int nn), .val (.ref b189), .val (.int (Int32.ofNat f_191)), .unset] [(.int nn), (.int (0 : Int32)), (.ref a1)]))
  have f196 : Arv Z T191.heap a1 k1 .char nn (cs.map Value.int) d1 := f192.keep K191 (ninS (by show @Ne Nat a1 b189; omega) nin0)
  have f197 : Old Z Z.heap.size T191.heap := f193.keep K191 (allS (by omega) all0)
  obtain ⟨_, _, ⟨T195, L195, k195, n195⟩, -, X195, ⟨Lc195, hQ195, l195, y195, z195⟩, st195⟩ := Jvm.LawKit.callS X191 hx (y := (⟨"java/lang/StringUTF16", "toBytes", "([CII)[B"⟩ : MethodName)) hown (mvT hZ (hw _ (List.mem_of_getElem? (i := 55) rfl))) (mvT hZ (hw _ (List.mem_of_getElem? (i := 56) rfl))) (mvT hZ (hw _ (List.mem_of_getElem? (i := 47) rfl))) (mvT hZ (hw _ (List.mem_of_getElem? (i := 57) rfl))) (by decide) (backOf (W := 0) (rm_tob l Z a0 hw [] a1 nn cs k1 d1 T191.heap f197 f196 st__assertionsDisabled st_HI_BYTE_SHIFT st_LO_BYTE_SHIFT (by first | assumption | decide) (by first | assumption | decide)) hZ (hw _ (List.mem_of_getElem? (i := 57) rfl)) (hw _ (List.mem_of_getElem? (i := 47) rfl)) (by decide) (by decide)) (g := (mkF m 23 #[.val (.ref a1), .val (.int (0 : Int32)), .val (.int nn), .val (.ref b189), .val (.int (Int32.ofNat f_191)), .unset] [(.int nn), (.int (0 : Int32)), (.ref a1)])) rfl (by rw [hml]; rfl) (argsL := [(.ref a1), (.int (0 : Int32)), (.int nn)]) (rest := []) (lenOf pd_153 rfl) rfl (by show 2 * 0 + _ ≤ _; exact Nat.le_of_eq rfl) (hb hby d_jdk_52_method_16_23) (fun _ _ => ⟨rfl, rfl, (by decide : 1 + 1 ≤ _), (by decide : 8 + 16 ≤ _)⟩)
  dsimp only [Pt.U, Pt.locs, Pt.cells, Pt.slots] at X195 l195 y195 z195 st195 hQ195
  subst l195 y195 z195
  obtain ⟨x_195, k_195, rfl, N195q, K195, f195_0, pr195_0⟩ := hQ195
  have N195 := Fr.app N191 N195q
  have z195 : T191.heap.size ≤ T195.heap.size := K195.1
  have lt195_0 : @LT.lt Nat _ x_195 T195.heap.size := f195_0.lt
  refine own_Go.st st195 ?_
  show own_Go _ _ _ _ (T195.setTop (mkF m 26 #[.val (.ref a1), .val (.int (0 : Int32)), .val (.int nn), .val (.ref b189), .val (.int (Int32.ofNat f_191)), .unset] [(.ref x_195)]))
  refine own_Go.st (fun _ k => XS.astore X195.here hx rfl (hb hby d_jdk_52_method_16_26) rfl rfl (l' := #[.val (.ref a1), .val (.int (0 : Int32)), .val (.int nn), .val (.ref b189), .val (.int (Int32.ofNat f_191)), .val (.ref x_195)]) rfl k) ?_
  show own_Go _ _ _ _ (T195.setTop (mkF m 28 #[.val (.ref a1), .val (.int (0 : Int32)), .val (.int nn), .val (.ref b189), .val (.int (Int32.ofNat f_191)), .val (.ref x_195)] []))
  refine own_Go.st (fun _ k => XS.aload X195.here hx rfl (hb hby d_jdk_52_method_16_28) rfl rfl k) ?_
  show own_Go _ _ _ _ (T195.setTop (mkF m 30 #[.val (.ref a1), .val (.int (0 : Int32)), .val (.int nn), .val (.ref b189), .val (.int (Int32.ofNat f_191)), .val (.ref x_195)] [(.ref x_195)]))
  refine own_Go.st (fun _ k => XS.iload X195.here hx rfl (hb hby d_jdk_52_method_16_30) rfl k) ?_
  show own_Go _ _ _ _ (T195.setTop (mkF m 32 #[.val (.ref a1), .val (.int (0 : Int32)), .val (.int nn), .val (.ref b189), .val (.int (Int32.ofNat f_191)), .val (.ref x_195)] [(.int (Int32.ofNat f_191)), (.ref x_195)]))
  have f199 : Old Z Z.heap.size T195.heap := f197.keep K195 all0
  obtain ⟨_, _, ⟨T198, L198, k198, n198⟩, -, X198, ⟨Lc198, hQ198, l198, y198, z198⟩, st198⟩ := Jvm.LawKit.callS X195 hx (y := (⟨"java/lang/StringUTF16", "getChar", "([BI)C"⟩ : MethodName)) hown (mvT hZ (hw _ (List.mem_of_getElem? (i := 71) rfl))) (mvT hZ (hw _ (List.mem_of_getElem? (i := 72) rfl))) (mvT hZ (hw _ (List.mem_of_getElem? (i := 47) rfl))) (mvT hZ (hw _ (List.mem_of_getElem? (i := 73) rfl))) (by decide) (backOf (W := 0) (rm_getc l Z a0 hw [] x_195 (Int32.ofNat f_191) f_191 k_195 (Int32.ofNat (2 * cs.length)) (StrChars.Road.wideBytes cs) (.int (0 : Int32)) (cs.getD f_191 0) T195.heap f199 f195_0 st__assertionsDisabled st_HI_BYTE_SHIFT st_LO_BYTE_SHIFT rfl (by rw [own_wlen]; omega) (by rw [own_wlen]) (by rw [own_wlen]; omega) (StrChars.Road.wide_lo _ _ _ hf1) (StrChars.Road.wide_hi _ _ _ hf1) (hrng _ (by rw [List.getD_eq_getElem?_getD, List.getElem?_eq_getElem hf1]; exact List.getElem_mem _))) hZ (hw _ (List.mem_of_getElem? (i := 73) rfl)) (hw _ (List.mem_of_getElem? (i := 47) rfl)) (by decide) (by decide)) (g := (mkF m 32 #[.val (.ref a1), .val (.int (0 : Int32)), .val (.int nn), .val (.ref b189), .val (.int (Int32.ofNat f_191)), .val (.ref x_195)] [(.int (Int32.ofNat f_191)), (.ref x_195)])) rfl (by rw [hml]; rfl) (argsL := [(.ref x_195), (.int (Int32.ofNat f_191))]) (rest := []) (lenOf pd_158 rfl) rfl (by show 2 * 0 + _ ≤ _; exact Nat.le_of_eq rfl) (hb hby d_jdk_52_method_16_32) (fun _ _ => ⟨rfl, rfl, (by decide : 2 + 0 ≤ _), (by decide : 24 + 0 ≤ _)⟩)
  dsimp only [Pt.U, Pt.locs, Pt.cells, Pt.slots] at X198 l198 y198 z198 st198 hQ198
  subst l198 y198 z198
  obtain ⟨rfl, N198q, K198⟩ := hQ198
  have N198 := Fr.app N195 N198q
  refine own_Go.st st198 ?_
  show own_Go _ _ _ _ (T198.setTop (mkF m 35 #[.val (.ref a1), .val (.int (0 : Int32)), .val (.int nn), .val (.ref b189), .val (.int (Int32.ofNat f_191)), .val (.ref x_195)] [(.int (cs.getD f_191 0))]))
  refine own_Go.st (fun _ k => XS.sipush X198.here hx rfl (hb hby d_jdk_52_method_16_35) k) ?_
  show own_Go _ _ _ _ (T198.setTop (mkF m 38 #[.val (.ref a1), .val (.int (0 : Int32)), .val (.int nn), .val (.ref b189), .val (.int (Int32.ofNat f_191)), .val (.ref x_195)] [(.int (255 : Int32)), (.int (cs.getD f_191 0))]))
  have hc200 : (255 : Int32) < (cs.getD f_191 0) := hf2
  refine own_Go.st (fun _ k => XS.icmpYes X198.here hx rfl (pc0 := 38) (pc' := 54) rfl (hb hby d_jdk_52_method_16_38) rfl (tlt hc200).2.2.1 (by decide) (by decide) k) ?_
  show own_Go _ _ _ _ (T198.setTop (mkF m 54 #[.val (.ref a1), .val (.int (0 : Int32)), .val (.int nn), .val (.ref b189), .val (.int (Int32.ofNat f_191)), .val (.ref x_195)] []))
  refine own_Go.st (fun _ k => XS.aload X198.here hx rfl (hb hby d_jdk_52_method_16_54) rfl rfl k) ?_
  show own_Go _ _ _ _ (T198.setTop (mkF m 56 #[.val (.ref a1), .val (.int (0 : Int32)), .val (.int nn), .val (.ref b189), .val (.int (Int32.ofNat f_191)), .val (.ref x_195)] [(.ref x_195)]))
  obtain ⟨fs201, hr201, hrun201, hend201, hW201, hsm201⟩ := X198.leave (v := some (.ref x_195)) (fun h => by rw [Bd.returns] at h; cases h)
  have K202 : Keep h0 h189 [] := (Keep.refl h0 []).ext E189
  have K203 : Keep h0 T191.heap [] := K202.trans K191 (allS (Or.inr (by omega)) all0)
  have K204 : Keep h0 T195.heap [] := K203.trans K195 all0
  subst hPP
  refine ⟨_, _, own_retA X198 hx Bd.returns rfl rfl (hb hby d_jdk_52_method_16_56) hr201, hrun201, hend201, _, _, rfl, ?_, ⟨_, rfl⟩, hW201, hsm201.mono (by decide) (by decide)⟩
  · show Q_cmp3 Z _ _ _ _ _ h0 _ T198.heap _
    rw [K198]
    exact ⟨x_195, k_195, rfl, N198, K204, f195_0, (by omega)⟩
theorem d_jdk_52_method_15_0 : decode jdk_52_method_15_code 0 = .ok (.iload_n 1, 1) := by decide +kernel
theorem d_jdk_52_method_15_1 : decode jdk_52_method_15_code 1 = .ok (.aload_n 0, 1) := by decide +kernel
theorem d_jdk_52_method_15_2 : decode jdk_52_method_15_code 2 = .ok (.arraylength, 1) := by decide +kernel
theorem d_jdk_52_method_15_3 : decode jdk_52_method_15_code 3 = .ok (.isub, 1) := by decide +kernel
theorem d_jdk_52_method_15_4 : decode jdk_52_method_15_code 4 = .ok (.bipush 31, 2) := by decide +kernel
theorem d_jdk_52_method_15_6 : decode jdk_52_method_15_code 6 = .ok (.iushr, 1) := by decide +kernel
theorem d_jdk_52_method_15_7 : decode jdk_52_method_15_code 7 = .ok (.i2b, 1) := by decide +kernel
theorem d_jdk_52_method_15_8 : decode jdk_52_method_15_code 8 = .ok (.ireturn, 1) := by decide +kernel
def Q_cfal (Z : State) (a1 : Nat) (p2 : Int32) (i : Nat) (k : ClassId) (n : Int32) (vs : List Value) (d : Value) (h0 : Heap) (v : Option Value) (h : Heap) (L : List Loc) : Prop := v = some (.int (1 : Int32)) ∧ Fr Z.heap.size L ∧ h = h0
set_option maxRecDepth 65536 in
set_option maxHeartbeats 40000000 in
theorem rm_cfal (l : Launch) (Z : State) (a0 : Array Value) (hw : ∀ d ∈ tables_1, d.before a0 Z = true) (ws : List Jvm.Cond) (a1 : Nat) (p2 : Int32) (i : Nat) (k : ClassId) (n : Int32) (vs : List Value) (d : Value) (h0 : Heap) (OL : Old Z Z.heap.size h0) (p0_ : Arv Z h0 a1 k .byte n vs d) (hp2 : p2 = Int32.ofNat i) (hn2 : n = Int32.ofNat (2 * i)) (hi : 0 < i ∧ i ≤ 4000) :
    MetFree l (⟨"java/lang/StringUTF16", "coderFromArrayLen", "([BI)B"⟩ : MethodName) (head1 (Jvm.Cond.code (⟨"java/lang/StringUTF16", "coderFromArrayLen", "([BI)B"⟩ : MethodName) jdk_52_method_15_code 2 (some .byte) :: ws) ({ frames := 0, cells := 0, slots := 0, locals := 0 } : Room)) (fun a U => a = #[(.ref a1), (.int p2)] ∧ Z.Warmed39 U.vm ∧ U.heap = h0) (fun _ _ _ _ _ => True) (fun _ U o U' => ∃ v L, o = .returned v ∧ Q_cfal Z a1 p2 i k n vs d h0 v U'.heap L ∧ FrameEnd U o U' L ({ frames := 0, cells := 0, slots := 0, locals := 0 } : Room).cells ({ frames := 0, cells := 0, slots := 0, locals := 0 } : Room).slots) := by
  refine MetFree.of_bodySF (plainFor_of_name pn_25) hisR ?_
  intro p e s m args below meth c s₁ Bd hml0 hP hK
  obtain ⟨rfl, hZ, hh⟩ := hP
  have hx := Bd.exec
  have hby := Bd.bytes
  have hml : c.maxLocals = 2 := hml0
  have hown : s.vm.findClass "java/lang/StringUTF16" = some m.cls := findClass_of_methodNamed Bd.named
  have hnm := (name_of_methodNamed Bd.named Bd.method).1
  have X0 : Stand p l e ({ frames := 0, cells := 0, slots := 0, locals := 0 } : Room) s m #[(.ref a1), (.int p2)] below meth c s₁ [] 0 0 := Stand.of_body Bd
  have e0 : s₁.heap = h0 := by rw [← hh, Bd.state]; rfl
  have N0 := Fr.nil Z.heap.size
  have Z0 : Z.heap.size ≤ h0.size := OL.2.1
  have lt_0 : @LT.lt Nat _ a1 h0.size := p0_.lt
  obtain ⟨PP, hPP⟩ : ∃ PP : Outcome → State → Prop, PP = (fun o tE => ∃ v L, o = .returned v ∧ Q_cfal Z a1 p2 i k n vs d h0 v tE.heap L ∧ FrameEnd s o tE L ({ frames := 0, cells := 0, slots := 0, locals := 0 } : Room).cells ({ frames := 0, cells := 0, slots := 0, locals := 0 } : Room).slots) := ⟨_, rfl⟩
  show own_Go p.tables e below (fun o tE => ∃ v L, o = .returned v ∧ Q_cfal Z a1 p2 i k n vs d h0 v tE.heap L ∧ FrameEnd s o tE L ({ frames := 0, cells := 0, slots := 0, locals := 0 } : Room).cells ({ frames := 0, cells := 0, slots := 0, locals := 0 } : Room).slots) (s₁.setTop (entryFrame m #[(.ref a1), (.int p2)] 2))
  rw [← hPP]
  refine own_Go.st (fun t k => castTop (ef_73 m a1 p2) k) ?_
  show own_Go _ _ _ _ (s₁.setTop (mkF m 0 #[.val (.ref a1), .val (.int p2)] []))
  refine own_Go.st (fun _ k => XS.iloadN X0.here hx rfl (hb hby d_jdk_52_method_15_0) rfl k) ?_
  show own_Go _ _ _ _ (s₁.setTop (mkF m 1 #[.val (.ref a1), .val (.int p2)] [(.int p2)]))
  refine own_Go.st (fun _ k => XS.aloadN X0.here hx rfl (hb hby d_jdk_52_method_15_1) rfl rfl k) ?_
  show own_Go _ _ _ _ (s₁.setTop (mkF m 2 #[.val (.ref a1), .val (.int p2)] [(.ref a1), (.int p2)]))
  obtain ⟨c205, Ar205, q205, S205, Nn205, H205, G205⟩ := id p0_
  refine own_Go.st (X0.arraylength hx (by rw [e0]; exact Ar205.1) (State.isArrayOf_alike hZ.alike Ar205.2.1) (g := (mkF m 2 #[.val (.ref a1), .val (.int p2)] [(.ref a1), (.int p2)])) rfl rfl (hb hby d_jdk_52_method_15_2)) ?_
  rw [len_of S205 Nn205]
  show own_Go _ _ _ _ (s₁.setTop (mkF m 3 #[.val (.ref a1), .val (.int p2)] [(.int n), (.int p2)]))
  refine own_Go.st (fun _ k => XS.isub X0.here hx rfl (hb hby d_jdk_52_method_15_3) rfl k) ?_
  show own_Go _ _ _ _ (s₁.setTop (mkF m 4 #[.val (.ref a1), .val (.int p2)] [(.int (p2 - n))]))
  refine own_Go.st (fun _ k => XS.bipush X0.here hx rfl (hb hby d_jdk_52_method_15_4) k) ?_
  show own_Go _ _ _ _ (s₁.setTop (mkF m 6 #[.val (.ref a1), .val (.int p2)] [(.int (31 : Int32)), (.int (p2 - n))]))
  refine own_Go.st (fun _ k => XS.iushr X0.here hx rfl (hb hby d_jdk_52_method_15_6) rfl k) ?_
  show own_Go _ _ _ _ (s₁.setTop (mkF m 7 #[.val (.ref a1), .val (.int p2)] [(.int (((p2 - n).toUInt32 >>> ((31 : Int32) &&& 31).toUInt32).toInt32))]))
  refine own_Go.st (fun _ k => XS.i2b X0.here hx rfl (hb hby d_jdk_52_method_15_7) rfl k) ?_
  show own_Go _ _ _ _ (s₁.setTop (mkF m 8 #[.val (.ref a1), .val (.int p2)] [(.int ((((p2 - n).toUInt32 >>> ((31 : Int32) &&& 31).toUInt32).toInt32).toInt8.toInt32))]))
  obtain ⟨fs206, hr206, hrun206, hend206, hW206, hsm206⟩ := X0.leave (v := some (.int (nar .byte ((((p2 - n).toUInt32 >>> ((31 : Int32) &&& 31).toUInt32).toInt32).toInt8.toInt32)))) (fun h => by rw [Bd.returns] at h; cases h)
  subst hPP
  refine ⟨_, _, retN X0 hx (t := .byte) Bd.returns (by simp) (hb hby d_jdk_52_method_15_8) hr206, hrun206, hend206, _, _, rfl, ?_, ⟨_, rfl⟩, hW206, hsm206.mono (by decide) (by decide)⟩
  · show Q_cfal Z _ _ _ _ _ _ _ h0 _ s₁.heap _
    rw [e0]
    exact ⟨(by rw [hp2, hn2, own_cfal hi]), N0, rfl⟩
theorem d_jdk_42_method_149_27 : decode jdk_42_method_149_code 27 = .ok (.getstatic 38, 3) := by decide +kernel
theorem d_jdk_42_method_149_30 : decode jdk_42_method_149_code 30 = .ok (.ifCond .eq 28, 3) := by decide +kernel
theorem d_jdk_42_method_149_33 : decode jdk_42_method_149_code 33 = .ok (.aload_n 1, 1) := by decide +kernel
theorem d_jdk_42_method_149_34 : decode jdk_42_method_149_code 34 = .ok (.iload_n 2, 1) := by decide +kernel
theorem d_jdk_42_method_149_35 : decode jdk_42_method_149_code 35 = .ok (.iload_n 3, 1) := by decide +kernel
theorem d_jdk_42_method_149_36 : decode jdk_42_method_149_code 36 = .ok (.invokestatic 177, 3) := by decide +kernel
theorem d_jdk_42_method_149_39 : decode jdk_42_method_149_code 39 = .ok (.astore 5, 2) := by decide +kernel
theorem d_jdk_42_method_149_41 : decode jdk_42_method_149_code 41 = .ok (.aload_n 0, 1) := by decide +kernel
theorem d_jdk_42_method_149_42 : decode jdk_42_method_149_code 42 = .ok (.aload 5, 2) := by decide +kernel
theorem d_jdk_42_method_149_44 : decode jdk_42_method_149_code 44 = .ok (.iload_n 3, 1) := by decide +kernel
theorem pd_182 : parseMethodDescriptor "([BI)B" = some ⟨[(.array .byte), .int], some .byte⟩ := by decide +kernel
theorem d_jdk_42_method_149_45 : decode jdk_42_method_149_code 45 = .ok (.invokestatic 47, 3) := by decide +kernel
theorem d_jdk_42_method_149_48 : decode jdk_42_method_149_code 48 = .ok (.putfield 15, 3) := by decide +kernel
theorem d_jdk_42_method_149_51 : decode jdk_42_method_149_code 51 = .ok (.aload_n 0, 1) := by decide +kernel
theorem d_jdk_42_method_149_52 : decode jdk_42_method_149_code 52 = .ok (.aload 5, 2) := by decide +kernel
theorem d_jdk_42_method_149_54 : decode jdk_42_method_149_code 54 = .ok (.putfield 9, 3) := by decide +kernel
theorem d_jdk_42_method_149_57 : decode jdk_42_method_149_code 57 = .ok (.return_, 1) := by decide +kernel
def Q_init4u (Z : State) (a1 : Nat) (a2 : Nat) (nn : Int32) (cs : List Int32) (k1 : ClassId) (d1 : Value) (zc : Int32) (h0 : Heap) (v : Option Value) (h : Heap) (L : List Loc) : Prop := ∃ (t : Nat), v = none ∧ Fr Z.heap.size L ∧ Keep h0 h [a1] ∧ own_Str Z h a1 t cs ∧ (h0.size ≤ t)
set_option maxRecDepth 65536 in
set_option maxHeartbeats 40000000 in
theorem rm_init4u (l : Launch) (Z : State) (a0 : Array Value) (hw : ∀ d ∈ tables_1, d.before a0 Z = true) (ws : List Jvm.Cond) (a1 : Nat) (a2 : Nat) (nn : Int32) (cs : List Int32) (k1 : ClassId) (d1 : Value) (zc : Int32) (h0 : Heap) (OL : Old Z Z.heap.size h0) (p0_ : Exa Z h0 a1 "java/lang/String") (p1_ : Fld Z h0 a1 "java/lang/String" "value" "[B" .null) (p2_ : Fld Z h0 a1 "java/lang/String" "coder" "B" (.int (0 : Int32))) (p3_ : Arv Z h0 a2 k1 .char nn (cs.map Value.int) d1) (st_COMPACT_STRINGS : Sta Z Z.heap "java/lang/String" "COMPACT_STRINGS" "Z" (.int zc)) (st__assertionsDisabled : Sta Z Z.heap "java/lang/StringUTF16" "$assertionsDisabled" "Z" (.int (1 : Int32))) (st_HI_BYTE_SHIFT : Sta Z Z.heap "java/lang/StringUTF16" "HI_BYTE_SHIFT" "I" (.int (0 : Int32))) (st_LO_BYTE_SHIFT : Sta Z Z.heap "java/lang/StringUTF16" "LO_BYTE_SHIFT" "I" (.int (8 : Int32))) (hnn : nn = Int32.ofNat cs.length) (hle : cs.length ≤ 8) (hbig : ∃ c ∈ cs, (255 : Int32) < c) (hrng : ∀ c ∈ cs, ¬ c < 0 ∧ ¬ (65535 : Int32) < c) (hn0 : Z.heap.size ≤ a1) (hzc : ¬ zc = 0) :
    MetFree l (⟨"java/lang/String", "<init>", "([CIILjava/lang/Void;)V"⟩ : MethodName) (head1 (Jvm.Cond.code (⟨"java/lang/String", "<init>", "([CIILjava/lang/Void;)V"⟩ : MethodName) jdk_42_method_149_code 6 none :: ws) ({ frames := 4, cells := 2, slots := 24, locals := 59 } : Room)) (fun a U => a = #[(.ref a1), (.ref a2), (.int (0 : Int32)), (.int nn), .null] ∧ Z.Warmed39 U.vm ∧ U.heap = h0) (fun _ _ _ _ _ => True) (fun _ U o U' => ∃ v L, o = .returned v ∧ Q_init4u Z a1 a2 nn cs k1 d1 zc h0 v U'.heap L ∧ FrameEnd U o U' L ({ frames := 4, cells := 2, slots := 24, locals := 59 } : Room).cells ({ frames := 4, cells := 2, slots := 24, locals := 59 } : Room).slots) := by
  refine MetFree.of_bodySF (plainFor_of_name pn_0) hisR ?_
  intro p e s m args below meth c s₁ Bd hml0 hP hK
  obtain ⟨rfl, hZ, hh⟩ := hP
  have hx := Bd.exec
  have hby := Bd.bytes
  have hml : c.maxLocals = 6 := hml0
  have hown : s.vm.findClass "java/lang/String" = some m.cls := findClass_of_methodNamed Bd.named
  have hnm := (name_of_methodNamed Bd.named Bd.method).1
  have X0 : Stand p l e ({ frames := 4, cells := 2, slots := 24, locals := 59 } : Room) s m #[(.ref a1), (.ref a2), (.int (0 : Int32)), (.int nn), .null] below meth c s₁ [] 0 0 := Stand.of_body Bd
  have e0 : s₁.heap = h0 := by rw [← hh, Bd.state]; rfl
  have N0 := Fr.nil Z.heap.size
  have Z0 : Z.heap.size ≤ h0.size := OL.2.1
  have lt_0 : @LT.lt Nat _ a1 h0.size := p0_.lt
  have lt_1 : @LT.lt Nat _ a1 h0.size := p1_.lt
  have lt_2 : @LT.lt Nat _ a1 h0.size := p2_.lt
  have lt_3 : @LT.lt Nat _ a2 h0.size := p3_.lt
  obtain ⟨PP, hPP⟩ : ∃ PP : Outcome → State → Prop, PP = (fun o tE => ∃ v L, o = .returned v ∧ Q_init4u Z a1 a2 nn cs k1 d1 zc h0 v tE.heap L ∧ FrameEnd s o tE L ({ frames := 4, cells := 2, slots := 24, locals := 59 } : Room).cells ({ frames := 4, cells := 2, slots := 24, locals := 59 } : Room).slots) := ⟨_, rfl⟩
  show own_Go p.tables e below (fun o tE => ∃ v L, o = .returned v ∧ Q_init4u Z a1 a2 nn cs k1 d1 zc h0 v tE.heap L ∧ FrameEnd s o tE L ({ frames := 4, cells := 2, slots := 24, locals := 59 } : Room).cells ({ frames := 4, cells := 2, slots := 24, locals := 59 } : Room).slots) (s₁.setTop (entryFrame m #[(.ref a1), (.ref a2), (.int (0 : Int32)), (.int nn), .null] 6))
  rw [← hPP]
  refine own_Go.st (fun t k => castTop (ef_1 m a1 a2 (0 : Int32) nn) k) ?_
  show own_Go _ _ _ _ (s₁.setTop (mkF m 0 #[.val (.ref a1), .val (.ref a2), .val (.int (0 : Int32)), .val (.int nn), .val .null, .unset] []))
  refine own_Go.st (fun _ k => XS.aloadN X0.here hx rfl (hb hby d_jdk_42_method_149_0) rfl rfl k) ?_
  show own_Go _ _ _ _ (s₁.setTop (mkF m 1 #[.val (.ref a1), .val (.ref a2), .val (.int (0 : Int32)), .val (.int nn), .val .null, .unset] [(.ref a1)]))
  obtain ⟨T207, X207, e207, st207⟩ := initO X0 hx hZ hown (hw _ (List.mem_of_getElem? (i := 15) rfl)) (hw _ (List.mem_of_getElem? (i := 16) rfl)) (hw _ (List.mem_of_getElem? (i := 17) rfl)) e0 (g := (mkF m 1 #[.val (.ref a1), .val (.ref a2), .val (.int (0 : Int32)), .val (.int nn), .val .null, .unset] [(.ref a1)])) rfl (by rw [hml]; rfl) rfl (hb hby d_jdk_42_method_149_1) (by decide) (W := 0) (by show 2 * 0 + _ ≤ _; exact Nat.le_of_eq rfl) (by decide)
  refine own_Go.st st207 ?_
  show own_Go _ _ _ _ (T207.setTop (mkF m 4 #[.val (.ref a1), .val (.ref a2), .val (.int (0 : Int32)), .val (.int nn), .val .null, .unset] []))
  refine own_Go.st (fun _ k => XS.iloadN X207.here hx rfl (hb hby d_jdk_42_method_149_4) rfl k) ?_
  show own_Go _ _ _ _ (T207.setTop (mkF m 5 #[.val (.ref a1), .val (.ref a2), .val (.int (0 : Int32)), .val (.int nn), .val .null, .unset] [(.int nn)]))
  have hc208 : ¬ (nn = (0 : Int32)) := by have e0 : (0 : Int32).toInt = 0 := (by decide); have hl : 0 < cs.length := (by obtain ⟨c, hc, -⟩ := hbig; exact List.length_pos_of_mem hc); rw [hnn]; intro q; have q2 := congrArg Int32.toInt q; rw [own_of (by omega), e0] at q2; omega
  refine own_Go.st (fun _ k => XS.ifYes X207.here hx rfl (pc0 := 5) (pc' := 27) rfl (hb hby d_jdk_42_method_149_5) rfl ((if0 _ _).trans (feq hc208).2) (by decide) (by decide) k) ?_
  show own_Go _ _ _ _ (T207.setTop (mkF m 27 #[.val (.ref a1), .val (.ref a2), .val (.int (0 : Int32)), .val (.int nn), .val .null, .unset] []))
  obtain ⟨T209, X209, e209, st209⟩ := getS2 X207 hx hZ hown (host := "") (Or.inl (hw _ (List.mem_of_getElem? (i := 41) rfl))) Via.refl e207 (st_COMPACT_STRINGS.ext OL.2) (g := (mkF m 27 #[.val (.ref a1), .val (.ref a2), .val (.int (0 : Int32)), .val (.int nn), .val .null, .unset] [])) rfl (hb hby d_jdk_42_method_149_27)
  refine own_Go.st st209 ?_
  show own_Go _ _ _ _ (T209.setTop (mkF m 30 #[.val (.ref a1), .val (.ref a2), .val (.int (0 : Int32)), .val (.int nn), .val .null, .unset] [(.int zc)]))
  have hc210 : ¬ (zc = (0 : Int32)) := hzc
  refine own_Go.st (fun _ k => XS.ifNo X209.here hx rfl (hb hby d_jdk_42_method_149_30) rfl ((if0 _ _).trans (feq hc210).1) k) ?_
  show own_Go _ _ _ _ (T209.setTop (mkF m 33 #[.val (.ref a1), .val (.ref a2), .val (.int (0 : Int32)), .val (.int nn), .val .null, .unset] []))
  refine own_Go.st (fun _ k => XS.aloadN X209.here hx rfl (hb hby d_jdk_42_method_149_33) rfl rfl k) ?_
  show own_Go _ _ _ _ (T209.setTop (mkF m 34 #[.val (.ref a1), .val (.ref a2), .val (.int (0 : Int32)), .val (.int nn), .val .null, .unset] [(.ref a2)]))
  refine own_Go.st (fun _ k => XS.iloadN X209.here hx rfl (hb hby d_jdk_42_method_149_34) rfl k) ?_
  show own_Go _ _ _ _ (T209.setTop (mkF m 35 #[.val (.ref a1), .val (.ref a2), .val (.int (0 : Int32)), .val (.int nn), .val .null, .unset] [(.int (0 : Int32)), (.ref a2)]))
  refine own_Go.st (fun _ k => XS.iloadN X209.here hx rfl (hb hby d_jdk_42_method_149_35) rfl k) ?_
  show own_Go _ _ _ _ (T209.setTop (mkF m 36 #[.val (.ref a1), .val (.ref a2), .val (.int (0 : Int32)), .val (.int nn), .val .null, .unset] [(.int nn), (.int (0 : Int32)), (.ref a2)]))
  obtain ⟨_, _, ⟨T211, L211, k211, n211⟩, -, X211, ⟨Lc211, hQ211, l211, y211, z211⟩, st211⟩ := Jvm.LawKit.callS X209 hx (y := (⟨"java/lang/StringUTF16", "compress", "([CII)[B"⟩ : MethodName)) hown (mvT hZ (hw _ (List.mem_of_getElem? (i := 45) rfl))) (mvT hZ (hw _ (List.mem_of_getElem? (i := 46) rfl))) (mvT hZ (hw _ (List.mem_of_getElem? (i := 47) rfl))) (mvT hZ (hw _ (List.mem_of_getElem? (i := 48) rfl))) (by decide) (backOf (W := 0) (rm_cmp3 l Z a0 hw [] a2 nn cs k1 d1 h0 OL p3_ st__assertionsDisabled st_HI_BYTE_SHIFT st_LO_BYTE_SHIFT (by first | assumption | decide) (by first | assumption | decide) (by first | assumption | decide) (by first | assumption | decide)) hZ (hw _ (List.mem_of_getElem? (i := 48) rfl)) (hw _ (List.mem_of_getElem? (i := 47) rfl)) (by decide) (by decide)) (g := (mkF m 36 #[.val (.ref a1), .val (.ref a2), .val (.int (0 : Int32)), .val (.int nn), .val .null, .unset] [(.int nn), (.int (0 : Int32)), (.ref a2)])) rfl (by rw [hml]; rfl) (argsL := [(.ref a2), (.int (0 : Int32)), (.int nn)]) (rest := []) (lenOf pd_153 rfl) rfl (by show 2 * 0 + _ ≤ _; exact Nat.le_of_eq rfl) (hb hby d_jdk_42_method_149_36) (fun _ _ => ⟨rfl, e209, (by decide : 0 + 2 ≤ _), (by decide : 0 + 24 ≤ _)⟩)
  dsimp only [Pt.U, Pt.locs, Pt.cells, Pt.slots] at X211 l211 y211 z211 st211 hQ211
  subst l211 y211 z211
  obtain ⟨x_211, k_211, rfl, N211q, K211, f211_0, pr211_0⟩ := hQ211
  have N211 := Fr.app N0 N211q
  have z211 : h0.size ≤ T211.heap.size := K211.1
  have lt211_0 : @LT.lt Nat _ x_211 T211.heap.size := f211_0.lt
  refine own_Go.st st211 ?_
  show own_Go _ _ _ _ (T211.setTop (mkF m 39 #[.val (.ref a1), .val (.ref a2), .val (.int (0 : Int32)), .val (.int nn), .val .null, .unset] [(.ref x_211)]))
  refine own_Go.st (fun _ k => XS.astore X211.here hx rfl (hb hby d_jdk_42_method_149_39) rfl rfl (l' := #[.val (.ref a1), .val (.ref a2), .val (.int (0 : Int32)), .val (.int nn), .val .null, .val (.ref x_211)]) rfl k) ?_
  show own_Go _ _ _ _ (T211.setTop (mkF m 41 #[.val (.ref a1), .val (.ref a2), .val (.int (0 : Int32)), .val (.int nn), .val .null, .val (.ref x_211)] []))
  refine own_Go.st (fun _ k => XS.aloadN X211.here hx rfl (hb hby d_jdk_42_method_149_41) rfl rfl k) ?_
  show own_Go _ _ _ _ (T211.setTop (mkF m 42 #[.val (.ref a1), .val (.ref a2), .val (.int (0 : Int32)), .val (.int nn), .val .null, .val (.ref x_211)] [(.ref a1)]))
  refine own_Go.st (fun _ k => XS.aload X211.here hx rfl (hb hby d_jdk_42_method_149_42) rfl rfl k) ?_
  show own_Go _ _ _ _ (T211.setTop (mkF m 44 #[.val (.ref a1), .val (.ref a2), .val (.int (0 : Int32)), .val (.int nn), .val .null, .val (.ref x_211)] [(.ref x_211), (.ref a1)]))
  refine own_Go.st (fun _ k => XS.iloadN X211.here hx rfl (hb hby d_jdk_42_method_149_44) rfl k) ?_
  show own_Go _ _ _ _ (T211.setTop (mkF m 45 #[.val (.ref a1), .val (.ref a2), .val (.int (0 : Int32)), .val (.int nn), .val .null, .val (.ref x_211)] [(.int nn), (.ref x_211), (.ref a1)]))
  have f213 : Old Z Z.heap.size T211.heap := OL.keep K211 all0
  obtain ⟨_, _, ⟨T212, L212, k212, n212⟩, -, X212, ⟨Lc212, hQ212, l212, y212, z212⟩, st212⟩ := Jvm.LawKit.callS X211 hx (y := (⟨"java/lang/StringUTF16", "coderFromArrayLen", "([BI)B"⟩ : MethodName)) hown (mvT hZ (hw _ (List.mem_of_getElem? (i := 52) rfl))) (mvT hZ (hw _ (List.mem_of_getElem? (i := 53) rfl))) (mvT hZ (hw _ (List.mem_of_getElem? (i := 47) rfl))) (mvT hZ (hw _ (List.mem_of_getElem? (i := 54) rfl))) (by decide) (backOf (W := 1) (rm_cfal l Z a0 hw [] x_211 nn cs.length k_211 (Int32.ofNat (2 * cs.length)) (StrChars.Road.wideBytes cs) (.int (0 : Int32)) T211.heap f213 f211_0 hnn rfl ⟨(by obtain ⟨c, hc, -⟩ := hbig; exact List.length_pos_of_mem hc), by omega⟩) hZ (hw _ (List.mem_of_getElem? (i := 54) rfl)) (hw _ (List.mem_of_getElem? (i := 47) rfl)) (by decide) (by decide)) (g := (mkF m 45 #[.val (.ref a1), .val (.ref a2), .val (.int (0 : Int32)), .val (.int nn), .val .null, .val (.ref x_211)] [(.int nn), (.ref x_211), (.ref a1)])) rfl (by rw [hml]; rfl) (argsL := [(.ref x_211), (.int nn)]) (rest := [(.ref a1)]) (lenOf pd_182 rfl) rfl (by show 2 * 0 + _ ≤ _; exact Nat.le_of_eq rfl) (hb hby d_jdk_42_method_149_45) (fun _ _ => ⟨rfl, rfl, (by decide : 2 + 0 ≤ _), (by decide : 24 + 0 ≤ _)⟩)
  dsimp only [Pt.U, Pt.locs, Pt.cells, Pt.slots] at X212 l212 y212 z212 st212 hQ212
  subst l212 y212 z212
  obtain ⟨rfl, N212q, K212⟩ := hQ212
  have N212 := Fr.app N211 N212q
  refine own_Go.st st212 ?_
  show own_Go _ _ _ _ (T212.setTop (mkF m 48 #[.val (.ref a1), .val (.ref a2), .val (.int (0 : Int32)), .val (.int nn), .val .null, .val (.ref x_211)] [(.int (1 : Int32)), (.ref a1)]))
  have f214 : Fld Z T211.heap a1 "java/lang/String" "coder" "B" (.int (0 : Int32)) := p2_.keep K211 nin0
  have f215 : Exa Z T211.heap a1 "java/lang/String" := p0_.keep K211
  obtain ⟨T216, h216, X216, e216, W216, st216⟩ := putF X212 hx hZ hown (host := "") (Or.inl (hw _ (List.mem_of_getElem? (i := 25) rfl))) Via.refl K212 f214 f215 (Or.inr ⟨(hw _ (List.mem_of_getElem? (i := 21) rfl)), rfl, hnm⟩) (hw _ (List.mem_of_getElem? (i := 6) rfl)) (ty := .byte) (by decide) rfl (by decide) (g := (mkF m 48 #[.val (.ref a1), .val (.ref a2), .val (.int (0 : Int32)), .val (.int nn), .val .null, .val (.ref x_211)] [(.int (1 : Int32)), (.ref a1)])) rfl rfl (hb hby d_jdk_42_method_149_48)
  refine own_Go.st st216 ?_
  have N216 := Fr.snoc X216 N212 (by omega)
  have z216 : T211.heap.size ≤ h216.size := Nat.le_of_eq W216.size.symm
  have f217 : Fld Z h216 a1 "java/lang/String" "coder" "B" (.int (1 : Int32)) := f214.same W216
  show own_Go _ _ _ _ (T216.setTop (mkF m 51 #[.val (.ref a1), .val (.ref a2), .val (.int (0 : Int32)), .val (.int nn), .val .null, .val (.ref x_211)] []))
  refine own_Go.st (fun _ k => XS.aloadN X216.here hx rfl (hb hby d_jdk_42_method_149_51) rfl rfl k) ?_
  show own_Go _ _ _ _ (T216.setTop (mkF m 52 #[.val (.ref a1), .val (.ref a2), .val (.int (0 : Int32)), .val (.int nn), .val .null, .val (.ref x_211)] [(.ref a1)]))
  refine own_Go.st (fun _ k => XS.aload X216.here hx rfl (hb hby d_jdk_42_method_149_52) rfl rfl k) ?_
  show own_Go _ _ _ _ (T216.setTop (mkF m 54 #[.val (.ref a1), .val (.ref a2), .val (.int (0 : Int32)), .val (.int nn), .val .null, .val (.ref x_211)] [(.ref x_211), (.ref a1)]))
  have f218 : Fld Z T211.heap a1 "java/lang/String" "value" "[B" .null := p1_.keep K211 nin0
  have f219 : Fld Z h216 a1 "java/lang/String" "value" "[B" .null := f218.other W216 (Or.inr (slot_ne (Or.inr (hw _ (List.mem_of_getElem? (i := 20) rfl))) (Or.inr (hw _ (List.mem_of_getElem? (i := 21) rfl))) (by decide) (t := (.array .byte)) (t' := .byte) (by decide) (by decide)))
  have f220 : Exa Z h216 a1 "java/lang/String" := f215.wr W216
  obtain ⟨T221, h221, X221, e221, W221, st221⟩ := putF X216 hx hZ hown (host := "") (Or.inl (hw _ (List.mem_of_getElem? (i := 24) rfl))) Via.refl e216 f219 f220 (Or.inr ⟨(hw _ (List.mem_of_getElem? (i := 20) rfl)), rfl, hnm⟩) (hw _ (List.mem_of_getElem? (i := 6) rfl)) (ty := (.array .byte)) (by decide) rfl rfl (g := (mkF m 54 #[.val (.ref a1), .val (.ref a2), .val (.int (0 : Int32)), .val (.int nn), .val .null, .val (.ref x_211)] [(.ref x_211), (.ref a1)])) rfl rfl (hb hby d_jdk_42_method_149_54)
  refine own_Go.st st221 ?_
  have N221 := Fr.snoc X221 N216 (by omega)
  have z221 : h216.size ≤ h221.size := Nat.le_of_eq W221.size.symm
  have f222 : Fld Z h221 a1 "java/lang/String" "value" "[B" (.ref x_211) := f219.same W221
  show own_Go _ _ _ _ (T221.setTop (mkF m 57 #[.val (.ref a1), .val (.ref a2), .val (.int (0 : Int32)), .val (.int nn), .val .null, .val (.ref x_211)] []))
  obtain ⟨fs223, hr223, hrun223, hend223, hW223, hsm223⟩ := X221.leave (v := none) (fun _ => rfl)
  have f224 : Fld Z h221 a1 "java/lang/String" "coder" "B" (.int (1 : Int32)) := f217.other W221 (Or.inr (slot_ne (Or.inr (hw _ (List.mem_of_getElem? (i := 21) rfl))) (Or.inr (hw _ (List.mem_of_getElem? (i := 20) rfl))) (by decide) (t := .byte) (t' := (.array .byte)) (by decide) (by decide)))
  have f225 : Exa Z h221 a1 "java/lang/String" := f220.wr W221
  have ne226 : @Ne Nat a1 x_211 := Exa.neArv f215 f211_0 (hw _ (List.mem_of_getElem? (i := 6) rfl))
  have f227 : Arv Z h216 x_211 k_211 .byte (Int32.ofNat (2 * cs.length)) (StrChars.Road.wideBytes cs) (.int (0 : Int32)) := f211_0.other W216 (Ne.symm ne226)
  have f228 : Arv Z h221 x_211 k_211 .byte (Int32.ofNat (2 * cs.length)) (StrChars.Road.wideBytes cs) (.int (0 : Int32)) := f227.other W221 (Ne.symm ne226)
  have K229 : Keep h0 T211.heap [a1] := (Keep.refl h0 [a1]).trans K211 all0
  have K230 : Keep h0 h216 [a1] := K229.wr W216 (Or.inl (List.mem_of_getElem? (i := 0) rfl))
  have K231 : Keep h0 h221 [a1] := K230.wr W221 (Or.inl (List.mem_of_getElem? (i := 0) rfl))
  subst hPP
  refine ⟨_, _, X221.returnOut hx Bd.returns (hb hby d_jdk_42_method_149_57) hr223, hrun223, hend223, _, _, rfl, ?_, ⟨_, rfl⟩, hW223, hsm223.mono (by decide) (by decide)⟩
  · show Q_init4u Z _ _ _ _ _ _ _ h0 _ T221.heap _
    rw [e221]
    exact ⟨x_211, rfl, N221, K231, ⟨k_211, 1, _, _, f225, f222, f224, f228, Or.inr ⟨rfl, rfl, rfl, hbig⟩, hrng, by omega⟩, (by omega)⟩
def Q_init1u (Z : State) (a1 : Nat) (a2 : Nat) (nn : Int32) (cs : List Int32) (k1 : ClassId) (d1 : Value) (zc : Int32) (h0 : Heap) (v : Option Value) (h : Heap) (L : List Loc) : Prop := ∃ (t : Nat), v = none ∧ Fr Z.heap.size L ∧ Keep h0 h [a1] ∧ own_Str Z h a1 t cs ∧ (h0.size ≤ t)
set_option maxRecDepth 65536 in
set_option maxHeartbeats 40000000 in
theorem rm_init1u (l : Launch) (Z : State) (a0 : Array Value) (hw : ∀ d ∈ tables_1, d.before a0 Z = true) (ws : List Jvm.Cond) (a1 : Nat) (a2 : Nat) (nn : Int32) (cs : List Int32) (k1 : ClassId) (d1 : Value) (zc : Int32) (h0 : Heap) (OL : Old Z Z.heap.size h0) (p0_ : Exa Z h0 a1 "java/lang/String") (p1_ : Fld Z h0 a1 "java/lang/String" "value" "[B" .null) (p2_ : Fld Z h0 a1 "java/lang/String" "coder" "B" (.int (0 : Int32))) (p3_ : Arv Z h0 a2 k1 .char nn (cs.map Value.int) d1) (st_COMPACT_STRINGS : Sta Z Z.heap "java/lang/String" "COMPACT_STRINGS" "Z" (.int zc)) (st__assertionsDisabled : Sta Z Z.heap "java/lang/StringUTF16" "$assertionsDisabled" "Z" (.int (1 : Int32))) (st_HI_BYTE_SHIFT : Sta Z Z.heap "java/lang/StringUTF16" "HI_BYTE_SHIFT" "I" (.int (0 : Int32))) (st_LO_BYTE_SHIFT : Sta Z Z.heap "java/lang/StringUTF16" "LO_BYTE_SHIFT" "I" (.int (8 : Int32))) (hnn : nn = Int32.ofNat cs.length) (hle : cs.length ≤ 8) (hbig : ∃ c ∈ cs, (255 : Int32) < c) (hrng : ∀ c ∈ cs, ¬ c < 0 ∧ ¬ (65535 : Int32) < c) (hn0 : Z.heap.size ≤ a1) (hzc : ¬ zc = 0) :
    MetFree l (⟨"java/lang/String", "<init>", "([C)V"⟩ : MethodName) (head1 (Jvm.Cond.code (⟨"java/lang/String", "<init>", "([C)V"⟩ : MethodName) jdk_42_method_3_code 2 none :: ws) ({ frames := 5, cells := 2, slots := 24, locals := 76 } : Room)) (fun a U => a = #[(.ref a1), (.ref a2)] ∧ Z.Warmed39 U.vm ∧ U.heap = h0) (fun _ _ _ _ _ => True) (fun _ U o U' => ∃ v L, o = .returned v ∧ Q_init1u Z a1 a2 nn cs k1 d1 zc h0 v U'.heap L ∧ FrameEnd U o U' L ({ frames := 5, cells := 2, slots := 24, locals := 76 } : Room).cells ({ frames := 5, cells := 2, slots := 24, locals := 76 } : Room).slots) := by
  refine MetFree.of_bodySF (plainFor_of_name pn_0) hisR ?_
  intro p e s m args below meth c s₁ Bd hml0 hP hK
  obtain ⟨rfl, hZ, hh⟩ := hP
  have hx := Bd.exec
  have hby := Bd.bytes
  have hml : c.maxLocals = 2 := hml0
  have hown : s.vm.findClass "java/lang/String" = some m.cls := findClass_of_methodNamed Bd.named
  have hnm := (name_of_methodNamed Bd.named Bd.method).1
  have X0 : Stand p l e ({ frames := 5, cells := 2, slots := 24, locals := 76 } : Room) s m #[(.ref a1), (.ref a2)] below meth c s₁ [] 0 0 := Stand.of_body Bd
  have e0 : s₁.heap = h0 := by rw [← hh, Bd.state]; rfl
  have N0 := Fr.nil Z.heap.size
  have Z0 : Z.heap.size ≤ h0.size := OL.2.1
  have lt_0 : @LT.lt Nat _ a1 h0.size := p0_.lt
  have lt_1 : @LT.lt Nat _ a1 h0.size := p1_.lt
  have lt_2 : @LT.lt Nat _ a1 h0.size := p2_.lt
  have lt_3 : @LT.lt Nat _ a2 h0.size := p3_.lt
  obtain ⟨PP, hPP⟩ : ∃ PP : Outcome → State → Prop, PP = (fun o tE => ∃ v L, o = .returned v ∧ Q_init1u Z a1 a2 nn cs k1 d1 zc h0 v tE.heap L ∧ FrameEnd s o tE L ({ frames := 5, cells := 2, slots := 24, locals := 76 } : Room).cells ({ frames := 5, cells := 2, slots := 24, locals := 76 } : Room).slots) := ⟨_, rfl⟩
  show own_Go p.tables e below (fun o tE => ∃ v L, o = .returned v ∧ Q_init1u Z a1 a2 nn cs k1 d1 zc h0 v tE.heap L ∧ FrameEnd s o tE L ({ frames := 5, cells := 2, slots := 24, locals := 76 } : Room).cells ({ frames := 5, cells := 2, slots := 24, locals := 76 } : Room).slots) (s₁.setTop (entryFrame m #[(.ref a1), (.ref a2)] 2))
  rw [← hPP]
  refine own_Go.st (fun t k => castTop (ef_15 m a1 a2) k) ?_
  show own_Go _ _ _ _ (s₁.setTop (mkF m 0 #[.val (.ref a1), .val (.ref a2)] []))
  refine own_Go.st (fun _ k => XS.aloadN X0.here hx rfl (hb hby d_jdk_42_method_3_0) rfl rfl k) ?_
  show own_Go _ _ _ _ (s₁.setTop (mkF m 1 #[.val (.ref a1), .val (.ref a2)] [(.ref a1)]))
  refine own_Go.st (fun _ k => XS.aloadN X0.here hx rfl (hb hby d_jdk_42_method_3_1) rfl rfl k) ?_
  show own_Go _ _ _ _ (s₁.setTop (mkF m 2 #[.val (.ref a1), .val (.ref a2)] [(.ref a2), (.ref a1)]))
  refine own_Go.st (fun _ k => XS.iconst X0.here hx rfl (hb hby d_jdk_42_method_3_2) k) ?_
  show own_Go _ _ _ _ (s₁.setTop (mkF m 3 #[.val (.ref a1), .val (.ref a2)] [(.int (0 : Int32)), (.ref a2), (.ref a1)]))
  refine own_Go.st (fun _ k => XS.aloadN X0.here hx rfl (hb hby d_jdk_42_method_3_3) rfl rfl k) ?_
  show own_Go _ _ _ _ (s₁.setTop (mkF m 4 #[.val (.ref a1), .val (.ref a2)] [(.ref a2), (.int (0 : Int32)), (.ref a2), (.ref a1)]))
  obtain ⟨c232, Ar232, q232, S232, Nn232, H232, G232⟩ := id p3_
  refine own_Go.st (X0.arraylength hx (by rw [e0]; exact Ar232.1) (State.isArrayOf_alike hZ.alike Ar232.2.1) (g := (mkF m 4 #[.val (.ref a1), .val (.ref a2)] [(.ref a2), (.int (0 : Int32)), (.ref a2), (.ref a1)])) rfl rfl (hb hby d_jdk_42_method_3_4)) ?_
  rw [len_of S232 Nn232]
  show own_Go _ _ _ _ (s₁.setTop (mkF m 5 #[.val (.ref a1), .val (.ref a2)] [(.int nn), (.int (0 : Int32)), (.ref a2), (.ref a1)]))
  refine own_Go.st (fun _ k => XS.aconstNull X0.here hx rfl (hb hby d_jdk_42_method_3_5) k) ?_
  show own_Go _ _ _ _ (s₁.setTop (mkF m 6 #[.val (.ref a1), .val (.ref a2)] [.null, (.int nn), (.int (0 : Int32)), (.ref a2), (.ref a1)]))
  obtain ⟨_, _, ⟨T233, L233, k233, n233⟩, -, X233, ⟨Lc233, hQ233, l233, y233, z233⟩, st233⟩ := X0.specialBack hx (y := (⟨"java/lang/String", "<init>", "([CIILjava/lang/Void;)V"⟩ : MethodName)) rfl hown (mvT hZ (hw _ (List.mem_of_getElem? (i := 11) rfl))) (mvT hZ (hw _ (List.mem_of_getElem? (i := 12) rfl))) (mvT hZ (hw _ (List.mem_of_getElem? (i := 14) rfl))) (by decide) (backOf (W := 0) (rm_init4u l Z a0 hw [] a1 a2 nn cs k1 d1 zc h0 OL p0_ p1_ p2_ p3_ st_COMPACT_STRINGS st__assertionsDisabled st_HI_BYTE_SHIFT st_LO_BYTE_SHIFT (by first | assumption | decide) (by first | assumption | decide) (by first | assumption | decide) (by first | assumption | decide) (by first | assumption | decide) (by first | assumption | decide)) hZ (hw _ (List.mem_of_getElem? (i := 14) rfl)) (hw _ (List.mem_of_getElem? (i := 7) rfl)) (by decide) (by decide)) (g := (mkF m 6 #[.val (.ref a1), .val (.ref a2)] [.null, (.int nn), (.int (0 : Int32)), (.ref a2), (.ref a1)])) rfl (by rw [hml]; rfl) (Steps.refl _) (a := a1) (argsL := [(.ref a2), (.int (0 : Int32)), (.int nn), .null]) (rest := []) (lenOf pd_22 rfl) rfl (by show 2 * 0 + _ ≤ _; exact Nat.le_of_eq rfl) (hb hby d_jdk_42_method_3_6) (fun _ _ => ⟨rfl, e0, (by decide : 0 + 2 ≤ _), (by decide : 0 + 24 ≤ _)⟩)
  dsimp only [Pt.U, Pt.locs, Pt.cells, Pt.slots] at X233 l233 y233 z233 st233 hQ233
  subst l233 y233 z233
  obtain ⟨t_233, rfl, N233q, K233, f233_0, pr233_0⟩ := hQ233
  have N233 := Fr.app N0 N233q
  have z233 : h0.size ≤ T233.heap.size := K233.1
  have lt233_0 : @LT.lt Nat _ a1 T233.heap.size := f233_0.lt
  have ltv233_0 : @LT.lt Nat _ t_233 T233.heap.size := f233_0.ltv
  refine own_Go.tr st233 ?_
  show own_Go _ _ _ _ (T233.setTop (mkF m 9 #[.val (.ref a1), .val (.ref a2)] []))
  obtain ⟨fs234, hr234, hrun234, hend234, hW234, hsm234⟩ := X233.leave (v := none) (fun _ => rfl)
  have K235 : Keep h0 T233.heap [a1] := (Keep.refl h0 [a1]).trans K233 (allS (Or.inl (List.mem_of_getElem? (i := 0) rfl)) all0)
  subst hPP
  refine ⟨_, _, X233.returnOut hx Bd.returns (hb hby d_jdk_42_method_3_9) hr234, hrun234, hend234, _, _, rfl, ?_, ⟨_, rfl⟩, hW234, hsm234.mono (by decide) (by decide)⟩
  · show Q_init1u Z _ _ _ _ _ _ _ h0 _ T233.heap _
    exact ⟨t_233, rfl, N233, K235, f233_0, (by omega)⟩

set_option maxHeartbeats 4000000 in
theorem own_backStr {p : Program} {l : Launch} {e : Env} {R : Room} {s : State} {args : Array Value} {below : List Frame} {len W : Nat} {Z : State} {a0 : Array Value} {h : Heap} (hZ : Z.Warmed39 s.vm) (hw : ∀ d ∈ tables_1, d.before a0 Z = true)
    {x b : Addr} {nn : Int32} {cs : List Int32} {k1 : ClassId} {d1 : Value} {zc : Int32} (OL : Old Z Z.heap.size h) (E : Exa Z h x "java/lang/String") (V : Fld Z h x "java/lang/String" "value" "[B" .null) (C : Fld Z h x "java/lang/String" "coder" "B" (.int (0 : Int32))) (K : Arv Z h b k1 .char nn (cs.map Value.int) d1)
    (s1 : Sta Z Z.heap "java/lang/String" "COMPACT_STRINGS" "Z" (.int zc)) (s2 : Sta Z Z.heap "java/lang/StringUTF16" "$assertionsDisabled" "Z" (.int (1 : Int32))) (s3 : Sta Z Z.heap "java/lang/StringUTF16" "HI_BYTE_SHIFT" "I" (.int (0 : Int32))) (s4 : Sta Z Z.heap "java/lang/StringUTF16" "LO_BYTE_SHIFT" "I" (.int (8 : Int32)))
    (hnn : nn = Int32.ofNat cs.length) (hlen : 0 < cs.length) (hle : cs.length ≤ 8) (hrng : ∀ c ∈ cs, ¬ c < 0 ∧ ¬ (65535 : Int32) < c) (hn0 : Z.heap.size ≤ x) (hzc : ¬ zc = 0) (hfr : 6 ≤ R.frames) (hlo : W + (2 + 11) + 76 ≤ R.locals) :
    Back l R p e below s args (⟨"java/lang/String", "<init>", "([C)V"⟩ : MethodName) len W (fun P a => a = #[.ref x, .ref b] ∧ P.U.heap = h ∧ P.cells + 2 ≤ R.cells ∧ P.slots + 24 ≤ R.slots)
      (fun P _ v B => ∃ L, Q_init1u Z x b nn cs k1 d1 zc h v B.U.heap L ∧ B.locs = P.locs ++ L ∧ B.cells = P.cells + 2 ∧ B.slots = P.slots + 24) := by
  by_cases hbig : ∃ c ∈ cs, (255 : Int32) < c
  · exact backOf (rm := ({ frames := 5, cells := 2, slots := 24, locals := 76 } : Room)) (rm_init1u l Z a0 hw [] x b nn cs k1 d1 zc h OL E V C K s1 s2 s3 s4 hnn hle hbig hrng hn0 hzc) hZ (hw _ (List.mem_of_getElem? (i := 10) rfl)) (hw _ (List.mem_of_getElem? (i := 7) rfl)) hfr hlo
  · have hp : ∀ c ∈ cs, ¬ c < 0 ∧ ¬ (255 : Int32) < c := fun c hc => ⟨(hrng c hc).1, fun q => hbig ⟨c, hc, q⟩⟩
    have hb := StrChars.Road.backV (p := p) (l := l) (e := e) (R := R) (s := s) (args := args) (below := below) (len := len) (W := W) hZ (own_hws hw) (kI := 4) (hw _ (List.mem_of_getElem? (i := 6) rfl)) (cs := cs) (bs := cs.map (fun c => c.toInt8.toInt32)) (n := cs.length) (n0 := Z.heap.size) hn0 (OL.2.1) E V C K (s1.ext OL.2) hzc rfl hnn hlen (by omega) hp rfl (by omega) (by omega)
    intro m meth c A g ig mk a X hg hs hd hW hm hpre
    obtain ⟨hp1, hp2, hp3, hp4⟩ := hpre
    obtain ⟨v, B, X', ⟨L, hq, hl, hc, hsl⟩, st⟩ := hb m meth c A g ig mk a X hg hs hd hW hm ⟨hp1, hp2, by omega, by omega⟩
    refine ⟨v, ⟨B.U, B.locs, A.cells + 2, A.slots + 24⟩, ?_, ⟨L, ?_, hl, rfl, rfl⟩, st⟩
    · exact X'.wide (fun x hx _ => hx) (by show B.cells ≤ A.cells + 2; omega) (by show B.slots ≤ A.slots + 24; omega)
    · obtain ⟨rfl, N, Kp, Ex, Cd, t, kb, u1, u2, u3, Vl, Ar⟩ := hq
      exact ⟨t, rfl, N, Kp, ⟨kb, 0, nn, _, Ex, Vl, Cd, Ar, hnn ▸ StrChars.Road.codOf rfl (fun c q => (hp c q).2), own_upL hp, by omega⟩, u2⟩


theorem own_narRng (x : Int32) : ¬ nar .char x < 0 ∧ ¬ (65535 : Int32) < nar .char x := by
  have h := c_i2c x
  have e2 : (65535 : Int32).toInt = 65535 := by decide
  have e3 : (0 : Int32).toInt = 0 := by decide
  simp only [nar, Int32.lt_iff_toInt_lt, e2, e3]
  omega
theorem own_setRng {cs : List Int32} {i : Nat} {v : Int32} (h : ∀ c ∈ cs, ¬ c < 0 ∧ ¬ (65535 : Int32) < c) (hv : ¬ v < 0 ∧ ¬ (65535 : Int32) < v) : ∀ c ∈ cs.set i v, ¬ c < 0 ∧ ¬ (65535 : Int32) < c := fun c hc => by
  rcases List.mem_or_eq_of_mem_set hc with q | q
  · exact h c q
  · exact q ▸ hv
theorem own_newcs {Z : State} {h : Heap} {a : Addr} {k : ClassId} {n : Int32} (F : Arv Z h a k .char n [] (.int (0 : Int32))) (hn : ¬ n < 0) (hle : n.toNatClampNeg ≤ 7) : ∃ cs : List Int32, Arv Z h a k .char n (cs.map Value.int) (.int (0 : Int32)) ∧ n = Int32.ofNat cs.length ∧ cs.length ≤ 7 ∧ ∀ c ∈ cs, ¬ c < 0 ∧ ¬ (65535 : Int32) < c := by
  refine ⟨List.replicate n.toNatClampNeg 0, ?_, ?_, ?_, ?_⟩
  · rw [List.map_replicate]
    exact F.pad (pad_rep [] _ _)
  · rw [List.length_replicate]
    exact (back32 hn).1.symm
  · rw [List.length_replicate]; exact hle
  · intro c hc
    rw [List.eq_of_mem_replicate hc]
    decide
theorem own_len7 (x : Int32) : ¬ (x &&& (7 : Int32)) < 0 ∧ (x &&& (7 : Int32)).toNatClampNeg ≤ 7 := by
  have h1 := c_mask x 7 3 (by decide) (by decide)
  have e3 : (0 : Int32).toInt = 0 := by decide
  simp only [Int32.lt_iff_toInt_lt, e3, Int32.toNatClampNeg]
  omega

theorem pn_189 : plainName "com/example/roaming_pubsub/roamingpubsub/SessionDirectoryBytesOfPinLaw" = true := by first | (simp [plainName, overriddenIn]; done) | decide +kernel
theorem d_method_3_0 : decode method_3_code 0 = .ok (.iload_n 1, 1) := by decide +kernel
theorem d_method_3_1 : decode method_3_code 1 = .ok (.aload_n 0, 1) := by decide +kernel
theorem d_method_3_2 : decode method_3_code 2 = .ok (.arraylength, 1) := by decide +kernel
theorem d_method_3_3 : decode method_3_code 3 = .ok (.if_icmp .ge 7, 3) := by decide +kernel
theorem d_method_3_6 : decode method_3_code 6 = .ok (.aload_n 0, 1) := by decide +kernel
theorem d_method_3_7 : decode method_3_code 7 = .ok (.iload_n 1, 1) := by decide +kernel
theorem d_method_3_8 : decode method_3_code 8 = .ok (.iload_n 2, 1) := by decide +kernel
theorem d_method_3_9 : decode method_3_code 9 = .ok (.castore, 1) := by decide +kernel
theorem d_method_3_10 : decode method_3_code 10 = .ok (.return_, 1) := by decide +kernel
def Q_put (Z : State) (a1 : Nat) (p2 : Int32) (p3 : Int32) (k : ClassId) (n : Int32) (cs : List Int32) (d : Value) (h0 : Heap) (v : Option Value) (h : Heap) (L : List Loc) : Prop := ∃ (ds : List Int32), v = none ∧ Fr Z.heap.size L ∧ Keep h0 h [a1] ∧ Arv Z h a1 k .char n (ds.map Value.int) d ∧ (n = Int32.ofNat ds.length) ∧ (ds.length ≤ 7) ∧ (∀ c ∈ ds, ¬ c < 0 ∧ ¬ (65535 : Int32) < c)
set_option maxRecDepth 65536 in
set_option maxHeartbeats 40000000 in
theorem rm_put (l : Launch) (Z : State) (a0 : Array Value) (hw : ∀ d ∈ tables_1, d.before a0 Z = true) (ws : List Jvm.Cond) (a1 : Nat) (p2 : Int32) (p3 : Int32) (k : ClassId) (n : Int32) (cs : List Int32) (d : Value) (h0 : Heap) (OL : Old Z Z.heap.size h0) (p0_ : Arv Z h0 a1 k .char n (cs.map Value.int) d) (hp2 : ¬ p2 < 0) (hnn : n = Int32.ofNat cs.length) (hle : cs.length ≤ 7) (hrng : ∀ c ∈ cs, ¬ c < 0 ∧ ¬ (65535 : Int32) < c) (hn0 : Z.heap.size ≤ a1) :
    MetFree l (⟨"com/example/roaming_pubsub/roamingpubsub/SessionDirectoryBytesOfPinLaw", "put", "([CIC)V"⟩ : MethodName) (head1 (Jvm.Cond.code (⟨"com/example/roaming_pubsub/roamingpubsub/SessionDirectoryBytesOfPinLaw", "put", "([CIC)V"⟩ : MethodName) method_3_code 3 none :: ws) ({ frames := 0, cells := 0, slots := 0, locals := 0 } : Room)) (fun a U => a = #[(.ref a1), (.int p2), (.int p3)] ∧ Z.Warmed39 U.vm ∧ U.heap = h0) (fun _ _ _ _ _ => True) (fun _ U o U' => ∃ v L, o = .returned v ∧ Q_put Z a1 p2 p3 k n cs d h0 v U'.heap L ∧ FrameEnd U o U' L ({ frames := 0, cells := 0, slots := 0, locals := 0 } : Room).cells ({ frames := 0, cells := 0, slots := 0, locals := 0 } : Room).slots) := by
  refine MetFree.of_bodySF (plainFor_of_name pn_189) hisR ?_
  intro p e s m args below meth c s₁ Bd hml0 hP hK
  obtain ⟨rfl, hZ, hh⟩ := hP
  have hx := Bd.exec
  have hby := Bd.bytes
  have hml : c.maxLocals = 3 := hml0
  have hown : s.vm.findClass "com/example/roaming_pubsub/roamingpubsub/SessionDirectoryBytesOfPinLaw" = some m.cls := findClass_of_methodNamed Bd.named
  have hnm := (name_of_methodNamed Bd.named Bd.method).1
  have X0 : Stand p l e ({ frames := 0, cells := 0, slots := 0, locals := 0 } : Room) s m #[(.ref a1), (.int p2), (.int p3)] below meth c s₁ [] 0 0 := Stand.of_body Bd
  have e0 : s₁.heap = h0 := by rw [← hh, Bd.state]; rfl
  have N0 := Fr.nil Z.heap.size
  have Z0 : Z.heap.size ≤ h0.size := OL.2.1
  have lt_0 : @LT.lt Nat _ a1 h0.size := p0_.lt
  obtain ⟨PP, hPP⟩ : ∃ PP : Outcome → State → Prop, PP = (fun o tE => ∃ v L, o = .returned v ∧ Q_put Z a1 p2 p3 k n cs d h0 v tE.heap L ∧ FrameEnd s o tE L ({ frames := 0, cells := 0, slots := 0, locals := 0 } : Room).cells ({ frames := 0, cells := 0, slots := 0, locals := 0 } : Room).slots) := ⟨_, rfl⟩
  show own_Go p.tables e below (fun o tE => ∃ v L, o = .returned v ∧ Q_put Z a1 p2 p3 k n cs d h0 v tE.heap L ∧ FrameEnd s o tE L ({ frames := 0, cells := 0, slots := 0, locals := 0 } : Room).cells ({ frames := 0, cells := 0, slots := 0, locals := 0 } : Room).slots) (s₁.setTop (entryFrame m #[(.ref a1), (.int p2), (.int p3)] 3))
  rw [← hPP]
  refine own_Go.st (fun t k => castTop (ef_50 m a1 p2 p3) k) ?_
  show own_Go _ _ _ _ (s₁.setTop (mkF m 0 #[.val (.ref a1), .val (.int p2), .val (.int p3)] []))
  refine own_Go.st (fun _ k => XS.iloadN X0.here hx rfl (hb hby d_method_3_0) rfl k) ?_
  show own_Go _ _ _ _ (s₁.setTop (mkF m 1 #[.val (.ref a1), .val (.int p2), .val (.int p3)] [(.int p2)]))
  refine own_Go.st (fun _ k => XS.aloadN X0.here hx rfl (hb hby d_method_3_1) rfl rfl k) ?_
  show own_Go _ _ _ _ (s₁.setTop (mkF m 2 #[.val (.ref a1), .val (.int p2), .val (.int p3)] [(.ref a1), (.int p2)]))
  obtain ⟨c236, Ar236, q236, S236, Nn236, H236, G236⟩ := id p0_
  refine own_Go.st (X0.arraylength hx (by rw [e0]; exact Ar236.1) (State.isArrayOf_alike hZ.alike Ar236.2.1) (g := (mkF m 2 #[.val (.ref a1), .val (.int p2), .val (.int p3)] [(.ref a1), (.int p2)])) rfl rfl (hb hby d_method_3_2)) ?_
  rw [len_of S236 Nn236]
  show own_Go _ _ _ _ (s₁.setTop (mkF m 3 #[.val (.ref a1), .val (.int p2), .val (.int p3)] [(.int n), (.int p2)]))
  by_cases h3 : p2 < n
  ·
    refine own_Go.st (fun _ k => XS.icmpNo X0.here hx rfl (hb hby d_method_3_3) rfl (tlt h3).2.1 k) ?_
    show own_Go _ _ _ _ (s₁.setTop (mkF m 6 #[.val (.ref a1), .val (.int p2), .val (.int p3)] []))
    refine own_Go.st (fun _ k => XS.aloadN X0.here hx rfl (hb hby d_method_3_6) rfl rfl k) ?_
    show own_Go _ _ _ _ (s₁.setTop (mkF m 7 #[.val (.ref a1), .val (.int p2), .val (.int p3)] [(.ref a1)]))
    refine own_Go.st (fun _ k => XS.iloadN X0.here hx rfl (hb hby d_method_3_7) rfl k) ?_
    show own_Go _ _ _ _ (s₁.setTop (mkF m 8 #[.val (.ref a1), .val (.int p2), .val (.int p3)] [(.int p2), (.ref a1)]))
    refine own_Go.st (fun _ k => XS.iloadN X0.here hx rfl (hb hby d_method_3_8) rfl k) ?_
    show own_Go _ _ _ _ (s₁.setTop (mkF m 9 #[.val (.ref a1), .val (.int p2), .val (.int p3)] [(.int p3), (.int p2), (.ref a1)]))
    obtain ⟨c237, Ar237, q237, S237, Nn237, H237, G237⟩ := id p0_
    have hin237 : ¬ (p2 < 0 ∨ c237.slots.size ≤ (p2).toNatClampNeg) := inb_of S237 ⟨hp2, h3⟩
    obtain ⟨T237, h237, X237, e237, W237, st237⟩ := stC X0 hx hZ e0 Ar237 (j := p2) hin237 (g := (mkF m 9 #[.val (.ref a1), .val (.int p2), .val (.int p3)] [(.int p3), (.int p2), (.ref a1)])) rfl rfl (hb hby d_method_3_9)
    refine own_Go.st st237 ?_
    have N237 := Fr.snoc X237 N0 (by omega)
    have z237 : h0.size ≤ h237.size := Nat.le_of_eq W237.size.symm
    have hlt : p2.toNatClampNeg < cs.length := by
      have a1 := hin237
      have a2 := S237
      rw [hnn, own_ofn (by omega)] at a2
      omega
    have f239 : Arv Z h237 a1 k .char n ((cs.set p2.toNatClampNeg (nar .char p3)).map Value.int) d := by
      rw [List.map_set]
      exact Arv.set Ar237 q237 S237 Nn237 H237 G237 (fits_nar_char _) W237 _ rfl (by rw [List.length_map]; exact hlt)
    show own_Go _ _ _ _ (T237.setTop (mkF m 10 #[.val (.ref a1), .val (.int p2), .val (.int p3)] []))
    obtain ⟨fs240, hr240, hrun240, hend240, hW240, hsm240⟩ := X237.leave (v := none) (fun _ => rfl)
    have K241 : Keep h0 h237 [a1] := (Keep.refl h0 [a1]).wr W237 (Or.inl (List.mem_of_getElem? (i := 0) rfl))
    subst hPP
    refine ⟨_, _, X237.returnOut hx Bd.returns (hb hby d_method_3_10) hr240, hrun240, hend240, _, _, rfl, ?_, ⟨_, rfl⟩, hW240, hsm240.mono (by decide) (by decide)⟩
    · show Q_put Z _ _ _ _ _ _ _ h0 _ T237.heap _
      rw [e237]
      exact ⟨(cs.set p2.toNatClampNeg (nar .char p3)), rfl, N237, K241, f239, (by rw [List.length_set]; exact hnn), (by rw [List.length_set]; exact hle), (own_setRng hrng (own_narRng _))⟩
  ·
    refine own_Go.st (fun _ k => XS.icmpYes X0.here hx rfl (pc0 := 3) (pc' := 10) rfl (hb hby d_method_3_3) rfl (flt h3).2.1 (by decide) (by decide) k) ?_
    show own_Go _ _ _ _ (s₁.setTop (mkF m 10 #[.val (.ref a1), .val (.int p2), .val (.int p3)] []))
    obtain ⟨fs242, hr242, hrun242, hend242, hW242, hsm242⟩ := X0.leave (v := none) (fun _ => rfl)
    subst hPP
    refine ⟨_, _, X0.returnOut hx Bd.returns (hb hby d_method_3_10) hr242, hrun242, hend242, _, _, rfl, ?_, ⟨_, rfl⟩, hW242, hsm242.mono (by decide) (by decide)⟩
    · show Q_put Z _ _ _ _ _ _ _ h0 _ s₁.heap _
      rw [e0]
      exact ⟨cs, rfl, N0, (Keep.refl h0 [a1]), p0_, hnn, hle, hrng⟩
theorem pn_199 : plainName "com/example/roaming_pubsub/roamingpubsub/SessionDirectory" = true := by first | (simp [plainName, overriddenIn]; done) | decide +kernel
theorem ef_200 (m : MethodId) (x0 : Nat) : entryFrame m #[(.ref x0)] 1 = mkF m 0 #[.val (.ref x0)] [] := by first | (simp [entryFrame, mkF, argsToLocals, Value.category]; done) | rfl
theorem d_prog_16_method_2_0 : decode prog_16_method_2_code 0 = .ok (.ldc2_w 61, 3) := by decide +kernel
theorem d_prog_16_method_2_3 : decode prog_16_method_2_code 3 = .ok (.aload_n 0, 1) := by decide +kernel
theorem pd_203 : parseMethodDescriptor "()I" = some ⟨[], some .int⟩ := by decide +kernel
theorem d_prog_16_method_2_4 : decode prog_16_method_2_code 4 = .ok (.invokevirtual 63, 3) := by decide +kernel
theorem d_prog_16_method_2_7 : decode prog_16_method_2_code 7 = .ok (.i2l, 1) := by decide +kernel
theorem d_prog_16_method_2_8 : decode prog_16_method_2_code 8 = .ok (.lmul, 1) := by decide +kernel
theorem d_prog_16_method_2_9 : decode prog_16_method_2_code 9 = .ok (.ldc2_w 69, 3) := by decide +kernel
theorem d_prog_16_method_2_12 : decode prog_16_method_2_code 12 = .ok (.ladd, 1) := by decide +kernel
theorem d_prog_16_method_2_13 : decode prog_16_method_2_code 13 = .ok (.lreturn, 1) := by decide +kernel
def Q_bytesOf (Z : State) (a1 : Nat) (t : Nat) (cs : List Int32) (zc : Int32) (h0 : Heap) (v : Option Value) (h : Heap) (L : List Loc) : Prop := v = some (.long (((2 : Int64) * (Int32.ofNat cs.length).toInt64) + (128 : Int64))) ∧ Fr Z.heap.size L ∧ h = h0
set_option maxRecDepth 65536 in
set_option maxHeartbeats 40000000 in
theorem rm_bytesOf (l : Launch) (Z : State) (a0 : Array Value) (hw : ∀ d ∈ tables_1, d.before a0 Z = true) (ws : List Jvm.Cond) (a1 : Nat) (t : Nat) (cs : List Int32) (zc : Int32) (h0 : Heap) (OL : Old Z Z.heap.size h0) (p0_ : own_Str Z h0 a1 t cs) (st_COMPACT_STRINGS : Sta Z Z.heap "java/lang/String" "COMPACT_STRINGS" "Z" (.int zc)) (hzc : ¬ zc = 0) :
    MetFree l (⟨"com/example/roaming_pubsub/roamingpubsub/SessionDirectory", "bytesOf", "(Ljava/lang/String;)J"⟩ : MethodName) (head1 (Jvm.Cond.code (⟨"com/example/roaming_pubsub/roamingpubsub/SessionDirectory", "bytesOf", "(Ljava/lang/String;)J"⟩ : MethodName) prog_16_method_2_code 1 (some .long) :: ws) ({ frames := 2, cells := 0, slots := 0, locals := 27 } : Room)) (fun a U => a = #[(.ref a1)] ∧ Z.Warmed39 U.vm ∧ U.heap = h0) (fun _ _ _ _ _ => True) (fun _ U o U' => ∃ v L, o = .returned v ∧ Q_bytesOf Z a1 t cs zc h0 v U'.heap L ∧ FrameEnd U o U' L ({ frames := 2, cells := 0, slots := 0, locals := 27 } : Room).cells ({ frames := 2, cells := 0, slots := 0, locals := 27 } : Room).slots) := by
  refine MetFree.of_bodySF (plainFor_of_name pn_199) hisR ?_
  intro p e s m args below meth c s₁ Bd hml0 hP hK
  obtain ⟨rfl, hZ, hh⟩ := hP
  have hx := Bd.exec
  have hby := Bd.bytes
  have hml : c.maxLocals = 1 := hml0
  have hown : s.vm.findClass "com/example/roaming_pubsub/roamingpubsub/SessionDirectory" = some m.cls := findClass_of_methodNamed Bd.named
  have hnm := (name_of_methodNamed Bd.named Bd.method).1
  have X0 : Stand p l e ({ frames := 2, cells := 0, slots := 0, locals := 27 } : Room) s m #[(.ref a1)] below meth c s₁ [] 0 0 := Stand.of_body Bd
  have e0 : s₁.heap = h0 := by rw [← hh, Bd.state]; rfl
  have N0 := Fr.nil Z.heap.size
  have Z0 : Z.heap.size ≤ h0.size := OL.2.1
  have lt_0 : @LT.lt Nat _ a1 h0.size := p0_.lt
  have ltv_0 : @LT.lt Nat _ t h0.size := p0_.ltv
  obtain ⟨PP, hPP⟩ : ∃ PP : Outcome → State → Prop, PP = (fun o tE => ∃ v L, o = .returned v ∧ Q_bytesOf Z a1 t cs zc h0 v tE.heap L ∧ FrameEnd s o tE L ({ frames := 2, cells := 0, slots := 0, locals := 27 } : Room).cells ({ frames := 2, cells := 0, slots := 0, locals := 27 } : Room).slots) := ⟨_, rfl⟩
  show own_Go p.tables e below (fun o tE => ∃ v L, o = .returned v ∧ Q_bytesOf Z a1 t cs zc h0 v tE.heap L ∧ FrameEnd s o tE L ({ frames := 2, cells := 0, slots := 0, locals := 27 } : Room).cells ({ frames := 2, cells := 0, slots := 0, locals := 27 } : Room).slots) (s₁.setTop (entryFrame m #[(.ref a1)] 1))
  rw [← hPP]
  refine own_Go.st (fun t k => castTop (ef_200 m a1) k) ?_
  show own_Go _ _ _ _ (s₁.setTop (mkF m 0 #[.val (.ref a1)] []))
  refine own_Go.st (X0.ldc2Long hx hown (mvT hZ (hw _ (List.mem_of_getElem? (i := 30) rfl))) (g := (mkF m 0 #[.val (.ref a1)] [])) rfl (hb hby d_prog_16_method_2_0)) ?_
  show own_Go _ _ _ _ (s₁.setTop (mkF m 3 #[.val (.ref a1)] [(.long (2 : Int64))]))
  refine own_Go.st (fun _ k => XS.aloadN X0.here hx rfl (hb hby d_prog_16_method_2_3) rfl rfl k) ?_
  show own_Go _ _ _ _ (s₁.setTop (mkF m 4 #[.val (.ref a1)] [(.ref a1), (.long (2 : Int64))]))
  obtain ⟨kb244, cd244, N244_, vs244, s1244, s2244, s3244, s4244, s5244, s6244, s7244⟩ := id p0_
  obtain ⟨cq243, kq243, q243a, q243b, q243c⟩ := isOf hZ e0 p0_.exa
  obtain ⟨_, _, ⟨T243, L243, k243, n243⟩, -, X243, ⟨Lc243, hQ243, l243, y243, z243⟩, st243⟩ := X0.virtualBack hx (y := (⟨"java/lang/String", "length", "()I"⟩ : MethodName)) (z := (⟨"java/lang/String", "length", "()I"⟩ : MethodName)) hown (mvT hZ (hw _ (List.mem_of_getElem? (i := 31) rfl))) (mvT hZ (hw _ (List.mem_of_getElem? (i := 32) rfl))) (notFace_of_selects (args := #[]) (mvT hZ (hw _ (List.mem_of_getElem? (i := 34) rfl)))) (mvT hZ (hw _ (List.mem_of_getElem? (i := 34) rfl))) (mvT hZ (hw _ (List.mem_of_getElem? (i := 33) rfl))) (by decide) (StrChars.Road.lenW (W := 2) hZ (own_hln hw) (kI := 4) (hw _ (List.mem_of_getElem? (i := 6) rfl)) s1244 s2244 s3244 s4244 s5244 s6244 (st_COMPACT_STRINGS.ext OL.2) hzc s7244 (by decide) (by decide)) q243a q243c (g := (mkF m 4 #[.val (.ref a1)] [(.ref a1), (.long (2 : Int64))])) rfl (by rw [hml]; rfl) (Steps.refl _) (argsL := []) (rest := [(.long (2 : Int64))]) (lenOf pd_203 rfl) rfl (by show 2 * 0 + _ ≤ _; exact Nat.le_of_eq rfl) (hb hby d_prog_16_method_2_4) (fun _ _ => ⟨rfl, e0, (by decide : 0 + 0 ≤ _), (by decide : 0 + 0 ≤ _)⟩)
  dsimp only [Pt.U, Pt.locs, Pt.cells, Pt.slots] at X243 l243 y243 z243 st243 hQ243
  subst l243 y243 z243
  obtain ⟨rfl, rfl, K243⟩ := hQ243
  have N243 := Fr.app N0 (Fr.nil Z.heap.size)
  refine own_Go.tr st243 ?_
  show own_Go _ _ _ _ (T243.setTop (mkF m 7 #[.val (.ref a1)] [(.int (Int32.ofNat cs.length)), (.long (2 : Int64))]))
  refine own_Go.st (fun _ k => XS.i2l X243.here hx rfl (hb hby d_prog_16_method_2_7) rfl k) ?_
  show own_Go _ _ _ _ (T243.setTop (mkF m 8 #[.val (.ref a1)] [(.long ((Int32.ofNat cs.length).toInt64)), (.long (2 : Int64))]))
  refine own_Go.st (fun _ k => XS.lmul X243.here hx rfl (hb hby d_prog_16_method_2_8) rfl k) ?_
  show own_Go _ _ _ _ (T243.setTop (mkF m 9 #[.val (.ref a1)] [(.long ((2 : Int64) * ((Int32.ofNat cs.length).toInt64)))]))
  refine own_Go.st (X243.ldc2Long hx hown (mvT hZ (hw _ (List.mem_of_getElem? (i := 42) rfl))) (g := (mkF m 9 #[.val (.ref a1)] [(.long ((2 : Int64) * ((Int32.ofNat cs.length).toInt64)))])) rfl (hb hby d_prog_16_method_2_9)) ?_
  show own_Go _ _ _ _ (T243.setTop (mkF m 12 #[.val (.ref a1)] [(.long (128 : Int64)), (.long ((2 : Int64) * ((Int32.ofNat cs.length).toInt64)))]))
  refine own_Go.st (fun _ k => XS.ladd X243.here hx rfl (hb hby d_prog_16_method_2_12) rfl k) ?_
  show own_Go _ _ _ _ (T243.setTop (mkF m 13 #[.val (.ref a1)] [(.long (((2 : Int64) * ((Int32.ofNat cs.length).toInt64)) + (128 : Int64)))]))
  obtain ⟨fs245, hr245, hrun245, hend245, hW245, hsm245⟩ := X243.leave (v := some (.long (((2 : Int64) * ((Int32.ofNat cs.length).toInt64)) + (128 : Int64)))) (fun h => by rw [Bd.returns] at h; cases h)
  subst hPP
  refine ⟨_, _, own_retL X243 hx Bd.returns (hb hby d_prog_16_method_2_13) hr245, hrun245, hend245, _, _, rfl, ?_, ⟨_, rfl⟩, hW245, hsm245.mono (by decide) (by decide)⟩
  · show Q_bytesOf Z _ _ _ _ h0 _ T243.heap _
    rw [K243]
    exact ⟨rfl, N243, rfl⟩
theorem ef_210 (m : MethodId) (x0 : Int32) (x1 : Int64) (x2 : Int64) : entryFrame m #[(.int x0), (.long x1), (.long x2)] maxLocals = mkF m 0 #[.val (.int x0), .val (.long x1), .second, .val (.long x2), .second, .unset, .unset, .unset] [] := by first | (simp [entryFrame, mkF, argsToLocals, Value.category, maxLocals]; done) | rfl
theorem pd_211 : parseMethodDescriptor "([CIC)V" = some ⟨[(.array .char), .int, .char], none⟩ := by decide +kernel
theorem pd_212 : parseMethodDescriptor "([C)V" = some ⟨[(.array .char)], none⟩ := by decide +kernel
theorem pd_213 : parseMethodDescriptor "(Ljava/lang/String;)J" = some ⟨[(.object "java/lang/String")], some .long⟩ := by decide +kernel
def Q_law (Z : State) (p1 : Int32) (q1 : Int64) (q2 : Int64) (zc : Int32) (h0 : Heap) (v : Option Value) (h : Heap) (L : List Loc) : Prop := v = some (.int (1 : Int32)) ∧ Fr Z.heap.size L ∧ Keep h0 h []
set_option maxRecDepth 65536 in
set_option maxHeartbeats 40000000 in
theorem rm_law (l : Launch) (Z : State) (a0 : Array Value) (hw : ∀ d ∈ tables_1, d.before a0 Z = true) (ws : List Jvm.Cond) (p1 : Int32) (q1 : Int64) (q2 : Int64) (zc : Int32) (h0 : Heap) (hEL : EW Z a0 consts_1) (OL : Old Z Z.heap.size h0) (st_COMPACT_STRINGS : Sta Z Z.heap "java/lang/String" "COMPACT_STRINGS" "Z" (.int zc)) (st__assertionsDisabled : Sta Z Z.heap "java/lang/StringUTF16" "$assertionsDisabled" "Z" (.int (1 : Int32))) (st_HI_BYTE_SHIFT : Sta Z Z.heap "java/lang/StringUTF16" "HI_BYTE_SHIFT" "I" (.int (0 : Int32))) (st_LO_BYTE_SHIFT : Sta Z Z.heap "java/lang/StringUTF16" "LO_BYTE_SHIFT" "I" (.int (8 : Int32))) (hzc : ¬ zc = 0) :
    MetFree l x (head1 (Jvm.Cond.code x code maxLocals ret :: ws) room_1) (fun a U => a = #[(.int p1), (.long q1), (.long q2)] ∧ Z.Warmed39 U.vm ∧ U.heap = h0 ∧ CHv Z consts_1 U.vm h0) (fun _ _ _ _ _ => True) (fun _ U o U' => ∃ v L, o = .returned v ∧ Q_law Z p1 q1 q2 zc h0 v U'.heap L ∧ CHr Z consts_1 U.vm U.heap U'.vm U'.heap ∧ ReturnedEndW U o U' L 24 1216) := by
  refine MetFree.of_bodySF (plainFor_of_name pn_189) hisR ?_
  intro p e s m args below meth c s₁ Bd hml0 hP hK
  obtain ⟨rfl, hZ, hh, hC0⟩ := hP
  have hx := Bd.exec
  have hby := Bd.bytes
  have hml : c.maxLocals = 8 := hml0
  have hown : s.vm.findClass "com/example/roaming_pubsub/roamingpubsub/SessionDirectoryBytesOfPinLaw" = some m.cls := findClass_of_methodNamed Bd.named
  have hnm := (name_of_methodNamed Bd.named Bd.method).1
  have X0 : Stand p l e room_1 (s.setVm s.vm) m #[(.int p1), (.long q1), (.long q2)] below meth c s₁ [] 0 0 := Stand.of_body Bd
  have e0 : s₁.heap = h0 := by rw [← hh, Bd.state]; rfl
  have N0 := Fr.nil Z.heap.size
  have Z0 : Z.heap.size ≤ h0.size := OL.2.1
  have hS0 : s.Since s.vm h0.size := (State.WarmedH.refl s).since _
  have wS := own_wS hw
  have R0 : CHr Z consts_1 s.vm h0 s.vm h0 := CHr.refl hC0
  obtain ⟨PP, hPP⟩ : ∃ PP : Outcome → State → Prop, PP = (fun o tE => ∃ v L, o = .returned v ∧ Q_law Z p1 q1 q2 zc h0 v tE.heap L ∧ CHr Z consts_1 s.vm s.heap tE.vm tE.heap ∧ ReturnedEndW s o tE L 24 1216) := ⟨_, rfl⟩
  show own_Go p.tables e below (fun o tE => ∃ v L, o = .returned v ∧ Q_law Z p1 q1 q2 zc h0 v tE.heap L ∧ CHr Z consts_1 s.vm s.heap tE.vm tE.heap ∧ ReturnedEndW s o tE L 24 1216) (s₁.setTop (entryFrame m #[(.int p1), (.long q1), (.long q2)] maxLocals))
  rw [← hPP]
  refine own_Go.st (fun t k => castTop (ef_210 m p1 q1 q2) k) ?_
  show own_Go _ _ _ _ (s₁.setTop (mkF m 0 #[.val (.int p1), .val (.long q1), .second, .val (.long q2), .second, .unset, .unset, .unset] []))
  refine own_Go.st (fun _ k => XS.iloadN X0.here hx rfl (hb hby at_0) rfl k) ?_
  show own_Go _ _ _ _ (s₁.setTop (mkF m 1 #[.val (.int p1), .val (.long q1), .second, .val (.long q2), .second, .unset, .unset, .unset] [(.int p1)]))
  refine own_Go.st (fun _ k => XS.bipush X0.here hx rfl (hb hby at_1) k) ?_
  show own_Go _ _ _ _ (s₁.setTop (mkF m 3 #[.val (.int p1), .val (.long q1), .second, .val (.long q2), .second, .unset, .unset, .unset] [(.int (7 : Int32)), (.int p1)]))
  refine own_Go.st (fun _ k => XS.iand X0.here hx rfl (hb hby at_3) rfl k) ?_
  show own_Go _ _ _ _ (s₁.setTop (mkF m 4 #[.val (.int p1), .val (.long q1), .second, .val (.long q2), .second, .unset, .unset, .unset] [(.int (p1 &&& (7 : Int32)))]))
  refine own_Go.st (fun _ k => XS.istore X0.here hx rfl (hb hby at_4) rfl (l' := #[.val (.int p1), .val (.long q1), .second, .val (.long q2), .second, .val (.int (p1 &&& (7 : Int32))), .unset, .unset]) rfl k) ?_
  show own_Go _ _ _ _ (s₁.setTop (mkF m 6 #[.val (.int p1), .val (.long q1), .second, .val (.long q2), .second, .val (.int (p1 &&& (7 : Int32))), .unset, .unset] []))
  have hl7 := own_len7 p1
  generalize hne : (p1 &&& (7 : Int32)) = nn at hl7 ⊢
  refine own_Go.st (fun _ k => XS.iload X0.here hx rfl (hb hby at_6) rfl k) ?_
  show own_Go _ _ _ _ (s₁.setTop (mkF m 8 #[.val (.int p1), .val (.long q1), .second, .val (.long q2), .second, .val (.int nn), .unset, .unset] [(.int nn)]))
  obtain ⟨T246, h246, k246, X246, e246, E246, A246, st246⟩ := newP X0 hx hZ (hw _ (List.mem_of_getElem? (i := 0) rfl)) e0 (g := (mkF m 8 #[.val (.int p1), .val (.long q1), .second, .val (.long q2), .second, .val (.int nn), .unset, .unset] [(.int nn)])) rfl (hb hby at_8) rfl hl7.1 (cap := 7) hl7.2 (by decide) (by decide) (by decide)
  obtain ⟨b246, g246⟩ : ∃ z, z = h0.size := ⟨_, rfl⟩
  rw [← g246] at A246 st246
  refine own_Go.st st246 ?_
  have z246 : h0.size ≤ h246.size := E246.1
  have f247 : Arv Z h246 b246 k246 .char nn [] (.int (0 : Int32)) := Arv.new A246 hl7.1
  have lt_b246 : @LT.lt Nat _ b246 h246.size := f247.lt
  have R246 : CHr Z consts_1 s.vm h0 s.vm h246 := R0.trans (CHr.ext E246 R0.1)
  show own_Go _ _ _ _ (T246.setTop (mkF m 10 #[.val (.int p1), .val (.long q1), .second, .val (.long q2), .second, .val (.int nn), .unset, .unset] [(.ref b246)]))
  refine own_Go.st (fun _ k => XS.astore X246.here hx rfl (hb hby at_10) rfl rfl (l' := #[.val (.int p1), .val (.long q1), .second, .val (.long q2), .second, .val (.int nn), .val (.ref b246), .unset]) rfl k) ?_
  show own_Go _ _ _ _ (T246.setTop (mkF m 12 #[.val (.int p1), .val (.long q1), .second, .val (.long q2), .second, .val (.int nn), .val (.ref b246), .unset] []))
  obtain ⟨cs0, fcs0, hcn0, hcl0, hcr0⟩ := own_newcs f247 hl7.1 hl7.2
  refine own_Go.st (fun _ k => XS.aload X246.here hx rfl (hb hby at_12) rfl rfl k) ?_
  show own_Go _ _ _ _ (T246.setTop (mkF m 14 #[.val (.int p1), .val (.long q1), .second, .val (.long q2), .second, .val (.int nn), .val (.ref b246), .unset] [(.ref b246)]))
  refine own_Go.st (fun _ k => XS.iconst X246.here hx rfl (hb hby at_14) k) ?_
  show own_Go _ _ _ _ (T246.setTop (mkF m 15 #[.val (.int p1), .val (.long q1), .second, .val (.long q2), .second, .val (.int nn), .val (.ref b246), .unset] [(.int (0 : Int32)), (.ref b246)]))
  refine own_Go.st (fun _ k => XS.lloadN X246.here hx rfl (hb hby at_15) rfl k) ?_
  show own_Go _ _ _ _ (T246.setTop (mkF m 16 #[.val (.int p1), .val (.long q1), .second, .val (.long q2), .second, .val (.int nn), .val (.ref b246), .unset] [(.long q1), (.int (0 : Int32)), (.ref b246)]))
  refine own_Go.st (fun _ k => XS.l2i X246.here hx rfl (hb hby at_16) rfl k) ?_
  show own_Go _ _ _ _ (T246.setTop (mkF m 17 #[.val (.int p1), .val (.long q1), .second, .val (.long q2), .second, .val (.int nn), .val (.ref b246), .unset] [(.int (q1.toInt32)), (.int (0 : Int32)), (.ref b246)]))
  refine own_Go.st (fun _ k => XS.i2c X246.here hx rfl (hb hby at_17) rfl k) ?_
  show own_Go _ _ _ _ (T246.setTop (mkF m 18 #[.val (.int p1), .val (.long q1), .second, .val (.long q2), .second, .val (.int nn), .val (.ref b246), .unset] [(.int ((q1.toInt32).toUInt32.toUInt16.toUInt32.toInt32)), (.int (0 : Int32)), (.ref b246)]))
  have f249 : Old Z Z.heap.size h246 := OL.ext E246
  obtain ⟨_, _, ⟨T248, L248, k248, n248⟩, -, X248, ⟨Lc248, hQ248, l248, y248, z248⟩, st248⟩ := Jvm.LawKit.callS X246 hx (y := (⟨"com/example/roaming_pubsub/roamingpubsub/SessionDirectoryBytesOfPinLaw", "put", "([CIC)V"⟩ : MethodName)) hown (mvT hZ (hw _ (List.mem_of_getElem? (i := 1) rfl))) (mvT hZ (hw _ (List.mem_of_getElem? (i := 2) rfl))) (mvT hZ (hw _ (List.mem_of_getElem? (i := 3) rfl))) (mvT hZ (hw _ (List.mem_of_getElem? (i := 4) rfl))) (by decide) (backOf (W := 0) (rm_put l Z a0 hw [] b246 (0 : Int32) ((q1.toInt32).toUInt32.toUInt16.toUInt32.toInt32) k246 nn cs0 (.int (0 : Int32)) h246 f249 fcs0 (by decide) hcn0 hcl0 hcr0 (by omega)) hZ (hw _ (List.mem_of_getElem? (i := 4) rfl)) (hw _ (List.mem_of_getElem? (i := 3) rfl)) (by decide) (by decide)) (g := (mkF m 18 #[.val (.int p1), .val (.long q1), .second, .val (.long q2), .second, .val (.int nn), .val (.ref b246), .unset] [(.int ((q1.toInt32).toUInt32.toUInt16.toUInt32.toInt32)), (.int (0 : Int32)), (.ref b246)])) rfl (by rw [hml]; rfl) (argsL := [(.ref b246), (.int (0 : Int32)), (.int ((q1.toInt32).toUInt32.toUInt16.toUInt32.toInt32))]) (rest := []) (lenOf pd_211 rfl) rfl (by show 2 * 0 + _ ≤ _; exact Nat.le_of_eq rfl) (hb hby at_18) (fun _ _ => ⟨rfl, e246, (by decide : 1 + 0 ≤ _), (by decide : 7 + 0 ≤ _)⟩)
  dsimp only [Pt.U, Pt.locs, Pt.cells, Pt.slots] at X248 l248 y248 z248 st248 hQ248
  subst l248 y248 z248
  obtain ⟨ds_248, rfl, N248q, K248, f248_0, pr248_0, pr248_1, pr248_2⟩ := hQ248
  have N248 := Fr.app N0 N248q
  have Sf250 : Safe Z consts_1 s.vm h246 b246 := Safe.arv hZ.alike fcs0 (by decide)
  have z248 : h246.size ≤ T248.heap.size := K248.1
  have R248 : CHr Z consts_1 s.vm h0 s.vm T248.heap := R246.trans (CHr.keep K248 (sfS Sf250 sf0) R246.1)
  have lt248_0 : @LT.lt Nat _ b246 T248.heap.size := f248_0.lt
  refine own_Go.st st248 ?_
  show own_Go _ _ _ _ (T248.setTop (mkF m 21 #[.val (.int p1), .val (.long q1), .second, .val (.long q2), .second, .val (.int nn), .val (.ref b246), .unset] []))
  refine own_Go.st (fun _ k => XS.aload X248.here hx rfl (hb hby at_21) rfl rfl k) ?_
  show own_Go _ _ _ _ (T248.setTop (mkF m 23 #[.val (.int p1), .val (.long q1), .second, .val (.long q2), .second, .val (.int nn), .val (.ref b246), .unset] [(.ref b246)]))
  refine own_Go.st (fun _ k => XS.iconst X248.here hx rfl (hb hby at_23) k) ?_
  show own_Go _ _ _ _ (T248.setTop (mkF m 24 #[.val (.int p1), .val (.long q1), .second, .val (.long q2), .second, .val (.int nn), .val (.ref b246), .unset] [(.int (1 : Int32)), (.ref b246)]))
  refine own_Go.st (fun _ k => XS.lloadN X248.here hx rfl (hb hby at_24) rfl k) ?_
  show own_Go _ _ _ _ (T248.setTop (mkF m 25 #[.val (.int p1), .val (.long q1), .second, .val (.long q2), .second, .val (.int nn), .val (.ref b246), .unset] [(.long q1), (.int (1 : Int32)), (.ref b246)]))
  refine own_Go.st (fun _ k => XS.bipush X248.here hx rfl (hb hby at_25) k) ?_
  show own_Go _ _ _ _ (T248.setTop (mkF m 27 #[.val (.int p1), .val (.long q1), .second, .val (.long q2), .second, .val (.int nn), .val (.ref b246), .unset] [(.int (16 : Int32)), (.long q1), (.int (1 : Int32)), (.ref b246)]))
  refine own_Go.st (fun _ k => XS.lushr X248.here hx rfl (hb hby at_27) rfl k) ?_
  show own_Go _ _ _ _ (T248.setTop (mkF m 28 #[.val (.int p1), .val (.long q1), .second, .val (.long q2), .second, .val (.int nn), .val (.ref b246), .unset] [(.long ((q1.toUInt64 >>> ((16 : Int32) &&& 0x3f).toInt64.toUInt64).toInt64)), (.int (1 : Int32)), (.ref b246)]))
  refine own_Go.st (fun _ k => XS.l2i X248.here hx rfl (hb hby at_28) rfl k) ?_
  show own_Go _ _ _ _ (T248.setTop (mkF m 29 #[.val (.int p1), .val (.long q1), .second, .val (.long q2), .second, .val (.int nn), .val (.ref b246), .unset] [(.int (((q1.toUInt64 >>> ((16 : Int32) &&& 0x3f).toInt64.toUInt64).toInt64).toInt32)), (.int (1 : Int32)), (.ref b246)]))
  refine own_Go.st (fun _ k => XS.i2c X248.here hx rfl (hb hby at_29) rfl k) ?_
  show own_Go _ _ _ _ (T248.setTop (mkF m 30 #[.val (.int p1), .val (.long q1), .second, .val (.long q2), .second, .val (.int nn), .val (.ref b246), .unset] [(.int ((((q1.toUInt64 >>> ((16 : Int32) &&& 0x3f).toInt64.toUInt64).toInt64).toInt32).toUInt32.toUInt16.toUInt32.toInt32)), (.int (1 : Int32)), (.ref b246)]))
  have f252 : Old Z Z.heap.size T248.heap := f249.keep K248 (allS (by omega) all0)
  obtain ⟨_, _, ⟨T251, L251, k251, n251⟩, -, X251, ⟨Lc251, hQ251, l251, y251, z251⟩, st251⟩ := Jvm.LawKit.callS X248 hx (y := (⟨"com/example/roaming_pubsub/roamingpubsub/SessionDirectoryBytesOfPinLaw", "put", "([CIC)V"⟩ : MethodName)) hown (mvT hZ (hw _ (List.mem_of_getElem? (i := 1) rfl))) (mvT hZ (hw _ (List.mem_of_getElem? (i := 2) rfl))) (mvT hZ (hw _ (List.mem_of_getElem? (i := 3) rfl))) (mvT hZ (hw _ (List.mem_of_getElem? (i := 4) rfl))) (by decide) (backOf (W := 0) (rm_put l Z a0 hw [] b246 (1 : Int32) ((((q1.toUInt64 >>> ((16 : Int32) &&& 0x3f).toInt64.toUInt64).toInt64).toInt32).toUInt32.toUInt16.toUInt32.toInt32) k246 nn ds_248 (.int (0 : Int32)) T248.heap f252 f248_0 (by decide) pr248_0 pr248_1 pr248_2 (by omega)) hZ (hw _ (List.mem_of_getElem? (i := 4) rfl)) (hw _ (List.mem_of_getElem? (i := 3) rfl)) (by decide) (by decide)) (g := (mkF m 30 #[.val (.int p1), .val (.long q1), .second, .val (.long q2), .second, .val (.int nn), .val (.ref b246), .unset] [(.int ((((q1.toUInt64 >>> ((16 : Int32) &&& 0x3f).toInt64.toUInt64).toInt64).toInt32).toUInt32.toUInt16.toUInt32.toInt32)), (.int (1 : Int32)), (.ref b246)])) rfl (by rw [hml]; rfl) (argsL := [(.ref b246), (.int (1 : Int32)), (.int ((((q1.toUInt64 >>> ((16 : Int32) &&& 0x3f).toInt64.toUInt64).toInt64).toInt32).toUInt32.toUInt16.toUInt32.toInt32))]) (rest := []) (lenOf pd_211 rfl) rfl (by show 2 * 0 + _ ≤ _; exact Nat.le_of_eq rfl) (hb hby at_30) (fun _ _ => ⟨rfl, rfl, (by decide : 1 + 0 ≤ _), (by decide : 7 + 0 ≤ _)⟩)
  dsimp only [Pt.U, Pt.locs, Pt.cells, Pt.slots] at X251 l251 y251 z251 st251 hQ251
  subst l251 y251 z251
  obtain ⟨ds_251, rfl, N251q, K251, f251_0, pr251_0, pr251_1, pr251_2⟩ := hQ251
  have N251 := Fr.app N248 N251q
  have Sf253 : Safe Z consts_1 s.vm T248.heap b246 := Safe.arv hZ.alike f248_0 (by decide)
  have z251 : T248.heap.size ≤ T251.heap.size := K251.1
  have R251 : CHr Z consts_1 s.vm h0 s.vm T251.heap := R248.trans (CHr.keep K251 (sfS Sf253 sf0) R248.1)
  have lt251_0 : @LT.lt Nat _ b246 T251.heap.size := f251_0.lt
  refine own_Go.st st251 ?_
  show own_Go _ _ _ _ (T251.setTop (mkF m 33 #[.val (.int p1), .val (.long q1), .second, .val (.long q2), .second, .val (.int nn), .val (.ref b246), .unset] []))
  refine own_Go.st (fun _ k => XS.aload X251.here hx rfl (hb hby at_33) rfl rfl k) ?_
  show own_Go _ _ _ _ (T251.setTop (mkF m 35 #[.val (.int p1), .val (.long q1), .second, .val (.long q2), .second, .val (.int nn), .val (.ref b246), .unset] [(.ref b246)]))
  refine own_Go.st (fun _ k => XS.iconst X251.here hx rfl (hb hby at_35) k) ?_
  show own_Go _ _ _ _ (T251.setTop (mkF m 36 #[.val (.int p1), .val (.long q1), .second, .val (.long q2), .second, .val (.int nn), .val (.ref b246), .unset] [(.int (2 : Int32)), (.ref b246)]))
  refine own_Go.st (fun _ k => XS.lloadN X251.here hx rfl (hb hby at_36) rfl k) ?_
  show own_Go _ _ _ _ (T251.setTop (mkF m 37 #[.val (.int p1), .val (.long q1), .second, .val (.long q2), .second, .val (.int nn), .val (.ref b246), .unset] [(.long q1), (.int (2 : Int32)), (.ref b246)]))
  refine own_Go.st (fun _ k => XS.bipush X251.here hx rfl (hb hby at_37) k) ?_
  show own_Go _ _ _ _ (T251.setTop (mkF m 39 #[.val (.int p1), .val (.long q1), .second, .val (.long q2), .second, .val (.int nn), .val (.ref b246), .unset] [(.int (32 : Int32)), (.long q1), (.int (2 : Int32)), (.ref b246)]))
  refine own_Go.st (fun _ k => XS.lushr X251.here hx rfl (hb hby at_39) rfl k) ?_
  show own_Go _ _ _ _ (T251.setTop (mkF m 40 #[.val (.int p1), .val (.long q1), .second, .val (.long q2), .second, .val (.int nn), .val (.ref b246), .unset] [(.long ((q1.toUInt64 >>> ((32 : Int32) &&& 0x3f).toInt64.toUInt64).toInt64)), (.int (2 : Int32)), (.ref b246)]))
  refine own_Go.st (fun _ k => XS.l2i X251.here hx rfl (hb hby at_40) rfl k) ?_
  show own_Go _ _ _ _ (T251.setTop (mkF m 41 #[.val (.int p1), .val (.long q1), .second, .val (.long q2), .second, .val (.int nn), .val (.ref b246), .unset] [(.int (((q1.toUInt64 >>> ((32 : Int32) &&& 0x3f).toInt64.toUInt64).toInt64).toInt32)), (.int (2 : Int32)), (.ref b246)]))
  refine own_Go.st (fun _ k => XS.i2c X251.here hx rfl (hb hby at_41) rfl k) ?_
  show own_Go _ _ _ _ (T251.setTop (mkF m 42 #[.val (.int p1), .val (.long q1), .second, .val (.long q2), .second, .val (.int nn), .val (.ref b246), .unset] [(.int ((((q1.toUInt64 >>> ((32 : Int32) &&& 0x3f).toInt64.toUInt64).toInt64).toInt32).toUInt32.toUInt16.toUInt32.toInt32)), (.int (2 : Int32)), (.ref b246)]))
  have f255 : Old Z Z.heap.size T251.heap := f252.keep K251 (allS (by omega) all0)
  obtain ⟨_, _, ⟨T254, L254, k254, n254⟩, -, X254, ⟨Lc254, hQ254, l254, y254, z254⟩, st254⟩ := Jvm.LawKit.callS X251 hx (y := (⟨"com/example/roaming_pubsub/roamingpubsub/SessionDirectoryBytesOfPinLaw", "put", "([CIC)V"⟩ : MethodName)) hown (mvT hZ (hw _ (List.mem_of_getElem? (i := 1) rfl))) (mvT hZ (hw _ (List.mem_of_getElem? (i := 2) rfl))) (mvT hZ (hw _ (List.mem_of_getElem? (i := 3) rfl))) (mvT hZ (hw _ (List.mem_of_getElem? (i := 4) rfl))) (by decide) (backOf (W := 0) (rm_put l Z a0 hw [] b246 (2 : Int32) ((((q1.toUInt64 >>> ((32 : Int32) &&& 0x3f).toInt64.toUInt64).toInt64).toInt32).toUInt32.toUInt16.toUInt32.toInt32) k246 nn ds_251 (.int (0 : Int32)) T251.heap f255 f251_0 (by decide) pr251_0 pr251_1 pr251_2 (by omega)) hZ (hw _ (List.mem_of_getElem? (i := 4) rfl)) (hw _ (List.mem_of_getElem? (i := 3) rfl)) (by decide) (by decide)) (g := (mkF m 42 #[.val (.int p1), .val (.long q1), .second, .val (.long q2), .second, .val (.int nn), .val (.ref b246), .unset] [(.int ((((q1.toUInt64 >>> ((32 : Int32) &&& 0x3f).toInt64.toUInt64).toInt64).toInt32).toUInt32.toUInt16.toUInt32.toInt32)), (.int (2 : Int32)), (.ref b246)])) rfl (by rw [hml]; rfl) (argsL := [(.ref b246), (.int (2 : Int32)), (.int ((((q1.toUInt64 >>> ((32 : Int32) &&& 0x3f).toInt64.toUInt64).toInt64).toInt32).toUInt32.toUInt16.toUInt32.toInt32))]) (rest := []) (lenOf pd_211 rfl) rfl (by show 2 * 0 + _ ≤ _; exact Nat.le_of_eq rfl) (hb hby at_42) (fun _ _ => ⟨rfl, rfl, (by decide : 1 + 0 ≤ _), (by decide : 7 + 0 ≤ _)⟩)
  dsimp only [Pt.U, Pt.locs, Pt.cells, Pt.slots] at X254 l254 y254 z254 st254 hQ254
  subst l254 y254 z254
  obtain ⟨ds_254, rfl, N254q, K254, f254_0, pr254_0, pr254_1, pr254_2⟩ := hQ254
  have N254 := Fr.app N251 N254q
  have Sf256 : Safe Z consts_1 s.vm T251.heap b246 := Safe.arv hZ.alike f251_0 (by decide)
  have z254 : T251.heap.size ≤ T254.heap.size := K254.1
  have R254 : CHr Z consts_1 s.vm h0 s.vm T254.heap := R251.trans (CHr.keep K254 (sfS Sf256 sf0) R251.1)
  have lt254_0 : @LT.lt Nat _ b246 T254.heap.size := f254_0.lt
  refine own_Go.st st254 ?_
  show own_Go _ _ _ _ (T254.setTop (mkF m 45 #[.val (.int p1), .val (.long q1), .second, .val (.long q2), .second, .val (.int nn), .val (.ref b246), .unset] []))
  refine own_Go.st (fun _ k => XS.aload X254.here hx rfl (hb hby at_45) rfl rfl k) ?_
  show own_Go _ _ _ _ (T254.setTop (mkF m 47 #[.val (.int p1), .val (.long q1), .second, .val (.long q2), .second, .val (.int nn), .val (.ref b246), .unset] [(.ref b246)]))
  refine own_Go.st (fun _ k => XS.iconst X254.here hx rfl (hb hby at_47) k) ?_
  show own_Go _ _ _ _ (T254.setTop (mkF m 48 #[.val (.int p1), .val (.long q1), .second, .val (.long q2), .second, .val (.int nn), .val (.ref b246), .unset] [(.int (3 : Int32)), (.ref b246)]))
  refine own_Go.st (fun _ k => XS.lloadN X254.here hx rfl (hb hby at_48) rfl k) ?_
  show own_Go _ _ _ _ (T254.setTop (mkF m 49 #[.val (.int p1), .val (.long q1), .second, .val (.long q2), .second, .val (.int nn), .val (.ref b246), .unset] [(.long q1), (.int (3 : Int32)), (.ref b246)]))
  refine own_Go.st (fun _ k => XS.bipush X254.here hx rfl (hb hby at_49) k) ?_
  show own_Go _ _ _ _ (T254.setTop (mkF m 51 #[.val (.int p1), .val (.long q1), .second, .val (.long q2), .second, .val (.int nn), .val (.ref b246), .unset] [(.int (48 : Int32)), (.long q1), (.int (3 : Int32)), (.ref b246)]))
  refine own_Go.st (fun _ k => XS.lushr X254.here hx rfl (hb hby at_51) rfl k) ?_
  show own_Go _ _ _ _ (T254.setTop (mkF m 52 #[.val (.int p1), .val (.long q1), .second, .val (.long q2), .second, .val (.int nn), .val (.ref b246), .unset] [(.long ((q1.toUInt64 >>> ((48 : Int32) &&& 0x3f).toInt64.toUInt64).toInt64)), (.int (3 : Int32)), (.ref b246)]))
  refine own_Go.st (fun _ k => XS.l2i X254.here hx rfl (hb hby at_52) rfl k) ?_
  show own_Go _ _ _ _ (T254.setTop (mkF m 53 #[.val (.int p1), .val (.long q1), .second, .val (.long q2), .second, .val (.int nn), .val (.ref b246), .unset] [(.int (((q1.toUInt64 >>> ((48 : Int32) &&& 0x3f).toInt64.toUInt64).toInt64).toInt32)), (.int (3 : Int32)), (.ref b246)]))
  refine own_Go.st (fun _ k => XS.i2c X254.here hx rfl (hb hby at_53) rfl k) ?_
  show own_Go _ _ _ _ (T254.setTop (mkF m 54 #[.val (.int p1), .val (.long q1), .second, .val (.long q2), .second, .val (.int nn), .val (.ref b246), .unset] [(.int ((((q1.toUInt64 >>> ((48 : Int32) &&& 0x3f).toInt64.toUInt64).toInt64).toInt32).toUInt32.toUInt16.toUInt32.toInt32)), (.int (3 : Int32)), (.ref b246)]))
  have f258 : Old Z Z.heap.size T254.heap := f255.keep K254 (allS (by omega) all0)
  obtain ⟨_, _, ⟨T257, L257, k257, n257⟩, -, X257, ⟨Lc257, hQ257, l257, y257, z257⟩, st257⟩ := Jvm.LawKit.callS X254 hx (y := (⟨"com/example/roaming_pubsub/roamingpubsub/SessionDirectoryBytesOfPinLaw", "put", "([CIC)V"⟩ : MethodName)) hown (mvT hZ (hw _ (List.mem_of_getElem? (i := 1) rfl))) (mvT hZ (hw _ (List.mem_of_getElem? (i := 2) rfl))) (mvT hZ (hw _ (List.mem_of_getElem? (i := 3) rfl))) (mvT hZ (hw _ (List.mem_of_getElem? (i := 4) rfl))) (by decide) (backOf (W := 0) (rm_put l Z a0 hw [] b246 (3 : Int32) ((((q1.toUInt64 >>> ((48 : Int32) &&& 0x3f).toInt64.toUInt64).toInt64).toInt32).toUInt32.toUInt16.toUInt32.toInt32) k246 nn ds_254 (.int (0 : Int32)) T254.heap f258 f254_0 (by decide) pr254_0 pr254_1 pr254_2 (by omega)) hZ (hw _ (List.mem_of_getElem? (i := 4) rfl)) (hw _ (List.mem_of_getElem? (i := 3) rfl)) (by decide) (by decide)) (g := (mkF m 54 #[.val (.int p1), .val (.long q1), .second, .val (.long q2), .second, .val (.int nn), .val (.ref b246), .unset] [(.int ((((q1.toUInt64 >>> ((48 : Int32) &&& 0x3f).toInt64.toUInt64).toInt64).toInt32).toUInt32.toUInt16.toUInt32.toInt32)), (.int (3 : Int32)), (.ref b246)])) rfl (by rw [hml]; rfl) (argsL := [(.ref b246), (.int (3 : Int32)), (.int ((((q1.toUInt64 >>> ((48 : Int32) &&& 0x3f).toInt64.toUInt64).toInt64).toInt32).toUInt32.toUInt16.toUInt32.toInt32))]) (rest := []) (lenOf pd_211 rfl) rfl (by show 2 * 0 + _ ≤ _; exact Nat.le_of_eq rfl) (hb hby at_54) (fun _ _ => ⟨rfl, rfl, (by decide : 1 + 0 ≤ _), (by decide : 7 + 0 ≤ _)⟩)
  dsimp only [Pt.U, Pt.locs, Pt.cells, Pt.slots] at X257 l257 y257 z257 st257 hQ257
  subst l257 y257 z257
  obtain ⟨ds_257, rfl, N257q, K257, f257_0, pr257_0, pr257_1, pr257_2⟩ := hQ257
  have N257 := Fr.app N254 N257q
  have Sf259 : Safe Z consts_1 s.vm T254.heap b246 := Safe.arv hZ.alike f254_0 (by decide)
  have z257 : T254.heap.size ≤ T257.heap.size := K257.1
  have R257 : CHr Z consts_1 s.vm h0 s.vm T257.heap := R254.trans (CHr.keep K257 (sfS Sf259 sf0) R254.1)
  have lt257_0 : @LT.lt Nat _ b246 T257.heap.size := f257_0.lt
  refine own_Go.st st257 ?_
  show own_Go _ _ _ _ (T257.setTop (mkF m 57 #[.val (.int p1), .val (.long q1), .second, .val (.long q2), .second, .val (.int nn), .val (.ref b246), .unset] []))
  refine own_Go.st (fun _ k => XS.aload X257.here hx rfl (hb hby at_57) rfl rfl k) ?_
  show own_Go _ _ _ _ (T257.setTop (mkF m 59 #[.val (.int p1), .val (.long q1), .second, .val (.long q2), .second, .val (.int nn), .val (.ref b246), .unset] [(.ref b246)]))
  refine own_Go.st (fun _ k => XS.iconst X257.here hx rfl (hb hby at_59) k) ?_
  show own_Go _ _ _ _ (T257.setTop (mkF m 60 #[.val (.int p1), .val (.long q1), .second, .val (.long q2), .second, .val (.int nn), .val (.ref b246), .unset] [(.int (4 : Int32)), (.ref b246)]))
  refine own_Go.st (fun _ k => XS.lloadN X257.here hx rfl (hb hby at_60) rfl k) ?_
  show own_Go _ _ _ _ (T257.setTop (mkF m 61 #[.val (.int p1), .val (.long q1), .second, .val (.long q2), .second, .val (.int nn), .val (.ref b246), .unset] [(.long q2), (.int (4 : Int32)), (.ref b246)]))
  refine own_Go.st (fun _ k => XS.l2i X257.here hx rfl (hb hby at_61) rfl k) ?_
  show own_Go _ _ _ _ (T257.setTop (mkF m 62 #[.val (.int p1), .val (.long q1), .second, .val (.long q2), .second, .val (.int nn), .val (.ref b246), .unset] [(.int (q2.toInt32)), (.int (4 : Int32)), (.ref b246)]))
  refine own_Go.st (fun _ k => XS.i2c X257.here hx rfl (hb hby at_62) rfl k) ?_
  show own_Go _ _ _ _ (T257.setTop (mkF m 63 #[.val (.int p1), .val (.long q1), .second, .val (.long q2), .second, .val (.int nn), .val (.ref b246), .unset] [(.int ((q2.toInt32).toUInt32.toUInt16.toUInt32.toInt32)), (.int (4 : Int32)), (.ref b246)]))
  have f261 : Old Z Z.heap.size T257.heap := f258.keep K257 (allS (by omega) all0)
  obtain ⟨_, _, ⟨T260, L260, k260, n260⟩, -, X260, ⟨Lc260, hQ260, l260, y260, z260⟩, st260⟩ := Jvm.LawKit.callS X257 hx (y := (⟨"com/example/roaming_pubsub/roamingpubsub/SessionDirectoryBytesOfPinLaw", "put", "([CIC)V"⟩ : MethodName)) hown (mvT hZ (hw _ (List.mem_of_getElem? (i := 1) rfl))) (mvT hZ (hw _ (List.mem_of_getElem? (i := 2) rfl))) (mvT hZ (hw _ (List.mem_of_getElem? (i := 3) rfl))) (mvT hZ (hw _ (List.mem_of_getElem? (i := 4) rfl))) (by decide) (backOf (W := 0) (rm_put l Z a0 hw [] b246 (4 : Int32) ((q2.toInt32).toUInt32.toUInt16.toUInt32.toInt32) k246 nn ds_257 (.int (0 : Int32)) T257.heap f261 f257_0 (by decide) pr257_0 pr257_1 pr257_2 (by omega)) hZ (hw _ (List.mem_of_getElem? (i := 4) rfl)) (hw _ (List.mem_of_getElem? (i := 3) rfl)) (by decide) (by decide)) (g := (mkF m 63 #[.val (.int p1), .val (.long q1), .second, .val (.long q2), .second, .val (.int nn), .val (.ref b246), .unset] [(.int ((q2.toInt32).toUInt32.toUInt16.toUInt32.toInt32)), (.int (4 : Int32)), (.ref b246)])) rfl (by rw [hml]; rfl) (argsL := [(.ref b246), (.int (4 : Int32)), (.int ((q2.toInt32).toUInt32.toUInt16.toUInt32.toInt32))]) (rest := []) (lenOf pd_211 rfl) rfl (by show 2 * 0 + _ ≤ _; exact Nat.le_of_eq rfl) (hb hby at_63) (fun _ _ => ⟨rfl, rfl, (by decide : 1 + 0 ≤ _), (by decide : 7 + 0 ≤ _)⟩)
  dsimp only [Pt.U, Pt.locs, Pt.cells, Pt.slots] at X260 l260 y260 z260 st260 hQ260
  subst l260 y260 z260
  obtain ⟨ds_260, rfl, N260q, K260, f260_0, pr260_0, pr260_1, pr260_2⟩ := hQ260
  have N260 := Fr.app N257 N260q
  have Sf262 : Safe Z consts_1 s.vm T257.heap b246 := Safe.arv hZ.alike f257_0 (by decide)
  have z260 : T257.heap.size ≤ T260.heap.size := K260.1
  have R260 : CHr Z consts_1 s.vm h0 s.vm T260.heap := R257.trans (CHr.keep K260 (sfS Sf262 sf0) R257.1)
  have lt260_0 : @LT.lt Nat _ b246 T260.heap.size := f260_0.lt
  refine own_Go.st st260 ?_
  show own_Go _ _ _ _ (T260.setTop (mkF m 66 #[.val (.int p1), .val (.long q1), .second, .val (.long q2), .second, .val (.int nn), .val (.ref b246), .unset] []))
  refine own_Go.st (fun _ k => XS.aload X260.here hx rfl (hb hby at_66) rfl rfl k) ?_
  show own_Go _ _ _ _ (T260.setTop (mkF m 68 #[.val (.int p1), .val (.long q1), .second, .val (.long q2), .second, .val (.int nn), .val (.ref b246), .unset] [(.ref b246)]))
  refine own_Go.st (fun _ k => XS.iconst X260.here hx rfl (hb hby at_68) k) ?_
  show own_Go _ _ _ _ (T260.setTop (mkF m 69 #[.val (.int p1), .val (.long q1), .second, .val (.long q2), .second, .val (.int nn), .val (.ref b246), .unset] [(.int (5 : Int32)), (.ref b246)]))
  refine own_Go.st (fun _ k => XS.lloadN X260.here hx rfl (hb hby at_69) rfl k) ?_
  show own_Go _ _ _ _ (T260.setTop (mkF m 70 #[.val (.int p1), .val (.long q1), .second, .val (.long q2), .second, .val (.int nn), .val (.ref b246), .unset] [(.long q2), (.int (5 : Int32)), (.ref b246)]))
  refine own_Go.st (fun _ k => XS.bipush X260.here hx rfl (hb hby at_70) k) ?_
  show own_Go _ _ _ _ (T260.setTop (mkF m 72 #[.val (.int p1), .val (.long q1), .second, .val (.long q2), .second, .val (.int nn), .val (.ref b246), .unset] [(.int (16 : Int32)), (.long q2), (.int (5 : Int32)), (.ref b246)]))
  refine own_Go.st (fun _ k => XS.lushr X260.here hx rfl (hb hby at_72) rfl k) ?_
  show own_Go _ _ _ _ (T260.setTop (mkF m 73 #[.val (.int p1), .val (.long q1), .second, .val (.long q2), .second, .val (.int nn), .val (.ref b246), .unset] [(.long ((q2.toUInt64 >>> ((16 : Int32) &&& 0x3f).toInt64.toUInt64).toInt64)), (.int (5 : Int32)), (.ref b246)]))
  refine own_Go.st (fun _ k => XS.l2i X260.here hx rfl (hb hby at_73) rfl k) ?_
  show own_Go _ _ _ _ (T260.setTop (mkF m 74 #[.val (.int p1), .val (.long q1), .second, .val (.long q2), .second, .val (.int nn), .val (.ref b246), .unset] [(.int (((q2.toUInt64 >>> ((16 : Int32) &&& 0x3f).toInt64.toUInt64).toInt64).toInt32)), (.int (5 : Int32)), (.ref b246)]))
  refine own_Go.st (fun _ k => XS.i2c X260.here hx rfl (hb hby at_74) rfl k) ?_
  show own_Go _ _ _ _ (T260.setTop (mkF m 75 #[.val (.int p1), .val (.long q1), .second, .val (.long q2), .second, .val (.int nn), .val (.ref b246), .unset] [(.int ((((q2.toUInt64 >>> ((16 : Int32) &&& 0x3f).toInt64.toUInt64).toInt64).toInt32).toUInt32.toUInt16.toUInt32.toInt32)), (.int (5 : Int32)), (.ref b246)]))
  have f264 : Old Z Z.heap.size T260.heap := f261.keep K260 (allS (by omega) all0)
  obtain ⟨_, _, ⟨T263, L263, k263, n263⟩, -, X263, ⟨Lc263, hQ263, l263, y263, z263⟩, st263⟩ := Jvm.LawKit.callS X260 hx (y := (⟨"com/example/roaming_pubsub/roamingpubsub/SessionDirectoryBytesOfPinLaw", "put", "([CIC)V"⟩ : MethodName)) hown (mvT hZ (hw _ (List.mem_of_getElem? (i := 1) rfl))) (mvT hZ (hw _ (List.mem_of_getElem? (i := 2) rfl))) (mvT hZ (hw _ (List.mem_of_getElem? (i := 3) rfl))) (mvT hZ (hw _ (List.mem_of_getElem? (i := 4) rfl))) (by decide) (backOf (W := 0) (rm_put l Z a0 hw [] b246 (5 : Int32) ((((q2.toUInt64 >>> ((16 : Int32) &&& 0x3f).toInt64.toUInt64).toInt64).toInt32).toUInt32.toUInt16.toUInt32.toInt32) k246 nn ds_260 (.int (0 : Int32)) T260.heap f264 f260_0 (by decide) pr260_0 pr260_1 pr260_2 (by omega)) hZ (hw _ (List.mem_of_getElem? (i := 4) rfl)) (hw _ (List.mem_of_getElem? (i := 3) rfl)) (by decide) (by decide)) (g := (mkF m 75 #[.val (.int p1), .val (.long q1), .second, .val (.long q2), .second, .val (.int nn), .val (.ref b246), .unset] [(.int ((((q2.toUInt64 >>> ((16 : Int32) &&& 0x3f).toInt64.toUInt64).toInt64).toInt32).toUInt32.toUInt16.toUInt32.toInt32)), (.int (5 : Int32)), (.ref b246)])) rfl (by rw [hml]; rfl) (argsL := [(.ref b246), (.int (5 : Int32)), (.int ((((q2.toUInt64 >>> ((16 : Int32) &&& 0x3f).toInt64.toUInt64).toInt64).toInt32).toUInt32.toUInt16.toUInt32.toInt32))]) (rest := []) (lenOf pd_211 rfl) rfl (by show 2 * 0 + _ ≤ _; exact Nat.le_of_eq rfl) (hb hby at_75) (fun _ _ => ⟨rfl, rfl, (by decide : 1 + 0 ≤ _), (by decide : 7 + 0 ≤ _)⟩)
  dsimp only [Pt.U, Pt.locs, Pt.cells, Pt.slots] at X263 l263 y263 z263 st263 hQ263
  subst l263 y263 z263
  obtain ⟨ds_263, rfl, N263q, K263, f263_0, pr263_0, pr263_1, pr263_2⟩ := hQ263
  have N263 := Fr.app N260 N263q
  have Sf265 : Safe Z consts_1 s.vm T260.heap b246 := Safe.arv hZ.alike f260_0 (by decide)
  have z263 : T260.heap.size ≤ T263.heap.size := K263.1
  have R263 : CHr Z consts_1 s.vm h0 s.vm T263.heap := R260.trans (CHr.keep K263 (sfS Sf265 sf0) R260.1)
  have lt263_0 : @LT.lt Nat _ b246 T263.heap.size := f263_0.lt
  refine own_Go.st st263 ?_
  show own_Go _ _ _ _ (T263.setTop (mkF m 78 #[.val (.int p1), .val (.long q1), .second, .val (.long q2), .second, .val (.int nn), .val (.ref b246), .unset] []))
  refine own_Go.st (fun _ k => XS.aload X263.here hx rfl (hb hby at_78) rfl rfl k) ?_
  show own_Go _ _ _ _ (T263.setTop (mkF m 80 #[.val (.int p1), .val (.long q1), .second, .val (.long q2), .second, .val (.int nn), .val (.ref b246), .unset] [(.ref b246)]))
  refine own_Go.st (fun _ k => XS.bipush X263.here hx rfl (hb hby at_80) k) ?_
  show own_Go _ _ _ _ (T263.setTop (mkF m 82 #[.val (.int p1), .val (.long q1), .second, .val (.long q2), .second, .val (.int nn), .val (.ref b246), .unset] [(.int (6 : Int32)), (.ref b246)]))
  refine own_Go.st (fun _ k => XS.lloadN X263.here hx rfl (hb hby at_82) rfl k) ?_
  show own_Go _ _ _ _ (T263.setTop (mkF m 83 #[.val (.int p1), .val (.long q1), .second, .val (.long q2), .second, .val (.int nn), .val (.ref b246), .unset] [(.long q2), (.int (6 : Int32)), (.ref b246)]))
  refine own_Go.st (fun _ k => XS.bipush X263.here hx rfl (hb hby at_83) k) ?_
  show own_Go _ _ _ _ (T263.setTop (mkF m 85 #[.val (.int p1), .val (.long q1), .second, .val (.long q2), .second, .val (.int nn), .val (.ref b246), .unset] [(.int (32 : Int32)), (.long q2), (.int (6 : Int32)), (.ref b246)]))
  refine own_Go.st (fun _ k => XS.lushr X263.here hx rfl (hb hby at_85) rfl k) ?_
  show own_Go _ _ _ _ (T263.setTop (mkF m 86 #[.val (.int p1), .val (.long q1), .second, .val (.long q2), .second, .val (.int nn), .val (.ref b246), .unset] [(.long ((q2.toUInt64 >>> ((32 : Int32) &&& 0x3f).toInt64.toUInt64).toInt64)), (.int (6 : Int32)), (.ref b246)]))
  refine own_Go.st (fun _ k => XS.l2i X263.here hx rfl (hb hby at_86) rfl k) ?_
  show own_Go _ _ _ _ (T263.setTop (mkF m 87 #[.val (.int p1), .val (.long q1), .second, .val (.long q2), .second, .val (.int nn), .val (.ref b246), .unset] [(.int (((q2.toUInt64 >>> ((32 : Int32) &&& 0x3f).toInt64.toUInt64).toInt64).toInt32)), (.int (6 : Int32)), (.ref b246)]))
  refine own_Go.st (fun _ k => XS.i2c X263.here hx rfl (hb hby at_87) rfl k) ?_
  show own_Go _ _ _ _ (T263.setTop (mkF m 88 #[.val (.int p1), .val (.long q1), .second, .val (.long q2), .second, .val (.int nn), .val (.ref b246), .unset] [(.int ((((q2.toUInt64 >>> ((32 : Int32) &&& 0x3f).toInt64.toUInt64).toInt64).toInt32).toUInt32.toUInt16.toUInt32.toInt32)), (.int (6 : Int32)), (.ref b246)]))
  have f267 : Old Z Z.heap.size T263.heap := f264.keep K263 (allS (by omega) all0)
  obtain ⟨_, _, ⟨T266, L266, k266, n266⟩, -, X266, ⟨Lc266, hQ266, l266, y266, z266⟩, st266⟩ := Jvm.LawKit.callS X263 hx (y := (⟨"com/example/roaming_pubsub/roamingpubsub/SessionDirectoryBytesOfPinLaw", "put", "([CIC)V"⟩ : MethodName)) hown (mvT hZ (hw _ (List.mem_of_getElem? (i := 1) rfl))) (mvT hZ (hw _ (List.mem_of_getElem? (i := 2) rfl))) (mvT hZ (hw _ (List.mem_of_getElem? (i := 3) rfl))) (mvT hZ (hw _ (List.mem_of_getElem? (i := 4) rfl))) (by decide) (backOf (W := 0) (rm_put l Z a0 hw [] b246 (6 : Int32) ((((q2.toUInt64 >>> ((32 : Int32) &&& 0x3f).toInt64.toUInt64).toInt64).toInt32).toUInt32.toUInt16.toUInt32.toInt32) k246 nn ds_263 (.int (0 : Int32)) T263.heap f267 f263_0 (by decide) pr263_0 pr263_1 pr263_2 (by omega)) hZ (hw _ (List.mem_of_getElem? (i := 4) rfl)) (hw _ (List.mem_of_getElem? (i := 3) rfl)) (by decide) (by decide)) (g := (mkF m 88 #[.val (.int p1), .val (.long q1), .second, .val (.long q2), .second, .val (.int nn), .val (.ref b246), .unset] [(.int ((((q2.toUInt64 >>> ((32 : Int32) &&& 0x3f).toInt64.toUInt64).toInt64).toInt32).toUInt32.toUInt16.toUInt32.toInt32)), (.int (6 : Int32)), (.ref b246)])) rfl (by rw [hml]; rfl) (argsL := [(.ref b246), (.int (6 : Int32)), (.int ((((q2.toUInt64 >>> ((32 : Int32) &&& 0x3f).toInt64.toUInt64).toInt64).toInt32).toUInt32.toUInt16.toUInt32.toInt32))]) (rest := []) (lenOf pd_211 rfl) rfl (by show 2 * 0 + _ ≤ _; exact Nat.le_of_eq rfl) (hb hby at_88) (fun _ _ => ⟨rfl, rfl, (by decide : 1 + 0 ≤ _), (by decide : 7 + 0 ≤ _)⟩)
  dsimp only [Pt.U, Pt.locs, Pt.cells, Pt.slots] at X266 l266 y266 z266 st266 hQ266
  subst l266 y266 z266
  obtain ⟨ds_266, rfl, N266q, K266, f266_0, pr266_0, pr266_1, pr266_2⟩ := hQ266
  have N266 := Fr.app N263 N266q
  have Sf268 : Safe Z consts_1 s.vm T263.heap b246 := Safe.arv hZ.alike f263_0 (by decide)
  have z266 : T263.heap.size ≤ T266.heap.size := K266.1
  have R266 : CHr Z consts_1 s.vm h0 s.vm T266.heap := R263.trans (CHr.keep K266 (sfS Sf268 sf0) R263.1)
  have lt266_0 : @LT.lt Nat _ b246 T266.heap.size := f266_0.lt
  refine own_Go.st st266 ?_
  show own_Go _ _ _ _ (T266.setTop (mkF m 91 #[.val (.int p1), .val (.long q1), .second, .val (.long q2), .second, .val (.int nn), .val (.ref b246), .unset] []))
  obtain ⟨T269, h269, X269, e269, E269, A269, D269, U269, st269⟩ := newO X266 hx hZ hown (hw _ (List.mem_of_getElem? (i := 5) rfl)) (hw _ (List.mem_of_getElem? (i := 6) rfl)) (hw _ (List.mem_of_getElem? (i := 7) rfl)) rfl (g := (mkF m 91 #[.val (.int p1), .val (.long q1), .second, .val (.long q2), .second, .val (.int nn), .val (.ref b246), .unset] [])) rfl (hb hby at_91) (by decide) (by decide)
  obtain ⟨b269, g269⟩ : ∃ z, z = T266.heap.size := ⟨_, rfl⟩
  rw [← g269] at A269 D269 U269 st269
  refine own_Go.st st269 ?_
  have z269 : T266.heap.size ≤ h269.size := E269.1
  have lt_b269 : @LT.lt Nat _ b269 h269.size := A269.lt
  have f270 : Fld Z h269 b269 "java/lang/String" "value" "[B" .null := D269 (Or.inr (hw _ (List.mem_of_getElem? (i := 20) rfl))) (ty := (.array .byte)) (by decide)
  have f271 : Fld Z h269 b269 "java/lang/String" "coder" "B" (.int (0 : Int32)) := D269 (Or.inr (hw _ (List.mem_of_getElem? (i := 21) rfl))) (ty := .byte) (by decide)
  have R269 : CHr Z consts_1 s.vm h0 s.vm h269 := R266.trans (CHr.ext E269 R266.1)
  have Sf269 : Safe Z consts_1 s.vm h269 b269 := (Safe.new (Nat.le_of_eq g269.symm)).ext E269 R266.1
  show own_Go _ _ _ _ (T269.setTop (mkF m 94 #[.val (.int p1), .val (.long q1), .second, .val (.long q2), .second, .val (.int nn), .val (.ref b246), .unset] [(.ref b269)]))
  refine own_Go.st (fun _ k => XS.dup X269.here hx rfl (hb hby at_94) rfl rfl k) ?_
  show own_Go _ _ _ _ (T269.setTop (mkF m 95 #[.val (.int p1), .val (.long q1), .second, .val (.long q2), .second, .val (.int nn), .val (.ref b246), .unset] [(.ref b269), (.ref b269)]))
  refine own_Go.st (fun _ k => XS.aload X269.here hx rfl (hb hby at_95) rfl rfl k) ?_
  show own_Go _ _ _ _ (T269.setTop (mkF m 97 #[.val (.int p1), .val (.long q1), .second, .val (.long q2), .second, .val (.int nn), .val (.ref b246), .unset] [(.ref b246), (.ref b269), (.ref b269)]))
  by_cases hz : nn = 0
  ·
    have f272 : Arv Z h269 b246 k246 .char nn (ds_266.map Value.int) (.int (0 : Int32)) := f266_0.ext E269
    have f273 : Arv Z h269 b246 k246 .char (0 : Int32) (ds_266.map Value.int) (.int (0 : Int32)) := hz ▸ f272
    have hl0 : nn = Int32.ofNat ([] : List Int32).length := hz
    have f275 : Old Z Z.heap.size T266.heap := f267.keep K266 (allS (by omega) all0)
    have f276 : Old Z Z.heap.size h269 := f275.ext E269
    obtain ⟨_, _, ⟨T274, L274, k274, n274⟩, -, X274, hs274, hg274, ⟨Lc274, hQ274, l274, y274, z274, ch274⟩, st274⟩ := X269.specialBackS hx (y := (⟨"java/lang/String", "<init>", "([C)V"⟩ : MethodName)) rfl hown (mvT hZ (hw _ (List.mem_of_getElem? (i := 8) rfl))) (mvT hZ (hw _ (List.mem_of_getElem? (i := 9) rfl))) (mvT hZ (hw _ (List.mem_of_getElem? (i := 10) rfl))) (by decide) (backOfSH (s := s) (vm0 := s.vm) (W := 1) (rm_init1e l Z a0 hw [] b269 b246 k246 (ds_266.map Value.int) (.int (0 : Int32)) h269 hEL f276 A269 f270 f271 f273 (by omega)) hZ (hw _ (List.mem_of_getElem? (i := 10) rfl)) (hw _ (List.mem_of_getElem? (i := 7) rfl)) (by decide) (by decide) hEL R269.1) (g := (mkF m 97 #[.val (.int p1), .val (.long q1), .second, .val (.long q2), .second, .val (.int nn), .val (.ref b246), .unset] [(.ref b246), (.ref b269), (.ref b269)])) rfl (by rw [hml]; rfl) (Steps.refl _) (a := b269) (argsL := [(.ref b246)]) (rest := [(.ref b269)]) (lenOf pd_212 rfl) rfl (by show 2 * 0 + _ ≤ _; exact Nat.le_of_eq rfl) (hb hby at_97) (fun _ _ => ⟨rfl, e269, (by decide : 2 + 4 ≤ _), (by decide : 11 + 8 ≤ _)⟩)
    dsimp only [Pt.U, Pt.locs, Pt.cells, Pt.slots] at X274 l274 y274 z274 st274 hQ274 hs274 hg274 ch274
    subst l274 y274 z274
    obtain ⟨t_274, rfl, N274q, K274, f274_0⟩ := hQ274
    have N274 := Fr.app N266 N274q
    obtain ⟨Y274, hS274, hZ274, hown274⟩ := rebS hS0 (n1 := h269.size) (by omega) X274 hs274 (by have := hg274; first | exact this | (rw [← e269]; exact this)) hZ hown
    have z274 : h269.size ≤ T274.heap.size := K274.1
    have R274 : CHr Z consts_1 s.vm h0 T274.vm T274.heap := R269.trans ch274
    have Sf277 : Safe Z consts_1 T274.vm T274.heap b269 := ch274.safe (by show @LT.lt Nat _ b269 _; omega) Sf269
    have lt274_0 : @LT.lt Nat _ b269 T274.heap.size := f274_0.lt
    have ltv274_0 : @LT.lt Nat _ t_274 T274.heap.size := f274_0.ltv
    refine own_Go.tr st274 ?_
    show own_Go _ _ _ _ (T274.setTop (mkF m 100 #[.val (.int p1), .val (.long q1), .second, .val (.long q2), .second, .val (.int nn), .val (.ref b246), .unset] [(.ref b269)]))
    refine own_Go.st (fun _ k => XS.astore Y274.here hx rfl (hb hby at_100) rfl rfl (l' := #[.val (.int p1), .val (.long q1), .second, .val (.long q2), .second, .val (.int nn), .val (.ref b246), .val (.ref b269)]) rfl k) ?_
    show own_Go _ _ _ _ (T274.setTop (mkF m 102 #[.val (.int p1), .val (.long q1), .second, .val (.long q2), .second, .val (.int nn), .val (.ref b246), .val (.ref b269)] []))
    refine own_Go.st (fun _ k => XS.aload Y274.here hx rfl (hb hby at_102) rfl rfl k) ?_
    show own_Go _ _ _ _ (T274.setTop (mkF m 104 #[.val (.int p1), .val (.long q1), .second, .val (.long q2), .second, .val (.int nn), .val (.ref b246), .val (.ref b269)] [(.ref b269)]))
    have f279 : Old Z Z.heap.size T274.heap := f276.keep K274 (allS (by omega) all0)
    obtain ⟨_, _, ⟨T278, L278, k278, n278⟩, -, X278, ⟨Lc278, hQ278, l278, y278, z278⟩, st278⟩ := Jvm.LawKit.callS Y274 hx (y := (⟨"com/example/roaming_pubsub/roamingpubsub/SessionDirectory", "bytesOf", "(Ljava/lang/String;)J"⟩ : MethodName)) hown274 (mvT hZ274 (hw _ (List.mem_of_getElem? (i := 26) rfl))) (mvT hZ274 (hw _ (List.mem_of_getElem? (i := 27) rfl))) (mvT hZ274 (hw _ (List.mem_of_getElem? (i := 28) rfl))) (mvT hZ274 (hw _ (List.mem_of_getElem? (i := 29) rfl))) (by decide) (backOf (W := 0) (rm_bytesOf l Z a0 hw [] b269 t_274 [] zc T274.heap f279 f274_0 st_COMPACT_STRINGS (by first | assumption | decide)) hZ274 (hw _ (List.mem_of_getElem? (i := 29) rfl)) (hw _ (List.mem_of_getElem? (i := 28) rfl)) (by decide) (by decide)) (g := (mkF m 104 #[.val (.int p1), .val (.long q1), .second, .val (.long q2), .second, .val (.int nn), .val (.ref b246), .val (.ref b269)] [(.ref b269)])) rfl (by rw [hml]; rfl) (argsL := [(.ref b269)]) (rest := []) (lenOf pd_213 rfl) rfl (by show 2 * 0 + _ ≤ _; exact Nat.le_of_eq rfl) (hb hby at_104) (fun _ _ => ⟨rfl, rfl, (by decide : 6 + 0 ≤ _), (by decide : 19 + 0 ≤ _)⟩)
    dsimp only [Pt.U, Pt.locs, Pt.cells, Pt.slots] at X278 l278 y278 z278 st278 hQ278
    subst l278 y278 z278
    obtain ⟨rfl, N278q, K278⟩ := hQ278
    have N278 := Fr.app N274 N278q
    refine own_Go.st st278 ?_
    show own_Go _ _ _ _ (T278.setTop (mkF m 107 #[.val (.int p1), .val (.long q1), .second, .val (.long q2), .second, .val (.int nn), .val (.ref b246), .val (.ref b269)] [(.long (((2 : Int64) * (Int32.ofNat [].length).toInt64) + (128 : Int64)))]))
    refine own_Go.st (X278.ldc2Long hx hown274 (mvT hZ274 (hw _ (List.mem_of_getElem? (i := 43) rfl))) (g := (mkF m 107 #[.val (.int p1), .val (.long q1), .second, .val (.long q2), .second, .val (.int nn), .val (.ref b246), .val (.ref b269)] [(.long (((2 : Int64) * (Int32.ofNat [].length).toInt64) + (128 : Int64)))])) rfl (hb hby at_107)) ?_
    show own_Go _ _ _ _ (T278.setTop (mkF m 110 #[.val (.int p1), .val (.long q1), .second, .val (.long q2), .second, .val (.int nn), .val (.ref b246), .val (.ref b269)] [(.long (128 : Int64)), (.long (((2 : Int64) * (Int32.ofNat [].length).toInt64) + (128 : Int64)))]))
    refine own_Go.st (X278.ldc2Long hx hown274 (mvT hZ274 (hw _ (List.mem_of_getElem? (i := 44) rfl))) (g := (mkF m 110 #[.val (.int p1), .val (.long q1), .second, .val (.long q2), .second, .val (.int nn), .val (.ref b246), .val (.ref b269)] [(.long (128 : Int64)), (.long (((2 : Int64) * (Int32.ofNat [].length).toInt64) + (128 : Int64)))])) rfl (hb hby at_110)) ?_
    show own_Go _ _ _ _ (T278.setTop (mkF m 113 #[.val (.int p1), .val (.long q1), .second, .val (.long q2), .second, .val (.int nn), .val (.ref b246), .val (.ref b269)] [(.long (2 : Int64)), (.long (128 : Int64)), (.long (((2 : Int64) * (Int32.ofNat [].length).toInt64) + (128 : Int64)))]))
    refine own_Go.st (fun _ k => XS.iload X278.here hx rfl (hb hby at_113) rfl k) ?_
    show own_Go _ _ _ _ (T278.setTop (mkF m 115 #[.val (.int p1), .val (.long q1), .second, .val (.long q2), .second, .val (.int nn), .val (.ref b246), .val (.ref b269)] [(.int nn), (.long (2 : Int64)), (.long (128 : Int64)), (.long (((2 : Int64) * (Int32.ofNat [].length).toInt64) + (128 : Int64)))]))
    refine own_Go.st (fun _ k => XS.i2l X278.here hx rfl (hb hby at_115) rfl k) ?_
    show own_Go _ _ _ _ (T278.setTop (mkF m 116 #[.val (.int p1), .val (.long q1), .second, .val (.long q2), .second, .val (.int nn), .val (.ref b246), .val (.ref b269)] [(.long (nn.toInt64)), (.long (2 : Int64)), (.long (128 : Int64)), (.long (((2 : Int64) * (Int32.ofNat [].length).toInt64) + (128 : Int64)))]))
    refine own_Go.st (fun _ k => XS.lmul X278.here hx rfl (hb hby at_116) rfl k) ?_
    show own_Go _ _ _ _ (T278.setTop (mkF m 117 #[.val (.int p1), .val (.long q1), .second, .val (.long q2), .second, .val (.int nn), .val (.ref b246), .val (.ref b269)] [(.long ((2 : Int64) * (nn.toInt64))), (.long (128 : Int64)), (.long (((2 : Int64) * (Int32.ofNat [].length).toInt64) + (128 : Int64)))]))
    refine own_Go.st (fun _ k => XS.ladd X278.here hx rfl (hb hby at_117) rfl k) ?_
    show own_Go _ _ _ _ (T278.setTop (mkF m 118 #[.val (.int p1), .val (.long q1), .second, .val (.long q2), .second, .val (.int nn), .val (.ref b246), .val (.ref b269)] [(.long ((128 : Int64) + ((2 : Int64) * (nn.toInt64)))), (.long (((2 : Int64) * (Int32.ofNat [].length).toInt64) + (128 : Int64)))]))
    refine own_Go.st (fun _ k => XS.lcmp X278.here hx rfl (hb hby at_118) rfl k) ?_
    show own_Go _ _ _ _ (T278.setTop (mkF m 119 #[.val (.int p1), .val (.long q1), .second, .val (.long q2), .second, .val (.int nn), .val (.ref b246), .val (.ref b269)] [(.int (lcmpW (((2 : Int64) * (Int32.ofNat [].length).toInt64) + (128 : Int64)) ((128 : Int64) + ((2 : Int64) * (nn.toInt64)))))]))
    have hc280 : (lcmpW (((2 : Int64) * (Int32.ofNat [].length).toInt64) + (128 : Int64)) ((128 : Int64) + ((2 : Int64) * (nn.toInt64)))) = (0 : Int32) := (lw_eq _ _).mpr (by rw [hl0, Int64.add_comm])
    refine own_Go.st (fun _ k => XS.ifNo X278.here hx rfl (hb hby at_119) rfl ((if0 _ _).trans (teq hc280).2) k) ?_
    show own_Go _ _ _ _ (T278.setTop (mkF m 122 #[.val (.int p1), .val (.long q1), .second, .val (.long q2), .second, .val (.int nn), .val (.ref b246), .val (.ref b269)] []))
    refine own_Go.st (fun _ k => XS.iconst X278.here hx rfl (hb hby at_122) k) ?_
    show own_Go _ _ _ _ (T278.setTop (mkF m 123 #[.val (.int p1), .val (.long q1), .second, .val (.long q2), .second, .val (.int nn), .val (.ref b246), .val (.ref b269)] [(.int (1 : Int32))]))
    refine own_Go.st (fun _ k => XS.goto X278.here hx rfl (pc0 := 123) (pc' := 127) rfl (hb hby at_123) (by decide) (by decide) k) ?_
    show own_Go _ _ _ _ (T278.setTop (mkF m 127 #[.val (.int p1), .val (.long q1), .second, .val (.long q2), .second, .val (.int nn), .val (.ref b246), .val (.ref b269)] [(.int (1 : Int32))]))
    obtain ⟨fs281, hr281, hrun281, hend281, hret281⟩ := X278.leaveW hS274 (by rw [K278]; exact (by omega)) (v := some (.int (nar .boolean (1 : Int32)))) (fun h => by rw [Bd.returns] at h; cases h)
    have K282 : Keep h0 h246 [] := (Keep.refl h0 []).ext E246
    have K283 : Keep h0 T248.heap [] := K282.trans K248 (allS (Or.inr (by omega)) all0)
    have K284 : Keep h0 T251.heap [] := K283.trans K251 (allS (Or.inr (by omega)) all0)
    have K285 : Keep h0 T254.heap [] := K284.trans K254 (allS (Or.inr (by omega)) all0)
    have K286 : Keep h0 T257.heap [] := K285.trans K257 (allS (Or.inr (by omega)) all0)
    have K287 : Keep h0 T260.heap [] := K286.trans K260 (allS (Or.inr (by omega)) all0)
    have K288 : Keep h0 T263.heap [] := K287.trans K263 (allS (Or.inr (by omega)) all0)
    have K289 : Keep h0 T266.heap [] := K288.trans K266 (allS (Or.inr (by omega)) all0)
    have K290 : Keep h0 h269 [] := K289.ext E269
    have K291 : Keep h0 T274.heap [] := K290.trans K274 (allS (Or.inr (by omega)) all0)
    subst hPP
    refine ⟨_, _, retN X278 hx (t := .boolean) Bd.returns (by simp) (hb hby at_127) hr281, hrun281, hend281, _, _, rfl, ?_, ?_, hret281.1, hret281.2.1, hret281.2.2.1, hret281.2.2.2.mono (by decide) (by decide)⟩
    · show Q_law Z _ _ _ _ h0 _ T278.heap _
      rw [K278]
      exact ⟨rfl, N278, K291⟩
    · have hfin := R274.trans (CHv.at X278 hZ274 hEL R274.1)
      rw [← hh] at hfin
      show CHr Z consts_1 s.vm s.heap T278.vm T278.heap
      rw [K278]
      exact hfin
  ·
    have hlen : 0 < ds_266.length := by
      rcases Nat.eq_zero_or_pos ds_266.length with q | q
      · exact absurd (by rw [pr266_0, q]; rfl) hz
      · exact q
    have f293 : Arv Z h269 b246 k246 .char nn (ds_266.map Value.int) (.int (0 : Int32)) := f266_0.ext E269
    have f294 : Old Z Z.heap.size T266.heap := f267.keep K266 (allS (by omega) all0)
    have f295 : Old Z Z.heap.size h269 := f294.ext E269
    obtain ⟨_, _, ⟨T292, L292, k292, n292⟩, -, X292, ⟨Lc292, hQ292, l292, y292, z292⟩, st292⟩ := X269.specialBack hx (y := (⟨"java/lang/String", "<init>", "([C)V"⟩ : MethodName)) rfl hown (mvT hZ (hw _ (List.mem_of_getElem? (i := 8) rfl))) (mvT hZ (hw _ (List.mem_of_getElem? (i := 9) rfl))) (mvT hZ (hw _ (List.mem_of_getElem? (i := 10) rfl))) (by decide) (own_backStr (W := 1) (cs := ds_266) hZ hw f295 A269 f270 f271 f293 st_COMPACT_STRINGS st__assertionsDisabled st_HI_BYTE_SHIFT st_LO_BYTE_SHIFT pr266_0 hlen (by omega) pr266_2 (by omega) (by first | assumption | decide) (by decide) (by decide)) (g := (mkF m 97 #[.val (.int p1), .val (.long q1), .second, .val (.long q2), .second, .val (.int nn), .val (.ref b246), .unset] [(.ref b246), (.ref b269), (.ref b269)])) rfl (by rw [hml]; rfl) (Steps.refl _) (a := b269) (argsL := [(.ref b246)]) (rest := [(.ref b269)]) (lenOf pd_212 rfl) rfl (by show 2 * 0 + _ ≤ _; exact Nat.le_of_eq rfl) (hb hby at_97) (fun _ _ => ⟨rfl, e269, (by decide : 2 + 2 ≤ _), (by decide : 11 + 24 ≤ _)⟩)
    dsimp only [Pt.U, Pt.locs, Pt.cells, Pt.slots] at X292 l292 y292 z292 st292 hQ292
    subst l292 y292 z292
    obtain ⟨t_292, rfl, N292q, K292, f292_0, pr292_0⟩ := hQ292
    have N292 := Fr.app N266 N292q
    have z292 : h269.size ≤ T292.heap.size := K292.1
    have R292 : CHr Z consts_1 s.vm h0 s.vm T292.heap := R269.trans (CHr.keep K292 (sfS Sf269 sf0) R269.1)
    have Sf296 : Safe Z consts_1 s.vm T292.heap b269 := Safe.keep K292 (sfS Sf269 sf0) R269.1 Sf269
    have lt292_0 : @LT.lt Nat _ b269 T292.heap.size := f292_0.lt
    have ltv292_0 : @LT.lt Nat _ t_292 T292.heap.size := f292_0.ltv
    refine own_Go.tr st292 ?_
    show own_Go _ _ _ _ (T292.setTop (mkF m 100 #[.val (.int p1), .val (.long q1), .second, .val (.long q2), .second, .val (.int nn), .val (.ref b246), .unset] [(.ref b269)]))
    refine own_Go.st (fun _ k => XS.astore X292.here hx rfl (hb hby at_100) rfl rfl (l' := #[.val (.int p1), .val (.long q1), .second, .val (.long q2), .second, .val (.int nn), .val (.ref b246), .val (.ref b269)]) rfl k) ?_
    show own_Go _ _ _ _ (T292.setTop (mkF m 102 #[.val (.int p1), .val (.long q1), .second, .val (.long q2), .second, .val (.int nn), .val (.ref b246), .val (.ref b269)] []))
    refine own_Go.st (fun _ k => XS.aload X292.here hx rfl (hb hby at_102) rfl rfl k) ?_
    show own_Go _ _ _ _ (T292.setTop (mkF m 104 #[.val (.int p1), .val (.long q1), .second, .val (.long q2), .second, .val (.int nn), .val (.ref b246), .val (.ref b269)] [(.ref b269)]))
    have f298 : Old Z Z.heap.size T292.heap := f295.keep K292 (allS (by omega) all0)
    obtain ⟨_, _, ⟨T297, L297, k297, n297⟩, -, X297, ⟨Lc297, hQ297, l297, y297, z297⟩, st297⟩ := Jvm.LawKit.callS X292 hx (y := (⟨"com/example/roaming_pubsub/roamingpubsub/SessionDirectory", "bytesOf", "(Ljava/lang/String;)J"⟩ : MethodName)) hown (mvT hZ (hw _ (List.mem_of_getElem? (i := 26) rfl))) (mvT hZ (hw _ (List.mem_of_getElem? (i := 27) rfl))) (mvT hZ (hw _ (List.mem_of_getElem? (i := 28) rfl))) (mvT hZ (hw _ (List.mem_of_getElem? (i := 29) rfl))) (by decide) (backOf (W := 0) (rm_bytesOf l Z a0 hw [] b269 t_292 ds_266 zc T292.heap f298 f292_0 st_COMPACT_STRINGS (by first | assumption | decide)) hZ (hw _ (List.mem_of_getElem? (i := 29) rfl)) (hw _ (List.mem_of_getElem? (i := 28) rfl)) (by decide) (by decide)) (g := (mkF m 104 #[.val (.int p1), .val (.long q1), .second, .val (.long q2), .second, .val (.int nn), .val (.ref b246), .val (.ref b269)] [(.ref b269)])) rfl (by rw [hml]; rfl) (argsL := [(.ref b269)]) (rest := []) (lenOf pd_213 rfl) rfl (by show 2 * 0 + _ ≤ _; exact Nat.le_of_eq rfl) (hb hby at_104) (fun _ _ => ⟨rfl, rfl, (by decide : 4 + 0 ≤ _), (by decide : 35 + 0 ≤ _)⟩)
    dsimp only [Pt.U, Pt.locs, Pt.cells, Pt.slots] at X297 l297 y297 z297 st297 hQ297
    subst l297 y297 z297
    obtain ⟨rfl, N297q, K297⟩ := hQ297
    have N297 := Fr.app N292 N297q
    refine own_Go.st st297 ?_
    show own_Go _ _ _ _ (T297.setTop (mkF m 107 #[.val (.int p1), .val (.long q1), .second, .val (.long q2), .second, .val (.int nn), .val (.ref b246), .val (.ref b269)] [(.long (((2 : Int64) * (Int32.ofNat ds_266.length).toInt64) + (128 : Int64)))]))
    refine own_Go.st (X297.ldc2Long hx hown (mvT hZ (hw _ (List.mem_of_getElem? (i := 43) rfl))) (g := (mkF m 107 #[.val (.int p1), .val (.long q1), .second, .val (.long q2), .second, .val (.int nn), .val (.ref b246), .val (.ref b269)] [(.long (((2 : Int64) * (Int32.ofNat ds_266.length).toInt64) + (128 : Int64)))])) rfl (hb hby at_107)) ?_
    show own_Go _ _ _ _ (T297.setTop (mkF m 110 #[.val (.int p1), .val (.long q1), .second, .val (.long q2), .second, .val (.int nn), .val (.ref b246), .val (.ref b269)] [(.long (128 : Int64)), (.long (((2 : Int64) * (Int32.ofNat ds_266.length).toInt64) + (128 : Int64)))]))
    refine own_Go.st (X297.ldc2Long hx hown (mvT hZ (hw _ (List.mem_of_getElem? (i := 44) rfl))) (g := (mkF m 110 #[.val (.int p1), .val (.long q1), .second, .val (.long q2), .second, .val (.int nn), .val (.ref b246), .val (.ref b269)] [(.long (128 : Int64)), (.long (((2 : Int64) * (Int32.ofNat ds_266.length).toInt64) + (128 : Int64)))])) rfl (hb hby at_110)) ?_
    show own_Go _ _ _ _ (T297.setTop (mkF m 113 #[.val (.int p1), .val (.long q1), .second, .val (.long q2), .second, .val (.int nn), .val (.ref b246), .val (.ref b269)] [(.long (2 : Int64)), (.long (128 : Int64)), (.long (((2 : Int64) * (Int32.ofNat ds_266.length).toInt64) + (128 : Int64)))]))
    refine own_Go.st (fun _ k => XS.iload X297.here hx rfl (hb hby at_113) rfl k) ?_
    show own_Go _ _ _ _ (T297.setTop (mkF m 115 #[.val (.int p1), .val (.long q1), .second, .val (.long q2), .second, .val (.int nn), .val (.ref b246), .val (.ref b269)] [(.int nn), (.long (2 : Int64)), (.long (128 : Int64)), (.long (((2 : Int64) * (Int32.ofNat ds_266.length).toInt64) + (128 : Int64)))]))
    refine own_Go.st (fun _ k => XS.i2l X297.here hx rfl (hb hby at_115) rfl k) ?_
    show own_Go _ _ _ _ (T297.setTop (mkF m 116 #[.val (.int p1), .val (.long q1), .second, .val (.long q2), .second, .val (.int nn), .val (.ref b246), .val (.ref b269)] [(.long (nn.toInt64)), (.long (2 : Int64)), (.long (128 : Int64)), (.long (((2 : Int64) * (Int32.ofNat ds_266.length).toInt64) + (128 : Int64)))]))
    refine own_Go.st (fun _ k => XS.lmul X297.here hx rfl (hb hby at_116) rfl k) ?_
    show own_Go _ _ _ _ (T297.setTop (mkF m 117 #[.val (.int p1), .val (.long q1), .second, .val (.long q2), .second, .val (.int nn), .val (.ref b246), .val (.ref b269)] [(.long ((2 : Int64) * (nn.toInt64))), (.long (128 : Int64)), (.long (((2 : Int64) * (Int32.ofNat ds_266.length).toInt64) + (128 : Int64)))]))
    refine own_Go.st (fun _ k => XS.ladd X297.here hx rfl (hb hby at_117) rfl k) ?_
    show own_Go _ _ _ _ (T297.setTop (mkF m 118 #[.val (.int p1), .val (.long q1), .second, .val (.long q2), .second, .val (.int nn), .val (.ref b246), .val (.ref b269)] [(.long ((128 : Int64) + ((2 : Int64) * (nn.toInt64)))), (.long (((2 : Int64) * (Int32.ofNat ds_266.length).toInt64) + (128 : Int64)))]))
    refine own_Go.st (fun _ k => XS.lcmp X297.here hx rfl (hb hby at_118) rfl k) ?_
    show own_Go _ _ _ _ (T297.setTop (mkF m 119 #[.val (.int p1), .val (.long q1), .second, .val (.long q2), .second, .val (.int nn), .val (.ref b246), .val (.ref b269)] [(.int (lcmpW (((2 : Int64) * (Int32.ofNat ds_266.length).toInt64) + (128 : Int64)) ((128 : Int64) + ((2 : Int64) * (nn.toInt64)))))]))
    have hc299 : (lcmpW (((2 : Int64) * (Int32.ofNat ds_266.length).toInt64) + (128 : Int64)) ((128 : Int64) + ((2 : Int64) * (nn.toInt64)))) = (0 : Int32) := (lw_eq _ _).mpr (by rw [pr266_0, Int64.add_comm])
    refine own_Go.st (fun _ k => XS.ifNo X297.here hx rfl (hb hby at_119) rfl ((if0 _ _).trans (teq hc299).2) k) ?_
    show own_Go _ _ _ _ (T297.setTop (mkF m 122 #[.val (.int p1), .val (.long q1), .second, .val (.long q2), .second, .val (.int nn), .val (.ref b246), .val (.ref b269)] []))
    refine own_Go.st (fun _ k => XS.iconst X297.here hx rfl (hb hby at_122) k) ?_
    show own_Go _ _ _ _ (T297.setTop (mkF m 123 #[.val (.int p1), .val (.long q1), .second, .val (.long q2), .second, .val (.int nn), .val (.ref b246), .val (.ref b269)] [(.int (1 : Int32))]))
    refine own_Go.st (fun _ k => XS.goto X297.here hx rfl (pc0 := 123) (pc' := 127) rfl (hb hby at_123) (by decide) (by decide) k) ?_
    show own_Go _ _ _ _ (T297.setTop (mkF m 127 #[.val (.int p1), .val (.long q1), .second, .val (.long q2), .second, .val (.int nn), .val (.ref b246), .val (.ref b269)] [(.int (1 : Int32))]))
    obtain ⟨fs300, hr300, hrun300, hend300, hret300⟩ := X297.leaveW hS0 (by rw [K297]; exact (by omega)) (v := some (.int (nar .boolean (1 : Int32)))) (fun h => by rw [Bd.returns] at h; cases h)
    have K301 : Keep h0 h246 [] := (Keep.refl h0 []).ext E246
    have K302 : Keep h0 T248.heap [] := K301.trans K248 (allS (Or.inr (by omega)) all0)
    have K303 : Keep h0 T251.heap [] := K302.trans K251 (allS (Or.inr (by omega)) all0)
    have K304 : Keep h0 T254.heap [] := K303.trans K254 (allS (Or.inr (by omega)) all0)
    have K305 : Keep h0 T257.heap [] := K304.trans K257 (allS (Or.inr (by omega)) all0)
    have K306 : Keep h0 T260.heap [] := K305.trans K260 (allS (Or.inr (by omega)) all0)
    have K307 : Keep h0 T263.heap [] := K306.trans K263 (allS (Or.inr (by omega)) all0)
    have K308 : Keep h0 T266.heap [] := K307.trans K266 (allS (Or.inr (by omega)) all0)
    have K309 : Keep h0 h269 [] := K308.ext E269
    have K310 : Keep h0 T292.heap [] := K309.trans K292 (allS (Or.inr (by omega)) all0)
    subst hPP
    refine ⟨_, _, retN X297 hx (t := .boolean) Bd.returns (by simp) (hb hby at_127) hr300, hrun300, hend300, _, _, rfl, ?_, ?_, hret300.1, hret300.2.1, hret300.2.2.1, hret300.2.2.2.mono (by decide) (by decide)⟩
    · show Q_law Z _ _ _ _ h0 _ T297.heap _
      rw [K297]
      exact ⟨rfl, N297, K310⟩
    · have hfin := R292.trans (CHv.at X297 hZ hEL R292.1)
      rw [← hh] at hfin
      show CHr Z consts_1 s.vm s.heap T297.vm T297.heap
      rw [K297]
      exact hfin

theorem own_staEq {s : State} {args : Array Value} {C n d : String} {v : Int32} (h : (Jvm.Cond.eq (Jvm.Term.static C n d) (Jvm.Term.int v)).before args s = true) (hi : (Jvm.Cond.initializedFor C n d).before args s = true) : Sta s s.heap C n d (.int v) := by
  obtain ⟨x, y, e1, e2, -, -⟩ := cmp_v (Or.inl (Cond.before_iff.mp h))
  have e3 : y = .int v := by simpa [Term.eval] using e2.symm
  subst e3
  have e4 : x = .int v := by
    have q := Cond.before_iff.mp h
    simp only [Cond.value, e1, e2] at q
    cases x <;> simp_all
  subst e4
  exact Sta.start e1 (Or.inl hi)

set_option maxRecDepth 65536 in
set_option maxHeartbeats 40000000 in
theorem comes_1 {Post : Tables → Env → Array Value → State → Outcome → State → Prop} (hpost : ∀ tb e args s v u, (limb_1_1.after args s (.returned v) u = true ∧ limb_1_2.after args s (.returned v) u = true ∧ True) → ReturnedEndW s (.returned v) u (Jvm.fieldLocs frame_1_writes args s ++ Jvm.arrayLocs frame_1_arrays args s ++ Jvm.staticLocs frame_1_statics s) 24 1216 → Post tb e args s (.returned v) u) :
    ArmFor flags0 classFile x code maxLocals ret World_1 tables_1 room_1 Calls_1 rest_1 Pre_1 Post := by
  intro l hfl _ _ p e ha hc hk s m args below hf hA hF happ hP
  obtain ⟨hcalls, hrest, hpre⟩ := hP
  obtain ⟨-, -, -, hnamed, -, -, -, hat⟩ := (Spec.applies_iff hf).mp happ
  obtain ⟨hg, hn⟩ := and_e (Cond.before_iff.mp (show (Jvm.Cond.and given_1 narrow_1).before args s = true from hpre))
  obtain ⟨g0, r0⟩ := and_e hg
  obtain ⟨g1, r1⟩ := and_e r0
  obtain ⟨g2, r2⟩ := and_e r1
  obtain ⟨w0, w1, w2, rfl⟩ : ∃ w0 w1 w2 : Value, args = #[w0, w1, w2] := by
    have hs : args.size = 3 := by simpa [Cond.value, given_1] using g0
    obtain ⟨L⟩ := args
    match L, hs with
    | [w0, w1, w2], _ => exact ⟨w0, w1, w2, rfl⟩
  have hw := fun d (hd : d ∈ tables_1) => atoms_spec (ws := Jvm.Cond.code x code maxLocals ret :: tables_1) hat d (List.mem_cons_of_mem _ hd)
  obtain ⟨hsets, hown0⟩ := atoms_of _ (rest_1_c_eq ▸ (show rest_1_c.before _ s = true from hrest))
  have hfit : Fit s := fun {y c} hc i hi => by
    obtain ⟨ha, rfl⟩ := Array.getElem?_eq_some_iff.mp hc
    have q := List.all_eq_true.mp ((Array.all_eq_true_iff_forall_mem.mp hF) _ (Array.getElem_mem ha)) i (List.mem_range.mpr hi)
    simpa [Array.getElem?_eq_getElem hi] using q
  obtain ⟨i0, e0⟩ := is_v g1
  obtain rfl : w0 = (.int i0) := Option.some.inj e0
  obtain ⟨i1, e1⟩ := isL_v g2
  obtain rfl : w1 = (.long i1) := Option.some.inj e1
  obtain ⟨i2, e2⟩ := isL_v r2
  obtain rfl : w2 = (.long i2) := Option.some.inj e2
  obtain ⟨zc, ez⟩ := is_v (Cond.before_iff.mp (hsets _ (List.mem_of_getElem? (i := 1) rfl)))
  have st_zc : Sta s s.heap "java/lang/String" "COMPACT_STRINGS" "Z" (.int zc) := Sta.start ez (Or.inl (hsets _ (List.mem_of_getElem? (i := 0) rfl)))
  have hzc : ¬ (zc = (0 : Int32)) := gotF (Cond.eq_ints ez (Term.int_eval (0))) (not_v (Cond.before_iff.mp (hsets _ (List.mem_of_getElem? (i := 2) rfl))))
  have hEL : EW s _ consts_1 := (EW.cons (hw _ (List.mem_of_getElem? (i := 18) rfl)) (by decide) EW.nil)
  have hC0 : CHv s consts_1 s.vm s.heap := CHv.start hEL (fun p hp => hcalls.1 p hp) (hsets _ (List.mem_of_getElem? (i := 2) rfl)) (hw _ (List.mem_of_getElem? (i := 19) rfl)) (hw _ (List.mem_of_getElem? (i := 6) rfl))
  have st__assertionsDisabled : Sta s s.heap "java/lang/StringUTF16" "$assertionsDisabled" "Z" (.int (1 : Int32)) := own_staEq (hsets _ (List.mem_of_getElem? (i := 12) rfl)) (hsets _ (List.mem_of_getElem? (i := 11) rfl))
  have st_HI_BYTE_SHIFT : Sta s s.heap "java/lang/StringUTF16" "HI_BYTE_SHIFT" "I" (.int (0 : Int32)) := own_staEq (hsets _ (List.mem_of_getElem? (i := 15) rfl)) (hsets _ (List.mem_of_getElem? (i := 14) rfl))
  have st_LO_BYTE_SHIFT : Sta s s.heap "java/lang/StringUTF16" "LO_BYTE_SHIFT" "I" (.int (8 : Int32)) := own_staEq (hsets _ (List.mem_of_getElem? (i := 18) rfl)) (hsets _ (List.mem_of_getElem? (i := 17) rfl))
  obtain ⟨n, o, h1, h2, h3, _, L, rfl, ⟨rfl, N, -⟩, -, hq⟩ := rm_law l s _ hw tables_1 i0 i1 i2 zc s.heap hEL (Old.start s) st_zc st__assertionsDisabled st_HI_BYTE_SHIFT st_LO_BYTE_SHIFT hzc p e ha hc hk s m _ below hf ((Spec.applies_iff_loose hf).mp happ).1 ⟨rfl, State.Warmed39.refl s, rfl, hC0⟩ trivial
  refine ⟨n, _, h1, h2, h3, hpost _ _ _ _ _ _ ⟨Cond.after_iff.mpr rfl, Cond.after_iff.mpr (eq_i res_at (Term.int_eval (1)) rfl), trivial⟩ ⟨hq.1, hq.2.1, hq.2.2.1, (hq.2.2.2.sift fun y hy => Or.inr (N y hy)).mono (by decide) (by decide)⟩⟩
theorem main_1_1 : Claimed_1_1 := comes_1 fun _ _ _ _ _ _ h hF => ⟨h.1, hF⟩
theorem main_1_2 : Claimed_1_2 := comes_1 fun _ _ _ _ _ _ h hF => ⟨h.2.1, hF⟩
end Jvm.Pilot.@@N@@
namespace Jvm.Pilot.@@N@@
open Jvm Jvm.ClassFile Sem Op Lib Jvm.Free Jvm.Stand Jvm.Pilot.@@N@@.Jvm.D
/-! MADE BY PROGRAM (witnessworld.py) out of the Statement's table words and the real class files: 20 classes; the members and pool entries that the words name. The judged class is class 1, her method 1. -/
namespace start1
open Jvm.ClassFile
def u (s : String) : CpInfo := .utf8 (stringToUtf16 s)
/-- a pool by its gaps: so many unusable entries, then the entry; so many at the end -/
def gap : Nat → List CpInfo → List CpInfo
  | 0, r => r
  | n + 1, r => .unusable :: gap n r
def poolList (es : List (Nat × CpInfo)) (last : Nat) : List CpInfo := es.foldr (fun e r => gap e.1 (e.2 :: r)) (gap last [])
def pool (es : List (Nat × CpInfo)) (last : Nat) : Array CpInfo := ⟨poolList es last⟩
def fileOf (pool : Array CpInfo) (this : Nat) (attrs : Array Attribute := #[]) (ms : Array MethodInfo := #[]) (fl : Nat := 33) (sup : Nat := 0) (ifs : Array Nat := #[]) (fds : Array FieldInfo := #[]) : ClassFile where
  minorVersion := 0
  majorVersion := 65
  constantPool := pool
  accessFlags := fl
  thisClass := this
  superClass := sup
  interfaces := ifs
  fields := fds
  methods := ms
  attributes := attrs
def plain (name : String) (sup : Option ClassId) : Class where
  name := name
  kind := .ordinary
  loader := none
  accessFlags := 33
  super := sup
  interfaces := #[]
  cf := none
  fields := #[]
  methods := #[]
  instanceTypes := #[]
  staticTypes := #[]
  resolved := #[]
  callSites := []
  init := .initialized
  statics := none
  mirror := none

def pool0 : Array CpInfo := pool [(5, u "<init>"), (0, u "()V"), (1, .class_ 10), (1, u "java/lang/Object")] 113

def k0c0 : Code := { maxStack := 0, maxLocals := 1, code := object_method_1_code, exceptionTable := #[], attributes := #[] }
def k0m0 : Method := { name := "<init>", desc := "()V", sig := { parameters := [], returnType := none }, accessFlags := 1, code := some k0c0 }
/-- java/lang/Object -/
def k0 : Class := { plain "java/lang/Object" none with
  accessFlags := 33
  interfaces := #[]
  cf := some (fileOf pool0 8 #[] #[{ accessFlags := 1, nameIndex := 5, descriptorIndex := 6, attributes := #[] }] 33 0 #[] #[])
  fields := #[]
  methods := #[k0m0]
  instanceTypes := #[]
  staticTypes := #[]
  resolved := Array.replicate 124 none
  statics := none }

def pool1 : Array CpInfo := pool [(2, .class_ 4), (1, u "java/lang/Object"), (0, u "<init>"), (0, u "()V"), (0, .methodref 8 9), (0, .class_ 10), (0, .nameAndType 11 12), (0, u "com/example/roaming_pubsub/roamingpubsub/SessionDirectoryBytesOfPinLaw"), (0, u "put"), (0, u "([CIC)V"), (0, .class_ 14), (0, u "java/lang/String"), (0, .methodref 13 16), (0, .nameAndType 5 17), (0, u "([C)V"), (0, .methodref 19 20), (0, .class_ 21), (0, .nameAndType 22 23), (0, u "com/example/roaming_pubsub/roamingpubsub/SessionDirectory"), (0, u "bytesOf"), (0, u "(Ljava/lang/String;)J"), (0, .long 128), (1, .long 2), (3, u "law"), (0, u "(IJJ)Z")] 5

def k1m0 : Method := { name := "<init>", desc := "()V", sig := { parameters := [], returnType := none }, accessFlags := 1, code := none }
def k1c1 : Code := { maxStack := 8, maxLocals := 8, code := code, exceptionTable := #[], attributes := #[] }
def k1m1 : Method := { name := "law", desc := "(IJJ)Z", sig := { parameters := [.int, .long, .long], returnType := some .boolean }, accessFlags := 9, code := some k1c1 }
def k1c2 : Code := { maxStack := 3, maxLocals := 3, code := method_3_code, exceptionTable := #[], attributes := #[] }
def k1m2 : Method := { name := "put", desc := "([CIC)V", sig := { parameters := [(.array .char), .int, .char], returnType := none }, accessFlags := 10, code := some k1c2 }
/-- com/example/roaming_pubsub/roamingpubsub/SessionDirectoryBytesOfPinLaw -/
def k1 : Class := { plain "com/example/roaming_pubsub/roamingpubsub/SessionDirectoryBytesOfPinLaw" (some 0) with
  accessFlags := 49
  interfaces := #[]
  cf := some (fileOf pool1 8 #[] #[{ accessFlags := 1, nameIndex := 5, descriptorIndex := 6, attributes := #[] }, { accessFlags := 9, nameIndex := 30, descriptorIndex := 31, attributes := #[] }, { accessFlags := 10, nameIndex := 11, descriptorIndex := 12, attributes := #[] }] 49 2 #[] #[])
  fields := #[]
  methods := #[k1m0, k1m1, k1m2]
  instanceTypes := #[]
  staticTypes := #[]
  resolved := Array.replicate 37 none
  statics := none }

def pool2 : Array CpInfo := pool [(1, .class_ 2), (0, u "java/io/Serializable"), (0, .class_ 4), (0, u "java/lang/Object")] 2

/-- java/io/Serializable -/
def k2 : Class := { plain "java/io/Serializable" (some 0) with
  accessFlags := 1537
  interfaces := #[]
  cf := some (fileOf pool2 1 #[] #[] 1537 3 #[] #[])
  fields := #[]
  methods := #[]
  instanceTypes := #[]
  staticTypes := #[]
  resolved := Array.replicate 7 none
  statics := none }

def pool3 : Array CpInfo := pool [(1, .class_ 2), (0, u "java/lang/Comparable"), (0, .class_ 4), (0, u "java/lang/Object")] 7

/-- java/lang/Comparable -/
def k3 : Class := { plain "java/lang/Comparable" (some 0) with
  accessFlags := 1537
  interfaces := #[]
  cf := some (fileOf pool3 1 #[] #[] 1537 3 #[] #[])
  fields := #[]
  methods := #[]
  instanceTypes := #[]
  staticTypes := #[]
  resolved := Array.replicate 12 none
  statics := none }

def pool4 : Array CpInfo := pool [(2, .class_ 4), (1, u "java/lang/CharSequence"), (42, .class_ 48), (0, u "java/lang/CharSequence$1CodePointIterator"), (10, .class_ 60), (0, u "java/lang/CharSequence$1CharIterator"), (5, .class_ 67), (0, u "java/lang/Object")] 63

/-- java/lang/CharSequence -/
def k4 : Class := { plain "java/lang/CharSequence" (some 0) with
  accessFlags := 1537
  interfaces := #[]
  cf := some (fileOf pool4 2 #[.nestMembers #[47, 59]] #[] 1537 66 #[] #[])
  fields := #[]
  methods := #[]
  instanceTypes := #[]
  staticTypes := #[]
  resolved := Array.replicate 131 none
  statics := none }

def pool5 : Array CpInfo := pool [(1, .class_ 2), (0, u "java/lang/constant/Constable"), (0, .class_ 4), (0, u "java/lang/Object")] 6

/-- java/lang/constant/Constable -/
def k5 : Class := { plain "java/lang/constant/Constable" (some 0) with
  accessFlags := 1537
  interfaces := #[]
  cf := some (fileOf pool5 1 #[] #[] 1537 3 #[] #[])
  fields := #[]
  methods := #[]
  instanceTypes := #[]
  staticTypes := #[]
  resolved := Array.replicate 11 none
  statics := none }

def pool6 : Array CpInfo := pool [(1, .class_ 2), (0, u "java/lang/constant/ConstantDesc"), (0, .class_ 4), (0, u "java/lang/Object")] 32

/-- java/lang/constant/ConstantDesc -/
def k6 : Class := { plain "java/lang/constant/ConstantDesc" (some 0) with
  accessFlags := 1537
  interfaces := #[]
  cf := some (fileOf pool6 1 #[] #[] 1537 3 #[] #[])
  fields := #[]
  methods := #[]
  instanceTypes := #[]
  staticTypes := #[]
  resolved := Array.replicate 37 none
  statics := none }

def pool7 : Array CpInfo := pool [(1, .methodref 2 3), (0, .class_ 4), (0, .nameAndType 5 6), (0, u "java/lang/Object"), (0, u "<init>"), (0, u "()V"), (0, .string 8), (0, u ""), (0, .fieldref 10 11), (0, .class_ 12), (0, .nameAndType 13 14), (0, u "java/lang/String"), (0, u "value"), (0, u "[B"), (0, .fieldref 10 16), (0, .nameAndType 17 18), (0, u "coder"), (0, u "B"), (2, u "hash"), (0, u "I"), (2, u "hashIsZero"), (0, u "Z"), (0, .methodref 10 28), (0, .nameAndType 5 29), (0, u "([CIILjava/lang/Void;)V"), (8, .fieldref 10 39), (0, .nameAndType 40 26), (0, u "COMPACT_STRINGS"), (1, .class_ 44), (1, u "java/lang/StringUTF16"), (0, u "compress"), (1, .methodref 42 48), (0, .nameAndType 49 50), (0, u "coderFromArrayLen"), (0, u "([BI)B"), (126, .methodref 42 178), (0, .nameAndType 45 179), (0, u "([CII)[B"), (154, u "()I"), (0, .methodref 10 336), (0, .nameAndType 17 337), (0, u "()B"), (169, u "length"), (67, .class_ 576), (0, u "java/lang/CharSequence"), (22, u "CASE_INSENSITIVE_ORDER"), (0, u "Ljava/util/Comparator;"), (409, u "([C)V"), (90, u "serialPersistentFields"), (0, u "[Ljava/io/ObjectStreamField;"), (0, .class_ 1104), (0, u "java/lang/String$CaseInsensitiveComparator"), (1, .class_ 1107), (0, u "java/io/Serializable"), (0, .class_ 1109), (0, u "java/lang/Comparable"), (0, .class_ 1111), (0, u "java/lang/constant/Constable"), (0, .class_ 1113), (0, u "java/lang/constant/ConstantDesc"), (2, u "serialVersionUID"), (0, u "J"), (3, u "REPL"), (0, u "C"), (2, u "LATIN1"), (1, u "UTF16")] 323

def k7m0 : Method := { name := "<init>", desc := "()V", sig := { parameters := [], returnType := none }, accessFlags := 1, code := none }
def k7c1 : Code := { maxStack := 5, maxLocals := 2, code := jdk_42_method_3_code, exceptionTable := #[], attributes := #[] }
def k7m1 : Method := { name := "<init>", desc := "([C)V", sig := { parameters := [(.array .char)], returnType := none }, accessFlags := 1, code := some k7c1 }
def k7c2 : Code := { maxStack := 2, maxLocals := 1, code := jdk_42_method_54_code, exceptionTable := #[], attributes := #[] }
def k7m2 : Method := { name := "length", desc := "()I", sig := { parameters := [], returnType := some .int }, accessFlags := 1, code := some k7c2 }
def k7c3 : Code := { maxStack := 4, maxLocals := 6, code := jdk_42_method_149_code, exceptionTable := #[], attributes := #[] }
def k7m3 : Method := { name := "<init>", desc := "([CIILjava/lang/Void;)V", sig := { parameters := [(.array .char), .int, .int, (.object "java/lang/Void")], returnType := none }, accessFlags := 2, code := some k7c3 }
def k7c4 : Code := { maxStack := 1, maxLocals := 1, code := jdk_42_method_152_code, exceptionTable := #[], attributes := #[] }
def k7m4 : Method := { name := "coder", desc := "()B", sig := { parameters := [], returnType := some .byte }, accessFlags := 0, code := some k7c4 }
/-- java/lang/String -/
def k7 : Class := { plain "java/lang/String" (some 0) with
  accessFlags := 49
  interfaces := #[2, 3, 4, 5, 6]
  cf := some (fileOf pool7 10 #[.nestMembers #[1103]] #[{ accessFlags := 1, nameIndex := 5, descriptorIndex := 6, attributes := #[] }, { accessFlags := 1, nameIndex := 5, descriptorIndex := 1010, attributes := #[] }, { accessFlags := 1, nameIndex := 507, descriptorIndex := 334, attributes := #[] }, { accessFlags := 2, nameIndex := 5, descriptorIndex := 29, attributes := #[] }, { accessFlags := 0, nameIndex := 17, descriptorIndex := 337, attributes := #[] }] 49 2 #[1106, 1108, 575, 1110, 1112] #[{ accessFlags := 18, nameIndex := 13, descriptorIndex := 14, attributes := #[] }, { accessFlags := 18, nameIndex := 17, descriptorIndex := 18, attributes := #[] }, { accessFlags := 2, nameIndex := 21, descriptorIndex := 22, attributes := #[] }, { accessFlags := 2, nameIndex := 25, descriptorIndex := 26, attributes := #[] }, { accessFlags := 26, nameIndex := 1116, descriptorIndex := 1117, attributes := #[] }, { accessFlags := 24, nameIndex := 40, descriptorIndex := 26, attributes := #[] }, { accessFlags := 26, nameIndex := 1101, descriptorIndex := 1102, attributes := #[] }, { accessFlags := 26, nameIndex := 1121, descriptorIndex := 1122, attributes := #[] }, { accessFlags := 25, nameIndex := 599, descriptorIndex := 600, attributes := #[] }, { accessFlags := 24, nameIndex := 1125, descriptorIndex := 18, attributes := #[] }, { accessFlags := 24, nameIndex := 1127, descriptorIndex := 18, attributes := #[] }])
  fields := #[{ name := "value", type := (.array .byte), accessFlags := 18, slot := 0, constantValue := 0 }, { name := "coder", type := .byte, accessFlags := 18, slot := 1, constantValue := 0 }, { name := "hash", type := .int, accessFlags := 2, slot := 2, constantValue := 0 }, { name := "hashIsZero", type := .boolean, accessFlags := 2, slot := 3, constantValue := 0 }, { name := "serialVersionUID", type := .long, accessFlags := 26, slot := 0, constantValue := 0 }, { name := "COMPACT_STRINGS", type := .boolean, accessFlags := 24, slot := 1, constantValue := 0 }, { name := "serialPersistentFields", type := (.array (.object "java/io/ObjectStreamField")), accessFlags := 26, slot := 2, constantValue := 0 }, { name := "REPL", type := .char, accessFlags := 26, slot := 3, constantValue := 0 }, { name := "CASE_INSENSITIVE_ORDER", type := (.object "java/util/Comparator"), accessFlags := 25, slot := 4, constantValue := 0 }, { name := "LATIN1", type := .byte, accessFlags := 24, slot := 5, constantValue := 0 }, { name := "UTF16", type := .byte, accessFlags := 24, slot := 6, constantValue := 0 }]
  methods := #[k7m0, k7m1, k7m2, k7m3, k7m4]
  instanceTypes := #[(.array .byte), .byte, .int, .boolean]
  staticTypes := #[.long, .boolean, (.array (.object "java/io/ObjectStreamField")), .char, (.object "java/util/Comparator"), .byte, .byte]
  resolved := Array.replicate 1451 none
  statics := some 0 }

def pool8 : Array CpInfo := pool [(2, .class_ 4), (1, u "java/lang/Object"), (6, .class_ 13), (1, u "com/example/roaming_pubsub/roamingpubsub/SessionDirectory"), (0, u "holders"), (0, u "Ljava/util/Map;"), (2, u "bytes"), (2, u "store"), (0, u "Lcom/example/roaming_pubsub/roamingpubsub/SessionDirectoryStore;"), (13, u "unheard"), (0, u "Ljava/util/Set;"), (23, .long 2), (1, .methodref 64 65), (0, .class_ 66), (0, .nameAndType 67 68), (0, u "java/lang/String"), (0, u "length"), (0, u "()I"), (0, .long 128), (109, u "bytesOf"), (0, u "(Ljava/lang/String;)J"), (14, u "SESSION_BYTES"), (0, u "I")] 70

def k8c0 : Code := { maxStack := 4, maxLocals := 1, code := prog_16_method_2_code, exceptionTable := #[], attributes := #[] }
def k8m0 : Method := { name := "bytesOf", desc := "(Ljava/lang/String;)J", sig := { parameters := [(.object "java/lang/String")], returnType := some .long }, accessFlags := 8, code := some k8c0 }
/-- com/example/roaming_pubsub/roamingpubsub/SessionDirectory -/
def k8 : Class := { plain "com/example/roaming_pubsub/roamingpubsub/SessionDirectory" (some 0) with
  accessFlags := 32
  interfaces := #[]
  cf := some (fileOf pool8 11 #[] #[{ accessFlags := 8, nameIndex := 179, descriptorIndex := 180, attributes := #[] }] 32 2 #[] #[{ accessFlags := 26, nameIndex := 195, descriptorIndex := 196, attributes := #[] }, { accessFlags := 18, nameIndex := 21, descriptorIndex := 22, attributes := #[] }, { accessFlags := 18, nameIndex := 14, descriptorIndex := 15, attributes := #[] }, { accessFlags := 18, nameIndex := 18, descriptorIndex := 15, attributes := #[] }, { accessFlags := 18, nameIndex := 36, descriptorIndex := 37, attributes := #[] }])
  fields := #[{ name := "SESSION_BYTES", type := .int, accessFlags := 26, slot := 0, constantValue := 0 }, { name := "store", type := (.object "com/example/roaming_pubsub/roamingpubsub/SessionDirectoryStore"), accessFlags := 18, slot := 0, constantValue := 0 }, { name := "holders", type := (.object "java/util/Map"), accessFlags := 18, slot := 1, constantValue := 0 }, { name := "bytes", type := (.object "java/util/Map"), accessFlags := 18, slot := 2, constantValue := 0 }, { name := "unheard", type := (.object "java/util/Set"), accessFlags := 18, slot := 3, constantValue := 0 }]
  methods := #[k8m0]
  instanceTypes := #[(.object "com/example/roaming_pubsub/roamingpubsub/SessionDirectoryStore"), (.object "java/util/Map"), (.object "java/util/Map"), (.object "java/util/Set")]
  staticTypes := #[.int]
  resolved := Array.replicate 267 none
  statics := none }

def pool9 : Array CpInfo := pool [(6, .class_ 8), (1, u "java/lang/Object"), (0, u "<init>"), (0, u "()V"), (0, .methodref 12 13), (0, .class_ 14), (0, .nameAndType 15 16), (0, u "java/lang/StringUTF16"), (0, u "newBytesLength"), (0, u "(I)I"), (3, .integer 1073741823), (23, .fieldref 12 45), (0, .nameAndType 46 47), (0, u "$assertionsDisabled"), (0, u "Z"), (11, .fieldref 12 60), (0, .nameAndType 61 62), (0, u "HI_BYTE_SHIFT"), (0, u "I"), (0, .fieldref 12 64), (0, .nameAndType 65 62), (0, u "LO_BYTE_SHIFT"), (5, .methodref 12 72), (0, .nameAndType 73 74), (0, u "getChar"), (0, u "([BI)C"), (32, .methodref 12 108), (0, .nameAndType 109 110), (0, u "newBytesFor"), (0, u "(I)[B"), (0, .methodref 12 112), (0, .nameAndType 113 114), (0, u "putChar"), (0, u "([BII)V"), (0, .methodref 12 116), (0, .nameAndType 117 118), (0, u "compress"), (0, u "([CI[BII)I"), (0, .methodref 12 120), (0, .nameAndType 121 122), (0, u "toBytes"), (0, u "([CII)[B"), (138, u "coderFromArrayLen"), (0, u "([BI)B"), (106, .class_ 371), (1, u "java/lang/StringUTF16$LinesSpliterator"), (58, u "MAX_LENGTH"), (196, .class_ 628), (0, u "java/lang/StringUTF16$CodePointsSpliterator"), (0, .class_ 630), (0, u "java/lang/StringUTF16$CharsSpliterator")] 4

def k9m0 : Method := { name := "<init>", desc := "()V", sig := { parameters := [], returnType := none }, accessFlags := 0, code := none }
def k9c1 : Code := { maxStack := 1, maxLocals := 1, code := jdk_52_method_2_code, exceptionTable := #[], attributes := #[] }
def k9m1 : Method := { name := "newBytesFor", desc := "(I)[B", sig := { parameters := [.int], returnType := some (.array .byte) }, accessFlags := 9, code := some k9c1 }
def k9c2 : Code := { maxStack := 4, maxLocals := 1, code := jdk_52_method_3_code, exceptionTable := #[], attributes := #[] }
def k9m2 : Method := { name := "newBytesLength", desc := "(I)I", sig := { parameters := [.int], returnType := some .int }, accessFlags := 9, code := some k9c2 }
def k9c3 : Code := { maxStack := 4, maxLocals := 3, code := jdk_52_method_4_code, exceptionTable := #[], attributes := #[] }
def k9m3 : Method := { name := "putChar", desc := "([BII)V", sig := { parameters := [(.array .byte), .int, .int], returnType := none }, accessFlags := 8, code := some k9c3 }
def k9c4 : Code := { maxStack := 3, maxLocals := 2, code := jdk_52_method_5_code, exceptionTable := #[], attributes := #[] }
def k9m4 : Method := { name := "getChar", desc := "([BI)C", sig := { parameters := [(.array .byte), .int], returnType := some .char }, accessFlags := 8, code := some k9c4 }
def k9c5 : Code := { maxStack := 4, maxLocals := 5, code := jdk_52_method_14_code, exceptionTable := #[], attributes := #[] }
def k9m5 : Method := { name := "toBytes", desc := "([CII)[B", sig := { parameters := [(.array .char), .int, .int], returnType := some (.array .byte) }, accessFlags := 9, code := some k9c5 }
def k9c6 : Code := { maxStack := 2, maxLocals := 2, code := jdk_52_method_15_code, exceptionTable := #[], attributes := #[] }
def k9m6 : Method := { name := "coderFromArrayLen", desc := "([BI)B", sig := { parameters := [(.array .byte), .int], returnType := some .byte }, accessFlags := 8, code := some k9c6 }
def k9c7 : Code := { maxStack := 5, maxLocals := 6, code := jdk_52_method_16_code, exceptionTable := #[], attributes := #[] }
def k9m7 : Method := { name := "compress", desc := "([CII)[B", sig := { parameters := [(.array .char), .int, .int], returnType := some (.array .byte) }, accessFlags := 9, code := some k9c7 }
def k9c8 : Code := { maxStack := 3, maxLocals := 7, code := jdk_52_method_21_code, exceptionTable := #[], attributes := #[] }
def k9m8 : Method := { name := "compress", desc := "([CI[BII)I", sig := { parameters := [(.array .char), .int, (.array .byte), .int, .int], returnType := some .int }, accessFlags := 9, code := some k9c8 }
/-- java/lang/StringUTF16 -/
def k9 : Class := { plain "java/lang/StringUTF16" (some 0) with
  accessFlags := 48
  interfaces := #[]
  cf := some (fileOf pool9 12 #[.nestMembers #[627, 629, 369]] #[{ accessFlags := 0, nameIndex := 9, descriptorIndex := 10, attributes := #[] }, { accessFlags := 9, nameIndex := 109, descriptorIndex := 110, attributes := #[] }, { accessFlags := 9, nameIndex := 15, descriptorIndex := 16, attributes := #[] }, { accessFlags := 8, nameIndex := 113, descriptorIndex := 114, attributes := #[] }, { accessFlags := 8, nameIndex := 73, descriptorIndex := 74, attributes := #[] }, { accessFlags := 9, nameIndex := 121, descriptorIndex := 122, attributes := #[] }, { accessFlags := 8, nameIndex := 261, descriptorIndex := 262, attributes := #[] }, { accessFlags := 9, nameIndex := 117, descriptorIndex := 122, attributes := #[] }, { accessFlags := 9, nameIndex := 117, descriptorIndex := 118, attributes := #[] }] 48 6 #[] #[{ accessFlags := 26, nameIndex := 61, descriptorIndex := 62, attributes := #[] }, { accessFlags := 26, nameIndex := 65, descriptorIndex := 62, attributes := #[] }, { accessFlags := 24, nameIndex := 430, descriptorIndex := 62, attributes := #[] }, { accessFlags := 4120, nameIndex := 46, descriptorIndex := 47, attributes := #[] }])
  fields := #[{ name := "HI_BYTE_SHIFT", type := .int, accessFlags := 26, slot := 0, constantValue := 0 }, { name := "LO_BYTE_SHIFT", type := .int, accessFlags := 26, slot := 1, constantValue := 0 }, { name := "MAX_LENGTH", type := .int, accessFlags := 24, slot := 2, constantValue := 0 }, { name := "$assertionsDisabled", type := .boolean, accessFlags := 4120, slot := 3, constantValue := 0 }]
  methods := #[k9m0, k9m1, k9m2, k9m3, k9m4, k9m5, k9m6, k9m7, k9m8]
  instanceTypes := #[]
  staticTypes := #[.int, .int, .int, .boolean]
  resolved := Array.replicate 635 none
  statics := some 1 }

def pool10 : Array CpInfo := pool [(4, .class_ 6), (1, u "java/lang/Object"), (0, u "<init>"), (0, u "()V"), (5, .class_ 16), (1, u "java/lang/StringLatin1"), (104, u "$assertionsDisabled"), (0, u "Z"), (98, .class_ 223), (1, u "java/lang/StringLatin1$LinesSpliterator"), (166, .class_ 391), (0, u "java/lang/StringLatin1$CharsSpliterator")] 3

def k10m0 : Method := { name := "<init>", desc := "()V", sig := { parameters := [], returnType := none }, accessFlags := 0, code := none }
/-- java/lang/StringLatin1 -/
def k10 : Class := { plain "java/lang/StringLatin1" (some 0) with
  accessFlags := 48
  interfaces := #[]
  cf := some (fileOf pool10 14 #[.nestMembers #[390, 221]] #[{ accessFlags := 0, nameIndex := 7, descriptorIndex := 8, attributes := #[] }] 48 4 #[] #[{ accessFlags := 4120, nameIndex := 121, descriptorIndex := 122, attributes := #[] }])
  fields := #[{ name := "$assertionsDisabled", type := .boolean, accessFlags := 4120, slot := 0, constantValue := 0 }]
  methods := #[k10m0]
  instanceTypes := #[]
  staticTypes := #[.boolean]
  resolved := Array.replicate 395 none
  statics := none }

def pool11 : Array CpInfo := pool [(2, .class_ 4), (1, u "java/lang/Object"), (0, u "<init>"), (0, u "()V"), (17, .class_ 26), (1, u "jdk/internal/util/Preconditions"), (28, .class_ 56), (0, u "jdk/internal/util/Preconditions$4"), (57, .class_ 115), (0, u "jdk/internal/util/Preconditions$1"), (7, u "SIOOBE_FORMATTER"), (0, u "Ljava/util/function/BiFunction;"), (0, .class_ 126), (0, u "jdk/internal/util/Preconditions$2"), (3, u "AIOOBE_FORMATTER"), (0, .class_ 132), (0, u "jdk/internal/util/Preconditions$3"), (3, u "IOOBE_FORMATTER")] 57

def k11m0 : Method := { name := "<init>", desc := "()V", sig := { parameters := [], returnType := none }, accessFlags := 1, code := none }
/-- jdk/internal/util/Preconditions -/
def k11 : Class := { plain "jdk/internal/util/Preconditions" (some 0) with
  accessFlags := 33
  interfaces := #[]
  cf := some (fileOf pool11 24 #[.nestMembers #[55, 131, 125, 114]] #[{ accessFlags := 1, nameIndex := 5, descriptorIndex := 6, attributes := #[] }] 33 2 #[] #[{ accessFlags := 25, nameIndex := 123, descriptorIndex := 124, attributes := #[] }, { accessFlags := 25, nameIndex := 130, descriptorIndex := 124, attributes := #[] }, { accessFlags := 25, nameIndex := 136, descriptorIndex := 124, attributes := #[] }])
  fields := #[{ name := "SIOOBE_FORMATTER", type := (.object "java/util/function/BiFunction"), accessFlags := 25, slot := 0, constantValue := 0 }, { name := "AIOOBE_FORMATTER", type := (.object "java/util/function/BiFunction"), accessFlags := 25, slot := 1, constantValue := 0 }, { name := "IOOBE_FORMATTER", type := (.object "java/util/function/BiFunction"), accessFlags := 25, slot := 2, constantValue := 0 }]
  methods := #[k11m0]
  instanceTypes := #[]
  staticTypes := #[(.object "java/util/function/BiFunction"), (.object "java/util/function/BiFunction"), (.object "java/util/function/BiFunction")]
  resolved := Array.replicate 194 none
  statics := some 2 }

def pool12 : Array CpInfo := pool [(9, u "<init>"), (6, .class_ 18), (1, u "java/lang/Object"), (0, u "()V"), (1, .class_ 23), (1, u "jdk/internal/util/ArraysSupport"), (0, u "LOG2_ARRAY_LONG_INDEX_SCALE"), (0, u "I"), (2, u "U"), (0, u "Ljdk/internal/misc/Unsafe;"), (8, u "BIG_ENDIAN"), (0, u "Z"), (8, u "LOG2_BYTE_BIT_SIZE"), (4, u "LOG2_ARRAY_INT_INDEX_SCALE"), (54, u "JLA"), (0, u "Ljdk/internal/access/JavaLangAccess;"), (11, u "LOG2_ARRAY_BOOLEAN_INDEX_SCALE"), (9, u "LOG2_ARRAY_BYTE_INDEX_SCALE"), (5, u "LOG2_ARRAY_CHAR_INDEX_SCALE"), (5, u "LOG2_ARRAY_SHORT_INDEX_SCALE"), (18, u "LOG2_ARRAY_FLOAT_INDEX_SCALE"), (24, u "LOG2_ARRAY_DOUBLE_INDEX_SCALE"), (89, u "T_BOOLEAN"), (2, u "T_CHAR"), (1, u "T_FLOAT"), (1, u "T_DOUBLE"), (1, u "T_BYTE"), (1, u "T_SHORT"), (1, u "T_INT"), (1, u "T_LONG"), (1, u "SOFT_MAX_ARRAY_LENGTH")] 83

def k12m0 : Method := { name := "<init>", desc := "()V", sig := { parameters := [], returnType := none }, accessFlags := 2, code := none }
/-- jdk/internal/util/ArraysSupport -/
def k12 : Class := { plain "jdk/internal/util/ArraysSupport" (some 0) with
  accessFlags := 33
  interfaces := #[]
  cf := some (fileOf pool12 21 #[] #[{ accessFlags := 2, nameIndex := 9, descriptorIndex := 19, attributes := #[] }] 33 16 #[] #[{ accessFlags := 24, nameIndex := 28, descriptorIndex := 29, attributes := #[] }, { accessFlags := 26, nameIndex := 38, descriptorIndex := 39, attributes := #[] }, { accessFlags := 25, nameIndex := 121, descriptorIndex := 25, attributes := #[] }, { accessFlags := 25, nameIndex := 131, descriptorIndex := 25, attributes := #[] }, { accessFlags := 25, nameIndex := 137, descriptorIndex := 25, attributes := #[] }, { accessFlags := 25, nameIndex := 143, descriptorIndex := 25, attributes := #[] }, { accessFlags := 25, nameIndex := 53, descriptorIndex := 25, attributes := #[] }, { accessFlags := 25, nameIndex := 24, descriptorIndex := 25, attributes := #[] }, { accessFlags := 25, nameIndex := 162, descriptorIndex := 25, attributes := #[] }, { accessFlags := 25, nameIndex := 187, descriptorIndex := 25, attributes := #[] }, { accessFlags := 26, nameIndex := 48, descriptorIndex := 25, attributes := #[] }, { accessFlags := 25, nameIndex := 277, descriptorIndex := 25, attributes := #[] }, { accessFlags := 25, nameIndex := 280, descriptorIndex := 25, attributes := #[] }, { accessFlags := 25, nameIndex := 282, descriptorIndex := 25, attributes := #[] }, { accessFlags := 25, nameIndex := 284, descriptorIndex := 25, attributes := #[] }, { accessFlags := 25, nameIndex := 286, descriptorIndex := 25, attributes := #[] }, { accessFlags := 25, nameIndex := 288, descriptorIndex := 25, attributes := #[] }, { accessFlags := 25, nameIndex := 290, descriptorIndex := 25, attributes := #[] }, { accessFlags := 25, nameIndex := 292, descriptorIndex := 25, attributes := #[] }, { accessFlags := 26, nameIndex := 108, descriptorIndex := 109, attributes := #[] }, { accessFlags := 25, nameIndex := 294, descriptorIndex := 25, attributes := #[] }])
  fields := #[{ name := "U", type := (.object "jdk/internal/misc/Unsafe"), accessFlags := 24, slot := 0, constantValue := 0 }, { name := "BIG_ENDIAN", type := .boolean, accessFlags := 26, slot := 1, constantValue := 0 }, { name := "LOG2_ARRAY_BOOLEAN_INDEX_SCALE", type := .int, accessFlags := 25, slot := 2, constantValue := 0 }, { name := "LOG2_ARRAY_BYTE_INDEX_SCALE", type := .int, accessFlags := 25, slot := 3, constantValue := 0 }, { name := "LOG2_ARRAY_CHAR_INDEX_SCALE", type := .int, accessFlags := 25, slot := 4, constantValue := 0 }, { name := "LOG2_ARRAY_SHORT_INDEX_SCALE", type := .int, accessFlags := 25, slot := 5, constantValue := 0 }, { name := "LOG2_ARRAY_INT_INDEX_SCALE", type := .int, accessFlags := 25, slot := 6, constantValue := 0 }, { name := "LOG2_ARRAY_LONG_INDEX_SCALE", type := .int, accessFlags := 25, slot := 7, constantValue := 0 }, { name := "LOG2_ARRAY_FLOAT_INDEX_SCALE", type := .int, accessFlags := 25, slot := 8, constantValue := 0 }, { name := "LOG2_ARRAY_DOUBLE_INDEX_SCALE", type := .int, accessFlags := 25, slot := 9, constantValue := 0 }, { name := "LOG2_BYTE_BIT_SIZE", type := .int, accessFlags := 26, slot := 10, constantValue := 0 }, { name := "T_BOOLEAN", type := .int, accessFlags := 25, slot := 11, constantValue := 0 }, { name := "T_CHAR", type := .int, accessFlags := 25, slot := 12, constantValue := 0 }, { name := "T_FLOAT", type := .int, accessFlags := 25, slot := 13, constantValue := 0 }, { name := "T_DOUBLE", type := .int, accessFlags := 25, slot := 14, constantValue := 0 }, { name := "T_BYTE", type := .int, accessFlags := 25, slot := 15, constantValue := 0 }, { name := "T_SHORT", type := .int, accessFlags := 25, slot := 16, constantValue := 0 }, { name := "T_INT", type := .int, accessFlags := 25, slot := 17, constantValue := 0 }, { name := "T_LONG", type := .int, accessFlags := 25, slot := 18, constantValue := 0 }, { name := "JLA", type := (.object "jdk/internal/access/JavaLangAccess"), accessFlags := 26, slot := 19, constantValue := 0 }, { name := "SOFT_MAX_ARRAY_LENGTH", type := .int, accessFlags := 25, slot := 20, constantValue := 0 }]
  methods := #[k12m0]
  instanceTypes := #[]
  staticTypes := #[(.object "jdk/internal/misc/Unsafe"), .boolean, .int, .int, .int, .int, .int, .int, .int, .int, .int, .int, .int, .int, .int, .int, .int, .int, .int, (.object "jdk/internal/access/JavaLangAccess"), .int]
  resolved := Array.replicate 378 none
  statics := none }

def pool13 : Array CpInfo := pool [(1, u "java/lang/Cloneable"), (0, .class_ 1), (0, u "java/lang/Object"), (0, .class_ 3)] 3

/-- java/lang/Cloneable -/
def k13 : Class := { plain "java/lang/Cloneable" (some 0) with
  accessFlags := 1537
  interfaces := #[]
  cf := some (fileOf pool13 2 #[] #[] 1537 4 #[] #[])
  fields := #[]
  methods := #[]
  instanceTypes := #[]
  staticTypes := #[]
  resolved := Array.replicate 8 none
  statics := none }

/-- the primitive byte -/
def k14 : Class := { plain "byte" none with kind := .primitive 'B', accessFlags := 0x411 }
/-- [B -/
def k15 : Class := { plain "[B" (some 0) with kind := .array 14 .byte, interfaces := #[13, 2], accessFlags := 1041 }

/-- the primitive char -/
def k16 : Class := { plain "char" none with kind := .primitive 'C', accessFlags := 0x411 }
/-- [C -/
def k17 : Class := { plain "[C" (some 0) with kind := .array 16 .char, interfaces := #[13, 2], accessFlags := 1041 }

/-- the primitive int -/
def k18 : Class := { plain "int" none with kind := .primitive 'I', accessFlags := 0x411 }
/-- [I -/
def k19 : Class := { plain "[I" (some 0) with kind := .array 18 .int, interfaces := #[13, 2], accessFlags := 1041 }

def heap : Heap := #[{ cls := 7, slots := #[.long 0, .int 1, .null, .int 0, .null, .int 0, .int 0], vm := .statics 7 },
  { cls := 9, slots := #[.int 0, .int 8, .int 0, .int 1], vm := .statics 9 },
  { cls := 11, slots := #[.null, .null, .null], vm := .statics 11 }]
def classes : Array Class := #[k0, k1, k2, k3, k4, k5, k6, k7, k8, k9, k10, k11, k12, k13, k14, k15, k16, k17, k18, k19]
def interned : List (Array UInt16 × Addr) := []
def slotsUsed : Nat := 14
def theMethod : MethodId := ⟨1, 1⟩
def args0 : Array Value := #[.int 3, .long 5, .long 6]
def aboutOver (below : List Frame) : State where
  vm := { classes := classes, interned := interned.toArray }
  heap := heap
  slotsUsed := slotsUsed
  threads := #[{ frames := .invoking theMethod args0 :: below }]
def below0 : List Frame := [.native { method := ⟨0, 0⟩, args := #[] }]
def about1 : State := aboutOver below0
def p0 : Program := .bare "" "" ""
def e0 : Env := launch0.env 0 0 0
theorem w_frames : about1.frames = Frame.invoking theMethod args0 :: below0 := rfl
set_option maxRecDepth 65536 in
theorem w_args : argsFit about1.vm theMethod args0 = true := by decide +kernel
set_option maxRecDepth 65536 in
theorem w_heap : heapFits about1 = true := by decide +kernel
set_option maxRecDepth 65536 in
theorem w_runnable : about1.curStatus? = some .runnable := by decide +kernel
set_option maxRecDepth 65536 in
theorem w_alone : about1.alone = true := by decide +kernel
set_option maxRecDepth 65536 in
theorem w_named : about1.methodNamed? x = some theMethod := by decide +kernel
set_option maxRecDepth 65536 in
theorem w_hears : about1.hears theMethod below0 = true := by decide +kernel
set_option maxRecDepth 65536 in
theorem w_ripe : about1.ripe theMethod args0 below0 = true := by decide +kernel
theorem w_running : about1.status = .running := rfl
set_option maxRecDepth 65536 in
theorem w_room : about1.hasRoom e0.platform room_1 = true :=
  launch0.hasRoom_least _ room_1 (by decide +kernel) (by decide +kernel) (by decide +kernel) (by decide +kernel) (by decide +kernel) (by decide +kernel)
theorem allAtoms_all (ts : List Jvm.Cond) (a : Array Jvm.Value) (st : Jvm.State) : (allAtoms ts).before a st = ts.all (fun c => c.before a st) := by
  induction ts with
  | nil => rfl
  | cons c t ih =>
    show (Jvm.Cond.and c (allAtoms t)).before a st = _
    rw [Jvm.Cond.before_and, ih, List.all_cons]
def words1 : List Jvm.Cond := Jvm.Cond.code x code maxLocals ret :: tables_1
/-- a 'code' word, met by the world's own term for the bytes: nothing is compared byte by byte -/
theorem code_word {y : MethodName} {bytes : ByteArray} {mx : Nat} {rt : Option FieldType} {a : Array Value} {s : State} {m : MethodId} {meth : Method} {c : Code} (h1 : s.methodNamed? y = some m) (h2 : s.vm.method? m = some meth) (h3 : meth.code = some c) (h4 : c.code = bytes)
    (h5 : (c.maxLocals == mx && c.exceptionTable.isEmpty && decide (c.maxStack ≤ mostOperands) && decide (meth.sig.returnType = rt) && !meth.locks && decide (parseMethodDescriptor y.desc = some meth.sig)) = true) : (Jvm.Cond.code y bytes mx rt).before a s = true := by
  simp only [Bool.and_eq_true, beq_iff_eq, Bool.not_eq_true', decide_eq_true_eq] at h5
  obtain ⟨⟨⟨⟨⟨g1, g2⟩, g3⟩, g4⟩, g5⟩, g6⟩ := h5
  simp [Cond.before, Cond.holds, Cond.value, h1, h2, h3, h4, g1, g2, g3, g4, g5, g6]
def isCode : Jvm.Cond → Bool
  | .code _ _ _ _ => true
  | _ => false
theorem all_split {L : List Jvm.Cond} {P : Jvm.Cond → Bool} (h1 : L.all (fun c => isCode c || P c) = true) (h2 : ∀ c ∈ L.filter isCode, P c = true) : L.all P = true := by
  refine List.all_eq_true.mpr fun c hc => ?_
  have h := List.all_eq_true.mp h1 c hc
  rcases Bool.eq_false_or_eq_true (isCode c) with hi | hi
  · exact h2 c (List.mem_filter.mpr ⟨hc, hi⟩)
  · simpa [hi] using h
set_option maxRecDepth 65536 in
theorem w_c0 : (Jvm.Cond.code x code maxLocals ret).before args0 about1 = true := code_word (m := ⟨1, 1⟩) (meth := k1m1) (c := k1c1) (by decide +kernel) rfl rfl rfl (by decide +kernel)
set_option maxRecDepth 65536 in
theorem w_c1 : (Jvm.Cond.code ({ cls := "com/example/roaming_pubsub/roamingpubsub/SessionDirectoryBytesOfPinLaw", name := "put", desc := "([CIC)V" } : Jvm.MethodName) method_3_code (3 : Nat) (Option.none : Option Jvm.ClassFile.FieldType)).before args0 about1 = true := code_word (m := ⟨1, 2⟩) (meth := k1m2) (c := k1c2) (by decide +kernel) rfl rfl rfl (by decide +kernel)
set_option maxRecDepth 65536 in
theorem w_c2 : (Jvm.Cond.code ({ cls := "java/lang/String", name := "<init>", desc := "([C)V" } : Jvm.MethodName) jdk_42_method_3_code (2 : Nat) (Option.none : Option Jvm.ClassFile.FieldType)).before args0 about1 = true := code_word (m := ⟨7, 1⟩) (meth := k7m1) (c := k7c1) (by decide +kernel) rfl rfl rfl (by decide +kernel)
set_option maxRecDepth 65536 in
theorem w_c3 : (Jvm.Cond.code ({ cls := "java/lang/String", name := "<init>", desc := "([CIILjava/lang/Void;)V" } : Jvm.MethodName) jdk_42_method_149_code (6 : Nat) (Option.none : Option Jvm.ClassFile.FieldType)).before args0 about1 = true := code_word (m := ⟨7, 3⟩) (meth := k7m3) (c := k7c3) (by decide +kernel) rfl rfl rfl (by decide +kernel)
set_option maxRecDepth 65536 in
theorem w_c4 : (Jvm.Cond.code ({ cls := "java/lang/Object", name := "<init>", desc := "()V" } : Jvm.MethodName) object_method_1_code (1 : Nat) (Option.none : Option Jvm.ClassFile.FieldType)).before args0 about1 = true := code_word (m := ⟨0, 0⟩) (meth := k0m0) (c := k0c0) (by decide +kernel) rfl rfl rfl (by decide +kernel)
set_option maxRecDepth 65536 in
theorem w_c5 : (Jvm.Cond.code ({ cls := "com/example/roaming_pubsub/roamingpubsub/SessionDirectory", name := "bytesOf", desc := "(Ljava/lang/String;)J" } : Jvm.MethodName) prog_16_method_2_code (1 : Nat) (Option.some Jvm.ClassFile.FieldType.long)).before args0 about1 = true := code_word (m := ⟨8, 0⟩) (meth := k8m0) (c := k8c0) (by decide +kernel) rfl rfl rfl (by decide +kernel)
set_option maxRecDepth 65536 in
theorem w_c6 : (Jvm.Cond.code ({ cls := "java/lang/String", name := "length", desc := "()I" } : Jvm.MethodName) jdk_42_method_54_code (1 : Nat) (Option.some Jvm.ClassFile.FieldType.int)).before args0 about1 = true := code_word (m := ⟨7, 2⟩) (meth := k7m2) (c := k7c2) (by decide +kernel) rfl rfl rfl (by decide +kernel)
set_option maxRecDepth 65536 in
theorem w_c7 : (Jvm.Cond.code ({ cls := "java/lang/String", name := "coder", desc := "()B" } : Jvm.MethodName) jdk_42_method_152_code (1 : Nat) (Option.some Jvm.ClassFile.FieldType.byte)).before args0 about1 = true := code_word (m := ⟨7, 4⟩) (meth := k7m4) (c := k7c4) (by decide +kernel) rfl rfl rfl (by decide +kernel)
set_option maxRecDepth 65536 in
theorem w_c8 : (Jvm.Cond.code ({ cls := "java/lang/StringUTF16", name := "compress", desc := "([CII)[B" } : Jvm.MethodName) jdk_52_method_16_code (6 : Nat) (Option.some (Jvm.ClassFile.FieldType.array Jvm.ClassFile.FieldType.byte))).before args0 about1 = true := code_word (m := ⟨9, 7⟩) (meth := k9m7) (c := k9c7) (by decide +kernel) rfl rfl rfl (by decide +kernel)
set_option maxRecDepth 65536 in
theorem w_c9 : (Jvm.Cond.code ({ cls := "java/lang/StringUTF16", name := "compress", desc := "([CI[BII)I" } : Jvm.MethodName) jdk_52_method_21_code (7 : Nat) (Option.some Jvm.ClassFile.FieldType.int)).before args0 about1 = true := code_word (m := ⟨9, 8⟩) (meth := k9m8) (c := k9c8) (by decide +kernel) rfl rfl rfl (by decide +kernel)
set_option maxRecDepth 65536 in
theorem w_c10 : (Jvm.Cond.code ({ cls := "java/lang/StringUTF16", name := "coderFromArrayLen", desc := "([BI)B" } : Jvm.MethodName) jdk_52_method_15_code (2 : Nat) (Option.some Jvm.ClassFile.FieldType.byte)).before args0 about1 = true := code_word (m := ⟨9, 6⟩) (meth := k9m6) (c := k9c6) (by decide +kernel) rfl rfl rfl (by decide +kernel)
set_option maxRecDepth 65536 in
theorem w_c11 : (Jvm.Cond.code ({ cls := "java/lang/StringUTF16", name := "toBytes", desc := "([CII)[B" } : Jvm.MethodName) jdk_52_method_14_code (5 : Nat) (Option.some (Jvm.ClassFile.FieldType.array Jvm.ClassFile.FieldType.byte))).before args0 about1 = true := code_word (m := ⟨9, 5⟩) (meth := k9m5) (c := k9c5) (by decide +kernel) rfl rfl rfl (by decide +kernel)
set_option maxRecDepth 65536 in
theorem w_c12 : (Jvm.Cond.code ({ cls := "java/lang/StringUTF16", name := "newBytesFor", desc := "(I)[B" } : Jvm.MethodName) jdk_52_method_2_code (1 : Nat) (Option.some (Jvm.ClassFile.FieldType.array Jvm.ClassFile.FieldType.byte))).before args0 about1 = true := code_word (m := ⟨9, 1⟩) (meth := k9m1) (c := k9c1) (by decide +kernel) rfl rfl rfl (by decide +kernel)
set_option maxRecDepth 65536 in
theorem w_c13 : (Jvm.Cond.code ({ cls := "java/lang/StringUTF16", name := "newBytesLength", desc := "(I)I" } : Jvm.MethodName) jdk_52_method_3_code (1 : Nat) (Option.some Jvm.ClassFile.FieldType.int)).before args0 about1 = true := code_word (m := ⟨9, 2⟩) (meth := k9m2) (c := k9c2) (by decide +kernel) rfl rfl rfl (by decide +kernel)
set_option maxRecDepth 65536 in
theorem w_c14 : (Jvm.Cond.code ({ cls := "java/lang/StringUTF16", name := "putChar", desc := "([BII)V" } : Jvm.MethodName) jdk_52_method_4_code (3 : Nat) (Option.none : Option Jvm.ClassFile.FieldType)).before args0 about1 = true := code_word (m := ⟨9, 3⟩) (meth := k9m3) (c := k9c3) (by decide +kernel) rfl rfl rfl (by decide +kernel)
set_option maxRecDepth 65536 in
theorem w_c15 : (Jvm.Cond.code ({ cls := "java/lang/StringUTF16", name := "getChar", desc := "([BI)C" } : Jvm.MethodName) jdk_52_method_5_code (2 : Nat) (Option.some Jvm.ClassFile.FieldType.char)).before args0 about1 = true := code_word (m := ⟨9, 4⟩) (meth := k9m4) (c := k9c4) (by decide +kernel) rfl rfl rfl (by decide +kernel)
def codes1 : List Jvm.Cond := [Jvm.Cond.code x code maxLocals ret, Jvm.Cond.code ({ cls := "com/example/roaming_pubsub/roamingpubsub/SessionDirectoryBytesOfPinLaw", name := "put", desc := "([CIC)V" } : Jvm.MethodName) method_3_code (3 : Nat) (Option.none : Option Jvm.ClassFile.FieldType), Jvm.Cond.code ({ cls := "java/lang/String", name := "<init>", desc := "([C)V" } : Jvm.MethodName) jdk_42_method_3_code (2 : Nat) (Option.none : Option Jvm.ClassFile.FieldType), Jvm.Cond.code ({ cls := "java/lang/String", name := "<init>", desc := "([CIILjava/lang/Void;)V" } : Jvm.MethodName) jdk_42_method_149_code (6 : Nat) (Option.none : Option Jvm.ClassFile.FieldType), Jvm.Cond.code ({ cls := "java/lang/Object", name := "<init>", desc := "()V" } : Jvm.MethodName) object_method_1_code (1 : Nat) (Option.none : Option Jvm.ClassFile.FieldType), Jvm.Cond.code ({ cls := "com/example/roaming_pubsub/roamingpubsub/SessionDirectory", name := "bytesOf", desc := "(Ljava/lang/String;)J" } : Jvm.MethodName) prog_16_method_2_code (1 : Nat) (Option.some Jvm.ClassFile.FieldType.long), Jvm.Cond.code ({ cls := "java/lang/String", name := "length", desc := "()I" } : Jvm.MethodName) jdk_42_method_54_code (1 : Nat) (Option.some Jvm.ClassFile.FieldType.int), Jvm.Cond.code ({ cls := "java/lang/String", name := "coder", desc := "()B" } : Jvm.MethodName) jdk_42_method_152_code (1 : Nat) (Option.some Jvm.ClassFile.FieldType.byte), Jvm.Cond.code ({ cls := "java/lang/StringUTF16", name := "compress", desc := "([CII)[B" } : Jvm.MethodName) jdk_52_method_16_code (6 : Nat) (Option.some (Jvm.ClassFile.FieldType.array Jvm.ClassFile.FieldType.byte)), Jvm.Cond.code ({ cls := "java/lang/StringUTF16", name := "compress", desc := "([CI[BII)I" } : Jvm.MethodName) jdk_52_method_21_code (7 : Nat) (Option.some Jvm.ClassFile.FieldType.int), Jvm.Cond.code ({ cls := "java/lang/StringUTF16", name := "coderFromArrayLen", desc := "([BI)B" } : Jvm.MethodName) jdk_52_method_15_code (2 : Nat) (Option.some Jvm.ClassFile.FieldType.byte), Jvm.Cond.code ({ cls := "java/lang/StringUTF16", name := "toBytes", desc := "([CII)[B" } : Jvm.MethodName) jdk_52_method_14_code (5 : Nat) (Option.some (Jvm.ClassFile.FieldType.array Jvm.ClassFile.FieldType.byte)), Jvm.Cond.code ({ cls := "java/lang/StringUTF16", name := "newBytesFor", desc := "(I)[B" } : Jvm.MethodName) jdk_52_method_2_code (1 : Nat) (Option.some (Jvm.ClassFile.FieldType.array Jvm.ClassFile.FieldType.byte)), Jvm.Cond.code ({ cls := "java/lang/StringUTF16", name := "newBytesLength", desc := "(I)I" } : Jvm.MethodName) jdk_52_method_3_code (1 : Nat) (Option.some Jvm.ClassFile.FieldType.int), Jvm.Cond.code ({ cls := "java/lang/StringUTF16", name := "putChar", desc := "([BII)V" } : Jvm.MethodName) jdk_52_method_4_code (3 : Nat) (Option.none : Option Jvm.ClassFile.FieldType), Jvm.Cond.code ({ cls := "java/lang/StringUTF16", name := "getChar", desc := "([BI)C" } : Jvm.MethodName) jdk_52_method_5_code (2 : Nat) (Option.some Jvm.ClassFile.FieldType.char)]
set_option maxRecDepth 65536 in
theorem codes_eq : words1.filter isCode = codes1 := rfl
theorem w_codes : ∀ c ∈ words1.filter isCode, c.before args0 about1 = true := by
  rw [codes_eq]
  intro c hc
  simp only [codes1, List.mem_cons, List.not_mem_nil, or_false] at hc
  rcases hc with rfl | rfl | rfl | rfl | rfl | rfl | rfl | rfl | rfl | rfl | rfl | rfl | rfl | rfl | rfl | rfl
  · exact w_c0
  · exact w_c1
  · exact w_c2
  · exact w_c3
  · exact w_c4
  · exact w_c5
  · exact w_c6
  · exact w_c7
  · exact w_c8
  · exact w_c9
  · exact w_c10
  · exact w_c11
  · exact w_c12
  · exact w_c13
  · exact w_c14
  · exact w_c15
set_option maxRecDepth 65536 in
theorem w_t1 : (words1.take 24).all (fun c => isCode c || c.before args0 about1) = true := by decide +kernel
set_option maxRecDepth 65536 in
theorem w_t2 : ((words1.drop 24).take 24).all (fun c => isCode c || c.before args0 about1) = true := by decide +kernel
set_option maxRecDepth 65536 in
theorem w_t3 : (((words1.drop 24).drop 24).take 24).all (fun c => isCode c || c.before args0 about1) = true := by decide +kernel
set_option maxRecDepth 65536 in
theorem w_t4 : (((words1.drop 24).drop 24).drop 24).all (fun c => isCode c || c.before args0 about1) = true := by decide +kernel
theorem w_tables : (allAtoms (Jvm.Cond.code x code maxLocals ret :: tables_1)).before args0 about1 = true := by
  rw [allAtoms_all]
  show words1.all (fun c => c.before args0 about1) = true
  refine all_split ?_ w_codes
  rw [← List.take_append_drop 24 words1, List.all_append, w_t1, ← List.take_append_drop 24 (words1.drop 24), List.all_append, w_t2, ← List.take_append_drop 24 ((words1.drop 24).drop 24), List.all_append, w_t3, w_t4]
  rfl
set_option maxRecDepth 65536 in
theorem w_rest : rest_1_c.before args0 about1 = true := by decide +kernel
set_option maxRecDepth 65536 in
theorem w_case : (Jvm.Cond.and given_1 narrow_1).before args0 about1 = true := by decide +kernel
set_option maxRecDepth 65536 in
theorem w_consts : constsHeld consts_1 about1 := Jvm.Lit.constsHeldB_iff.mp (by decide +kernel)
theorem w_applies : (headSpec (Jvm.Cond.code x code maxLocals ret :: tables_1) room_1).applies x e0.platform about1 = true :=
  (Spec.applies_iff w_frames).mpr ⟨w_running, w_runnable, w_alone, w_named, w_hears, w_ripe, w_room, w_tables⟩
theorem atStart : AtStart classFile x code maxLocals ret World_1 tables_1 room_1 Calls_1 rest_1 Pre_1 launch0 p0 e0 about1 theMethod args0 below0 :=
  ⟨lists_1, trivial, launch0.admits_env _ _ _, launch0.least_env, fairChoices_fair.cas, fairChoices_fair.clock, w_frames, w_args, w_heap, w_applies, ⟨w_consts, trivial⟩, w_rest, w_case⟩
end start1
theorem witness_1 : WitnessClaimed_1 := ⟨start1.p0, start1.e0, start1.about1, start1.theMethod, start1.args0, start1.below0, start1.atStart⟩
end Jvm.Pilot.@@N@@
