import JvmDerived
import JvmDerived.Pilot.@@N@@Statement
import JvmDerived.Pilot.@@N@@Code
set_option linter.unusedVariables false
set_option linter.unusedSimpArgs false

/- laws to paste: Road.backV, Road.lenW, Road.codOf, pair_says (cut by pick.py; bodies as the Statement names them) -/
namespace Jvm.Pilot.@@N@@
namespace StrChars
open Jvm Sem ClassFile Op Lib Jvm.Stand Jvm.Free.XT Jvm.Free.ALB Jvm.Free.JM Jvm.Free
open Jvm.Lib.Cold (StaticIs)
/-- a char array whose places are chars -/
def Ch (a : Addr) (A : Cell) (U : State) : Prop := Arr .char a A U ∧ Typed .char A
theorem Ch.mv {a : Addr} {A : Cell} {U U' : State} (h : Ch a A U) (hal : U.vm.Alike U'.vm) (hh : U'.heap = U.heap) : Ch a A U' := ⟨h.1.mv hal hh, h.2⟩
theorem Ch.keep {a : Addr} {A : Cell} {U U' : State} (h : Ch a A U) (hal : U.vm.Alike U'.vm) (hk : U'.heap[a]? = some A) : Ch a A U' := ⟨h.1.keep hal hk, h.2⟩
/-- what place i of a char[]'s cell holds -/
def cv (A : Cell) (i : Nat) : Int32 := match A.slots[i]? with | some (.int x) => x | _ => 0
theorem Ch.get {a : Addr} {A : Cell} {U : State} (h : Ch a A U) {i : Nat} (hi : i < A.slots.size) : A.slots[i]? = some (.int (cv A i)) := by
  have e := Array.getElem?_eq_getElem hi
  have f := h.2 i _ e
  unfold cv; rw [e]
  generalize A.slots[i] = v at f
  cases v <;> simp [fits] at f ⊢
/-- the byte that i2b leaves of a char -/
def lo8 (x : Int32) : Int32 := x.toInt8.toInt32
theorem fits_lo8 (y : Int32) : fits .byte (.int (lo8 y)) = true := by
  have h1 := y.toInt8.le_toInt
  have h2 := y.toInt8.toInt_lt
  simp only [lo8, fits, Bool.and_eq_true, decide_eq_true_eq, Int32.le_iff_toInt_le, Int8.toInt_toInt32, show (-128 : Int32).toInt = -128 from by decide, show (127 : Int32).toInt = 127 from by decide]
  omega
/-- A' is A but that each place j of lo .. hi - 1 holds f j -/
def Laid (A A' : Cell) (lo hi : Nat) (f : Nat → Value) : Prop := A'.cls = A.cls ∧ A'.vm = A.vm ∧ A'.slots.size = A.slots.size ∧ ∀ i, A'.slots[i]? = if lo ≤ i ∧ i < hi then some (f i) else A.slots[i]?
theorem Laid.zero (A : Cell) (lo : Nat) (f : Nat → Value) : Laid A A lo (lo + 0) f := ⟨rfl, rfl, rfl, fun i => by rw [if_neg (by omega)]⟩
theorem Laid.step {A Ak : Cell} {lo k : Nat} {f : Nat → Value} {v : Value} (h : Laid A Ak lo k f) (hlo : lo ≤ k) (hk : k < Ak.slots.size) (hv : v = f k) : Laid A (Ak.setSlot k v) lo (k + 1) f := by
  refine ⟨h.1, h.2.1, by simpa [Cell.setSlot] using h.2.2.1, fun i => ?_⟩
  by_cases e : k = i
  · subst e; rw [Cell.slots_setSlot_self v hk, if_pos (by omega), hv]
  · rw [Cell.slots_setSlot_ne v e, h.2.2.2 i]
    by_cases q : lo ≤ i ∧ i < k
    · rw [if_pos q, if_pos (by omega)]
    · rw [if_neg q, if_neg (by omega)]
def U16 : String := "java/lang/StringUTF16"
namespace Cmp5
def yN : MethodName := ⟨"java/lang/StringUTF16", "compress", "([CI[BII)I"⟩
abbrev yB : ByteArray := jdk_52_method_21_code
theorem d0 : decode yB 0 = .ok (.iconst 0, 1) := by decide +kernel
theorem d1 : decode yB 1 = .ok (.istore 5, 2) := by decide +kernel
theorem d3 : decode yB 3 = .ok (.iload 5, 2) := by decide +kernel
theorem d5 : decode yB 5 = .ok (.iload 4, 2) := by decide +kernel
theorem d7 : decode yB 7 = .ok (.if_icmp (.ge) 37, 3) := by decide +kernel
theorem d10 : decode yB 10 = .ok (.aload_n 0, 1) := by decide +kernel
theorem d11 : decode yB 11 = .ok (.iload_n 1, 1) := by decide +kernel
theorem d12 : decode yB 12 = .ok (.caload, 1) := by decide +kernel
theorem d13 : decode yB 13 = .ok (.istore 6, 2) := by decide +kernel
theorem d15 : decode yB 15 = .ok (.iload 6, 2) := by decide +kernel
theorem d17 : decode yB 17 = .ok (.sipush 255, 3) := by decide +kernel
theorem d20 : decode yB 20 = .ok (.if_icmp (.le) 6, 3) := by decide +kernel
theorem d26 : decode yB 26 = .ok (.aload_n 2, 1) := by decide +kernel
theorem d27 : decode yB 27 = .ok (.iload_n 3, 1) := by decide +kernel
theorem d28 : decode yB 28 = .ok (.iload 6, 2) := by decide +kernel
theorem d30 : decode yB 30 = .ok (.i2b, 1) := by decide +kernel
theorem d31 : decode yB 31 = .ok (.bastore, 1) := by decide +kernel
theorem d32 : decode yB 32 = .ok (.iinc 1 1, 3) := by decide +kernel
theorem d35 : decode yB 35 = .ok (.iinc 3 1, 3) := by decide +kernel
theorem d38 : decode yB 38 = .ok (.iinc 5 1, 3) := by decide +kernel
theorem d41 : decode yB 41 = .ok (.goto (-38), 3) := by decide +kernel
theorem d44 : decode yB 44 = .ok (.iload 4, 2) := by decide +kernel
theorem d46 : decode yB 46 = .ok (.ireturn, 1) := by decide +kernel
def site : List Cond := []
def tab : Cond := tabOf yN yB 7 (some .int) site
def P (b : Addr) (A : Cell) (d : Addr) (B : Cell) (o q len : Nat) (args : Array Value) (s : State) : Prop := args = #[.ref b, .int (Int32.ofNat o), .ref d, .int (Int32.ofNat q), .int (Int32.ofNat len)] ∧ Ch b A s ∧ Arr .byte d B s ∧ b ≠ d ∧ o + len ≤ A.slots.size ∧ q + len ≤ B.slots.size ∧ ∀ i, i < len → ¬ 255 < cv A (o + i)
def E (b : Addr) (A : Cell) (d : Addr) (B : Cell) (o q len : Nat) (r : Option Value) (s u : State) : Prop := r = some (.int (Int32.ofNat len)) ∧ ∃ B', Put d B' s u ∧ Laid B B' q (q + len) (fun j => Value.int (lo8 (cv A (o + (j - q)))))
/-- no char of the range above 255: len; the places written hold each char's low byte -/
theorem law (l : Launch) (b : Addr) (A : Cell) (d : Addr) (B : Cell) (o q len : Nat) : Law l yN 5 5 0 0 yB 7 (some .int) site (P b A d B o q len) (E b A d B o q len) (copyLocs d q len) 0 0 := by
  refine Law.of_walk (plainFor_of_name (by decide +kernel)) (by decide +kernel) (by decide +kernel) (by decide) (fun _ _ h => by rw [h.1]; rfl) (fun _ U U' hal hh h => ⟨h.1, h.2.1.mv hal hh, h.2.2.1.mv hal hh, h.2.2.2⟩) (fun r U U' V V' h1 hal h2 h => ⟨h.1, h.2.elim fun B' q => ⟨B', q.1.mv h1 h2, q.2⟩⟩) ?_
  intro p e s m args below meth c s₁ X0 hexec hbytes hml hret hlk hnm hown hh0 W hP
  obtain ⟨rfl, hA, hB, hne, l1, l2, hp⟩ := hP
  have c1 : Steps p.tables e below (s₁.setTop (entryFrame m #[.ref b, .int (Int32.ofNat o), .ref d, .int (Int32.ofNat q), .int (Int32.ofNat len)] 7)) (s₁.setTop (mkF m 0 #[.val (.ref b), .val (.int (Int32.ofNat o)), .val (.ref d), .val (.int (Int32.ofNat q)), .val (.int (Int32.ofNat len)), .unset, .unset] [])) := entry rfl
  have hA0 := hA.1.mv X0.warmed.alike hh0
  have hB0 := hB.mv X0.warmed.alike hh0
  have a31 := hA.1.2.2.2
  have c2 : Steps p.tables e below (s₁.setTop (entryFrame m #[.ref b, .int (Int32.ofNat o), .ref d, .int (Int32.ofNat q), .int (Int32.ofNat len)] 7)) (s₁.setTop (mkF m 3 #[.val (.ref b), .val (.int (Int32.ofNat o)), .val (.ref d), .val (.int (Int32.ofNat q)), .val (.int (Int32.ofNat len)), .val (.int 0), .unset] [])) := c1.trans (by
    refine iconstV X0.here hexec rfl 0 (hb hbytes d0) (by decide) ?_
    refine XS.istore X0.here hexec rfl (hb hbytes d1) rfl rfl ?_
    exact Steps.refl _)
  have loop : ∀ (r i : Nat), i + r = len → ∀ (z : Slot), (z = .unset ∨ ∃ w, z = .val w ∧ w.category = 1) → ∀ (Tl : State) (Bk : Cell), Stand p l e { frames := 0, locals := 0, cells := 0, slots := 0 } s m #[.ref b, .int (Int32.ofNat o), .ref d, .int (Int32.ofNat q), .int (Int32.ofNat len)] below meth c Tl ([] ++ copyLocs d q i) 0 0 → Put d Bk s₁ Tl → Laid B Bk q (q + i) (fun j => Value.int (lo8 (cv A (o + (j - q))))) →
      Steps p.tables e below (s₁.setTop (entryFrame m #[.ref b, .int (Int32.ofNat o), .ref d, .int (Int32.ofNat q), .int (Int32.ofNat len)] 7)) (Tl.setTop (mkF m 3 #[.val (.ref b), .val (.int (Int32.ofNat (o + i))), .val (.ref d), .val (.int (Int32.ofNat (q + i))), .val (.int (Int32.ofNat len)), .val (.int (Int32.ofNat i)), z] [])) → ∃ (T' : State) (B' : Cell) (z' : Slot), Stand p l e { frames := 0, locals := 0, cells := 0, slots := 0 } s m #[.ref b, .int (Int32.ofNat o), .ref d, .int (Int32.ofNat q), .int (Int32.ofNat len)] below meth c T' ([] ++ copyLocs d q len) 0 0 ∧ Put d B' s₁ T' ∧ Laid B B' q (q + len) (fun j => Value.int (lo8 (cv A (o + (j - q))))) ∧
      Steps p.tables e below (s₁.setTop (entryFrame m #[.ref b, .int (Int32.ofNat o), .ref d, .int (Int32.ofNat q), .int (Int32.ofNat len)] 7)) (T'.setTop (mkF m 3 #[.val (.ref b), .val (.int (Int32.ofNat (o + len))), .val (.ref d), .val (.int (Int32.ofNat (q + len))), .val (.int (Int32.ofNat len)), .val (.int (Int32.ofNat len)), z'] [])) := by
    intro r
    induction r with
    | zero =>
      intro i hi z hz Tl Bk Xl pl fl cl
      have hil : i = len := by omega
      rw [hil] at Xl fl cl
      exact ⟨Tl, Bk, z, Xl, pl, fl, cl⟩
    | succ r ih =>
      intro i hi z hz Tl Bk Xl pl fl cl
      have all := X0.warmed.alike.symm.trans Xl.warmed.alike
      have hAl := hA0.keep all (pl.other hne hA0.1)
      have hBk := hB0.like all pl.1 fl.1 fl.2.1 fl.2.2.1
      have hlt : q + i < Bk.slots.size := by rw [fl.2.2.1]; omega
      have c3 : Steps p.tables e below (s₁.setTop (entryFrame m #[.ref b, .int (Int32.ofNat o), .ref d, .int (Int32.ofNat q), .int (Int32.ofNat len)] 7)) (Tl.setTop (mkF m 12 #[.val (.ref b), .val (.int (Int32.ofNat (o + i))), .val (.ref d), .val (.int (Int32.ofNat (q + i))), .val (.int (Int32.ofNat len)), .val (.int (Int32.ofNat i)), z] [.int (Int32.ofNat (o + i)), .ref b])) := cl.trans (by
        refine XS.iload Xl.here hexec rfl (hb hbytes d3) rfl ?_
        refine XS.iload Xl.here hexec rfl (hb hbytes d5) rfl ?_
        refine XS.icmpNo Xl.here hexec rfl (hb hbytes d7) rfl (ii_ge_f (lt32 (by omega) (by omega))) ?_
        refine XS.aloadN Xl.here hexec rfl (hb hbytes d10) rfl rfl ?_
        refine XS.iloadN Xl.here hexec rfl (hb hbytes d11) rfl ?_
        exact Steps.refl _)
      have c4 : Steps p.tables e below (s₁.setTop (entryFrame m #[.ref b, .int (Int32.ofNat o), .ref d, .int (Int32.ofNat q), .int (Int32.ofNat len)] 7)) (Tl.setTop (mkF m 13 #[.val (.ref b), .val (.int (Int32.ofNat (o + i))), .val (.ref d), .val (.int (Int32.ofNat (q + i))), .val (.int (Int32.ofNat len)), .val (.int (Int32.ofNat i)), z] [.int (cv A (o + i))])) := c3.trans (by
        refine Xl.aget hexec hAl rfl (hA.get (i := o + i) (by omega)) rfl rfl (hb hbytes d12) ?_
        exact Steps.refl _)
      have c5 : Steps p.tables e below (s₁.setTop (entryFrame m #[.ref b, .int (Int32.ofNat o), .ref d, .int (Int32.ofNat q), .int (Int32.ofNat len)] 7)) (Tl.setTop (mkF m 15 #[.val (.ref b), .val (.int (Int32.ofNat (o + i))), .val (.ref d), .val (.int (Int32.ofNat (q + i))), .val (.int (Int32.ofNat len)), .val (.int (Int32.ofNat i)), .val (.int (cv A (o + i)))] [])) := c4.trans (by
        refine XS.istoreS Xl.here hexec rfl (hb hbytes d13) rfl rfl hz ?_
        exact Steps.refl _)
      have c6 : Steps p.tables e below (s₁.setTop (entryFrame m #[.ref b, .int (Int32.ofNat o), .ref d, .int (Int32.ofNat q), .int (Int32.ofNat len)] 7)) (Tl.setTop (mkF m 31 #[.val (.ref b), .val (.int (Int32.ofNat (o + i))), .val (.ref d), .val (.int (Int32.ofNat (q + i))), .val (.int (Int32.ofNat len)), .val (.int (Int32.ofNat i)), .val (.int (cv A (o + i)))] [.int (lo8 (cv A (o + i))), .int (Int32.ofNat (q + i)), .ref d])) := c5.trans (by
        refine XS.iload Xl.here hexec rfl (hb hbytes d15) rfl ?_
        refine sipushV Xl.here hexec rfl 255 (hb hbytes d17) (by decide) ?_
        refine XS.icmpYes Xl.here hexec rfl (pc0 := 20) rfl (hb hbytes d20) rfl (ii_le_t (hp i (by omega))) (by decide) rfl ?_
        refine XS.aloadN Xl.here hexec rfl (hb hbytes d26) rfl rfl ?_
        refine XS.iloadN Xl.here hexec rfl (hb hbytes d27) rfl ?_
        refine XS.iload Xl.here hexec rfl (hb hbytes d28) rfl ?_
        refine i2b Xl.here hexec rfl (hb hbytes d30) rfl ?_
        exact Steps.refl _)
      obtain ⟨T7, X7, p7, st7⟩ := Xl.aput hexec hBk rfl hlt rfl (fits_lo8 (cv A (o + i))) (g := (mkF m 31 #[.val (.ref b), .val (.int (Int32.ofNat (o + i))), .val (.ref d), .val (.int (Int32.ofNat (q + i))), .val (.int (Int32.ofNat len)), .val (.int (Int32.ofNat i)), .val (.int (cv A (o + i)))] [.int (lo8 (cv A (o + i))), .int (Int32.ofNat (q + i)), .ref d])) rfl (rest := []) rfl (hb hbytes d31)
      have c8 : Steps p.tables e below (s₁.setTop (entryFrame m #[.ref b, .int (Int32.ofNat o), .ref d, .int (Int32.ofNat q), .int (Int32.ofNat len)] 7)) (T7.setTop (mkF m 32 #[.val (.ref b), .val (.int (Int32.ofNat (o + i))), .val (.ref d), .val (.int (Int32.ofNat (q + i))), .val (.int (Int32.ofNat len)), .val (.int (Int32.ofNat i)), .val (.int (cv A (o + i)))] [])) := c6.trans (st7 _ (Steps.refl _))
      have c9 : Steps p.tables e below (s₁.setTop (entryFrame m #[.ref b, .int (Int32.ofNat o), .ref d, .int (Int32.ofNat q), .int (Int32.ofNat len)] 7)) (T7.setTop (mkF m 3 #[.val (.ref b), .val (.int (Int32.ofNat (o + i) + 1)), .val (.ref d), .val (.int (Int32.ofNat (q + i) + 1)), .val (.int (Int32.ofNat len)), .val (.int (Int32.ofNat i + 1)), .val (.int (cv A (o + i)))] [])) := c8.trans (by
        refine iincV X7.here hexec rfl 1 (hb hbytes d32) (by decide) rfl rfl ?_
        refine iincV X7.here hexec rfl 1 (hb hbytes d35) (by decide) rfl rfl ?_
        refine iincV X7.here hexec rfl 1 (hb hbytes d38) (by decide) rfl rfl ?_
        refine XS.goto X7.here hexec rfl (pc0 := 41) rfl (hb hbytes d41) (by decide) rfl ?_
        exact Steps.refl _)
      have c10 : Steps p.tables e below (s₁.setTop (entryFrame m #[.ref b, .int (Int32.ofNat o), .ref d, .int (Int32.ofNat q), .int (Int32.ofNat len)] 7)) (T7.setTop (mkF m 3 #[.val (.ref b), .val (.int (Int32.ofNat (o + (i + 1)))), .val (.ref d), .val (.int (Int32.ofNat (q + (i + 1)))), .val (.int (Int32.ofNat len)), .val (.int (Int32.ofNat (i + 1))), .val (.int (cv A (o + i)))] [])) := by
        have := c9
        rw [succ32, succ32, succ32] at this
        exact this
      exact ih (i + 1) (by omega) _ (Or.inr ⟨_, rfl, rfl⟩) T7 _ (by rw [copyLocs_step, ← List.append_assoc]; exact X7) (pl.trans p7) (fl.step (by omega) hlt (by simp)) c10
  obtain ⟨T9, B9, z9, X9, p9, f9, g9⟩ := loop len 0 (by omega) .unset (Or.inl rfl) s₁ B (by simpa [copyLocs] using X0) ⟨hB0.1, fun _ _ => rfl, rfl⟩ (Laid.zero _ _ _) c2
  have c11 : Steps p.tables e below (s₁.setTop (entryFrame m #[.ref b, .int (Int32.ofNat o), .ref d, .int (Int32.ofNat q), .int (Int32.ofNat len)] 7)) (T9.setTop (mkF m 46 #[.val (.ref b), .val (.int (Int32.ofNat (o + len))), .val (.ref d), .val (.int (Int32.ofNat (q + len))), .val (.int (Int32.ofNat len)), .val (.int (Int32.ofNat len)), z9] [.int (Int32.ofNat len)])) := g9.trans (by
    refine XS.iload X9.here hexec rfl (hb hbytes d3) rfl ?_
    refine XS.iload X9.here hexec rfl (hb hbytes d5) rfl ?_
    refine XS.icmpYes X9.here hexec rfl (pc0 := 7) rfl (hb hbytes d7) rfl (ii_ge_t (nlt32 (by omega) (Nat.le_refl _))) (by decide) rfl ?_
    refine XS.iload X9.here hexec rfl (hb hbytes d44) rfl ?_
    exact Steps.refl _)
  exact ⟨T9, some (.int (Int32.ofNat len)), _, _, _, X9, by simp, rfl, rfl, (fun h => by cases h), ⟨rfl, B9, p9.from hh0, f9⟩, fun fs hl => c11.trans (X9.ireturnOut hexec hret rfl (Or.inl rfl) (hb hbytes d46) hl)⟩
end Cmp5
namespace Cmp3
def yN : MethodName := ⟨"java/lang/StringUTF16", "compress", "([CII)[B"⟩
abbrev yB : ByteArray := jdk_52_method_16_code
theorem d0 : decode yB 0 = .ok (.iload_n 2, 1) := by decide +kernel
theorem d1 : decode yB 1 = .ok (.newarray .byte, 2) := by decide +kernel
theorem d3 : decode yB 3 = .ok (.astore_n 3, 1) := by decide +kernel
theorem d4 : decode yB 4 = .ok (.aload_n 0, 1) := by decide +kernel
theorem d5 : decode yB 5 = .ok (.iload_n 1, 1) := by decide +kernel
theorem d6 : decode yB 6 = .ok (.aload_n 3, 1) := by decide +kernel
theorem d7 : decode yB 7 = .ok (.iconst 0, 1) := by decide +kernel
theorem d8 : decode yB 8 = .ok (.iload_n 2, 1) := by decide +kernel
theorem d9 : decode yB 9 = .ok (.invokestatic 115, 3) := by decide +kernel
theorem d12 : decode yB 12 = .ok (.istore 4, 2) := by decide +kernel
theorem d14 : decode yB 14 = .ok (.iload 4, 2) := by decide +kernel
theorem d16 : decode yB 16 = .ok (.iload_n 2, 1) := by decide +kernel
theorem d17 : decode yB 17 = .ok (.if_icmp (.eq) 40, 3) := by decide +kernel
theorem d57 : decode yB 57 = .ok (.aload_n 3, 1) := by decide +kernel
theorem d58 : decode yB 58 = .ok (.areturn, 1) := by decide +kernel
def site : List Cond := [.arrayClass .byte, Cmp5.tab] ++ staticW U16 115 Cmp5.yN
def tab : Cond := tabOf yN yB 6 (some (.array .byte)) site
def P (b : Addr) (A : Cell) (o len : Nat) (args : Array Value) (s : State) : Prop := args = #[.ref b, .int (Int32.ofNat o), .int (Int32.ofNat len)] ∧ Ch b A s ∧ o + len ≤ A.slots.size ∧ len ≤ 536870912 ∧ ∀ i, i < len → ¬ 255 < cv A (o + i)
def E (b : Addr) (A : Cell) (o len : Nat) (r : Option Value) (s u : State) : Prop := NewArr .byte "[B" len (fun j => .int (lo8 (cv A (o + j)))) r s u ∧ u.heap.size = s.heap.size + 1
/-- no char of the range above 255: a new byte[] of their low bytes -/
theorem law (l : Launch) (b : Addr) (A : Cell) (o len : Nat) : Law l yN 3 3 1 18 yB 6 (some (.array .byte)) site (P b A o len) (E b A o len) [] 1 len := by
  refine Law.of_walk (plainFor_of_name (by decide +kernel)) (by decide +kernel) (by decide +kernel) (by decide) (fun _ _ h => by rw [h.1]; rfl) (fun _ U U' hal hh h => ⟨h.1, h.2.1.mv hal hh, h.2.2⟩) (fun r U U' V V' h1 hal h2 h => ⟨NewArr.mv r U U' V V' h1 hal h2 h.1, by rw [h1, h2]; exact h.2⟩) ?_
  intro p e s m args below meth c s₁ X0 hexec hbytes hml hret hlk hnm hown hh0 W hP
  obtain ⟨rfl, hA, l1, l2, hp⟩ := hP
  have a31 := hA.1.2.2.2
  have c1 : Steps p.tables e below (s₁.setTop (entryFrame m #[.ref b, .int (Int32.ofNat o), .int (Int32.ofNat len)] 6)) (s₁.setTop (mkF m 0 #[.val (.ref b), .val (.int (Int32.ofNat o)), .val (.int (Int32.ofNat len)), .unset, .unset, .unset] [])) := entry rfl
  have c2 : Steps p.tables e below (s₁.setTop (entryFrame m #[.ref b, .int (Int32.ofNat o), .int (Int32.ofNat len)] 6)) (s₁.setTop (mkF m 1 #[.val (.ref b), .val (.int (Int32.ofNat o)), .val (.int (Int32.ofNat len)), .unset, .unset, .unset] [.int (Int32.ofNat len)])) := c1.trans (by
    refine XS.iloadN X0.here hexec rfl (hb hbytes d0) rfl ?_
    exact Steps.refl _)
  obtain ⟨T3, B3, X3, ba3, bs3, bv3, bh3, bf3, st3⟩ := X0.anew hexec (atype := .byte) (wk W (.arrayClass .byte)) rfl (by show len * 1 ≤ _; omega) (by omega) (g := (mkF m 1 #[.val (.ref b), .val (.int (Int32.ofNat o)), .val (.int (Int32.ofNat len)), .unset, .unset, .unset] [.int (Int32.ofNat len)])) rfl (hb hbytes d1) (rest := []) rfl (Nat.le_refl _) (by show 0 + len ≤ len; omega)
  rw [hh0] at ba3 st3
  have kp3 : XT.Kept s T3 := (XT.Kept.of_eq hh0).push bh3
  have hA3 := hA.keep X3.warmed.alike (kp3 _ _ hA.1.1)
  have hne : b ≠ s.heap.size := hA.1.ne
  have c4 : Steps p.tables e below (s₁.setTop (entryFrame m #[.ref b, .int (Int32.ofNat o), .int (Int32.ofNat len)] 6)) (T3.setTop (mkF m 3 #[.val (.ref b), .val (.int (Int32.ofNat o)), .val (.int (Int32.ofNat len)), .unset, .unset, .unset] [.ref s.heap.size])) := c2.trans (st3 _ (Steps.refl _))
  have c5 : Steps p.tables e below (s₁.setTop (entryFrame m #[.ref b, .int (Int32.ofNat o), .int (Int32.ofNat len)] 6)) (T3.setTop (mkF m 9 #[.val (.ref b), .val (.int (Int32.ofNat o)), .val (.int (Int32.ofNat len)), .val (.ref s.heap.size), .unset, .unset] [.int (Int32.ofNat len), .int 0, .ref s.heap.size, .int (Int32.ofNat o), .ref b])) := c4.trans (by
    refine XS.astoreN X3.here hexec rfl (hb hbytes d3) rfl rfl rfl ?_
    refine XS.aloadN X3.here hexec rfl (hb hbytes d4) rfl rfl ?_
    refine XS.iloadN X3.here hexec rfl (hb hbytes d5) rfl ?_
    refine XS.aloadN X3.here hexec rfl (hb hbytes d6) rfl rfl ?_
    refine iconstV X3.here hexec rfl 0 (hb hbytes d7) (by decide) ?_
    refine XS.iloadN X3.here hexec rfl (hb hbytes d8) rfl ?_
    exact Steps.refl _)
  obtain ⟨v6, T6, X6, E6, g6⟩ := X3.callS hexec (Cmp5.law l b A s.heap.size B3 o 0 len) hown (wks W (staticW U16 115 Cmp5.yN)) (wk W Cmp5.tab) (W := 0) (Nat.le_of_ble_eq_true rfl) (Nat.le_of_ble_eq_true rfl) (Nat.le_refl _) (by show 0 + len + 0 ≤ len; omega) (g := (mkF m 9 #[.val (.ref b), .val (.int (Int32.ofNat o)), .val (.int (Int32.ofNat len)), .val (.ref s.heap.size), .unset, .unset] [.int (Int32.ofNat len), .int (Int32.ofNat 0), .ref s.heap.size, .int (Int32.ofNat o), .ref b])) rfl (by rw [hml]; rfl) c5 (argsL := [.ref b, .int (Int32.ofNat o), .ref s.heap.size, .int (Int32.ofNat 0), .int (Int32.ofNat len)]) (rest := []) rfl rfl (by show 2 * 0 + 0 ≤ _; decide) (hb hbytes d9) (⟨rfl, hA3, ba3, hne, l1, by rw [bs3]; simp, hp⟩)
  obtain ⟨rfl, B6, p6, f6⟩ := E6
  have c7 : Steps p.tables e below (s₁.setTop (entryFrame m #[.ref b, .int (Int32.ofNat o), .int (Int32.ofNat len)] 6)) (T6.setTop (mkF m 12 #[.val (.ref b), .val (.int (Int32.ofNat o)), .val (.int (Int32.ofNat len)), .val (.ref s.heap.size), .unset, .unset] [.int (Int32.ofNat len)])) := g6
  have c8 : Steps p.tables e below (s₁.setTop (entryFrame m #[.ref b, .int (Int32.ofNat o), .int (Int32.ofNat len)] 6)) (T6.setTop (mkF m 58 #[.val (.ref b), .val (.int (Int32.ofNat o)), .val (.int (Int32.ofNat len)), .val (.ref s.heap.size), .val (.int (Int32.ofNat len)), .unset] [.ref s.heap.size])) := c7.trans (by
    refine XS.istore X6.here hexec rfl (hb hbytes d12) rfl rfl ?_
    refine XS.iload X6.here hexec rfl (hb hbytes d14) rfl ?_
    refine XS.iloadN X6.here hexec rfl (hb hbytes d16) rfl ?_
    refine XS.icmpYes X6.here hexec rfl (pc0 := 17) rfl (hb hbytes d17) rfl (ii_eq_t rfl) (by decide) rfl ?_
    refine XS.aloadN X6.here hexec rfl (hb hbytes d57) rfl rfl ?_
    exact Steps.refl _)
  have X8 := X6.wide (L' := []) (cells' := 1) (slots' := len) (fun x hx hlt => by
    simp only [List.nil_append, copyLocs, List.mem_map, List.mem_range] at hx
    obtain ⟨i, -, rfl⟩ := hx
    exact absurd hlt (Nat.lt_irrefl _)) (Nat.le_refl _) (by omega)
  exact ⟨T6, some (.ref s.heap.size), _, _, _, X8, rfl, rfl, rfl, (fun h => by cases h), ⟨⟨rfl, B6, ba3.like (X3.warmed.alike.symm.trans X6.warmed.alike) p6.1 f6.1 f6.2.1 f6.2.2.1, f6.2.1.trans bv3, by rw [X6.warmed.alike.findClass, f6.1]; exact bf3, by rw [f6.2.2.1, bs3]; simp, fun j hj => by rw [f6.2.2.2 j, if_pos (by omega)]; rfl, kp3.put p6 (Nat.le_refl _)⟩, by rw [p6.2.2, bh3, hh0]; simp⟩, fun fs hl => c8.trans (X8.areturnOut hexec rfl hret rfl (hb hbytes d58) hl)⟩
end Cmp3
namespace CodL
def yN : MethodName := ⟨"java/lang/StringUTF16", "coderFromArrayLen", "([BI)B"⟩
abbrev yB : ByteArray := jdk_52_method_15_code
theorem d0 : decode yB 0 = .ok (.iload_n 1, 1) := by decide +kernel
theorem d1 : decode yB 1 = .ok (.aload_n 0, 1) := by decide +kernel
theorem d2 : decode yB 2 = .ok (.arraylength, 1) := by decide +kernel
theorem d3 : decode yB 3 = .ok (.isub, 1) := by decide +kernel
theorem d4 : decode yB 4 = .ok (.bipush 31, 2) := by decide +kernel
theorem d6 : decode yB 6 = .ok (.iushr, 1) := by decide +kernel
theorem d7 : decode yB 7 = .ok (.i2b, 1) := by decide +kernel
theorem d8 : decode yB 8 = .ok (.ireturn, 1) := by decide +kernel
def site : List Cond := []
def tab : Cond := tabOf yN yB 2 (some .byte) site
def P (d : Addr) (B : Cell) (args : Array Value) (s : State) : Prop := args = #[.ref d, .int (Int32.ofNat B.slots.size)] ∧ Arr .byte d B s
def E (r : Option Value) (s u : State) : Prop := XT.PureE (some (.int 0)) r s u
/-- an array as long as the number of chars: LATIN1 -/
theorem law (l : Launch) (d : Addr) (B : Cell) : Law l yN 2 2 0 0 yB 2 (some .byte) site (P d B) E [] 0 0 := by
  refine Law.of_walk (plainFor_of_name (by decide +kernel)) (by decide +kernel) (by decide +kernel) (by decide) (fun _ _ h => by rw [h.1]; rfl) (fun _ U U' hal hh h => ⟨h.1, h.2.mv hal hh⟩) (fun r U U' V V' h1 hal h2 h => XT.PureE.mv r U U' V V' h1 hal h2 h) ?_
  intro p e s m args below meth c s₁ X0 hexec hbytes hml hret hlk hnm hown hh0 W hP
  obtain ⟨rfl, hB⟩ := hP
  have hB0 := hB.mv X0.warmed.alike hh0
  have c1 : Steps p.tables e below (s₁.setTop (entryFrame m #[.ref d, .int (Int32.ofNat B.slots.size)] 2)) (s₁.setTop (mkF m 0 #[.val (.ref d), .val (.int (Int32.ofNat B.slots.size))] [])) := entry rfl
  have c2 : Steps p.tables e below (s₁.setTop (entryFrame m #[.ref d, .int (Int32.ofNat B.slots.size)] 2)) (s₁.setTop (mkF m 2 #[.val (.ref d), .val (.int (Int32.ofNat B.slots.size))] [.ref d, .int (Int32.ofNat B.slots.size)])) := c1.trans (by
    refine XS.iloadN X0.here hexec rfl (hb hbytes d0) rfl ?_
    refine XS.aloadN X0.here hexec rfl (hb hbytes d1) rfl rfl ?_
    exact Steps.refl _)
  have c3 : Steps p.tables e below (s₁.setTop (entryFrame m #[.ref d, .int (Int32.ofNat B.slots.size)] 2)) (s₁.setTop (mkF m 8 #[.val (.ref d), .val (.int (Int32.ofNat B.slots.size))] [.int (lo8 (ushr (Int32.ofNat B.slots.size - Int32.ofNat B.slots.size) 31))])) := c2.trans (by
    refine X0.alen hexec hB0 rfl rfl (hb hbytes d2) ?_
    refine XS.isub X0.here hexec rfl (hb hbytes d3) rfl ?_
    refine bipushV X0.here hexec rfl 31 (hb hbytes d4) (by decide) ?_
    refine iushr X0.here hexec rfl (hb hbytes d6) rfl ?_
    refine i2b X0.here hexec rfl (hb hbytes d7) rfl ?_
    exact Steps.refl _)
  have e0 : lo8 (ushr (Int32.ofNat B.slots.size - Int32.ofNat B.slots.size) 31) = 0 := by rw [Int32.sub_self]; decide
  rw [e0] at c3
  exact ⟨s₁, some (.int 0), _, _, _, X0, rfl, rfl, rfl, (fun h => by cases h), ⟨rfl, hh0⟩, fun fs hl => c3.trans (X0.ireturnOut hexec hret rfl (Or.inr (Or.inr (Or.inl rfl))) (hb hbytes d8) hl)⟩
end CodL
/-- the String at a is Latin-1 over a new byte[] (the heap's one new cell): the low bytes of the len chars of A from o on; every cell but a is kept -/
def Got (a : Addr) (D : Cell) (fV fC : Field) (A : Cell) (o len : Nat) (r : Option Value) (s u : State) : Prop := r = none ∧ ∃ D' V : Cell, Blank "java/lang/String" a D' u ∧ Same D D' [fV.slot, fC.slot] ∧ D'.slots[fV.slot]? = some (.ref s.heap.size) ∧ D'.slots[fC.slot]? = some (.int 0) ∧ Arr .byte s.heap.size V u ∧ V.vm = .none ∧ u.vm.findClass "[B" = some V.cls ∧ V.slots.size = len ∧ (∀ j, j < len → V.slots[j]? = some (.int (lo8 (cv A (o + j))))) ∧ (∀ (y : Addr) (c : Cell), y ≠ a → s.heap[y]? = some c → u.heap[y]? = some c) ∧ u.heap.size = s.heap.size + 1
theorem Got.mv {a : Addr} {D A : Cell} {fV fC : Field} {o len : Nat} : ∀ r (U U' V V' : State), U'.heap = U.heap → V.vm.Alike V'.vm → V'.heap = V.heap → Got a D fV fC A o len r U V → Got a D fV fC A o len r U' V' :=
  fun r U U' V V' h1 hal h2 ⟨e0, D', X, a1, a2, a3, a4, a5, a6, a7, a8, a9, a10, a11⟩ => ⟨e0, D', X, a1.mv hal h2, a2, by rw [h1]; exact a3, a4, by rw [h1]; exact a5.mv hal h2, a6, by rw [hal.findClass]; exact a7, a8, a9, by rw [h1, h2]; exact a10, by rw [h1, h2]; exact a11⟩
namespace New4
def yN : MethodName := ⟨"java/lang/String", "<init>", "([CIILjava/lang/Void;)V"⟩
abbrev yB : ByteArray := jdk_42_method_149_code
theorem d0 : decode yB 0 = .ok (.aload_n 0, 1) := by decide +kernel
theorem d1 : decode yB 1 = .ok (.invokespecial 1, 3) := by decide +kernel
theorem d4 : decode yB 4 = .ok (.iload_n 3, 1) := by decide +kernel
theorem d5 : decode yB 5 = .ok (.ifCond (.ne) 22, 3) := by decide +kernel
theorem d27 : decode yB 27 = .ok (.getstatic 38, 3) := by decide +kernel
theorem d30 : decode yB 30 = .ok (.ifCond (.eq) 28, 3) := by decide +kernel
theorem d33 : decode yB 33 = .ok (.aload_n 1, 1) := by decide +kernel
theorem d34 : decode yB 34 = .ok (.iload_n 2, 1) := by decide +kernel
theorem d35 : decode yB 35 = .ok (.iload_n 3, 1) := by decide +kernel
theorem d36 : decode yB 36 = .ok (.invokestatic 177, 3) := by decide +kernel
theorem d39 : decode yB 39 = .ok (.astore 5, 2) := by decide +kernel
theorem d41 : decode yB 41 = .ok (.aload_n 0, 1) := by decide +kernel
theorem d42 : decode yB 42 = .ok (.aload 5, 2) := by decide +kernel
theorem d44 : decode yB 44 = .ok (.iload_n 3, 1) := by decide +kernel
theorem d45 : decode yB 45 = .ok (.invokestatic 47, 3) := by decide +kernel
theorem d48 : decode yB 48 = .ok (.putfield 15, 3) := by decide +kernel
theorem d51 : decode yB 51 = .ok (.aload_n 0, 1) := by decide +kernel
theorem d52 : decode yB 52 = .ok (.aload 5, 2) := by decide +kernel
theorem d54 : decode yB 54 = .ok (.putfield 9, 3) := by decide +kernel
theorem d57 : decode yB 57 = .ok (.return_, 1) := by decide +kernel
def site : List Cond := [.fieldLink "java/lang/String" 38 "java/lang/String" "COMPACT_STRINGS" "Z", Cmp3.tab, CodL.tab, .laysFinal "java/lang/String" "java/lang/String" "value" "[B", .fieldLink "java/lang/String" 9 "java/lang/String" "value" "[B", .laysFinal "java/lang/String" "java/lang/String" "coder" "B", .fieldLink "java/lang/String" 15 "java/lang/String" "coder" "B"] ++ objW "java/lang/String" 1 ++ staticW "java/lang/String" 177 Cmp3.yN ++ staticW "java/lang/String" 47 CodL.yN
def tab : Cond := tabOf yN yB 6 none site
def P (a : Addr) (D : Cell) (fV fC : Field) (b : Addr) (A : Cell) (z : Int32) (o len : Nat) (args : Array Value) (s : State) : Prop := args = #[.ref a, .ref b, .int (Int32.ofNat o), .int (Int32.ofNat len), .null] ∧ Blank "java/lang/String" a D s ∧ Found "java/lang/String" "value" "[B" fV s ∧ Found "java/lang/String" "coder" "B" fC s ∧ Ch b A s ∧ StaticIs s "java/lang/String" "COMPACT_STRINGS" "Z" (.int z) ∧ ¬ z = 0 ∧ 0 < len ∧ o + len ≤ A.slots.size ∧ len ≤ 536870912 ∧ ∀ i, i < len → ¬ 255 < cv A (o + i)
def E (a : Addr) (D : Cell) (fV fC : Field) (A : Cell) (o len : Nat) (r : Option Value) (s u : State) : Prop := Got a D fV fC A o len r s u
/-- len > 0, no char of the range above 255: a Latin-1 String of their low bytes -/
theorem law (l : Launch) (a : Addr) (D : Cell) (fV fC : Field) (b : Addr) (A : Cell) (z : Int32) (o len : Nat) : Law l yN 5 4 2 35 yB 6 none site (P a D fV fC b A z o len) (E a D fV fC A o len) [⟨a, fC.slot⟩, ⟨a, fV.slot⟩] 1 len := by
  refine Law.of_walk (plainFor_of_name (by decide +kernel)) (by decide +kernel) (by decide +kernel) (by decide) (fun _ _ h => by rw [h.1]; rfl) (fun _ U U' hal hh h => ⟨h.1, h.2.1.mv hal hh, h.2.2.1.al hal, h.2.2.2.1.al hal, h.2.2.2.2.1.mv hal hh, h.2.2.2.2.2.1.there hal hh, h.2.2.2.2.2.2⟩) (fun r U U' V V' h1 hal h2 h => Got.mv r U U' V V' h1 hal h2 h) ?_
  intro p e s m args below meth c s₁ X0 hexec hbytes hml hret hlk hnm hown hh0 W hP
  obtain ⟨rfl, hB, f1, f2, hA, s1, hz, l0, l1, l2, hp⟩ := hP
  have a31 := hA.1.2.2.2
  have c1 : Steps p.tables e below (s₁.setTop (entryFrame m #[.ref a, .ref b, .int (Int32.ofNat o), .int (Int32.ofNat len), .null] 6)) (s₁.setTop (mkF m 0 #[.val (.ref a), .val (.ref b), .val (.int (Int32.ofNat o)), .val (.int (Int32.ofNat len)), .val .null, .unset] [])) := entry rfl
  have c2 : Steps p.tables e below (s₁.setTop (entryFrame m #[.ref a, .ref b, .int (Int32.ofNat o), .int (Int32.ofNat len), .null] 6)) (s₁.setTop (mkF m 1 #[.val (.ref a), .val (.ref b), .val (.int (Int32.ofNat o)), .val (.int (Int32.ofNat len)), .val .null, .unset] [.ref a])) := c1.trans (by
    refine XS.aloadN X0.here hexec rfl (hb hbytes d0) rfl rfl ?_
    exact Steps.refl _)
  obtain ⟨T3, X3, q3, st3⟩ := X0.oinit hexec hown (wks W (objW "java/lang/String" 1)) (g := (mkF m 1 #[.val (.ref a), .val (.ref b), .val (.int (Int32.ofNat o)), .val (.int (Int32.ofNat len)), .val .null, .unset] [.ref a])) rfl (by rw [hml]; rfl) (rest := []) rfl (hb hbytes d1) (W := 0) (by show 2 * 0 + 0 ≤ _; decide) (Nat.le_of_ble_eq_true rfl) (Nat.le_of_ble_eq_true rfl)
  have hh3 := q3.trans hh0
  have c4 : Steps p.tables e below (s₁.setTop (entryFrame m #[.ref a, .ref b, .int (Int32.ofNat o), .int (Int32.ofNat len), .null] 6)) (T3.setTop (mkF m 27 #[.val (.ref a), .val (.ref b), .val (.int (Int32.ofNat o)), .val (.int (Int32.ofNat len)), .val .null, .unset] [])) := (c2.trans (st3 _ (Steps.refl _))).trans (by
    refine XS.iloadN X3.here hexec rfl (hb hbytes d4) rfl ?_
    refine XS.ifYes X3.here hexec rfl (pc0 := 5) rfl (hb hbytes d5) rfl (i0_ne_t (nz32 (by omega) l0)) (by decide) rfl ?_
    exact Steps.refl _)
  obtain ⟨T5, X5, q5, st5⟩ := X3.sget hexec hown (wk W (.fieldLink "java/lang/String" 38 "java/lang/String" "COMPACT_STRINGS" "Z")) s1 (fun _ _ h => by rw [hh3]; exact h) (g := (mkF m 27 #[.val (.ref a), .val (.ref b), .val (.int (Int32.ofNat o)), .val (.int (Int32.ofNat len)), .val .null, .unset] [])) rfl (hb hbytes d27)
  have hh5 := q5.trans hh3
  have c6 : Steps p.tables e below (s₁.setTop (entryFrame m #[.ref a, .ref b, .int (Int32.ofNat o), .int (Int32.ofNat len), .null] 6)) (T5.setTop (mkF m 30 #[.val (.ref a), .val (.ref b), .val (.int (Int32.ofNat o)), .val (.int (Int32.ofNat len)), .val .null, .unset] [.int z])) := c4.trans (st5 _ (Steps.refl _))
  have c7 : Steps p.tables e below (s₁.setTop (entryFrame m #[.ref a, .ref b, .int (Int32.ofNat o), .int (Int32.ofNat len), .null] 6)) (T5.setTop (mkF m 36 #[.val (.ref a), .val (.ref b), .val (.int (Int32.ofNat o)), .val (.int (Int32.ofNat len)), .val .null, .unset] [.int (Int32.ofNat len), .int (Int32.ofNat o), .ref b])) := c6.trans (by
    refine XS.ifNo X5.here hexec rfl (hb hbytes d30) rfl (i0_eq_f hz) ?_
    refine XS.aloadN X5.here hexec rfl (hb hbytes d33) rfl rfl ?_
    refine XS.iloadN X5.here hexec rfl (hb hbytes d34) rfl ?_
    refine XS.iloadN X5.here hexec rfl (hb hbytes d35) rfl ?_
    exact Steps.refl _)
  obtain ⟨v8, T8, X8, E8, g8⟩ := X5.callS hexec (Cmp3.law l b A o len) hown (wks W (staticW "java/lang/String" 177 Cmp3.yN)) (wk W Cmp3.tab) (W := 0) (Nat.le_of_ble_eq_true rfl) (Nat.le_of_ble_eq_true rfl) (Nat.le_refl _) (by show 0 + len ≤ len; omega) (g := (mkF m 36 #[.val (.ref a), .val (.ref b), .val (.int (Int32.ofNat o)), .val (.int (Int32.ofNat len)), .val .null, .unset] [.int (Int32.ofNat len), .int (Int32.ofNat o), .ref b])) rfl (by rw [hml]; rfl) c7 (argsL := [.ref b, .int (Int32.ofNat o), .int (Int32.ofNat len)]) (rest := []) rfl rfl (by show 2 * 0 + 0 ≤ _; decide) (hb hbytes d36) (⟨rfl, hA.mv X5.warmed.alike hh5, l1, l2, hp⟩)
  obtain ⟨e8, z8⟩ := E8
  obtain ⟨rfl, N, n1, n2, n3, n4, n5, n6⟩ := NewArr.mv _ T5 s _ _ hh5.symm (Vm.Alike.refl _) rfl e8
  rw [hh5] at z8
  have hB1 := hB.keep X8.warmed.alike (n6 _ _ hB.1)
  have hne : s.heap.size ≠ a := (Nat.ne_of_lt (Array.getElem?_eq_some_iff.mp hB.1).1).symm
  have c9 : Steps p.tables e below (s₁.setTop (entryFrame m #[.ref a, .ref b, .int (Int32.ofNat o), .int (Int32.ofNat len), .null] 6)) (T8.setTop (mkF m 39 #[.val (.ref a), .val (.ref b), .val (.int (Int32.ofNat o)), .val (.int (Int32.ofNat len)), .val .null, .unset] [.ref s.heap.size])) := g8
  have c10 : Steps p.tables e below (s₁.setTop (entryFrame m #[.ref a, .ref b, .int (Int32.ofNat o), .int (Int32.ofNat len), .null] 6)) (T8.setTop (mkF m 45 #[.val (.ref a), .val (.ref b), .val (.int (Int32.ofNat o)), .val (.int (Int32.ofNat len)), .val .null, .val (.ref s.heap.size)] [.int (Int32.ofNat N.slots.size), .ref s.heap.size, .ref a])) := by
    have hc : Steps p.tables e below (s₁.setTop (entryFrame m #[.ref a, .ref b, .int (Int32.ofNat o), .int (Int32.ofNat len), .null] 6)) (T8.setTop (mkF m 45 #[.val (.ref a), .val (.ref b), .val (.int (Int32.ofNat o)), .val (.int (Int32.ofNat len)), .val .null, .val (.ref s.heap.size)] [.int (Int32.ofNat len), .ref s.heap.size, .ref a])) := c9.trans (by
      refine XS.astore X8.here hexec rfl (hb hbytes d39) rfl rfl rfl ?_
      refine XS.aloadN X8.here hexec rfl (hb hbytes d41) rfl rfl ?_
      refine XS.aload X8.here hexec rfl (hb hbytes d42) rfl rfl ?_
      refine XS.iloadN X8.here hexec rfl (hb hbytes d44) rfl ?_
      exact Steps.refl _)
    rw [n4]; exact hc
  obtain ⟨v11, T11, X11, E11, g11⟩ := X8.callS hexec (CodL.law l s.heap.size N) hown (wks W (staticW "java/lang/String" 47 CodL.yN)) (wk W CodL.tab) (W := 1) (Nat.le_of_ble_eq_true rfl) (Nat.le_of_ble_eq_true rfl) (Nat.le_refl _) (by show 0 + len + 0 ≤ len; omega) (g := (mkF m 45 #[.val (.ref a), .val (.ref b), .val (.int (Int32.ofNat o)), .val (.int (Int32.ofNat len)), .val .null, .val (.ref s.heap.size)] [.int (Int32.ofNat N.slots.size), .ref s.heap.size, .ref a])) rfl (by rw [hml]; rfl) c10 (argsL := [.ref s.heap.size, .int (Int32.ofNat N.slots.size)]) (rest := [.ref a]) rfl rfl (by show 2 * 0 + (1 + 0) ≤ _; decide) (hb hbytes d45) (⟨rfl, n1⟩)
  obtain ⟨rfl, q11⟩ := E11
  have hB11 := hB1.mv (X8.warmed.alike.symm.trans X11.warmed.alike) q11
  have c12 : Steps p.tables e below (s₁.setTop (entryFrame m #[.ref a, .ref b, .int (Int32.ofNat o), .int (Int32.ofNat len), .null] 6)) (T11.setTop (mkF m 48 #[.val (.ref a), .val (.ref b), .val (.int (Int32.ofNat o)), .val (.int (Int32.ofNat len)), .val .null, .val (.ref s.heap.size)] [.int 0, .ref a])) := g11
  obtain ⟨T13, X13, p13, bl13, sl13, st13⟩ := X11.finit hexec hown (wk W (.fieldLink "java/lang/String" 15 "java/lang/String" "coder" "B")) (Or.inr ⟨_, (wk W (.laysFinal "java/lang/String" "java/lang/String" "coder" "B"))⟩) (Or.inl ⟨rfl, hnm⟩) f2 (Or.inl rfl) hB11 (t := .byte) (by decide +kernel) rfl (g := (mkF m 48 #[.val (.ref a), .val (.ref b), .val (.int (Int32.ofNat o)), .val (.int (Int32.ofNat len)), .val .null, .val (.ref s.heap.size)] [.int 0, .ref a])) rfl (rest := []) rfl (hb hbytes d48)
  have c14 : Steps p.tables e below (s₁.setTop (entryFrame m #[.ref a, .ref b, .int (Int32.ofNat o), .int (Int32.ofNat len), .null] 6)) (T13.setTop (mkF m 54 #[.val (.ref a), .val (.ref b), .val (.int (Int32.ofNat o)), .val (.int (Int32.ofNat len)), .val .null, .val (.ref s.heap.size)] [.ref s.heap.size, .ref a])) := (c12.trans (st13 _ (Steps.refl _))).trans (by
    refine XS.aloadN X13.here hexec rfl (hb hbytes d51) rfl rfl ?_
    refine XS.aload X13.here hexec rfl (hb hbytes d52) rfl rfl ?_
    exact Steps.refl _)
  obtain ⟨T15, X15, p15, bl15, sl15, st15⟩ := X13.finit hexec hown (wk W (.fieldLink "java/lang/String" 9 "java/lang/String" "value" "[B")) (Or.inr ⟨_, (wk W (.laysFinal "java/lang/String" "java/lang/String" "value" "[B"))⟩) (Or.inl ⟨rfl, hnm⟩) f1 (Or.inl rfl) bl13 (t := (.array .byte)) (by decide +kernel) rfl (g := (mkF m 54 #[.val (.ref a), .val (.ref b), .val (.int (Int32.ofNat o)), .val (.int (Int32.ofNat len)), .val .null, .val (.ref s.heap.size)] [.ref s.heap.size, .ref a])) rfl (rest := []) rfl (hb hbytes d54)
  have c16 : Steps p.tables e below (s₁.setTop (entryFrame m #[.ref a, .ref b, .int (Int32.ofNat o), .int (Int32.ofNat len), .null] 6)) (T15.setTop (mkF m 57 #[.val (.ref a), .val (.ref b), .val (.int (Int32.ofNat o)), .val (.int (Int32.ofNat len)), .val .null, .val (.ref s.heap.size)] [])) := c14.trans (st15 _ (Steps.refl _))
  have ap := apart (Or.inr ⟨_, (wk W (.laysFinal "java/lang/String" "java/lang/String" "value" "[B"))⟩) (Or.inr ⟨_, (wk W (.laysFinal "java/lang/String" "java/lang/String" "coder" "B"))⟩) f1 f2 (t₁ := .array .byte) (t₂ := .byte) (by decide +kernel) (by decide +kernel) (by decide)
  have al := X8.warmed.alike.symm.trans X15.warmed.alike
  have n7 : T11.heap[s.heap.size]? = some N := by rw [q11]; exact n1.1
  exact ⟨T15, none, _, _, _, X15, by simp, rfl, by omega, (fun _ => rfl), ⟨rfl, _, N, bl15, ((Same.refl D _).set _ (by simp)).set _ (by simp), sl15, (Cell.slots_setSlot_ne _ ap).trans sl13, n1.keep al (p15.other hne (p13.other hne n7)), n2, by rw [al.findClass]; exact n3, n4, n5, fun y c h1 h2 => p15.other h1 (p13.other h1 (by rw [q11]; exact n6 y c h2)), by rw [p15.2.2, p13.2.2, q11]; exact z8⟩, fun fs hl => c16.trans (X15.returnOut hexec hret (hb hbytes d57) hl)⟩
end New4
namespace New1
def yN : MethodName := ⟨"java/lang/String", "<init>", "([C)V"⟩
abbrev yB : ByteArray := jdk_42_method_3_code
theorem d0 : decode yB 0 = .ok (.aload_n 0, 1) := by decide +kernel
theorem d1 : decode yB 1 = .ok (.aload_n 1, 1) := by decide +kernel
theorem d2 : decode yB 2 = .ok (.iconst 0, 1) := by decide +kernel
theorem d3 : decode yB 3 = .ok (.aload_n 1, 1) := by decide +kernel
theorem d4 : decode yB 4 = .ok (.arraylength, 1) := by decide +kernel
theorem d5 : decode yB 5 = .ok (.aconst_null, 1) := by decide +kernel
theorem d6 : decode yB 6 = .ok (.invokespecial 27, 3) := by decide +kernel
theorem d9 : decode yB 9 = .ok (.return_, 1) := by decide +kernel
def site : List Cond := [New4.tab] ++ initW "java/lang/String" 27 New4.yN
def tab : Cond := tabOf yN yB 2 none site
def P (a : Addr) (D : Cell) (fV fC : Field) (b : Addr) (A : Cell) (z : Int32) (args : Array Value) (s : State) : Prop := args = #[.ref a, .ref b] ∧ Blank "java/lang/String" a D s ∧ Found "java/lang/String" "value" "[B" fV s ∧ Found "java/lang/String" "coder" "B" fC s ∧ Ch b A s ∧ StaticIs s "java/lang/String" "COMPACT_STRINGS" "Z" (.int z) ∧ ¬ z = 0 ∧ 0 < A.slots.size ∧ A.slots.size ≤ 536870912 ∧ ∀ i, i < A.slots.size → ¬ 255 < cv A i
def E (a : Addr) (D : Cell) (fV fC : Field) (A : Cell) (r : Option Value) (s u : State) : Prop := Got a D fV fC A 0 A.slots.size r s u
/-- new String(chars), not empty, no char above 255: a Latin-1 String of their low bytes -/
theorem law (l : Launch) (a : Addr) (D : Cell) (fV fC : Field) (b : Addr) (A : Cell) (z : Int32) : Law l yN 2 1 3 52 yB 2 none site (P a D fV fC b A z) (E a D fV fC A) [⟨a, fC.slot⟩, ⟨a, fV.slot⟩] 1 A.slots.size := by
  refine Law.of_walk (plainFor_of_name (by decide +kernel)) (by decide +kernel) (by decide +kernel) (by decide) (fun _ _ h => by rw [h.1]; rfl) (fun _ U U' hal hh h => ⟨h.1, h.2.1.mv hal hh, h.2.2.1.al hal, h.2.2.2.1.al hal, h.2.2.2.2.1.mv hal hh, h.2.2.2.2.2.1.there hal hh, h.2.2.2.2.2.2⟩) (fun r U U' V V' h1 hal h2 h => Got.mv r U U' V V' h1 hal h2 h) ?_
  intro p e s m args below meth c s₁ X0 hexec hbytes hml hret hlk hnm hown hh0 W hP
  obtain ⟨rfl, hB, f1, f2, hA, s1, hz, l0, l2, hp⟩ := hP
  have c1 : Steps p.tables e below (s₁.setTop (entryFrame m #[.ref a, .ref b] 2)) (s₁.setTop (mkF m 0 #[.val (.ref a), .val (.ref b)] [])) := entry rfl
  have c2 : Steps p.tables e below (s₁.setTop (entryFrame m #[.ref a, .ref b] 2)) (s₁.setTop (mkF m 6 #[.val (.ref a), .val (.ref b)] [.null, .int (Int32.ofNat A.slots.size), .int 0, .ref b, .ref a])) := c1.trans (by
    refine XS.aloadN X0.here hexec rfl (hb hbytes d0) rfl rfl ?_
    refine XS.aloadN X0.here hexec rfl (hb hbytes d1) rfl rfl ?_
    refine iconstV X0.here hexec rfl 0 (hb hbytes d2) (by decide) ?_
    refine XS.aloadN X0.here hexec rfl (hb hbytes d3) rfl rfl ?_
    refine X0.alen hexec (hA.1.mv X0.warmed.alike hh0) rfl rfl (hb hbytes d4) ?_
    refine XS.aconstNull X0.here hexec rfl (hb hbytes d5) ?_
    exact Steps.refl _)
  obtain ⟨v3, T3, X3, E3, g3⟩ := X0.callN hexec (New4.law l a D fV fC b A z 0 A.slots.size) rfl hown (wks W (initW "java/lang/String" 27 New4.yN)) (W New4.tab (by simp only [site, List.mem_cons, List.mem_append, true_or, or_true])) (W := 0) (Nat.le_of_ble_eq_true rfl) (Nat.le_of_ble_eq_true rfl) (Nat.le_refl _) (by show 0 + A.slots.size ≤ A.slots.size; omega) (g := (mkF m 6 #[.val (.ref a), .val (.ref b)] [.null, .int (Int32.ofNat A.slots.size), .int (Int32.ofNat 0), .ref b, .ref a])) rfl (by rw [hml]; rfl) c2 (argsL := [.ref b, .int (Int32.ofNat 0), .int (Int32.ofNat A.slots.size), .null]) (rest := []) rfl rfl (by show 2 * 0 + 0 ≤ _; decide) (hb hbytes d6) (⟨rfl, hB.mv X0.warmed.alike hh0, f1.al X0.warmed.alike, f2.al X0.warmed.alike, hA.mv X0.warmed.alike hh0, s1.there X0.warmed.alike hh0, hz, l0, by omega, l2, fun i hi => by rw [Nat.zero_add]; exact hp i hi⟩)
  have e0 := Got.mv _ s₁ s _ _ hh0.symm (Vm.Alike.refl _) rfl E3
  obtain rfl := e0.1
  have c4 : Steps p.tables e below (s₁.setTop (entryFrame m #[.ref a, .ref b] 2)) (T3.setTop (mkF m 9 #[.val (.ref a), .val (.ref b)] [])) := g3
  exact ⟨T3, none, _, _, _, X3, by simp, rfl, by omega, (fun _ => rfl), e0, fun fs hl => c4.trans (X3.returnOut hexec hret (hb hbytes d9) hl)⟩
theorem pays {l : Launch} {R : Room} {p : Program} {e : Env} {below : List Frame} {s : State} {sargs : Array Value} {len W : Nat} (a : Addr) (D : Cell) (fV fC : Field) (b : Addr) (A : Cell) (z : Int32) (htab : tab.before sargs s = true) (hfr : 4 ≤ R.frames) (hlo : W + 65 ≤ R.locals) :
    Back l R p e below s sargs yN len W (fun A₁ a₁ => A₁.cells + 1 ≤ R.cells ∧ A₁.slots + A.slots.size ≤ R.slots ∧ P a D fV fC b A z a₁ A₁.U) (fun A₁ _ v₁ B₁ => E a D fV fC A v₁ A₁.U B₁.U ∧ B₁.locs = A₁.locs ++ [⟨a, fC.slot⟩, ⟨a, fV.slot⟩] ∧ B₁.cells = A₁.cells + 1 ∧ B₁.slots = A₁.slots + A.slots.size) :=
  (law l a D fV fC b A z).pays htab hfr (by omega)
end New1
end StrChars
namespace StrChars.Road
open Jvm Sem ClassFile Op Lib Jvm.Stand Jvm.Free Jvm.Free.XT
open Jvm.Lib.Cold (StaticIs)
abbrev ST : String := "java/lang/String"
/-- every table word that New1's law asks, flat -/
abbrev words : List Jvm.Cond := [.code New1.yN New1.yB 2 none, .initialized ST, .methodLink ST 27 New4.yN, .instanceMethod New4.yN,
  .code New4.yN New4.yB 6 none, .fieldLink ST 38 ST "COMPACT_STRINGS" "Z", .laysFinal ST ST "value" "[B", .fieldLink ST 9 ST "value" "[B", .laysFinal ST ST "coder" "B", .fieldLink ST 15 ST "coder" "B",
  .methodLink ST 1 Lib.objectInit, .instanceMethod Lib.objectInit, .code Lib.objectInit ⟨#[0xb1]⟩ 1 none, .methodLink ST 177 Cmp3.yN, .static Cmp3.yN, .methodLink ST 47 CodL.yN, .static CodL.yN,
  .code Cmp3.yN Cmp3.yB 6 (some (.array .byte)), .initialized U16, .arrayClass .byte, .methodLink U16 115 Cmp5.yN, .static Cmp5.yN, .code Cmp5.yN Cmp5.yB 7 (some .int), .code CodL.yN CodL.yB 2 (some .byte)]
theorem tab_of {a : Array Value} {s : State} (h : ∀ w ∈ words, w.before a s = true) : New1.tab.before a s = true := by
  have h5 : Cmp5.tab.before a s = true := unparts (wk h (.code Cmp5.yN Cmp5.yB 7 (some .int))) (wks h (.initialized Cmp5.yN.cls :: Cmp5.site))
  have hc : CodL.tab.before a s = true := unparts (wk h (.code CodL.yN CodL.yB 2 (some .byte))) (wks h (.initialized CodL.yN.cls :: CodL.site))
  have q5 : ∀ w ∈ Cmp5.tab :: words, w.before a s = true := fun w hw => (List.mem_cons.mp hw).elim (fun e => e ▸ h5) (h w)
  have h3 : Cmp3.tab.before a s = true := unparts (wk q5 (.code Cmp3.yN Cmp3.yB 6 (some (.array .byte)))) (wks q5 (.initialized Cmp3.yN.cls :: Cmp3.site))
  have q3 : ∀ w ∈ Cmp3.tab :: CodL.tab :: words, w.before a s = true := fun w hw => (List.mem_cons.mp hw).elim (fun e => e ▸ h3) fun hw => (List.mem_cons.mp hw).elim (fun e => e ▸ hc) (h w)
  have h4 : New4.tab.before a s = true := unparts (wk q3 (.code New4.yN New4.yB 6 none)) (wks q3 (.initialized New4.yN.cls :: New4.site))
  have q4 : ∀ w ∈ New4.tab :: words, w.before a s = true := fun w hw => (List.mem_cons.mp hw).elim (fun e => e ▸ h4) (h w)
  exact unparts (wk q4 (.code New1.yN New1.yB 2 none)) (wks q4 (.initialized New1.yN.cls :: New1.site))
/-- the words ride from the start Z to the walk's own state -/
theorem moved {Z s : State} {a0 args : Array Value} (hZ : Z.Warmed39 s.vm) (hw : ∀ d ∈ words, d.before a0 Z = true) : ∀ d ∈ words, d.before args s = true := fun d hd => by
  have q := hw d hd
  have t : ∀ d ∈ words, d = .arrayClass .byte ∨ (d.onTables && d.keepsFace) = true := by decide +kernel
  rcases t d hd with rfl | t
  · exact RoadKit.mvA hZ q
  · exact RoadKit.mv hZ q t
/-- WHAT COMES BACK, over the tables of the start Z: h the heap at the call, h' behind it -/
def Q (Z : State) (x : Addr) (A : Cell) (h : Heap) (v : Option Value) (h' : Heap) (L : List Loc) : Prop := v = none ∧ (∀ y ∈ L, y.base = x) ∧ RoadKit.Keep h h' [x] ∧ h'.size = h.size + 1 ∧ RoadKit.Exa Z h' x ST ∧ RoadKit.Fld Z h' x ST "value" "[B" (.ref h.size) ∧ RoadKit.Fld Z h' x ST "coder" "B" (.int 0) ∧
  (∃ V : Cell, RoadKit.Arr Z h' h.size V .byte ∧ V.vm = .none ∧ Z.vm.findClass "[B" = some V.cls ∧ V.slots.size = A.slots.size ∧ ∀ j, j < A.slots.size → V.slots[j]? = some (.int (lo8 (cv A j)))) ∧
  ∀ (O n d : String) (w : Value), RoadKit.Fld Z h x O n d w → RoadKit.slotOf Z O n d ≠ RoadKit.slotOf Z ST "value" "[B" → RoadKit.slotOf Z O n d ≠ RoadKit.slotOf Z ST "coder" "B" → RoadKit.Fld Z h' x O n d w
/-- **new String(chars) AT A CALL, IN THE ROAD'S FORM**: for specialBack behind newO: x the fresh String, b the char[] with the cell A -/
theorem back {p : Program} {l : Launch} {e : Env} {R : Room} {s : State} {args : Array Value} {below : List Frame} {len W : Nat} {Z : State} {a0 : Array Value} {h : Heap} (hZ : Z.Warmed39 s.vm) (hw : ∀ d ∈ words, d.before a0 Z = true) {kI : Nat} (wi : (Jvm.Cond.instantiable ST kI).before a0 Z = true)
    {x b : Addr} {A : Cell} {z : Int32} {v0 c0 : Value} (E : RoadKit.Exa Z h x ST) (V : RoadKit.Fld Z h x ST "value" "[B" v0) (C : RoadKit.Fld Z h x ST "coder" "B" c0) (K : RoadKit.Arr Z h b A .char) (hty : Typed .char A) (S : RoadKit.Sta Z h ST "COMPACT_STRINGS" "Z" (.int z)) (hz : ¬ z = 0)
    (l0 : 0 < A.slots.size) (l2 : A.slots.size ≤ 536870912) (hp : ∀ i, i < A.slots.size → ¬ 255 < cv A i) (hfr : 4 ≤ R.frames) (hlo : W + 65 ≤ R.locals) :
    Back l R p e below s args New1.yN len W (fun P a => a = #[.ref x, .ref b] ∧ P.U.heap = h ∧ P.cells + 1 ≤ R.cells ∧ P.slots + A.slots.size ≤ R.slots)
      (fun P _ v B => ∃ L, Q Z x A h v B.U.heap L ∧ B.locs = P.locs ++ L ∧ B.cells = P.cells + 1 ∧ B.slots = P.slots + A.slots.size) := by
  intro m meth c P g ig mk a X hg hsize hdg hW hn hp'
  obtain ⟨rfl, rfl, r1, r2⟩ := hp'
  have al : Z.vm.Alike P.U.vm := hZ.alike.trans X.warmed.alike
  obtain ⟨D, cfV, kV, iV, fV, hD, gV, stV, knV, obV, asV, slV⟩ := id V
  obtain ⟨D', cfC, kC, iC, fC, hD', gC, stC, -, -, asC, slC⟩ := id C
  cases hD.symm.trans hD'
  obtain ⟨D2, kD, e1, e2, e3, e4, e5⟩ := id E
  cases hD.symm.trans e1
  obtain ⟨c2, k2, i1, i2, i3, -⟩ := Cond.instantiable_spec wi
  cases e2.symm.trans i1
  cases e3.symm.trans i2
  obtain ⟨kU, u1, u2⟩ := al.2.2 _ _ e3
  have hB : Blank ST x D P.U := ⟨hD, ⟨knV, fun q hq => by rw [hq] at obV; cases obV⟩, by rw [al.findClass]; exact e2, kU, u1, by rw [u2]; exact i3, by rw [u2]; exact e5 i3⟩
  have F1 : Found ST "value" "[B" fV P.U := ⟨SBG.found_only al ⟨cfV, kV, iV, gV⟩, stV⟩
  have F2 : Found ST "coder" "B" fC P.U := ⟨SBG.found_only al ⟨cfC, kC, iC, gC⟩, stC⟩
  have hA : Ch b A P.U := ⟨⟨K.1, State.isArrayOf_alike al K.2.1, K.2.2, by omega⟩, hty⟩
  have hS : StaticIs P.U ST "COMPACT_STRINGS" "Z" (.int z) := by
    obtain ⟨cfS, iS, kS, fS, st, cS, t1, t2, t3, t4, t5, t6, t7⟩ := S
    exact StaticIs.there (s := { Z with heap := P.U.heap }) ⟨cfS, iS, kS, fS, st, cS, t1, t2, t3, t4, t5, (fun q => by rw [q] at t6; cases t6), t7⟩ al rfl
  obtain ⟨v, B, X', ⟨⟨hv, E', V', q1, q2, q3, q4, q5, q6, q7, q8, q9, q10, q11⟩, hl, hc, hs⟩, st⟩ := New1.pays x D fV fC b A z (tab_of (moved hZ hw)) hfr hlo m meth c P g ig mk _ X hg hsize hdg hW hn ⟨r1, r2, rfl, hB, F1, F2, hA, hS, hz, l0, l2, hp⟩
  have al' : Z.vm.Alike B.U.vm := hZ.alike.trans X'.warmed.alike
  have hsz : E'.slots.size = D.slots.size := by
    obtain ⟨-, -, -, kB, w1, w2, w3⟩ := q1
    obtain ⟨kB', y1, y2⟩ := al'.2.2 _ _ e3
    rw [q2.2.1] at w1
    cases w1.symm.trans y1
    rw [w3, e5 i3, y2]
  refine ⟨v, B, X', ⟨_, ⟨hv, ?_, ⟨by omega, fun y cy hy hn' => q10 y cy (by simpa using hn') hy, fun y cy hy => ?_⟩, q11, ⟨E', _, q1.1, by rw [q2.2.1]; exact e2, by rw [q2.2.1]; exact e3, by rw [q2.1]; exact obV, fun _ => by rw [hsz]; exact e5 i3⟩,
    ⟨E', cfV, kV, iV, fV, q1.1, gV, stV, by rw [q2.1]; exact knV, by rw [q2.1]; exact obV, by rw [q2.2.1]; exact asV, q3⟩, ⟨E', cfC, kC, iC, fC, q1.1, gC, stC, by rw [q2.1]; exact knV, by rw [q2.1]; exact obV, by rw [q2.2.1]; exact asC, q4⟩,
    ⟨V', ⟨q5.1, State.isArrayOf_alike al'.symm q5.2.1, q5.2.2.1⟩, q6, by rw [← al'.findClass]; exact q7, q8, fun j hj => by have := q9 j hj; rwa [Nat.zero_add] at this⟩, fun O n d w F n1 n2 => ?_⟩, hl, hc, hs⟩, st⟩
  · intro y hy
    simp only [List.mem_cons, List.not_mem_nil, or_false] at hy
    rcases hy with rfl | rfl <;> rfl
  · by_cases q : y = x
    · subst q
      cases hD.symm.trans hy
      exact ⟨E', q1.1, q2.2.1, q2.1, hsz⟩
    · exact ⟨cy, q10 y cy q hy, rfl, rfl, rfl⟩
  · obtain ⟨D3, cf, k, i, f, g1, g2, g3, g4, g5, g6, g7⟩ := F
    cases hD.symm.trans g1
    simp only [RoadKit.slotOf, g2, gV, gC, Option.map_some, Option.getD_some] at n1 n2
    exact ⟨E', cf, k, i, f, q1.1, g2, g3, by rw [q2.1]; exact g4, by rw [q2.1]; exact g5, by rw [q2.2.1]; exact g6, by rw [q2.2.2 f.slot (by simp [n1, n2])]; exact g7⟩
end StrChars.Road
namespace StrChars.Road
open Jvm Sem ClassFile Op Lib Jvm.Stand Jvm.Free Jvm.Free.XT
/-- WHAT COMES BACK, the byte[] as a list of values -/
def QA (Z : State) (x : Addr) (zn : Int32) (cs : List Int32) (h : Heap) (v : Option Value) (h' : Heap) (L : List Loc) : Prop := v = none ∧ (∀ y ∈ L, y.base = x) ∧ RoadKit.Keep h h' [x] ∧ h'.size = h.size + 1 ∧ RoadKit.Exa Z h' x ST ∧ RoadKit.Fld Z h' x ST "value" "[B" (.ref h.size) ∧ RoadKit.Fld Z h' x ST "coder" "B" (.int 0) ∧
  (∃ kb, Z.vm.findClass "[B" = some kb ∧ RoadKit.Arv Z h' h.size kb .byte zn (cs.map fun c => .int (lo8 c)) (.int 0)) ∧
  ∀ (O n d : String) (w : Value), RoadKit.Fld Z h x O n d w → RoadKit.slotOf Z O n d ≠ RoadKit.slotOf Z ST "value" "[B" → RoadKit.slotOf Z O n d ≠ RoadKit.slotOf Z ST "coder" "B" → RoadKit.Fld Z h' x O n d w
/-- **new String(chars) AT A CALL, THE ARRAYS AS LISTS**: the char[] at b holds cs, not empty, no char above 255 -/
theorem backArv {p : Program} {l : Launch} {e : Env} {R : Room} {s : State} {args : Array Value} {below : List Frame} {len W : Nat} {Z : State} {a0 : Array Value} {h : Heap} (hZ : Z.Warmed39 s.vm) (hw : ∀ d ∈ words, d.before a0 Z = true) {kI : Nat} (wi : (Jvm.Cond.instantiable ST kI).before a0 Z = true)
    {x b : Addr} {k : ClassId} {zn z : Int32} {cs : List Int32} {dv v0 c0 : Value} (E : RoadKit.Exa Z h x ST) (V : RoadKit.Fld Z h x ST "value" "[B" v0) (C : RoadKit.Fld Z h x ST "coder" "B" c0) (K : RoadKit.Arv Z h b k .char zn (cs.map Value.int) dv) (S : RoadKit.Sta Z h ST "COMPACT_STRINGS" "Z" (.int z)) (hz : ¬ z = 0)
    (hlen : zn.toNatClampNeg = cs.length) (h0 : 0 < cs.length) (hbig : cs.length ≤ 536870912) (hall : ∀ c ∈ cs, ¬ 255 < c) (hfr : 4 ≤ R.frames) (hlo : W + 65 ≤ R.locals) :
    Back l R p e below s args New1.yN len W (fun P a => a = #[.ref x, .ref b] ∧ P.U.heap = h ∧ P.cells + 1 ≤ R.cells ∧ P.slots + cs.length ≤ R.slots)
      (fun P _ v B => ∃ L, QA Z x zn cs h v B.U.heap L ∧ B.locs = P.locs ++ L ∧ B.cells = P.cells + 1 ∧ B.slots = P.slots + cs.length) := by
  obtain ⟨A, K1, K2, K3, K4, K5, K6⟩ := K
  have e : A.slots.size = cs.length := K3.trans hlen
  have hat : ∀ (i : Nat) (hi : i < cs.length), A.slots[i]? = some (.int cs[i]) := fun i hi => by rw [K5 i (by omega)]; simp [List.getD_eq_getElem?_getD, hi]
  have hcv : ∀ (i : Nat) (hi : i < cs.length), cv A i = cs[i] := fun i hi => by unfold cv; rw [hat i hi]
  have hty : Typed .char A := fun i v hv => by
    have hi : i < A.slots.size := (Array.getElem?_eq_some_iff.mp hv).1
    have q := K5 i hi
    rw [hv] at q
    rw [Option.some.inj q]
    exact K6 i hi
  refine Back.mono (back hZ hw wi E V C K1 hty S hz (by omega) (by omega) (fun i hi => by rw [hcv i (by omega)]; exact hall _ (List.getElem_mem _)) hfr hlo) (fun P a hp => ⟨hp.1, hp.2.1, hp.2.2.1, by rw [e]; exact hp.2.2.2⟩) (fun P a v B hp hq => ?_)
  obtain ⟨L, ⟨q1, q2, q3, q4, q5, q6, q7, ⟨V', v1, v2, v3, v4, v5⟩, q9⟩, hl, hc, hs⟩ := hq
  refine ⟨L, ⟨q1, q2, q3, q4, q5, q6, q7, ⟨V'.cls, v3, V', v1, rfl, by rw [v4, e, hlen], K4, fun i hi => ?_, fun i hi => ?_⟩, q9⟩, hl, hc, by rw [hs, e]⟩
  · have hi' : i < cs.length := by omega
    rw [v5 i (by omega), hcv i hi']; simp [List.getD_eq_getElem?_getD, hi']
  · have hi' : i < cs.length := by omega
    simp only [List.getD_eq_getElem?_getD, List.getElem?_map, List.getElem?_eq_getElem hi', Option.map_some, Option.getD_some]
    exact fits_lo8 _
end StrChars.Road
namespace StrChars.Road
open Jvm Sem ClassFile Op Lib Jvm.Stand Jvm.Free Jvm.Free.XT
/-- WHAT COMES BACK, in the writer's own shape -/
def QV (Z : State) (x : Addr) (N : Int32) (bs : List Int32) (h : Heap) (n0 : Nat) (v : Option Value) (h' : Heap) (L : List Loc) : Prop := v = none ∧ RoadKit.Fr n0 L ∧ RoadKit.Keep h h' [x] ∧ RoadKit.Exa Z h' x ST ∧ RoadKit.Fld Z h' x ST "coder" "B" (.int 0) ∧
  ∃ (t : Addr) (kb : ClassId), n0 ≤ t ∧ h.size ≤ t ∧ ¬ t = x ∧ RoadKit.Fld Z h' x ST "value" "[B" (.ref t) ∧ RoadKit.Arv Z h' t kb .byte N (bs.map Value.int) (.int 0)
/-- **new String(chars) AT A CALL, FOR THE WRITER**: a char[] of n known ints, each 0 to 255 -/
theorem backV {p : Program} {l : Launch} {e : Env} {R : Room} {s : State} {args : Array Value} {below : List Frame} {len W : Nat} {Z : State} {a0 : Array Value} {h : Heap} (hZ : Z.Warmed39 s.vm) (hw : ∀ d ∈ words, d.before a0 Z = true) {kI : Nat} (wi : (Jvm.Cond.instantiable ST kI).before a0 Z = true)
    {x b : Addr} {kC : ClassId} {cs bs : List Int32} {d v0 c0 : Value} {z N : Int32} {n n0 : Nat} (hx0 : n0 ≤ x) (hh0 : n0 ≤ h.size) (E : RoadKit.Exa Z h x ST) (V : RoadKit.Fld Z h x ST "value" "[B" v0) (C : RoadKit.Fld Z h x ST "coder" "B" c0) (K : RoadKit.Arv Z h b kC .char N (cs.map Value.int) d) (S : RoadKit.Sta Z h ST "COMPACT_STRINGS" "Z" (.int z)) (hz : ¬ z = 0)
    (hn : cs.length = n) (hN : N = Int32.ofNat n) (l0 : 0 < n) (l2 : n ≤ 4000) (hp : ∀ c ∈ cs, ¬ c < 0 ∧ ¬ (255 : Int32) < c) (hb : bs = cs.map (fun c => c.toInt8.toInt32)) (hfr : 4 ≤ R.frames) (hlo : W + 65 ≤ R.locals) :
    Back l R p e below s args (⟨"java/lang/String", "<init>", "([C)V"⟩ : MethodName) len W (fun P a => a = #[.ref x, .ref b] ∧ P.U.heap = h ∧ P.cells + 1 ≤ R.cells ∧ P.slots + n ≤ R.slots)
      (fun P _ v B => ∃ L, QV Z x N bs h n0 v B.U.heap L ∧ B.locs = P.locs ++ L ∧ B.cells = P.cells + 1 ∧ B.slots = P.slots + n) := by
  subst hn hN hb
  refine Back.mono (backArv hZ hw wi E V C K S hz (n32 (by omega)) l0 (by omega) (fun c hc => (hp c hc).2) hfr hlo) (fun P a hp => hp) (fun P a v B hp hq => ?_)
  obtain ⟨L, ⟨q1, q2, q3, q4, q5, q6, q7, ⟨kb, v1, v2⟩, q9⟩, hl, hc, hs⟩ := hq
  exact ⟨L, ⟨q1, fun y hy => by rw [q2 y hy]; exact hx0, q3, q5, q7, h.size, kb, hh0, Nat.le_refl _, Nat.ne_of_gt E.lt, q6, by rw [List.map_map]; exact v2⟩, hl, hc, hs⟩
end StrChars.Road
namespace StrChars
open Jvm Sem ClassFile Op Lib Jvm.Stand Jvm.Free.XT Jvm.Free.ALB Jvm.Free.JM Jvm.Free
open Jvm.Lib.Cold (StaticIs)
def hi8 (x : Int32) : Int32 := lo8 (x >>> ((8 : Int32) &&& 31))
/-- what StringUTF16.getChar makes of two bytes -/
def pairCh (u v : Int32) : Int32 := (((u &&& 255) <<< ((0 : Int32) &&& 31)) ||| ((v &&& 255) <<< ((8 : Int32) &&& 31))).toUInt32.toUInt16.toUInt32.toInt32
theorem shr0 (c : Int32) : c >>> ((0 : Int32) &&& 31) = c := by
  have e : ((0 : Int32) &&& 31) = 0 := by decide
  rw [e]
  apply Int32.toBitVec_inj.mp
  rw [Int32.toBitVec_shiftRight]
  have e1 : ((0 : Int32).toBitVec.smod 32) = 0#32 := by decide
  rw [e1, BitVec.sshiftRight_eq']
  exact BitVec.sshiftRight_zero
theorem lo8_and (x : Int32) : (lo8 x &&& 255).toBitVec.toNat = x.toBitVec.toNat % 256 := by
  have h : (lo8 x).toBitVec = (x.toBitVec.signExtend 8).signExtend 32 := by rw [lo8, Int8.toBitVec_toInt32, Int32.toBitVec_toInt8]
  rw [Int32.toBitVec_and, BitVec.toNat_and, h]
  have e : ((x.toBitVec.signExtend 8).signExtend 32).toNat % 256 = x.toBitVec.toNat % 256 := by
    rw [BitVec.toNat_signExtend]
    have hlt := x.toBitVec.isLt
    simp only [BitVec.toNat_setWidth, BitVec.toNat_signExtend]
    split <;> split <;> omega
  rw [← e]
  exact Nat.and_two_pow_sub_one_eq_mod _ 8
theorem pair_says {c : Int32} (h0 : ¬ c < 0) (h1 : ¬ 65535 < c) : pairCh (lo8 c) (hi8 c) = c := by
  rw [Int32.lt_iff_toInt_lt] at h0 h1
  have e0 : (0 : Int32).toInt = 0 := rfl
  have e1 : (65535 : Int32).toInt = 65535 := rfl
  have hc : c.toInt = c.toBitVec.toNat := by
    have := c.toBitVec.isLt
    have e : c.toInt = c.toBitVec.toInt := rfl
    rw [e] at h0 h1
    rw [e]
    rw [BitVec.toInt_eq_toNat_cond] at h0 h1 ⊢
    split at h0 <;> split <;> omega
  have hn : c.toBitVec.toNat < 65536 := by omega
  have a1 := lo8_and c
  have a2 : (hi8 c &&& 255).toBitVec.toNat = c.toBitVec.toNat / 256 := by
    rw [hi8, lo8_and]
    have e : ((8 : Int32) &&& 31) = 8 := by decide
    rw [e, Int32.toBitVec_shiftRight]
    have e2 : ((8 : Int32).toBitVec.smod 32) = 8#32 := by decide
    rw [e2, BitVec.sshiftRight_eq', BitVec.toNat_sshiftRight_of_msb_false (by rw [BitVec.msb_eq_false_iff_two_mul_lt]; omega)]
    show c.toBitVec.toNat >>> 8 % 256 = _
    rw [Nat.shiftRight_eq_div_pow]
    omega
  unfold pairCh
  apply Int32.toBitVec_inj.mp
  apply BitVec.eq_of_toNat_eq
  have f0 : ((0 : Int32) &&& 31) = 0 := by decide
  have f8 : ((8 : Int32) &&& 31) = 8 := by decide
  rw [f0, f8]
  have g : (((lo8 c &&& 255) <<< (0 : Int32)) ||| ((hi8 c &&& 255) <<< (8 : Int32))).toBitVec.toNat = c.toBitVec.toNat := by
    rw [Int32.toBitVec_or, Int32.toBitVec_shiftLeft, Int32.toBitVec_shiftLeft]
    have s0 : ((0 : Int32).toBitVec.smod 32) = 0#32 := by decide
    have s8 : ((8 : Int32).toBitVec.smod 32) = 8#32 := by decide
    rw [s0, s8, BitVec.toNat_or]
    simp only [BitVec.shiftLeft_eq', BitVec.toNat_shiftLeft, a1, a2]
    show (c.toBitVec.toNat % 256) <<< 0 % 2 ^ 32 ||| (c.toBitVec.toNat / 256) <<< 8 % 2 ^ 32 = _
    rw [Nat.shiftLeft_zero, Nat.mod_eq_of_lt (show c.toBitVec.toNat % 256 < 2 ^ 32 by omega), Nat.mod_eq_of_lt (show (c.toBitVec.toNat / 256) <<< 8 < 2 ^ 32 by rw [Nat.shiftLeft_eq]; omega), Nat.or_comm, ← Nat.shiftLeft_add_eq_or_of_lt (by omega), Nat.shiftLeft_eq]
    omega
  show BitVec.toNat (((((lo8 c &&& 255) <<< (0 : Int32)) ||| ((hi8 c &&& 255) <<< (8 : Int32))).toBitVec.setWidth 16).setWidth 32) = _
  rw [BitVec.toNat_setWidth, BitVec.toNat_setWidth, g]
  omega
end StrChars
namespace StrChars
open Jvm Sem ClassFile Op Lib Jvm.Stand Jvm.Free.XT Jvm.Free.ALB Jvm.Free.JM Jvm.Free
open Jvm.Lib.Cold (StaticIs)
theorem shr1 {n : Nat} (h : 2 * n < 2 ^ 31) : Int32.ofNat (2 * n) >>> ((1 : Int32) &&& 31) = Int32.ofNat n := by
  have e : ((1 : Int32) &&& 31) = 1 := by decide
  rw [e]
  apply Int32.toBitVec_inj.mp
  rw [Int32.toBitVec_shiftRight]
  have e1 : ((1 : Int32).toBitVec.smod 32) = 1#32 := by decide
  have hm : (BitVec.ofNat 32 (2 * n)).toNat = 2 * n := by rw [BitVec.toNat_ofNat, Nat.mod_eq_of_lt (by omega)]
  rw [e1, BitVec.sshiftRight_eq']
  apply BitVec.eq_of_toNat_eq
  show ((BitVec.ofNat 32 (2 * n)).sshiftRight 1).toNat = (BitVec.ofNat 32 n).toNat
  rw [BitVec.toNat_sshiftRight_of_msb_false (by rw [BitVec.msb_eq_false_iff_two_mul_lt, hm]; omega), hm, BitVec.toNat_ofNat, Nat.shiftRight_eq_div_pow]
  omega
/-- the array's cell V codes the n chars f 0 .. f (n - 1) by the coder cd, as the JDK does: coder 1 just where some char is above 255 -/
def Cod (cd : Int32) (n : Nat) (f : Nat → Int32) (V : Cell) : Prop := (cd = 0 ∧ V.slots.size = n ∧ ∀ j, j < n → V.slots[j]? = some (.int (lo8 (f j))) ∧ ¬ 255 < f j) ∨ (cd = 1 ∧ V.slots.size = 2 * n ∧ (∀ j, j < n → V.slots[2 * j]? = some (.int (lo8 (f j))) ∧ V.slots[2 * j + 1]? = some (.int (hi8 (f j)))) ∧ ∃ j, j < n ∧ 255 < f j)
theorem Cod.cd {cd : Int32} {n : Nat} {f : Nat → Int32} {V : Cell} (h : Cod cd n f V) : cd = 0 ∨ cd = 1 := h.imp (fun q => q.1) fun q => q.1
theorem Cod.len {cd : Int32} {n : Nat} {f : Nat → Int32} {V : Cell} (h : Cod cd n f V) (hs : V.slots.size < 2 ^ 31) : Int32.ofNat V.slots.size >>> (cd &&& 31) = Int32.ofNat n := by
  rcases h with ⟨rfl, h, -⟩ | ⟨rfl, h, -⟩
  · rw [shr0, h]
  · rw [h, shr1 (by omega)]
/-- **x is a String of the n chars f 0 .. f (n - 1)**, Latin-1 or UTF-16; its array at t has the cell V -/
def Txt (x t : Addr) (V : Cell) (cd : Int32) (n : Nat) (f : Nat → Int32) (U : State) : Prop := Exact "java/lang/String" x U ∧ Has x "java/lang/String" "value" "[B" (.ref t) U ∧ Has x "java/lang/String" "coder" "B" (.int cd) U ∧ XT.Arr .byte t V U ∧ Cod cd n f V ∧ ∀ j, j < n → ¬ f j < 0 ∧ ¬ 65535 < f j
theorem Txt.mv {x t : Addr} {V : Cell} {cd : Int32} {n : Nat} {f : Nat → Int32} {U U' : State} (h : Txt x t V cd n f U) (hal : U.vm.Alike U'.vm) (hh : U'.heap = U.heap) : Txt x t V cd n f U' := ⟨h.1.mv hal hh, h.2.1.mv hal hh, h.2.2.1.mv hal hh, h.2.2.2.1.mv hal hh, h.2.2.2.2⟩
namespace Cdr
def yN : MethodName := ⟨"java/lang/String", "coder", "()B"⟩
abbrev yB : ByteArray := jdk_42_method_152_code
theorem d0 : decode yB 0 = .ok (.getstatic 38, 3) := by decide +kernel
theorem d3 : decode yB 3 = .ok (.ifCond (.eq) 10, 3) := by decide +kernel
theorem d6 : decode yB 6 = .ok (.aload_n 0, 1) := by decide +kernel
theorem d7 : decode yB 7 = .ok (.getfield 15, 3) := by decide +kernel
theorem d10 : decode yB 10 = .ok (.goto 4, 3) := by decide +kernel
theorem d14 : decode yB 14 = .ok (.ireturn, 1) := by decide +kernel
def site : List Cond := [.fieldLink "java/lang/String" 38 "java/lang/String" "COMPACT_STRINGS" "Z", .fieldLink "java/lang/String" 15 "java/lang/String" "coder" "B"]
def tab : Cond := tabOf yN yB 1 (some .byte) site
def P (x : Addr) (cd z : Int32) (args : Array Value) (s : State) : Prop := args = #[.ref x] ∧ Has x "java/lang/String" "coder" "B" (.int cd) s ∧ (cd = 0 ∨ cd = 1) ∧ StaticIs s "java/lang/String" "COMPACT_STRINGS" "Z" (.int z) ∧ ¬ z = 0
def E (cd : Int32) (r : Option Value) (s u : State) : Prop := XT.PureE (some (.int cd)) r s u
theorem law (l : Launch) (x : Addr) (cd z : Int32) : Law l yN 1 0 0 0 yB 1 (some .byte) site (P x cd z) (E cd) [] 0 0 := by
  refine Law.of_walk (plainFor_of_name (by decide +kernel)) (by decide +kernel) (by decide +kernel) (by decide) (fun _ _ h => by rw [h.1]; rfl) (fun _ U U' hal hh h => ⟨h.1, h.2.1.mv hal hh, h.2.2.1, h.2.2.2.1.there hal hh, h.2.2.2.2⟩) (fun r U U' V V' h1 hal h2 h => XT.PureE.mv r U U' V V' h1 hal h2 h) ?_
  intro p e s m args below meth c s₁ X0 hexec hbytes hml hret hlk hnm hown hh0 W hP
  obtain ⟨rfl, hx, hc, s1, hz⟩ := hP
  have c1 : Steps p.tables e below (s₁.setTop (entryFrame m #[.ref x] 1)) (s₁.setTop (mkF m 0 #[.val (.ref x)] [])) := entry rfl
  obtain ⟨T2, X2, q2, st2⟩ := X0.sget hexec hown (wk W (.fieldLink "java/lang/String" 38 "java/lang/String" "COMPACT_STRINGS" "Z")) s1 (fun _ _ h => by rw [hh0]; exact h) (g := (mkF m 0 #[.val (.ref x)] [])) rfl (hb hbytes d0)
  have hh2 := q2.trans hh0
  have c3 : Steps p.tables e below (s₁.setTop (entryFrame m #[.ref x] 1)) (T2.setTop (mkF m 7 #[.val (.ref x)] [.ref x])) := (c1.trans (st2 _ (Steps.refl _))).trans (by
    refine XS.ifNo X2.here hexec rfl (hb hbytes d3) rfl (i0_eq_f hz) ?_
    refine XS.aloadN X2.here hexec rfl (hb hbytes d6) rfl rfl ?_
    exact Steps.refl _)
  obtain ⟨T4, X4, q4, st4⟩ := X2.hget hexec hown (wk W (.fieldLink "java/lang/String" 15 "java/lang/String" "coder" "B")) (hx.mv X2.warmed.alike hh2) (g := (mkF m 7 #[.val (.ref x)] [.ref x])) rfl (rest := []) rfl (hb hbytes d7)
  have c5 : Steps p.tables e below (s₁.setTop (entryFrame m #[.ref x] 1)) (T4.setTop (mkF m 14 #[.val (.ref x)] [.int cd])) := (c3.trans (st4 _ (Steps.refl _))).trans (by
    refine XS.goto X4.here hexec rfl (pc0 := 10) rfl (hb hbytes d10) (by decide) rfl ?_
    exact Steps.refl _)
  exact ⟨T4, some (.int cd), _, _, _, X4, rfl, rfl, rfl, (fun h => by cases h), ⟨rfl, q4.trans hh2⟩, fun fs hl => c5.trans (X4.ireturnOut hexec hret (by rcases hc with rfl | rfl <;> rfl) (Or.inr (Or.inr (Or.inl rfl))) (hb hbytes d14) hl)⟩
end Cdr
namespace Len
def yN : MethodName := ⟨"java/lang/String", "length", "()I"⟩
abbrev yB : ByteArray := jdk_42_method_54_code
theorem d0 : decode yB 0 = .ok (.aload_n 0, 1) := by decide +kernel
theorem d1 : decode yB 1 = .ok (.getfield 9, 3) := by decide +kernel
theorem d4 : decode yB 4 = .ok (.arraylength, 1) := by decide +kernel
theorem d5 : decode yB 5 = .ok (.aload_n 0, 1) := by decide +kernel
theorem d6 : decode yB 6 = .ok (.invokevirtual 335, 3) := by decide +kernel
theorem d9 : decode yB 9 = .ok (.ishr, 1) := by decide +kernel
theorem d10 : decode yB 10 = .ok (.ireturn, 1) := by decide +kernel
def site : List Cond := [.fieldLink "java/lang/String" 9 "java/lang/String" "value" "[B", Cdr.tab] ++ virtW "java/lang/String" 335 "java/lang/String" Cdr.yN Cdr.yN
def tab : Cond := tabOf yN yB 1 (some .int) site
def P (x t : Addr) (V : Cell) (cd : Int32) (n : Nat) (f : Nat → Int32) (z : Int32) (args : Array Value) (s : State) : Prop := args = #[.ref x] ∧ Txt x t V cd n f s ∧ StaticIs s "java/lang/String" "COMPACT_STRINGS" "Z" (.int z) ∧ ¬ z = 0
def E (n : Nat) (r : Option Value) (s u : State) : Prop := XT.PureE (some (.int (Int32.ofNat n))) r s u
/-- length() of a String of n chars, in either coding -/
theorem law (l : Launch) (x t : Addr) (V : Cell) (cd : Int32) (n : Nat) (f : Nat → Int32) (z : Int32) : Law l yN 1 0 1 13 yB 1 (some .int) site (P x t V cd n f z) (E n) [] 0 0 := by
  refine Law.of_walk (plainFor_of_name (by decide +kernel)) (by decide +kernel) (by decide +kernel) (by decide) (fun _ _ h => by rw [h.1]; rfl) (fun _ U U' hal hh h => ⟨h.1, h.2.1.mv hal hh, h.2.2.1.there hal hh, h.2.2.2⟩) (fun r U U' V V' h1 hal h2 h => XT.PureE.mv r U U' V V' h1 hal h2 h) ?_
  intro p e s m args below meth c s₁ X0 hexec hbytes hml hret hlk hnm hown hh0 W hP
  obtain ⟨rfl, hx, s1, hz⟩ := hP
  have v31 := hx.2.2.2.1.2.2.2
  have c1 : Steps p.tables e below (s₁.setTop (entryFrame m #[.ref x] 1)) (s₁.setTop (mkF m 1 #[.val (.ref x)] [.ref x])) := Steps.trans (entry rfl) (by
    show Steps p.tables e below (s₁.setTop (mkF m 0 #[.val (.ref x)] [])) _
    refine XS.aloadN X0.here hexec rfl (hb hbytes d0) rfl rfl ?_
    exact Steps.refl _)
  obtain ⟨T2, X2, q2, st2⟩ := X0.hget hexec hown (wk W (.fieldLink "java/lang/String" 9 "java/lang/String" "value" "[B")) (hx.mv X0.warmed.alike hh0).2.1 (g := (mkF m 1 #[.val (.ref x)] [.ref x])) rfl (rest := []) rfl (hb hbytes d1)
  have hh2 := q2.trans hh0
  have hx2 := hx.mv X2.warmed.alike hh2
  have c3 : Steps p.tables e below (s₁.setTop (entryFrame m #[.ref x] 1)) (T2.setTop (mkF m 6 #[.val (.ref x)] [.ref x, .int (Int32.ofNat V.slots.size)])) := (c1.trans (st2 _ (Steps.refl _))).trans (by
    refine X2.alen hexec hx2.2.2.2.1 rfl rfl (hb hbytes d4) ?_
    refine XS.aloadN X2.here hexec rfl (hb hbytes d5) rfl rfl ?_
    exact Steps.refl _)
  obtain ⟨v4, T4, X4, E4, g4⟩ := X2.callV hexec (Cdr.law l x cd z) hown (wks W (virtW "java/lang/String" 335 "java/lang/String" Cdr.yN Cdr.yN)) rfl (by decide) (wk W Cdr.tab) (W := 1) (Nat.le_of_ble_eq_true rfl) (Nat.le_of_ble_eq_true rfl) (Nat.le_refl _) (Nat.le_refl _) (hx2.1.fc X2.warmed.alike) hx2.1.is (g := (mkF m 6 #[.val (.ref x)] [.ref x, .int (Int32.ofNat V.slots.size)])) rfl (by rw [hml]; rfl) c3 (argsL := []) (rest := [.int (Int32.ofNat V.slots.size)]) rfl rfl (by show 2 * 0 + (1 + 0) ≤ _; decide) (hb hbytes d6) (⟨rfl, hx2.2.2.1, hx.2.2.2.2.1.cd, s1.there X2.warmed.alike hh2, hz⟩)
  obtain ⟨rfl, q4⟩ := E4
  have c5 : Steps p.tables e below (s₁.setTop (entryFrame m #[.ref x] 1)) (T4.setTop (mkF m 10 #[.val (.ref x)] [.int (Int32.ofNat V.slots.size >>> (cd &&& 31))])) := Steps.trans g4 (by
    refine ishr X4.here hexec rfl (hb hbytes d9) rfl ?_
    exact Steps.refl _)
  rw [hx.2.2.2.2.1.len v31] at c5
  exact ⟨T4, some (.int (Int32.ofNat n)), _, _, _, X4, rfl, rfl, rfl, (fun h => by cases h), ⟨rfl, q4.trans hh2⟩, fun fs hl => c5.trans (X4.ireturnOut hexec hret rfl (Or.inl rfl) (hb hbytes d10) hl)⟩
theorem pays {l : Launch} {R : Room} {p : Program} {e : Env} {below : List Frame} {s : State} {sargs : Array Value} {len W : Nat} (x t : Addr) (V : Cell) (cd : Int32) (n : Nat) (f : Nat → Int32) (z : Int32) (htab : tab.before sargs s = true) (hfr : 2 ≤ R.frames) (hlo : W + 25 ≤ R.locals) :
    Back l R p e below s sargs yN len W (fun A₁ a₁ => A₁.cells + 0 ≤ R.cells ∧ A₁.slots + 0 ≤ R.slots ∧ P x t V cd n f z a₁ A₁.U) (fun A₁ _ v₁ B₁ => E n v₁ A₁.U B₁.U ∧ B₁.locs = A₁.locs ++ [] ∧ B₁.cells = A₁.cells + 0 ∧ B₁.slots = A₁.slots + 0) :=
  (law l x t V cd n f z).pays htab hfr (by omega)
end Len
end StrChars
namespace StrChars.Road
open Jvm Sem ClassFile Op Lib Jvm.Stand Jvm.Free Jvm.Free.XT
open Jvm.Lib.Cold (StaticIs)
theorem consq {a : Array Value} {s : State} {c : Jvm.Cond} {L : List Jvm.Cond} (h0 : c.before a s = true) (h : ∀ w ∈ L, w.before a s = true) : ∀ w ∈ c :: L, w.before a s = true := fun w hw => (List.mem_cons.mp hw).elim (fun e => e ▸ h0) (h w)
/-- the words of String.length(), either coding -/
abbrev wordsLen : List Jvm.Cond := [.code Len.yN Len.yB 1 (some .int), .initialized ST, .fieldLink ST 9 ST "value" "[B", .fieldLink ST 38 ST "COMPACT_STRINGS" "Z", .fieldLink ST 15 ST "coder" "B", .code Cdr.yN Cdr.yB 1 (some .byte), .methodLink ST 335 Cdr.yN, .declares Cdr.yN, .selects ST Cdr.yN Cdr.yN, .instanceMethod Cdr.yN]
theorem tabLen_of {a : Array Value} {s : State} (h : ∀ w ∈ wordsLen, w.before a s = true) : Len.tab.before a s = true := by
  have hc : Cdr.tab.before a s = true := unparts (wk h (.code Cdr.yN Cdr.yB 1 (some .byte))) (wks h (.initialized Cdr.yN.cls :: Cdr.site))
  have q := consq hc h
  exact unparts (wk q (.code Len.yN Len.yB 1 (some .int))) (wks q (.initialized Len.yN.cls :: Len.site))
theorem movedLen {Z s : State} {a0 args : Array Value} (hZ : Z.Warmed39 s.vm) (hw : ∀ d ∈ wordsLen, d.before a0 Z = true) : ∀ d ∈ wordsLen, d.before args s = true := fun d hd => by
  have q := hw d hd
  have t : ∀ d ∈ wordsLen, d = .arrayClass .byte ∨ (d.onTables && d.keepsFace) = true := by decide +kernel
  rcases t d hd with rfl | t
  · exact RoadKit.mvA hZ q
  · exact RoadKit.mv hZ q t
/-- the bytes of the chars cs, low before high -/
def wideBytes : List Int32 → List Value
  | [] => []
  | c :: cs => .int (lo8 c) :: .int (hi8 c) :: wideBytes cs
theorem wide_lo (d : Value) : ∀ (cs : List Int32) (j : Nat), j < cs.length → (wideBytes cs).getD (2 * j) d = .int (lo8 (cs.getD j 0))
  | [], j, h => absurd h (Nat.not_lt_zero j)
  | c :: cs, 0, _ => rfl
  | c :: cs, j + 1, h => by
    have q := wide_lo d cs j (by simpa using h)
    rw [show 2 * (j + 1) = 2 * j + 1 + 1 from by omega]
    simpa [wideBytes] using q
theorem wide_hi (d : Value) : ∀ (cs : List Int32) (j : Nat), j < cs.length → (wideBytes cs).getD (2 * j + 1) d = .int (hi8 (cs.getD j 0))
  | [], j, h => absurd h (Nat.not_lt_zero j)
  | c :: cs, 0, _ => rfl
  | c :: cs, j + 1, h => by
    have q := wide_hi d cs j (by simpa using h)
    rw [show 2 * (j + 1) + 1 = 2 * j + 1 + 1 + 1 from by omega]
    simpa [wideBytes] using q
theorem low_at (d : Value) (cs : List Int32) (j : Nat) (h : j < cs.length) : (cs.map fun c => Value.int (lo8 c)).getD j d = .int (lo8 (cs.getD j 0)) := by
  simp [List.getD_eq_getElem?_getD, h]
/-- an array of N2 bytes vs codes the chars cs by the coder cd -/
def CodA (cs : List Int32) (cd N2 : Int32) (vs : List Value) : Prop := (cd = 0 ∧ N2 = Int32.ofNat cs.length ∧ vs = (cs.map fun c => Value.int (lo8 c)) ∧ ∀ c ∈ cs, ¬ 255 < c) ∨ (cd = 1 ∧ N2 = Int32.ofNat (2 * cs.length) ∧ vs = wideBytes cs ∧ ∃ c ∈ cs, 255 < c)
theorem CodA.cod {cs : List Int32} {cd N2 : Int32} {vs : List Value} {V : Cell} (h : CodA cs cd N2 vs) (hn : 2 * cs.length < 2 ^ 31) (hs : V.slots.size = N2.toNatClampNeg) (hv : RoadKit.Has V vs (.int 0)) : Cod cd cs.length (fun j => cs.getD j 0) V := by
  rcases h with ⟨rfl, rfl, rfl, h⟩ | ⟨rfl, rfl, rfl, c, hc, hw⟩
  · rw [n32 (by omega)] at hs
    exact Or.inl ⟨rfl, hs, fun j hj => ⟨by rw [hv j (by omega), low_at _ _ _ hj], by
      have e : cs.getD j 0 = cs[j] := by simp [List.getD_eq_getElem?_getD, hj]
      show ¬ 255 < cs.getD j 0
      rw [e]; exact h _ (List.getElem_mem _)⟩⟩
  · rw [n32 (by omega)] at hs
    obtain ⟨j, hj, rfl⟩ := List.getElem_of_mem hc
    exact Or.inr ⟨rfl, hs, fun j hj => ⟨by rw [hv _ (by omega), wide_lo _ _ _ hj], by rw [hv _ (by omega), wide_hi _ _ _ hj]⟩, j, hj, by
      have e : cs.getD j 0 = cs[j] := by simp [List.getD_eq_getElem?_getD, hj]
      show 255 < cs.getD j 0
      rw [e]; exact hw⟩
/-- an object of exactly java/lang/String, its two fields found: as the laws ask it -/
theorem strObj {Z U : State} {a0 : Array Value} {kI : Nat} (wi : (Jvm.Cond.instantiable ST kI).before a0 Z = true) (al : Z.vm.Alike U.vm) {x : Addr} {v0 c0 : Value} (E : RoadKit.Exa Z U.heap x ST) (V : RoadKit.Fld Z U.heap x ST "value" "[B" v0) (C : RoadKit.Fld Z U.heap x ST "coder" "B" c0) :
    ∃ (D : Cell) (fV fC : Field), Blank ST x D U ∧ Found ST "value" "[B" fV U ∧ Found ST "coder" "B" fC U ∧ D.slots[fV.slot]? = some v0 ∧ D.slots[fC.slot]? = some c0 ∧ RoadKit.slotOf Z ST "value" "[B" = fV.slot ∧ RoadKit.slotOf Z ST "coder" "B" = fC.slot := by
  obtain ⟨D, cfV, kV, iV, fV, hD, gV, stV, knV, obV, asV, slV⟩ := V
  obtain ⟨D', cfC, kC, iC, fC, hD', gC, stC, -, -, asC, slC⟩ := C
  cases hD.symm.trans hD'
  obtain ⟨D2, kD, e1, e2, e3, e4, e5⟩ := E
  cases hD.symm.trans e1
  obtain ⟨c2, k2, i1, i2, i3, -⟩ := Cond.instantiable_spec wi
  cases e2.symm.trans i1
  cases e3.symm.trans i2
  obtain ⟨kU, u1, u2⟩ := al.2.2 _ _ e3
  exact ⟨D, fV, fC, ⟨hD, ⟨knV, fun q hq => by rw [hq] at obV; cases obV⟩, by rw [al.findClass]; exact e2, kU, u1, by rw [u2]; exact i3, by rw [u2]; exact e5 i3⟩, ⟨SBG.found_only al ⟨cfV, kV, iV, gV⟩, stV⟩, ⟨SBG.found_only al ⟨cfC, kC, iC, gC⟩, stC⟩, slV, slC, by simp [RoadKit.slotOf, gV], by simp [RoadKit.slotOf, gC]⟩
theorem sta_is {Z U : State} (al : Z.vm.Alike U.vm) {C n d : String} {v : Value} (S : RoadKit.Sta Z U.heap C n d v) : StaticIs U C n d v := by
  obtain ⟨cfS, iS, kS, fS, st, cS, t1, t2, t3, t4, t5, t6, t7⟩ := S
  exact StaticIs.there (s := { Z with heap := U.heap }) ⟨cfS, iS, kS, fS, st, cS, t1, t2, t3, t4, t5, (fun q => by rw [q] at t6; cases t6), t7⟩ al rfl
/-- **length() OF SUCH A STRING** -/
theorem lenW {p : Program} {l : Launch} {e : Env} {R : Room} {s : State} {args : Array Value} {below : List Frame} {len W : Nat} {Z : State} {a0 : Array Value} {h : Heap} (hZ : Z.Warmed39 s.vm) (hw : ∀ d ∈ wordsLen, d.before a0 Z = true) {kI : Nat} (wi : (Jvm.Cond.instantiable ST kI).before a0 Z = true)
    {x t : Addr} {kb : ClassId} {cs : List Int32} {cd N2 z : Int32} {vs : List Value} (E : RoadKit.Exa Z h x ST) (V : RoadKit.Fld Z h x ST "value" "[B" (.ref t)) (C : RoadKit.Fld Z h x ST "coder" "B" (.int cd)) (K : RoadKit.Arv Z h t kb .byte N2 vs (.int 0)) (hc : CodA cs cd N2 vs) (hb : ∀ c ∈ cs, ¬ c < 0 ∧ ¬ (65535 : Int32) < c)
    (S : RoadKit.Sta Z h ST "COMPACT_STRINGS" "Z" (.int z)) (hz : ¬ z = 0) (l2 : cs.length ≤ 4000) (hfr : 2 ≤ R.frames) (hlo : W + 25 ≤ R.locals) :
    Back l R p e below s args (⟨"java/lang/String", "length", "()I"⟩ : MethodName) len W (fun P a => a = #[.ref x] ∧ P.U.heap = h ∧ P.cells + 0 ≤ R.cells ∧ P.slots + 0 ≤ R.slots)
      (fun P _ v B => ∃ L, (v = some (.int (Int32.ofNat cs.length)) ∧ L = [] ∧ B.U.heap = h) ∧ B.locs = P.locs ++ L ∧ B.cells = P.cells + 0 ∧ B.slots = P.slots + 0) := by
  obtain ⟨A, K1, K2, K3, K4, K5, K6⟩ := K
  have hcod := hc.cod (by omega) K3 K5
  intro m meth c P g ig mk a X hg hsize hdg hW hn hp'
  obtain ⟨rfl, rfl, r1, r2⟩ := hp'
  have al : Z.vm.Alike P.U.vm := hZ.alike.trans X.warmed.alike
  obtain ⟨D, fV, fC, hB, F1, F2, g1, g2, -, -⟩ := strObj wi al E V C
  have hx : Txt x t A cd cs.length (fun j => cs.getD j 0) P.U := ⟨⟨_, hB.2.2.1, D, hB.1, rfl, by cases q : D.vm <;> first | rfl | exact absurd q (hB.2.1.2 _)⟩, Has.of hB F1 g1, Has.of hB F2 g2, ⟨K1.1, State.isArrayOf_alike al K1.2.1, K1.2.2, by rcases hcod with ⟨-, q, -⟩ | ⟨-, q, -⟩ <;> omega⟩, hcod, fun j hj => by
    have e : cs.getD j 0 = cs[j] := by simp [List.getD_eq_getElem?_getD, hj]
    show ¬ cs.getD j 0 < 0 ∧ ¬ 65535 < cs.getD j 0
    rw [e]; exact hb _ (List.getElem_mem _)⟩
  obtain ⟨v, B, X', ⟨⟨hv, hh⟩, hl, hk, hs⟩, st⟩ := Len.pays x t A cd cs.length (fun j => cs.getD j 0) z (tabLen_of (movedLen hZ hw)) hfr hlo m meth c P g ig mk _ X hg hsize hdg hW hn ⟨r1, r2, rfl, hx, sta_is al S, hz⟩
  exact ⟨v, B, X', ⟨[], ⟨hv, rfl, hh⟩, hl, hk, hs⟩, st⟩
end StrChars.Road
namespace StrChars.Road
open Jvm Sem ClassFile Op Lib Jvm.Stand Jvm.Free Jvm.Free.XT
open Jvm.Lib.Cold (StaticIs)
/-- what backV says of its String, as the contracts of this text ask it: cs's low bytes, coder 0 -/
theorem codOf {cs : List Int32} {n : Nat} (hn : cs.length = n) (hb : ∀ c ∈ cs, ¬ 255 < c) : CodA cs 0 (Int32.ofNat n) ((cs.map lo8).map Value.int) := Or.inl ⟨rfl, by rw [hn], by simp [List.map_map, Function.comp_def], hb⟩
end StrChars.Road
end Jvm.Pilot.@@N@@


namespace Jvm.Pilot.@@N@@
open Jvm Jvm.ClassFile Sem Op Lib Jvm.Free Jvm.Stand Jvm.LawKit Jvm.RoadKit Bundle Jvm.Pilot.@@N@@.Jvm.D
def own_Go (tb : Tables) (e : Env) (below : List Frame) (P : Outcome → State → Prop) (U : State) : Prop := ∃ s₂ o, Steps tb e below U s₂ ∧ s₂.status = .running ∧ Ended s₂ below o ∧ P o s₂
theorem own_Go.st {tb : Tables} {e : Env} {below : List Frame} {P : Outcome → State → Prop} {U U' : State} (h : ∀ t, Steps tb e below U' t → Steps tb e below U t) (k : own_Go tb e below P U') : own_Go tb e below P U := by
  obtain ⟨t, o, a, r⟩ := k
  exact ⟨t, o, h t a, r⟩
theorem own_Go.tr {tb : Tables} {e : Env} {below : List Frame} {P : Outcome → State → Prop} {U U' : State} (h : Steps tb e below U U') (k : own_Go tb e below P U') : own_Go tb e below P U := own_Go.st (fun _ a => h.trans a) k
section OwnRet
variable {p : Program} {l : Launch} {e : Env} {R : Room} {s : State} {m : MethodId} {args : Array Value} {below : List Frame} {meth : Method} {c : Code} {T : State} {locs : List Loc} {cells slots : Nat}
theorem own_retI (X : Stand p l e R s m args below meth c T locs cells slots) (hx : p.tables.exec = Jvm.exec) {pc : Nat} {Ls : Array Slot} {z : Int32} {rest : List Value} (hret : meth.sig.returnType = some .int) (hd : decode c.code pc = .ok (.ireturn, 1)) {fs : List Frame}
    (hl : ∀ (f : JFrame) (acts : List Action), f.method = m → f.locked = none → f.entered = [] → (doReturn e (T.setTop f) acts (some (.int z))).1 = T.setFrames fs) : Steps p.tables e below (T.setTop (mkF m pc Ls (.int z :: rest))) (T.setFrames fs) :=
  retOut X hx hret rfl (Or.inl ⟨rfl, Or.inl rfl, z, rfl⟩) hd hl
theorem own_retL (X : Stand p l e R s m args below meth c T locs cells slots) (hx : p.tables.exec = Jvm.exec) {pc : Nat} {Ls : Array Slot} {z : Int64} {rest : List Value} (hret : meth.sig.returnType = some .long) (hd : decode c.code pc = .ok (.lreturn, 1)) {fs : List Frame}
    (hl : ∀ (f : JFrame) (acts : List Action), f.method = m → f.locked = none → f.entered = [] → (doReturn e (T.setTop f) acts (some (.long z))).1 = T.setFrames fs) : Steps p.tables e below (T.setTop (mkF m pc Ls (.long z :: rest))) (T.setFrames fs) :=
  retOut X hx hret rfl (Or.inr (Or.inl ⟨rfl, rfl, z, rfl⟩)) hd hl
theorem own_narRef {t : FieldType} {w : Value} (ht : t.isReference = true) (hw : w.isRef = true) : narrow t w = w := by
  cases t <;> first | rfl | (simp [FieldType.isReference] at ht; done) | (cases w <;> first | rfl | simp [Value.isRef] at hw)
theorem own_retA (X : Stand p l e R s m args below meth c T locs cells slots) (hx : p.tables.exec = Jvm.exec) {pc : Nat} {Ls : Array Slot} {w : Value} {t : FieldType} {rest : List Value} (hret : meth.sig.returnType = some t) (ht : t.isReference = true) (hw : w.isRef = true) (hd : decode c.code pc = .ok (.areturn, 1)) {fs : List Frame}
    (hl : ∀ (f : JFrame) (acts : List Action), f.method = m → f.locked = none → f.entered = [] → (doReturn e (T.setTop f) acts (some w)).1 = T.setFrames fs) : Steps p.tables e below (T.setTop (mkF m pc Ls (w :: rest))) (T.setFrames fs) :=
  retOut X hx hret (own_narRef ht hw) (Or.inr (Or.inr (Or.inr (Or.inr ⟨rfl, ht, hw⟩)))) hd hl
end OwnRet
theorem own_nar {x : Int32} (h : ¬ x < 0 ∧ ¬ (65535 : Int32) < x) : nar .char x = x := by
  have q := c_i2c x
  have h1 := h.1; have h2 := h.2
  rw [Int32.lt_iff_toInt_lt] at h1 h2
  have e1 : (0 : Int32).toInt = 0 := by decide
  have e2 : (65535 : Int32).toInt = 65535 := by decide
  rw [e1] at h1; rw [e2] at h2
  show x.toUInt32.toUInt16.toUInt32.toInt32 = x
  apply Int32.toInt_inj.mp
  omega
theorem own_up {x : Int32} (h : ¬ x < 0 ∧ ¬ (255 : Int32) < x) : ¬ x < 0 ∧ ¬ (65535 : Int32) < x := by
  refine ⟨h.1, fun q => h.2 ?_⟩
  rw [Int32.lt_iff_toInt_lt] at q ⊢
  have e1 : (255 : Int32).toInt = 255 := by decide
  have e2 : (65535 : Int32).toInt = 65535 := by decide
  omega
theorem own_arvTy {Z : State} {h : Heap} {a b : Addr} {k k' : ClassId} {ty ty' : FieldType} {n n' : Int32} {vs vs' : List Value} {d d' : Value} (A : Arv Z h a k ty n vs d) (B : Arv Z h b k' ty' n' vs' d') (ht : ty ≠ ty') : a ≠ b := fun q => by
  subst q
  obtain ⟨c, C, -⟩ := A
  obtain ⟨c', C', -⟩ := B
  cases C.1.symm.trans C'.1
  obtain ⟨-, k1, j1, cp1, j2⟩ := C.2.1
  obtain ⟨-, k2, i1, cp2, i2⟩ := C'.2.1
  cases j1.symm.trans i1
  rw [j2] at i2
  cases i2
  exact ht rfl


def own_Str (Z : State) (h : Heap) (x t : Addr) (cs : List Int32) : Prop := ∃ (kb : ClassId) (cd N2 : Int32) (vs : List Value), Exa Z h x "java/lang/String" ∧ Fld Z h x "java/lang/String" "value" "[B" (.ref t) ∧ Fld Z h x "java/lang/String" "coder" "B" (.int cd) ∧ Arv Z h t kb .byte N2 vs (.int 0) ∧ StrChars.Road.CodA cs cd N2 vs ∧ (∀ c ∈ cs, ¬ c < 0 ∧ ¬ (65535 : Int32) < c) ∧ cs.length ≤ 4000
section OwnStr
variable {Z : State} {h h' : Heap} {x t a : Addr} {cs : List Int32} {sl : Nat} {v : Value} {ws : List Addr}
theorem own_Str.ext (F : own_Str Z h x t cs) (E : Ext h h') : own_Str Z h' x t cs := by
  obtain ⟨kb, cd, N2, vs, h1, h2, h3, h4, r⟩ := F
  exact ⟨kb, cd, N2, vs, h1.ext E, h2.ext E, h3.ext E, h4.ext E, r⟩
theorem own_Str.other (F : own_Str Z h x t cs) (W : Wr h h' a sl v) (n1 : x ≠ a) (n2 : t ≠ a) : own_Str Z h' x t cs := by
  obtain ⟨kb, cd, N2, vs, h1, h2, h3, h4, r⟩ := F
  exact ⟨kb, cd, N2, vs, h1.wr W, h2.other W (Or.inl n1), h3.other W (Or.inl n1), h4.other W n2, r⟩
theorem own_Str.keep (F : own_Str Z h x t cs) (K : Keep h h' ws) (n1 : x ∉ ws) (n2 : t ∉ ws) : own_Str Z h' x t cs := by
  obtain ⟨kb, cd, N2, vs, h1, h2, h3, h4, r⟩ := F
  exact ⟨kb, cd, N2, vs, h1.keep K, h2.keep K n1, h3.keep K n1, h4.keep K n2, r⟩
theorem own_Str.exa (F : own_Str Z h x t cs) : Exa Z h x "java/lang/String" := by obtain ⟨kb, cd, N2, vs, h1, -⟩ := F; exact h1
theorem own_Str.lt (F : own_Str Z h x t cs) : x < h.size := F.exa.lt
theorem own_Str.ltv (F : own_Str Z h x t cs) : t < h.size := by obtain ⟨kb, cd, N2, vs, -, -, -, h4, -⟩ := F; exact h4.lt
theorem own_Str.le (F : own_Str Z h x t cs) : cs.length ≤ 4000 := by obtain ⟨kb, cd, N2, vs, -, -, -, -, -, -, h⟩ := F; exact h
theorem own_Str.rng (F : own_Str Z h x t cs) : ∀ c ∈ cs, ¬ c < 0 ∧ ¬ (65535 : Int32) < c := by obtain ⟨kb, cd, N2, vs, -, -, -, -, -, h, -⟩ := F; exact h
theorem own_Str.neArv {b : Addr} {k : ClassId} {ty : FieldType} {n : Int32} {us : List Value} {d : Value} {a0 : Array Value} {kI : Nat} (F : own_Str Z h x t cs) (B : Arv Z h b k ty n us d) (wi : (Jvm.Cond.instantiable "java/lang/String" kI).before a0 Z = true) : x ≠ b := F.exa.neArv B wi
theorem own_Str.neTy {b : Addr} {k : ClassId} {ty : FieldType} {n : Int32} {us : List Value} {d : Value} (F : own_Str Z h x t cs) (B : Arv Z h b k ty n us d) (ht : .byte ≠ ty) : t ≠ b := by
  obtain ⟨kb, cd, N2, vs, -, -, -, h4, -⟩ := F
  exact own_arvTy h4 B ht
end OwnStr


theorem own_a0 {P : Int32 → Prop} : ∀ c ∈ ([] : List Int32), P c := fun _ q => nomatch q
theorem own_aS {P : Int32 → Prop} {x : Int32} {L : List Int32} (h : P x) (r : ∀ c ∈ L, P c) : ∀ c ∈ x :: L, P c := fun c q => (List.mem_cons.mp q).elim (fun u => u ▸ h) (r c)
theorem own_upL {cs : List Int32} (h : ∀ c ∈ cs, ¬ c < 0 ∧ ¬ (255 : Int32) < c) : ∀ c ∈ cs, ¬ c < 0 ∧ ¬ (65535 : Int32) < c := fun c q => own_up (h c q)


theorem own_Str.lat {Z : State} {h : Heap} {x t : Addr} {cs : List Int32} (F : own_Str Z h x t cs) (hl : ∀ c ∈ cs, ¬ (255 : Int32) < c) : ∃ (kb : ClassId) (N2 : Int32) (vs : List Value), Exa Z h x "java/lang/String" ∧ Fld Z h x "java/lang/String" "value" "[B" (.ref t) ∧ Fld Z h x "java/lang/String" "coder" "B" (.int 0) ∧ Arv Z h t kb .byte N2 vs (.int 0) ∧ StrChars.Road.CodA cs 0 N2 vs := by
  obtain ⟨kb, cd, N2, vs, h1, h2, h3, h4, h5, -⟩ := F
  rcases h5 with ⟨rfl, a, b, c⟩ | ⟨-, -, -, c, hc, q⟩
  · exact ⟨kb, N2, vs, h1, h2, h3, h4, Or.inl ⟨rfl, a, b, c⟩⟩
  · exact absurd q (hl c hc)


theorem own_eqv {v : Option Value} {A : Prop} (h : (v = some (.int 1) ∧ A) ∨ (v = some (.int 0) ∧ ¬ A)) : ∃ r : Int32, v = some (.int r) ∧ ((r = 1 ∧ A) ∨ (r = 0 ∧ ¬ A)) := by
  rcases h with ⟨a, b⟩ | ⟨a, b⟩
  · exact ⟨1, a, Or.inl ⟨rfl, b⟩⟩
  · exact ⟨0, a, Or.inr ⟨rfl, b⟩⟩

theorem own_hws {a0 : Array Value} {Z : State} (hw : ∀ d ∈ tables_1, d.before a0 Z = true) : ∀ d ∈ StrChars.Road.words, d.before a0 Z = true := fun d hd => hw d ((by decide +kernel : ∀ d ∈ StrChars.Road.words, d ∈ tables_1) d hd)
theorem own_hln {a0 : Array Value} {Z : State} (hw : ∀ d ∈ tables_1, d.before a0 Z = true) : ∀ d ∈ StrChars.Road.wordsLen, d.before a0 Z = true := fun d hd => hw d ((by decide +kernel : ∀ d ∈ StrChars.Road.wordsLen, d ∈ tables_1) d hd)

theorem own_wS {a0 : Array Value} {Z : State} (hw : ∀ d ∈ tables_1, d.before a0 Z = true) : ∀ d ∈ Bundle.stringAtoms, d.before a0 Z = true := fun d hd => hw d ((by decide +kernel : ∀ d ∈ Bundle.stringAtoms, d ∈ tables_1) d hd)
theorem own_safeNull {Z : State} {EL : List (String × Nat)} {vm : Vm} {h : Heap} {x : Addr} (hal : Z.vm.Alike vm) (E : Exa Z h x "java/lang/String") (F : Fld Z h x "java/lang/String" "value" "[B" .null) : Safe Z EL vm h x := fun B => by
  obtain ⟨p, -, u, a, -, q, -, G, hx | hx⟩ := B
  · obtain ⟨cS, ⟨S1, -, -⟩, -⟩ := G
    obtain ⟨g1, -, -, ⟨c', k', i', g2, -⟩, -, -, -, g3, -⟩ := S1
    obtain ⟨cell, cf, k, i, f, e1, e2, -, -, -, -, e3⟩ := F
    obtain ⟨k2, g4⟩ := ff_back (U := Wst Z vm h) hal g2
    rw [hx] at e1
    have e4 : cell = q.sC := Option.some.inj (e1.symm.trans g1)
    have e5 : f = q.fSV := by
      have e6 := Option.some.inj (e2.symm.trans g4)
      simp only [Prod.mk.injEq] at e6
      exact e6.2.2.2
    rw [e4, e5, g3] at e3
    cases e3
  · have hd := G.hd
    obtain ⟨cS, -, -, f, -⟩ := G
    obtain ⟨cell, k, e1, e2, -⟩ := E
    rw [hx] at e1
    have e4 : cell = q.SA := Option.some.inj (e1.symm.trans hd)
    have f' : Z.vm.findClass "[B" = some q.SA.cls := by rw [← hal.findClass]; exact f
    rw [e4] at e2
    obtain ⟨k1, q1, q2⟩ := Vm.findClass_spec f'
    obtain ⟨k2, q3, q4⟩ := Vm.findClass_spec e2
    cases q1.symm.trans q3
    exact absurd (q2.symm.trans q4) (by decide)

theorem pn_0 : plainName "java/lang/String" = true := by first | (simp [plainName, overriddenIn]; done) | decide +kernel
theorem ef_1 (m : MethodId) (x0 : Nat) (x1 : Nat) (x2 : Int32) (x3 : Int32) : entryFrame m #[(.ref x0), (.ref x1), (.int x2), (.int x3), .null] 6 = mkF m 0 #[.val (.ref x0), .val (.ref x1), .val (.int x2), .val (.int x3), .val .null, .unset] [] := by first | (simp [entryFrame, mkF, argsToLocals, Value.category]; done) | rfl
theorem d_jdk_42_method_149_0 : decode jdk_42_method_149_code 0 = .ok (.aload_n 0, 1) := by decide +kernel
theorem d_jdk_42_method_149_1 : decode jdk_42_method_149_code 1 = .ok (.invokespecial 1, 3) := by decide +kernel
theorem d_jdk_42_method_149_4 : decode jdk_42_method_149_code 4 = .ok (.iload_n 3, 1) := by decide +kernel
theorem d_jdk_42_method_149_5 : decode jdk_42_method_149_code 5 = .ok (.ifCond .ne 22, 3) := by decide +kernel
theorem d_jdk_42_method_149_8 : decode jdk_42_method_149_code 8 = .ok (.aload_n 0, 1) := by decide +kernel
theorem d_jdk_42_method_149_9 : decode jdk_42_method_149_code 9 = .ok (.ldc 7, 2) := by decide +kernel
theorem d_jdk_42_method_149_11 : decode jdk_42_method_149_code 11 = .ok (.getfield 9, 3) := by decide +kernel
theorem d_jdk_42_method_149_14 : decode jdk_42_method_149_code 14 = .ok (.putfield 9, 3) := by decide +kernel
theorem d_jdk_42_method_149_17 : decode jdk_42_method_149_code 17 = .ok (.aload_n 0, 1) := by decide +kernel
theorem d_jdk_42_method_149_18 : decode jdk_42_method_149_code 18 = .ok (.ldc 7, 2) := by decide +kernel
theorem d_jdk_42_method_149_20 : decode jdk_42_method_149_code 20 = .ok (.getfield 15, 3) := by decide +kernel
theorem d_jdk_42_method_149_23 : decode jdk_42_method_149_code 23 = .ok (.putfield 15, 3) := by decide +kernel
theorem d_jdk_42_method_149_26 : decode jdk_42_method_149_code 26 = .ok (.return_, 1) := by decide +kernel
def Q_init4e (Z : State) (a1 : Nat) (a2 : Nat) (h0 : Heap) (v : Option Value) (h : Heap) (L : List Loc) : Prop := ∃ (t : Nat), v = none ∧ Fr Z.heap.size L ∧ Keep h0 h [a1] ∧ own_Str Z h a1 t []
set_option maxRecDepth 65536 in
set_option maxHeartbeats 40000000 in
theorem rm_init4e (l : Launch) (Z : State) (a0 : Array Value) (hw : ∀ d ∈ tables_1, d.before a0 Z = true) (ws : List Jvm.Cond) (a1 : Nat) (a2 : Nat) (h0 : Heap) (hEL : EW Z a0 consts_1) (OL : Old Z Z.heap.size h0) (p0_ : Exa Z h0 a1 "java/lang/String") (p1_ : Fld Z h0 a1 "java/lang/String" "value" "[B" .null) (p2_ : Fld Z h0 a1 "java/lang/String" "coder" "B" (.int (0 : Int32))) (hn0 : Z.heap.size ≤ a1) :
    MetFree l (⟨"java/lang/String", "<init>", "([CIILjava/lang/Void;)V"⟩ : MethodName) (head1 (Jvm.Cond.code (⟨"java/lang/String", "<init>", "([CIILjava/lang/Void;)V"⟩ : MethodName) jdk_42_method_149_code 6 none :: ws) ({ frames := 1, cells := 4, slots := 8, locals := 12 } : Room)) (fun a U => a = #[(.ref a1), (.ref a2), (.int (0 : Int32)), (.int (0 : Int32)), .null] ∧ Z.Warmed39 U.vm ∧ U.heap = h0 ∧ CHv Z consts_1 U.vm h0) (fun _ _ _ _ _ => True) (fun _ U o U' => ∃ v L, o = .returned v ∧ Q_init4e Z a1 a2 h0 v U'.heap L ∧ CHr Z consts_1 U.vm U.heap U'.vm U'.heap ∧ ReturnedEndW U o U' L ({ frames := 1, cells := 4, slots := 8, locals := 12 } : Room).cells ({ frames := 1, cells := 4, slots := 8, locals := 12 } : Room).slots) := by
  refine MetFree.of_bodySF (plainFor_of_name pn_0) hisR ?_
  intro p e s m args below meth c s₁ Bd hml0 hP hK
  obtain ⟨rfl, hZ, hh, hC0⟩ := hP
  have hx := Bd.exec
  have hby := Bd.bytes
  have hml : c.maxLocals = 6 := hml0
  have hown : s.vm.findClass "java/lang/String" = some m.cls := findClass_of_methodNamed Bd.named
  have hnm := (name_of_methodNamed Bd.named Bd.method).1
  have X0 : Stand p l e ({ frames := 1, cells := 4, slots := 8, locals := 12 } : Room) (s.setVm s.vm) m #[(.ref a1), (.ref a2), (.int (0 : Int32)), (.int (0 : Int32)), .null] below meth c s₁ [] 0 0 := Stand.of_body Bd
  have e0 : s₁.heap = h0 := by rw [← hh, Bd.state]; rfl
  have N0 := Fr.nil Z.heap.size
  have Z0 : Z.heap.size ≤ h0.size := OL.2.1
  have hS0 : s.Since s.vm h0.size := (State.WarmedH.refl s).since _
  have wS := own_wS hw
  have R0 : CHr Z consts_1 s.vm h0 s.vm h0 := CHr.refl hC0
  have lt_0 : @LT.lt Nat _ a1 h0.size := p0_.lt
  have lt_1 : @LT.lt Nat _ a1 h0.size := p1_.lt
  have lt_2 : @LT.lt Nat _ a1 h0.size := p2_.lt
  obtain ⟨PP, hPP⟩ : ∃ PP : Outcome → State → Prop, PP = (fun o tE => ∃ v L, o = .returned v ∧ Q_init4e Z a1 a2 h0 v tE.heap L ∧ CHr Z consts_1 s.vm s.heap tE.vm tE.heap ∧ ReturnedEndW s o tE L ({ frames := 1, cells := 4, slots := 8, locals := 12 } : Room).cells ({ frames := 1, cells := 4, slots := 8, locals := 12 } : Room).slots) := ⟨_, rfl⟩
  show own_Go p.tables e below (fun o tE => ∃ v L, o = .returned v ∧ Q_init4e Z a1 a2 h0 v tE.heap L ∧ CHr Z consts_1 s.vm s.heap tE.vm tE.heap ∧ ReturnedEndW s o tE L ({ frames := 1, cells := 4, slots := 8, locals := 12 } : Room).cells ({ frames := 1, cells := 4, slots := 8, locals := 12 } : Room).slots) (s₁.setTop (entryFrame m #[(.ref a1), (.ref a2), (.int (0 : Int32)), (.int (0 : Int32)), .null] 6))
  rw [← hPP]
  refine own_Go.st (fun t k => castTop (ef_1 m a1 a2 (0 : Int32) (0 : Int32)) k) ?_
  show own_Go _ _ _ _ (s₁.setTop (mkF m 0 #[.val (.ref a1), .val (.ref a2), .val (.int (0 : Int32)), .val (.int (0 : Int32)), .val .null, .unset] []))
  refine own_Go.st (fun _ k => XS.aloadN X0.here hx rfl (hb hby d_jdk_42_method_149_0) rfl rfl k) ?_
  show own_Go _ _ _ _ (s₁.setTop (mkF m 1 #[.val (.ref a1), .val (.ref a2), .val (.int (0 : Int32)), .val (.int (0 : Int32)), .val .null, .unset] [(.ref a1)]))
  obtain ⟨T101, X101, e101, st101⟩ := initO X0 hx hZ hown (hw _ (List.mem_of_getElem? (i := 21) rfl)) (hw _ (List.mem_of_getElem? (i := 22) rfl)) (hw _ (List.mem_of_getElem? (i := 23) rfl)) e0 (g := (mkF m 1 #[.val (.ref a1), .val (.ref a2), .val (.int (0 : Int32)), .val (.int (0 : Int32)), .val .null, .unset] [(.ref a1)])) rfl (by rw [hml]; rfl) rfl (hb hby d_jdk_42_method_149_1) (by decide) (W := 0) (by show 2 * 0 + _ ≤ _; exact Nat.le_of_eq rfl) (by decide)
  refine own_Go.st st101 ?_
  show own_Go _ _ _ _ (T101.setTop (mkF m 4 #[.val (.ref a1), .val (.ref a2), .val (.int (0 : Int32)), .val (.int (0 : Int32)), .val .null, .unset] []))
  refine own_Go.st (fun _ k => XS.iloadN X101.here hx rfl (hb hby d_jdk_42_method_149_4) rfl k) ?_
  show own_Go _ _ _ _ (T101.setTop (mkF m 5 #[.val (.ref a1), .val (.ref a2), .val (.int (0 : Int32)), .val (.int (0 : Int32)), .val .null, .unset] [(.int (0 : Int32))]))
  refine own_Go.st (fun _ k => XS.ifNo X101.here hx rfl (hb hby d_jdk_42_method_149_5) rfl ((if0 _ _).trans (teq (rfl : (0 : Int32) = (0 : Int32))).2) k) ?_
  show own_Go _ _ _ _ (T101.setTop (mkF m 8 #[.val (.ref a1), .val (.ref a2), .val (.int (0 : Int32)), .val (.int (0 : Int32)), .val .null, .unset] []))
  refine own_Go.st (fun _ k => XS.aloadN X101.here hx rfl (hb hby d_jdk_42_method_149_8) rfl rfl k) ?_
  show own_Go _ _ _ _ (T101.setTop (mkF m 9 #[.val (.ref a1), .val (.ref a2), .val (.int (0 : Int32)), .val (.int (0 : Int32)), .val .null, .unset] [(.ref a1)]))
  obtain ⟨a102, T102, h102, kk102, t102, kb102, X102, e102, E102, hS102, hk102, hZ102, hown102, A102, C102, V102, B102, la102, lb102, ch102, Li102, sf102, st102⟩ := ldcCH X101 hx hZ hown (hw _ (List.mem_of_getElem? (i := 132) rfl)) wS e101 hS0 (by omega) hEL (by decide) R0.1 (vs := []) (z := (0 : Int32)) (by decide) (by decide) (by decide) (g := (mkF m 9 #[.val (.ref a1), .val (.ref a2), .val (.int (0 : Int32)), .val (.int (0 : Int32)), .val .null, .unset] [(.ref a1)])) rfl (hb hby d_jdk_42_method_149_9) (n := 0) (by decide) (by decide) (by decide) (by decide)
  refine own_Go.st st102 ?_
  have z102 : h0.size ≤ h102.size := E102.1
  have la102' : @LT.lt Nat _ a102 h102.size := la102
  have lb102' : @LT.lt Nat _ t102 h102.size := lb102
  have R102 : CHr Z consts_1 s.vm h0 T102.vm h102 := R0.trans ch102
  have fT102 : own_Str Z h102 a102 t102 ([] : List Int32) := ⟨kb102, 0, (0 : Int32), [], A102, V102, C102, B102, Or.inl ⟨rfl, rfl, rfl, (by decide)⟩, (by decide), (by decide)⟩
  show own_Go _ _ _ _ (T102.setTop (mkF m 11 #[.val (.ref a1), .val (.ref a2), .val (.int (0 : Int32)), .val (.int (0 : Int32)), .val .null, .unset] [(.ref a102), (.ref a1)]))
  obtain ⟨T103, X103, e103, st103⟩ := getF X102 hx hZ102 hown102 (host := "") (Or.inl (hw _ (List.mem_of_getElem? (i := 57) rfl))) Via.refl e102 V102 (g := (mkF m 11 #[.val (.ref a1), .val (.ref a2), .val (.int (0 : Int32)), .val (.int (0 : Int32)), .val .null, .unset] [(.ref a102), (.ref a1)])) rfl rfl (hb hby d_jdk_42_method_149_11)
  refine own_Go.st st103 ?_
  show own_Go _ _ _ _ (T103.setTop (mkF m 14 #[.val (.ref a1), .val (.ref a2), .val (.int (0 : Int32)), .val (.int (0 : Int32)), .val .null, .unset] [(.ref t102), (.ref a1)]))
  have f104 : Fld Z h102 a1 "java/lang/String" "value" "[B" .null := p1_.ext E102
  have f105 : Exa Z h102 a1 "java/lang/String" := p0_.ext E102
  obtain ⟨T106, h106, X106, e106, W106, st106⟩ := putF X103 hx hZ102 hown102 (host := "") (Or.inl (hw _ (List.mem_of_getElem? (i := 57) rfl))) Via.refl e103 f104 f105 (Or.inr ⟨(hw _ (List.mem_of_getElem? (i := 58) rfl)), rfl, hnm⟩) (hw _ (List.mem_of_getElem? (i := 11) rfl)) (ty := (.array .byte)) (by decide) rfl rfl (g := (mkF m 14 #[.val (.ref a1), .val (.ref a2), .val (.int (0 : Int32)), .val (.int (0 : Int32)), .val .null, .unset] [(.ref t102), (.ref a1)])) rfl rfl (hb hby d_jdk_42_method_149_14)
  refine own_Go.st st106 ?_
  have N106 := Fr.snoc X106 N0 (by omega)
  have Sf108 : Safe Z consts_1 T102.vm h102 a1 := own_safeNull hZ102.alike f105 f104
  have z106 : h102.size ≤ h106.size := Nat.le_of_eq W106.size.symm
  have f107 : Fld Z h106 a1 "java/lang/String" "value" "[B" (.ref t102) := f104.same W106
  have R106 : CHr Z consts_1 s.vm h0 T102.vm h106 := R102.trans (CHr.wr W106 Sf108 R102.1)
  have Sf109 : Safe Z consts_1 T102.vm h106 a1 := Safe.wr W106 Sf108 R102.1 Sf108
  show own_Go _ _ _ _ (T106.setTop (mkF m 17 #[.val (.ref a1), .val (.ref a2), .val (.int (0 : Int32)), .val (.int (0 : Int32)), .val .null, .unset] []))
  refine own_Go.st (fun _ k => XS.aloadN X106.here hx rfl (hb hby d_jdk_42_method_149_17) rfl rfl k) ?_
  show own_Go _ _ _ _ (T106.setTop (mkF m 18 #[.val (.ref a1), .val (.ref a2), .val (.int (0 : Int32)), .val (.int (0 : Int32)), .val .null, .unset] [(.ref a1)]))
  obtain ⟨a110, T110, h110, kk110, t110, kb110, X110, e110, E110, hS110, hk110, hZ110, hown110, A110, C110, V110, B110, la110, lb110, ch110, Li110, sf110, st110⟩ := ldcCH X106 hx hZ102 hown102 (hw _ (List.mem_of_getElem? (i := 132) rfl)) wS e106 hS102 (by omega) hEL (by decide) R106.1 (vs := []) (z := (0 : Int32)) (by decide) (by decide) (by decide) (g := (mkF m 18 #[.val (.ref a1), .val (.ref a2), .val (.int (0 : Int32)), .val (.int (0 : Int32)), .val .null, .unset] [(.ref a1)])) rfl (hb hby d_jdk_42_method_149_18) (n := 0) (by decide) (by decide) (by decide) (by decide)
  refine own_Go.st st110 ?_
  have z110 : h106.size ≤ h110.size := E110.1
  have la110' : @LT.lt Nat _ a110 h110.size := la110
  have lb110' : @LT.lt Nat _ t110 h110.size := lb110
  have R110 : CHr Z consts_1 s.vm h0 T110.vm h110 := R106.trans ch110
  have Sf111 : Safe Z consts_1 T110.vm h110 a1 := ch110.safe (by show @LT.lt Nat _ a1 _; omega) Sf109
  have fT110 : own_Str Z h110 a110 t110 ([] : List Int32) := ⟨kb110, 0, (0 : Int32), [], A110, V110, C110, B110, Or.inl ⟨rfl, rfl, rfl, (by decide)⟩, (by decide), (by decide)⟩
  show own_Go _ _ _ _ (T110.setTop (mkF m 20 #[.val (.ref a1), .val (.ref a2), .val (.int (0 : Int32)), .val (.int (0 : Int32)), .val .null, .unset] [(.ref a110), (.ref a1)]))
  obtain ⟨T112, X112, e112, st112⟩ := getF X110 hx hZ110 hown110 (host := "") (Or.inl (hw _ (List.mem_of_getElem? (i := 55) rfl))) Via.refl e110 C110 (g := (mkF m 20 #[.val (.ref a1), .val (.ref a2), .val (.int (0 : Int32)), .val (.int (0 : Int32)), .val .null, .unset] [(.ref a110), (.ref a1)])) rfl rfl (hb hby d_jdk_42_method_149_20)
  refine own_Go.st st112 ?_
  show own_Go _ _ _ _ (T112.setTop (mkF m 23 #[.val (.ref a1), .val (.ref a2), .val (.int (0 : Int32)), .val (.int (0 : Int32)), .val .null, .unset] [(.int 0), (.ref a1)]))
  have f113 : Fld Z h102 a1 "java/lang/String" "coder" "B" (.int (0 : Int32)) := p2_.ext E102
  have f114 : Fld Z h106 a1 "java/lang/String" "coder" "B" (.int (0 : Int32)) := f113.other W106 (Or.inr (slot_ne (Or.inr (hw _ (List.mem_of_getElem? (i := 56) rfl))) (Or.inr (hw _ (List.mem_of_getElem? (i := 58) rfl))) (by decide) (t := .byte) (t' := (.array .byte)) (by decide) (by decide)))
  have f115 : Fld Z h110 a1 "java/lang/String" "coder" "B" (.int (0 : Int32)) := f114.ext E110
  have f116 : Exa Z h106 a1 "java/lang/String" := f105.wr W106
  have f117 : Exa Z h110 a1 "java/lang/String" := f116.ext E110
  obtain ⟨T118, h118, X118, e118, W118, st118⟩ := putF X112 hx hZ110 hown110 (host := "") (Or.inl (hw _ (List.mem_of_getElem? (i := 55) rfl))) Via.refl e112 f115 f117 (Or.inr ⟨(hw _ (List.mem_of_getElem? (i := 56) rfl)), rfl, hnm⟩) (hw _ (List.mem_of_getElem? (i := 11) rfl)) (ty := .byte) (by decide) rfl (by decide) (g := (mkF m 23 #[.val (.ref a1), .val (.ref a2), .val (.int (0 : Int32)), .val (.int (0 : Int32)), .val .null, .unset] [(.int 0), (.ref a1)])) rfl rfl (hb hby d_jdk_42_method_149_23)
  refine own_Go.st st118 ?_
  have N118 := Fr.snoc X118 N106 (by omega)
  have z118 : h110.size ≤ h118.size := Nat.le_of_eq W118.size.symm
  have f119 : Fld Z h118 a1 "java/lang/String" "coder" "B" (.int 0) := f115.same W118
  have R118 : CHr Z consts_1 s.vm h0 T110.vm h118 := R110.trans (CHr.wr W118 Sf111 R110.1)
  have Sf120 : Safe Z consts_1 T110.vm h118 a1 := Safe.wr W118 Sf111 R110.1 Sf111
  show own_Go _ _ _ _ (T118.setTop (mkF m 26 #[.val (.ref a1), .val (.ref a2), .val (.int (0 : Int32)), .val (.int (0 : Int32)), .val .null, .unset] []))
  obtain ⟨fs121, hr121, hrun121, hend121, hret121⟩ := X118.leaveW hS110 (by rw [e118]; exact (by omega)) (v := none) (fun _ => rfl)
  have f122 : Fld Z h110 a1 "java/lang/String" "value" "[B" (.ref t102) := f107.ext E110
  have f123 : Fld Z h118 a1 "java/lang/String" "value" "[B" (.ref t102) := f122.other W118 (Or.inr (slot_ne (Or.inr (hw _ (List.mem_of_getElem? (i := 58) rfl))) (Or.inr (hw _ (List.mem_of_getElem? (i := 56) rfl))) (by decide) (t := (.array .byte)) (t' := .byte) (by decide) (by decide)))
  have f124 : Exa Z h118 a1 "java/lang/String" := f117.wr W118
  have ne125 : @Ne Nat a1 t102 := Exa.neArv f105 B102 (hw _ (List.mem_of_getElem? (i := 11) rfl))
  have f126 : Arv Z h106 t102 kb102 .byte (0 : Int32) [] (.int 0) := B102.other W106 (Ne.symm ne125)
  have f127 : Arv Z h110 t102 kb102 .byte (0 : Int32) [] (.int 0) := f126.ext E110
  have f128 : Arv Z h118 t102 kb102 .byte (0 : Int32) [] (.int 0) := f127.other W118 (Ne.symm ne125)
  have K129 : Keep h0 h102 [a1] := (Keep.refl h0 [a1]).ext E102
  have K130 : Keep h0 h106 [a1] := K129.wr W106 (Or.inl (List.mem_of_getElem? (i := 0) rfl))
  have K131 : Keep h0 h110 [a1] := K130.ext E110
  have K132 : Keep h0 h118 [a1] := K131.wr W118 (Or.inl (List.mem_of_getElem? (i := 0) rfl))
  subst hPP
  refine ⟨_, _, X118.returnOut hx Bd.returns (hb hby d_jdk_42_method_149_26) hr121, hrun121, hend121, _, _, rfl, ?_, ?_, hret121.1, hret121.2.1, hret121.2.2.1, hret121.2.2.2.mono (by decide) (by decide)⟩
  · show Q_init4e Z _ _ h0 _ T118.heap _
    rw [e118]
    exact ⟨t102, rfl, N118, K132, ⟨kb102, 0, 0, [], f124, f123, f119, f128, Or.inl ⟨rfl, rfl, rfl, own_a0⟩, own_a0, by decide⟩⟩
  · have hfin := R118.trans (CHv.at X118 hZ110 hEL R118.1)
    rw [← hh] at hfin
    show CHr Z consts_1 s.vm s.heap T118.vm T118.heap
    rw [e118]
    exact hfin
theorem ef_15 (m : MethodId) (x0 : Nat) (x1 : Nat) : entryFrame m #[(.ref x0), (.ref x1)] 2 = mkF m 0 #[.val (.ref x0), .val (.ref x1)] [] := by first | (simp [entryFrame, mkF, argsToLocals, Value.category]; done) | rfl
theorem d_jdk_42_method_3_0 : decode jdk_42_method_3_code 0 = .ok (.aload_n 0, 1) := by decide +kernel
theorem d_jdk_42_method_3_1 : decode jdk_42_method_3_code 1 = .ok (.aload_n 1, 1) := by decide +kernel
theorem d_jdk_42_method_3_2 : decode jdk_42_method_3_code 2 = .ok (.iconst 0, 1) := by decide +kernel
theorem d_jdk_42_method_3_3 : decode jdk_42_method_3_code 3 = .ok (.aload_n 1, 1) := by decide +kernel
theorem d_jdk_42_method_3_4 : decode jdk_42_method_3_code 4 = .ok (.arraylength, 1) := by decide +kernel
theorem d_jdk_42_method_3_5 : decode jdk_42_method_3_code 5 = .ok (.aconst_null, 1) := by decide +kernel
theorem pd_22 : parseMethodDescriptor "([CIILjava/lang/Void;)V" = some ⟨[(.array .char), .int, .int, (.object "java/lang/Void")], none⟩ := by decide +kernel
theorem d_jdk_42_method_3_6 : decode jdk_42_method_3_code 6 = .ok (.invokespecial 27, 3) := by decide +kernel
theorem d_jdk_42_method_3_9 : decode jdk_42_method_3_code 9 = .ok (.return_, 1) := by decide +kernel
def Q_init1e (Z : State) (a1 : Nat) (a2 : Nat) (k : ClassId) (vs : List Value) (d : Value) (h0 : Heap) (v : Option Value) (h : Heap) (L : List Loc) : Prop := ∃ (t : Nat), v = none ∧ Fr Z.heap.size L ∧ Keep h0 h [a1] ∧ own_Str Z h a1 t []
set_option maxRecDepth 65536 in
set_option maxHeartbeats 40000000 in
theorem rm_init1e (l : Launch) (Z : State) (a0 : Array Value) (hw : ∀ d ∈ tables_1, d.before a0 Z = true) (ws : List Jvm.Cond) (a1 : Nat) (a2 : Nat) (k : ClassId) (vs : List Value) (d : Value) (h0 : Heap) (hEL : EW Z a0 consts_1) (OL : Old Z Z.heap.size h0) (p0_ : Exa Z h0 a1 "java/lang/String") (p1_ : Fld Z h0 a1 "java/lang/String" "value" "[B" .null) (p2_ : Fld Z h0 a1 "java/lang/String" "coder" "B" (.int (0 : Int32))) (p3_ : Arv Z h0 a2 k .char (0 : Int32) vs d) (hn0 : Z.heap.size ≤ a1) :
    MetFree l (⟨"java/lang/String", "<init>", "([C)V"⟩ : MethodName) (head1 (Jvm.Cond.code (⟨"java/lang/String", "<init>", "([C)V"⟩ : MethodName) jdk_42_method_3_code 2 none :: ws) ({ frames := 2, cells := 4, slots := 8, locals := 29 } : Room)) (fun a U => a = #[(.ref a1), (.ref a2)] ∧ Z.Warmed39 U.vm ∧ U.heap = h0 ∧ CHv Z consts_1 U.vm h0) (fun _ _ _ _ _ => True) (fun _ U o U' => ∃ v L, o = .returned v ∧ Q_init1e Z a1 a2 k vs d h0 v U'.heap L ∧ CHr Z consts_1 U.vm U.heap U'.vm U'.heap ∧ ReturnedEndW U o U' L ({ frames := 2, cells := 4, slots := 8, locals := 29 } : Room).cells ({ frames := 2, cells := 4, slots := 8, locals := 29 } : Room).slots) := by
  refine MetFree.of_bodySF (plainFor_of_name pn_0) hisR ?_
  intro p e s m args below meth c s₁ Bd hml0 hP hK
  obtain ⟨rfl, hZ, hh, hC0⟩ := hP
  have hx := Bd.exec
  have hby := Bd.bytes
  have hml : c.maxLocals = 2 := hml0
  have hown : s.vm.findClass "java/lang/String" = some m.cls := findClass_of_methodNamed Bd.named
  have hnm := (name_of_methodNamed Bd.named Bd.method).1
  have X0 : Stand p l e ({ frames := 2, cells := 4, slots := 8, locals := 29 } : Room) (s.setVm s.vm) m #[(.ref a1), (.ref a2)] below meth c s₁ [] 0 0 := Stand.of_body Bd
  have e0 : s₁.heap = h0 := by rw [← hh, Bd.state]; rfl
  have N0 := Fr.nil Z.heap.size
  have Z0 : Z.heap.size ≤ h0.size := OL.2.1
  have hS0 : s.Since s.vm h0.size := (State.WarmedH.refl s).since _
  have wS := own_wS hw
  have R0 : CHr Z consts_1 s.vm h0 s.vm h0 := CHr.refl hC0
  have lt_0 : @LT.lt Nat _ a1 h0.size := p0_.lt
  have lt_1 : @LT.lt Nat _ a1 h0.size := p1_.lt
  have lt_2 : @LT.lt Nat _ a1 h0.size := p2_.lt
  have lt_3 : @LT.lt Nat _ a2 h0.size := p3_.lt
  obtain ⟨PP, hPP⟩ : ∃ PP : Outcome → State → Prop, PP = (fun o tE => ∃ v L, o = .returned v ∧ Q_init1e Z a1 a2 k vs d h0 v tE.heap L ∧ CHr Z consts_1 s.vm s.heap tE.vm tE.heap ∧ ReturnedEndW s o tE L ({ frames := 2, cells := 4, slots := 8, locals := 29 } : Room).cells ({ frames := 2, cells := 4, slots := 8, locals := 29 } : Room).slots) := ⟨_, rfl⟩
  show own_Go p.tables e below (fun o tE => ∃ v L, o = .returned v ∧ Q_init1e Z a1 a2 k vs d h0 v tE.heap L ∧ CHr Z consts_1 s.vm s.heap tE.vm tE.heap ∧ ReturnedEndW s o tE L ({ frames := 2, cells := 4, slots := 8, locals := 29 } : Room).cells ({ frames := 2, cells := 4, slots := 8, locals := 29 } : Room).slots) (s₁.setTop (entryFrame m #[(.ref a1), (.ref a2)] 2))
  rw [← hPP]
  refine own_Go.st (fun t k => castTop (ef_15 m a1 a2) k) ?_
  show own_Go _ _ _ _ (s₁.setTop (mkF m 0 #[.val (.ref a1), .val (.ref a2)] []))
  refine own_Go.st (fun _ k => XS.aloadN X0.here hx rfl (hb hby d_jdk_42_method_3_0) rfl rfl k) ?_
  show own_Go _ _ _ _ (s₁.setTop (mkF m 1 #[.val (.ref a1), .val (.ref a2)] [(.ref a1)]))
  refine own_Go.st (fun _ k => XS.aloadN X0.here hx rfl (hb hby d_jdk_42_method_3_1) rfl rfl k) ?_
  show own_Go _ _ _ _ (s₁.setTop (mkF m 2 #[.val (.ref a1), .val (.ref a2)] [(.ref a2), (.ref a1)]))
  refine own_Go.st (fun _ k => XS.iconst X0.here hx rfl (hb hby d_jdk_42_method_3_2) k) ?_
  show own_Go _ _ _ _ (s₁.setTop (mkF m 3 #[.val (.ref a1), .val (.ref a2)] [(.int (0 : Int32)), (.ref a2), (.ref a1)]))
  refine own_Go.st (fun _ k => XS.aloadN X0.here hx rfl (hb hby d_jdk_42_method_3_3) rfl rfl k) ?_
  show own_Go _ _ _ _ (s₁.setTop (mkF m 4 #[.val (.ref a1), .val (.ref a2)] [(.ref a2), (.int (0 : Int32)), (.ref a2), (.ref a1)]))
  obtain ⟨c133, Ar133, q133, S133, Nn133, H133, G133⟩ := id p3_
  refine own_Go.st (X0.arraylength hx (by rw [e0]; exact Ar133.1) (State.isArrayOf_alike hZ.alike Ar133.2.1) (g := (mkF m 4 #[.val (.ref a1), .val (.ref a2)] [(.ref a2), (.int (0 : Int32)), (.ref a2), (.ref a1)])) rfl rfl (hb hby d_jdk_42_method_3_4)) ?_
  rw [len_of S133 Nn133]
  show own_Go _ _ _ _ (s₁.setTop (mkF m 5 #[.val (.ref a1), .val (.ref a2)] [(.int (0 : Int32)), (.int (0 : Int32)), (.ref a2), (.ref a1)]))
  refine own_Go.st (fun _ k => XS.aconstNull X0.here hx rfl (hb hby d_jdk_42_method_3_5) k) ?_
  show own_Go _ _ _ _ (s₁.setTop (mkF m 6 #[.val (.ref a1), .val (.ref a2)] [.null, (.int (0 : Int32)), (.int (0 : Int32)), (.ref a2), (.ref a1)]))
  obtain ⟨_, _, ⟨T134, L134, k134, n134⟩, -, X134, hs134, hg134, ⟨Lc134, hQ134, l134, y134, z134, ch134⟩, st134⟩ := X0.specialBackS hx (y := (⟨"java/lang/String", "<init>", "([CIILjava/lang/Void;)V"⟩ : MethodName)) rfl hown (mvT hZ (hw _ (List.mem_of_getElem? (i := 17) rfl))) (mvT hZ (hw _ (List.mem_of_getElem? (i := 18) rfl))) (mvT hZ (hw _ (List.mem_of_getElem? (i := 20) rfl))) (by decide) (backOfSH (s := s) (vm0 := s.vm) (W := 0) (rm_init4e l Z a0 hw [] a1 a2 h0 hEL OL p0_ p1_ p2_ (by first | assumption | decide)) hZ (hw _ (List.mem_of_getElem? (i := 20) rfl)) (hw _ (List.mem_of_getElem? (i := 12) rfl)) (by decide) (by decide) hEL R0.1) (g := (mkF m 6 #[.val (.ref a1), .val (.ref a2)] [.null, (.int (0 : Int32)), (.int (0 : Int32)), (.ref a2), (.ref a1)])) rfl (by rw [hml]; rfl) (Steps.refl _) (a := a1) (argsL := [(.ref a2), (.int (0 : Int32)), (.int (0 : Int32)), .null]) (rest := []) (lenOf pd_22 rfl) rfl (by show 2 * 0 + _ ≤ _; exact Nat.le_of_eq rfl) (hb hby d_jdk_42_method_3_6) (fun _ _ => ⟨rfl, e0, (by decide : 0 + 4 ≤ _), (by decide : 0 + 8 ≤ _)⟩)
  dsimp only [Pt.U, Pt.locs, Pt.cells, Pt.slots] at X134 l134 y134 z134 st134 hQ134 hs134 hg134 ch134
  subst l134 y134 z134
  obtain ⟨t_134, rfl, N134q, K134, f134_0⟩ := hQ134
  have N134 := Fr.app N0 N134q
  obtain ⟨Y134, hS134, hZ134, hown134⟩ := rebS hS0 (n1 := h0.size) (by omega) X134 hs134 (by have := hg134; first | exact this | (rw [← e0]; exact this)) hZ hown
  have z134 : h0.size ≤ T134.heap.size := K134.1
  have R134 : CHr Z consts_1 s.vm h0 T134.vm T134.heap := R0.trans ch134
  have lt134_0 : @LT.lt Nat _ a1 T134.heap.size := f134_0.lt
  have ltv134_0 : @LT.lt Nat _ t_134 T134.heap.size := f134_0.ltv
  refine own_Go.tr st134 ?_
  show own_Go _ _ _ _ (T134.setTop (mkF m 9 #[.val (.ref a1), .val (.ref a2)] []))
  obtain ⟨fs135, hr135, hrun135, hend135, hret135⟩ := Y134.leaveW hS134 (by omega) (v := none) (fun _ => rfl)
  have K136 : Keep h0 T134.heap [a1] := (Keep.refl h0 [a1]).trans K134 (allS (Or.inl (List.mem_of_getElem? (i := 0) rfl)) all0)
  subst hPP
  refine ⟨_, _, Y134.returnOut hx Bd.returns (hb hby d_jdk_42_method_3_9) hr135, hrun135, hend135, _, _, rfl, ?_, ?_, hret135.1, hret135.2.1, hret135.2.2.1, hret135.2.2.2.mono (by decide) (by decide)⟩
  · show Q_init1e Z _ _ _ _ _ h0 _ T134.heap _
    exact ⟨t_134, rfl, N134, K136, f134_0⟩
  · have hfin := R134.trans (CHv.at Y134 hZ134 hEL R134.1)
    rw [← hh] at hfin
    show CHr Z consts_1 s.vm s.heap T134.vm T134.heap
    exact hfin

theorem own_of {i : Nat} (h : i < 2147483648) : (Int32.ofNat i).toInt = i := Int32.toInt_ofNat_small h
theorem own_ofn {i : Nat} (h : i < 2147483648) : (Int32.ofNat i).toNatClampNeg = i := by
  have := own_of h
  simp only [Int32.toNatClampNeg, this]
  omega
theorem own_of0 {i : Nat} (h : i < 2147483648) : ¬ (Int32.ofNat i) < 0 := by
  have := own_of h
  have e0 : (0 : Int32).toInt = 0 := by decide
  rw [Int32.lt_iff_toInt_lt, this, e0]
  omega
theorem own_oflt {i j : Nat} (hi : i < 2147483648) (hj : j < 2147483648) : (Int32.ofNat i) < (Int32.ofNat j) ↔ i < j := by
  rw [Int32.lt_iff_toInt_lt, own_of hi, own_of hj]
  omega
theorem own_ofS {i : Nat} (h : i < 1073741823) : Int32.ofNat i + (1 : Int32) = Int32.ofNat (i + 1) := by
  apply Int32.toInt_inj.mp
  have a := c_iadd (Int32.ofNat i) 1
  have b := own_of (i := i) (by omega)
  have c := own_of (i := i + 1) (by omega)
  have r := rng32 (Int32.ofNat i + 1)
  have e1 : (1 : Int32).toInt = 1 := by decide
  omega
theorem own_getD {cs : List Int32} {i : Nat} (hi : i < cs.length) (hl : cs.length ≤ 4000) (d : Value) : (cs.map Value.int).getD (Int32.ofNat i).toNatClampNeg d = .int (cs.getD i 0) := by
  rw [own_ofn (by omega)]
  simp [List.getD_eq_getElem?_getD, hi]
theorem own_arvAny {Z : State} {h h' : Heap} {a : Addr} {k : ClassId} {ty : FieldType} {n j : Int32} {vs : List Value} {d v : Value} (F : Arv Z h a k ty n vs d) (hv : fits ty v = true) (hj : ¬ j < 0 ∧ j < n) (W : Wr h h' a j.toNatClampNeg v) : ∃ vs', Arv Z h' a k ty n vs' d := by
  have F' := F.pad (pad_rep vs d (j.toNatClampNeg + 1))
  obtain ⟨c, A, q1, S, q3, H, G⟩ := F'
  exact ⟨_, Arv.set A q1 S q3 H G hv W j.toNatClampNeg rfl (by simp only [List.length_append, List.length_replicate]; omega)⟩


theorem own_shl1 {i : Nat} (h : i < 1000000) : (Int32.ofNat i) <<< ((1 : Int32) &&& 31) = Int32.ofNat (2 * i) := by
  apply Int32.toInt_inj.mp
  have a := c_ishl (Int32.ofNat i) 1 1 (by decide)
  have b := own_of (i := i) (by omega)
  have c := own_of (i := 2 * i) (by omega)
  have r := rng32 (Int32.ofNat i <<< ((1 : Int32) &&& 31))
  omega
theorem own_wlen (cs : List Int32) : (StrChars.Road.wideBytes cs).length = 2 * cs.length := by
  induction cs with
  | nil => rfl
  | cons c r ih => simp only [StrChars.Road.wideBytes, List.length_cons, ih]; omega
theorem own_cfal {i : Nat} (h : 0 < i ∧ i ≤ 4000) : nar .byte ((((Int32.ofNat i - Int32.ofNat (2 * i)).toUInt32 >>> ((31 : Int32) &&& 31).toUInt32).toInt32).toInt8.toInt32) = 1 := by
  have a := c_isub (Int32.ofNat i) (Int32.ofNat (2 * i))
  have b := own_of (i := i) (by omega)
  have c := own_of (i := 2 * i) (by omega)
  have r := rng32 (Int32.ofNat i - Int32.ofNat (2 * i))
  have s := c_iushr (Int32.ofNat i - Int32.ofNat (2 * i)) 31 31 (by decide) (by decide)
  have t := c_i2b (((Int32.ofNat i - Int32.ofNat (2 * i)).toUInt32 >>> ((31 : Int32) &&& 31).toUInt32).toInt32)
  have u := c_i2b ((((Int32.ofNat i - Int32.ofNat (2 * i)).toUInt32 >>> ((31 : Int32) &&& 31).toUInt32).toInt32).toInt8.toInt32)
  apply Int32.toInt_inj.mp
  have e1 : (1 : Int32).toInt = 1 := by decide
  simp only [nar]
  omega
theorem own_i2b2 (x : Int32) : (x.toInt8.toInt32).toInt8.toInt32 = x.toInt8.toInt32 := by simp
theorem own_narB (x : Int32) : nar .byte (x.toInt8.toInt32) = StrChars.lo8 x := by
  show (x.toInt8.toInt32).toInt8.toInt32 = x.toInt8.toInt32
  simp
theorem own_setget {vs : List Value} {i j : Nat} {v d : Value} (h : i < vs.length) : (vs.set i v).getD j d = if i = j then v else vs.getD j d := by
  simp only [List.getD_eq_getElem?_getD, List.getElem?_set]
  split
  · rename_i q; subst q; simp [h]
  · rfl
theorem own_wide (cs : List Int32) (d : Value) : ∀ (vs : List Value), vs.length = 2 * cs.length → (∀ j, j < cs.length → vs.getD (2 * j) d = .int (StrChars.lo8 (cs.getD j 0)) ∧ vs.getD (2 * j + 1) d = .int (StrChars.hi8 (cs.getD j 0))) → vs = StrChars.Road.wideBytes cs := by
  induction cs with
  | nil => intro vs h _; simp at h; subst h; rfl
  | cons c r ih =>
    intro vs h q
    match vs, h with
    | a :: b :: t, h =>
      have q0 := q 0 (by simp)
      have e1 : a = .int (StrChars.lo8 c) := by simpa using q0.1
      have e2 : b = .int (StrChars.hi8 c) := by simpa using q0.2
      have e3 : t = StrChars.Road.wideBytes r := ih t (by simp at h; omega) (fun j hj => by
        have := q (j + 1) (by simp; omega)
        have w1 : 2 * (j + 1) = 2 * j + 1 + 1 := by omega
        rw [w1] at this
        simpa using this)
      rw [e1, e2, e3]
      rfl
    | [a], h => simp at h; omega
    | [], h => simp at h

theorem pn_25 : plainName "java/lang/StringUTF16" = true := by first | (simp [plainName, overriddenIn]; done) | decide +kernel
theorem ef_26 (m : MethodId) (x0 : Nat) (x1 : Int32) (x2 : Nat) (x3 : Int32) (x4 : Int32) : entryFrame m #[(.ref x0), (.int x1), (.ref x2), (.int x3), (.int x4)] 7 = mkF m 0 #[.val (.ref x0), .val (.int x1), .val (.ref x2), .val (.int x3), .val (.int x4), .unset, .unset] [] := by first | (simp [entryFrame, mkF, argsToLocals, Value.category]; done) | rfl
theorem d_jdk_52_method_21_0 : decode jdk_52_method_21_code 0 = .ok (.iconst 0, 1) := by decide +kernel
theorem d_jdk_52_method_21_1 : decode jdk_52_method_21_code 1 = .ok (.istore 5, 2) := by decide +kernel
theorem d_jdk_52_method_21_3 : decode jdk_52_method_21_code 3 = .ok (.iload 5, 2) := by decide +kernel
theorem d_jdk_52_method_21_5 : decode jdk_52_method_21_code 5 = .ok (.iload 4, 2) := by decide +kernel
theorem d_jdk_52_method_21_7 : decode jdk_52_method_21_code 7 = .ok (.if_icmp .ge 37, 3) := by decide +kernel
theorem d_jdk_52_method_21_10 : decode jdk_52_method_21_code 10 = .ok (.aload_n 0, 1) := by decide +kernel
theorem d_jdk_52_method_21_11 : decode jdk_52_method_21_code 11 = .ok (.iload_n 1, 1) := by decide +kernel
theorem d_jdk_52_method_21_12 : decode jdk_52_method_21_code 12 = .ok (.caload, 1) := by decide +kernel
theorem d_jdk_52_method_21_13 : decode jdk_52_method_21_code 13 = .ok (.istore 6, 2) := by decide +kernel
theorem d_jdk_52_method_21_15 : decode jdk_52_method_21_code 15 = .ok (.iload 6, 2) := by decide +kernel
theorem d_jdk_52_method_21_17 : decode jdk_52_method_21_code 17 = .ok (.sipush 255, 3) := by decide +kernel
theorem d_jdk_52_method_21_20 : decode jdk_52_method_21_code 20 = .ok (.if_icmp .le 6, 3) := by decide +kernel
theorem d_jdk_52_method_21_23 : decode jdk_52_method_21_code 23 = .ok (.iload 5, 2) := by decide +kernel
theorem d_jdk_52_method_21_25 : decode jdk_52_method_21_code 25 = .ok (.ireturn, 1) := by decide +kernel
theorem d_jdk_52_method_21_26 : decode jdk_52_method_21_code 26 = .ok (.aload_n 2, 1) := by decide +kernel
theorem d_jdk_52_method_21_27 : decode jdk_52_method_21_code 27 = .ok (.iload_n 3, 1) := by decide +kernel
theorem d_jdk_52_method_21_28 : decode jdk_52_method_21_code 28 = .ok (.iload 6, 2) := by decide +kernel
theorem d_jdk_52_method_21_30 : decode jdk_52_method_21_code 30 = .ok (.i2b, 1) := by decide +kernel
theorem d_jdk_52_method_21_31 : decode jdk_52_method_21_code 31 = .ok (.bastore, 1) := by decide +kernel
theorem d_jdk_52_method_21_32 : decode jdk_52_method_21_code 32 = .ok (.iinc 1 1, 3) := by decide +kernel
theorem d_jdk_52_method_21_35 : decode jdk_52_method_21_code 35 = .ok (.iinc 3 1, 3) := by decide +kernel
theorem d_jdk_52_method_21_38 : decode jdk_52_method_21_code 38 = .ok (.iinc 5 1, 3) := by decide +kernel
theorem d_jdk_52_method_21_41 : decode jdk_52_method_21_code 41 = .ok (.goto (-38), 3) := by decide +kernel
def Q_cmp5 (Z : State) (a1 : Nat) (a3 : Nat) (nn : Int32) (cs : List Int32) (k1 : ClassId) (d1 : Value) (k3 : ClassId) (vs3 : List Value) (d3 : Value) (h0 : Heap) (v : Option Value) (h : Heap) (L : List Loc) : Prop := ∃ (f : Nat), ∃ (vs4 : List Value), v = some (.int (Int32.ofNat f)) ∧ Fr Z.heap.size L ∧ Keep h0 h [a3] ∧ Arv Z h a3 k3 .byte nn vs4 d3 ∧ (f < cs.length) ∧ ((255 : Int32) < cs.getD f 0)
set_option maxRecDepth 65536 in
set_option maxHeartbeats 40000000 in
theorem rm_cmp5 (l : Launch) (Z : State) (a0 : Array Value) (hw : ∀ d ∈ tables_1, d.before a0 Z = true) (ws : List Jvm.Cond) (a1 : Nat) (a3 : Nat) (nn : Int32) (cs : List Int32) (k1 : ClassId) (d1 : Value) (k3 : ClassId) (vs3 : List Value) (d3 : Value) (h0 : Heap) (OL : Old Z Z.heap.size h0) (p0_ : Arv Z h0 a1 k1 .char nn (cs.map Value.int) d1) (p1_ : Arv Z h0 a3 k3 .byte nn vs3 d3) (hnn : nn = Int32.ofNat cs.length) (hle : cs.length ≤ 4000) (hbig : ∃ c ∈ cs, (255 : Int32) < c) (hn0 : Z.heap.size ≤ a3) :
    MetFree l (⟨"java/lang/StringUTF16", "compress", "([CI[BII)I"⟩ : MethodName) (head1 (Jvm.Cond.code (⟨"java/lang/StringUTF16", "compress", "([CI[BII)I"⟩ : MethodName) jdk_52_method_21_code 7 (some .int) :: ws) ({ frames := 0, cells := 0, slots := 0, locals := 0 } : Room)) (fun a U => a = #[(.ref a1), (.int (0 : Int32)), (.ref a3), (.int (0 : Int32)), (.int nn)] ∧ Z.Warmed39 U.vm ∧ U.heap = h0) (fun _ _ _ _ _ => True) (fun _ U o U' => ∃ v L, o = .returned v ∧ Q_cmp5 Z a1 a3 nn cs k1 d1 k3 vs3 d3 h0 v U'.heap L ∧ FrameEnd U o U' L ({ frames := 0, cells := 0, slots := 0, locals := 0 } : Room).cells ({ frames := 0, cells := 0, slots := 0, locals := 0 } : Room).slots) := by
  refine MetFree.of_bodySF (plainFor_of_name pn_25) hisR ?_
  intro p e s m args below meth c s₁ Bd hml0 hP hK
  obtain ⟨rfl, hZ, hh⟩ := hP
  have hx := Bd.exec
  have hby := Bd.bytes
  have hml : c.maxLocals = 7 := hml0
  have hown : s.vm.findClass "java/lang/StringUTF16" = some m.cls := findClass_of_methodNamed Bd.named
  have hnm := (name_of_methodNamed Bd.named Bd.method).1
  have X0 : Stand p l e ({ frames := 0, cells := 0, slots := 0, locals := 0 } : Room) s m #[(.ref a1), (.int (0 : Int32)), (.ref a3), (.int (0 : Int32)), (.int nn)] below meth c s₁ [] 0 0 := Stand.of_body Bd
  have e0 : s₁.heap = h0 := by rw [← hh, Bd.state]; rfl
  have N0 := Fr.nil Z.heap.size
  have Z0 : Z.heap.size ≤ h0.size := OL.2.1
  have lt_0 : @LT.lt Nat _ a1 h0.size := p0_.lt
  have lt_1 : @LT.lt Nat _ a3 h0.size := p1_.lt
  obtain ⟨PP, hPP⟩ : ∃ PP : Outcome → State → Prop, PP = (fun o tE => ∃ v L, o = .returned v ∧ Q_cmp5 Z a1 a3 nn cs k1 d1 k3 vs3 d3 h0 v tE.heap L ∧ FrameEnd s o tE L ({ frames := 0, cells := 0, slots := 0, locals := 0 } : Room).cells ({ frames := 0, cells := 0, slots := 0, locals := 0 } : Room).slots) := ⟨_, rfl⟩
  show own_Go p.tables e below (fun o tE => ∃ v L, o = .returned v ∧ Q_cmp5 Z a1 a3 nn cs k1 d1 k3 vs3 d3 h0 v tE.heap L ∧ FrameEnd s o tE L ({ frames := 0, cells := 0, slots := 0, locals := 0 } : Room).cells ({ frames := 0, cells := 0, slots := 0, locals := 0 } : Room).slots) (s₁.setTop (entryFrame m #[(.ref a1), (.int (0 : Int32)), (.ref a3), (.int (0 : Int32)), (.int nn)] 7))
  rw [← hPP]
  refine own_Go.st (fun t k => castTop (ef_26 m a1 (0 : Int32) a3 (0 : Int32) nn) k) ?_
  show own_Go _ _ _ _ (s₁.setTop (mkF m 0 #[.val (.ref a1), .val (.int (0 : Int32)), .val (.ref a3), .val (.int (0 : Int32)), .val (.int nn), .unset, .unset] []))
  refine own_Go.st (fun _ k => XS.iconst X0.here hx rfl (hb hby d_jdk_52_method_21_0) k) ?_
  show own_Go _ _ _ _ (s₁.setTop (mkF m 1 #[.val (.ref a1), .val (.int (0 : Int32)), .val (.ref a3), .val (.int (0 : Int32)), .val (.int nn), .unset, .unset] [(.int (0 : Int32))]))
  refine own_Go.st (fun _ k => XS.istore X0.here hx rfl (hb hby d_jdk_52_method_21_1) rfl (l' := #[.val (.ref a1), .val (.int (0 : Int32)), .val (.ref a3), .val (.int (0 : Int32)), .val (.int nn), .val (.int (0 : Int32)), .unset]) rfl k) ?_
  show own_Go _ _ _ _ (s₁.setTop (mkF m 3 #[.val (.ref a1), .val (.int (0 : Int32)), .val (.ref a3), .val (.int (0 : Int32)), .val (.int nn), .val (.int (0 : Int32)), .unset] []))
  have LP137 : ∀ (nL : Nat) (i : Nat) (s6 : Slot) (vsL : List Value) (TL137 : State) (hL137 : Heap) (lL137 : List Loc), (i ≤ cs.length) → (One s6) → (∀ j, j < i → ¬ (255 : Int32) < cs.getD j 0) → (Stand p l e ({ frames := 0, cells := 0, slots := 0, locals := 0 } : Room) s m #[(.ref a1), (.int (0 : Int32)), (.ref a3), (.int (0 : Int32)), (.int nn)] below meth c TL137 lL137 0 0) → (TL137.heap = hL137) → (Fr Z.heap.size lL137) → (Keep h0 hL137 [a3]) → (Old Z Z.heap.size hL137) → (Arv Z hL137 a1 k1 .char nn (cs.map Value.int) d1) → (Arv Z hL137 a3 k3 .byte nn vsL d3) → cs.length - i = nL → own_Go p.tables e below PP (TL137.setTop (mkF m 3 #[.val (.ref a1), .val (.int (Int32.ofNat i)), .val (.ref a3), .val (.int (Int32.ofNat i)), .val (.int nn), .val (.int (Int32.ofNat i)), s6] [])) := by
    intro nL
    induction nL using Nat.strongRecOn with
    | _ nL ihL =>
      intro i s6 vsL TL137 hL137 lL137 hi hs6 hlow XL137 eL137 NL137 KL137 OL137 fL137_0 fL137_1 hmL
      have zL137 : h0.size ≤ hL137.size := KL137.1
      have ltL137_0 : @LT.lt Nat _ a1 hL137.size := fL137_0.lt
      have ltL137_1 : @LT.lt Nat _ a3 hL137.size := fL137_1.lt
      refine own_Go.st (fun _ k => XS.iload XL137.here hx rfl (hb hby d_jdk_52_method_21_3) rfl k) ?_
      show own_Go _ _ _ _ (TL137.setTop (mkF m 5 #[.val (.ref a1), .val (.int (Int32.ofNat i)), .val (.ref a3), .val (.int (Int32.ofNat i)), .val (.int nn), .val (.int (Int32.ofNat i)), s6] [(.int (Int32.ofNat i))]))
      refine own_Go.st (fun _ k => XS.iload XL137.here hx rfl (hb hby d_jdk_52_method_21_5) rfl k) ?_
      show own_Go _ _ _ _ (TL137.setTop (mkF m 7 #[.val (.ref a1), .val (.int (Int32.ofNat i)), .val (.ref a3), .val (.int (Int32.ofNat i)), .val (.int nn), .val (.int (Int32.ofNat i)), s6] [(.int nn), (.int (Int32.ofNat i))]))
      by_cases h7 : (Int32.ofNat i) < nn
      ·
        refine own_Go.st (fun _ k => XS.icmpNo XL137.here hx rfl (hb hby d_jdk_52_method_21_7) rfl (tlt h7).2.1 k) ?_
        show own_Go _ _ _ _ (TL137.setTop (mkF m 10 #[.val (.ref a1), .val (.int (Int32.ofNat i)), .val (.ref a3), .val (.int (Int32.ofNat i)), .val (.int nn), .val (.int (Int32.ofNat i)), s6] []))
        have hi7 : i < cs.length := (own_oflt (by omega) (by omega)).mp (hnn ▸ h7)
        refine own_Go.st (fun _ k => XS.aloadN XL137.here hx rfl (hb hby d_jdk_52_method_21_10) rfl rfl k) ?_
        show own_Go _ _ _ _ (TL137.setTop (mkF m 11 #[.val (.ref a1), .val (.int (Int32.ofNat i)), .val (.ref a3), .val (.int (Int32.ofNat i)), .val (.int nn), .val (.int (Int32.ofNat i)), s6] [(.ref a1)]))
        refine own_Go.st (fun _ k => XS.iloadN XL137.here hx rfl (hb hby d_jdk_52_method_21_11) rfl k) ?_
        show own_Go _ _ _ _ (TL137.setTop (mkF m 12 #[.val (.ref a1), .val (.int (Int32.ofNat i)), .val (.ref a3), .val (.int (Int32.ofNat i)), .val (.int nn), .val (.int (Int32.ofNat i)), s6] [(.int (Int32.ofNat i)), (.ref a1)]))
        obtain ⟨c138, Ar138, q138, S138, Nn138, H138, G138⟩ := id fL137_0
        have hin138 : ¬ ((Int32.ofNat i) < 0 ∨ c138.slots.size ≤ ((Int32.ofNat i)).toNatClampNeg) := inb_of S138 ⟨own_of0 (by omega), h7⟩
        have hat138 : c138.slots[((Int32.ofNat i)).toNatClampNeg]? = some (.int (cs.getD i 0)) := H138.at hin138 (own_getD hi7 hle _)
        refine own_Go.st (XL137.caload hx (j := (Int32.ofNat i)) (v := (.int (cs.getD i 0))) (by rw [eL137]; exact Ar138.1) (State.isArrayOf_alike hZ.alike Ar138.2.1) Ar138.2.2 hin138 hat138 (g := (mkF m 12 #[.val (.ref a1), .val (.int (Int32.ofNat i)), .val (.ref a3), .val (.int (Int32.ofNat i)), .val (.int nn), .val (.int (Int32.ofNat i)), s6] [(.int (Int32.ofNat i)), (.ref a1)])) rfl rfl (hb hby d_jdk_52_method_21_12)) ?_
        show own_Go _ _ _ _ (TL137.setTop (mkF m 13 #[.val (.ref a1), .val (.int (Int32.ofNat i)), .val (.ref a3), .val (.int (Int32.ofNat i)), .val (.int nn), .val (.int (Int32.ofNat i)), s6] [(.int (cs.getD i 0))]))
        refine own_Go.st (fun _ k => XS.istoreS XL137.here hx rfl (hb hby d_jdk_52_method_21_13) rfl rfl hs6 k) ?_
        show own_Go _ _ _ _ (TL137.setTop (mkF m 15 #[.val (.ref a1), .val (.int (Int32.ofNat i)), .val (.ref a3), .val (.int (Int32.ofNat i)), .val (.int nn), .val (.int (Int32.ofNat i)), .val (.int (cs.getD i 0))] []))
        refine own_Go.st (fun _ k => XS.iload XL137.here hx rfl (hb hby d_jdk_52_method_21_15) rfl k) ?_
        show own_Go _ _ _ _ (TL137.setTop (mkF m 17 #[.val (.ref a1), .val (.int (Int32.ofNat i)), .val (.ref a3), .val (.int (Int32.ofNat i)), .val (.int nn), .val (.int (Int32.ofNat i)), .val (.int (cs.getD i 0))] [(.int (cs.getD i 0))]))
        refine own_Go.st (fun _ k => XS.sipush XL137.here hx rfl (hb hby d_jdk_52_method_21_17) k) ?_
        show own_Go _ _ _ _ (TL137.setTop (mkF m 20 #[.val (.ref a1), .val (.int (Int32.ofNat i)), .val (.ref a3), .val (.int (Int32.ofNat i)), .val (.int nn), .val (.int (Int32.ofNat i)), .val (.int (cs.getD i 0))] [(.int (255 : Int32)), (.int (cs.getD i 0))]))
        by_cases hc139 : (255 : Int32) < (cs.getD i 0)
        ·
          refine own_Go.st (fun _ k => XS.icmpNo XL137.here hx rfl (hb hby d_jdk_52_method_21_20) rfl (tlt hc139).2.2.2 k) ?_
          show own_Go _ _ _ _ (TL137.setTop (mkF m 23 #[.val (.ref a1), .val (.int (Int32.ofNat i)), .val (.ref a3), .val (.int (Int32.ofNat i)), .val (.int nn), .val (.int (Int32.ofNat i)), .val (.int (cs.getD i 0))] []))
          refine own_Go.st (fun _ k => XS.iload XL137.here hx rfl (hb hby d_jdk_52_method_21_23) rfl k) ?_
          show own_Go _ _ _ _ (TL137.setTop (mkF m 25 #[.val (.ref a1), .val (.int (Int32.ofNat i)), .val (.ref a3), .val (.int (Int32.ofNat i)), .val (.int nn), .val (.int (Int32.ofNat i)), .val (.int (cs.getD i 0))] [(.int (Int32.ofNat i))]))
          obtain ⟨fs140, hr140, hrun140, hend140, hW140, hsm140⟩ := XL137.leave (v := some (.int (Int32.ofNat i))) (fun h => by rw [Bd.returns] at h; cases h)
          subst hPP
          refine ⟨_, _, own_retI XL137 hx Bd.returns (hb hby d_jdk_52_method_21_25) hr140, hrun140, hend140, _, _, rfl, ?_, ⟨_, rfl⟩, hW140, hsm140.mono (by decide) (by decide)⟩
          · show Q_cmp5 Z _ _ _ _ _ _ _ _ _ h0 _ TL137.heap _
            rw [eL137]
            exact ⟨i, vsL, rfl, NL137, KL137, fL137_1, hi7, hc139⟩
        ·
          refine own_Go.st (fun _ k => XS.icmpYes XL137.here hx rfl (pc0 := 20) (pc' := 26) rfl (hb hby d_jdk_52_method_21_20) rfl (flt hc139).2.2.2 (by decide) (by decide) k) ?_
          show own_Go _ _ _ _ (TL137.setTop (mkF m 26 #[.val (.ref a1), .val (.int (Int32.ofNat i)), .val (.ref a3), .val (.int (Int32.ofNat i)), .val (.int nn), .val (.int (Int32.ofNat i)), .val (.int (cs.getD i 0))] []))
          refine own_Go.st (fun _ k => XS.aloadN XL137.here hx rfl (hb hby d_jdk_52_method_21_26) rfl rfl k) ?_
          show own_Go _ _ _ _ (TL137.setTop (mkF m 27 #[.val (.ref a1), .val (.int (Int32.ofNat i)), .val (.ref a3), .val (.int (Int32.ofNat i)), .val (.int nn), .val (.int (Int32.ofNat i)), .val (.int (cs.getD i 0))] [(.ref a3)]))
          refine own_Go.st (fun _ k => XS.iloadN XL137.here hx rfl (hb hby d_jdk_52_method_21_27) rfl k) ?_
          show own_Go _ _ _ _ (TL137.setTop (mkF m 28 #[.val (.ref a1), .val (.int (Int32.ofNat i)), .val (.ref a3), .val (.int (Int32.ofNat i)), .val (.int nn), .val (.int (Int32.ofNat i)), .val (.int (cs.getD i 0))] [(.int (Int32.ofNat i)), (.ref a3)]))
          refine own_Go.st (fun _ k => XS.iload XL137.here hx rfl (hb hby d_jdk_52_method_21_28) rfl k) ?_
          show own_Go _ _ _ _ (TL137.setTop (mkF m 30 #[.val (.ref a1), .val (.int (Int32.ofNat i)), .val (.ref a3), .val (.int (Int32.ofNat i)), .val (.int nn), .val (.int (Int32.ofNat i)), .val (.int (cs.getD i 0))] [(.int (cs.getD i 0)), (.int (Int32.ofNat i)), (.ref a3)]))
          refine own_Go.st (fun _ k => XS.i2b XL137.here hx rfl (hb hby d_jdk_52_method_21_30) rfl k) ?_
          show own_Go _ _ _ _ (TL137.setTop (mkF m 31 #[.val (.ref a1), .val (.int (Int32.ofNat i)), .val (.ref a3), .val (.int (Int32.ofNat i)), .val (.int nn), .val (.int (Int32.ofNat i)), .val (.int (cs.getD i 0))] [(.int ((cs.getD i 0).toInt8.toInt32)), (.int (Int32.ofNat i)), (.ref a3)]))
          obtain ⟨c141, Ar141, q141, S141, Nn141, H141, G141⟩ := id fL137_1
          have hin141 : ¬ ((Int32.ofNat i) < 0 ∨ c141.slots.size ≤ ((Int32.ofNat i)).toNatClampNeg) := inb_of S141 ⟨own_of0 (by omega), h7⟩
          obtain ⟨T141, h141, X141, e141, W141, st141⟩ := stB XL137 hx hZ eL137 Ar141 (j := (Int32.ofNat i)) hin141 (g := (mkF m 31 #[.val (.ref a1), .val (.int (Int32.ofNat i)), .val (.ref a3), .val (.int (Int32.ofNat i)), .val (.int nn), .val (.int (Int32.ofNat i)), .val (.int (cs.getD i 0))] [(.int ((cs.getD i 0).toInt8.toInt32)), (.int (Int32.ofNat i)), (.ref a3)])) rfl rfl (hb hby d_jdk_52_method_21_31)
          refine own_Go.st st141 ?_
          have N141 := Fr.snoc X141 NL137 (by omega)
          have z141 : hL137.size ≤ h141.size := Nat.le_of_eq W141.size.symm
          obtain ⟨vs144, f143⟩ := own_arvAny fL137_1 (fits_nar_byte _) ⟨own_of0 (by omega), h7⟩ W141
          show own_Go _ _ _ _ (T141.setTop (mkF m 32 #[.val (.ref a1), .val (.int (Int32.ofNat i)), .val (.ref a3), .val (.int (Int32.ofNat i)), .val (.int nn), .val (.int (Int32.ofNat i)), .val (.int (cs.getD i 0))] []))
          refine own_Go.st (fun _ k => XS.iinc X141.here hx rfl (hb hby d_jdk_52_method_21_32) rfl (l' := #[.val (.ref a1), .val (.int ((Int32.ofNat i) + (1 : Int32))), .val (.ref a3), .val (.int (Int32.ofNat i)), .val (.int nn), .val (.int (Int32.ofNat i)), .val (.int (cs.getD i 0))]) rfl k) ?_
          show own_Go _ _ _ _ (T141.setTop (mkF m 35 #[.val (.ref a1), .val (.int ((Int32.ofNat i) + (1 : Int32))), .val (.ref a3), .val (.int (Int32.ofNat i)), .val (.int nn), .val (.int (Int32.ofNat i)), .val (.int (cs.getD i 0))] []))
          refine own_Go.st (fun _ k => XS.iinc X141.here hx rfl (hb hby d_jdk_52_method_21_35) rfl (l' := #[.val (.ref a1), .val (.int ((Int32.ofNat i) + (1 : Int32))), .val (.ref a3), .val (.int ((Int32.ofNat i) + (1 : Int32))), .val (.int nn), .val (.int (Int32.ofNat i)), .val (.int (cs.getD i 0))]) rfl k) ?_
          show own_Go _ _ _ _ (T141.setTop (mkF m 38 #[.val (.ref a1), .val (.int ((Int32.ofNat i) + (1 : Int32))), .val (.ref a3), .val (.int ((Int32.ofNat i) + (1 : Int32))), .val (.int nn), .val (.int (Int32.ofNat i)), .val (.int (cs.getD i 0))] []))
          refine own_Go.st (fun _ k => XS.iinc X141.here hx rfl (hb hby d_jdk_52_method_21_38) rfl (l' := #[.val (.ref a1), .val (.int ((Int32.ofNat i) + (1 : Int32))), .val (.ref a3), .val (.int ((Int32.ofNat i) + (1 : Int32))), .val (.int nn), .val (.int ((Int32.ofNat i) + (1 : Int32))), .val (.int (cs.getD i 0))]) rfl k) ?_
          show own_Go _ _ _ _ (T141.setTop (mkF m 41 #[.val (.ref a1), .val (.int ((Int32.ofNat i) + (1 : Int32))), .val (.ref a3), .val (.int ((Int32.ofNat i) + (1 : Int32))), .val (.int nn), .val (.int ((Int32.ofNat i) + (1 : Int32))), .val (.int (cs.getD i 0))] []))
          rw [own_ofS (by omega : i < 1073741823)]
          show own_Go _ _ _ _ (T141.setTop (mkF m 41 #[.val (.ref a1), .val (.int (Int32.ofNat (i + 1))), .val (.ref a3), .val (.int (Int32.ofNat (i + 1))), .val (.int nn), .val (.int (Int32.ofNat (i + 1))), .val (.int (cs.getD i 0))] []))
          refine own_Go.st (fun _ k => XS.goto X141.here hx rfl (pc0 := 41) (pc' := 3) rfl (hb hby d_jdk_52_method_21_41) (by decide) (by decide) k) ?_
          show own_Go _ _ _ _ (T141.setTop (mkF m 3 #[.val (.ref a1), .val (.int (Int32.ofNat (i + 1))), .val (.ref a3), .val (.int (Int32.ofNat (i + 1))), .val (.int nn), .val (.int (Int32.ofNat (i + 1))), .val (.int (cs.getD i 0))] []))
          have K145 : Keep h0 h141 [a3] := KL137.wr W141 (Or.inl (List.mem_of_getElem? (i := 0) rfl))
          have f146 : Old Z Z.heap.size h141 := OL137.wr W141 (by omega)
          have f147 : Arv Z h141 a1 k1 .char nn (cs.map Value.int) d1 := fL137_0.other W141 (own_arvTy p0_ p1_ (by decide))
          exact ihL _ (by omega) (i + 1) _ vs144 T141 h141 _ (by omega) (One.val rfl) (fun j hj => by rcases Nat.lt_succ_iff_lt_or_eq.mp hj with q | q; exact hlow j q; exact q ▸ hc139) X141 e141 N141 K145 f146 f147 f143 rfl
      ·
        refine own_Go.st (fun _ k => XS.icmpYes XL137.here hx rfl (pc0 := 7) (pc' := 44) rfl (hb hby d_jdk_52_method_21_7) rfl (flt h7).2.1 (by decide) (by decide) k) ?_
        show own_Go _ _ _ _ (TL137.setTop (mkF m 44 #[.val (.ref a1), .val (.int (Int32.ofNat i)), .val (.ref a3), .val (.int (Int32.ofNat i)), .val (.int nn), .val (.int (Int32.ofNat i)), s6] []))
        exfalso
        obtain ⟨c, hc, hcb⟩ := hbig
        obtain ⟨j, hj, rfl⟩ := List.getElem_of_mem hc
        have h7' : ¬ i < cs.length := fun q => h7 (hnn ▸ (own_oflt (by omega) (by omega)).mpr q)
        exact hlow j (by omega) (by simpa [List.getD_eq_getElem?_getD, hj] using hcb)
  exact LP137 _ 0 .unset vs3 s₁ h0 _ (Nat.zero_le _) One.u (fun j hj => absurd hj (Nat.not_lt_zero j)) X0 e0 N0 (Keep.refl h0 [a3]) OL p0_ p1_ rfl
theorem ef_50 (m : MethodId) (x0 : Nat) (x1 : Int32) (x2 : Int32) : entryFrame m #[(.ref x0), (.int x1), (.int x2)] 3 = mkF m 0 #[.val (.ref x0), .val (.int x1), .val (.int x2)] [] := by first | (simp [entryFrame, mkF, argsToLocals, Value.category]; done) | rfl
theorem d_jdk_52_method_4_0 : decode jdk_52_method_4_code 0 = .ok (.getstatic 44, 3) := by decide +kernel
theorem d_jdk_52_method_4_3 : decode jdk_52_method_4_code 3 = .ok (.ifCond .ne 25, 3) := by decide +kernel
theorem d_jdk_52_method_4_28 : decode jdk_52_method_4_code 28 = .ok (.iload_n 1, 1) := by decide +kernel
theorem d_jdk_52_method_4_29 : decode jdk_52_method_4_code 29 = .ok (.iconst 1, 1) := by decide +kernel
theorem d_jdk_52_method_4_30 : decode jdk_52_method_4_code 30 = .ok (.ishl, 1) := by decide +kernel
theorem d_jdk_52_method_4_31 : decode jdk_52_method_4_code 31 = .ok (.istore_n 1, 1) := by decide +kernel
theorem d_jdk_52_method_4_32 : decode jdk_52_method_4_code 32 = .ok (.aload_n 0, 1) := by decide +kernel
theorem d_jdk_52_method_4_33 : decode jdk_52_method_4_code 33 = .ok (.iload_n 1, 1) := by decide +kernel
theorem d_jdk_52_method_4_34 : decode jdk_52_method_4_code 34 = .ok (.iinc 1 1, 3) := by decide +kernel
theorem d_jdk_52_method_4_37 : decode jdk_52_method_4_code 37 = .ok (.iload_n 2, 1) := by decide +kernel
theorem d_jdk_52_method_4_38 : decode jdk_52_method_4_code 38 = .ok (.getstatic 59, 3) := by decide +kernel
theorem d_jdk_52_method_4_41 : decode jdk_52_method_4_code 41 = .ok (.ishr, 1) := by decide +kernel
theorem d_jdk_52_method_4_42 : decode jdk_52_method_4_code 42 = .ok (.i2b, 1) := by decide +kernel
theorem d_jdk_52_method_4_43 : decode jdk_52_method_4_code 43 = .ok (.bastore, 1) := by decide +kernel
theorem d_jdk_52_method_4_44 : decode jdk_52_method_4_code 44 = .ok (.aload_n 0, 1) := by decide +kernel
theorem d_jdk_52_method_4_45 : decode jdk_52_method_4_code 45 = .ok (.iload_n 1, 1) := by decide +kernel
theorem d_jdk_52_method_4_46 : decode jdk_52_method_4_code 46 = .ok (.iload_n 2, 1) := by decide +kernel
theorem d_jdk_52_method_4_47 : decode jdk_52_method_4_code 47 = .ok (.getstatic 63, 3) := by decide +kernel
theorem d_jdk_52_method_4_50 : decode jdk_52_method_4_code 50 = .ok (.ishr, 1) := by decide +kernel
theorem d_jdk_52_method_4_51 : decode jdk_52_method_4_code 51 = .ok (.i2b, 1) := by decide +kernel
theorem d_jdk_52_method_4_52 : decode jdk_52_method_4_code 52 = .ok (.bastore, 1) := by decide +kernel
theorem d_jdk_52_method_4_53 : decode jdk_52_method_4_code 53 = .ok (.return_, 1) := by decide +kernel
def Q_putc (Z : State) (a1 : Nat) (p2 : Int32) (p3 : Int32) (i : Nat) (k : ClassId) (n : Int32) (vs : List Value) (d : Value) (h0 : Heap) (v : Option Value) (h : Heap) (L : List Loc) : Prop := v = none ∧ Fr Z.heap.size L ∧ Keep h0 h [a1] ∧ Arv Z h a1 k .byte n ((vs.set (2 * i) (.int (StrChars.lo8 p3))).set (2 * i + 1) (.int (StrChars.hi8 p3))) d
set_option maxRecDepth 65536 in
set_option maxHeartbeats 40000000 in
theorem rm_putc (l : Launch) (Z : State) (a0 : Array Value) (hw : ∀ d ∈ tables_1, d.before a0 Z = true) (ws : List Jvm.Cond) (a1 : Nat) (p2 : Int32) (p3 : Int32) (i : Nat) (k : ClassId) (n : Int32) (vs : List Value) (d : Value) (h0 : Heap) (OL : Old Z Z.heap.size h0) (p0_ : Arv Z h0 a1 k .byte n vs d) (st__assertionsDisabled : Sta Z Z.heap "java/lang/StringUTF16" "$assertionsDisabled" "Z" (.int (1 : Int32))) (st_HI_BYTE_SHIFT : Sta Z Z.heap "java/lang/StringUTF16" "HI_BYTE_SHIFT" "I" (.int (0 : Int32))) (st_LO_BYTE_SHIFT : Sta Z Z.heap "java/lang/StringUTF16" "LO_BYTE_SHIFT" "I" (.int (8 : Int32))) (hp2 : p2 = Int32.ofNat i) (hin : 2 * i + 1 < vs.length) (hvl : n = Int32.ofNat vs.length) (hvs : vs.length ≤ 8000) (hn0 : Z.heap.size ≤ a1) :
    MetFree l (⟨"java/lang/StringUTF16", "putChar", "([BII)V"⟩ : MethodName) (head1 (Jvm.Cond.code (⟨"java/lang/StringUTF16", "putChar", "([BII)V"⟩ : MethodName) jdk_52_method_4_code 3 none :: ws) ({ frames := 0, cells := 0, slots := 0, locals := 0 } : Room)) (fun a U => a = #[(.ref a1), (.int p2), (.int p3)] ∧ Z.Warmed39 U.vm ∧ U.heap = h0) (fun _ _ _ _ _ => True) (fun _ U o U' => ∃ v L, o = .returned v ∧ Q_putc Z a1 p2 p3 i k n vs d h0 v U'.heap L ∧ FrameEnd U o U' L ({ frames := 0, cells := 0, slots := 0, locals := 0 } : Room).cells ({ frames := 0, cells := 0, slots := 0, locals := 0 } : Room).slots) := by
  refine MetFree.of_bodySF (plainFor_of_name pn_25) hisR ?_
  intro p e s m args below meth c s₁ Bd hml0 hP hK
  obtain ⟨rfl, hZ, hh⟩ := hP
  have hx := Bd.exec
  have hby := Bd.bytes
  have hml : c.maxLocals = 3 := hml0
  have hown : s.vm.findClass "java/lang/StringUTF16" = some m.cls := findClass_of_methodNamed Bd.named
  have hnm := (name_of_methodNamed Bd.named Bd.method).1
  have X0 : Stand p l e ({ frames := 0, cells := 0, slots := 0, locals := 0 } : Room) s m #[(.ref a1), (.int p2), (.int p3)] below meth c s₁ [] 0 0 := Stand.of_body Bd
  have e0 : s₁.heap = h0 := by rw [← hh, Bd.state]; rfl
  have N0 := Fr.nil Z.heap.size
  have Z0 : Z.heap.size ≤ h0.size := OL.2.1
  have lt_0 : @LT.lt Nat _ a1 h0.size := p0_.lt
  obtain ⟨PP, hPP⟩ : ∃ PP : Outcome → State → Prop, PP = (fun o tE => ∃ v L, o = .returned v ∧ Q_putc Z a1 p2 p3 i k n vs d h0 v tE.heap L ∧ FrameEnd s o tE L ({ frames := 0, cells := 0, slots := 0, locals := 0 } : Room).cells ({ frames := 0, cells := 0, slots := 0, locals := 0 } : Room).slots) := ⟨_, rfl⟩
  show own_Go p.tables e below (fun o tE => ∃ v L, o = .returned v ∧ Q_putc Z a1 p2 p3 i k n vs d h0 v tE.heap L ∧ FrameEnd s o tE L ({ frames := 0, cells := 0, slots := 0, locals := 0 } : Room).cells ({ frames := 0, cells := 0, slots := 0, locals := 0 } : Room).slots) (s₁.setTop (entryFrame m #[(.ref a1), (.int p2), (.int p3)] 3))
  rw [← hPP]
  refine own_Go.st (fun t k => castTop (ef_50 m a1 p2 p3) k) ?_
  subst hp2
  show own_Go _ _ _ _ (s₁.setTop (mkF m 0 #[.val (.ref a1), .val (.int (Int32.ofNat i)), .val (.int p3)] []))
  obtain ⟨T148, X148, e148, st148⟩ := getS2 X0 hx hZ hown (host := "") (Or.inl (hw _ (List.mem_of_getElem? (i := 46) rfl))) Via.refl e0 (st__assertionsDisabled.ext OL.2) (g := (mkF m 0 #[.val (.ref a1), .val (.int (Int32.ofNat i)), .val (.int p3)] [])) rfl (hb hby d_jdk_52_method_4_0)
  refine own_Go.st st148 ?_
  show own_Go _ _ _ _ (T148.setTop (mkF m 3 #[.val (.ref a1), .val (.int (Int32.ofNat i)), .val (.int p3)] [(.int (1 : Int32))]))
  refine own_Go.st (fun _ k => XS.ifYes X148.here hx rfl (pc0 := 3) (pc' := 28) rfl (hb hby d_jdk_52_method_4_3) rfl ((if0 _ _).trans (feq (by decide : ¬ ((1 : Int32) = (0 : Int32)))).2) (by decide) (by decide) k) ?_
  show own_Go _ _ _ _ (T148.setTop (mkF m 28 #[.val (.ref a1), .val (.int (Int32.ofNat i)), .val (.int p3)] []))
  refine own_Go.st (fun _ k => XS.iloadN X148.here hx rfl (hb hby d_jdk_52_method_4_28) rfl k) ?_
  show own_Go _ _ _ _ (T148.setTop (mkF m 29 #[.val (.ref a1), .val (.int (Int32.ofNat i)), .val (.int p3)] [(.int (Int32.ofNat i))]))
  refine own_Go.st (fun _ k => XS.iconst X148.here hx rfl (hb hby d_jdk_52_method_4_29) k) ?_
  show own_Go _ _ _ _ (T148.setTop (mkF m 30 #[.val (.ref a1), .val (.int (Int32.ofNat i)), .val (.int p3)] [(.int (1 : Int32)), (.int (Int32.ofNat i))]))
  refine own_Go.st (fun _ k => XS.ishl X148.here hx rfl (hb hby d_jdk_52_method_4_30) rfl k) ?_
  show own_Go _ _ _ _ (T148.setTop (mkF m 31 #[.val (.ref a1), .val (.int (Int32.ofNat i)), .val (.int p3)] [(.int ((Int32.ofNat i) <<< ((1 : Int32) &&& 31)))]))
  refine own_Go.st (fun _ k => XS.istoreN X148.here hx rfl (hb hby d_jdk_52_method_4_31) rfl (l' := #[.val (.ref a1), .val (.int ((Int32.ofNat i) <<< ((1 : Int32) &&& 31))), .val (.int p3)]) rfl k) ?_
  show own_Go _ _ _ _ (T148.setTop (mkF m 32 #[.val (.ref a1), .val (.int ((Int32.ofNat i) <<< ((1 : Int32) &&& 31))), .val (.int p3)] []))
  rw [own_shl1 (by omega : i < 1000000)]
  show own_Go _ _ _ _ (T148.setTop (mkF m 32 #[.val (.ref a1), .val (.int (Int32.ofNat (2 * i))), .val (.int p3)] []))
  refine own_Go.st (fun _ k => XS.aloadN X148.here hx rfl (hb hby d_jdk_52_method_4_32) rfl rfl k) ?_
  show own_Go _ _ _ _ (T148.setTop (mkF m 33 #[.val (.ref a1), .val (.int (Int32.ofNat (2 * i))), .val (.int p3)] [(.ref a1)]))
  refine own_Go.st (fun _ k => XS.iloadN X148.here hx rfl (hb hby d_jdk_52_method_4_33) rfl k) ?_
  show own_Go _ _ _ _ (T148.setTop (mkF m 34 #[.val (.ref a1), .val (.int (Int32.ofNat (2 * i))), .val (.int p3)] [(.int (Int32.ofNat (2 * i))), (.ref a1)]))
  refine own_Go.st (fun _ k => XS.iinc X148.here hx rfl (hb hby d_jdk_52_method_4_34) rfl (l' := #[.val (.ref a1), .val (.int ((Int32.ofNat (2 * i)) + (1 : Int32))), .val (.int p3)]) rfl k) ?_
  show own_Go _ _ _ _ (T148.setTop (mkF m 37 #[.val (.ref a1), .val (.int ((Int32.ofNat (2 * i)) + (1 : Int32))), .val (.int p3)] [(.int (Int32.ofNat (2 * i))), (.ref a1)]))
  rw [own_ofS (by omega : 2 * i < 1073741823)]
  show own_Go _ _ _ _ (T148.setTop (mkF m 37 #[.val (.ref a1), .val (.int (Int32.ofNat (2 * i + 1))), .val (.int p3)] [(.int (Int32.ofNat (2 * i))), (.ref a1)]))
  refine own_Go.st (fun _ k => XS.iloadN X148.here hx rfl (hb hby d_jdk_52_method_4_37) rfl k) ?_
  show own_Go _ _ _ _ (T148.setTop (mkF m 38 #[.val (.ref a1), .val (.int (Int32.ofNat (2 * i + 1))), .val (.int p3)] [(.int p3), (.int (Int32.ofNat (2 * i))), (.ref a1)]))
  obtain ⟨T149, X149, e149, st149⟩ := getS2 X148 hx hZ hown (host := "") (Or.inl (hw _ (List.mem_of_getElem? (i := 47) rfl))) Via.refl e148 (st_HI_BYTE_SHIFT.ext OL.2) (g := (mkF m 38 #[.val (.ref a1), .val (.int (Int32.ofNat (2 * i + 1))), .val (.int p3)] [(.int p3), (.int (Int32.ofNat (2 * i))), (.ref a1)])) rfl (hb hby d_jdk_52_method_4_38)
  refine own_Go.st st149 ?_
  show own_Go _ _ _ _ (T149.setTop (mkF m 41 #[.val (.ref a1), .val (.int (Int32.ofNat (2 * i + 1))), .val (.int p3)] [(.int (0 : Int32)), (.int p3), (.int (Int32.ofNat (2 * i))), (.ref a1)]))
  refine own_Go.st (fun _ k => XS.ishr X149.here hx rfl (hb hby d_jdk_52_method_4_41) rfl k) ?_
  show own_Go _ _ _ _ (T149.setTop (mkF m 42 #[.val (.ref a1), .val (.int (Int32.ofNat (2 * i + 1))), .val (.int p3)] [(.int (p3 >>> ((0 : Int32) &&& 31))), (.int (Int32.ofNat (2 * i))), (.ref a1)]))
  refine own_Go.st (fun _ k => XS.i2b X149.here hx rfl (hb hby d_jdk_52_method_4_42) rfl k) ?_
  show own_Go _ _ _ _ (T149.setTop (mkF m 43 #[.val (.ref a1), .val (.int (Int32.ofNat (2 * i + 1))), .val (.int p3)] [(.int ((p3 >>> ((0 : Int32) &&& 31)).toInt8.toInt32)), (.int (Int32.ofNat (2 * i))), (.ref a1)]))
  obtain ⟨c150, Ar150, q150, S150, Nn150, H150, G150⟩ := id p0_
  have hin150 : ¬ ((Int32.ofNat (2 * i)) < 0 ∨ c150.slots.size ≤ ((Int32.ofNat (2 * i))).toNatClampNeg) := inb_of S150 ⟨own_of0 (by omega), by rw [hvl]; exact (own_oflt (by omega) (by omega)).mpr (by omega)⟩
  obtain ⟨T150, h150, X150, e150, W150, st150⟩ := stB X149 hx hZ e149 Ar150 (j := (Int32.ofNat (2 * i))) hin150 (g := (mkF m 43 #[.val (.ref a1), .val (.int (Int32.ofNat (2 * i + 1))), .val (.int p3)] [(.int ((p3 >>> ((0 : Int32) &&& 31)).toInt8.toInt32)), (.int (Int32.ofNat (2 * i))), (.ref a1)])) rfl rfl (hb hby d_jdk_52_method_4_43)
  refine own_Go.st st150 ?_
  have N150 := Fr.snoc X150 N0 (by omega)
  have z150 : h0.size ≤ h150.size := Nat.le_of_eq W150.size.symm
  have f152 := Arv.set Ar150 q150 S150 Nn150 H150 G150 (fits_nar_byte _) W150 (2 * i) (own_ofn (by omega)) (by (try simp only [List.length_set]); omega)
  rw [own_i2b2, StrChars.shr0] at f152
  have f153 : Arv Z h150 a1 k .byte n (vs.set (2 * i) (.int (StrChars.lo8 p3))) d := f152
  show own_Go _ _ _ _ (T150.setTop (mkF m 44 #[.val (.ref a1), .val (.int (Int32.ofNat (2 * i + 1))), .val (.int p3)] []))
  refine own_Go.st (fun _ k => XS.aloadN X150.here hx rfl (hb hby d_jdk_52_method_4_44) rfl rfl k) ?_
  show own_Go _ _ _ _ (T150.setTop (mkF m 45 #[.val (.ref a1), .val (.int (Int32.ofNat (2 * i + 1))), .val (.int p3)] [(.ref a1)]))
  refine own_Go.st (fun _ k => XS.iloadN X150.here hx rfl (hb hby d_jdk_52_method_4_45) rfl k) ?_
  show own_Go _ _ _ _ (T150.setTop (mkF m 46 #[.val (.ref a1), .val (.int (Int32.ofNat (2 * i + 1))), .val (.int p3)] [(.int (Int32.ofNat (2 * i + 1))), (.ref a1)]))
  refine own_Go.st (fun _ k => XS.iloadN X150.here hx rfl (hb hby d_jdk_52_method_4_46) rfl k) ?_
  show own_Go _ _ _ _ (T150.setTop (mkF m 47 #[.val (.ref a1), .val (.int (Int32.ofNat (2 * i + 1))), .val (.int p3)] [(.int p3), (.int (Int32.ofNat (2 * i + 1))), (.ref a1)]))
  have f154 : Old Z Z.heap.size h150 := OL.wr W150 (by omega)
  obtain ⟨T155, X155, e155, st155⟩ := getS2 X150 hx hZ hown (host := "") (Or.inl (hw _ (List.mem_of_getElem? (i := 48) rfl))) Via.refl e150 (st_LO_BYTE_SHIFT.ext f154.2) (g := (mkF m 47 #[.val (.ref a1), .val (.int (Int32.ofNat (2 * i + 1))), .val (.int p3)] [(.int p3), (.int (Int32.ofNat (2 * i + 1))), (.ref a1)])) rfl (hb hby d_jdk_52_method_4_47)
  refine own_Go.st st155 ?_
  show own_Go _ _ _ _ (T155.setTop (mkF m 50 #[.val (.ref a1), .val (.int (Int32.ofNat (2 * i + 1))), .val (.int p3)] [(.int (8 : Int32)), (.int p3), (.int (Int32.ofNat (2 * i + 1))), (.ref a1)]))
  refine own_Go.st (fun _ k => XS.ishr X155.here hx rfl (hb hby d_jdk_52_method_4_50) rfl k) ?_
  show own_Go _ _ _ _ (T155.setTop (mkF m 51 #[.val (.ref a1), .val (.int (Int32.ofNat (2 * i + 1))), .val (.int p3)] [(.int (p3 >>> ((8 : Int32) &&& 31))), (.int (Int32.ofNat (2 * i + 1))), (.ref a1)]))
  refine own_Go.st (fun _ k => XS.i2b X155.here hx rfl (hb hby d_jdk_52_method_4_51) rfl k) ?_
  show own_Go _ _ _ _ (T155.setTop (mkF m 52 #[.val (.ref a1), .val (.int (Int32.ofNat (2 * i + 1))), .val (.int p3)] [(.int ((p3 >>> ((8 : Int32) &&& 31)).toInt8.toInt32)), (.int (Int32.ofNat (2 * i + 1))), (.ref a1)]))
  obtain ⟨c156, Ar156, q156, S156, Nn156, H156, G156⟩ := id f153
  have hin156 : ¬ ((Int32.ofNat (2 * i + 1)) < 0 ∨ c156.slots.size ≤ ((Int32.ofNat (2 * i + 1))).toNatClampNeg) := inb_of S156 ⟨own_of0 (by omega), by rw [hvl]; exact (own_oflt (by omega) (by omega)).mpr (by omega)⟩
  obtain ⟨T156, h156, X156, e156, W156, st156⟩ := stB X155 hx hZ e155 Ar156 (j := (Int32.ofNat (2 * i + 1))) hin156 (g := (mkF m 52 #[.val (.ref a1), .val (.int (Int32.ofNat (2 * i + 1))), .val (.int p3)] [(.int ((p3 >>> ((8 : Int32) &&& 31)).toInt8.toInt32)), (.int (Int32.ofNat (2 * i + 1))), (.ref a1)])) rfl rfl (hb hby d_jdk_52_method_4_52)
  refine own_Go.st st156 ?_
  have N156 := Fr.snoc X156 N150 (by omega)
  have z156 : h150.size ≤ h156.size := Nat.le_of_eq W156.size.symm
  have f158 := Arv.set Ar156 q156 S156 Nn156 H156 G156 (fits_nar_byte _) W156 (2 * i + 1) (own_ofn (by omega)) (by (try simp only [List.length_set]); omega)
  rw [own_i2b2] at f158
  have f159 : Arv Z h156 a1 k .byte n ((vs.set (2 * i) (.int (StrChars.lo8 p3))).set (2 * i + 1) (.int (StrChars.hi8 p3))) d := f158
  show own_Go _ _ _ _ (T156.setTop (mkF m 53 #[.val (.ref a1), .val (.int (Int32.ofNat (2 * i + 1))), .val (.int p3)] []))
  obtain ⟨fs160, hr160, hrun160, hend160, hW160, hsm160⟩ := X156.leave (v := none) (fun _ => rfl)
  have K161 : Keep h0 h150 [a1] := (Keep.refl h0 [a1]).wr W150 (Or.inl (List.mem_of_getElem? (i := 0) rfl))
  have K162 : Keep h0 h156 [a1] := K161.wr W156 (Or.inl (List.mem_of_getElem? (i := 0) rfl))
  subst hPP
  refine ⟨_, _, X156.returnOut hx Bd.returns (hb hby d_jdk_52_method_4_53) hr160, hrun160, hend160, _, _, rfl, ?_, ⟨_, rfl⟩, hW160, hsm160.mono (by decide) (by decide)⟩
  · show Q_putc Z _ _ _ _ _ _ _ _ h0 _ T156.heap _
    rw [e156]
    exact ⟨rfl, N156, K162, f159⟩
theorem ef_73 (m : MethodId) (x0 : Nat) (x1 : Int32) : entryFrame m #[(.ref x0), (.int x1)] 2 = mkF m 0 #[.val (.ref x0), .val (.int x1)] [] := by first | (simp [entryFrame, mkF, argsToLocals, Value.category]; done) | rfl
theorem d_jdk_52_method_5_0 : decode jdk_52_method_5_code 0 = .ok (.getstatic 44, 3) := by decide +kernel
theorem d_jdk_52_method_5_3 : decode jdk_52_method_5_code 3 = .ok (.ifCond .ne 25, 3) := by decide +kernel
theorem d_jdk_52_method_5_28 : decode jdk_52_method_5_code 28 = .ok (.iload_n 1, 1) := by decide +kernel
theorem d_jdk_52_method_5_29 : decode jdk_52_method_5_code 29 = .ok (.iconst 1, 1) := by decide +kernel
theorem d_jdk_52_method_5_30 : decode jdk_52_method_5_code 30 = .ok (.ishl, 1) := by decide +kernel
theorem d_jdk_52_method_5_31 : decode jdk_52_method_5_code 31 = .ok (.istore_n 1, 1) := by decide +kernel
theorem d_jdk_52_method_5_32 : decode jdk_52_method_5_code 32 = .ok (.aload_n 0, 1) := by decide +kernel
theorem d_jdk_52_method_5_33 : decode jdk_52_method_5_code 33 = .ok (.iload_n 1, 1) := by decide +kernel
theorem d_jdk_52_method_5_34 : decode jdk_52_method_5_code 34 = .ok (.iinc 1 1, 3) := by decide +kernel
theorem d_jdk_52_method_5_37 : decode jdk_52_method_5_code 37 = .ok (.baload, 1) := by decide +kernel
theorem d_jdk_52_method_5_38 : decode jdk_52_method_5_code 38 = .ok (.sipush 255, 3) := by decide +kernel
theorem d_jdk_52_method_5_41 : decode jdk_52_method_5_code 41 = .ok (.iand, 1) := by decide +kernel
theorem d_jdk_52_method_5_42 : decode jdk_52_method_5_code 42 = .ok (.getstatic 59, 3) := by decide +kernel
theorem d_jdk_52_method_5_45 : decode jdk_52_method_5_code 45 = .ok (.ishl, 1) := by decide +kernel
theorem d_jdk_52_method_5_46 : decode jdk_52_method_5_code 46 = .ok (.aload_n 0, 1) := by decide +kernel
theorem d_jdk_52_method_5_47 : decode jdk_52_method_5_code 47 = .ok (.iload_n 1, 1) := by decide +kernel
theorem d_jdk_52_method_5_48 : decode jdk_52_method_5_code 48 = .ok (.baload, 1) := by decide +kernel
theorem d_jdk_52_method_5_49 : decode jdk_52_method_5_code 49 = .ok (.sipush 255, 3) := by decide +kernel
theorem d_jdk_52_method_5_52 : decode jdk_52_method_5_code 52 = .ok (.iand, 1) := by decide +kernel
theorem d_jdk_52_method_5_53 : decode jdk_52_method_5_code 53 = .ok (.getstatic 63, 3) := by decide +kernel
theorem d_jdk_52_method_5_56 : decode jdk_52_method_5_code 56 = .ok (.ishl, 1) := by decide +kernel
theorem d_jdk_52_method_5_57 : decode jdk_52_method_5_code 57 = .ok (.ior, 1) := by decide +kernel
theorem d_jdk_52_method_5_58 : decode jdk_52_method_5_code 58 = .ok (.i2c, 1) := by decide +kernel
theorem d_jdk_52_method_5_59 : decode jdk_52_method_5_code 59 = .ok (.ireturn, 1) := by decide +kernel
def Q_getc (Z : State) (a1 : Nat) (p2 : Int32) (i : Nat) (k : ClassId) (n : Int32) (vs : List Value) (d : Value) (ch : Int32) (h0 : Heap) (v : Option Value) (h : Heap) (L : List Loc) : Prop := v = some (.int ch) ∧ Fr Z.heap.size L ∧ h = h0
set_option maxRecDepth 65536 in
set_option maxHeartbeats 40000000 in
theorem rm_getc (l : Launch) (Z : State) (a0 : Array Value) (hw : ∀ d ∈ tables_1, d.before a0 Z = true) (ws : List Jvm.Cond) (a1 : Nat) (p2 : Int32) (i : Nat) (k : ClassId) (n : Int32) (vs : List Value) (d : Value) (ch : Int32) (h0 : Heap) (OL : Old Z Z.heap.size h0) (p0_ : Arv Z h0 a1 k .byte n vs d) (st__assertionsDisabled : Sta Z Z.heap "java/lang/StringUTF16" "$assertionsDisabled" "Z" (.int (1 : Int32))) (st_HI_BYTE_SHIFT : Sta Z Z.heap "java/lang/StringUTF16" "HI_BYTE_SHIFT" "I" (.int (0 : Int32))) (st_LO_BYTE_SHIFT : Sta Z Z.heap "java/lang/StringUTF16" "LO_BYTE_SHIFT" "I" (.int (8 : Int32))) (hp2 : p2 = Int32.ofNat i) (hin : 2 * i + 1 < vs.length) (hvl : n = Int32.ofNat vs.length) (hvs : vs.length ≤ 8000) (hlo : vs.getD (2 * i) d = .int (StrChars.lo8 ch)) (hhi : vs.getD (2 * i + 1) d = .int (StrChars.hi8 ch)) (hch : ¬ ch < 0 ∧ ¬ (65535 : Int32) < ch) :
    MetFree l (⟨"java/lang/StringUTF16", "getChar", "([BI)C"⟩ : MethodName) (head1 (Jvm.Cond.code (⟨"java/lang/StringUTF16", "getChar", "([BI)C"⟩ : MethodName) jdk_52_method_5_code 2 (some .char) :: ws) ({ frames := 0, cells := 0, slots := 0, locals := 0 } : Room)) (fun a U => a = #[(.ref a1), (.int p2)] ∧ Z.Warmed39 U.vm ∧ U.heap = h0) (fun _ _ _ _ _ => True) (fun _ U o U' => ∃ v L, o = .returned v ∧ Q_getc Z a1 p2 i k n vs d ch h0 v U'.heap L ∧ FrameEnd U o U' L ({ frames := 0, cells := 0, slots := 0, locals := 0 } : Room).cells ({ frames := 0, cells := 0, slots := 0, locals := 0 } : Room).slots) := by
  refine MetFree.of_bodySF (plainFor_of_name pn_25) hisR ?_
  intro p e s m args below meth c s₁ Bd hml0 hP hK
  obtain ⟨rfl, hZ, hh⟩ := hP
  have hx := Bd.exec
  have hby := Bd.bytes
  have hml : c.maxLocals = 2 := hml0
  have hown : s.vm.findClass "java/lang/StringUTF16" = some m.cls := findClass_of_methodNamed Bd.named
  have hnm := (name_of_methodNamed Bd.named Bd.method).1
  have X0 : Stand p l e ({ frames := 0, cells := 0, slots := 0, locals := 0 } : Room) s m #[(.ref a1), (.int p2)] below meth c s₁ [] 0 0 := Stand.of_body Bd
  have e0 : s₁.heap = h0 := by rw [← hh, Bd.state]; rfl
  have N0 := Fr.nil Z.heap.size
  have Z0 : Z.heap.size ≤ h0.size := OL.2.1
  have lt_0 : @LT.lt Nat _ a1 h0.size := p0_.lt
  obtain ⟨PP, hPP⟩ : ∃ PP : Outcome → State → Prop, PP = (fun o tE => ∃ v L, o = .returned v ∧ Q_getc Z a1 p2 i k n vs d ch h0 v tE.heap L ∧ FrameEnd s o tE L ({ frames := 0, cells := 0, slots := 0, locals := 0 } : Room).cells ({ frames := 0, cells := 0, slots := 0, locals := 0 } : Room).slots) := ⟨_, rfl⟩
  show own_Go p.tables e below (fun o tE => ∃ v L, o = .returned v ∧ Q_getc Z a1 p2 i k n vs d ch h0 v tE.heap L ∧ FrameEnd s o tE L ({ frames := 0, cells := 0, slots := 0, locals := 0 } : Room).cells ({ frames := 0, cells := 0, slots := 0, locals := 0 } : Room).slots) (s₁.setTop (entryFrame m #[(.ref a1), (.int p2)] 2))
  rw [← hPP]
  refine own_Go.st (fun t k => castTop (ef_73 m a1 p2) k) ?_
  subst hp2
  show own_Go _ _ _ _ (s₁.setTop (mkF m 0 #[.val (.ref a1), .val (.int (Int32.ofNat i))] []))
  obtain ⟨T163, X163, e163, st163⟩ := getS2 X0 hx hZ hown (host := "") (Or.inl (hw _ (List.mem_of_getElem? (i := 46) rfl))) Via.refl e0 (st__assertionsDisabled.ext OL.2) (g := (mkF m 0 #[.val (.ref a1), .val (.int (Int32.ofNat i))] [])) rfl (hb hby d_jdk_52_method_5_0)
  refine own_Go.st st163 ?_
  show own_Go _ _ _ _ (T163.setTop (mkF m 3 #[.val (.ref a1), .val (.int (Int32.ofNat i))] [(.int (1 : Int32))]))
  refine own_Go.st (fun _ k => XS.ifYes X163.here hx rfl (pc0 := 3) (pc' := 28) rfl (hb hby d_jdk_52_method_5_3) rfl ((if0 _ _).trans (feq (by decide : ¬ ((1 : Int32) = (0 : Int32)))).2) (by decide) (by decide) k) ?_
  show own_Go _ _ _ _ (T163.setTop (mkF m 28 #[.val (.ref a1), .val (.int (Int32.ofNat i))] []))
  refine own_Go.st (fun _ k => XS.iloadN X163.here hx rfl (hb hby d_jdk_52_method_5_28) rfl k) ?_
  show own_Go _ _ _ _ (T163.setTop (mkF m 29 #[.val (.ref a1), .val (.int (Int32.ofNat i))] [(.int (Int32.ofNat i))]))
  refine own_Go.st (fun _ k => XS.iconst X163.here hx rfl (hb hby d_jdk_52_method_5_29) k) ?_
  show own_Go _ _ _ _ (T163.setTop (mkF m 30 #[.val (.ref a1), .val (.int (Int32.ofNat i))] [(.int (1 : Int32)), (.int (Int32.ofNat i))]))
  refine own_Go.st (fun _ k => XS.ishl X163.here hx rfl (hb hby d_jdk_52_method_5_30) rfl k) ?_
  show own_Go _ _ _ _ (T163.setTop (mkF m 31 #[.val (.ref a1), .val (.int (Int32.ofNat i))] [(.int ((Int32.ofNat i) <<< ((1 : Int32) &&& 31)))]))
  refine own_Go.st (fun _ k => XS.istoreN X163.here hx rfl (hb hby d_jdk_52_method_5_31) rfl (l' := #[.val (.ref a1), .val (.int ((Int32.ofNat i) <<< ((1 : Int32) &&& 31)))]) rfl k) ?_
  show own_Go _ _ _ _ (T163.setTop (mkF m 32 #[.val (.ref a1), .val (.int ((Int32.ofNat i) <<< ((1 : Int32) &&& 31)))] []))
  rw [own_shl1 (by omega : i < 1000000)]
  show own_Go _ _ _ _ (T163.setTop (mkF m 32 #[.val (.ref a1), .val (.int (Int32.ofNat (2 * i)))] []))
  refine own_Go.st (fun _ k => XS.aloadN X163.here hx rfl (hb hby d_jdk_52_method_5_32) rfl rfl k) ?_
  show own_Go _ _ _ _ (T163.setTop (mkF m 33 #[.val (.ref a1), .val (.int (Int32.ofNat (2 * i)))] [(.ref a1)]))
  refine own_Go.st (fun _ k => XS.iloadN X163.here hx rfl (hb hby d_jdk_52_method_5_33) rfl k) ?_
  show own_Go _ _ _ _ (T163.setTop (mkF m 34 #[.val (.ref a1), .val (.int (Int32.ofNat (2 * i)))] [(.int (Int32.ofNat (2 * i))), (.ref a1)]))
  refine own_Go.st (fun _ k => XS.iinc X163.here hx rfl (hb hby d_jdk_52_method_5_34) rfl (l' := #[.val (.ref a1), .val (.int ((Int32.ofNat (2 * i)) + (1 : Int32)))]) rfl k) ?_
  show own_Go _ _ _ _ (T163.setTop (mkF m 37 #[.val (.ref a1), .val (.int ((Int32.ofNat (2 * i)) + (1 : Int32)))] [(.int (Int32.ofNat (2 * i))), (.ref a1)]))
  rw [own_ofS (by omega : 2 * i < 1073741823)]
  show own_Go _ _ _ _ (T163.setTop (mkF m 37 #[.val (.ref a1), .val (.int (Int32.ofNat (2 * i + 1)))] [(.int (Int32.ofNat (2 * i))), (.ref a1)]))
  obtain ⟨c164, Ar164, q164, S164, Nn164, H164, G164⟩ := id p0_
  have hin164 : ¬ ((Int32.ofNat (2 * i)) < 0 ∨ c164.slots.size ≤ ((Int32.ofNat (2 * i))).toNatClampNeg) := inb_of S164 ⟨own_of0 (by omega), by rw [hvl]; exact (own_oflt (by omega) (by omega)).mpr (by omega)⟩
  have hat164 : c164.slots[((Int32.ofNat (2 * i))).toNatClampNeg]? = some (.int (StrChars.lo8 ch)) := H164.at hin164 (by rw [own_ofn (by omega)]; exact hlo)
  refine own_Go.st (X163.baloadBytes hx (j := (Int32.ofNat (2 * i))) (v := (.int (StrChars.lo8 ch))) (by rw [e163]; exact Ar164.1) (State.isArrayOf_alike hZ.alike Ar164.2.1) Ar164.2.2 hin164 hat164 (g := (mkF m 37 #[.val (.ref a1), .val (.int (Int32.ofNat (2 * i + 1)))] [(.int (Int32.ofNat (2 * i))), (.ref a1)])) rfl rfl (hb hby d_jdk_52_method_5_37)) ?_
  show own_Go _ _ _ _ (T163.setTop (mkF m 38 #[.val (.ref a1), .val (.int (Int32.ofNat (2 * i + 1)))] [(.int (StrChars.lo8 ch))]))
  refine own_Go.st (fun _ k => XS.sipush X163.here hx rfl (hb hby d_jdk_52_method_5_38) k) ?_
  show own_Go _ _ _ _ (T163.setTop (mkF m 41 #[.val (.ref a1), .val (.int (Int32.ofNat (2 * i + 1)))] [(.int (255 : Int32)), (.int (StrChars.lo8 ch))]))
  refine own_Go.st (fun _ k => XS.iand X163.here hx rfl (hb hby d_jdk_52_method_5_41) rfl k) ?_
  show own_Go _ _ _ _ (T163.setTop (mkF m 42 #[.val (.ref a1), .val (.int (Int32.ofNat (2 * i + 1)))] [(.int ((StrChars.lo8 ch) &&& (255 : Int32)))]))
  obtain ⟨T165, X165, e165, st165⟩ := getS2 X163 hx hZ hown (host := "") (Or.inl (hw _ (List.mem_of_getElem? (i := 47) rfl))) Via.refl e163 (st_HI_BYTE_SHIFT.ext OL.2) (g := (mkF m 42 #[.val (.ref a1), .val (.int (Int32.ofNat (2 * i + 1)))] [(.int ((StrChars.lo8 ch) &&& (255 : Int32)))])) rfl (hb hby d_jdk_52_method_5_42)
  refine own_Go.st st165 ?_
  show own_Go _ _ _ _ (T165.setTop (mkF m 45 #[.val (.ref a1), .val (.int (Int32.ofNat (2 * i + 1)))] [(.int (0 : Int32)), (.int ((StrChars.lo8 ch) &&& (255 : Int32)))]))
  refine own_Go.st (fun _ k => XS.ishl X165.here hx rfl (hb hby d_jdk_52_method_5_45) rfl k) ?_
  show own_Go _ _ _ _ (T165.setTop (mkF m 46 #[.val (.ref a1), .val (.int (Int32.ofNat (2 * i + 1)))] [(.int (((StrChars.lo8 ch) &&& (255 : Int32)) <<< ((0 : Int32) &&& 31)))]))
  refine own_Go.st (fun _ k => XS.aloadN X165.here hx rfl (hb hby d_jdk_52_method_5_46) rfl rfl k) ?_
  show own_Go _ _ _ _ (T165.setTop (mkF m 47 #[.val (.ref a1), .val (.int (Int32.ofNat (2 * i + 1)))] [(.ref a1), (.int (((StrChars.lo8 ch) &&& (255 : Int32)) <<< ((0 : Int32) &&& 31)))]))
  refine own_Go.st (fun _ k => XS.iloadN X165.here hx rfl (hb hby d_jdk_52_method_5_47) rfl k) ?_
  show own_Go _ _ _ _ (T165.setTop (mkF m 48 #[.val (.ref a1), .val (.int (Int32.ofNat (2 * i + 1)))] [(.int (Int32.ofNat (2 * i + 1))), (.ref a1), (.int (((StrChars.lo8 ch) &&& (255 : Int32)) <<< ((0 : Int32) &&& 31)))]))
  obtain ⟨c166, Ar166, q166, S166, Nn166, H166, G166⟩ := id p0_
  have hin166 : ¬ ((Int32.ofNat (2 * i + 1)) < 0 ∨ c166.slots.size ≤ ((Int32.ofNat (2 * i + 1))).toNatClampNeg) := inb_of S166 ⟨own_of0 (by omega), by rw [hvl]; exact (own_oflt (by omega) (by omega)).mpr (by omega)⟩
  have hat166 : c166.slots[((Int32.ofNat (2 * i + 1))).toNatClampNeg]? = some (.int (StrChars.hi8 ch)) := H166.at hin166 (by rw [own_ofn (by omega)]; exact hhi)
  refine own_Go.st (X165.baloadBytes hx (j := (Int32.ofNat (2 * i + 1))) (v := (.int (StrChars.hi8 ch))) (by rw [e165]; exact Ar166.1) (State.isArrayOf_alike hZ.alike Ar166.2.1) Ar166.2.2 hin166 hat166 (g := (mkF m 48 #[.val (.ref a1), .val (.int (Int32.ofNat (2 * i + 1)))] [(.int (Int32.ofNat (2 * i + 1))), (.ref a1), (.int (((StrChars.lo8 ch) &&& (255 : Int32)) <<< ((0 : Int32) &&& 31)))])) rfl rfl (hb hby d_jdk_52_method_5_48)) ?_
  show own_Go _ _ _ _ (T165.setTop (mkF m 49 #[.val (.ref a1), .val (.int (Int32.ofNat (2 * i + 1)))] [(.int (StrChars.hi8 ch)), (.int (((StrChars.lo8 ch) &&& (255 : Int32)) <<< ((0 : Int32) &&& 31)))]))
  refine own_Go.st (fun _ k => XS.sipush X165.here hx rfl (hb hby d_jdk_52_method_5_49) k) ?_
  show own_Go _ _ _ _ (T165.setTop (mkF m 52 #[.val (.ref a1), .val (.int (Int32.ofNat (2 * i + 1)))] [(.int (255 : Int32)), (.int (StrChars.hi8 ch)), (.int (((StrChars.lo8 ch) &&& (255 : Int32)) <<< ((0 : Int32) &&& 31)))]))
  refine own_Go.st (fun _ k => XS.iand X165.here hx rfl (hb hby d_jdk_52_method_5_52) rfl k) ?_
  show own_Go _ _ _ _ (T165.setTop (mkF m 53 #[.val (.ref a1), .val (.int (Int32.ofNat (2 * i + 1)))] [(.int ((StrChars.hi8 ch) &&& (255 : Int32))), (.int (((StrChars.lo8 ch) &&& (255 : Int32)) <<< ((0 : Int32) &&& 31)))]))
  obtain ⟨T167, X167, e167, st167⟩ := getS2 X165 hx hZ hown (host := "") (Or.inl (hw _ (List.mem_of_getElem? (i := 48) rfl))) Via.refl e165 (st_LO_BYTE_SHIFT.ext OL.2) (g := (mkF m 53 #[.val (.ref a1), .val (.int (Int32.ofNat (2 * i + 1)))] [(.int ((StrChars.hi8 ch) &&& (255 : Int32))), (.int (((StrChars.lo8 ch) &&& (255 : Int32)) <<< ((0 : Int32) &&& 31)))])) rfl (hb hby d_jdk_52_method_5_53)
  refine own_Go.st st167 ?_
  show own_Go _ _ _ _ (T167.setTop (mkF m 56 #[.val (.ref a1), .val (.int (Int32.ofNat (2 * i + 1)))] [(.int (8 : Int32)), (.int ((StrChars.hi8 ch) &&& (255 : Int32))), (.int (((StrChars.lo8 ch) &&& (255 : Int32)) <<< ((0 : Int32) &&& 31)))]))
  refine own_Go.st (fun _ k => XS.ishl X167.here hx rfl (hb hby d_jdk_52_method_5_56) rfl k) ?_
  show own_Go _ _ _ _ (T167.setTop (mkF m 57 #[.val (.ref a1), .val (.int (Int32.ofNat (2 * i + 1)))] [(.int (((StrChars.hi8 ch) &&& (255 : Int32)) <<< ((8 : Int32) &&& 31))), (.int (((StrChars.lo8 ch) &&& (255 : Int32)) <<< ((0 : Int32) &&& 31)))]))
  refine own_Go.st (fun _ k => XS.ior X167.here hx rfl (hb hby d_jdk_52_method_5_57) rfl k) ?_
  show own_Go _ _ _ _ (T167.setTop (mkF m 58 #[.val (.ref a1), .val (.int (Int32.ofNat (2 * i + 1)))] [(.int ((((StrChars.lo8 ch) &&& (255 : Int32)) <<< ((0 : Int32) &&& 31)) ||| (((StrChars.hi8 ch) &&& (255 : Int32)) <<< ((8 : Int32) &&& 31))))]))
  refine own_Go.st (fun _ k => XS.i2c X167.here hx rfl (hb hby d_jdk_52_method_5_58) rfl k) ?_
  show own_Go _ _ _ _ (T167.setTop (mkF m 59 #[.val (.ref a1), .val (.int (Int32.ofNat (2 * i + 1)))] [(.int (((((StrChars.lo8 ch) &&& (255 : Int32)) <<< ((0 : Int32) &&& 31)) ||| (((StrChars.hi8 ch) &&& (255 : Int32)) <<< ((8 : Int32) &&& 31))).toUInt32.toUInt16.toUInt32.toInt32))]))
  obtain ⟨fs168, hr168, hrun168, hend168, hW168, hsm168⟩ := X167.leave (v := some (.int (nar .char (((((StrChars.lo8 ch) &&& (255 : Int32)) <<< ((0 : Int32) &&& 31)) ||| (((StrChars.hi8 ch) &&& (255 : Int32)) <<< ((8 : Int32) &&& 31))).toUInt32.toUInt16.toUInt32.toInt32)))) (fun h => by rw [Bd.returns] at h; cases h)
  subst hPP
  refine ⟨_, _, retN X167 hx (t := .char) Bd.returns (by simp) (hb hby d_jdk_52_method_5_59) hr168, hrun168, hend168, _, _, rfl, ?_, ⟨_, rfl⟩, hW168, hsm168.mono (by decide) (by decide)⟩
  · show Q_getc Z _ _ _ _ _ _ _ _ h0 _ T167.heap _
    rw [e167]
    exact ⟨(by have q := StrChars.pair_says hch.1 hch.2; unfold StrChars.pairCh at q; rw [q, own_nar hch]), N0, rfl⟩
theorem ef_98 (m : MethodId) (x0 : Int32) : entryFrame m #[(.int x0)] 1 = mkF m 0 #[.val (.int x0)] [] := by first | (simp [entryFrame, mkF, argsToLocals, Value.category]; done) | rfl
theorem d_jdk_52_method_3_0 : decode jdk_52_method_3_code 0 = .ok (.iload_n 0, 1) := by decide +kernel
theorem d_jdk_52_method_3_1 : decode jdk_52_method_3_code 1 = .ok (.ifCond .ge 11, 3) := by decide +kernel
theorem d_jdk_52_method_3_12 : decode jdk_52_method_3_code 12 = .ok (.iload_n 0, 1) := by decide +kernel
theorem d_jdk_52_method_3_13 : decode jdk_52_method_3_code 13 = .ok (.ldc 20, 2) := by decide +kernel
theorem d_jdk_52_method_3_15 : decode jdk_52_method_3_code 15 = .ok (.if_icmp .lt 40, 3) := by decide +kernel
theorem d_jdk_52_method_3_55 : decode jdk_52_method_3_code 55 = .ok (.iload_n 0, 1) := by decide +kernel
theorem d_jdk_52_method_3_56 : decode jdk_52_method_3_code 56 = .ok (.iconst 1, 1) := by decide +kernel
theorem d_jdk_52_method_3_57 : decode jdk_52_method_3_code 57 = .ok (.ishl, 1) := by decide +kernel
theorem d_jdk_52_method_3_58 : decode jdk_52_method_3_code 58 = .ok (.ireturn, 1) := by decide +kernel
def Q_nbl (Z : State) (p1 : Int32) (i : Nat) (h0 : Heap) (v : Option Value) (h : Heap) (L : List Loc) : Prop := v = some (.int (Int32.ofNat (2 * i))) ∧ Fr Z.heap.size L ∧ h = h0
set_option maxRecDepth 65536 in
set_option maxHeartbeats 40000000 in
theorem rm_nbl (l : Launch) (Z : State) (a0 : Array Value) (hw : ∀ d ∈ tables_1, d.before a0 Z = true) (ws : List Jvm.Cond) (p1 : Int32) (i : Nat) (h0 : Heap) (OL : Old Z Z.heap.size h0) (hp1 : p1 = Int32.ofNat i) (hle : i ≤ 4000) :
    MetFree l (⟨"java/lang/StringUTF16", "newBytesLength", "(I)I"⟩ : MethodName) (head1 (Jvm.Cond.code (⟨"java/lang/StringUTF16", "newBytesLength", "(I)I"⟩ : MethodName) jdk_52_method_3_code 1 (some .int) :: ws) ({ frames := 0, cells := 0, slots := 0, locals := 0 } : Room)) (fun a U => a = #[(.int p1)] ∧ Z.Warmed39 U.vm ∧ U.heap = h0) (fun _ _ _ _ _ => True) (fun _ U o U' => ∃ v L, o = .returned v ∧ Q_nbl Z p1 i h0 v U'.heap L ∧ FrameEnd U o U' L ({ frames := 0, cells := 0, slots := 0, locals := 0 } : Room).cells ({ frames := 0, cells := 0, slots := 0, locals := 0 } : Room).slots) := by
  refine MetFree.of_bodySF (plainFor_of_name pn_25) hisR ?_
  intro p e s m args below meth c s₁ Bd hml0 hP hK
  obtain ⟨rfl, hZ, hh⟩ := hP
  have hx := Bd.exec
  have hby := Bd.bytes
  have hml : c.maxLocals = 1 := hml0
  have hown : s.vm.findClass "java/lang/StringUTF16" = some m.cls := findClass_of_methodNamed Bd.named
  have hnm := (name_of_methodNamed Bd.named Bd.method).1
  have X0 : Stand p l e ({ frames := 0, cells := 0, slots := 0, locals := 0 } : Room) s m #[(.int p1)] below meth c s₁ [] 0 0 := Stand.of_body Bd
  have e0 : s₁.heap = h0 := by rw [← hh, Bd.state]; rfl
  have N0 := Fr.nil Z.heap.size
  have Z0 : Z.heap.size ≤ h0.size := OL.2.1
  obtain ⟨PP, hPP⟩ : ∃ PP : Outcome → State → Prop, PP = (fun o tE => ∃ v L, o = .returned v ∧ Q_nbl Z p1 i h0 v tE.heap L ∧ FrameEnd s o tE L ({ frames := 0, cells := 0, slots := 0, locals := 0 } : Room).cells ({ frames := 0, cells := 0, slots := 0, locals := 0 } : Room).slots) := ⟨_, rfl⟩
  show own_Go p.tables e below (fun o tE => ∃ v L, o = .returned v ∧ Q_nbl Z p1 i h0 v tE.heap L ∧ FrameEnd s o tE L ({ frames := 0, cells := 0, slots := 0, locals := 0 } : Room).cells ({ frames := 0, cells := 0, slots := 0, locals := 0 } : Room).slots) (s₁.setTop (entryFrame m #[(.int p1)] 1))
  rw [← hPP]
  refine own_Go.st (fun t k => castTop (ef_98 m p1) k) ?_
  subst hp1
  show own_Go _ _ _ _ (s₁.setTop (mkF m 0 #[.val (.int (Int32.ofNat i))] []))
  refine own_Go.st (fun _ k => XS.iloadN X0.here hx rfl (hb hby d_jdk_52_method_3_0) rfl k) ?_
  show own_Go _ _ _ _ (s₁.setTop (mkF m 1 #[.val (.int (Int32.ofNat i))] [(.int (Int32.ofNat i))]))
  have hc169 : ¬ ((Int32.ofNat i) < (0 : Int32)) := own_of0 (by omega)
  refine own_Go.st (fun _ k => XS.ifYes X0.here hx rfl (pc0 := 1) (pc' := 12) rfl (hb hby d_jdk_52_method_3_1) rfl ((if0 _ _).trans (flt hc169).2.1) (by decide) (by decide) k) ?_
  show own_Go _ _ _ _ (s₁.setTop (mkF m 12 #[.val (.int (Int32.ofNat i))] []))
  refine own_Go.st (fun _ k => XS.iloadN X0.here hx rfl (hb hby d_jdk_52_method_3_12) rfl k) ?_
  show own_Go _ _ _ _ (s₁.setTop (mkF m 13 #[.val (.int (Int32.ofNat i))] [(.int (Int32.ofNat i))]))
  refine own_Go.st (X0.ldcInt hx hown (mvT hZ (hw _ (List.mem_of_getElem? (i := 42) rfl))) (g := (mkF m 13 #[.val (.int (Int32.ofNat i))] [(.int (Int32.ofNat i))])) rfl (hb hby d_jdk_52_method_3_13)) ?_
  show own_Go _ _ _ _ (s₁.setTop (mkF m 15 #[.val (.int (Int32.ofNat i))] [(.int (1073741823 : Int32)), (.int (Int32.ofNat i))]))
  have hc170 : (Int32.ofNat i) < (1073741823 : Int32) := by have e1 : (1073741823 : Int32).toInt = 1073741823 := (by decide); rw [Int32.lt_iff_toInt_lt, own_of (by omega), e1]; omega
  refine own_Go.st (fun _ k => XS.icmpYes X0.here hx rfl (pc0 := 15) (pc' := 55) rfl (hb hby d_jdk_52_method_3_15) rfl (tlt hc170).1 (by decide) (by decide) k) ?_
  show own_Go _ _ _ _ (s₁.setTop (mkF m 55 #[.val (.int (Int32.ofNat i))] []))
  refine own_Go.st (fun _ k => XS.iloadN X0.here hx rfl (hb hby d_jdk_52_method_3_55) rfl k) ?_
  show own_Go _ _ _ _ (s₁.setTop (mkF m 56 #[.val (.int (Int32.ofNat i))] [(.int (Int32.ofNat i))]))
  refine own_Go.st (fun _ k => XS.iconst X0.here hx rfl (hb hby d_jdk_52_method_3_56) k) ?_
  show own_Go _ _ _ _ (s₁.setTop (mkF m 57 #[.val (.int (Int32.ofNat i))] [(.int (1 : Int32)), (.int (Int32.ofNat i))]))
  refine own_Go.st (fun _ k => XS.ishl X0.here hx rfl (hb hby d_jdk_52_method_3_57) rfl k) ?_
  show own_Go _ _ _ _ (s₁.setTop (mkF m 58 #[.val (.int (Int32.ofNat i))] [(.int ((Int32.ofNat i) <<< ((1 : Int32) &&& 31)))]))
  obtain ⟨fs171, hr171, hrun171, hend171, hW171, hsm171⟩ := X0.leave (v := some (.int ((Int32.ofNat i) <<< ((1 : Int32) &&& 31)))) (fun h => by rw [Bd.returns] at h; cases h)
  subst hPP
  refine ⟨_, _, own_retI X0 hx Bd.returns (hb hby d_jdk_52_method_3_58) hr171, hrun171, hend171, _, _, rfl, ?_, ⟨_, rfl⟩, hW171, hsm171.mono (by decide) (by decide)⟩
  · show Q_nbl Z _ _ h0 _ s₁.heap _
    rw [e0]
    exact ⟨(by rw [own_shl1 (by omega)]), N0, rfl⟩
theorem d_jdk_52_method_2_0 : decode jdk_52_method_2_code 0 = .ok (.iload_n 0, 1) := by decide +kernel
theorem pd_109 : parseMethodDescriptor "(I)I" = some ⟨[.int], some .int⟩ := by decide +kernel
theorem d_jdk_52_method_2_1 : decode jdk_52_method_2_code 1 = .ok (.invokestatic 11, 3) := by decide +kernel
theorem d_jdk_52_method_2_4 : decode jdk_52_method_2_code 4 = .ok (.newarray .byte, 2) := by decide +kernel
theorem d_jdk_52_method_2_6 : decode jdk_52_method_2_code 6 = .ok (.areturn, 1) := by decide +kernel
def Q_nbf (Z : State) (p1 : Int32) (i : Nat) (h0 : Heap) (v : Option Value) (h : Heap) (L : List Loc) : Prop := ∃ (x : Nat), ∃ (k : ClassId), v = some (.ref x) ∧ Fr Z.heap.size L ∧ Keep h0 h [] ∧ Arv Z h x k .byte (Int32.ofNat (2 * i)) [] (.int (0 : Int32)) ∧ (h0.size ≤ x)
set_option maxRecDepth 65536 in
set_option maxHeartbeats 40000000 in
theorem rm_nbf (l : Launch) (Z : State) (a0 : Array Value) (hw : ∀ d ∈ tables_1, d.before a0 Z = true) (ws : List Jvm.Cond) (p1 : Int32) (i : Nat) (h0 : Heap) (OL : Old Z Z.heap.size h0) (hp1 : p1 = Int32.ofNat i) (hle : i ≤ 4) :
    MetFree l (⟨"java/lang/StringUTF16", "newBytesFor", "(I)[B"⟩ : MethodName) (head1 (Jvm.Cond.code (⟨"java/lang/StringUTF16", "newBytesFor", "(I)[B"⟩ : MethodName) jdk_52_method_2_code 1 (some (.array .byte)) :: ws) ({ frames := 1, cells := 1, slots := 8, locals := 12 } : Room)) (fun a U => a = #[(.int p1)] ∧ Z.Warmed39 U.vm ∧ U.heap = h0) (fun _ _ _ _ _ => True) (fun _ U o U' => ∃ v L, o = .returned v ∧ Q_nbf Z p1 i h0 v U'.heap L ∧ FrameEnd U o U' L ({ frames := 1, cells := 1, slots := 8, locals := 12 } : Room).cells ({ frames := 1, cells := 1, slots := 8, locals := 12 } : Room).slots) := by
  refine MetFree.of_bodySF (plainFor_of_name pn_25) hisR ?_
  intro p e s m args below meth c s₁ Bd hml0 hP hK
  obtain ⟨rfl, hZ, hh⟩ := hP
  have hx := Bd.exec
  have hby := Bd.bytes
  have hml : c.maxLocals = 1 := hml0
  have hown : s.vm.findClass "java/lang/StringUTF16" = some m.cls := findClass_of_methodNamed Bd.named
  have hnm := (name_of_methodNamed Bd.named Bd.method).1
  have X0 : Stand p l e ({ frames := 1, cells := 1, slots := 8, locals := 12 } : Room) s m #[(.int p1)] below meth c s₁ [] 0 0 := Stand.of_body Bd
  have e0 : s₁.heap = h0 := by rw [← hh, Bd.state]; rfl
  have N0 := Fr.nil Z.heap.size
  have Z0 : Z.heap.size ≤ h0.size := OL.2.1
  obtain ⟨PP, hPP⟩ : ∃ PP : Outcome → State → Prop, PP = (fun o tE => ∃ v L, o = .returned v ∧ Q_nbf Z p1 i h0 v tE.heap L ∧ FrameEnd s o tE L ({ frames := 1, cells := 1, slots := 8, locals := 12 } : Room).cells ({ frames := 1, cells := 1, slots := 8, locals := 12 } : Room).slots) := ⟨_, rfl⟩
  show own_Go p.tables e below (fun o tE => ∃ v L, o = .returned v ∧ Q_nbf Z p1 i h0 v tE.heap L ∧ FrameEnd s o tE L ({ frames := 1, cells := 1, slots := 8, locals := 12 } : Room).cells ({ frames := 1, cells := 1, slots := 8, locals := 12 } : Room).slots) (s₁.setTop (entryFrame m #[(.int p1)] 1))
  rw [← hPP]
  refine own_Go.st (fun t k => castTop (ef_98 m p1) k) ?_
  show own_Go _ _ _ _ (s₁.setTop (mkF m 0 #[.val (.int p1)] []))
  refine own_Go.st (fun _ k => XS.iloadN X0.here hx rfl (hb hby d_jdk_52_method_2_0) rfl k) ?_
  show own_Go _ _ _ _ (s₁.setTop (mkF m 1 #[.val (.int p1)] [(.int p1)]))
  obtain ⟨_, _, ⟨T172, L172, k172, n172⟩, -, X172, ⟨Lc172, hQ172, l172, y172, z172⟩, st172⟩ := Jvm.LawKit.callS X0 hx (y := (⟨"java/lang/StringUTF16", "newBytesLength", "(I)I"⟩ : MethodName)) hown (mvT hZ (hw _ (List.mem_of_getElem? (i := 39) rfl))) (mvT hZ (hw _ (List.mem_of_getElem? (i := 40) rfl))) (mvT hZ (hw _ (List.mem_of_getElem? (i := 27) rfl))) (mvT hZ (hw _ (List.mem_of_getElem? (i := 41) rfl))) (by decide) (backOf (W := 0) (rm_nbl l Z a0 hw [] p1 i h0 OL hp1 (by omega)) hZ (hw _ (List.mem_of_getElem? (i := 41) rfl)) (hw _ (List.mem_of_getElem? (i := 27) rfl)) (by decide) (by decide)) (g := (mkF m 1 #[.val (.int p1)] [(.int p1)])) rfl (by rw [hml]; rfl) (argsL := [(.int p1)]) (rest := []) (lenOf pd_109 rfl) rfl (by show 2 * 0 + _ ≤ _; exact Nat.le_of_eq rfl) (hb hby d_jdk_52_method_2_1) (fun _ _ => ⟨rfl, e0, (by decide : 0 + 0 ≤ _), (by decide : 0 + 0 ≤ _)⟩)
  dsimp only [Pt.U, Pt.locs, Pt.cells, Pt.slots] at X172 l172 y172 z172 st172 hQ172
  subst l172 y172 z172
  obtain ⟨rfl, N172q, K172⟩ := hQ172
  have N172 := Fr.app N0 N172q
  refine own_Go.st st172 ?_
  show own_Go _ _ _ _ (T172.setTop (mkF m 4 #[.val (.int p1)] [(.int (Int32.ofNat (2 * i)))]))
  obtain ⟨T173, h173, k173, X173, e173, E173, A173, st173⟩ := newP X172 hx hZ (hw _ (List.mem_of_getElem? (i := 29) rfl)) K172 (g := (mkF m 4 #[.val (.int p1)] [(.int (Int32.ofNat (2 * i)))])) rfl (hb hby d_jdk_52_method_2_4) rfl (own_of0 (by omega)) (cap := 8) (by rw [own_ofn (by omega)]; omega) (by decide) (by decide) (by decide)
  obtain ⟨b173, g173⟩ : ∃ z, z = h0.size := ⟨_, rfl⟩
  rw [← g173] at A173 st173
  refine own_Go.st st173 ?_
  have z173 : h0.size ≤ h173.size := E173.1
  have f174 : Arv Z h173 b173 k173 .byte (Int32.ofNat (2 * i)) [] (.int (0 : Int32)) := Arv.new A173 (own_of0 (by omega))
  have lt_b173 : @LT.lt Nat _ b173 h173.size := f174.lt
  show own_Go _ _ _ _ (T173.setTop (mkF m 6 #[.val (.int p1)] [(.ref b173)]))
  obtain ⟨fs175, hr175, hrun175, hend175, hW175, hsm175⟩ := X173.leave (v := some (.ref b173)) (fun h => by rw [Bd.returns] at h; cases h)
  have K176 : Keep h0 h173 [] := (Keep.refl h0 []).ext E173
  subst hPP
  refine ⟨_, _, own_retA X173 hx Bd.returns rfl rfl (hb hby d_jdk_52_method_2_6) hr175, hrun175, hend175, _, _, rfl, ?_, ⟨_, rfl⟩, hW175, hsm175.mono (by decide) (by decide)⟩
  · show Q_nbf Z _ _ h0 _ T173.heap _
    rw [e173]
    exact ⟨b173, k173, rfl, N172, K176, f174, (by omega)⟩
theorem ef_113 (m : MethodId) (x0 : Nat) (x1 : Int32) (x2 : Int32) : entryFrame m #[(.ref x0), (.int x1), (.int x2)] 5 = mkF m 0 #[.val (.ref x0), .val (.int x1), .val (.int x2), .unset, .unset] [] := by first | (simp [entryFrame, mkF, argsToLocals, Value.category]; done) | rfl
theorem d_jdk_52_method_14_0 : decode jdk_52_method_14_code 0 = .ok (.iload_n 2, 1) := by decide +kernel
theorem pd_115 : parseMethodDescriptor "(I)[B" = some ⟨[.int], some (.array .byte)⟩ := by decide +kernel
theorem d_jdk_52_method_14_1 : decode jdk_52_method_14_code 1 = .ok (.invokestatic 107, 3) := by decide +kernel
theorem d_jdk_52_method_14_4 : decode jdk_52_method_14_code 4 = .ok (.astore_n 3, 1) := by decide +kernel
theorem d_jdk_52_method_14_5 : decode jdk_52_method_14_code 5 = .ok (.iconst 0, 1) := by decide +kernel
theorem d_jdk_52_method_14_6 : decode jdk_52_method_14_code 6 = .ok (.istore 4, 2) := by decide +kernel
theorem d_jdk_52_method_14_8 : decode jdk_52_method_14_code 8 = .ok (.iload 4, 2) := by decide +kernel
theorem d_jdk_52_method_14_10 : decode jdk_52_method_14_code 10 = .ok (.iload_n 2, 1) := by decide +kernel
theorem d_jdk_52_method_14_11 : decode jdk_52_method_14_code 11 = .ok (.if_icmp .ge 21, 3) := by decide +kernel
theorem d_jdk_52_method_14_14 : decode jdk_52_method_14_code 14 = .ok (.aload_n 3, 1) := by decide +kernel
theorem d_jdk_52_method_14_15 : decode jdk_52_method_14_code 15 = .ok (.iload 4, 2) := by decide +kernel
theorem d_jdk_52_method_14_17 : decode jdk_52_method_14_code 17 = .ok (.aload_n 0, 1) := by decide +kernel
theorem d_jdk_52_method_14_18 : decode jdk_52_method_14_code 18 = .ok (.iload_n 1, 1) := by decide +kernel
theorem d_jdk_52_method_14_19 : decode jdk_52_method_14_code 19 = .ok (.caload, 1) := by decide +kernel
theorem pd_128 : parseMethodDescriptor "([BII)V" = some ⟨[(.array .byte), .int, .int], none⟩ := by decide +kernel
theorem d_jdk_52_method_14_20 : decode jdk_52_method_14_code 20 = .ok (.invokestatic 111, 3) := by decide +kernel
theorem d_jdk_52_method_14_23 : decode jdk_52_method_14_code 23 = .ok (.iinc 1 1, 3) := by decide +kernel
theorem d_jdk_52_method_14_26 : decode jdk_52_method_14_code 26 = .ok (.iinc 4 1, 3) := by decide +kernel
theorem d_jdk_52_method_14_29 : decode jdk_52_method_14_code 29 = .ok (.goto (-21), 3) := by decide +kernel
theorem d_jdk_52_method_14_32 : decode jdk_52_method_14_code 32 = .ok (.aload_n 3, 1) := by decide +kernel
theorem d_jdk_52_method_14_33 : decode jdk_52_method_14_code 33 = .ok (.areturn, 1) := by decide +kernel
def Q_tob (Z : State) (a1 : Nat) (nn : Int32) (cs : List Int32) (k1 : ClassId) (d1 : Value) (h0 : Heap) (v : Option Value) (h : Heap) (L : List Loc) : Prop := ∃ (x : Nat), ∃ (k : ClassId), v = some (.ref x) ∧ Fr Z.heap.size L ∧ Keep h0 h [] ∧ Arv Z h x k .byte (Int32.ofNat (2 * cs.length)) (StrChars.Road.wideBytes cs) (.int (0 : Int32)) ∧ (h0.size ≤ x)
set_option maxRecDepth 65536 in
set_option maxHeartbeats 40000000 in
theorem rm_tob (l : Launch) (Z : State) (a0 : Array Value) (hw : ∀ d ∈ tables_1, d.before a0 Z = true) (ws : List Jvm.Cond) (a1 : Nat) (nn : Int32) (cs : List Int32) (k1 : ClassId) (d1 : Value) (h0 : Heap) (OL : Old Z Z.heap.size h0) (p0_ : Arv Z h0 a1 k1 .char nn (cs.map Value.int) d1) (st__assertionsDisabled : Sta Z Z.heap "java/lang/StringUTF16" "$assertionsDisabled" "Z" (.int (1 : Int32))) (st_HI_BYTE_SHIFT : Sta Z Z.heap "java/lang/StringUTF16" "HI_BYTE_SHIFT" "I" (.int (0 : Int32))) (st_LO_BYTE_SHIFT : Sta Z Z.heap "java/lang/StringUTF16" "LO_BYTE_SHIFT" "I" (.int (8 : Int32))) (hnn : nn = Int32.ofNat cs.length) (hle : cs.length ≤ 4) :
    MetFree l (⟨"java/lang/StringUTF16", "toBytes", "([CII)[B"⟩ : MethodName) (head1 (Jvm.Cond.code (⟨"java/lang/StringUTF16", "toBytes", "([CII)[B"⟩ : MethodName) jdk_52_method_14_code 5 (some (.array .byte)) :: ws) ({ frames := 2, cells := 1, slots := 8, locals := 24 } : Room)) (fun a U => a = #[(.ref a1), (.int (0 : Int32)), (.int nn)] ∧ Z.Warmed39 U.vm ∧ U.heap = h0) (fun _ _ _ _ _ => True) (fun _ U o U' => ∃ v L, o = .returned v ∧ Q_tob Z a1 nn cs k1 d1 h0 v U'.heap L ∧ FrameEnd U o U' L ({ frames := 2, cells := 1, slots := 8, locals := 24 } : Room).cells ({ frames := 2, cells := 1, slots := 8, locals := 24 } : Room).slots) := by
  refine MetFree.of_bodySF (plainFor_of_name pn_25) hisR ?_
  intro p e s m args below meth c s₁ Bd hml0 hP hK
  obtain ⟨rfl, hZ, hh⟩ := hP
  have hx := Bd.exec
  have hby := Bd.bytes
  have hml : c.maxLocals = 5 := hml0
  have hown : s.vm.findClass "java/lang/StringUTF16" = some m.cls := findClass_of_methodNamed Bd.named
  have hnm := (name_of_methodNamed Bd.named Bd.method).1
  have X0 : Stand p l e ({ frames := 2, cells := 1, slots := 8, locals := 24 } : Room) s m #[(.ref a1), (.int (0 : Int32)), (.int nn)] below meth c s₁ [] 0 0 := Stand.of_body Bd
  have e0 : s₁.heap = h0 := by rw [← hh, Bd.state]; rfl
  have N0 := Fr.nil Z.heap.size
  have Z0 : Z.heap.size ≤ h0.size := OL.2.1
  have lt_0 : @LT.lt Nat _ a1 h0.size := p0_.lt
  obtain ⟨PP, hPP⟩ : ∃ PP : Outcome → State → Prop, PP = (fun o tE => ∃ v L, o = .returned v ∧ Q_tob Z a1 nn cs k1 d1 h0 v tE.heap L ∧ FrameEnd s o tE L ({ frames := 2, cells := 1, slots := 8, locals := 24 } : Room).cells ({ frames := 2, cells := 1, slots := 8, locals := 24 } : Room).slots) := ⟨_, rfl⟩
  show own_Go p.tables e below (fun o tE => ∃ v L, o = .returned v ∧ Q_tob Z a1 nn cs k1 d1 h0 v tE.heap L ∧ FrameEnd s o tE L ({ frames := 2, cells := 1, slots := 8, locals := 24 } : Room).cells ({ frames := 2, cells := 1, slots := 8, locals := 24 } : Room).slots) (s₁.setTop (entryFrame m #[(.ref a1), (.int (0 : Int32)), (.int nn)] 5))
  rw [← hPP]
  refine own_Go.st (fun t k => castTop (ef_113 m a1 (0 : Int32) nn) k) ?_
  show own_Go _ _ _ _ (s₁.setTop (mkF m 0 #[.val (.ref a1), .val (.int (0 : Int32)), .val (.int nn), .unset, .unset] []))
  refine own_Go.st (fun _ k => XS.iloadN X0.here hx rfl (hb hby d_jdk_52_method_14_0) rfl k) ?_
  show own_Go _ _ _ _ (s₁.setTop (mkF m 1 #[.val (.ref a1), .val (.int (0 : Int32)), .val (.int nn), .unset, .unset] [(.int nn)]))
  obtain ⟨_, _, ⟨T177, L177, k177, n177⟩, -, X177, ⟨Lc177, hQ177, l177, y177, z177⟩, st177⟩ := Jvm.LawKit.callS X0 hx (y := (⟨"java/lang/StringUTF16", "newBytesFor", "(I)[B"⟩ : MethodName)) hown (mvT hZ (hw _ (List.mem_of_getElem? (i := 36) rfl))) (mvT hZ (hw _ (List.mem_of_getElem? (i := 37) rfl))) (mvT hZ (hw _ (List.mem_of_getElem? (i := 27) rfl))) (mvT hZ (hw _ (List.mem_of_getElem? (i := 38) rfl))) (by decide) (backOf (W := 0) (rm_nbf l Z a0 hw [] nn cs.length h0 OL hnn hle) hZ (hw _ (List.mem_of_getElem? (i := 38) rfl)) (hw _ (List.mem_of_getElem? (i := 27) rfl)) (by decide) (by decide)) (g := (mkF m 1 #[.val (.ref a1), .val (.int (0 : Int32)), .val (.int nn), .unset, .unset] [(.int nn)])) rfl (by rw [hml]; rfl) (argsL := [(.int nn)]) (rest := []) (lenOf pd_115 rfl) rfl (by show 2 * 0 + _ ≤ _; exact Nat.le_of_eq rfl) (hb hby d_jdk_52_method_14_1) (fun _ _ => ⟨rfl, e0, (by decide : 0 + 1 ≤ _), (by decide : 0 + 8 ≤ _)⟩)
  dsimp only [Pt.U, Pt.locs, Pt.cells, Pt.slots] at X177 l177 y177 z177 st177 hQ177
  subst l177 y177 z177
  obtain ⟨x_177, k_177, rfl, N177q, K177, f177_0, pr177_0⟩ := hQ177
  have N177 := Fr.app N0 N177q
  have z177 : h0.size ≤ T177.heap.size := K177.1
  have lt177_0 : @LT.lt Nat _ x_177 T177.heap.size := f177_0.lt
  have hx1 := pr177_0
  refine own_Go.st st177 ?_
  show own_Go _ _ _ _ (T177.setTop (mkF m 4 #[.val (.ref a1), .val (.int (0 : Int32)), .val (.int nn), .unset, .unset] [(.ref x_177)]))
  refine own_Go.st (fun _ k => XS.astoreN X177.here hx rfl (hb hby d_jdk_52_method_14_4) rfl rfl (l' := #[.val (.ref a1), .val (.int (0 : Int32)), .val (.int nn), .val (.ref x_177), .unset]) rfl k) ?_
  show own_Go _ _ _ _ (T177.setTop (mkF m 5 #[.val (.ref a1), .val (.int (0 : Int32)), .val (.int nn), .val (.ref x_177), .unset] []))
  refine own_Go.st (fun _ k => XS.iconst X177.here hx rfl (hb hby d_jdk_52_method_14_5) k) ?_
  show own_Go _ _ _ _ (T177.setTop (mkF m 6 #[.val (.ref a1), .val (.int (0 : Int32)), .val (.int nn), .val (.ref x_177), .unset] [(.int (0 : Int32))]))
  refine own_Go.st (fun _ k => XS.istore X177.here hx rfl (hb hby d_jdk_52_method_14_6) rfl (l' := #[.val (.ref a1), .val (.int (0 : Int32)), .val (.int nn), .val (.ref x_177), .val (.int (0 : Int32))]) rfl k) ?_
  show own_Go _ _ _ _ (T177.setTop (mkF m 8 #[.val (.ref a1), .val (.int (0 : Int32)), .val (.int nn), .val (.ref x_177), .val (.int (0 : Int32))] []))
  have f178 : Arv Z T177.heap x_177 k_177 .byte (Int32.ofNat (2 * cs.length)) ([] ++ List.replicate (2 * cs.length) (.int (0 : Int32))) (.int (0 : Int32)) := f177_0.pad (pad_rep [] _ _)
  have LP179 : ∀ (nL : Nat) (i : Nat) (vsL : List Value) (TL179 : State) (hL179 : Heap) (lL179 : List Loc), (i ≤ cs.length) → (vsL.length = 2 * cs.length) → (∀ j, j < i → vsL.getD (2 * j) (.int (0 : Int32)) = .int (StrChars.lo8 (cs.getD j 0)) ∧ vsL.getD (2 * j + 1) (.int (0 : Int32)) = .int (StrChars.hi8 (cs.getD j 0))) → (Stand p l e ({ frames := 2, cells := 1, slots := 8, locals := 24 } : Room) s m #[(.ref a1), (.int (0 : Int32)), (.int nn)] below meth c TL179 lL179 1 8) → (TL179.heap = hL179) → (Fr Z.heap.size lL179) → (Keep h0 hL179 []) → (Old Z Z.heap.size hL179) → (Arv Z hL179 a1 k1 .char nn (cs.map Value.int) d1) → (Arv Z hL179 x_177 k_177 .byte (Int32.ofNat (2 * cs.length)) vsL (.int (0 : Int32))) → cs.length - i = nL → own_Go p.tables e below PP (TL179.setTop (mkF m 8 #[.val (.ref a1), .val (.int (Int32.ofNat i)), .val (.int nn), .val (.ref x_177), .val (.int (Int32.ofNat i))] [])) := by
    intro nL
    induction nL using Nat.strongRecOn with
    | _ nL ihL =>
      intro i vsL TL179 hL179 lL179 hi hvL hinv XL179 eL179 NL179 KL179 OL179 fL179_0 fL179_1 hmL
      have zL179 : h0.size ≤ hL179.size := KL179.1
      have ltL179_0 : @LT.lt Nat _ a1 hL179.size := fL179_0.lt
      have ltL179_1 : @LT.lt Nat _ x_177 hL179.size := fL179_1.lt
      refine own_Go.st (fun _ k => XS.iload XL179.here hx rfl (hb hby d_jdk_52_method_14_8) rfl k) ?_
      show own_Go _ _ _ _ (TL179.setTop (mkF m 10 #[.val (.ref a1), .val (.int (Int32.ofNat i)), .val (.int nn), .val (.ref x_177), .val (.int (Int32.ofNat i))] [(.int (Int32.ofNat i))]))
      refine own_Go.st (fun _ k => XS.iloadN XL179.here hx rfl (hb hby d_jdk_52_method_14_10) rfl k) ?_
      show own_Go _ _ _ _ (TL179.setTop (mkF m 11 #[.val (.ref a1), .val (.int (Int32.ofNat i)), .val (.int nn), .val (.ref x_177), .val (.int (Int32.ofNat i))] [(.int nn), (.int (Int32.ofNat i))]))
      by_cases h11 : (Int32.ofNat i) < nn
      ·
        refine own_Go.st (fun _ k => XS.icmpNo XL179.here hx rfl (hb hby d_jdk_52_method_14_11) rfl (tlt h11).2.1 k) ?_
        show own_Go _ _ _ _ (TL179.setTop (mkF m 14 #[.val (.ref a1), .val (.int (Int32.ofNat i)), .val (.int nn), .val (.ref x_177), .val (.int (Int32.ofNat i))] []))
        have hi7 : i < cs.length := (own_oflt (by omega) (by omega)).mp (hnn ▸ h11)
        refine own_Go.st (fun _ k => XS.aloadN XL179.here hx rfl (hb hby d_jdk_52_method_14_14) rfl rfl k) ?_
        show own_Go _ _ _ _ (TL179.setTop (mkF m 15 #[.val (.ref a1), .val (.int (Int32.ofNat i)), .val (.int nn), .val (.ref x_177), .val (.int (Int32.ofNat i))] [(.ref x_177)]))
        refine own_Go.st (fun _ k => XS.iload XL179.here hx rfl (hb hby d_jdk_52_method_14_15) rfl k) ?_
        show own_Go _ _ _ _ (TL179.setTop (mkF m 17 #[.val (.ref a1), .val (.int (Int32.ofNat i)), .val (.int nn), .val (.ref x_177), .val (.int (Int32.ofNat i))] [(.int (Int32.ofNat i)), (.ref x_177)]))
        refine own_Go.st (fun _ k => XS.aloadN XL179.here hx rfl (hb hby d_jdk_52_method_14_17) rfl rfl k) ?_
        show own_Go _ _ _ _ (TL179.setTop (mkF m 18 #[.val (.ref a1), .val (.int (Int32.ofNat i)), .val (.int nn), .val (.ref x_177), .val (.int (Int32.ofNat i))] [(.ref a1), (.int (Int32.ofNat i)), (.ref x_177)]))
        refine own_Go.st (fun _ k => XS.iloadN XL179.here hx rfl (hb hby d_jdk_52_method_14_18) rfl k) ?_
        show own_Go _ _ _ _ (TL179.setTop (mkF m 19 #[.val (.ref a1), .val (.int (Int32.ofNat i)), .val (.int nn), .val (.ref x_177), .val (.int (Int32.ofNat i))] [(.int (Int32.ofNat i)), (.ref a1), (.int (Int32.ofNat i)), (.ref x_177)]))
        obtain ⟨c180, Ar180, q180, S180, Nn180, H180, G180⟩ := id fL179_0
        have hin180 : ¬ ((Int32.ofNat i) < 0 ∨ c180.slots.size ≤ ((Int32.ofNat i)).toNatClampNeg) := inb_of S180 ⟨own_of0 (by omega), h11⟩
        have hat180 : c180.slots[((Int32.ofNat i)).toNatClampNeg]? = some (.int (cs.getD i 0)) := H180.at hin180 (own_getD hi7 (by omega) _)
        refine own_Go.st (XL179.caload hx (j := (Int32.ofNat i)) (v := (.int (cs.getD i 0))) (by rw [eL179]; exact Ar180.1) (State.isArrayOf_alike hZ.alike Ar180.2.1) Ar180.2.2 hin180 hat180 (g := (mkF m 19 #[.val (.ref a1), .val (.int (Int32.ofNat i)), .val (.int nn), .val (.ref x_177), .val (.int (Int32.ofNat i))] [(.int (Int32.ofNat i)), (.ref a1), (.int (Int32.ofNat i)), (.ref x_177)])) rfl rfl (hb hby d_jdk_52_method_14_19)) ?_
        show own_Go _ _ _ _ (TL179.setTop (mkF m 20 #[.val (.ref a1), .val (.int (Int32.ofNat i)), .val (.int nn), .val (.ref x_177), .val (.int (Int32.ofNat i))] [(.int (cs.getD i 0)), (.int (Int32.ofNat i)), (.ref x_177)]))
        obtain ⟨_, _, ⟨T181, L181, k181, n181⟩, -, X181, ⟨Lc181, hQ181, l181, y181, z181⟩, st181⟩ := Jvm.LawKit.callS XL179 hx (y := (⟨"java/lang/StringUTF16", "putChar", "([BII)V"⟩ : MethodName)) hown (mvT hZ (hw _ (List.mem_of_getElem? (i := 43) rfl))) (mvT hZ (hw _ (List.mem_of_getElem? (i := 44) rfl))) (mvT hZ (hw _ (List.mem_of_getElem? (i := 27) rfl))) (mvT hZ (hw _ (List.mem_of_getElem? (i := 45) rfl))) (by decide) (backOf (W := 0) (rm_putc l Z a0 hw [] x_177 (Int32.ofNat i) (cs.getD i 0) i k_177 (Int32.ofNat (2 * cs.length)) vsL (.int (0 : Int32)) hL179 OL179 fL179_1 st__assertionsDisabled st_HI_BYTE_SHIFT st_LO_BYTE_SHIFT rfl (by omega) (by rw [hvL]) (by omega) (by omega)) hZ (hw _ (List.mem_of_getElem? (i := 45) rfl)) (hw _ (List.mem_of_getElem? (i := 27) rfl)) (by decide) (by decide)) (g := (mkF m 20 #[.val (.ref a1), .val (.int (Int32.ofNat i)), .val (.int nn), .val (.ref x_177), .val (.int (Int32.ofNat i))] [(.int (cs.getD i 0)), (.int (Int32.ofNat i)), (.ref x_177)])) rfl (by rw [hml]; rfl) (argsL := [(.ref x_177), (.int (Int32.ofNat i)), (.int (cs.getD i 0))]) (rest := []) (lenOf pd_128 rfl) rfl (by show 2 * 0 + _ ≤ _; exact Nat.le_of_eq rfl) (hb hby d_jdk_52_method_14_20) (fun _ _ => ⟨rfl, eL179, (by decide : 1 + 0 ≤ _), (by decide : 8 + 0 ≤ _)⟩)
        dsimp only [Pt.U, Pt.locs, Pt.cells, Pt.slots] at X181 l181 y181 z181 st181 hQ181
        subst l181 y181 z181
        obtain ⟨rfl, N181q, K181, f181_0⟩ := hQ181
        have N181 := Fr.app NL179 N181q
        have z181 : hL179.size ≤ T181.heap.size := K181.1
        have lt181_0 : @LT.lt Nat _ x_177 T181.heap.size := f181_0.lt
        refine own_Go.st st181 ?_
        show own_Go _ _ _ _ (T181.setTop (mkF m 23 #[.val (.ref a1), .val (.int (Int32.ofNat i)), .val (.int nn), .val (.ref x_177), .val (.int (Int32.ofNat i))] []))
        refine own_Go.st (fun _ k => XS.iinc X181.here hx rfl (hb hby d_jdk_52_method_14_23) rfl (l' := #[.val (.ref a1), .val (.int ((Int32.ofNat i) + (1 : Int32))), .val (.int nn), .val (.ref x_177), .val (.int (Int32.ofNat i))]) rfl k) ?_
        show own_Go _ _ _ _ (T181.setTop (mkF m 26 #[.val (.ref a1), .val (.int ((Int32.ofNat i) + (1 : Int32))), .val (.int nn), .val (.ref x_177), .val (.int (Int32.ofNat i))] []))
        refine own_Go.st (fun _ k => XS.iinc X181.here hx rfl (hb hby d_jdk_52_method_14_26) rfl (l' := #[.val (.ref a1), .val (.int ((Int32.ofNat i) + (1 : Int32))), .val (.int nn), .val (.ref x_177), .val (.int ((Int32.ofNat i) + (1 : Int32)))]) rfl k) ?_
        show own_Go _ _ _ _ (T181.setTop (mkF m 29 #[.val (.ref a1), .val (.int ((Int32.ofNat i) + (1 : Int32))), .val (.int nn), .val (.ref x_177), .val (.int ((Int32.ofNat i) + (1 : Int32)))] []))
        rw [own_ofS (by omega : i < 1073741823)]
        show own_Go _ _ _ _ (T181.setTop (mkF m 29 #[.val (.ref a1), .val (.int (Int32.ofNat (i + 1))), .val (.int nn), .val (.ref x_177), .val (.int (Int32.ofNat (i + 1)))] []))
        refine own_Go.st (fun _ k => XS.goto X181.here hx rfl (pc0 := 29) (pc' := 8) rfl (hb hby d_jdk_52_method_14_29) (by decide) (by decide) k) ?_
        show own_Go _ _ _ _ (T181.setTop (mkF m 8 #[.val (.ref a1), .val (.int (Int32.ofNat (i + 1))), .val (.int nn), .val (.ref x_177), .val (.int (Int32.ofNat (i + 1)))] []))
        have K182 : Keep h0 T181.heap [] := KL179.trans K181 (allS (Or.inr (by omega)) all0)
        have f183 : Old Z Z.heap.size T181.heap := OL179.keep K181 (allS (by omega) all0)
        have f184 : Arv Z T181.heap a1 k1 .char nn (cs.map Value.int) d1 := fL179_0.keep K181 (ninS (by show @Ne Nat a1 x_177; omega) nin0)
        exact ihL _ (by omega) (i + 1) ((vsL.set (2 * i) (.int (StrChars.lo8 (cs.getD i 0)))).set (2 * i + 1) (.int (StrChars.hi8 (cs.getD i 0)))) T181 T181.heap _ (by omega) (by simp only [List.length_set]; exact hvL) (fun j hj => by
          rw [own_setget (by simp only [List.length_set]; omega), own_setget (by omega), own_setget (by simp only [List.length_set]; omega), own_setget (by omega)]
          rcases Nat.lt_succ_iff_lt_or_eq.mp hj with q | q
          · have := hinv j q
            rw [if_neg (by omega), if_neg (by omega), if_neg (by omega), if_neg (by omega)]; exact this
          · subst q; rw [if_neg (by omega), if_pos rfl, if_pos rfl]; exact ⟨rfl, rfl⟩) X181 rfl N181 K182 f183 f184 f181_0 rfl
      ·
        refine own_Go.st (fun _ k => XS.icmpYes XL179.here hx rfl (pc0 := 11) (pc' := 32) rfl (hb hby d_jdk_52_method_14_11) rfl (flt h11).2.1 (by decide) (by decide) k) ?_
        show own_Go _ _ _ _ (TL179.setTop (mkF m 32 #[.val (.ref a1), .val (.int (Int32.ofNat i)), .val (.int nn), .val (.ref x_177), .val (.int (Int32.ofNat i))] []))
        have hi8 : i = cs.length := by
          have : ¬ i < cs.length := fun q => h11 (hnn ▸ (own_oflt (by omega) (by omega)).mpr q)
          omega
        refine own_Go.st (fun _ k => XS.aloadN XL179.here hx rfl (hb hby d_jdk_52_method_14_32) rfl rfl k) ?_
        show own_Go _ _ _ _ (TL179.setTop (mkF m 33 #[.val (.ref a1), .val (.int (Int32.ofNat i)), .val (.int nn), .val (.ref x_177), .val (.int (Int32.ofNat i))] [(.ref x_177)]))
        obtain ⟨fs185, hr185, hrun185, hend185, hW185, hsm185⟩ := XL179.leave (v := some (.ref x_177)) (fun h => by rw [Bd.returns] at h; cases h)
        have hwide : vsL = StrChars.Road.wideBytes cs := own_wide cs (.int (0 : Int32)) vsL hvL (fun j hj => hinv j (by omega))
        rw [hwide] at fL179_1
        subst hPP
        refine ⟨_, _, own_retA XL179 hx Bd.returns rfl rfl (hb hby d_jdk_52_method_14_33) hr185, hrun185, hend185, _, _, rfl, ?_, ⟨_, rfl⟩, hW185, hsm185.mono (by decide) (by decide)⟩
        · show Q_tob Z _ _ _ _ _ h0 _ TL179.heap _
          rw [eL179]
          exact ⟨x_177, k_177, rfl, NL179, KL179, fL179_1, (by omega)⟩
  have K186 : Keep h0 T177.heap [] := (Keep.refl h0 []).trans K177 all0
  have f187 : Old Z Z.heap.size T177.heap := OL.keep K177 all0
  have f188 : Arv Z T177.heap a1 k1 .char nn (cs.map Value.int) d1 := p0_.keep K177 nin0
  exact LP179 _ 0 ([] ++ List.replicate (2 * cs.length) (.int (0 : Int32))) T177 T177.heap _ (Nat.zero_le _) (by simp) (fun j hj => absurd hj (Nat.not_lt_zero j)) X177 rfl N177 K186 f187 f188 f178 rfl
theorem ef_135 (m : MethodId) (x0 : Nat) (x1 : Int32) (x2 : Int32) : entryFrame m #[(.ref x0), (.int x1), (.int x2)] 6 = mkF m 0 #[.val (.ref x0), .val (.int x1), .val (.int x2), .unset, .unset, .unset] [] := by first | (simp [entryFrame, mkF, argsToLocals, Value.category]; done) | rfl
theorem d_jdk_52_method_16_0 : decode jdk_52_method_16_code 0 = .ok (.iload_n 2, 1) := by decide +kernel
theorem d_jdk_52_method_16_1 : decode jdk_52_method_16_code 1 = .ok (.newarray .byte, 2) := by decide +kernel
theorem d_jdk_52_method_16_3 : decode jdk_52_method_16_code 3 = .ok (.astore_n 3, 1) := by decide +kernel
theorem d_jdk_52_method_16_4 : decode jdk_52_method_16_code 4 = .ok (.aload_n 0, 1) := by decide +kernel
theorem d_jdk_52_method_16_5 : decode jdk_52_method_16_code 5 = .ok (.iload_n 1, 1) := by decide +kernel
theorem d_jdk_52_method_16_6 : decode jdk_52_method_16_code 6 = .ok (.aload_n 3, 1) := by decide +kernel
theorem d_jdk_52_method_16_7 : decode jdk_52_method_16_code 7 = .ok (.iconst 0, 1) := by decide +kernel
theorem d_jdk_52_method_16_8 : decode jdk_52_method_16_code 8 = .ok (.iload_n 2, 1) := by decide +kernel
theorem pd_144 : parseMethodDescriptor "([CI[BII)I" = some ⟨[(.array .char), .int, (.array .byte), .int, .int], some .int⟩ := by decide +kernel
theorem d_jdk_52_method_16_9 : decode jdk_52_method_16_code 9 = .ok (.invokestatic 115, 3) := by decide +kernel
theorem d_jdk_52_method_16_12 : decode jdk_52_method_16_code 12 = .ok (.istore 4, 2) := by decide +kernel
theorem d_jdk_52_method_16_14 : decode jdk_52_method_16_code 14 = .ok (.iload 4, 2) := by decide +kernel
theorem d_jdk_52_method_16_16 : decode jdk_52_method_16_code 16 = .ok (.iload_n 2, 1) := by decide +kernel
theorem d_jdk_52_method_16_17 : decode jdk_52_method_16_code 17 = .ok (.if_icmp .eq 40, 3) := by decide +kernel
theorem d_jdk_52_method_16_20 : decode jdk_52_method_16_code 20 = .ok (.aload_n 0, 1) := by decide +kernel
theorem d_jdk_52_method_16_21 : decode jdk_52_method_16_code 21 = .ok (.iload_n 1, 1) := by decide +kernel
theorem d_jdk_52_method_16_22 : decode jdk_52_method_16_code 22 = .ok (.iload_n 2, 1) := by decide +kernel
theorem pd_153 : parseMethodDescriptor "([CII)[B" = some ⟨[(.array .char), .int, .int], some (.array .byte)⟩ := by decide +kernel
theorem d_jdk_52_method_16_23 : decode jdk_52_method_16_code 23 = .ok (.invokestatic 119, 3) := by decide +kernel
theorem d_jdk_52_method_16_26 : decode jdk_52_method_16_code 26 = .ok (.astore 5, 2) := by decide +kernel
theorem d_jdk_52_method_16_28 : decode jdk_52_method_16_code 28 = .ok (.aload 5, 2) := by decide +kernel
theorem d_jdk_52_method_16_30 : decode jdk_52_method_16_code 30 = .ok (.iload 4, 2) := by decide +kernel
theorem pd_158 : parseMethodDescriptor "([BI)C" = some ⟨[(.array .byte), .int], some .char⟩ := by decide +kernel
theorem d_jdk_52_method_16_32 : decode jdk_52_method_16_code 32 = .ok (.invokestatic 71, 3) := by decide +kernel
theorem d_jdk_52_method_16_35 : decode jdk_52_method_16_code 35 = .ok (.sipush 255, 3) := by decide +kernel
theorem d_jdk_52_method_16_38 : decode jdk_52_method_16_code 38 = .ok (.if_icmp .gt 16, 3) := by decide +kernel
theorem d_jdk_52_method_16_54 : decode jdk_52_method_16_code 54 = .ok (.aload 5, 2) := by decide +kernel
theorem d_jdk_52_method_16_56 : decode jdk_52_method_16_code 56 = .ok (.areturn, 1) := by decide +kernel
def Q_cmp3 (Z : State) (a1 : Nat) (nn : Int32) (cs : List Int32) (k1 : ClassId) (d1 : Value) (h0 : Heap) (v : Option Value) (h : Heap) (L : List Loc) : Prop := ∃ (x : Nat), ∃ (k : ClassId), v = some (.ref x) ∧ Fr Z.heap.size L ∧ Keep h0 h [] ∧ Arv Z h x k .byte (Int32.ofNat (2 * cs.length)) (StrChars.Road.wideBytes cs) (.int (0 : Int32)) ∧ (h0.size ≤ x)
set_option maxRecDepth 65536 in
set_option maxHeartbeats 40000000 in
theorem rm_cmp3 (l : Launch) (Z : State) (a0 : Array Value) (hw : ∀ d ∈ tables_1, d.before a0 Z = true) (ws : List Jvm.Cond) (a1 : Nat) (nn : Int32) (cs : List Int32) (k1 : ClassId) (d1 : Value) (h0 : Heap) (OL : Old Z Z.heap.size h0) (p0_ : Arv Z h0 a1 k1 .char nn (cs.map Value.int) d1) (st__assertionsDisabled : Sta Z Z.heap "java/lang/StringUTF16" "$assertionsDisabled" "Z" (.int (1 : Int32))) (st_HI_BYTE_SHIFT : Sta Z Z.heap "java/lang/StringUTF16" "HI_BYTE_SHIFT" "I" (.int (0 : Int32))) (st_LO_BYTE_SHIFT : Sta Z Z.heap "java/lang/StringUTF16" "LO_BYTE_SHIFT" "I" (.int (8 : Int32))) (hnn : nn = Int32.ofNat cs.length) (hle : cs.length ≤ 4) (hbig : ∃ c ∈ cs, (255 : Int32) < c) (hrng : ∀ c ∈ cs, ¬ c < 0 ∧ ¬ (65535 : Int32) < c) :
    MetFree l (⟨"java/lang/StringUTF16", "compress", "([CII)[B"⟩ : MethodName) (head1 (Jvm.Cond.code (⟨"java/lang/StringUTF16", "compress", "([CII)[B"⟩ : MethodName) jdk_52_method_16_code 6 (some (.array .byte)) :: ws) ({ frames := 3, cells := 2, slots := 12, locals := 42 } : Room)) (fun a U => a = #[(.ref a1), (.int (0 : Int32)), (.int nn)] ∧ Z.Warmed39 U.vm ∧ U.heap = h0) (fun _ _ _ _ _ => True) (fun _ U o U' => ∃ v L, o = .returned v ∧ Q_cmp3 Z a1 nn cs k1 d1 h0 v U'.heap L ∧ FrameEnd U o U' L ({ frames := 3, cells := 2, slots := 12, locals := 42 } : Room).cells ({ frames := 3, cells := 2, slots := 12, locals := 42 } : Room).slots) := by
  refine MetFree.of_bodySF (plainFor_of_name pn_25) hisR ?_
  intro p e s m args below meth c s₁ Bd hml0 hP hK
  obtain ⟨rfl, hZ, hh⟩ := hP
  have hx := Bd.exec
  have hby := Bd.bytes
  have hml : c.maxLocals = 6 := hml0
  have hown : s.vm.findClass "java/lang/StringUTF16" = some m.cls := findClass_of_methodNamed Bd.named
  have hnm := (name_of_methodNamed Bd.named Bd.method).1
  have X0 : Stand p l e ({ frames := 3, cells := 2, slots := 12, locals := 42 } : Room) s m #[(.ref a1), (.int (0 : Int32)), (.int nn)] below meth c s₁ [] 0 0 := Stand.of_body Bd
  have e0 : s₁.heap = h0 := by rw [← hh, Bd.state]; rfl
  have N0 := Fr.nil Z.heap.size
  have Z0 : Z.heap.size ≤ h0.size := OL.2.1
  have lt_0 : @LT.lt Nat _ a1 h0.size := p0_.lt
  obtain ⟨PP, hPP⟩ : ∃ PP : Outcome → State → Prop, PP = (fun o tE => ∃ v L, o = .returned v ∧ Q_cmp3 Z a1 nn cs k1 d1 h0 v tE.heap L ∧ FrameEnd s o tE L ({ frames := 3, cells := 2, slots := 12, locals := 42 } : Room).cells ({ frames := 3, cells := 2, slots := 12, locals := 42 } : Room).slots) := ⟨_, rfl⟩
  show own_Go p.tables e below (fun o tE => ∃ v L, o = .returned v ∧ Q_cmp3 Z a1 nn cs k1 d1 h0 v tE.heap L ∧ FrameEnd s o tE L ({ frames := 3, cells := 2, slots := 12, locals := 42 } : Room).cells ({ frames := 3, cells := 2, slots := 12, locals := 42 } : Room).slots) (s₁.setTop (entryFrame m #[(.ref a1), (.int (0 : Int32)), (.int nn)] 6))
  rw [← hPP]
  refine own_Go.st (fun t k => castTop (ef_135 m a1 (0 : Int32) nn) k) ?_
  show own_Go _ _ _ _ (s₁.setTop (mkF m 0 #[.val (.ref a1), .val (.int (0 : Int32)), .val (.int nn), .unset, .unset, .unset] []))
  refine own_Go.st (fun _ k => XS.iloadN X0.here hx rfl (hb hby d_jdk_52_method_16_0) rfl k) ?_
  show own_Go _ _ _ _ (s₁.setTop (mkF m 1 #[.val (.ref a1), .val (.int (0 : Int32)), .val (.int nn), .unset, .unset, .unset] [(.int nn)]))
  obtain ⟨T189, h189, k189, X189, e189, E189, A189, st189⟩ := newP X0 hx hZ (hw _ (List.mem_of_getElem? (i := 29) rfl)) e0 (g := (mkF m 1 #[.val (.ref a1), .val (.int (0 : Int32)), .val (.int nn), .unset, .unset, .unset] [(.int nn)])) rfl (hb hby d_jdk_52_method_16_1) rfl (by rw [hnn]; exact own_of0 (by omega)) (cap := 4) (by rw [hnn, own_ofn (by omega)]; omega) (by decide) (by decide) (by decide)
  obtain ⟨b189, g189⟩ : ∃ z, z = h0.size := ⟨_, rfl⟩
  rw [← g189] at A189 st189
  refine own_Go.st st189 ?_
  have z189 : h0.size ≤ h189.size := E189.1
  have f190 : Arv Z h189 b189 k189 .byte nn [] (.int (0 : Int32)) := Arv.new A189 (by rw [hnn]; exact own_of0 (by omega))
  have lt_b189 : @LT.lt Nat _ b189 h189.size := f190.lt
  show own_Go _ _ _ _ (T189.setTop (mkF m 3 #[.val (.ref a1), .val (.int (0 : Int32)), .val (.int nn), .unset, .unset, .unset] [(.ref b189)]))
  refine own_Go.st (fun _ k => XS.astoreN X189.here hx rfl (hb hby d_jdk_52_method_16_3) rfl rfl (l' := #[.val (.ref a1), .val (.int (0 : Int32)), .val (.int nn), .val (.ref b189), .unset, .unset]) rfl k) ?_
  show own_Go _ _ _ _ (T189.setTop (mkF m 4 #[.val (.ref a1), .val (.int (0 : Int32)), .val (.int nn), .val (.ref b189), .unset, .unset] []))
  refine own_Go.st (fun _ k => XS.aloadN X189.here hx rfl (hb hby d_jdk_52_method_16_4) rfl rfl k) ?_
  show own_Go _ _ _ _ (T189.setTop (mkF m 5 #[.val (.ref a1), .val (.int (0 : Int32)), .val (.int nn), .val (.ref b189), .unset, .unset] [(.ref a1)]))
  refine own_Go.st (fun _ k => XS.iloadN X189.here hx rfl (hb hby d_jdk_52_method_16_5) rfl k) ?_
  show own_Go _ _ _ _ (T189.setTop (mkF m 6 #[.val (.ref a1), .val (.int (0 : Int32)), .val (.int nn), .val (.ref b189), .unset, .unset] [(.int (0 : Int32)), (.ref a1)]))
  refine own_Go.st (fun _ k => XS.aloadN X189.here hx rfl (hb hby d_jdk_52_method_16_6) rfl rfl k) ?_
  show own_Go _ _ _ _ (T189.setTop (mkF m 7 #[.val (.ref a1), .val (.int (0 : Int32)), .val (.int nn), .val (.ref b189), .unset, .unset] [(.ref b189), (.int (0 : Int32)), (.ref a1)]))
  refine own_Go.st (fun _ k => XS.iconst X189.here hx rfl (hb hby d_jdk_52_method_16_7) k) ?_
  show own_Go _ _ _ _ (T189.setTop (mkF m 8 #[.val (.ref a1), .val (.int (0 : Int32)), .val (.int nn), .val (.ref b189), .unset, .unset] [(.int (0 : Int32)), (.ref b189), (.int (0 : Int32)), (.ref a1)]))
  refine own_Go.st (fun _ k => XS.iloadN X189.here hx rfl (hb hby d_jdk_52_method_16_8) rfl k) ?_
  show own_Go _ _ _ _ (T189.setTop (mkF m 9 #[.val (.ref a1), .val (.int (0 : Int32)), .val (.int nn), .val (.ref b189), .unset, .unset] [(.int nn), (.int (0 : Int32)), (.ref b189), (.int (0 : Int32)), (.ref a1)]))
  have f192 : Arv Z h189 a1 k1 .char nn (cs.map Value.int) d1 := p0_.ext E189
  have f193 : Old Z Z.heap.size h189 := OL.ext E189
  obtain ⟨_, _, ⟨T191, L191, k191, n191⟩, -, X191, ⟨Lc191, hQ191, l191, y191, z191⟩, st191⟩ := Jvm.LawKit.callS X189 hx (y := (⟨"java/lang/StringUTF16", "compress", "([CI[BII)I"⟩ : MethodName)) hown (mvT hZ (hw _ (List.mem_of_getElem? (i := 30) rfl))) (mvT hZ (hw _ (List.mem_of_getElem? (i := 31) rfl))) (mvT hZ (hw _ (List.mem_of_getElem? (i := 27) rfl))) (mvT hZ (hw _ (List.mem_of_getElem? (i := 32) rfl))) (by decide) (backOf (W := 0) (rm_cmp5 l Z a0 hw [] a1 b189 nn cs k1 d1 k189 [] (.int (0 : Int32)) h189 f193 f192 f190 (by first | assumption | decide) (by omega) (by first | assumption | decide) (by omega)) hZ (hw _ (List.mem_of_getElem? (i := 32) rfl)) (hw _ (List.mem_of_getElem? (i := 27) rfl)) (by decide) (by decide)) (g := (mkF m 9 #[.val (.ref a1), .val (.int (0 : Int32)), .val (.int nn), .val (.ref b189), .unset, .unset] [(.int nn), (.int (0 : Int32)), (.ref b189), (.int (0 : Int32)), (.ref a1)])) rfl (by rw [hml]; rfl) (argsL := [(.ref a1), (.int (0 : Int32)), (.ref b189), (.int (0 : Int32)), (.int nn)]) (rest := []) (lenOf pd_144 rfl) rfl (by show 2 * 0 + _ ≤ _; exact Nat.le_of_eq rfl) (hb hby d_jdk_52_method_16_9) (fun _ _ => ⟨rfl, e189, (by decide : 1 + 0 ≤ _), (by decide : 4 + 0 ≤ _)⟩)
  dsimp only [Pt.U, Pt.locs, Pt.cells, Pt.slots] at X191 l191 y191 z191 st191 hQ191
  subst l191 y191 z191
  obtain ⟨f_191, vs4_191, rfl, N191q, K191, f191_0, pr191_0, pr191_1⟩ := hQ191
  have N191 := Fr.app N0 N191q
  have z191 : h189.size ≤ T191.heap.size := K191.1
  have lt191_0 : @LT.lt Nat _ b189 T191.heap.size := f191_0.lt
  have hf1 := pr191_0
  have hf2 := pr191_1
  refine own_Go.st st191 ?_
  show own_Go _ _ _ _ (T191.setTop (mkF m 12 #[.val (.ref a1), .val (.int (0 : Int32)), .val (.int nn), .val (.ref b189), .unset, .unset] [(.int (Int32.ofNat f_191))]))
  refine own_Go.st (fun _ k => XS.istore X191.here hx rfl (hb hby d_jdk_52_method_16_12) rfl (l' := #[.val (.ref a1), .val (.int (0 : Int32)), .val (.int nn), .val (.ref b189), .val (.int (Int32.ofNat f_191)), .unset]) rfl k) ?_
  show own_Go _ _ _ _ (T191.setTop (mkF m 14 #[.val (.ref a1), .val (.int (0 : Int32)), .val (.int nn), .val (.ref b189), .val (.int (Int32.ofNat f_191)), .unset] []))
  refine own_Go.st (fun _ k => XS.iload X191.here hx rfl (hb hby d_jdk_52_method_16_14) rfl k) ?_
  show own_Go _ _ _ _ (T191.setTop (mkF m 16 #[.val (.ref a1), .val (.int (0 : Int32)), .val (.int nn), .val (.ref b189), .val (.int (Int32.ofNat f_191)), .unset] [(.int (Int32.ofNat f_191))]))
  refine own_Go.st (fun _ k => XS.iloadN X191.here hx rfl (hb hby d_jdk_52_method_16_16) rfl k) ?_
  show own_Go _ _ _ _ (T191.setTop (mkF m 17 #[.val (.ref a1), .val (.int (0 : Int32)), .val (.int nn), .val (.ref b189), .val (.int (Int32.ofNat f_191)), .unset] [(.int nn), (.int (Int32.ofNat f_191))]))
  have hc194 : ¬ ((Int32.ofNat f_191) = nn) := by rw [hnn]; intro q; have := congrArg Int32.toInt q; rw [own_of (by omega), own_of (by omega)] at this; omega
  refine own_Go.st (fun _ k => XS.icmpNo X191.here hx rfl (hb hby d_jdk_52_method_16_17) rfl (feq hc194).1 k) ?_
  show own_Go _ _ _ _ (T191.setTop (mkF m 20 #[.val (.ref a1), .val (.int (0 : Int32)), .val (.int nn), .val (.ref b189), .val (.int (Int32.ofNat f_191)), .unset] []))
  refine own_Go.st (fun _ k => XS.aloadN X191.here hx rfl (hb hby d_jdk_52_method_16_20) rfl rfl k) ?_
  show own_Go _ _ _ _ (T191.setTop (mkF m 21 #[.val (.ref a1), .val (.int (0 : Int32)), .val (.int nn), .val (.ref b189), .val (.int (Int32.ofNat f_191)), .unset] [(.ref a1)]))
  refine own_Go.st (fun _ k => XS.iloadN X191.here hx rfl (hb hby d_jdk_52_method_16_21) rfl k) ?_
  show own_Go _ _ _ _ (T191.setTop (mkF m 22 #[.val (.ref a1), .val (.int (0 : Int32)), .val (.int nn), .val (.ref b189), .val (.int (Int32.ofNat f_191)), .unset] [(.int (0 : Int32)), (.ref a1)]))
  refine own_Go.st (fun _ k => XS.iloadN X191.here hx rfl (hb hby d_jdk_52_method_16_22) rfl k) ?_
  show own_Go _ _ _ _ (T191.setTop (mkF m 23 #[.val (.ref a1), .val (.int (0 : Int32)), .val (.int nn), .val (.ref b189), .val (.int (Int32.ofNat f_191)), .unset] [(.int nn), (.int (0 : Int32)), (.ref a1)]))
  have f196 : Arv Z T191.heap a1 k1 .char nn (cs.map Value.int) d1 := f192.keep K191 (ninS (by show @Ne Nat a1 b189; omega) nin0)
  have f197 : Old Z Z.heap.size T191.heap := f193.keep K191 (allS (by omega) all0)
  obtain ⟨_, _, ⟨T195, L195, k195, n195⟩, -, X195, ⟨Lc195, hQ195, l195, y195, z195⟩, st195⟩ := Jvm.LawKit.callS X191 hx (y := (⟨"java/lang/StringUTF16", "toBytes", "([CII)[B"⟩ : MethodName)) hown (mvT hZ (hw _ (List.mem_of_getElem? (i := 33) rfl))) (mvT hZ (hw _ (List.mem_of_getElem? (i := 34) rfl))) (mvT hZ (hw _ (List.mem_of_getElem? (i := 27) rfl))) (mvT hZ (hw _ (List.mem_of_getElem? (i := 35) rfl))) (by decide) (backOf (W := 0) (rm_tob l Z a0 hw [] a1 nn cs k1 d1 T191.heap f197 f196 st__assertionsDisabled st_HI_BYTE_SHIFT st_LO_BYTE_SHIFT (by first | assumption | decide) (by first | assumption | decide)) hZ (hw _ (List.mem_of_getElem? (i := 35) rfl)) (hw _ (List.mem_of_getElem? (i := 27) rfl)) (by decide) (by decide)) (g := (mkF m 23 #[.val (.ref a1), .val (.int (0 : Int32)), .val (.int nn), .val (.ref b189), .val (.int (Int32.ofNat f_191)), .unset] [(.int nn), (.int (0 : Int32)), (.ref a1)])) rfl (by rw [hml]; rfl) (argsL := [(.ref a1), (.int (0 : Int32)), (.int nn)]) (rest := []) (lenOf pd_153 rfl) rfl (by show 2 * 0 + _ ≤ _; exact Nat.le_of_eq rfl) (hb hby d_jdk_52_method_16_23) (fun _ _ => ⟨rfl, rfl, (by decide : 1 + 1 ≤ _), (by decide : 4 + 8 ≤ _)⟩)
  dsimp only [Pt.U, Pt.locs, Pt.cells, Pt.slots] at X195 l195 y195 z195 st195 hQ195
  subst l195 y195 z195
  obtain ⟨x_195, k_195, rfl, N195q, K195, f195_0, pr195_0⟩ := hQ195
  have N195 := Fr.app N191 N195q
  have z195 : T191.heap.size ≤ T195.heap.size := K195.1
  have lt195_0 : @LT.lt Nat _ x_195 T195.heap.size := f195_0.lt
  refine own_Go.st st195 ?_
  show own_Go _ _ _ _ (T195.setTop (mkF m 26 #[.val (.ref a1), .val (.int (0 : Int32)), .val (.int nn), .val (.ref b189), .val (.int (Int32.ofNat f_191)), .unset] [(.ref x_195)]))
  refine own_Go.st (fun _ k => XS.astore X195.here hx rfl (hb hby d_jdk_52_method_16_26) rfl rfl (l' := #[.val (.ref a1), .val (.int (0 : Int32)), .val (.int nn), .val (.ref b189), .val (.int (Int32.ofNat f_191)), .val (.ref x_195)]) rfl k) ?_
  show own_Go _ _ _ _ (T195.setTop (mkF m 28 #[.val (.ref a1), .val (.int (0 : Int32)), .val (.int nn), .val (.ref b189), .val (.int (Int32.ofNat f_191)), .val (.ref x_195)] []))
  refine own_Go.st (fun _ k => XS.aload X195.here hx rfl (hb hby d_jdk_52_method_16_28) rfl rfl k) ?_
  show own_Go _ _ _ _ (T195.setTop (mkF m 30 #[.val (.ref a1), .val (.int (0 : Int32)), .val (.int nn), .val (.ref b189), .val (.int (Int32.ofNat f_191)), .val (.ref x_195)] [(.ref x_195)]))
  refine own_Go.st (fun _ k => XS.iload X195.here hx rfl (hb hby d_jdk_52_method_16_30) rfl k) ?_
  show own_Go _ _ _ _ (T195.setTop (mkF m 32 #[.val (.ref a1), .val (.int (0 : Int32)), .val (.int nn), .val (.ref b189), .val (.int (Int32.ofNat f_191)), .val (.ref x_195)] [(.int (Int32.ofNat f_191)), (.ref x_195)]))
  have f199 : Old Z Z.heap.size T195.heap := f197.keep K195 all0
  obtain ⟨_, _, ⟨T198, L198, k198, n198⟩, -, X198, ⟨Lc198, hQ198, l198, y198, z198⟩, st198⟩ := Jvm.LawKit.callS X195 hx (y := (⟨"java/lang/StringUTF16", "getChar", "([BI)C"⟩ : MethodName)) hown (mvT hZ (hw _ (List.mem_of_getElem? (i := 49) rfl))) (mvT hZ (hw _ (List.mem_of_getElem? (i := 50) rfl))) (mvT hZ (hw _ (List.mem_of_getElem? (i := 27) rfl))) (mvT hZ (hw _ (List.mem_of_getElem? (i := 51) rfl))) (by decide) (backOf (W := 0) (rm_getc l Z a0 hw [] x_195 (Int32.ofNat f_191) f_191 k_195 (Int32.ofNat (2 * cs.length)) (StrChars.Road.wideBytes cs) (.int (0 : Int32)) (cs.getD f_191 0) T195.heap f199 f195_0 st__assertionsDisabled st_HI_BYTE_SHIFT st_LO_BYTE_SHIFT rfl (by rw [own_wlen]; omega) (by rw [own_wlen]) (by rw [own_wlen]; omega) (StrChars.Road.wide_lo _ _ _ hf1) (StrChars.Road.wide_hi _ _ _ hf1) (hrng _ (by rw [List.getD_eq_getElem?_getD, List.getElem?_eq_getElem hf1]; exact List.getElem_mem _))) hZ (hw _ (List.mem_of_getElem? (i := 51) rfl)) (hw _ (List.mem_of_getElem? (i := 27) rfl)) (by decide) (by decide)) (g := (mkF m 32 #[.val (.ref a1), .val (.int (0 : Int32)), .val (.int nn), .val (.ref b189), .val (.int (Int32.ofNat f_191)), .val (.ref x_195)] [(.int (Int32.ofNat f_191)), (.ref x_195)])) rfl (by rw [hml]; rfl) (argsL := [(.ref x_195), (.int (Int32.ofNat f_191))]) (rest := []) (lenOf pd_158 rfl) rfl (by show 2 * 0 + _ ≤ _; exact Nat.le_of_eq rfl) (hb hby d_jdk_52_method_16_32) (fun _ _ => ⟨rfl, rfl, (by decide : 2 + 0 ≤ _), (by decide : 12 + 0 ≤ _)⟩)
  dsimp only [Pt.U, Pt.locs, Pt.cells, Pt.slots] at X198 l198 y198 z198 st198 hQ198
  subst l198 y198 z198
  obtain ⟨rfl, N198q, K198⟩ := hQ198
  have N198 := Fr.app N195 N198q
  refine own_Go.st st198 ?_
  show own_Go _ _ _ _ (T198.setTop (mkF m 35 #[.val (.ref a1), .val (.int (0 : Int32)), .val (.int nn), .val (.ref b189), .val (.int (Int32.ofNat f_191)), .val (.ref x_195)] [(.int (cs.getD f_191 0))]))
  refine own_Go.st (fun _ k => XS.sipush X198.here hx rfl (hb hby d_jdk_52_method_16_35) k) ?_
  show own_Go _ _ _ _ (T198.setTop (mkF m 38 #[.val (.ref a1), .val (.int (0 : Int32)), .val (.int nn), .val (.ref b189), .val (.int (Int32.ofNat f_191)), .val (.ref x_195)] [(.int (255 : Int32)), (.int (cs.getD f_191 0))]))
  have hc200 : (255 : Int32) < (cs.getD f_191 0) := hf2
  refine own_Go.st (fun _ k => XS.icmpYes X198.here hx rfl (pc0 := 38) (pc' := 54) rfl (hb hby d_jdk_52_method_16_38) rfl (tlt hc200).2.2.1 (by decide) (by decide) k) ?_
  show own_Go _ _ _ _ (T198.setTop (mkF m 54 #[.val (.ref a1), .val (.int (0 : Int32)), .val (.int nn), .val (.ref b189), .val (.int (Int32.ofNat f_191)), .val (.ref x_195)] []))
  refine own_Go.st (fun _ k => XS.aload X198.here hx rfl (hb hby d_jdk_52_method_16_54) rfl rfl k) ?_
  show own_Go _ _ _ _ (T198.setTop (mkF m 56 #[.val (.ref a1), .val (.int (0 : Int32)), .val (.int nn), .val (.ref b189), .val (.int (Int32.ofNat f_191)), .val (.ref x_195)] [(.ref x_195)]))
  obtain ⟨fs201, hr201, hrun201, hend201, hW201, hsm201⟩ := X198.leave (v := some (.ref x_195)) (fun h => by rw [Bd.returns] at h; cases h)
  have K202 : Keep h0 h189 [] := (Keep.refl h0 []).ext E189
  have K203 : Keep h0 T191.heap [] := K202.trans K191 (allS (Or.inr (by omega)) all0)
  have K204 : Keep h0 T195.heap [] := K203.trans K195 all0
  subst hPP
  refine ⟨_, _, own_retA X198 hx Bd.returns rfl rfl (hb hby d_jdk_52_method_16_56) hr201, hrun201, hend201, _, _, rfl, ?_, ⟨_, rfl⟩, hW201, hsm201.mono (by decide) (by decide)⟩
  · show Q_cmp3 Z _ _ _ _ _ h0 _ T198.heap _
    rw [K198]
    exact ⟨x_195, k_195, rfl, N198, K204, f195_0, (by omega)⟩
theorem d_jdk_52_method_15_0 : decode jdk_52_method_15_code 0 = .ok (.iload_n 1, 1) := by decide +kernel
theorem d_jdk_52_method_15_1 : decode jdk_52_method_15_code 1 = .ok (.aload_n 0, 1) := by decide +kernel
theorem d_jdk_52_method_15_2 : decode jdk_52_method_15_code 2 = .ok (.arraylength, 1) := by decide +kernel
theorem d_jdk_52_method_15_3 : decode jdk_52_method_15_code 3 = .ok (.isub, 1) := by decide +kernel
theorem d_jdk_52_method_15_4 : decode jdk_52_method_15_code 4 = .ok (.bipush 31, 2) := by decide +kernel
theorem d_jdk_52_method_15_6 : decode jdk_52_method_15_code 6 = .ok (.iushr, 1) := by decide +kernel
theorem d_jdk_52_method_15_7 : decode jdk_52_method_15_code 7 = .ok (.i2b, 1) := by decide +kernel
theorem d_jdk_52_method_15_8 : decode jdk_52_method_15_code 8 = .ok (.ireturn, 1) := by decide +kernel
def Q_cfal (Z : State) (a1 : Nat) (p2 : Int32) (i : Nat) (k : ClassId) (n : Int32) (vs : List Value) (d : Value) (h0 : Heap) (v : Option Value) (h : Heap) (L : List Loc) : Prop := v = some (.int (1 : Int32)) ∧ Fr Z.heap.size L ∧ h = h0
set_option maxRecDepth 65536 in
set_option maxHeartbeats 40000000 in
theorem rm_cfal (l : Launch) (Z : State) (a0 : Array Value) (hw : ∀ d ∈ tables_1, d.before a0 Z = true) (ws : List Jvm.Cond) (a1 : Nat) (p2 : Int32) (i : Nat) (k : ClassId) (n : Int32) (vs : List Value) (d : Value) (h0 : Heap) (OL : Old Z Z.heap.size h0) (p0_ : Arv Z h0 a1 k .byte n vs d) (hp2 : p2 = Int32.ofNat i) (hn2 : n = Int32.ofNat (2 * i)) (hi : 0 < i ∧ i ≤ 4000) :
    MetFree l (⟨"java/lang/StringUTF16", "coderFromArrayLen", "([BI)B"⟩ : MethodName) (head1 (Jvm.Cond.code (⟨"java/lang/StringUTF16", "coderFromArrayLen", "([BI)B"⟩ : MethodName) jdk_52_method_15_code 2 (some .byte) :: ws) ({ frames := 0, cells := 0, slots := 0, locals := 0 } : Room)) (fun a U => a = #[(.ref a1), (.int p2)] ∧ Z.Warmed39 U.vm ∧ U.heap = h0) (fun _ _ _ _ _ => True) (fun _ U o U' => ∃ v L, o = .returned v ∧ Q_cfal Z a1 p2 i k n vs d h0 v U'.heap L ∧ FrameEnd U o U' L ({ frames := 0, cells := 0, slots := 0, locals := 0 } : Room).cells ({ frames := 0, cells := 0, slots := 0, locals := 0 } : Room).slots) := by
  refine MetFree.of_bodySF (plainFor_of_name pn_25) hisR ?_
  intro p e s m args below meth c s₁ Bd hml0 hP hK
  obtain ⟨rfl, hZ, hh⟩ := hP
  have hx := Bd.exec
  have hby := Bd.bytes
  have hml : c.maxLocals = 2 := hml0
  have hown : s.vm.findClass "java/lang/StringUTF16" = some m.cls := findClass_of_methodNamed Bd.named
  have hnm := (name_of_methodNamed Bd.named Bd.method).1
  have X0 : Stand p l e ({ frames := 0, cells := 0, slots := 0, locals := 0 } : Room) s m #[(.ref a1), (.int p2)] below meth c s₁ [] 0 0 := Stand.of_body Bd
  have e0 : s₁.heap = h0 := by rw [← hh, Bd.state]; rfl
  have N0 := Fr.nil Z.heap.size
  have Z0 : Z.heap.size ≤ h0.size := OL.2.1
  have lt_0 : @LT.lt Nat _ a1 h0.size := p0_.lt
  obtain ⟨PP, hPP⟩ : ∃ PP : Outcome → State → Prop, PP = (fun o tE => ∃ v L, o = .returned v ∧ Q_cfal Z a1 p2 i k n vs d h0 v tE.heap L ∧ FrameEnd s o tE L ({ frames := 0, cells := 0, slots := 0, locals := 0 } : Room).cells ({ frames := 0, cells := 0, slots := 0, locals := 0 } : Room).slots) := ⟨_, rfl⟩
  show own_Go p.tables e below (fun o tE => ∃ v L, o = .returned v ∧ Q_cfal Z a1 p2 i k n vs d h0 v tE.heap L ∧ FrameEnd s o tE L ({ frames := 0, cells := 0, slots := 0, locals := 0 } : Room).cells ({ frames := 0, cells := 0, slots := 0, locals := 0 } : Room).slots) (s₁.setTop (entryFrame m #[(.ref a1), (.int p2)] 2))
  rw [← hPP]
  refine own_Go.st (fun t k => castTop (ef_73 m a1 p2) k) ?_
  show own_Go _ _ _ _ (s₁.setTop (mkF m 0 #[.val (.ref a1), .val (.int p2)] []))
  refine own_Go.st (fun _ k => XS.iloadN X0.here hx rfl (hb hby d_jdk_52_method_15_0) rfl k) ?_
  show own_Go _ _ _ _ (s₁.setTop (mkF m 1 #[.val (.ref a1), .val (.int p2)] [(.int p2)]))
  refine own_Go.st (fun _ k => XS.aloadN X0.here hx rfl (hb hby d_jdk_52_method_15_1) rfl rfl k) ?_
  show own_Go _ _ _ _ (s₁.setTop (mkF m 2 #[.val (.ref a1), .val (.int p2)] [(.ref a1), (.int p2)]))
  obtain ⟨c205, Ar205, q205, S205, Nn205, H205, G205⟩ := id p0_
  refine own_Go.st (X0.arraylength hx (by rw [e0]; exact Ar205.1) (State.isArrayOf_alike hZ.alike Ar205.2.1) (g := (mkF m 2 #[.val (.ref a1), .val (.int p2)] [(.ref a1), (.int p2)])) rfl rfl (hb hby d_jdk_52_method_15_2)) ?_
  rw [len_of S205 Nn205]
  show own_Go _ _ _ _ (s₁.setTop (mkF m 3 #[.val (.ref a1), .val (.int p2)] [(.int n), (.int p2)]))
  refine own_Go.st (fun _ k => XS.isub X0.here hx rfl (hb hby d_jdk_52_method_15_3) rfl k) ?_
  show own_Go _ _ _ _ (s₁.setTop (mkF m 4 #[.val (.ref a1), .val (.int p2)] [(.int (p2 - n))]))
  refine own_Go.st (fun _ k => XS.bipush X0.here hx rfl (hb hby d_jdk_52_method_15_4) k) ?_
  show own_Go _ _ _ _ (s₁.setTop (mkF m 6 #[.val (.ref a1), .val (.int p2)] [(.int (31 : Int32)), (.int (p2 - n))]))
  refine own_Go.st (fun _ k => XS.iushr X0.here hx rfl (hb hby d_jdk_52_method_15_6) rfl k) ?_
  show own_Go _ _ _ _ (s₁.setTop (mkF m 7 #[.val (.ref a1), .val (.int p2)] [(.int (((p2 - n).toUInt32 >>> ((31 : Int32) &&& 31).toUInt32).toInt32))]))
  refine own_Go.st (fun _ k => XS.i2b X0.here hx rfl (hb hby d_jdk_52_method_15_7) rfl k) ?_
  show own_Go _ _ _ _ (s₁.setTop (mkF m 8 #[.val (.ref a1), .val (.int p2)] [(.int ((((p2 - n).toUInt32 >>> ((31 : Int32) &&& 31).toUInt32).toInt32).toInt8.toInt32))]))
  obtain ⟨fs206, hr206, hrun206, hend206, hW206, hsm206⟩ := X0.leave (v := some (.int (nar .byte ((((p2 - n).toUInt32 >>> ((31 : Int32) &&& 31).toUInt32).toInt32).toInt8.toInt32)))) (fun h => by rw [Bd.returns] at h; cases h)
  subst hPP
  refine ⟨_, _, retN X0 hx (t := .byte) Bd.returns (by simp) (hb hby d_jdk_52_method_15_8) hr206, hrun206, hend206, _, _, rfl, ?_, ⟨_, rfl⟩, hW206, hsm206.mono (by decide) (by decide)⟩
  · show Q_cfal Z _ _ _ _ _ _ _ h0 _ s₁.heap _
    rw [e0]
    exact ⟨(by rw [hp2, hn2, own_cfal hi]), N0, rfl⟩
theorem d_jdk_42_method_149_27 : decode jdk_42_method_149_code 27 = .ok (.getstatic 38, 3) := by decide +kernel
theorem d_jdk_42_method_149_30 : decode jdk_42_method_149_code 30 = .ok (.ifCond .eq 28, 3) := by decide +kernel
theorem d_jdk_42_method_149_33 : decode jdk_42_method_149_code 33 = .ok (.aload_n 1, 1) := by decide +kernel
theorem d_jdk_42_method_149_34 : decode jdk_42_method_149_code 34 = .ok (.iload_n 2, 1) := by decide +kernel
theorem d_jdk_42_method_149_35 : decode jdk_42_method_149_code 35 = .ok (.iload_n 3, 1) := by decide +kernel
theorem d_jdk_42_method_149_36 : decode jdk_42_method_149_code 36 = .ok (.invokestatic 177, 3) := by decide +kernel
theorem d_jdk_42_method_149_39 : decode jdk_42_method_149_code 39 = .ok (.astore 5, 2) := by decide +kernel
theorem d_jdk_42_method_149_41 : decode jdk_42_method_149_code 41 = .ok (.aload_n 0, 1) := by decide +kernel
theorem d_jdk_42_method_149_42 : decode jdk_42_method_149_code 42 = .ok (.aload 5, 2) := by decide +kernel
theorem d_jdk_42_method_149_44 : decode jdk_42_method_149_code 44 = .ok (.iload_n 3, 1) := by decide +kernel
theorem pd_182 : parseMethodDescriptor "([BI)B" = some ⟨[(.array .byte), .int], some .byte⟩ := by decide +kernel
theorem d_jdk_42_method_149_45 : decode jdk_42_method_149_code 45 = .ok (.invokestatic 47, 3) := by decide +kernel
theorem d_jdk_42_method_149_48 : decode jdk_42_method_149_code 48 = .ok (.putfield 15, 3) := by decide +kernel
theorem d_jdk_42_method_149_51 : decode jdk_42_method_149_code 51 = .ok (.aload_n 0, 1) := by decide +kernel
theorem d_jdk_42_method_149_52 : decode jdk_42_method_149_code 52 = .ok (.aload 5, 2) := by decide +kernel
theorem d_jdk_42_method_149_54 : decode jdk_42_method_149_code 54 = .ok (.putfield 9, 3) := by decide +kernel
theorem d_jdk_42_method_149_57 : decode jdk_42_method_149_code 57 = .ok (.return_, 1) := by decide +kernel
def Q_init4u (Z : State) (a1 : Nat) (a2 : Nat) (nn : Int32) (cs : List Int32) (k1 : ClassId) (d1 : Value) (zc : Int32) (h0 : Heap) (v : Option Value) (h : Heap) (L : List Loc) : Prop := ∃ (t : Nat), v = none ∧ Fr Z.heap.size L ∧ Keep h0 h [a1] ∧ own_Str Z h a1 t cs ∧ (h0.size ≤ t)
set_option maxRecDepth 65536 in
set_option maxHeartbeats 40000000 in
theorem rm_init4u (l : Launch) (Z : State) (a0 : Array Value) (hw : ∀ d ∈ tables_1, d.before a0 Z = true) (ws : List Jvm.Cond) (a1 : Nat) (a2 : Nat) (nn : Int32) (cs : List Int32) (k1 : ClassId) (d1 : Value) (zc : Int32) (h0 : Heap) (OL : Old Z Z.heap.size h0) (p0_ : Exa Z h0 a1 "java/lang/String") (p1_ : Fld Z h0 a1 "java/lang/String" "value" "[B" .null) (p2_ : Fld Z h0 a1 "java/lang/String" "coder" "B" (.int (0 : Int32))) (p3_ : Arv Z h0 a2 k1 .char nn (cs.map Value.int) d1) (st_COMPACT_STRINGS : Sta Z Z.heap "java/lang/String" "COMPACT_STRINGS" "Z" (.int zc)) (st__assertionsDisabled : Sta Z Z.heap "java/lang/StringUTF16" "$assertionsDisabled" "Z" (.int (1 : Int32))) (st_HI_BYTE_SHIFT : Sta Z Z.heap "java/lang/StringUTF16" "HI_BYTE_SHIFT" "I" (.int (0 : Int32))) (st_LO_BYTE_SHIFT : Sta Z Z.heap "java/lang/StringUTF16" "LO_BYTE_SHIFT" "I" (.int (8 : Int32))) (hnn : nn = Int32.ofNat cs.length) (hle : cs.length ≤ 4) (hbig : ∃ c ∈ cs, (255 : Int32) < c) (hrng : ∀ c ∈ cs, ¬ c < 0 ∧ ¬ (65535 : Int32) < c) (hn0 : Z.heap.size ≤ a1) (hzc : ¬ zc = 0) :
    MetFree l (⟨"java/lang/String", "<init>", "([CIILjava/lang/Void;)V"⟩ : MethodName) (head1 (Jvm.Cond.code (⟨"java/lang/String", "<init>", "([CIILjava/lang/Void;)V"⟩ : MethodName) jdk_42_method_149_code 6 none :: ws) ({ frames := 4, cells := 2, slots := 12, locals := 59 } : Room)) (fun a U => a = #[(.ref a1), (.ref a2), (.int (0 : Int32)), (.int nn), .null] ∧ Z.Warmed39 U.vm ∧ U.heap = h0) (fun _ _ _ _ _ => True) (fun _ U o U' => ∃ v L, o = .returned v ∧ Q_init4u Z a1 a2 nn cs k1 d1 zc h0 v U'.heap L ∧ FrameEnd U o U' L ({ frames := 4, cells := 2, slots := 12, locals := 59 } : Room).cells ({ frames := 4, cells := 2, slots := 12, locals := 59 } : Room).slots) := by
  refine MetFree.of_bodySF (plainFor_of_name pn_0) hisR ?_
  intro p e s m args below meth c s₁ Bd hml0 hP hK
  obtain ⟨rfl, hZ, hh⟩ := hP
  have hx := Bd.exec
  have hby := Bd.bytes
  have hml : c.maxLocals = 6 := hml0
  have hown : s.vm.findClass "java/lang/String" = some m.cls := findClass_of_methodNamed Bd.named
  have hnm := (name_of_methodNamed Bd.named Bd.method).1
  have X0 : Stand p l e ({ frames := 4, cells := 2, slots := 12, locals := 59 } : Room) s m #[(.ref a1), (.ref a2), (.int (0 : Int32)), (.int nn), .null] below meth c s₁ [] 0 0 := Stand.of_body Bd
  have e0 : s₁.heap = h0 := by rw [← hh, Bd.state]; rfl
  have N0 := Fr.nil Z.heap.size
  have Z0 : Z.heap.size ≤ h0.size := OL.2.1
  have lt_0 : @LT.lt Nat _ a1 h0.size := p0_.lt
  have lt_1 : @LT.lt Nat _ a1 h0.size := p1_.lt
  have lt_2 : @LT.lt Nat _ a1 h0.size := p2_.lt
  have lt_3 : @LT.lt Nat _ a2 h0.size := p3_.lt
  obtain ⟨PP, hPP⟩ : ∃ PP : Outcome → State → Prop, PP = (fun o tE => ∃ v L, o = .returned v ∧ Q_init4u Z a1 a2 nn cs k1 d1 zc h0 v tE.heap L ∧ FrameEnd s o tE L ({ frames := 4, cells := 2, slots := 12, locals := 59 } : Room).cells ({ frames := 4, cells := 2, slots := 12, locals := 59 } : Room).slots) := ⟨_, rfl⟩
  show own_Go p.tables e below (fun o tE => ∃ v L, o = .returned v ∧ Q_init4u Z a1 a2 nn cs k1 d1 zc h0 v tE.heap L ∧ FrameEnd s o tE L ({ frames := 4, cells := 2, slots := 12, locals := 59 } : Room).cells ({ frames := 4, cells := 2, slots := 12, locals := 59 } : Room).slots) (s₁.setTop (entryFrame m #[(.ref a1), (.ref a2), (.int (0 : Int32)), (.int nn), .null] 6))
  rw [← hPP]
  refine own_Go.st (fun t k => castTop (ef_1 m a1 a2 (0 : Int32) nn) k) ?_
  show own_Go _ _ _ _ (s₁.setTop (mkF m 0 #[.val (.ref a1), .val (.ref a2), .val (.int (0 : Int32)), .val (.int nn), .val .null, .unset] []))
  refine own_Go.st (fun _ k => XS.aloadN X0.here hx rfl (hb hby d_jdk_42_method_149_0) rfl rfl k) ?_
  show own_Go _ _ _ _ (s₁.setTop (mkF m 1 #[.val (.ref a1), .val (.ref a2), .val (.int (0 : Int32)), .val (.int nn), .val .null, .unset] [(.ref a1)]))
  obtain ⟨T207, X207, e207, st207⟩ := initO X0 hx hZ hown (hw _ (List.mem_of_getElem? (i := 21) rfl)) (hw _ (List.mem_of_getElem? (i := 22) rfl)) (hw _ (List.mem_of_getElem? (i := 23) rfl)) e0 (g := (mkF m 1 #[.val (.ref a1), .val (.ref a2), .val (.int (0 : Int32)), .val (.int nn), .val .null, .unset] [(.ref a1)])) rfl (by rw [hml]; rfl) rfl (hb hby d_jdk_42_method_149_1) (by decide) (W := 0) (by show 2 * 0 + _ ≤ _; exact Nat.le_of_eq rfl) (by decide)
  refine own_Go.st st207 ?_
  show own_Go _ _ _ _ (T207.setTop (mkF m 4 #[.val (.ref a1), .val (.ref a2), .val (.int (0 : Int32)), .val (.int nn), .val .null, .unset] []))
  refine own_Go.st (fun _ k => XS.iloadN X207.here hx rfl (hb hby d_jdk_42_method_149_4) rfl k) ?_
  show own_Go _ _ _ _ (T207.setTop (mkF m 5 #[.val (.ref a1), .val (.ref a2), .val (.int (0 : Int32)), .val (.int nn), .val .null, .unset] [(.int nn)]))
  have hc208 : ¬ (nn = (0 : Int32)) := by have e0 : (0 : Int32).toInt = 0 := (by decide); have hl : 0 < cs.length := (by obtain ⟨c, hc, -⟩ := hbig; exact List.length_pos_of_mem hc); rw [hnn]; intro q; have q2 := congrArg Int32.toInt q; rw [own_of (by omega), e0] at q2; omega
  refine own_Go.st (fun _ k => XS.ifYes X207.here hx rfl (pc0 := 5) (pc' := 27) rfl (hb hby d_jdk_42_method_149_5) rfl ((if0 _ _).trans (feq hc208).2) (by decide) (by decide) k) ?_
  show own_Go _ _ _ _ (T207.setTop (mkF m 27 #[.val (.ref a1), .val (.ref a2), .val (.int (0 : Int32)), .val (.int nn), .val .null, .unset] []))
  obtain ⟨T209, X209, e209, st209⟩ := getS2 X207 hx hZ hown (host := "") (Or.inl (hw _ (List.mem_of_getElem? (i := 24) rfl))) Via.refl e207 (st_COMPACT_STRINGS.ext OL.2) (g := (mkF m 27 #[.val (.ref a1), .val (.ref a2), .val (.int (0 : Int32)), .val (.int nn), .val .null, .unset] [])) rfl (hb hby d_jdk_42_method_149_27)
  refine own_Go.st st209 ?_
  show own_Go _ _ _ _ (T209.setTop (mkF m 30 #[.val (.ref a1), .val (.ref a2), .val (.int (0 : Int32)), .val (.int nn), .val .null, .unset] [(.int zc)]))
  have hc210 : ¬ (zc = (0 : Int32)) := hzc
  refine own_Go.st (fun _ k => XS.ifNo X209.here hx rfl (hb hby d_jdk_42_method_149_30) rfl ((if0 _ _).trans (feq hc210).1) k) ?_
  show own_Go _ _ _ _ (T209.setTop (mkF m 33 #[.val (.ref a1), .val (.ref a2), .val (.int (0 : Int32)), .val (.int nn), .val .null, .unset] []))
  refine own_Go.st (fun _ k => XS.aloadN X209.here hx rfl (hb hby d_jdk_42_method_149_33) rfl rfl k) ?_
  show own_Go _ _ _ _ (T209.setTop (mkF m 34 #[.val (.ref a1), .val (.ref a2), .val (.int (0 : Int32)), .val (.int nn), .val .null, .unset] [(.ref a2)]))
  refine own_Go.st (fun _ k => XS.iloadN X209.here hx rfl (hb hby d_jdk_42_method_149_34) rfl k) ?_
  show own_Go _ _ _ _ (T209.setTop (mkF m 35 #[.val (.ref a1), .val (.ref a2), .val (.int (0 : Int32)), .val (.int nn), .val .null, .unset] [(.int (0 : Int32)), (.ref a2)]))
  refine own_Go.st (fun _ k => XS.iloadN X209.here hx rfl (hb hby d_jdk_42_method_149_35) rfl k) ?_
  show own_Go _ _ _ _ (T209.setTop (mkF m 36 #[.val (.ref a1), .val (.ref a2), .val (.int (0 : Int32)), .val (.int nn), .val .null, .unset] [(.int nn), (.int (0 : Int32)), (.ref a2)]))
  obtain ⟨_, _, ⟨T211, L211, k211, n211⟩, -, X211, ⟨Lc211, hQ211, l211, y211, z211⟩, st211⟩ := Jvm.LawKit.callS X209 hx (y := (⟨"java/lang/StringUTF16", "compress", "([CII)[B"⟩ : MethodName)) hown (mvT hZ (hw _ (List.mem_of_getElem? (i := 25) rfl))) (mvT hZ (hw _ (List.mem_of_getElem? (i := 26) rfl))) (mvT hZ (hw _ (List.mem_of_getElem? (i := 27) rfl))) (mvT hZ (hw _ (List.mem_of_getElem? (i := 28) rfl))) (by decide) (backOf (W := 0) (rm_cmp3 l Z a0 hw [] a2 nn cs k1 d1 h0 OL p3_ st__assertionsDisabled st_HI_BYTE_SHIFT st_LO_BYTE_SHIFT (by first | assumption | decide) (by first | assumption | decide) (by first | assumption | decide) (by first | assumption | decide)) hZ (hw _ (List.mem_of_getElem? (i := 28) rfl)) (hw _ (List.mem_of_getElem? (i := 27) rfl)) (by decide) (by decide)) (g := (mkF m 36 #[.val (.ref a1), .val (.ref a2), .val (.int (0 : Int32)), .val (.int nn), .val .null, .unset] [(.int nn), (.int (0 : Int32)), (.ref a2)])) rfl (by rw [hml]; rfl) (argsL := [(.ref a2), (.int (0 : Int32)), (.int nn)]) (rest := []) (lenOf pd_153 rfl) rfl (by show 2 * 0 + _ ≤ _; exact Nat.le_of_eq rfl) (hb hby d_jdk_42_method_149_36) (fun _ _ => ⟨rfl, e209, (by decide : 0 + 2 ≤ _), (by decide : 0 + 12 ≤ _)⟩)
  dsimp only [Pt.U, Pt.locs, Pt.cells, Pt.slots] at X211 l211 y211 z211 st211 hQ211
  subst l211 y211 z211
  obtain ⟨x_211, k_211, rfl, N211q, K211, f211_0, pr211_0⟩ := hQ211
  have N211 := Fr.app N0 N211q
  have z211 : h0.size ≤ T211.heap.size := K211.1
  have lt211_0 : @LT.lt Nat _ x_211 T211.heap.size := f211_0.lt
  refine own_Go.st st211 ?_
  show own_Go _ _ _ _ (T211.setTop (mkF m 39 #[.val (.ref a1), .val (.ref a2), .val (.int (0 : Int32)), .val (.int nn), .val .null, .unset] [(.ref x_211)]))
  refine own_Go.st (fun _ k => XS.astore X211.here hx rfl (hb hby d_jdk_42_method_149_39) rfl rfl (l' := #[.val (.ref a1), .val (.ref a2), .val (.int (0 : Int32)), .val (.int nn), .val .null, .val (.ref x_211)]) rfl k) ?_
  show own_Go _ _ _ _ (T211.setTop (mkF m 41 #[.val (.ref a1), .val (.ref a2), .val (.int (0 : Int32)), .val (.int nn), .val .null, .val (.ref x_211)] []))
  refine own_Go.st (fun _ k => XS.aloadN X211.here hx rfl (hb hby d_jdk_42_method_149_41) rfl rfl k) ?_
  show own_Go _ _ _ _ (T211.setTop (mkF m 42 #[.val (.ref a1), .val (.ref a2), .val (.int (0 : Int32)), .val (.int nn), .val .null, .val (.ref x_211)] [(.ref a1)]))
  refine own_Go.st (fun _ k => XS.aload X211.here hx rfl (hb hby d_jdk_42_method_149_42) rfl rfl k) ?_
  show own_Go _ _ _ _ (T211.setTop (mkF m 44 #[.val (.ref a1), .val (.ref a2), .val (.int (0 : Int32)), .val (.int nn), .val .null, .val (.ref x_211)] [(.ref x_211), (.ref a1)]))
  refine own_Go.st (fun _ k => XS.iloadN X211.here hx rfl (hb hby d_jdk_42_method_149_44) rfl k) ?_
  show own_Go _ _ _ _ (T211.setTop (mkF m 45 #[.val (.ref a1), .val (.ref a2), .val (.int (0 : Int32)), .val (.int nn), .val .null, .val (.ref x_211)] [(.int nn), (.ref x_211), (.ref a1)]))
  have f213 : Old Z Z.heap.size T211.heap := OL.keep K211 all0
  obtain ⟨_, _, ⟨T212, L212, k212, n212⟩, -, X212, ⟨Lc212, hQ212, l212, y212, z212⟩, st212⟩ := Jvm.LawKit.callS X211 hx (y := (⟨"java/lang/StringUTF16", "coderFromArrayLen", "([BI)B"⟩ : MethodName)) hown (mvT hZ (hw _ (List.mem_of_getElem? (i := 52) rfl))) (mvT hZ (hw _ (List.mem_of_getElem? (i := 53) rfl))) (mvT hZ (hw _ (List.mem_of_getElem? (i := 27) rfl))) (mvT hZ (hw _ (List.mem_of_getElem? (i := 54) rfl))) (by decide) (backOf (W := 1) (rm_cfal l Z a0 hw [] x_211 nn cs.length k_211 (Int32.ofNat (2 * cs.length)) (StrChars.Road.wideBytes cs) (.int (0 : Int32)) T211.heap f213 f211_0 hnn rfl ⟨(by obtain ⟨c, hc, -⟩ := hbig; exact List.length_pos_of_mem hc), by omega⟩) hZ (hw _ (List.mem_of_getElem? (i := 54) rfl)) (hw _ (List.mem_of_getElem? (i := 27) rfl)) (by decide) (by decide)) (g := (mkF m 45 #[.val (.ref a1), .val (.ref a2), .val (.int (0 : Int32)), .val (.int nn), .val .null, .val (.ref x_211)] [(.int nn), (.ref x_211), (.ref a1)])) rfl (by rw [hml]; rfl) (argsL := [(.ref x_211), (.int nn)]) (rest := [(.ref a1)]) (lenOf pd_182 rfl) rfl (by show 2 * 0 + _ ≤ _; exact Nat.le_of_eq rfl) (hb hby d_jdk_42_method_149_45) (fun _ _ => ⟨rfl, rfl, (by decide : 2 + 0 ≤ _), (by decide : 12 + 0 ≤ _)⟩)
  dsimp only [Pt.U, Pt.locs, Pt.cells, Pt.slots] at X212 l212 y212 z212 st212 hQ212
  subst l212 y212 z212
  obtain ⟨rfl, N212q, K212⟩ := hQ212
  have N212 := Fr.app N211 N212q
  refine own_Go.st st212 ?_
  show own_Go _ _ _ _ (T212.setTop (mkF m 48 #[.val (.ref a1), .val (.ref a2), .val (.int (0 : Int32)), .val (.int nn), .val .null, .val (.ref x_211)] [(.int (1 : Int32)), (.ref a1)]))
  have f214 : Fld Z T211.heap a1 "java/lang/String" "coder" "B" (.int (0 : Int32)) := p2_.keep K211 nin0
  have f215 : Exa Z T211.heap a1 "java/lang/String" := p0_.keep K211
  obtain ⟨T216, h216, X216, e216, W216, st216⟩ := putF X212 hx hZ hown (host := "") (Or.inl (hw _ (List.mem_of_getElem? (i := 55) rfl))) Via.refl K212 f214 f215 (Or.inr ⟨(hw _ (List.mem_of_getElem? (i := 56) rfl)), rfl, hnm⟩) (hw _ (List.mem_of_getElem? (i := 11) rfl)) (ty := .byte) (by decide) rfl (by decide) (g := (mkF m 48 #[.val (.ref a1), .val (.ref a2), .val (.int (0 : Int32)), .val (.int nn), .val .null, .val (.ref x_211)] [(.int (1 : Int32)), (.ref a1)])) rfl rfl (hb hby d_jdk_42_method_149_48)
  refine own_Go.st st216 ?_
  have N216 := Fr.snoc X216 N212 (by omega)
  have z216 : T211.heap.size ≤ h216.size := Nat.le_of_eq W216.size.symm
  have f217 : Fld Z h216 a1 "java/lang/String" "coder" "B" (.int (1 : Int32)) := f214.same W216
  show own_Go _ _ _ _ (T216.setTop (mkF m 51 #[.val (.ref a1), .val (.ref a2), .val (.int (0 : Int32)), .val (.int nn), .val .null, .val (.ref x_211)] []))
  refine own_Go.st (fun _ k => XS.aloadN X216.here hx rfl (hb hby d_jdk_42_method_149_51) rfl rfl k) ?_
  show own_Go _ _ _ _ (T216.setTop (mkF m 52 #[.val (.ref a1), .val (.ref a2), .val (.int (0 : Int32)), .val (.int nn), .val .null, .val (.ref x_211)] [(.ref a1)]))
  refine own_Go.st (fun _ k => XS.aload X216.here hx rfl (hb hby d_jdk_42_method_149_52) rfl rfl k) ?_
  show own_Go _ _ _ _ (T216.setTop (mkF m 54 #[.val (.ref a1), .val (.ref a2), .val (.int (0 : Int32)), .val (.int nn), .val .null, .val (.ref x_211)] [(.ref x_211), (.ref a1)]))
  have f218 : Fld Z T211.heap a1 "java/lang/String" "value" "[B" .null := p1_.keep K211 nin0
  have f219 : Fld Z h216 a1 "java/lang/String" "value" "[B" .null := f218.other W216 (Or.inr (slot_ne (Or.inr (hw _ (List.mem_of_getElem? (i := 58) rfl))) (Or.inr (hw _ (List.mem_of_getElem? (i := 56) rfl))) (by decide) (t := (.array .byte)) (t' := .byte) (by decide) (by decide)))
  have f220 : Exa Z h216 a1 "java/lang/String" := f215.wr W216
  obtain ⟨T221, h221, X221, e221, W221, st221⟩ := putF X216 hx hZ hown (host := "") (Or.inl (hw _ (List.mem_of_getElem? (i := 57) rfl))) Via.refl e216 f219 f220 (Or.inr ⟨(hw _ (List.mem_of_getElem? (i := 58) rfl)), rfl, hnm⟩) (hw _ (List.mem_of_getElem? (i := 11) rfl)) (ty := (.array .byte)) (by decide) rfl rfl (g := (mkF m 54 #[.val (.ref a1), .val (.ref a2), .val (.int (0 : Int32)), .val (.int nn), .val .null, .val (.ref x_211)] [(.ref x_211), (.ref a1)])) rfl rfl (hb hby d_jdk_42_method_149_54)
  refine own_Go.st st221 ?_
  have N221 := Fr.snoc X221 N216 (by omega)
  have z221 : h216.size ≤ h221.size := Nat.le_of_eq W221.size.symm
  have f222 : Fld Z h221 a1 "java/lang/String" "value" "[B" (.ref x_211) := f219.same W221
  show own_Go _ _ _ _ (T221.setTop (mkF m 57 #[.val (.ref a1), .val (.ref a2), .val (.int (0 : Int32)), .val (.int nn), .val .null, .val (.ref x_211)] []))
  obtain ⟨fs223, hr223, hrun223, hend223, hW223, hsm223⟩ := X221.leave (v := none) (fun _ => rfl)
  have f224 : Fld Z h221 a1 "java/lang/String" "coder" "B" (.int (1 : Int32)) := f217.other W221 (Or.inr (slot_ne (Or.inr (hw _ (List.mem_of_getElem? (i := 56) rfl))) (Or.inr (hw _ (List.mem_of_getElem? (i := 58) rfl))) (by decide) (t := .byte) (t' := (.array .byte)) (by decide) (by decide)))
  have f225 : Exa Z h221 a1 "java/lang/String" := f220.wr W221
  have ne226 : @Ne Nat a1 x_211 := Exa.neArv f215 f211_0 (hw _ (List.mem_of_getElem? (i := 11) rfl))
  have f227 : Arv Z h216 x_211 k_211 .byte (Int32.ofNat (2 * cs.length)) (StrChars.Road.wideBytes cs) (.int (0 : Int32)) := f211_0.other W216 (Ne.symm ne226)
  have f228 : Arv Z h221 x_211 k_211 .byte (Int32.ofNat (2 * cs.length)) (StrChars.Road.wideBytes cs) (.int (0 : Int32)) := f227.other W221 (Ne.symm ne226)
  have K229 : Keep h0 T211.heap [a1] := (Keep.refl h0 [a1]).trans K211 all0
  have K230 : Keep h0 h216 [a1] := K229.wr W216 (Or.inl (List.mem_of_getElem? (i := 0) rfl))
  have K231 : Keep h0 h221 [a1] := K230.wr W221 (Or.inl (List.mem_of_getElem? (i := 0) rfl))
  subst hPP
  refine ⟨_, _, X221.returnOut hx Bd.returns (hb hby d_jdk_42_method_149_57) hr223, hrun223, hend223, _, _, rfl, ?_, ⟨_, rfl⟩, hW223, hsm223.mono (by decide) (by decide)⟩
  · show Q_init4u Z _ _ _ _ _ _ _ h0 _ T221.heap _
    rw [e221]
    exact ⟨x_211, rfl, N221, K231, ⟨k_211, 1, _, _, f225, f222, f224, f228, Or.inr ⟨rfl, rfl, rfl, hbig⟩, hrng, by omega⟩, (by omega)⟩
def Q_init1u (Z : State) (a1 : Nat) (a2 : Nat) (nn : Int32) (cs : List Int32) (k1 : ClassId) (d1 : Value) (zc : Int32) (h0 : Heap) (v : Option Value) (h : Heap) (L : List Loc) : Prop := ∃ (t : Nat), v = none ∧ Fr Z.heap.size L ∧ Keep h0 h [a1] ∧ own_Str Z h a1 t cs ∧ (h0.size ≤ t)
set_option maxRecDepth 65536 in
set_option maxHeartbeats 40000000 in
theorem rm_init1u (l : Launch) (Z : State) (a0 : Array Value) (hw : ∀ d ∈ tables_1, d.before a0 Z = true) (ws : List Jvm.Cond) (a1 : Nat) (a2 : Nat) (nn : Int32) (cs : List Int32) (k1 : ClassId) (d1 : Value) (zc : Int32) (h0 : Heap) (OL : Old Z Z.heap.size h0) (p0_ : Exa Z h0 a1 "java/lang/String") (p1_ : Fld Z h0 a1 "java/lang/String" "value" "[B" .null) (p2_ : Fld Z h0 a1 "java/lang/String" "coder" "B" (.int (0 : Int32))) (p3_ : Arv Z h0 a2 k1 .char nn (cs.map Value.int) d1) (st_COMPACT_STRINGS : Sta Z Z.heap "java/lang/String" "COMPACT_STRINGS" "Z" (.int zc)) (st__assertionsDisabled : Sta Z Z.heap "java/lang/StringUTF16" "$assertionsDisabled" "Z" (.int (1 : Int32))) (st_HI_BYTE_SHIFT : Sta Z Z.heap "java/lang/StringUTF16" "HI_BYTE_SHIFT" "I" (.int (0 : Int32))) (st_LO_BYTE_SHIFT : Sta Z Z.heap "java/lang/StringUTF16" "LO_BYTE_SHIFT" "I" (.int (8 : Int32))) (hnn : nn = Int32.ofNat cs.length) (hle : cs.length ≤ 4) (hbig : ∃ c ∈ cs, (255 : Int32) < c) (hrng : ∀ c ∈ cs, ¬ c < 0 ∧ ¬ (65535 : Int32) < c) (hn0 : Z.heap.size ≤ a1) (hzc : ¬ zc = 0) :
    MetFree l (⟨"java/lang/String", "<init>", "([C)V"⟩ : MethodName) (head1 (Jvm.Cond.code (⟨"java/lang/String", "<init>", "([C)V"⟩ : MethodName) jdk_42_method_3_code 2 none :: ws) ({ frames := 5, cells := 2, slots := 12, locals := 76 } : Room)) (fun a U => a = #[(.ref a1), (.ref a2)] ∧ Z.Warmed39 U.vm ∧ U.heap = h0) (fun _ _ _ _ _ => True) (fun _ U o U' => ∃ v L, o = .returned v ∧ Q_init1u Z a1 a2 nn cs k1 d1 zc h0 v U'.heap L ∧ FrameEnd U o U' L ({ frames := 5, cells := 2, slots := 12, locals := 76 } : Room).cells ({ frames := 5, cells := 2, slots := 12, locals := 76 } : Room).slots) := by
  refine MetFree.of_bodySF (plainFor_of_name pn_0) hisR ?_
  intro p e s m args below meth c s₁ Bd hml0 hP hK
  obtain ⟨rfl, hZ, hh⟩ := hP
  have hx := Bd.exec
  have hby := Bd.bytes
  have hml : c.maxLocals = 2 := hml0
  have hown : s.vm.findClass "java/lang/String" = some m.cls := findClass_of_methodNamed Bd.named
  have hnm := (name_of_methodNamed Bd.named Bd.method).1
  have X0 : Stand p l e ({ frames := 5, cells := 2, slots := 12, locals := 76 } : Room) s m #[(.ref a1), (.ref a2)] below meth c s₁ [] 0 0 := Stand.of_body Bd
  have e0 : s₁.heap = h0 := by rw [← hh, Bd.state]; rfl
  have N0 := Fr.nil Z.heap.size
  have Z0 : Z.heap.size ≤ h0.size := OL.2.1
  have lt_0 : @LT.lt Nat _ a1 h0.size := p0_.lt
  have lt_1 : @LT.lt Nat _ a1 h0.size := p1_.lt
  have lt_2 : @LT.lt Nat _ a1 h0.size := p2_.lt
  have lt_3 : @LT.lt Nat _ a2 h0.size := p3_.lt
  obtain ⟨PP, hPP⟩ : ∃ PP : Outcome → State → Prop, PP = (fun o tE => ∃ v L, o = .returned v ∧ Q_init1u Z a1 a2 nn cs k1 d1 zc h0 v tE.heap L ∧ FrameEnd s o tE L ({ frames := 5, cells := 2, slots := 12, locals := 76 } : Room).cells ({ frames := 5, cells := 2, slots := 12, locals := 76 } : Room).slots) := ⟨_, rfl⟩
  show own_Go p.tables e below (fun o tE => ∃ v L, o = .returned v ∧ Q_init1u Z a1 a2 nn cs k1 d1 zc h0 v tE.heap L ∧ FrameEnd s o tE L ({ frames := 5, cells := 2, slots := 12, locals := 76 } : Room).cells ({ frames := 5, cells := 2, slots := 12, locals := 76 } : Room).slots) (s₁.setTop (entryFrame m #[(.ref a1), (.ref a2)] 2))
  rw [← hPP]
  refine own_Go.st (fun t k => castTop (ef_15 m a1 a2) k) ?_
  show own_Go _ _ _ _ (s₁.setTop (mkF m 0 #[.val (.ref a1), .val (.ref a2)] []))
  refine own_Go.st (fun _ k => XS.aloadN X0.here hx rfl (hb hby d_jdk_42_method_3_0) rfl rfl k) ?_
  show own_Go _ _ _ _ (s₁.setTop (mkF m 1 #[.val (.ref a1), .val (.ref a2)] [(.ref a1)]))
  refine own_Go.st (fun _ k => XS.aloadN X0.here hx rfl (hb hby d_jdk_42_method_3_1) rfl rfl k) ?_
  show own_Go _ _ _ _ (s₁.setTop (mkF m 2 #[.val (.ref a1), .val (.ref a2)] [(.ref a2), (.ref a1)]))
  refine own_Go.st (fun _ k => XS.iconst X0.here hx rfl (hb hby d_jdk_42_method_3_2) k) ?_
  show own_Go _ _ _ _ (s₁.setTop (mkF m 3 #[.val (.ref a1), .val (.ref a2)] [(.int (0 : Int32)), (.ref a2), (.ref a1)]))
  refine own_Go.st (fun _ k => XS.aloadN X0.here hx rfl (hb hby d_jdk_42_method_3_3) rfl rfl k) ?_
  show own_Go _ _ _ _ (s₁.setTop (mkF m 4 #[.val (.ref a1), .val (.ref a2)] [(.ref a2), (.int (0 : Int32)), (.ref a2), (.ref a1)]))
  obtain ⟨c232, Ar232, q232, S232, Nn232, H232, G232⟩ := id p3_
  refine own_Go.st (X0.arraylength hx (by rw [e0]; exact Ar232.1) (State.isArrayOf_alike hZ.alike Ar232.2.1) (g := (mkF m 4 #[.val (.ref a1), .val (.ref a2)] [(.ref a2), (.int (0 : Int32)), (.ref a2), (.ref a1)])) rfl rfl (hb hby d_jdk_42_method_3_4)) ?_
  rw [len_of S232 Nn232]
  show own_Go _ _ _ _ (s₁.setTop (mkF m 5 #[.val (.ref a1), .val (.ref a2)] [(.int nn), (.int (0 : Int32)), (.ref a2), (.ref a1)]))
  refine own_Go.st (fun _ k => XS.aconstNull X0.here hx rfl (hb hby d_jdk_42_method_3_5) k) ?_
  show own_Go _ _ _ _ (s₁.setTop (mkF m 6 #[.val (.ref a1), .val (.ref a2)] [.null, (.int nn), (.int (0 : Int32)), (.ref a2), (.ref a1)]))
  obtain ⟨_, _, ⟨T233, L233, k233, n233⟩, -, X233, ⟨Lc233, hQ233, l233, y233, z233⟩, st233⟩ := X0.specialBack hx (y := (⟨"java/lang/String", "<init>", "([CIILjava/lang/Void;)V"⟩ : MethodName)) rfl hown (mvT hZ (hw _ (List.mem_of_getElem? (i := 17) rfl))) (mvT hZ (hw _ (List.mem_of_getElem? (i := 18) rfl))) (mvT hZ (hw _ (List.mem_of_getElem? (i := 20) rfl))) (by decide) (backOf (W := 0) (rm_init4u l Z a0 hw [] a1 a2 nn cs k1 d1 zc h0 OL p0_ p1_ p2_ p3_ st_COMPACT_STRINGS st__assertionsDisabled st_HI_BYTE_SHIFT st_LO_BYTE_SHIFT (by first | assumption | decide) (by first | assumption | decide) (by first | assumption | decide) (by first | assumption | decide) (by first | assumption | decide) (by first | assumption | decide)) hZ (hw _ (List.mem_of_getElem? (i := 20) rfl)) (hw _ (List.mem_of_getElem? (i := 12) rfl)) (by decide) (by decide)) (g := (mkF m 6 #[.val (.ref a1), .val (.ref a2)] [.null, (.int nn), (.int (0 : Int32)), (.ref a2), (.ref a1)])) rfl (by rw [hml]; rfl) (Steps.refl _) (a := a1) (argsL := [(.ref a2), (.int (0 : Int32)), (.int nn), .null]) (rest := []) (lenOf pd_22 rfl) rfl (by show 2 * 0 + _ ≤ _; exact Nat.le_of_eq rfl) (hb hby d_jdk_42_method_3_6) (fun _ _ => ⟨rfl, e0, (by decide : 0 + 2 ≤ _), (by decide : 0 + 12 ≤ _)⟩)
  dsimp only [Pt.U, Pt.locs, Pt.cells, Pt.slots] at X233 l233 y233 z233 st233 hQ233
  subst l233 y233 z233
  obtain ⟨t_233, rfl, N233q, K233, f233_0, pr233_0⟩ := hQ233
  have N233 := Fr.app N0 N233q
  have z233 : h0.size ≤ T233.heap.size := K233.1
  have lt233_0 : @LT.lt Nat _ a1 T233.heap.size := f233_0.lt
  have ltv233_0 : @LT.lt Nat _ t_233 T233.heap.size := f233_0.ltv
  refine own_Go.tr st233 ?_
  show own_Go _ _ _ _ (T233.setTop (mkF m 9 #[.val (.ref a1), .val (.ref a2)] []))
  obtain ⟨fs234, hr234, hrun234, hend234, hW234, hsm234⟩ := X233.leave (v := none) (fun _ => rfl)
  have K235 : Keep h0 T233.heap [a1] := (Keep.refl h0 [a1]).trans K233 (allS (Or.inl (List.mem_of_getElem? (i := 0) rfl)) all0)
  subst hPP
  refine ⟨_, _, X233.returnOut hx Bd.returns (hb hby d_jdk_42_method_3_9) hr234, hrun234, hend234, _, _, rfl, ?_, ⟨_, rfl⟩, hW234, hsm234.mono (by decide) (by decide)⟩
  · show Q_init1u Z _ _ _ _ _ _ _ h0 _ T233.heap _
    exact ⟨t_233, rfl, N233, K235, f233_0, (by omega)⟩

set_option maxHeartbeats 4000000 in
theorem own_backStr {p : Program} {l : Launch} {e : Env} {R : Room} {s : State} {args : Array Value} {below : List Frame} {len W : Nat} {Z : State} {a0 : Array Value} {h : Heap} (hZ : Z.Warmed39 s.vm) (hw : ∀ d ∈ tables_1, d.before a0 Z = true)
    {x b : Addr} {nn : Int32} {cs : List Int32} {k1 : ClassId} {d1 : Value} {zc : Int32} (OL : Old Z Z.heap.size h) (E : Exa Z h x "java/lang/String") (V : Fld Z h x "java/lang/String" "value" "[B" .null) (C : Fld Z h x "java/lang/String" "coder" "B" (.int (0 : Int32))) (K : Arv Z h b k1 .char nn (cs.map Value.int) d1)
    (s1 : Sta Z Z.heap "java/lang/String" "COMPACT_STRINGS" "Z" (.int zc)) (s2 : Sta Z Z.heap "java/lang/StringUTF16" "$assertionsDisabled" "Z" (.int (1 : Int32))) (s3 : Sta Z Z.heap "java/lang/StringUTF16" "HI_BYTE_SHIFT" "I" (.int (0 : Int32))) (s4 : Sta Z Z.heap "java/lang/StringUTF16" "LO_BYTE_SHIFT" "I" (.int (8 : Int32)))
    (hnn : nn = Int32.ofNat cs.length) (hlen : 0 < cs.length) (hle : cs.length ≤ 4) (hrng : ∀ c ∈ cs, ¬ c < 0 ∧ ¬ (65535 : Int32) < c) (hn0 : Z.heap.size ≤ x) (hzc : ¬ zc = 0) (hfr : 6 ≤ R.frames) (hlo : W + (2 + 11) + 76 ≤ R.locals) :
    Back l R p e below s args (⟨"java/lang/String", "<init>", "([C)V"⟩ : MethodName) len W (fun P a => a = #[.ref x, .ref b] ∧ P.U.heap = h ∧ P.cells + 2 ≤ R.cells ∧ P.slots + 12 ≤ R.slots)
      (fun P _ v B => ∃ L, Q_init1u Z x b nn cs k1 d1 zc h v B.U.heap L ∧ B.locs = P.locs ++ L ∧ B.cells = P.cells + 2 ∧ B.slots = P.slots + 12) := by
  by_cases hbig : ∃ c ∈ cs, (255 : Int32) < c
  · exact backOf (rm := ({ frames := 5, cells := 2, slots := 12, locals := 76 } : Room)) (rm_init1u l Z a0 hw [] x b nn cs k1 d1 zc h OL E V C K s1 s2 s3 s4 hnn hle hbig hrng hn0 hzc) hZ (hw _ (List.mem_of_getElem? (i := 16) rfl)) (hw _ (List.mem_of_getElem? (i := 12) rfl)) hfr hlo
  · have hp : ∀ c ∈ cs, ¬ c < 0 ∧ ¬ (255 : Int32) < c := fun c hc => ⟨(hrng c hc).1, fun q => hbig ⟨c, hc, q⟩⟩
    have hb := StrChars.Road.backV (p := p) (l := l) (e := e) (R := R) (s := s) (args := args) (below := below) (len := len) (W := W) hZ (own_hws hw) (kI := 4) (hw _ (List.mem_of_getElem? (i := 11) rfl)) (cs := cs) (bs := cs.map (fun c => c.toInt8.toInt32)) (n := cs.length) (n0 := Z.heap.size) hn0 (OL.2.1) E V C K (s1.ext OL.2) hzc rfl hnn hlen (by omega) hp rfl (by omega) (by omega)
    intro m meth c A g ig mk a X hg hs hd hW hm hpre
    obtain ⟨hp1, hp2, hp3, hp4⟩ := hpre
    obtain ⟨v, B, X', ⟨L, hq, hl, hc, hsl⟩, st⟩ := hb m meth c A g ig mk a X hg hs hd hW hm ⟨hp1, hp2, by omega, by omega⟩
    refine ⟨v, ⟨B.U, B.locs, A.cells + 2, A.slots + 12⟩, ?_, ⟨L, ?_, hl, rfl, rfl⟩, st⟩
    · exact X'.wide (fun x hx _ => hx) (by show B.cells ≤ A.cells + 2; omega) (by show B.slots ≤ A.slots + 12; omega)
    · obtain ⟨rfl, N, Kp, Ex, Cd, t, kb, u1, u2, u3, Vl, Ar⟩ := hq
      exact ⟨t, rfl, N, Kp, ⟨kb, 0, nn, _, Ex, Vl, Cd, Ar, hnn ▸ StrChars.Road.codOf rfl (fun c q => (hp c q).2), own_upL hp, by omega⟩, u2⟩


def own_hi (c : Int32) : Prop := ¬ c < (55296 : Int32) ∧ c < (56320 : Int32)
def own_lo (c : Int32) : Prop := ¬ c < (56320 : Int32) ∧ c < (57344 : Int32)
instance (c : Int32) : Decidable (own_hi c) := by unfold own_hi; infer_instance
instance (c : Int32) : Decidable (own_lo c) := by unfold own_lo; infer_instance
theorem own_lohi {c : Int32} (h : own_lo c) : ¬ own_hi c := fun q => h.1 q.2
def own_pairs : List Int32 → Nat
  | [] => 0
  | [_] => 0
  | a :: b :: r => if own_hi a ∧ own_lo b then 1 + own_pairs r else own_pairs (b :: r)
theorem own_pairs_le : ∀ cs : List Int32, own_pairs cs ≤ cs.length
  | [] => Nat.le_refl _
  | [_] => Nat.zero_le _
  | a :: b :: r => by
    have h1 := own_pairs_le r
    have h2 := own_pairs_le (b :: r)
    simp only [own_pairs]
    split <;> simp at h2 ⊢ <;> omega
theorem own_pairs_drop {cs : List Int32} {i : Nat} (h : i + 1 < cs.length) : own_pairs (cs.drop i) = if own_hi (cs.getD i 0) ∧ own_lo (cs.getD (i + 1) 0) then 1 + own_pairs (cs.drop (i + 2)) else own_pairs (cs.drop (i + 1)) := by
  rw [List.drop_eq_getElem_cons (by omega : i < cs.length), List.drop_eq_getElem_cons (by omega : i + 1 < cs.length)]
  simp only [own_pairs]
  have e1 : cs.getD i 0 = cs[i] := by simp [List.getD_eq_getElem?_getD, (by omega : i < cs.length)]
  have e2 : cs.getD (i + 1) 0 = cs[i + 1] := by simp [List.getD_eq_getElem?_getD, h]
  rw [e1, e2]
theorem own_pairs_end {cs : List Int32} {i : Nat} (h : ¬ i + 1 < cs.length) : own_pairs (cs.drop i) = 0 := by
  have hl : (cs.drop i).length ≤ 1 := by rw [List.length_drop]; omega
  match hq : cs.drop i with
  | [] => rfl
  | [_] => rfl
  | a :: b :: r => rw [hq] at hl; simp at hl
theorem own_lat_pairs : ∀ {cs : List Int32}, (∀ c ∈ cs, ¬ (255 : Int32) < c) → own_pairs cs = 0
  | [], _ => rfl
  | [_], _ => rfl
  | a :: b :: r, h => by
    have h1 : ¬ own_hi a := fun q => by
      have q1 := h a (by simp)
      have q2 := q.1
      rw [Int32.lt_iff_toInt_lt] at q1 q2
      have e1 : (255 : Int32).toInt = 255 := by decide
      have e2 : (55296 : Int32).toInt = 55296 := by decide
      omega
    simp only [own_pairs, h1, false_and, if_false]
    exact own_lat_pairs (fun c hc => h c (List.mem_cons_of_mem _ hc))
def own_pr (a b r : Int32) : Prop := (r = 1 ∧ own_hi a ∧ own_lo b) ∨ (r = 0 ∧ ¬ (own_hi a ∧ own_lo b))
theorem own_ofP {r : Nat} (h1 : 0 < r) (h : r ≤ 4000) : Int32.ofNat r + (-1 : Int32) = Int32.ofNat (r - 1) := by
  apply Int32.toInt_inj.mp
  have a := c_iadd (Int32.ofNat r) (-1)
  have b := own_of (i := r) (by omega)
  have c := own_of (i := r - 1) (by omega)
  have q := rng32 (Int32.ofNat r + (-1))
  have e1 : (-1 : Int32).toInt = -1 := by decide
  omega
theorem own_ofM {r : Nat} (h1 : 0 < r) (h : r ≤ 4000) : Int32.ofNat r - (1 : Int32) = Int32.ofNat (r - 1) := by
  apply Int32.toInt_inj.mp
  have a := c_isub (Int32.ofNat r) 1
  have b := own_of (i := r) (by omega)
  have c := own_of (i := r - 1) (by omega)
  have q := rng32 (Int32.ofNat r - 1)
  have e1 : (1 : Int32).toInt = 1 := by decide
  omega
theorem own_sub0 (x : Int32) : x - (0 : Int32) = x := by simp
theorem own_narI (x : Int32) : nar .int x = x := rfl

theorem pn_189 : plainName "java/lang/Character" = true := by first | (simp [plainName, overriddenIn]; done) | decide +kernel
theorem d_jdk_89_method_14_0 : decode jdk_89_method_14_code 0 = .ok (.iload_n 0, 1) := by decide +kernel
theorem d_jdk_89_method_14_1 : decode jdk_89_method_14_code 1 = .ok (.ldc 75, 2) := by decide +kernel
theorem d_jdk_89_method_14_3 : decode jdk_89_method_14_code 3 = .ok (.if_icmp .lt 13, 3) := by decide +kernel
theorem d_jdk_89_method_14_16 : decode jdk_89_method_14_code 16 = .ok (.iconst 0, 1) := by decide +kernel
theorem d_jdk_89_method_14_17 : decode jdk_89_method_14_code 17 = .ok (.ireturn, 1) := by decide +kernel
theorem d_jdk_89_method_14_6 : decode jdk_89_method_14_code 6 = .ok (.iload_n 0, 1) := by decide +kernel
theorem d_jdk_89_method_14_7 : decode jdk_89_method_14_code 7 = .ok (.ldc 76, 2) := by decide +kernel
theorem d_jdk_89_method_14_9 : decode jdk_89_method_14_code 9 = .ok (.if_icmp .ge 7, 3) := by decide +kernel
theorem d_jdk_89_method_14_12 : decode jdk_89_method_14_code 12 = .ok (.iconst 1, 1) := by decide +kernel
theorem d_jdk_89_method_14_13 : decode jdk_89_method_14_code 13 = .ok (.goto 4, 3) := by decide +kernel
def Q_ish (Z : State) (p1 : Int32) (h0 : Heap) (v : Option Value) (h : Heap) (L : List Loc) : Prop := ∃ (r : Int32), v = some (.int r) ∧ Fr Z.heap.size L ∧ h = h0 ∧ ((r = 1 ∧ own_hi p1) ∨ (r = 0 ∧ ¬ own_hi p1))
set_option maxRecDepth 65536 in
set_option maxHeartbeats 40000000 in
theorem rm_ish (l : Launch) (Z : State) (a0 : Array Value) (hw : ∀ d ∈ tables_1, d.before a0 Z = true) (ws : List Jvm.Cond) (p1 : Int32) (h0 : Heap) (OL : Old Z Z.heap.size h0) :
    MetFree l (⟨"java/lang/Character", "isHighSurrogate", "(C)Z"⟩ : MethodName) (head1 (Jvm.Cond.code (⟨"java/lang/Character", "isHighSurrogate", "(C)Z"⟩ : MethodName) jdk_89_method_14_code 1 (some .boolean) :: ws) ({ frames := 0, cells := 0, slots := 0, locals := 0 } : Room)) (fun a U => a = #[(.int p1)] ∧ Z.Warmed39 U.vm ∧ U.heap = h0) (fun _ _ _ _ _ => True) (fun _ U o U' => ∃ v L, o = .returned v ∧ Q_ish Z p1 h0 v U'.heap L ∧ FrameEnd U o U' L ({ frames := 0, cells := 0, slots := 0, locals := 0 } : Room).cells ({ frames := 0, cells := 0, slots := 0, locals := 0 } : Room).slots) := by
  refine MetFree.of_bodySF (plainFor_of_name pn_189) hisR ?_
  intro p e s m args below meth c s₁ Bd hml0 hP hK
  obtain ⟨rfl, hZ, hh⟩ := hP
  have hx := Bd.exec
  have hby := Bd.bytes
  have hml : c.maxLocals = 1 := hml0
  have hown : s.vm.findClass "java/lang/Character" = some m.cls := findClass_of_methodNamed Bd.named
  have hnm := (name_of_methodNamed Bd.named Bd.method).1
  have X0 : Stand p l e ({ frames := 0, cells := 0, slots := 0, locals := 0 } : Room) s m #[(.int p1)] below meth c s₁ [] 0 0 := Stand.of_body Bd
  have e0 : s₁.heap = h0 := by rw [← hh, Bd.state]; rfl
  have N0 := Fr.nil Z.heap.size
  have Z0 : Z.heap.size ≤ h0.size := OL.2.1
  obtain ⟨PP, hPP⟩ : ∃ PP : Outcome → State → Prop, PP = (fun o tE => ∃ v L, o = .returned v ∧ Q_ish Z p1 h0 v tE.heap L ∧ FrameEnd s o tE L ({ frames := 0, cells := 0, slots := 0, locals := 0 } : Room).cells ({ frames := 0, cells := 0, slots := 0, locals := 0 } : Room).slots) := ⟨_, rfl⟩
  show own_Go p.tables e below (fun o tE => ∃ v L, o = .returned v ∧ Q_ish Z p1 h0 v tE.heap L ∧ FrameEnd s o tE L ({ frames := 0, cells := 0, slots := 0, locals := 0 } : Room).cells ({ frames := 0, cells := 0, slots := 0, locals := 0 } : Room).slots) (s₁.setTop (entryFrame m #[(.int p1)] 1))
  rw [← hPP]
  refine own_Go.st (fun t k => castTop (ef_98 m p1) k) ?_
  show own_Go _ _ _ _ (s₁.setTop (mkF m 0 #[.val (.int p1)] []))
  refine own_Go.st (fun _ k => XS.iloadN X0.here hx rfl (hb hby d_jdk_89_method_14_0) rfl k) ?_
  show own_Go _ _ _ _ (s₁.setTop (mkF m 1 #[.val (.int p1)] [(.int p1)]))
  refine own_Go.st (X0.ldcInt hx hown (mvT hZ (hw _ (List.mem_of_getElem? (i := 127) rfl))) (g := (mkF m 1 #[.val (.int p1)] [(.int p1)])) rfl (hb hby d_jdk_89_method_14_1)) ?_
  show own_Go _ _ _ _ (s₁.setTop (mkF m 3 #[.val (.int p1)] [(.int (55296 : Int32)), (.int p1)]))
  by_cases hc236 : p1 < (55296 : Int32)
  ·
    refine own_Go.st (fun _ k => XS.icmpYes X0.here hx rfl (pc0 := 3) (pc' := 16) rfl (hb hby d_jdk_89_method_14_3) rfl (tlt hc236).1 (by decide) (by decide) k) ?_
    show own_Go _ _ _ _ (s₁.setTop (mkF m 16 #[.val (.int p1)] []))
    refine own_Go.st (fun _ k => XS.iconst X0.here hx rfl (hb hby d_jdk_89_method_14_16) k) ?_
    show own_Go _ _ _ _ (s₁.setTop (mkF m 17 #[.val (.int p1)] [(.int (0 : Int32))]))
    obtain ⟨fs237, hr237, hrun237, hend237, hW237, hsm237⟩ := X0.leave (v := some (.int (nar .boolean (0 : Int32)))) (fun h => by rw [Bd.returns] at h; cases h)
    subst hPP
    refine ⟨_, _, retN X0 hx (t := .boolean) Bd.returns (by simp) (hb hby d_jdk_89_method_14_17) hr237, hrun237, hend237, _, _, rfl, ?_, ⟨_, rfl⟩, hW237, hsm237.mono (by decide) (by decide)⟩
    · show Q_ish Z _ h0 _ s₁.heap _
      rw [e0]
      exact ⟨_, rfl, N0, rfl, (Or.inr ⟨rfl, fun q => q.1 hc236⟩)⟩
  ·
    refine own_Go.st (fun _ k => XS.icmpNo X0.here hx rfl (hb hby d_jdk_89_method_14_3) rfl (flt hc236).1 k) ?_
    show own_Go _ _ _ _ (s₁.setTop (mkF m 6 #[.val (.int p1)] []))
    refine own_Go.st (fun _ k => XS.iloadN X0.here hx rfl (hb hby d_jdk_89_method_14_6) rfl k) ?_
    show own_Go _ _ _ _ (s₁.setTop (mkF m 7 #[.val (.int p1)] [(.int p1)]))
    refine own_Go.st (X0.ldcInt hx hown (mvT hZ (hw _ (List.mem_of_getElem? (i := 128) rfl))) (g := (mkF m 7 #[.val (.int p1)] [(.int p1)])) rfl (hb hby d_jdk_89_method_14_7)) ?_
    show own_Go _ _ _ _ (s₁.setTop (mkF m 9 #[.val (.int p1)] [(.int (56320 : Int32)), (.int p1)]))
    by_cases hc238 : p1 < (56320 : Int32)
    ·
      refine own_Go.st (fun _ k => XS.icmpNo X0.here hx rfl (hb hby d_jdk_89_method_14_9) rfl (tlt hc238).2.1 k) ?_
      show own_Go _ _ _ _ (s₁.setTop (mkF m 12 #[.val (.int p1)] []))
      refine own_Go.st (fun _ k => XS.iconst X0.here hx rfl (hb hby d_jdk_89_method_14_12) k) ?_
      show own_Go _ _ _ _ (s₁.setTop (mkF m 13 #[.val (.int p1)] [(.int (1 : Int32))]))
      refine own_Go.st (fun _ k => XS.goto X0.here hx rfl (pc0 := 13) (pc' := 17) rfl (hb hby d_jdk_89_method_14_13) (by decide) (by decide) k) ?_
      show own_Go _ _ _ _ (s₁.setTop (mkF m 17 #[.val (.int p1)] [(.int (1 : Int32))]))
      obtain ⟨fs239, hr239, hrun239, hend239, hW239, hsm239⟩ := X0.leave (v := some (.int (nar .boolean (1 : Int32)))) (fun h => by rw [Bd.returns] at h; cases h)
      subst hPP
      refine ⟨_, _, retN X0 hx (t := .boolean) Bd.returns (by simp) (hb hby d_jdk_89_method_14_17) hr239, hrun239, hend239, _, _, rfl, ?_, ⟨_, rfl⟩, hW239, hsm239.mono (by decide) (by decide)⟩
      · show Q_ish Z _ h0 _ s₁.heap _
        rw [e0]
        exact ⟨_, rfl, N0, rfl, (Or.inl ⟨rfl, hc236, hc238⟩)⟩
    ·
      refine own_Go.st (fun _ k => XS.icmpYes X0.here hx rfl (pc0 := 9) (pc' := 16) rfl (hb hby d_jdk_89_method_14_9) rfl (flt hc238).2.1 (by decide) (by decide) k) ?_
      show own_Go _ _ _ _ (s₁.setTop (mkF m 16 #[.val (.int p1)] []))
      refine own_Go.st (fun _ k => XS.iconst X0.here hx rfl (hb hby d_jdk_89_method_14_16) k) ?_
      show own_Go _ _ _ _ (s₁.setTop (mkF m 17 #[.val (.int p1)] [(.int (0 : Int32))]))
      obtain ⟨fs240, hr240, hrun240, hend240, hW240, hsm240⟩ := X0.leave (v := some (.int (nar .boolean (0 : Int32)))) (fun h => by rw [Bd.returns] at h; cases h)
      subst hPP
      refine ⟨_, _, retN X0 hx (t := .boolean) Bd.returns (by simp) (hb hby d_jdk_89_method_14_17) hr240, hrun240, hend240, _, _, rfl, ?_, ⟨_, rfl⟩, hW240, hsm240.mono (by decide) (by decide)⟩
      · show Q_ish Z _ h0 _ s₁.heap _
        rw [e0]
        exact ⟨_, rfl, N0, rfl, (Or.inr ⟨rfl, fun q => hc238 q.2⟩)⟩
theorem d_jdk_89_method_15_0 : decode jdk_89_method_15_code 0 = .ok (.iload_n 0, 1) := by decide +kernel
theorem d_jdk_89_method_15_1 : decode jdk_89_method_15_code 1 = .ok (.ldc 76, 2) := by decide +kernel
theorem d_jdk_89_method_15_3 : decode jdk_89_method_15_code 3 = .ok (.if_icmp .lt 13, 3) := by decide +kernel
theorem d_jdk_89_method_15_16 : decode jdk_89_method_15_code 16 = .ok (.iconst 0, 1) := by decide +kernel
theorem d_jdk_89_method_15_17 : decode jdk_89_method_15_code 17 = .ok (.ireturn, 1) := by decide +kernel
theorem d_jdk_89_method_15_6 : decode jdk_89_method_15_code 6 = .ok (.iload_n 0, 1) := by decide +kernel
theorem d_jdk_89_method_15_7 : decode jdk_89_method_15_code 7 = .ok (.ldc 77, 2) := by decide +kernel
theorem d_jdk_89_method_15_9 : decode jdk_89_method_15_code 9 = .ok (.if_icmp .ge 7, 3) := by decide +kernel
theorem d_jdk_89_method_15_12 : decode jdk_89_method_15_code 12 = .ok (.iconst 1, 1) := by decide +kernel
theorem d_jdk_89_method_15_13 : decode jdk_89_method_15_code 13 = .ok (.goto 4, 3) := by decide +kernel
def Q_isl (Z : State) (p1 : Int32) (h0 : Heap) (v : Option Value) (h : Heap) (L : List Loc) : Prop := ∃ (r : Int32), v = some (.int r) ∧ Fr Z.heap.size L ∧ h = h0 ∧ ((r = 1 ∧ own_lo p1) ∨ (r = 0 ∧ ¬ own_lo p1))
set_option maxRecDepth 65536 in
set_option maxHeartbeats 40000000 in
theorem rm_isl (l : Launch) (Z : State) (a0 : Array Value) (hw : ∀ d ∈ tables_1, d.before a0 Z = true) (ws : List Jvm.Cond) (p1 : Int32) (h0 : Heap) (OL : Old Z Z.heap.size h0) :
    MetFree l (⟨"java/lang/Character", "isLowSurrogate", "(C)Z"⟩ : MethodName) (head1 (Jvm.Cond.code (⟨"java/lang/Character", "isLowSurrogate", "(C)Z"⟩ : MethodName) jdk_89_method_15_code 1 (some .boolean) :: ws) ({ frames := 0, cells := 0, slots := 0, locals := 0 } : Room)) (fun a U => a = #[(.int p1)] ∧ Z.Warmed39 U.vm ∧ U.heap = h0) (fun _ _ _ _ _ => True) (fun _ U o U' => ∃ v L, o = .returned v ∧ Q_isl Z p1 h0 v U'.heap L ∧ FrameEnd U o U' L ({ frames := 0, cells := 0, slots := 0, locals := 0 } : Room).cells ({ frames := 0, cells := 0, slots := 0, locals := 0 } : Room).slots) := by
  refine MetFree.of_bodySF (plainFor_of_name pn_189) hisR ?_
  intro p e s m args below meth c s₁ Bd hml0 hP hK
  obtain ⟨rfl, hZ, hh⟩ := hP
  have hx := Bd.exec
  have hby := Bd.bytes
  have hml : c.maxLocals = 1 := hml0
  have hown : s.vm.findClass "java/lang/Character" = some m.cls := findClass_of_methodNamed Bd.named
  have hnm := (name_of_methodNamed Bd.named Bd.method).1
  have X0 : Stand p l e ({ frames := 0, cells := 0, slots := 0, locals := 0 } : Room) s m #[(.int p1)] below meth c s₁ [] 0 0 := Stand.of_body Bd
  have e0 : s₁.heap = h0 := by rw [← hh, Bd.state]; rfl
  have N0 := Fr.nil Z.heap.size
  have Z0 : Z.heap.size ≤ h0.size := OL.2.1
  obtain ⟨PP, hPP⟩ : ∃ PP : Outcome → State → Prop, PP = (fun o tE => ∃ v L, o = .returned v ∧ Q_isl Z p1 h0 v tE.heap L ∧ FrameEnd s o tE L ({ frames := 0, cells := 0, slots := 0, locals := 0 } : Room).cells ({ frames := 0, cells := 0, slots := 0, locals := 0 } : Room).slots) := ⟨_, rfl⟩
  show own_Go p.tables e below (fun o tE => ∃ v L, o = .returned v ∧ Q_isl Z p1 h0 v tE.heap L ∧ FrameEnd s o tE L ({ frames := 0, cells := 0, slots := 0, locals := 0 } : Room).cells ({ frames := 0, cells := 0, slots := 0, locals := 0 } : Room).slots) (s₁.setTop (entryFrame m #[(.int p1)] 1))
  rw [← hPP]
  refine own_Go.st (fun t k => castTop (ef_98 m p1) k) ?_
  show own_Go _ _ _ _ (s₁.setTop (mkF m 0 #[.val (.int p1)] []))
  refine own_Go.st (fun _ k => XS.iloadN X0.here hx rfl (hb hby d_jdk_89_method_15_0) rfl k) ?_
  show own_Go _ _ _ _ (s₁.setTop (mkF m 1 #[.val (.int p1)] [(.int p1)]))
  refine own_Go.st (X0.ldcInt hx hown (mvT hZ (hw _ (List.mem_of_getElem? (i := 128) rfl))) (g := (mkF m 1 #[.val (.int p1)] [(.int p1)])) rfl (hb hby d_jdk_89_method_15_1)) ?_
  show own_Go _ _ _ _ (s₁.setTop (mkF m 3 #[.val (.int p1)] [(.int (56320 : Int32)), (.int p1)]))
  by_cases hc241 : p1 < (56320 : Int32)
  ·
    refine own_Go.st (fun _ k => XS.icmpYes X0.here hx rfl (pc0 := 3) (pc' := 16) rfl (hb hby d_jdk_89_method_15_3) rfl (tlt hc241).1 (by decide) (by decide) k) ?_
    show own_Go _ _ _ _ (s₁.setTop (mkF m 16 #[.val (.int p1)] []))
    refine own_Go.st (fun _ k => XS.iconst X0.here hx rfl (hb hby d_jdk_89_method_15_16) k) ?_
    show own_Go _ _ _ _ (s₁.setTop (mkF m 17 #[.val (.int p1)] [(.int (0 : Int32))]))
    obtain ⟨fs242, hr242, hrun242, hend242, hW242, hsm242⟩ := X0.leave (v := some (.int (nar .boolean (0 : Int32)))) (fun h => by rw [Bd.returns] at h; cases h)
    subst hPP
    refine ⟨_, _, retN X0 hx (t := .boolean) Bd.returns (by simp) (hb hby d_jdk_89_method_15_17) hr242, hrun242, hend242, _, _, rfl, ?_, ⟨_, rfl⟩, hW242, hsm242.mono (by decide) (by decide)⟩
    · show Q_isl Z _ h0 _ s₁.heap _
      rw [e0]
      exact ⟨_, rfl, N0, rfl, (Or.inr ⟨rfl, fun q => q.1 hc241⟩)⟩
  ·
    refine own_Go.st (fun _ k => XS.icmpNo X0.here hx rfl (hb hby d_jdk_89_method_15_3) rfl (flt hc241).1 k) ?_
    show own_Go _ _ _ _ (s₁.setTop (mkF m 6 #[.val (.int p1)] []))
    refine own_Go.st (fun _ k => XS.iloadN X0.here hx rfl (hb hby d_jdk_89_method_15_6) rfl k) ?_
    show own_Go _ _ _ _ (s₁.setTop (mkF m 7 #[.val (.int p1)] [(.int p1)]))
    refine own_Go.st (X0.ldcInt hx hown (mvT hZ (hw _ (List.mem_of_getElem? (i := 136) rfl))) (g := (mkF m 7 #[.val (.int p1)] [(.int p1)])) rfl (hb hby d_jdk_89_method_15_7)) ?_
    show own_Go _ _ _ _ (s₁.setTop (mkF m 9 #[.val (.int p1)] [(.int (57344 : Int32)), (.int p1)]))
    by_cases hc243 : p1 < (57344 : Int32)
    ·
      refine own_Go.st (fun _ k => XS.icmpNo X0.here hx rfl (hb hby d_jdk_89_method_15_9) rfl (tlt hc243).2.1 k) ?_
      show own_Go _ _ _ _ (s₁.setTop (mkF m 12 #[.val (.int p1)] []))
      refine own_Go.st (fun _ k => XS.iconst X0.here hx rfl (hb hby d_jdk_89_method_15_12) k) ?_
      show own_Go _ _ _ _ (s₁.setTop (mkF m 13 #[.val (.int p1)] [(.int (1 : Int32))]))
      refine own_Go.st (fun _ k => XS.goto X0.here hx rfl (pc0 := 13) (pc' := 17) rfl (hb hby d_jdk_89_method_15_13) (by decide) (by decide) k) ?_
      show own_Go _ _ _ _ (s₁.setTop (mkF m 17 #[.val (.int p1)] [(.int (1 : Int32))]))
      obtain ⟨fs244, hr244, hrun244, hend244, hW244, hsm244⟩ := X0.leave (v := some (.int (nar .boolean (1 : Int32)))) (fun h => by rw [Bd.returns] at h; cases h)
      subst hPP
      refine ⟨_, _, retN X0 hx (t := .boolean) Bd.returns (by simp) (hb hby d_jdk_89_method_15_17) hr244, hrun244, hend244, _, _, rfl, ?_, ⟨_, rfl⟩, hW244, hsm244.mono (by decide) (by decide)⟩
      · show Q_isl Z _ h0 _ s₁.heap _
        rw [e0]
        exact ⟨_, rfl, N0, rfl, (Or.inl ⟨rfl, hc241, hc243⟩)⟩
    ·
      refine own_Go.st (fun _ k => XS.icmpYes X0.here hx rfl (pc0 := 9) (pc' := 16) rfl (hb hby d_jdk_89_method_15_9) rfl (flt hc243).2.1 (by decide) (by decide) k) ?_
      show own_Go _ _ _ _ (s₁.setTop (mkF m 16 #[.val (.int p1)] []))
      refine own_Go.st (fun _ k => XS.iconst X0.here hx rfl (hb hby d_jdk_89_method_15_16) k) ?_
      show own_Go _ _ _ _ (s₁.setTop (mkF m 17 #[.val (.int p1)] [(.int (0 : Int32))]))
      obtain ⟨fs245, hr245, hrun245, hend245, hW245, hsm245⟩ := X0.leave (v := some (.int (nar .boolean (0 : Int32)))) (fun h => by rw [Bd.returns] at h; cases h)
      subst hPP
      refine ⟨_, _, retN X0 hx (t := .boolean) Bd.returns (by simp) (hb hby d_jdk_89_method_15_17) hr245, hrun245, hend245, _, _, rfl, ?_, ⟨_, rfl⟩, hW245, hsm245.mono (by decide) (by decide)⟩
      · show Q_isl Z _ h0 _ s₁.heap _
        rw [e0]
        exact ⟨_, rfl, N0, rfl, (Or.inr ⟨rfl, fun q => hc243 q.2⟩)⟩
theorem ef_210 (m : MethodId) (x0 : Nat) : entryFrame m #[(.ref x0)] 1 = mkF m 0 #[.val (.ref x0)] [] := by first | (simp [entryFrame, mkF, argsToLocals, Value.category]; done) | rfl
theorem d_jdk_42_method_154_0 : decode jdk_42_method_154_code 0 = .ok (.getstatic 38, 3) := by decide +kernel
theorem d_jdk_42_method_154_3 : decode jdk_42_method_154_code 3 = .ok (.ifCond .eq 14, 3) := by decide +kernel
theorem d_jdk_42_method_154_6 : decode jdk_42_method_154_code 6 = .ok (.aload_n 0, 1) := by decide +kernel
theorem d_jdk_42_method_154_7 : decode jdk_42_method_154_code 7 = .ok (.getfield 15, 3) := by decide +kernel
theorem d_jdk_42_method_154_10 : decode jdk_42_method_154_code 10 = .ok (.ifCond .ne 7, 3) := by decide +kernel
theorem d_jdk_42_method_154_13 : decode jdk_42_method_154_code 13 = .ok (.iconst 1, 1) := by decide +kernel
theorem d_jdk_42_method_154_14 : decode jdk_42_method_154_code 14 = .ok (.goto 4, 3) := by decide +kernel
theorem d_jdk_42_method_154_18 : decode jdk_42_method_154_code 18 = .ok (.ireturn, 1) := by decide +kernel
theorem d_jdk_42_method_154_17 : decode jdk_42_method_154_code 17 = .ok (.iconst 0, 1) := by decide +kernel
def Q_isl1 (Z : State) (a1 : Nat) (cd : Int32) (zc : Int32) (h0 : Heap) (v : Option Value) (h : Heap) (L : List Loc) : Prop := v = some (.int (if cd = 0 then (1 : Int32) else 0)) ∧ Fr Z.heap.size L ∧ h = h0
set_option maxRecDepth 65536 in
set_option maxHeartbeats 40000000 in
theorem rm_isl1 (l : Launch) (Z : State) (a0 : Array Value) (hw : ∀ d ∈ tables_1, d.before a0 Z = true) (ws : List Jvm.Cond) (a1 : Nat) (cd : Int32) (zc : Int32) (h0 : Heap) (OL : Old Z Z.heap.size h0) (p0_ : Fld Z h0 a1 "java/lang/String" "coder" "B" (.int cd)) (st_COMPACT_STRINGS : Sta Z Z.heap "java/lang/String" "COMPACT_STRINGS" "Z" (.int zc)) (hzc : ¬ zc = 0) :
    MetFree l (⟨"java/lang/String", "isLatin1", "()Z"⟩ : MethodName) (head1 (Jvm.Cond.code (⟨"java/lang/String", "isLatin1", "()Z"⟩ : MethodName) jdk_42_method_154_code 1 (some .boolean) :: ws) ({ frames := 0, cells := 0, slots := 0, locals := 0 } : Room)) (fun a U => a = #[(.ref a1)] ∧ Z.Warmed39 U.vm ∧ U.heap = h0) (fun _ _ _ _ _ => True) (fun _ U o U' => ∃ v L, o = .returned v ∧ Q_isl1 Z a1 cd zc h0 v U'.heap L ∧ FrameEnd U o U' L ({ frames := 0, cells := 0, slots := 0, locals := 0 } : Room).cells ({ frames := 0, cells := 0, slots := 0, locals := 0 } : Room).slots) := by
  refine MetFree.of_bodySF (plainFor_of_name pn_0) hisR ?_
  intro p e s m args below meth c s₁ Bd hml0 hP hK
  obtain ⟨rfl, hZ, hh⟩ := hP
  have hx := Bd.exec
  have hby := Bd.bytes
  have hml : c.maxLocals = 1 := hml0
  have hown : s.vm.findClass "java/lang/String" = some m.cls := findClass_of_methodNamed Bd.named
  have hnm := (name_of_methodNamed Bd.named Bd.method).1
  have X0 : Stand p l e ({ frames := 0, cells := 0, slots := 0, locals := 0 } : Room) s m #[(.ref a1)] below meth c s₁ [] 0 0 := Stand.of_body Bd
  have e0 : s₁.heap = h0 := by rw [← hh, Bd.state]; rfl
  have N0 := Fr.nil Z.heap.size
  have Z0 : Z.heap.size ≤ h0.size := OL.2.1
  have lt_0 : @LT.lt Nat _ a1 h0.size := p0_.lt
  obtain ⟨PP, hPP⟩ : ∃ PP : Outcome → State → Prop, PP = (fun o tE => ∃ v L, o = .returned v ∧ Q_isl1 Z a1 cd zc h0 v tE.heap L ∧ FrameEnd s o tE L ({ frames := 0, cells := 0, slots := 0, locals := 0 } : Room).cells ({ frames := 0, cells := 0, slots := 0, locals := 0 } : Room).slots) := ⟨_, rfl⟩
  show own_Go p.tables e below (fun o tE => ∃ v L, o = .returned v ∧ Q_isl1 Z a1 cd zc h0 v tE.heap L ∧ FrameEnd s o tE L ({ frames := 0, cells := 0, slots := 0, locals := 0 } : Room).cells ({ frames := 0, cells := 0, slots := 0, locals := 0 } : Room).slots) (s₁.setTop (entryFrame m #[(.ref a1)] 1))
  rw [← hPP]
  refine own_Go.st (fun t k => castTop (ef_210 m a1) k) ?_
  show own_Go _ _ _ _ (s₁.setTop (mkF m 0 #[.val (.ref a1)] []))
  obtain ⟨T246, X246, e246, st246⟩ := getS2 X0 hx hZ hown (host := "") (Or.inl (hw _ (List.mem_of_getElem? (i := 24) rfl))) Via.refl e0 (st_COMPACT_STRINGS.ext OL.2) (g := (mkF m 0 #[.val (.ref a1)] [])) rfl (hb hby d_jdk_42_method_154_0)
  refine own_Go.st st246 ?_
  show own_Go _ _ _ _ (T246.setTop (mkF m 3 #[.val (.ref a1)] [(.int zc)]))
  have hc247 : ¬ (zc = (0 : Int32)) := hzc
  refine own_Go.st (fun _ k => XS.ifNo X246.here hx rfl (hb hby d_jdk_42_method_154_3) rfl ((if0 _ _).trans (feq hc247).1) k) ?_
  show own_Go _ _ _ _ (T246.setTop (mkF m 6 #[.val (.ref a1)] []))
  refine own_Go.st (fun _ k => XS.aloadN X246.here hx rfl (hb hby d_jdk_42_method_154_6) rfl rfl k) ?_
  show own_Go _ _ _ _ (T246.setTop (mkF m 7 #[.val (.ref a1)] [(.ref a1)]))
  obtain ⟨T248, X248, e248, st248⟩ := getF X246 hx hZ hown (host := "") (Or.inl (hw _ (List.mem_of_getElem? (i := 55) rfl))) Via.refl e246 p0_ (g := (mkF m 7 #[.val (.ref a1)] [(.ref a1)])) rfl rfl (hb hby d_jdk_42_method_154_7)
  refine own_Go.st st248 ?_
  show own_Go _ _ _ _ (T248.setTop (mkF m 10 #[.val (.ref a1)] [(.int cd)]))
  by_cases hc249 : cd = (0 : Int32)
  ·
    refine own_Go.st (fun _ k => XS.ifNo X248.here hx rfl (hb hby d_jdk_42_method_154_10) rfl ((if0 _ _).trans (teq hc249).2) k) ?_
    show own_Go _ _ _ _ (T248.setTop (mkF m 13 #[.val (.ref a1)] []))
    refine own_Go.st (fun _ k => XS.iconst X248.here hx rfl (hb hby d_jdk_42_method_154_13) k) ?_
    show own_Go _ _ _ _ (T248.setTop (mkF m 14 #[.val (.ref a1)] [(.int (1 : Int32))]))
    refine own_Go.st (fun _ k => XS.goto X248.here hx rfl (pc0 := 14) (pc' := 18) rfl (hb hby d_jdk_42_method_154_14) (by decide) (by decide) k) ?_
    show own_Go _ _ _ _ (T248.setTop (mkF m 18 #[.val (.ref a1)] [(.int (1 : Int32))]))
    obtain ⟨fs250, hr250, hrun250, hend250, hW250, hsm250⟩ := X248.leave (v := some (.int (nar .boolean (1 : Int32)))) (fun h => by rw [Bd.returns] at h; cases h)
    subst hPP
    refine ⟨_, _, retN X248 hx (t := .boolean) Bd.returns (by simp) (hb hby d_jdk_42_method_154_18) hr250, hrun250, hend250, _, _, rfl, ?_, ⟨_, rfl⟩, hW250, hsm250.mono (by decide) (by decide)⟩
    · show Q_isl1 Z _ _ _ h0 _ T248.heap _
      rw [e248]
      exact ⟨(by rw [if_pos hc249]; rfl), N0, rfl⟩
  ·
    refine own_Go.st (fun _ k => XS.ifYes X248.here hx rfl (pc0 := 10) (pc' := 17) rfl (hb hby d_jdk_42_method_154_10) rfl ((if0 _ _).trans (feq hc249).2) (by decide) (by decide) k) ?_
    show own_Go _ _ _ _ (T248.setTop (mkF m 17 #[.val (.ref a1)] []))
    refine own_Go.st (fun _ k => XS.iconst X248.here hx rfl (hb hby d_jdk_42_method_154_17) k) ?_
    show own_Go _ _ _ _ (T248.setTop (mkF m 18 #[.val (.ref a1)] [(.int (0 : Int32))]))
    obtain ⟨fs251, hr251, hrun251, hend251, hW251, hsm251⟩ := X248.leave (v := some (.int (nar .boolean (0 : Int32)))) (fun h => by rw [Bd.returns] at h; cases h)
    subst hPP
    refine ⟨_, _, retN X248 hx (t := .boolean) Bd.returns (by simp) (hb hby d_jdk_42_method_154_18) hr251, hrun251, hend251, _, _, rfl, ?_, ⟨_, rfl⟩, hW251, hsm251.mono (by decide) (by decide)⟩
    · show Q_isl1 Z _ _ _ h0 _ T248.heap _
      rw [e248]
      exact ⟨(by rw [if_neg hc249]; rfl), N0, rfl⟩
theorem pn_220 : plainName "jdk/internal/util/Preconditions" = true := by first | (simp [plainName, overriddenIn]; done) | decide +kernel
theorem ef_221 (m : MethodId) (x0 : Int32) (x1 : Int32) (x2 : Int32) : entryFrame m #[(.int x0), (.int x1), (.int x2), .null] 4 = mkF m 0 #[.val (.int x0), .val (.int x1), .val (.int x2), .val .null] [] := by first | (simp [entryFrame, mkF, argsToLocals, Value.category]; done) | rfl
theorem d_jdk_41_method_12_0 : decode jdk_41_method_12_code 0 = .ok (.iload_n 0, 1) := by decide +kernel
theorem d_jdk_41_method_12_1 : decode jdk_41_method_12_code 1 = .ok (.ifCond .lt 13, 3) := by decide +kernel
theorem d_jdk_41_method_12_4 : decode jdk_41_method_12_code 4 = .ok (.iload_n 0, 1) := by decide +kernel
theorem d_jdk_41_method_12_5 : decode jdk_41_method_12_code 5 = .ok (.iload_n 1, 1) := by decide +kernel
theorem d_jdk_41_method_12_6 : decode jdk_41_method_12_code 6 = .ok (.if_icmp .gt 8, 3) := by decide +kernel
theorem d_jdk_41_method_12_9 : decode jdk_41_method_12_code 9 = .ok (.iload_n 1, 1) := by decide +kernel
theorem d_jdk_41_method_12_10 : decode jdk_41_method_12_code 10 = .ok (.iload_n 2, 1) := by decide +kernel
theorem d_jdk_41_method_12_11 : decode jdk_41_method_12_code 11 = .ok (.if_icmp .le 11, 3) := by decide +kernel
theorem d_jdk_41_method_12_22 : decode jdk_41_method_12_code 22 = .ok (.iload_n 0, 1) := by decide +kernel
theorem d_jdk_41_method_12_23 : decode jdk_41_method_12_code 23 = .ok (.ireturn, 1) := by decide +kernel
def Q_pcft (Z : State) (p1 : Int32) (p2 : Int32) (p3 : Int32) (h0 : Heap) (v : Option Value) (h : Heap) (L : List Loc) : Prop := v = some (.int p1) ∧ Fr Z.heap.size L ∧ h = h0
set_option maxRecDepth 65536 in
set_option maxHeartbeats 40000000 in
theorem rm_pcft (l : Launch) (Z : State) (a0 : Array Value) (hw : ∀ d ∈ tables_1, d.before a0 Z = true) (ws : List Jvm.Cond) (p1 : Int32) (p2 : Int32) (p3 : Int32) (h0 : Heap) (OL : Old Z Z.heap.size h0) (h1 : ¬ p1 < 0) (h2 : ¬ p2 < p1) (h3 : ¬ p3 < p2) :
    MetFree l (⟨"jdk/internal/util/Preconditions", "checkFromToIndex", "(IIILjava/util/function/BiFunction;)I"⟩ : MethodName) (head1 (Jvm.Cond.code (⟨"jdk/internal/util/Preconditions", "checkFromToIndex", "(IIILjava/util/function/BiFunction;)I"⟩ : MethodName) jdk_41_method_12_code 4 (some .int) :: ws) ({ frames := 0, cells := 0, slots := 0, locals := 0 } : Room)) (fun a U => a = #[(.int p1), (.int p2), (.int p3), .null] ∧ Z.Warmed39 U.vm ∧ U.heap = h0) (fun _ _ _ _ _ => True) (fun _ U o U' => ∃ v L, o = .returned v ∧ Q_pcft Z p1 p2 p3 h0 v U'.heap L ∧ FrameEnd U o U' L ({ frames := 0, cells := 0, slots := 0, locals := 0 } : Room).cells ({ frames := 0, cells := 0, slots := 0, locals := 0 } : Room).slots) := by
  refine MetFree.of_bodySF (plainFor_of_name pn_220) hisR ?_
  intro p e s m args below meth c s₁ Bd hml0 hP hK
  obtain ⟨rfl, hZ, hh⟩ := hP
  have hx := Bd.exec
  have hby := Bd.bytes
  have hml : c.maxLocals = 4 := hml0
  have hown : s.vm.findClass "jdk/internal/util/Preconditions" = some m.cls := findClass_of_methodNamed Bd.named
  have hnm := (name_of_methodNamed Bd.named Bd.method).1
  have X0 : Stand p l e ({ frames := 0, cells := 0, slots := 0, locals := 0 } : Room) s m #[(.int p1), (.int p2), (.int p3), .null] below meth c s₁ [] 0 0 := Stand.of_body Bd
  have e0 : s₁.heap = h0 := by rw [← hh, Bd.state]; rfl
  have N0 := Fr.nil Z.heap.size
  have Z0 : Z.heap.size ≤ h0.size := OL.2.1
  obtain ⟨PP, hPP⟩ : ∃ PP : Outcome → State → Prop, PP = (fun o tE => ∃ v L, o = .returned v ∧ Q_pcft Z p1 p2 p3 h0 v tE.heap L ∧ FrameEnd s o tE L ({ frames := 0, cells := 0, slots := 0, locals := 0 } : Room).cells ({ frames := 0, cells := 0, slots := 0, locals := 0 } : Room).slots) := ⟨_, rfl⟩
  show own_Go p.tables e below (fun o tE => ∃ v L, o = .returned v ∧ Q_pcft Z p1 p2 p3 h0 v tE.heap L ∧ FrameEnd s o tE L ({ frames := 0, cells := 0, slots := 0, locals := 0 } : Room).cells ({ frames := 0, cells := 0, slots := 0, locals := 0 } : Room).slots) (s₁.setTop (entryFrame m #[(.int p1), (.int p2), (.int p3), .null] 4))
  rw [← hPP]
  refine own_Go.st (fun t k => castTop (ef_221 m p1 p2 p3) k) ?_
  show own_Go _ _ _ _ (s₁.setTop (mkF m 0 #[.val (.int p1), .val (.int p2), .val (.int p3), .val .null] []))
  refine own_Go.st (fun _ k => XS.iloadN X0.here hx rfl (hb hby d_jdk_41_method_12_0) rfl k) ?_
  show own_Go _ _ _ _ (s₁.setTop (mkF m 1 #[.val (.int p1), .val (.int p2), .val (.int p3), .val .null] [(.int p1)]))
  have hc252 : ¬ (p1 < (0 : Int32)) := h1
  refine own_Go.st (fun _ k => XS.ifNo X0.here hx rfl (hb hby d_jdk_41_method_12_1) rfl ((if0 _ _).trans (flt hc252).1) k) ?_
  show own_Go _ _ _ _ (s₁.setTop (mkF m 4 #[.val (.int p1), .val (.int p2), .val (.int p3), .val .null] []))
  refine own_Go.st (fun _ k => XS.iloadN X0.here hx rfl (hb hby d_jdk_41_method_12_4) rfl k) ?_
  show own_Go _ _ _ _ (s₁.setTop (mkF m 5 #[.val (.int p1), .val (.int p2), .val (.int p3), .val .null] [(.int p1)]))
  refine own_Go.st (fun _ k => XS.iloadN X0.here hx rfl (hb hby d_jdk_41_method_12_5) rfl k) ?_
  show own_Go _ _ _ _ (s₁.setTop (mkF m 6 #[.val (.int p1), .val (.int p2), .val (.int p3), .val .null] [(.int p2), (.int p1)]))
  have hc253 : ¬ (p2 < p1) := h2
  refine own_Go.st (fun _ k => XS.icmpNo X0.here hx rfl (hb hby d_jdk_41_method_12_6) rfl (flt hc253).2.2.1 k) ?_
  show own_Go _ _ _ _ (s₁.setTop (mkF m 9 #[.val (.int p1), .val (.int p2), .val (.int p3), .val .null] []))
  refine own_Go.st (fun _ k => XS.iloadN X0.here hx rfl (hb hby d_jdk_41_method_12_9) rfl k) ?_
  show own_Go _ _ _ _ (s₁.setTop (mkF m 10 #[.val (.int p1), .val (.int p2), .val (.int p3), .val .null] [(.int p2)]))
  refine own_Go.st (fun _ k => XS.iloadN X0.here hx rfl (hb hby d_jdk_41_method_12_10) rfl k) ?_
  show own_Go _ _ _ _ (s₁.setTop (mkF m 11 #[.val (.int p1), .val (.int p2), .val (.int p3), .val .null] [(.int p3), (.int p2)]))
  have hc254 : ¬ (p3 < p2) := h3
  refine own_Go.st (fun _ k => XS.icmpYes X0.here hx rfl (pc0 := 11) (pc' := 22) rfl (hb hby d_jdk_41_method_12_11) rfl (flt hc254).2.2.2 (by decide) (by decide) k) ?_
  show own_Go _ _ _ _ (s₁.setTop (mkF m 22 #[.val (.int p1), .val (.int p2), .val (.int p3), .val .null] []))
  refine own_Go.st (fun _ k => XS.iloadN X0.here hx rfl (hb hby d_jdk_41_method_12_22) rfl k) ?_
  show own_Go _ _ _ _ (s₁.setTop (mkF m 23 #[.val (.int p1), .val (.int p2), .val (.int p3), .val .null] [(.int p1)]))
  obtain ⟨fs255, hr255, hrun255, hend255, hW255, hsm255⟩ := X0.leave (v := some (.int p1)) (fun h => by rw [Bd.returns] at h; cases h)
  subst hPP
  refine ⟨_, _, own_retI X0 hx Bd.returns (hb hby d_jdk_41_method_12_23) hr255, hrun255, hend255, _, _, rfl, ?_, ⟨_, rfl⟩, hW255, hsm255.mono (by decide) (by decide)⟩
  · show Q_pcft Z _ _ _ h0 _ s₁.heap _
    rw [e0]
    exact ⟨rfl, N0, rfl⟩
theorem pn_232 : plainName "java/util/Objects" = true := by first | (simp [plainName, overriddenIn]; done) | decide +kernel
theorem ef_233 (m : MethodId) (x0 : Int32) (x1 : Int32) (x2 : Int32) : entryFrame m #[(.int x0), (.int x1), (.int x2)] 3 = mkF m 0 #[.val (.int x0), .val (.int x1), .val (.int x2)] [] := by first | (simp [entryFrame, mkF, argsToLocals, Value.category]; done) | rfl
theorem d_jdk_31_method_18_0 : decode jdk_31_method_18_code 0 = .ok (.iload_n 0, 1) := by decide +kernel
theorem d_jdk_31_method_18_1 : decode jdk_31_method_18_code 1 = .ok (.iload_n 1, 1) := by decide +kernel
theorem d_jdk_31_method_18_2 : decode jdk_31_method_18_code 2 = .ok (.iload_n 2, 1) := by decide +kernel
theorem d_jdk_31_method_18_3 : decode jdk_31_method_18_code 3 = .ok (.aconst_null, 1) := by decide +kernel
theorem pd_238 : parseMethodDescriptor "(IIILjava/util/function/BiFunction;)I" = some ⟨[.int, .int, .int, (.object "java/util/function/BiFunction")], some .int⟩ := by decide +kernel
theorem d_jdk_31_method_18_4 : decode jdk_31_method_18_code 4 = .ok (.invokestatic 111, 3) := by decide +kernel
theorem d_jdk_31_method_18_7 : decode jdk_31_method_18_code 7 = .ok (.ireturn, 1) := by decide +kernel
def Q_ocft (Z : State) (p1 : Int32) (p2 : Int32) (p3 : Int32) (h0 : Heap) (v : Option Value) (h : Heap) (L : List Loc) : Prop := v = some (.int p1) ∧ Fr Z.heap.size L ∧ h = h0
set_option maxRecDepth 65536 in
set_option maxHeartbeats 40000000 in
theorem rm_ocft (l : Launch) (Z : State) (a0 : Array Value) (hw : ∀ d ∈ tables_1, d.before a0 Z = true) (ws : List Jvm.Cond) (p1 : Int32) (p2 : Int32) (p3 : Int32) (h0 : Heap) (OL : Old Z Z.heap.size h0) (h1 : ¬ p1 < 0) (h2 : ¬ p2 < p1) (h3 : ¬ p3 < p2) :
    MetFree l (⟨"java/util/Objects", "checkFromToIndex", "(III)I"⟩ : MethodName) (head1 (Jvm.Cond.code (⟨"java/util/Objects", "checkFromToIndex", "(III)I"⟩ : MethodName) jdk_31_method_18_code 3 (some .int) :: ws) ({ frames := 1, cells := 0, slots := 0, locals := 15 } : Room)) (fun a U => a = #[(.int p1), (.int p2), (.int p3)] ∧ Z.Warmed39 U.vm ∧ U.heap = h0) (fun _ _ _ _ _ => True) (fun _ U o U' => ∃ v L, o = .returned v ∧ Q_ocft Z p1 p2 p3 h0 v U'.heap L ∧ FrameEnd U o U' L ({ frames := 1, cells := 0, slots := 0, locals := 15 } : Room).cells ({ frames := 1, cells := 0, slots := 0, locals := 15 } : Room).slots) := by
  refine MetFree.of_bodySF (plainFor_of_name pn_232) hisR ?_
  intro p e s m args below meth c s₁ Bd hml0 hP hK
  obtain ⟨rfl, hZ, hh⟩ := hP
  have hx := Bd.exec
  have hby := Bd.bytes
  have hml : c.maxLocals = 3 := hml0
  have hown : s.vm.findClass "java/util/Objects" = some m.cls := findClass_of_methodNamed Bd.named
  have hnm := (name_of_methodNamed Bd.named Bd.method).1
  have X0 : Stand p l e ({ frames := 1, cells := 0, slots := 0, locals := 15 } : Room) s m #[(.int p1), (.int p2), (.int p3)] below meth c s₁ [] 0 0 := Stand.of_body Bd
  have e0 : s₁.heap = h0 := by rw [← hh, Bd.state]; rfl
  have N0 := Fr.nil Z.heap.size
  have Z0 : Z.heap.size ≤ h0.size := OL.2.1
  obtain ⟨PP, hPP⟩ : ∃ PP : Outcome → State → Prop, PP = (fun o tE => ∃ v L, o = .returned v ∧ Q_ocft Z p1 p2 p3 h0 v tE.heap L ∧ FrameEnd s o tE L ({ frames := 1, cells := 0, slots := 0, locals := 15 } : Room).cells ({ frames := 1, cells := 0, slots := 0, locals := 15 } : Room).slots) := ⟨_, rfl⟩
  show own_Go p.tables e below (fun o tE => ∃ v L, o = .returned v ∧ Q_ocft Z p1 p2 p3 h0 v tE.heap L ∧ FrameEnd s o tE L ({ frames := 1, cells := 0, slots := 0, locals := 15 } : Room).cells ({ frames := 1, cells := 0, slots := 0, locals := 15 } : Room).slots) (s₁.setTop (entryFrame m #[(.int p1), (.int p2), (.int p3)] 3))
  rw [← hPP]
  refine own_Go.st (fun t k => castTop (ef_233 m p1 p2 p3) k) ?_
  show own_Go _ _ _ _ (s₁.setTop (mkF m 0 #[.val (.int p1), .val (.int p2), .val (.int p3)] []))
  refine own_Go.st (fun _ k => XS.iloadN X0.here hx rfl (hb hby d_jdk_31_method_18_0) rfl k) ?_
  show own_Go _ _ _ _ (s₁.setTop (mkF m 1 #[.val (.int p1), .val (.int p2), .val (.int p3)] [(.int p1)]))
  refine own_Go.st (fun _ k => XS.iloadN X0.here hx rfl (hb hby d_jdk_31_method_18_1) rfl k) ?_
  show own_Go _ _ _ _ (s₁.setTop (mkF m 2 #[.val (.int p1), .val (.int p2), .val (.int p3)] [(.int p2), (.int p1)]))
  refine own_Go.st (fun _ k => XS.iloadN X0.here hx rfl (hb hby d_jdk_31_method_18_2) rfl k) ?_
  show own_Go _ _ _ _ (s₁.setTop (mkF m 3 #[.val (.int p1), .val (.int p2), .val (.int p3)] [(.int p3), (.int p2), (.int p1)]))
  refine own_Go.st (fun _ k => XS.aconstNull X0.here hx rfl (hb hby d_jdk_31_method_18_3) k) ?_
  show own_Go _ _ _ _ (s₁.setTop (mkF m 4 #[.val (.int p1), .val (.int p2), .val (.int p3)] [.null, (.int p3), (.int p2), (.int p1)]))
  obtain ⟨_, _, ⟨T256, L256, k256, n256⟩, -, X256, ⟨Lc256, hQ256, l256, y256, z256⟩, st256⟩ := Jvm.LawKit.callS X0 hx (y := (⟨"jdk/internal/util/Preconditions", "checkFromToIndex", "(IIILjava/util/function/BiFunction;)I"⟩ : MethodName)) hown (mvT hZ (hw _ (List.mem_of_getElem? (i := 108) rfl))) (mvT hZ (hw _ (List.mem_of_getElem? (i := 109) rfl))) (mvT hZ (hw _ (List.mem_of_getElem? (i := 110) rfl))) (mvT hZ (hw _ (List.mem_of_getElem? (i := 111) rfl))) (by decide) (backOf (W := 0) (rm_pcft l Z a0 hw [] p1 p2 p3 h0 OL (by first | assumption | decide) (by first | assumption | decide) (by first | assumption | decide)) hZ (hw _ (List.mem_of_getElem? (i := 111) rfl)) (hw _ (List.mem_of_getElem? (i := 110) rfl)) (by decide) (by decide)) (g := (mkF m 4 #[.val (.int p1), .val (.int p2), .val (.int p3)] [.null, (.int p3), (.int p2), (.int p1)])) rfl (by rw [hml]; rfl) (argsL := [(.int p1), (.int p2), (.int p3), .null]) (rest := []) (lenOf pd_238 rfl) rfl (by show 2 * 0 + _ ≤ _; exact Nat.le_of_eq rfl) (hb hby d_jdk_31_method_18_4) (fun _ _ => ⟨rfl, e0, (by decide : 0 + 0 ≤ _), (by decide : 0 + 0 ≤ _)⟩)
  dsimp only [Pt.U, Pt.locs, Pt.cells, Pt.slots] at X256 l256 y256 z256 st256 hQ256
  subst l256 y256 z256
  obtain ⟨rfl, N256q, K256⟩ := hQ256
  have N256 := Fr.app N0 N256q
  refine own_Go.st st256 ?_
  show own_Go _ _ _ _ (T256.setTop (mkF m 7 #[.val (.int p1), .val (.int p2), .val (.int p3)] [(.int p1)]))
  obtain ⟨fs257, hr257, hrun257, hend257, hW257, hsm257⟩ := X256.leave (v := some (.int p1)) (fun h => by rw [Bd.returns] at h; cases h)
  subst hPP
  refine ⟨_, _, own_retI X256 hx Bd.returns (hb hby d_jdk_31_method_18_7) hr257, hrun257, hend257, _, _, rfl, ?_, ⟨_, rfl⟩, hW257, hsm257.mono (by decide) (by decide)⟩
  · show Q_ocft Z _ _ _ h0 _ T256.heap _
    rw [K256]
    exact ⟨rfl, N256, rfl⟩

theorem own_one0 {r : Int32} {A : Prop} (h : (r = 1 ∧ A) ∨ (r = 0 ∧ ¬ A)) (q : ¬ (r = (0 : Int32))) : A := h.elim (fun a => a.2) (fun a => absurd a.1 q)
theorem own_zero0 {r : Int32} {A : Prop} (h : (r = 1 ∧ A) ∨ (r = 0 ∧ ¬ A)) (q : r = (0 : Int32)) : ¬ A := h.elim (fun a => by rw [a.1] at q; exact absurd q (by decide)) (fun a => a.2)

theorem ef_241 (m : MethodId) (x0 : Nat) (x1 : Int32) (x2 : Int32) (x3 : Int32) : entryFrame m #[(.ref x0), (.int x1), (.int x2), (.int x3)] 6 = mkF m 0 #[.val (.ref x0), .val (.int x1), .val (.int x2), .val (.int x3), .unset, .unset] [] := by first | (simp [entryFrame, mkF, argsToLocals, Value.category]; done) | rfl
theorem d_jdk_52_method_11_0 : decode jdk_52_method_11_code 0 = .ok (.getstatic 44, 3) := by decide +kernel
theorem d_jdk_52_method_11_3 : decode jdk_52_method_11_code 3 = .ok (.ifCond .ne 16, 3) := by decide +kernel
theorem d_jdk_52_method_11_19 : decode jdk_52_method_11_code 19 = .ok (.iload_n 2, 1) := by decide +kernel
theorem d_jdk_52_method_11_20 : decode jdk_52_method_11_code 20 = .ok (.iload_n 1, 1) := by decide +kernel
theorem d_jdk_52_method_11_21 : decode jdk_52_method_11_code 21 = .ok (.isub, 1) := by decide +kernel
theorem d_jdk_52_method_11_22 : decode jdk_52_method_11_code 22 = .ok (.istore 4, 2) := by decide +kernel
theorem d_jdk_52_method_11_24 : decode jdk_52_method_11_code 24 = .ok (.iload_n 1, 1) := by decide +kernel
theorem d_jdk_52_method_11_25 : decode jdk_52_method_11_code 25 = .ok (.istore 5, 2) := by decide +kernel
theorem d_jdk_52_method_11_27 : decode jdk_52_method_11_code 27 = .ok (.iload_n 3, 1) := by decide +kernel
theorem d_jdk_52_method_11_28 : decode jdk_52_method_11_code 28 = .ok (.ifCond .eq 16, 3) := by decide +kernel
theorem d_jdk_52_method_11_44 : decode jdk_52_method_11_code 44 = .ok (.iload 5, 2) := by decide +kernel
theorem d_jdk_52_method_11_46 : decode jdk_52_method_11_code 46 = .ok (.iload_n 2, 1) := by decide +kernel
theorem d_jdk_52_method_11_47 : decode jdk_52_method_11_code 47 = .ok (.iconst 1, 1) := by decide +kernel
theorem d_jdk_52_method_11_48 : decode jdk_52_method_11_code 48 = .ok (.isub, 1) := by decide +kernel
theorem d_jdk_52_method_11_49 : decode jdk_52_method_11_code 49 = .ok (.if_icmp .ge 39, 3) := by decide +kernel
theorem d_jdk_52_method_11_52 : decode jdk_52_method_11_code 52 = .ok (.aload_n 0, 1) := by decide +kernel
theorem d_jdk_52_method_11_53 : decode jdk_52_method_11_code 53 = .ok (.iload 5, 2) := by decide +kernel
theorem d_jdk_52_method_11_55 : decode jdk_52_method_11_code 55 = .ok (.iinc 5 1, 3) := by decide +kernel
theorem d_jdk_52_method_11_58 : decode jdk_52_method_11_code 58 = .ok (.invokestatic 71, 3) := by decide +kernel
theorem pd_261 : parseMethodDescriptor "(C)Z" = some ⟨[.char], some .boolean⟩ := by decide +kernel
theorem d_jdk_52_method_11_61 : decode jdk_52_method_11_code 61 = .ok (.invokestatic 75, 3) := by decide +kernel
theorem d_jdk_52_method_11_64 : decode jdk_52_method_11_code 64 = .ok (.ifCond .eq (-20), 3) := by decide +kernel
theorem d_jdk_52_method_11_67 : decode jdk_52_method_11_code 67 = .ok (.aload_n 0, 1) := by decide +kernel
theorem d_jdk_52_method_11_68 : decode jdk_52_method_11_code 68 = .ok (.iload 5, 2) := by decide +kernel
theorem d_jdk_52_method_11_70 : decode jdk_52_method_11_code 70 = .ok (.invokestatic 71, 3) := by decide +kernel
theorem d_jdk_52_method_11_73 : decode jdk_52_method_11_code 73 = .ok (.invokestatic 81, 3) := by decide +kernel
theorem d_jdk_52_method_11_76 : decode jdk_52_method_11_code 76 = .ok (.ifCond .eq (-32), 3) := by decide +kernel
theorem d_jdk_52_method_11_79 : decode jdk_52_method_11_code 79 = .ok (.iinc 4 (-1), 3) := by decide +kernel
theorem d_jdk_52_method_11_82 : decode jdk_52_method_11_code 82 = .ok (.iinc 5 1, 3) := by decide +kernel
theorem d_jdk_52_method_11_85 : decode jdk_52_method_11_code 85 = .ok (.goto (-41), 3) := by decide +kernel
theorem d_jdk_52_method_11_88 : decode jdk_52_method_11_code 88 = .ok (.iload 4, 2) := by decide +kernel
theorem d_jdk_52_method_11_90 : decode jdk_52_method_11_code 90 = .ok (.ireturn, 1) := by decide +kernel
def Q_cpc4 (Z : State) (a1 : Nat) (nn : Int32) (cs : List Int32) (k : ClassId) (n2 : Int32) (vs : List Value) (d : Value) (h0 : Heap) (v : Option Value) (h : Heap) (L : List Loc) : Prop := v = some (.int (Int32.ofNat (cs.length - own_pairs cs))) ∧ Fr Z.heap.size L ∧ h = h0
set_option maxRecDepth 65536 in
set_option maxHeartbeats 40000000 in
theorem rm_cpc4 (l : Launch) (Z : State) (a0 : Array Value) (hw : ∀ d ∈ tables_1, d.before a0 Z = true) (ws : List Jvm.Cond) (a1 : Nat) (nn : Int32) (cs : List Int32) (k : ClassId) (n2 : Int32) (vs : List Value) (d : Value) (h0 : Heap) (OL : Old Z Z.heap.size h0) (p0_ : Arv Z h0 a1 k .byte n2 vs d) (st__assertionsDisabled : Sta Z Z.heap "java/lang/StringUTF16" "$assertionsDisabled" "Z" (.int (1 : Int32))) (st_HI_BYTE_SHIFT : Sta Z Z.heap "java/lang/StringUTF16" "HI_BYTE_SHIFT" "I" (.int (0 : Int32))) (st_LO_BYTE_SHIFT : Sta Z Z.heap "java/lang/StringUTF16" "LO_BYTE_SHIFT" "I" (.int (8 : Int32))) (hn2 : n2 = Int32.ofNat (2 * cs.length)) (hvs : vs = StrChars.Road.wideBytes cs) (hd : d = .int 0) (hle : cs.length ≤ 4000) (hlen : 0 < cs.length) (hrng : ∀ c ∈ cs, ¬ c < 0 ∧ ¬ (65535 : Int32) < c) (hnn : nn = (Int32.ofNat cs.length)) :
    MetFree l (⟨"java/lang/StringUTF16", "codePointCount", "([BIIZ)I"⟩ : MethodName) (head1 (Jvm.Cond.code (⟨"java/lang/StringUTF16", "codePointCount", "([BIIZ)I"⟩ : MethodName) jdk_52_method_11_code 6 (some .int) :: ws) ({ frames := 1, cells := 0, slots := 0, locals := 20 } : Room)) (fun a U => a = #[(.ref a1), (.int (0 : Int32)), (.int nn), (.int (0 : Int32))] ∧ Z.Warmed39 U.vm ∧ U.heap = h0) (fun _ _ _ _ _ => True) (fun _ U o U' => ∃ v L, o = .returned v ∧ Q_cpc4 Z a1 nn cs k n2 vs d h0 v U'.heap L ∧ FrameEnd U o U' L ({ frames := 1, cells := 0, slots := 0, locals := 20 } : Room).cells ({ frames := 1, cells := 0, slots := 0, locals := 20 } : Room).slots) := by
  refine MetFree.of_bodySF (plainFor_of_name pn_25) hisR ?_
  intro p e s m args below meth c s₁ Bd hml0 hP hK
  obtain ⟨rfl, hZ, hh⟩ := hP
  have hx := Bd.exec
  have hby := Bd.bytes
  have hml : c.maxLocals = 6 := hml0
  have hown : s.vm.findClass "java/lang/StringUTF16" = some m.cls := findClass_of_methodNamed Bd.named
  have hnm := (name_of_methodNamed Bd.named Bd.method).1
  have X0 : Stand p l e ({ frames := 1, cells := 0, slots := 0, locals := 20 } : Room) s m #[(.ref a1), (.int (0 : Int32)), (.int nn), (.int (0 : Int32))] below meth c s₁ [] 0 0 := Stand.of_body Bd
  have e0 : s₁.heap = h0 := by rw [← hh, Bd.state]; rfl
  have N0 := Fr.nil Z.heap.size
  have Z0 : Z.heap.size ≤ h0.size := OL.2.1
  have lt_0 : @LT.lt Nat _ a1 h0.size := p0_.lt
  obtain ⟨PP, hPP⟩ : ∃ PP : Outcome → State → Prop, PP = (fun o tE => ∃ v L, o = .returned v ∧ Q_cpc4 Z a1 nn cs k n2 vs d h0 v tE.heap L ∧ FrameEnd s o tE L ({ frames := 1, cells := 0, slots := 0, locals := 20 } : Room).cells ({ frames := 1, cells := 0, slots := 0, locals := 20 } : Room).slots) := ⟨_, rfl⟩
  show own_Go p.tables e below (fun o tE => ∃ v L, o = .returned v ∧ Q_cpc4 Z a1 nn cs k n2 vs d h0 v tE.heap L ∧ FrameEnd s o tE L ({ frames := 1, cells := 0, slots := 0, locals := 20 } : Room).cells ({ frames := 1, cells := 0, slots := 0, locals := 20 } : Room).slots) (s₁.setTop (entryFrame m #[(.ref a1), (.int (0 : Int32)), (.int nn), (.int (0 : Int32))] 6))
  rw [← hPP]
  refine own_Go.st (fun t k => castTop (ef_241 m a1 (0 : Int32) nn (0 : Int32)) k) ?_
  subst hvs hd hn2 hnn
  show own_Go _ _ _ _ (s₁.setTop (mkF m 0 #[.val (.ref a1), .val (.int (0 : Int32)), .val (.int (Int32.ofNat cs.length)), .val (.int (0 : Int32)), .unset, .unset] []))
  obtain ⟨T258, X258, e258, st258⟩ := getS2 X0 hx hZ hown (host := "") (Or.inl (hw _ (List.mem_of_getElem? (i := 46) rfl))) Via.refl e0 (st__assertionsDisabled.ext OL.2) (g := (mkF m 0 #[.val (.ref a1), .val (.int (0 : Int32)), .val (.int (Int32.ofNat cs.length)), .val (.int (0 : Int32)), .unset, .unset] [])) rfl (hb hby d_jdk_52_method_11_0)
  refine own_Go.st st258 ?_
  show own_Go _ _ _ _ (T258.setTop (mkF m 3 #[.val (.ref a1), .val (.int (0 : Int32)), .val (.int (Int32.ofNat cs.length)), .val (.int (0 : Int32)), .unset, .unset] [(.int (1 : Int32))]))
  refine own_Go.st (fun _ k => XS.ifYes X258.here hx rfl (pc0 := 3) (pc' := 19) rfl (hb hby d_jdk_52_method_11_3) rfl ((if0 _ _).trans (feq (by decide : ¬ ((1 : Int32) = (0 : Int32)))).2) (by decide) (by decide) k) ?_
  show own_Go _ _ _ _ (T258.setTop (mkF m 19 #[.val (.ref a1), .val (.int (0 : Int32)), .val (.int (Int32.ofNat cs.length)), .val (.int (0 : Int32)), .unset, .unset] []))
  refine own_Go.st (fun _ k => XS.iloadN X258.here hx rfl (hb hby d_jdk_52_method_11_19) rfl k) ?_
  show own_Go _ _ _ _ (T258.setTop (mkF m 20 #[.val (.ref a1), .val (.int (0 : Int32)), .val (.int (Int32.ofNat cs.length)), .val (.int (0 : Int32)), .unset, .unset] [(.int (Int32.ofNat cs.length))]))
  refine own_Go.st (fun _ k => XS.iloadN X258.here hx rfl (hb hby d_jdk_52_method_11_20) rfl k) ?_
  show own_Go _ _ _ _ (T258.setTop (mkF m 21 #[.val (.ref a1), .val (.int (0 : Int32)), .val (.int (Int32.ofNat cs.length)), .val (.int (0 : Int32)), .unset, .unset] [(.int (0 : Int32)), (.int (Int32.ofNat cs.length))]))
  refine own_Go.st (fun _ k => XS.isub X258.here hx rfl (hb hby d_jdk_52_method_11_21) rfl k) ?_
  show own_Go _ _ _ _ (T258.setTop (mkF m 22 #[.val (.ref a1), .val (.int (0 : Int32)), .val (.int (Int32.ofNat cs.length)), .val (.int (0 : Int32)), .unset, .unset] [(.int ((Int32.ofNat cs.length) - (0 : Int32)))]))
  refine own_Go.st (fun _ k => XS.istore X258.here hx rfl (hb hby d_jdk_52_method_11_22) rfl (l' := #[.val (.ref a1), .val (.int (0 : Int32)), .val (.int (Int32.ofNat cs.length)), .val (.int (0 : Int32)), .val (.int ((Int32.ofNat cs.length) - (0 : Int32))), .unset]) rfl k) ?_
  show own_Go _ _ _ _ (T258.setTop (mkF m 24 #[.val (.ref a1), .val (.int (0 : Int32)), .val (.int (Int32.ofNat cs.length)), .val (.int (0 : Int32)), .val (.int ((Int32.ofNat cs.length) - (0 : Int32))), .unset] []))
  rw [own_sub0]
  show own_Go _ _ _ _ (T258.setTop (mkF m 24 #[.val (.ref a1), .val (.int (0 : Int32)), .val (.int (Int32.ofNat cs.length)), .val (.int (0 : Int32)), .val (.int (Int32.ofNat cs.length)), .unset] []))
  refine own_Go.st (fun _ k => XS.iloadN X258.here hx rfl (hb hby d_jdk_52_method_11_24) rfl k) ?_
  show own_Go _ _ _ _ (T258.setTop (mkF m 25 #[.val (.ref a1), .val (.int (0 : Int32)), .val (.int (Int32.ofNat cs.length)), .val (.int (0 : Int32)), .val (.int (Int32.ofNat cs.length)), .unset] [(.int (0 : Int32))]))
  refine own_Go.st (fun _ k => XS.istore X258.here hx rfl (hb hby d_jdk_52_method_11_25) rfl (l' := #[.val (.ref a1), .val (.int (0 : Int32)), .val (.int (Int32.ofNat cs.length)), .val (.int (0 : Int32)), .val (.int (Int32.ofNat cs.length)), .val (.int (0 : Int32))]) rfl k) ?_
  show own_Go _ _ _ _ (T258.setTop (mkF m 27 #[.val (.ref a1), .val (.int (0 : Int32)), .val (.int (Int32.ofNat cs.length)), .val (.int (0 : Int32)), .val (.int (Int32.ofNat cs.length)), .val (.int (0 : Int32))] []))
  refine own_Go.st (fun _ k => XS.iloadN X258.here hx rfl (hb hby d_jdk_52_method_11_27) rfl k) ?_
  show own_Go _ _ _ _ (T258.setTop (mkF m 28 #[.val (.ref a1), .val (.int (0 : Int32)), .val (.int (Int32.ofNat cs.length)), .val (.int (0 : Int32)), .val (.int (Int32.ofNat cs.length)), .val (.int (0 : Int32))] [(.int (0 : Int32))]))
  have hc259 : (0 : Int32) = (0 : Int32) := rfl
  refine own_Go.st (fun _ k => XS.ifYes X258.here hx rfl (pc0 := 28) (pc' := 44) rfl (hb hby d_jdk_52_method_11_28) rfl ((if0 _ _).trans (teq hc259).1) (by decide) (by decide) k) ?_
  show own_Go _ _ _ _ (T258.setTop (mkF m 44 #[.val (.ref a1), .val (.int (0 : Int32)), .val (.int (Int32.ofNat cs.length)), .val (.int (0 : Int32)), .val (.int (Int32.ofNat cs.length)), .val (.int (0 : Int32))] []))
  have LP260 : ∀ (nL : Nat) (i : Nat) (r : Nat) (TL260 : State) (lL260 : List Loc), (i ≤ cs.length) → (r = cs.length - own_pairs cs + own_pairs (cs.drop i)) → (r ≤ 4000) → (Stand p l e ({ frames := 1, cells := 0, slots := 0, locals := 20 } : Room) s m #[(.ref a1), (.int (0 : Int32)), (.int (Int32.ofNat cs.length)), (.int (0 : Int32))] below meth c TL260 lL260 0 0) → (TL260.heap = h0) → (Fr Z.heap.size lL260) → cs.length - i = nL → own_Go p.tables e below PP (TL260.setTop (mkF m 44 #[.val (.ref a1), .val (.int (0 : Int32)), .val (.int (Int32.ofNat cs.length)), .val (.int (0 : Int32)), .val (.int (Int32.ofNat r)), .val (.int (Int32.ofNat i))] [])) := by
    intro nL
    induction nL using Nat.strongRecOn with
    | _ nL ihL =>
      intro i r TL260 lL260 hi hr hr4 XL260 eL260 NL260 hmL
      refine own_Go.st (fun _ k => XS.iload XL260.here hx rfl (hb hby d_jdk_52_method_11_44) rfl k) ?_
      show own_Go _ _ _ _ (TL260.setTop (mkF m 46 #[.val (.ref a1), .val (.int (0 : Int32)), .val (.int (Int32.ofNat cs.length)), .val (.int (0 : Int32)), .val (.int (Int32.ofNat r)), .val (.int (Int32.ofNat i))] [(.int (Int32.ofNat i))]))
      refine own_Go.st (fun _ k => XS.iloadN XL260.here hx rfl (hb hby d_jdk_52_method_11_46) rfl k) ?_
      show own_Go _ _ _ _ (TL260.setTop (mkF m 47 #[.val (.ref a1), .val (.int (0 : Int32)), .val (.int (Int32.ofNat cs.length)), .val (.int (0 : Int32)), .val (.int (Int32.ofNat r)), .val (.int (Int32.ofNat i))] [(.int (Int32.ofNat cs.length)), (.int (Int32.ofNat i))]))
      refine own_Go.st (fun _ k => XS.iconst XL260.here hx rfl (hb hby d_jdk_52_method_11_47) k) ?_
      show own_Go _ _ _ _ (TL260.setTop (mkF m 48 #[.val (.ref a1), .val (.int (0 : Int32)), .val (.int (Int32.ofNat cs.length)), .val (.int (0 : Int32)), .val (.int (Int32.ofNat r)), .val (.int (Int32.ofNat i))] [(.int (1 : Int32)), (.int (Int32.ofNat cs.length)), (.int (Int32.ofNat i))]))
      refine own_Go.st (fun _ k => XS.isub XL260.here hx rfl (hb hby d_jdk_52_method_11_48) rfl k) ?_
      show own_Go _ _ _ _ (TL260.setTop (mkF m 49 #[.val (.ref a1), .val (.int (0 : Int32)), .val (.int (Int32.ofNat cs.length)), .val (.int (0 : Int32)), .val (.int (Int32.ofNat r)), .val (.int (Int32.ofNat i))] [(.int ((Int32.ofNat cs.length) - (1 : Int32))), (.int (Int32.ofNat i))]))
      by_cases h49 : (Int32.ofNat i) < ((Int32.ofNat cs.length) - (1 : Int32))
      ·
        refine own_Go.st (fun _ k => XS.icmpNo XL260.here hx rfl (hb hby d_jdk_52_method_11_49) rfl (tlt h49).2.1 k) ?_
        show own_Go _ _ _ _ (TL260.setTop (mkF m 52 #[.val (.ref a1), .val (.int (0 : Int32)), .val (.int (Int32.ofNat cs.length)), .val (.int (0 : Int32)), .val (.int (Int32.ofNat r)), .val (.int (Int32.ofNat i))] []))
        have hi7 : i + 1 < cs.length := by
          rw [own_ofM hlen hle] at h49
          have := (own_oflt (by omega) (by omega)).mp h49
          omega
        have hpd := own_pairs_drop hi7
        refine own_Go.st (fun _ k => XS.aloadN XL260.here hx rfl (hb hby d_jdk_52_method_11_52) rfl rfl k) ?_
        show own_Go _ _ _ _ (TL260.setTop (mkF m 53 #[.val (.ref a1), .val (.int (0 : Int32)), .val (.int (Int32.ofNat cs.length)), .val (.int (0 : Int32)), .val (.int (Int32.ofNat r)), .val (.int (Int32.ofNat i))] [(.ref a1)]))
        refine own_Go.st (fun _ k => XS.iload XL260.here hx rfl (hb hby d_jdk_52_method_11_53) rfl k) ?_
        show own_Go _ _ _ _ (TL260.setTop (mkF m 55 #[.val (.ref a1), .val (.int (0 : Int32)), .val (.int (Int32.ofNat cs.length)), .val (.int (0 : Int32)), .val (.int (Int32.ofNat r)), .val (.int (Int32.ofNat i))] [(.int (Int32.ofNat i)), (.ref a1)]))
        refine own_Go.st (fun _ k => XS.iinc XL260.here hx rfl (hb hby d_jdk_52_method_11_55) rfl (l' := #[.val (.ref a1), .val (.int (0 : Int32)), .val (.int (Int32.ofNat cs.length)), .val (.int (0 : Int32)), .val (.int (Int32.ofNat r)), .val (.int ((Int32.ofNat i) + (1 : Int32)))]) rfl k) ?_
        show own_Go _ _ _ _ (TL260.setTop (mkF m 58 #[.val (.ref a1), .val (.int (0 : Int32)), .val (.int (Int32.ofNat cs.length)), .val (.int (0 : Int32)), .val (.int (Int32.ofNat r)), .val (.int ((Int32.ofNat i) + (1 : Int32)))] [(.int (Int32.ofNat i)), (.ref a1)]))
        rw [own_ofS (by omega : i < 1073741823)]
        show own_Go _ _ _ _ (TL260.setTop (mkF m 58 #[.val (.ref a1), .val (.int (0 : Int32)), .val (.int (Int32.ofNat cs.length)), .val (.int (0 : Int32)), .val (.int (Int32.ofNat r)), .val (.int (Int32.ofNat (i + 1)))] [(.int (Int32.ofNat i)), (.ref a1)]))
        obtain ⟨_, _, ⟨T261, L261, k261, n261⟩, -, X261, ⟨Lc261, hQ261, l261, y261, z261⟩, st261⟩ := Jvm.LawKit.callS XL260 hx (y := (⟨"java/lang/StringUTF16", "getChar", "([BI)C"⟩ : MethodName)) hown (mvT hZ (hw _ (List.mem_of_getElem? (i := 49) rfl))) (mvT hZ (hw _ (List.mem_of_getElem? (i := 50) rfl))) (mvT hZ (hw _ (List.mem_of_getElem? (i := 27) rfl))) (mvT hZ (hw _ (List.mem_of_getElem? (i := 51) rfl))) (by decide) (backOf (W := 0) (rm_getc l Z a0 hw [] a1 (Int32.ofNat i) i k (Int32.ofNat (2 * cs.length)) (StrChars.Road.wideBytes cs) (.int 0) (cs.getD (i) 0) h0 OL p0_ st__assertionsDisabled st_HI_BYTE_SHIFT st_LO_BYTE_SHIFT rfl (by rw [own_wlen]; omega) (by rw [own_wlen]) (by rw [own_wlen]; omega) (StrChars.Road.wide_lo _ _ _ (by omega : i < cs.length)) (StrChars.Road.wide_hi _ _ _ (by omega : i < cs.length)) (hrng _ (by rw [List.getD_eq_getElem?_getD, List.getElem?_eq_getElem (by omega : i < cs.length)]; exact List.getElem_mem _))) hZ (hw _ (List.mem_of_getElem? (i := 51) rfl)) (hw _ (List.mem_of_getElem? (i := 27) rfl)) (by decide) (by decide)) (g := (mkF m 58 #[.val (.ref a1), .val (.int (0 : Int32)), .val (.int (Int32.ofNat cs.length)), .val (.int (0 : Int32)), .val (.int (Int32.ofNat r)), .val (.int (Int32.ofNat (i + 1)))] [(.int (Int32.ofNat i)), (.ref a1)])) rfl (by rw [hml]; rfl) (argsL := [(.ref a1), (.int (Int32.ofNat i))]) (rest := []) (lenOf pd_158 rfl) rfl (by show 2 * 0 + _ ≤ _; exact Nat.le_of_eq rfl) (hb hby d_jdk_52_method_11_58) (fun _ _ => ⟨rfl, eL260, (by decide : 0 + 0 ≤ _), (by decide : 0 + 0 ≤ _)⟩)
        dsimp only [Pt.U, Pt.locs, Pt.cells, Pt.slots] at X261 l261 y261 z261 st261 hQ261
        subst l261 y261 z261
        obtain ⟨rfl, N261q, K261⟩ := hQ261
        have N261 := Fr.app NL260 N261q
        refine own_Go.st st261 ?_
        show own_Go _ _ _ _ (T261.setTop (mkF m 61 #[.val (.ref a1), .val (.int (0 : Int32)), .val (.int (Int32.ofNat cs.length)), .val (.int (0 : Int32)), .val (.int (Int32.ofNat r)), .val (.int (Int32.ofNat (i + 1)))] [(.int (cs.getD (i) 0))]))
        obtain ⟨_, _, ⟨T262, L262, k262, n262⟩, -, X262, ⟨Lc262, hQ262, l262, y262, z262⟩, st262⟩ := Jvm.LawKit.callS X261 hx (y := (⟨"java/lang/Character", "isHighSurrogate", "(C)Z"⟩ : MethodName)) hown (mvT hZ (hw _ (List.mem_of_getElem? (i := 123) rfl))) (mvT hZ (hw _ (List.mem_of_getElem? (i := 124) rfl))) (mvT hZ (hw _ (List.mem_of_getElem? (i := 125) rfl))) (mvT hZ (hw _ (List.mem_of_getElem? (i := 126) rfl))) (by decide) (backOf (W := 0) (rm_ish l Z a0 hw [] (cs.getD (i) 0) h0 OL ) hZ (hw _ (List.mem_of_getElem? (i := 126) rfl)) (hw _ (List.mem_of_getElem? (i := 125) rfl)) (by decide) (by decide)) (g := (mkF m 61 #[.val (.ref a1), .val (.int (0 : Int32)), .val (.int (Int32.ofNat cs.length)), .val (.int (0 : Int32)), .val (.int (Int32.ofNat r)), .val (.int (Int32.ofNat (i + 1)))] [(.int (cs.getD (i) 0))])) rfl (by rw [hml]; rfl) (argsL := [(.int (cs.getD (i) 0))]) (rest := []) (lenOf pd_261 rfl) rfl (by show 2 * 0 + _ ≤ _; exact Nat.le_of_eq rfl) (hb hby d_jdk_52_method_11_61) (fun _ _ => ⟨rfl, K261, (by decide : 0 + 0 ≤ _), (by decide : 0 + 0 ≤ _)⟩)
        dsimp only [Pt.U, Pt.locs, Pt.cells, Pt.slots] at X262 l262 y262 z262 st262 hQ262
        subst l262 y262 z262
        obtain ⟨r_262, rfl, N262q, K262, pr262_0⟩ := hQ262
        have N262 := Fr.app N261 N262q
        refine own_Go.st st262 ?_
        show own_Go _ _ _ _ (T262.setTop (mkF m 64 #[.val (.ref a1), .val (.int (0 : Int32)), .val (.int (Int32.ofNat cs.length)), .val (.int (0 : Int32)), .val (.int (Int32.ofNat r)), .val (.int (Int32.ofNat (i + 1)))] [(.int r_262)]))
        by_cases h64 : r_262 = (0 : Int32)
        ·
          refine own_Go.st (fun _ k => XS.ifYes X262.here hx rfl (pc0 := 64) (pc' := 44) rfl (hb hby d_jdk_52_method_11_64) rfl ((if0 _ _).trans (teq h64).1) (by decide) (by decide) k) ?_
          show own_Go _ _ _ _ (T262.setTop (mkF m 44 #[.val (.ref a1), .val (.int (0 : Int32)), .val (.int (Int32.ofNat cs.length)), .val (.int (0 : Int32)), .val (.int (Int32.ofNat r)), .val (.int (Int32.ofNat (i + 1)))] []))
          have hnh := own_zero0 pr262_0 h64
          rw [if_neg (fun q => hnh q.1)] at hpd
          exact ihL _ (by omega) (i + 1) r T262 _ (by omega) (by rw [hr, hpd]) (by omega) X262 K262 N262 rfl
        ·
          refine own_Go.st (fun _ k => XS.ifNo X262.here hx rfl (hb hby d_jdk_52_method_11_64) rfl ((if0 _ _).trans (feq h64).1) k) ?_
          show own_Go _ _ _ _ (T262.setTop (mkF m 67 #[.val (.ref a1), .val (.int (0 : Int32)), .val (.int (Int32.ofNat cs.length)), .val (.int (0 : Int32)), .val (.int (Int32.ofNat r)), .val (.int (Int32.ofNat (i + 1)))] []))
          have hyh := own_one0 pr262_0 h64
          refine own_Go.st (fun _ k => XS.aloadN X262.here hx rfl (hb hby d_jdk_52_method_11_67) rfl rfl k) ?_
          show own_Go _ _ _ _ (T262.setTop (mkF m 68 #[.val (.ref a1), .val (.int (0 : Int32)), .val (.int (Int32.ofNat cs.length)), .val (.int (0 : Int32)), .val (.int (Int32.ofNat r)), .val (.int (Int32.ofNat (i + 1)))] [(.ref a1)]))
          refine own_Go.st (fun _ k => XS.iload X262.here hx rfl (hb hby d_jdk_52_method_11_68) rfl k) ?_
          show own_Go _ _ _ _ (T262.setTop (mkF m 70 #[.val (.ref a1), .val (.int (0 : Int32)), .val (.int (Int32.ofNat cs.length)), .val (.int (0 : Int32)), .val (.int (Int32.ofNat r)), .val (.int (Int32.ofNat (i + 1)))] [(.int (Int32.ofNat (i + 1))), (.ref a1)]))
          obtain ⟨_, _, ⟨T263, L263, k263, n263⟩, -, X263, ⟨Lc263, hQ263, l263, y263, z263⟩, st263⟩ := Jvm.LawKit.callS X262 hx (y := (⟨"java/lang/StringUTF16", "getChar", "([BI)C"⟩ : MethodName)) hown (mvT hZ (hw _ (List.mem_of_getElem? (i := 49) rfl))) (mvT hZ (hw _ (List.mem_of_getElem? (i := 50) rfl))) (mvT hZ (hw _ (List.mem_of_getElem? (i := 27) rfl))) (mvT hZ (hw _ (List.mem_of_getElem? (i := 51) rfl))) (by decide) (backOf (W := 0) (rm_getc l Z a0 hw [] a1 (Int32.ofNat (i + 1)) (i + 1) k (Int32.ofNat (2 * cs.length)) (StrChars.Road.wideBytes cs) (.int 0) (cs.getD (i + 1) 0) h0 OL p0_ st__assertionsDisabled st_HI_BYTE_SHIFT st_LO_BYTE_SHIFT rfl (by rw [own_wlen]; omega) (by rw [own_wlen]) (by rw [own_wlen]; omega) (StrChars.Road.wide_lo _ _ _ hi7) (StrChars.Road.wide_hi _ _ _ hi7) (hrng _ (by rw [List.getD_eq_getElem?_getD, List.getElem?_eq_getElem hi7]; exact List.getElem_mem _))) hZ (hw _ (List.mem_of_getElem? (i := 51) rfl)) (hw _ (List.mem_of_getElem? (i := 27) rfl)) (by decide) (by decide)) (g := (mkF m 70 #[.val (.ref a1), .val (.int (0 : Int32)), .val (.int (Int32.ofNat cs.length)), .val (.int (0 : Int32)), .val (.int (Int32.ofNat r)), .val (.int (Int32.ofNat (i + 1)))] [(.int (Int32.ofNat (i + 1))), (.ref a1)])) rfl (by rw [hml]; rfl) (argsL := [(.ref a1), (.int (Int32.ofNat (i + 1)))]) (rest := []) (lenOf pd_158 rfl) rfl (by show 2 * 0 + _ ≤ _; exact Nat.le_of_eq rfl) (hb hby d_jdk_52_method_11_70) (fun _ _ => ⟨rfl, K262, (by decide : 0 + 0 ≤ _), (by decide : 0 + 0 ≤ _)⟩)
          dsimp only [Pt.U, Pt.locs, Pt.cells, Pt.slots] at X263 l263 y263 z263 st263 hQ263
          subst l263 y263 z263
          obtain ⟨rfl, N263q, K263⟩ := hQ263
          have N263 := Fr.app N262 N263q
          refine own_Go.st st263 ?_
          show own_Go _ _ _ _ (T263.setTop (mkF m 73 #[.val (.ref a1), .val (.int (0 : Int32)), .val (.int (Int32.ofNat cs.length)), .val (.int (0 : Int32)), .val (.int (Int32.ofNat r)), .val (.int (Int32.ofNat (i + 1)))] [(.int (cs.getD (i + 1) 0))]))
          obtain ⟨_, _, ⟨T264, L264, k264, n264⟩, -, X264, ⟨Lc264, hQ264, l264, y264, z264⟩, st264⟩ := Jvm.LawKit.callS X263 hx (y := (⟨"java/lang/Character", "isLowSurrogate", "(C)Z"⟩ : MethodName)) hown (mvT hZ (hw _ (List.mem_of_getElem? (i := 129) rfl))) (mvT hZ (hw _ (List.mem_of_getElem? (i := 130) rfl))) (mvT hZ (hw _ (List.mem_of_getElem? (i := 125) rfl))) (mvT hZ (hw _ (List.mem_of_getElem? (i := 131) rfl))) (by decide) (backOf (W := 0) (rm_isl l Z a0 hw [] (cs.getD (i + 1) 0) h0 OL ) hZ (hw _ (List.mem_of_getElem? (i := 131) rfl)) (hw _ (List.mem_of_getElem? (i := 125) rfl)) (by decide) (by decide)) (g := (mkF m 73 #[.val (.ref a1), .val (.int (0 : Int32)), .val (.int (Int32.ofNat cs.length)), .val (.int (0 : Int32)), .val (.int (Int32.ofNat r)), .val (.int (Int32.ofNat (i + 1)))] [(.int (cs.getD (i + 1) 0))])) rfl (by rw [hml]; rfl) (argsL := [(.int (cs.getD (i + 1) 0))]) (rest := []) (lenOf pd_261 rfl) rfl (by show 2 * 0 + _ ≤ _; exact Nat.le_of_eq rfl) (hb hby d_jdk_52_method_11_73) (fun _ _ => ⟨rfl, K263, (by decide : 0 + 0 ≤ _), (by decide : 0 + 0 ≤ _)⟩)
          dsimp only [Pt.U, Pt.locs, Pt.cells, Pt.slots] at X264 l264 y264 z264 st264 hQ264
          subst l264 y264 z264
          obtain ⟨r_264, rfl, N264q, K264, pr264_0⟩ := hQ264
          have N264 := Fr.app N263 N264q
          refine own_Go.st st264 ?_
          show own_Go _ _ _ _ (T264.setTop (mkF m 76 #[.val (.ref a1), .val (.int (0 : Int32)), .val (.int (Int32.ofNat cs.length)), .val (.int (0 : Int32)), .val (.int (Int32.ofNat r)), .val (.int (Int32.ofNat (i + 1)))] [(.int r_264)]))
          by_cases h76 : r_264 = (0 : Int32)
          ·
            refine own_Go.st (fun _ k => XS.ifYes X264.here hx rfl (pc0 := 76) (pc' := 44) rfl (hb hby d_jdk_52_method_11_76) rfl ((if0 _ _).trans (teq h76).1) (by decide) (by decide) k) ?_
            show own_Go _ _ _ _ (T264.setTop (mkF m 44 #[.val (.ref a1), .val (.int (0 : Int32)), .val (.int (Int32.ofNat cs.length)), .val (.int (0 : Int32)), .val (.int (Int32.ofNat r)), .val (.int (Int32.ofNat (i + 1)))] []))
            have hnl := own_zero0 pr264_0 h76
            rw [if_neg (fun q => hnl q.2)] at hpd
            exact ihL _ (by omega) (i + 1) r T264 _ (by omega) (by rw [hr, hpd]) (by omega) X264 K264 N264 rfl
          ·
            refine own_Go.st (fun _ k => XS.ifNo X264.here hx rfl (hb hby d_jdk_52_method_11_76) rfl ((if0 _ _).trans (feq h76).1) k) ?_
            show own_Go _ _ _ _ (T264.setTop (mkF m 79 #[.val (.ref a1), .val (.int (0 : Int32)), .val (.int (Int32.ofNat cs.length)), .val (.int (0 : Int32)), .val (.int (Int32.ofNat r)), .val (.int (Int32.ofNat (i + 1)))] []))
            have hyl := own_one0 pr264_0 h76
            rw [if_pos ⟨hyh, hyl⟩] at hpd
            refine own_Go.st (fun _ k => XS.iinc X264.here hx rfl (hb hby d_jdk_52_method_11_79) rfl (l' := #[.val (.ref a1), .val (.int (0 : Int32)), .val (.int (Int32.ofNat cs.length)), .val (.int (0 : Int32)), .val (.int ((Int32.ofNat r) + (-1 : Int32))), .val (.int (Int32.ofNat (i + 1)))]) rfl k) ?_
            show own_Go _ _ _ _ (T264.setTop (mkF m 82 #[.val (.ref a1), .val (.int (0 : Int32)), .val (.int (Int32.ofNat cs.length)), .val (.int (0 : Int32)), .val (.int ((Int32.ofNat r) + (-1 : Int32))), .val (.int (Int32.ofNat (i + 1)))] []))
            rw [own_ofP (by omega) hr4]
            show own_Go _ _ _ _ (T264.setTop (mkF m 82 #[.val (.ref a1), .val (.int (0 : Int32)), .val (.int (Int32.ofNat cs.length)), .val (.int (0 : Int32)), .val (.int (Int32.ofNat (r - 1))), .val (.int (Int32.ofNat (i + 1)))] []))
            refine own_Go.st (fun _ k => XS.iinc X264.here hx rfl (hb hby d_jdk_52_method_11_82) rfl (l' := #[.val (.ref a1), .val (.int (0 : Int32)), .val (.int (Int32.ofNat cs.length)), .val (.int (0 : Int32)), .val (.int (Int32.ofNat (r - 1))), .val (.int ((Int32.ofNat (i + 1)) + (1 : Int32)))]) rfl k) ?_
            show own_Go _ _ _ _ (T264.setTop (mkF m 85 #[.val (.ref a1), .val (.int (0 : Int32)), .val (.int (Int32.ofNat cs.length)), .val (.int (0 : Int32)), .val (.int (Int32.ofNat (r - 1))), .val (.int ((Int32.ofNat (i + 1)) + (1 : Int32)))] []))
            rw [own_ofS (by omega : i + 1 < 1073741823)]
            show own_Go _ _ _ _ (T264.setTop (mkF m 85 #[.val (.ref a1), .val (.int (0 : Int32)), .val (.int (Int32.ofNat cs.length)), .val (.int (0 : Int32)), .val (.int (Int32.ofNat (r - 1))), .val (.int (Int32.ofNat (i + 2)))] []))
            refine own_Go.st (fun _ k => XS.goto X264.here hx rfl (pc0 := 85) (pc' := 44) rfl (hb hby d_jdk_52_method_11_85) (by decide) (by decide) k) ?_
            show own_Go _ _ _ _ (T264.setTop (mkF m 44 #[.val (.ref a1), .val (.int (0 : Int32)), .val (.int (Int32.ofNat cs.length)), .val (.int (0 : Int32)), .val (.int (Int32.ofNat (r - 1))), .val (.int (Int32.ofNat (i + 2)))] []))
            exact ihL _ (by omega) (i + 2) (r - 1) T264 _ (by omega) (by omega) (by omega) X264 K264 N264 rfl
      ·
        refine own_Go.st (fun _ k => XS.icmpYes XL260.here hx rfl (pc0 := 49) (pc' := 88) rfl (hb hby d_jdk_52_method_11_49) rfl (flt h49).2.1 (by decide) (by decide) k) ?_
        show own_Go _ _ _ _ (TL260.setTop (mkF m 88 #[.val (.ref a1), .val (.int (0 : Int32)), .val (.int (Int32.ofNat cs.length)), .val (.int (0 : Int32)), .val (.int (Int32.ofNat r)), .val (.int (Int32.ofNat i))] []))
        have hi8 : ¬ i + 1 < cs.length := fun q => h49 (by rw [own_ofM hlen hle]; exact (own_oflt (by omega) (by omega)).mpr (by omega))
        have hpe := own_pairs_end hi8
        refine own_Go.st (fun _ k => XS.iload XL260.here hx rfl (hb hby d_jdk_52_method_11_88) rfl k) ?_
        show own_Go _ _ _ _ (TL260.setTop (mkF m 90 #[.val (.ref a1), .val (.int (0 : Int32)), .val (.int (Int32.ofNat cs.length)), .val (.int (0 : Int32)), .val (.int (Int32.ofNat r)), .val (.int (Int32.ofNat i))] [(.int (Int32.ofNat r))]))
        obtain ⟨fs265, hr265, hrun265, hend265, hW265, hsm265⟩ := XL260.leave (v := some (.int (Int32.ofNat r))) (fun h => by rw [Bd.returns] at h; cases h)
        subst hPP
        refine ⟨_, _, own_retI XL260 hx Bd.returns (hb hby d_jdk_52_method_11_90) hr265, hrun265, hend265, _, _, rfl, ?_, ⟨_, rfl⟩, hW265, hsm265.mono (by decide) (by decide)⟩
        · show Q_cpc4 Z _ _ _ _ _ _ _ h0 _ TL260.heap _
          rw [eL260]
          exact ⟨(by rw [show r = cs.length - own_pairs cs by omega]), NL260, rfl⟩
  exact LP260 _ 0 cs.length T258 _ (Nat.zero_le _) (by have := own_pairs_le cs; simp only [List.drop_zero]; omega) hle X258 e258 N0 rfl
theorem d_jdk_52_method_12_0 : decode jdk_52_method_12_code 0 = .ok (.aload_n 0, 1) := by decide +kernel
theorem d_jdk_52_method_12_1 : decode jdk_52_method_12_code 1 = .ok (.iload_n 1, 1) := by decide +kernel
theorem d_jdk_52_method_12_2 : decode jdk_52_method_12_code 2 = .ok (.iload_n 2, 1) := by decide +kernel
theorem d_jdk_52_method_12_3 : decode jdk_52_method_12_code 3 = .ok (.iconst 0, 1) := by decide +kernel
theorem pd_278 : parseMethodDescriptor "([BIIZ)I" = some ⟨[(.array .byte), .int, .int, .boolean], some .int⟩ := by decide +kernel
theorem d_jdk_52_method_12_4 : decode jdk_52_method_12_code 4 = .ok (.invokestatic 100, 3) := by decide +kernel
theorem d_jdk_52_method_12_7 : decode jdk_52_method_12_code 7 = .ok (.ireturn, 1) := by decide +kernel
def Q_cpc3 (Z : State) (a1 : Nat) (nn : Int32) (cs : List Int32) (k : ClassId) (n2 : Int32) (vs : List Value) (d : Value) (h0 : Heap) (v : Option Value) (h : Heap) (L : List Loc) : Prop := v = some (.int (Int32.ofNat (cs.length - own_pairs cs))) ∧ Fr Z.heap.size L ∧ h = h0
set_option maxRecDepth 65536 in
set_option maxHeartbeats 40000000 in
theorem rm_cpc3 (l : Launch) (Z : State) (a0 : Array Value) (hw : ∀ d ∈ tables_1, d.before a0 Z = true) (ws : List Jvm.Cond) (a1 : Nat) (nn : Int32) (cs : List Int32) (k : ClassId) (n2 : Int32) (vs : List Value) (d : Value) (h0 : Heap) (OL : Old Z Z.heap.size h0) (p0_ : Arv Z h0 a1 k .byte n2 vs d) (st__assertionsDisabled : Sta Z Z.heap "java/lang/StringUTF16" "$assertionsDisabled" "Z" (.int (1 : Int32))) (st_HI_BYTE_SHIFT : Sta Z Z.heap "java/lang/StringUTF16" "HI_BYTE_SHIFT" "I" (.int (0 : Int32))) (st_LO_BYTE_SHIFT : Sta Z Z.heap "java/lang/StringUTF16" "LO_BYTE_SHIFT" "I" (.int (8 : Int32))) (hn2 : n2 = Int32.ofNat (2 * cs.length)) (hvs : vs = StrChars.Road.wideBytes cs) (hd : d = .int 0) (hle : cs.length ≤ 4000) (hlen : 0 < cs.length) (hrng : ∀ c ∈ cs, ¬ c < 0 ∧ ¬ (65535 : Int32) < c) (hnn : nn = (Int32.ofNat cs.length)) :
    MetFree l (⟨"java/lang/StringUTF16", "codePointCount", "([BII)I"⟩ : MethodName) (head1 (Jvm.Cond.code (⟨"java/lang/StringUTF16", "codePointCount", "([BII)I"⟩ : MethodName) jdk_52_method_12_code 3 (some .int) :: ws) ({ frames := 2, cells := 0, slots := 0, locals := 37 } : Room)) (fun a U => a = #[(.ref a1), (.int (0 : Int32)), (.int nn)] ∧ Z.Warmed39 U.vm ∧ U.heap = h0) (fun _ _ _ _ _ => True) (fun _ U o U' => ∃ v L, o = .returned v ∧ Q_cpc3 Z a1 nn cs k n2 vs d h0 v U'.heap L ∧ FrameEnd U o U' L ({ frames := 2, cells := 0, slots := 0, locals := 37 } : Room).cells ({ frames := 2, cells := 0, slots := 0, locals := 37 } : Room).slots) := by
  refine MetFree.of_bodySF (plainFor_of_name pn_25) hisR ?_
  intro p e s m args below meth c s₁ Bd hml0 hP hK
  obtain ⟨rfl, hZ, hh⟩ := hP
  have hx := Bd.exec
  have hby := Bd.bytes
  have hml : c.maxLocals = 3 := hml0
  have hown : s.vm.findClass "java/lang/StringUTF16" = some m.cls := findClass_of_methodNamed Bd.named
  have hnm := (name_of_methodNamed Bd.named Bd.method).1
  have X0 : Stand p l e ({ frames := 2, cells := 0, slots := 0, locals := 37 } : Room) s m #[(.ref a1), (.int (0 : Int32)), (.int nn)] below meth c s₁ [] 0 0 := Stand.of_body Bd
  have e0 : s₁.heap = h0 := by rw [← hh, Bd.state]; rfl
  have N0 := Fr.nil Z.heap.size
  have Z0 : Z.heap.size ≤ h0.size := OL.2.1
  have lt_0 : @LT.lt Nat _ a1 h0.size := p0_.lt
  obtain ⟨PP, hPP⟩ : ∃ PP : Outcome → State → Prop, PP = (fun o tE => ∃ v L, o = .returned v ∧ Q_cpc3 Z a1 nn cs k n2 vs d h0 v tE.heap L ∧ FrameEnd s o tE L ({ frames := 2, cells := 0, slots := 0, locals := 37 } : Room).cells ({ frames := 2, cells := 0, slots := 0, locals := 37 } : Room).slots) := ⟨_, rfl⟩
  show own_Go p.tables e below (fun o tE => ∃ v L, o = .returned v ∧ Q_cpc3 Z a1 nn cs k n2 vs d h0 v tE.heap L ∧ FrameEnd s o tE L ({ frames := 2, cells := 0, slots := 0, locals := 37 } : Room).cells ({ frames := 2, cells := 0, slots := 0, locals := 37 } : Room).slots) (s₁.setTop (entryFrame m #[(.ref a1), (.int (0 : Int32)), (.int nn)] 3))
  rw [← hPP]
  refine own_Go.st (fun t k => castTop (ef_50 m a1 (0 : Int32) nn) k) ?_
  show own_Go _ _ _ _ (s₁.setTop (mkF m 0 #[.val (.ref a1), .val (.int (0 : Int32)), .val (.int nn)] []))
  refine own_Go.st (fun _ k => XS.aloadN X0.here hx rfl (hb hby d_jdk_52_method_12_0) rfl rfl k) ?_
  show own_Go _ _ _ _ (s₁.setTop (mkF m 1 #[.val (.ref a1), .val (.int (0 : Int32)), .val (.int nn)] [(.ref a1)]))
  refine own_Go.st (fun _ k => XS.iloadN X0.here hx rfl (hb hby d_jdk_52_method_12_1) rfl k) ?_
  show own_Go _ _ _ _ (s₁.setTop (mkF m 2 #[.val (.ref a1), .val (.int (0 : Int32)), .val (.int nn)] [(.int (0 : Int32)), (.ref a1)]))
  refine own_Go.st (fun _ k => XS.iloadN X0.here hx rfl (hb hby d_jdk_52_method_12_2) rfl k) ?_
  show own_Go _ _ _ _ (s₁.setTop (mkF m 3 #[.val (.ref a1), .val (.int (0 : Int32)), .val (.int nn)] [(.int nn), (.int (0 : Int32)), (.ref a1)]))
  refine own_Go.st (fun _ k => XS.iconst X0.here hx rfl (hb hby d_jdk_52_method_12_3) k) ?_
  show own_Go _ _ _ _ (s₁.setTop (mkF m 4 #[.val (.ref a1), .val (.int (0 : Int32)), .val (.int nn)] [(.int (0 : Int32)), (.int nn), (.int (0 : Int32)), (.ref a1)]))
  obtain ⟨_, _, ⟨T266, L266, k266, n266⟩, -, X266, ⟨Lc266, hQ266, l266, y266, z266⟩, st266⟩ := Jvm.LawKit.callS X0 hx (y := (⟨"java/lang/StringUTF16", "codePointCount", "([BIIZ)I"⟩ : MethodName)) hown (mvT hZ (hw _ (List.mem_of_getElem? (i := 120) rfl))) (mvT hZ (hw _ (List.mem_of_getElem? (i := 121) rfl))) (mvT hZ (hw _ (List.mem_of_getElem? (i := 27) rfl))) (mvT hZ (hw _ (List.mem_of_getElem? (i := 122) rfl))) (by decide) (backOf (W := 0) (rm_cpc4 l Z a0 hw [] a1 nn cs k n2 vs d h0 OL p0_ st__assertionsDisabled st_HI_BYTE_SHIFT st_LO_BYTE_SHIFT (by first | assumption | decide) (by first | assumption | decide) (by first | assumption | decide) (by first | assumption | decide) (by first | assumption | decide) (by first | assumption | decide) (by first | assumption | decide)) hZ (hw _ (List.mem_of_getElem? (i := 122) rfl)) (hw _ (List.mem_of_getElem? (i := 27) rfl)) (by decide) (by decide)) (g := (mkF m 4 #[.val (.ref a1), .val (.int (0 : Int32)), .val (.int nn)] [(.int (0 : Int32)), (.int nn), (.int (0 : Int32)), (.ref a1)])) rfl (by rw [hml]; rfl) (argsL := [(.ref a1), (.int (0 : Int32)), (.int nn), (.int (0 : Int32))]) (rest := []) (lenOf pd_278 rfl) rfl (by show 2 * 0 + _ ≤ _; exact Nat.le_of_eq rfl) (hb hby d_jdk_52_method_12_4) (fun _ _ => ⟨rfl, e0, (by decide : 0 + 0 ≤ _), (by decide : 0 + 0 ≤ _)⟩)
  dsimp only [Pt.U, Pt.locs, Pt.cells, Pt.slots] at X266 l266 y266 z266 st266 hQ266
  subst l266 y266 z266
  obtain ⟨rfl, N266q, K266⟩ := hQ266
  have N266 := Fr.app N0 N266q
  refine own_Go.st st266 ?_
  show own_Go _ _ _ _ (T266.setTop (mkF m 7 #[.val (.ref a1), .val (.int (0 : Int32)), .val (.int nn)] [(.int (Int32.ofNat (cs.length - own_pairs cs)))]))
  obtain ⟨fs267, hr267, hrun267, hend267, hW267, hsm267⟩ := X266.leave (v := some (.int (Int32.ofNat (cs.length - own_pairs cs)))) (fun h => by rw [Bd.returns] at h; cases h)
  subst hPP
  refine ⟨_, _, own_retI X266 hx Bd.returns (hb hby d_jdk_52_method_12_7) hr267, hrun267, hend267, _, _, rfl, ?_, ⟨_, rfl⟩, hW267, hsm267.mono (by decide) (by decide)⟩
  · show Q_cpc3 Z _ _ _ _ _ _ _ h0 _ T266.heap _
    rw [K266]
    exact ⟨rfl, N266, rfl⟩
theorem d_jdk_42_method_59_0 : decode jdk_42_method_59_code 0 = .ok (.iload_n 1, 1) := by decide +kernel
theorem d_jdk_42_method_59_1 : decode jdk_42_method_59_code 1 = .ok (.iload_n 2, 1) := by decide +kernel
theorem d_jdk_42_method_59_2 : decode jdk_42_method_59_code 2 = .ok (.aload_n 0, 1) := by decide +kernel
theorem pd_284 : parseMethodDescriptor "()I" = some ⟨[], some .int⟩ := by decide +kernel
theorem d_jdk_42_method_59_3 : decode jdk_42_method_59_code 3 = .ok (.invokevirtual 505, 3) := by decide +kernel
theorem pd_286 : parseMethodDescriptor "(III)I" = some ⟨[.int, .int, .int], some .int⟩ := by decide +kernel
theorem d_jdk_42_method_59_6 : decode jdk_42_method_59_code 6 = .ok (.invokestatic 511, 3) := by decide +kernel
theorem d_jdk_42_method_59_9 : decode jdk_42_method_59_code 9 = .ok (.pop, 1) := by decide +kernel
theorem d_jdk_42_method_59_10 : decode jdk_42_method_59_code 10 = .ok (.aload_n 0, 1) := by decide +kernel
theorem pd_290 : parseMethodDescriptor "()Z" = some ⟨[], some .boolean⟩ := by decide +kernel
theorem d_jdk_42_method_59_11 : decode jdk_42_method_59_code 11 = .ok (.invokevirtual 492, 3) := by decide +kernel
theorem d_jdk_42_method_59_14 : decode jdk_42_method_59_code 14 = .ok (.ifCond .eq 7, 3) := by decide +kernel
theorem d_jdk_42_method_59_17 : decode jdk_42_method_59_code 17 = .ok (.iload_n 2, 1) := by decide +kernel
theorem d_jdk_42_method_59_18 : decode jdk_42_method_59_code 18 = .ok (.iload_n 1, 1) := by decide +kernel
theorem d_jdk_42_method_59_19 : decode jdk_42_method_59_code 19 = .ok (.isub, 1) := by decide +kernel
theorem d_jdk_42_method_59_20 : decode jdk_42_method_59_code 20 = .ok (.ireturn, 1) := by decide +kernel
theorem d_jdk_42_method_59_21 : decode jdk_42_method_59_code 21 = .ok (.aload_n 0, 1) := by decide +kernel
theorem d_jdk_42_method_59_22 : decode jdk_42_method_59_code 22 = .ok (.getfield 9, 3) := by decide +kernel
theorem d_jdk_42_method_59_25 : decode jdk_42_method_59_code 25 = .ok (.iload_n 1, 1) := by decide +kernel
theorem d_jdk_42_method_59_26 : decode jdk_42_method_59_code 26 = .ok (.iload_n 2, 1) := by decide +kernel
theorem pd_301 : parseMethodDescriptor "([BII)I" = some ⟨[(.array .byte), .int, .int], some .int⟩ := by decide +kernel
theorem d_jdk_42_method_59_27 : decode jdk_42_method_59_code 27 = .ok (.invokestatic 514, 3) := by decide +kernel
theorem d_jdk_42_method_59_30 : decode jdk_42_method_59_code 30 = .ok (.ireturn, 1) := by decide +kernel
def Q_cpc (Z : State) (a1 : Nat) (nn : Int32) (t : Nat) (cs : List Int32) (zc : Int32) (h0 : Heap) (v : Option Value) (h : Heap) (L : List Loc) : Prop := v = some (.int (Int32.ofNat (cs.length - own_pairs cs))) ∧ Fr Z.heap.size L ∧ h = h0
set_option maxRecDepth 65536 in
set_option maxHeartbeats 40000000 in
theorem rm_cpc (l : Launch) (Z : State) (a0 : Array Value) (hw : ∀ d ∈ tables_1, d.before a0 Z = true) (ws : List Jvm.Cond) (a1 : Nat) (nn : Int32) (t : Nat) (cs : List Int32) (zc : Int32) (h0 : Heap) (OL : Old Z Z.heap.size h0) (p0_ : own_Str Z h0 a1 t cs) (st_COMPACT_STRINGS : Sta Z Z.heap "java/lang/String" "COMPACT_STRINGS" "Z" (.int zc)) (st__assertionsDisabled : Sta Z Z.heap "java/lang/StringUTF16" "$assertionsDisabled" "Z" (.int (1 : Int32))) (st_HI_BYTE_SHIFT : Sta Z Z.heap "java/lang/StringUTF16" "HI_BYTE_SHIFT" "I" (.int (0 : Int32))) (st_LO_BYTE_SHIFT : Sta Z Z.heap "java/lang/StringUTF16" "LO_BYTE_SHIFT" "I" (.int (8 : Int32))) (hnn : nn = (Int32.ofNat cs.length)) (hzc : ¬ zc = 0) :
    MetFree l (⟨"java/lang/String", "codePointCount", "(II)I"⟩ : MethodName) (head1 (Jvm.Cond.code (⟨"java/lang/String", "codePointCount", "(II)I"⟩ : MethodName) jdk_42_method_59_code 3 (some .int) :: ws) ({ frames := 3, cells := 0, slots := 0, locals := 51 } : Room)) (fun a U => a = #[(.ref a1), (.int (0 : Int32)), (.int nn)] ∧ Z.Warmed39 U.vm ∧ U.heap = h0) (fun _ _ _ _ _ => True) (fun _ U o U' => ∃ v L, o = .returned v ∧ Q_cpc Z a1 nn t cs zc h0 v U'.heap L ∧ FrameEnd U o U' L ({ frames := 3, cells := 0, slots := 0, locals := 51 } : Room).cells ({ frames := 3, cells := 0, slots := 0, locals := 51 } : Room).slots) := by
  refine MetFree.of_bodySF (plainFor_of_name pn_0) hisR ?_
  intro p e s m args below meth c s₁ Bd hml0 hP hK
  obtain ⟨rfl, hZ, hh⟩ := hP
  have hx := Bd.exec
  have hby := Bd.bytes
  have hml : c.maxLocals = 3 := hml0
  have hown : s.vm.findClass "java/lang/String" = some m.cls := findClass_of_methodNamed Bd.named
  have hnm := (name_of_methodNamed Bd.named Bd.method).1
  have X0 : Stand p l e ({ frames := 3, cells := 0, slots := 0, locals := 51 } : Room) s m #[(.ref a1), (.int (0 : Int32)), (.int nn)] below meth c s₁ [] 0 0 := Stand.of_body Bd
  have e0 : s₁.heap = h0 := by rw [← hh, Bd.state]; rfl
  have N0 := Fr.nil Z.heap.size
  have Z0 : Z.heap.size ≤ h0.size := OL.2.1
  have lt_0 : @LT.lt Nat _ a1 h0.size := p0_.lt
  have ltv_0 : @LT.lt Nat _ t h0.size := p0_.ltv
  obtain ⟨PP, hPP⟩ : ∃ PP : Outcome → State → Prop, PP = (fun o tE => ∃ v L, o = .returned v ∧ Q_cpc Z a1 nn t cs zc h0 v tE.heap L ∧ FrameEnd s o tE L ({ frames := 3, cells := 0, slots := 0, locals := 51 } : Room).cells ({ frames := 3, cells := 0, slots := 0, locals := 51 } : Room).slots) := ⟨_, rfl⟩
  show own_Go p.tables e below (fun o tE => ∃ v L, o = .returned v ∧ Q_cpc Z a1 nn t cs zc h0 v tE.heap L ∧ FrameEnd s o tE L ({ frames := 3, cells := 0, slots := 0, locals := 51 } : Room).cells ({ frames := 3, cells := 0, slots := 0, locals := 51 } : Room).slots) (s₁.setTop (entryFrame m #[(.ref a1), (.int (0 : Int32)), (.int nn)] 3))
  rw [← hPP]
  refine own_Go.st (fun t k => castTop (ef_50 m a1 (0 : Int32) nn) k) ?_
  subst hnn
  obtain ⟨kb268, cd268, N2268, vs268, s1268, s2268, s3268, s4268, s5268, s6268, s7268⟩ := id p0_
  rcases s5268 with ⟨rfl, hN268, hv268, hl268⟩ | ⟨rfl, hN268, hv268, hl268⟩
  ·
    show own_Go _ _ _ _ (s₁.setTop (mkF m 0 #[.val (.ref a1), .val (.int (0 : Int32)), .val (.int (Int32.ofNat cs.length))] []))
    refine own_Go.st (fun _ k => XS.iloadN X0.here hx rfl (hb hby d_jdk_42_method_59_0) rfl k) ?_
    show own_Go _ _ _ _ (s₁.setTop (mkF m 1 #[.val (.ref a1), .val (.int (0 : Int32)), .val (.int (Int32.ofNat cs.length))] [(.int (0 : Int32))]))
    refine own_Go.st (fun _ k => XS.iloadN X0.here hx rfl (hb hby d_jdk_42_method_59_1) rfl k) ?_
    show own_Go _ _ _ _ (s₁.setTop (mkF m 2 #[.val (.ref a1), .val (.int (0 : Int32)), .val (.int (Int32.ofNat cs.length))] [(.int (Int32.ofNat cs.length)), (.int (0 : Int32))]))
    refine own_Go.st (fun _ k => XS.aloadN X0.here hx rfl (hb hby d_jdk_42_method_59_2) rfl rfl k) ?_
    show own_Go _ _ _ _ (s₁.setTop (mkF m 3 #[.val (.ref a1), .val (.int (0 : Int32)), .val (.int (Int32.ofNat cs.length))] [(.ref a1), (.int (Int32.ofNat cs.length)), (.int (0 : Int32))]))
    obtain ⟨kb270, cd270, N270_, vs270, s1270, s2270, s3270, s4270, s5270, s6270, s7270⟩ := id p0_
    obtain ⟨cq269, kq269, q269a, q269b, q269c⟩ := isOf hZ e0 s1268
    obtain ⟨_, _, ⟨T269, L269, k269, n269⟩, -, X269, ⟨Lc269, hQ269, l269, y269, z269⟩, st269⟩ := X0.virtualBack hx (y := (⟨"java/lang/String", "length", "()I"⟩ : MethodName)) (z := (⟨"java/lang/String", "length", "()I"⟩ : MethodName)) hown (mvT hZ (hw _ (List.mem_of_getElem? (i := 103) rfl))) (mvT hZ (hw _ (List.mem_of_getElem? (i := 89) rfl))) (notFace_of_selects (args := #[]) (mvT hZ (hw _ (List.mem_of_getElem? (i := 91) rfl)))) (mvT hZ (hw _ (List.mem_of_getElem? (i := 91) rfl))) (mvT hZ (hw _ (List.mem_of_getElem? (i := 90) rfl))) (by decide) (StrChars.Road.lenW (W := 2) hZ (own_hln hw) (kI := 4) (hw _ (List.mem_of_getElem? (i := 11) rfl)) s1270 s2270 s3270 s4270 s5270 s6270 (st_COMPACT_STRINGS.ext OL.2) hzc s7270 (by decide) (by decide)) q269a q269c (g := (mkF m 3 #[.val (.ref a1), .val (.int (0 : Int32)), .val (.int (Int32.ofNat cs.length))] [(.ref a1), (.int (Int32.ofNat cs.length)), (.int (0 : Int32))])) rfl (by rw [hml]; rfl) (Steps.refl _) (argsL := []) (rest := [(.int (Int32.ofNat cs.length)), (.int (0 : Int32))]) (lenOf pd_284 rfl) rfl (by show 2 * 0 + _ ≤ _; exact Nat.le_of_eq rfl) (hb hby d_jdk_42_method_59_3) (fun _ _ => ⟨rfl, e0, (by decide : 0 + 0 ≤ _), (by decide : 0 + 0 ≤ _)⟩)
    dsimp only [Pt.U, Pt.locs, Pt.cells, Pt.slots] at X269 l269 y269 z269 st269 hQ269
    subst l269 y269 z269
    obtain ⟨rfl, rfl, K269⟩ := hQ269
    have N269 := Fr.app N0 (Fr.nil Z.heap.size)
    refine own_Go.tr st269 ?_
    show own_Go _ _ _ _ (T269.setTop (mkF m 6 #[.val (.ref a1), .val (.int (0 : Int32)), .val (.int (Int32.ofNat cs.length))] [(.int (Int32.ofNat cs.length)), (.int (Int32.ofNat cs.length)), (.int (0 : Int32))]))
    obtain ⟨_, _, ⟨T271, L271, k271, n271⟩, -, X271, ⟨Lc271, hQ271, l271, y271, z271⟩, st271⟩ := Jvm.LawKit.callS X269 hx (y := (⟨"java/util/Objects", "checkFromToIndex", "(III)I"⟩ : MethodName)) hown (mvT hZ (hw _ (List.mem_of_getElem? (i := 104) rfl))) (mvT hZ (hw _ (List.mem_of_getElem? (i := 105) rfl))) (mvT hZ (hw _ (List.mem_of_getElem? (i := 106) rfl))) (mvT hZ (hw _ (List.mem_of_getElem? (i := 107) rfl))) (by decide) (backOf (W := 0) (rm_ocft l Z a0 hw [] (0 : Int32) (Int32.ofNat cs.length) (Int32.ofNat cs.length) h0 OL (by decide) (own_of0 (by have := p0_.le; omega)) (by rw [Int32.lt_iff_toInt_lt]; omega)) hZ (hw _ (List.mem_of_getElem? (i := 107) rfl)) (hw _ (List.mem_of_getElem? (i := 106) rfl)) (by decide) (by decide)) (g := (mkF m 6 #[.val (.ref a1), .val (.int (0 : Int32)), .val (.int (Int32.ofNat cs.length))] [(.int (Int32.ofNat cs.length)), (.int (Int32.ofNat cs.length)), (.int (0 : Int32))])) rfl (by rw [hml]; rfl) (argsL := [(.int (0 : Int32)), (.int (Int32.ofNat cs.length)), (.int (Int32.ofNat cs.length))]) (rest := []) (lenOf pd_286 rfl) rfl (by show 2 * 0 + _ ≤ _; exact Nat.le_of_eq rfl) (hb hby d_jdk_42_method_59_6) (fun _ _ => ⟨rfl, K269, (by decide : 0 + 0 ≤ _), (by decide : 0 + 0 ≤ _)⟩)
    dsimp only [Pt.U, Pt.locs, Pt.cells, Pt.slots] at X271 l271 y271 z271 st271 hQ271
    subst l271 y271 z271
    obtain ⟨rfl, N271q, K271⟩ := hQ271
    have N271 := Fr.app N269 N271q
    refine own_Go.st st271 ?_
    show own_Go _ _ _ _ (T271.setTop (mkF m 9 #[.val (.ref a1), .val (.int (0 : Int32)), .val (.int (Int32.ofNat cs.length))] [(.int (0 : Int32))]))
    refine own_Go.st (fun _ k => XS.pop X271.here hx rfl (hb hby d_jdk_42_method_59_9) rfl rfl k) ?_
    show own_Go _ _ _ _ (T271.setTop (mkF m 10 #[.val (.ref a1), .val (.int (0 : Int32)), .val (.int (Int32.ofNat cs.length))] []))
    refine own_Go.st (fun _ k => XS.aloadN X271.here hx rfl (hb hby d_jdk_42_method_59_10) rfl rfl k) ?_
    show own_Go _ _ _ _ (T271.setTop (mkF m 11 #[.val (.ref a1), .val (.int (0 : Int32)), .val (.int (Int32.ofNat cs.length))] [(.ref a1)]))
    obtain ⟨cq272, kq272, q272a, q272b, q272c⟩ := isOf hZ K271 s1268
    obtain ⟨_, _, ⟨T272, L272, k272, n272⟩, -, X272, ⟨Lc272, hQ272, l272, y272, z272⟩, st272⟩ := X271.virtualBack hx (y := (⟨"java/lang/String", "isLatin1", "()Z"⟩ : MethodName)) (z := (⟨"java/lang/String", "isLatin1", "()Z"⟩ : MethodName)) hown (mvT hZ (hw _ (List.mem_of_getElem? (i := 112) rfl))) (mvT hZ (hw _ (List.mem_of_getElem? (i := 113) rfl))) (notFace_of_selects (args := #[]) (mvT hZ (hw _ (List.mem_of_getElem? (i := 115) rfl)))) (mvT hZ (hw _ (List.mem_of_getElem? (i := 115) rfl))) (mvT hZ (hw _ (List.mem_of_getElem? (i := 114) rfl))) (by decide) (backOf (W := 0) (rm_isl1 l Z a0 hw [] a1 (0 : Int32) zc h0 OL s3268 st_COMPACT_STRINGS (by first | assumption | decide)) hZ (hw _ (List.mem_of_getElem? (i := 116) rfl)) (hw _ (List.mem_of_getElem? (i := 12) rfl)) (by decide) (by decide)) q272a q272c (g := (mkF m 11 #[.val (.ref a1), .val (.int (0 : Int32)), .val (.int (Int32.ofNat cs.length))] [(.ref a1)])) rfl (by rw [hml]; rfl) (Steps.refl _) (argsL := []) (rest := []) (lenOf pd_290 rfl) rfl (by show 2 * 0 + _ ≤ _; exact Nat.le_of_eq rfl) (hb hby d_jdk_42_method_59_11) (fun _ _ => ⟨rfl, K271, (by decide : 0 + 0 ≤ _), (by decide : 0 + 0 ≤ _)⟩)
    dsimp only [Pt.U, Pt.locs, Pt.cells, Pt.slots] at X272 l272 y272 z272 st272 hQ272
    subst l272 y272 z272
    obtain ⟨rfl, N272q, K272⟩ := hQ272
    have N272 := Fr.app N271 N272q
    refine own_Go.tr st272 ?_
    show own_Go _ _ _ _ (T272.setTop (mkF m 14 #[.val (.ref a1), .val (.int (0 : Int32)), .val (.int (Int32.ofNat cs.length))] [(.int (if (0 : Int32) = 0 then (1 : Int32) else 0))]))
    have hc273 : ¬ ((if (0 : Int32) = 0 then (1 : Int32) else 0) = (0 : Int32)) := by decide
    refine own_Go.st (fun _ k => XS.ifNo X272.here hx rfl (hb hby d_jdk_42_method_59_14) rfl ((if0 _ _).trans (feq hc273).1) k) ?_
    show own_Go _ _ _ _ (T272.setTop (mkF m 17 #[.val (.ref a1), .val (.int (0 : Int32)), .val (.int (Int32.ofNat cs.length))] []))
    refine own_Go.st (fun _ k => XS.iloadN X272.here hx rfl (hb hby d_jdk_42_method_59_17) rfl k) ?_
    show own_Go _ _ _ _ (T272.setTop (mkF m 18 #[.val (.ref a1), .val (.int (0 : Int32)), .val (.int (Int32.ofNat cs.length))] [(.int (Int32.ofNat cs.length))]))
    refine own_Go.st (fun _ k => XS.iloadN X272.here hx rfl (hb hby d_jdk_42_method_59_18) rfl k) ?_
    show own_Go _ _ _ _ (T272.setTop (mkF m 19 #[.val (.ref a1), .val (.int (0 : Int32)), .val (.int (Int32.ofNat cs.length))] [(.int (0 : Int32)), (.int (Int32.ofNat cs.length))]))
    refine own_Go.st (fun _ k => XS.isub X272.here hx rfl (hb hby d_jdk_42_method_59_19) rfl k) ?_
    show own_Go _ _ _ _ (T272.setTop (mkF m 20 #[.val (.ref a1), .val (.int (0 : Int32)), .val (.int (Int32.ofNat cs.length))] [(.int ((Int32.ofNat cs.length) - (0 : Int32)))]))
    obtain ⟨fs274, hr274, hrun274, hend274, hW274, hsm274⟩ := X272.leave (v := some (.int ((Int32.ofNat cs.length) - (0 : Int32)))) (fun h => by rw [Bd.returns] at h; cases h)
    subst hPP
    refine ⟨_, _, own_retI X272 hx Bd.returns (hb hby d_jdk_42_method_59_20) hr274, hrun274, hend274, _, _, rfl, ?_, ⟨_, rfl⟩, hW274, hsm274.mono (by decide) (by decide)⟩
    · show Q_cpc Z _ _ _ _ _ h0 _ T272.heap _
      rw [K272]
      exact ⟨(by rw [own_sub0, own_lat_pairs hl268]; rfl), N272, rfl⟩
  ·
    have hlen : 0 < cs.length := by obtain ⟨c, hc, -⟩ := hl268; exact List.length_pos_of_mem hc
    show own_Go _ _ _ _ (s₁.setTop (mkF m 0 #[.val (.ref a1), .val (.int (0 : Int32)), .val (.int (Int32.ofNat cs.length))] []))
    refine own_Go.st (fun _ k => XS.iloadN X0.here hx rfl (hb hby d_jdk_42_method_59_0) rfl k) ?_
    show own_Go _ _ _ _ (s₁.setTop (mkF m 1 #[.val (.ref a1), .val (.int (0 : Int32)), .val (.int (Int32.ofNat cs.length))] [(.int (0 : Int32))]))
    refine own_Go.st (fun _ k => XS.iloadN X0.here hx rfl (hb hby d_jdk_42_method_59_1) rfl k) ?_
    show own_Go _ _ _ _ (s₁.setTop (mkF m 2 #[.val (.ref a1), .val (.int (0 : Int32)), .val (.int (Int32.ofNat cs.length))] [(.int (Int32.ofNat cs.length)), (.int (0 : Int32))]))
    refine own_Go.st (fun _ k => XS.aloadN X0.here hx rfl (hb hby d_jdk_42_method_59_2) rfl rfl k) ?_
    show own_Go _ _ _ _ (s₁.setTop (mkF m 3 #[.val (.ref a1), .val (.int (0 : Int32)), .val (.int (Int32.ofNat cs.length))] [(.ref a1), (.int (Int32.ofNat cs.length)), (.int (0 : Int32))]))
    obtain ⟨kb276, cd276, N276_, vs276, s1276, s2276, s3276, s4276, s5276, s6276, s7276⟩ := id p0_
    obtain ⟨cq275, kq275, q275a, q275b, q275c⟩ := isOf hZ e0 s1268
    obtain ⟨_, _, ⟨T275, L275, k275, n275⟩, -, X275, ⟨Lc275, hQ275, l275, y275, z275⟩, st275⟩ := X0.virtualBack hx (y := (⟨"java/lang/String", "length", "()I"⟩ : MethodName)) (z := (⟨"java/lang/String", "length", "()I"⟩ : MethodName)) hown (mvT hZ (hw _ (List.mem_of_getElem? (i := 103) rfl))) (mvT hZ (hw _ (List.mem_of_getElem? (i := 89) rfl))) (notFace_of_selects (args := #[]) (mvT hZ (hw _ (List.mem_of_getElem? (i := 91) rfl)))) (mvT hZ (hw _ (List.mem_of_getElem? (i := 91) rfl))) (mvT hZ (hw _ (List.mem_of_getElem? (i := 90) rfl))) (by decide) (StrChars.Road.lenW (W := 2) hZ (own_hln hw) (kI := 4) (hw _ (List.mem_of_getElem? (i := 11) rfl)) s1276 s2276 s3276 s4276 s5276 s6276 (st_COMPACT_STRINGS.ext OL.2) hzc s7276 (by decide) (by decide)) q275a q275c (g := (mkF m 3 #[.val (.ref a1), .val (.int (0 : Int32)), .val (.int (Int32.ofNat cs.length))] [(.ref a1), (.int (Int32.ofNat cs.length)), (.int (0 : Int32))])) rfl (by rw [hml]; rfl) (Steps.refl _) (argsL := []) (rest := [(.int (Int32.ofNat cs.length)), (.int (0 : Int32))]) (lenOf pd_284 rfl) rfl (by show 2 * 0 + _ ≤ _; exact Nat.le_of_eq rfl) (hb hby d_jdk_42_method_59_3) (fun _ _ => ⟨rfl, e0, (by decide : 0 + 0 ≤ _), (by decide : 0 + 0 ≤ _)⟩)
    dsimp only [Pt.U, Pt.locs, Pt.cells, Pt.slots] at X275 l275 y275 z275 st275 hQ275
    subst l275 y275 z275
    obtain ⟨rfl, rfl, K275⟩ := hQ275
    have N275 := Fr.app N0 (Fr.nil Z.heap.size)
    refine own_Go.tr st275 ?_
    show own_Go _ _ _ _ (T275.setTop (mkF m 6 #[.val (.ref a1), .val (.int (0 : Int32)), .val (.int (Int32.ofNat cs.length))] [(.int (Int32.ofNat cs.length)), (.int (Int32.ofNat cs.length)), (.int (0 : Int32))]))
    obtain ⟨_, _, ⟨T277, L277, k277, n277⟩, -, X277, ⟨Lc277, hQ277, l277, y277, z277⟩, st277⟩ := Jvm.LawKit.callS X275 hx (y := (⟨"java/util/Objects", "checkFromToIndex", "(III)I"⟩ : MethodName)) hown (mvT hZ (hw _ (List.mem_of_getElem? (i := 104) rfl))) (mvT hZ (hw _ (List.mem_of_getElem? (i := 105) rfl))) (mvT hZ (hw _ (List.mem_of_getElem? (i := 106) rfl))) (mvT hZ (hw _ (List.mem_of_getElem? (i := 107) rfl))) (by decide) (backOf (W := 0) (rm_ocft l Z a0 hw [] (0 : Int32) (Int32.ofNat cs.length) (Int32.ofNat cs.length) h0 OL (by decide) (own_of0 (by have := p0_.le; omega)) (by rw [Int32.lt_iff_toInt_lt]; omega)) hZ (hw _ (List.mem_of_getElem? (i := 107) rfl)) (hw _ (List.mem_of_getElem? (i := 106) rfl)) (by decide) (by decide)) (g := (mkF m 6 #[.val (.ref a1), .val (.int (0 : Int32)), .val (.int (Int32.ofNat cs.length))] [(.int (Int32.ofNat cs.length)), (.int (Int32.ofNat cs.length)), (.int (0 : Int32))])) rfl (by rw [hml]; rfl) (argsL := [(.int (0 : Int32)), (.int (Int32.ofNat cs.length)), (.int (Int32.ofNat cs.length))]) (rest := []) (lenOf pd_286 rfl) rfl (by show 2 * 0 + _ ≤ _; exact Nat.le_of_eq rfl) (hb hby d_jdk_42_method_59_6) (fun _ _ => ⟨rfl, K275, (by decide : 0 + 0 ≤ _), (by decide : 0 + 0 ≤ _)⟩)
    dsimp only [Pt.U, Pt.locs, Pt.cells, Pt.slots] at X277 l277 y277 z277 st277 hQ277
    subst l277 y277 z277
    obtain ⟨rfl, N277q, K277⟩ := hQ277
    have N277 := Fr.app N275 N277q
    refine own_Go.st st277 ?_
    show own_Go _ _ _ _ (T277.setTop (mkF m 9 #[.val (.ref a1), .val (.int (0 : Int32)), .val (.int (Int32.ofNat cs.length))] [(.int (0 : Int32))]))
    refine own_Go.st (fun _ k => XS.pop X277.here hx rfl (hb hby d_jdk_42_method_59_9) rfl rfl k) ?_
    show own_Go _ _ _ _ (T277.setTop (mkF m 10 #[.val (.ref a1), .val (.int (0 : Int32)), .val (.int (Int32.ofNat cs.length))] []))
    refine own_Go.st (fun _ k => XS.aloadN X277.here hx rfl (hb hby d_jdk_42_method_59_10) rfl rfl k) ?_
    show own_Go _ _ _ _ (T277.setTop (mkF m 11 #[.val (.ref a1), .val (.int (0 : Int32)), .val (.int (Int32.ofNat cs.length))] [(.ref a1)]))
    obtain ⟨cq278, kq278, q278a, q278b, q278c⟩ := isOf hZ K277 s1268
    obtain ⟨_, _, ⟨T278, L278, k278, n278⟩, -, X278, ⟨Lc278, hQ278, l278, y278, z278⟩, st278⟩ := X277.virtualBack hx (y := (⟨"java/lang/String", "isLatin1", "()Z"⟩ : MethodName)) (z := (⟨"java/lang/String", "isLatin1", "()Z"⟩ : MethodName)) hown (mvT hZ (hw _ (List.mem_of_getElem? (i := 112) rfl))) (mvT hZ (hw _ (List.mem_of_getElem? (i := 113) rfl))) (notFace_of_selects (args := #[]) (mvT hZ (hw _ (List.mem_of_getElem? (i := 115) rfl)))) (mvT hZ (hw _ (List.mem_of_getElem? (i := 115) rfl))) (mvT hZ (hw _ (List.mem_of_getElem? (i := 114) rfl))) (by decide) (backOf (W := 0) (rm_isl1 l Z a0 hw [] a1 (1 : Int32) zc h0 OL s3268 st_COMPACT_STRINGS (by first | assumption | decide)) hZ (hw _ (List.mem_of_getElem? (i := 116) rfl)) (hw _ (List.mem_of_getElem? (i := 12) rfl)) (by decide) (by decide)) q278a q278c (g := (mkF m 11 #[.val (.ref a1), .val (.int (0 : Int32)), .val (.int (Int32.ofNat cs.length))] [(.ref a1)])) rfl (by rw [hml]; rfl) (Steps.refl _) (argsL := []) (rest := []) (lenOf pd_290 rfl) rfl (by show 2 * 0 + _ ≤ _; exact Nat.le_of_eq rfl) (hb hby d_jdk_42_method_59_11) (fun _ _ => ⟨rfl, K277, (by decide : 0 + 0 ≤ _), (by decide : 0 + 0 ≤ _)⟩)
    dsimp only [Pt.U, Pt.locs, Pt.cells, Pt.slots] at X278 l278 y278 z278 st278 hQ278
    subst l278 y278 z278
    obtain ⟨rfl, N278q, K278⟩ := hQ278
    have N278 := Fr.app N277 N278q
    refine own_Go.tr st278 ?_
    show own_Go _ _ _ _ (T278.setTop (mkF m 14 #[.val (.ref a1), .val (.int (0 : Int32)), .val (.int (Int32.ofNat cs.length))] [(.int (if (1 : Int32) = 0 then (1 : Int32) else 0))]))
    have hc279 : (if (1 : Int32) = 0 then (1 : Int32) else 0) = (0 : Int32) := by decide
    refine own_Go.st (fun _ k => XS.ifYes X278.here hx rfl (pc0 := 14) (pc' := 21) rfl (hb hby d_jdk_42_method_59_14) rfl ((if0 _ _).trans (teq hc279).1) (by decide) (by decide) k) ?_
    show own_Go _ _ _ _ (T278.setTop (mkF m 21 #[.val (.ref a1), .val (.int (0 : Int32)), .val (.int (Int32.ofNat cs.length))] []))
    refine own_Go.st (fun _ k => XS.aloadN X278.here hx rfl (hb hby d_jdk_42_method_59_21) rfl rfl k) ?_
    show own_Go _ _ _ _ (T278.setTop (mkF m 22 #[.val (.ref a1), .val (.int (0 : Int32)), .val (.int (Int32.ofNat cs.length))] [(.ref a1)]))
    obtain ⟨T280, X280, e280, st280⟩ := getF X278 hx hZ hown (host := "") (Or.inl (hw _ (List.mem_of_getElem? (i := 57) rfl))) Via.refl K278 s2268 (g := (mkF m 22 #[.val (.ref a1), .val (.int (0 : Int32)), .val (.int (Int32.ofNat cs.length))] [(.ref a1)])) rfl rfl (hb hby d_jdk_42_method_59_22)
    refine own_Go.st st280 ?_
    show own_Go _ _ _ _ (T280.setTop (mkF m 25 #[.val (.ref a1), .val (.int (0 : Int32)), .val (.int (Int32.ofNat cs.length))] [(.ref t)]))
    refine own_Go.st (fun _ k => XS.iloadN X280.here hx rfl (hb hby d_jdk_42_method_59_25) rfl k) ?_
    show own_Go _ _ _ _ (T280.setTop (mkF m 26 #[.val (.ref a1), .val (.int (0 : Int32)), .val (.int (Int32.ofNat cs.length))] [(.int (0 : Int32)), (.ref t)]))
    refine own_Go.st (fun _ k => XS.iloadN X280.here hx rfl (hb hby d_jdk_42_method_59_26) rfl k) ?_
    show own_Go _ _ _ _ (T280.setTop (mkF m 27 #[.val (.ref a1), .val (.int (0 : Int32)), .val (.int (Int32.ofNat cs.length))] [(.int (Int32.ofNat cs.length)), (.int (0 : Int32)), (.ref t)]))
    obtain ⟨_, _, ⟨T281, L281, k281, n281⟩, -, X281, ⟨Lc281, hQ281, l281, y281, z281⟩, st281⟩ := Jvm.LawKit.callS X280 hx (y := (⟨"java/lang/StringUTF16", "codePointCount", "([BII)I"⟩ : MethodName)) hown (mvT hZ (hw _ (List.mem_of_getElem? (i := 117) rfl))) (mvT hZ (hw _ (List.mem_of_getElem? (i := 118) rfl))) (mvT hZ (hw _ (List.mem_of_getElem? (i := 27) rfl))) (mvT hZ (hw _ (List.mem_of_getElem? (i := 119) rfl))) (by decide) (backOf (W := 0) (rm_cpc3 l Z a0 hw [] t (Int32.ofNat cs.length) cs kb268 N2268 vs268 (.int 0) h0 OL s4268 st__assertionsDisabled st_HI_BYTE_SHIFT st_LO_BYTE_SHIFT hN268 hv268 rfl p0_.le hlen p0_.rng rfl) hZ (hw _ (List.mem_of_getElem? (i := 119) rfl)) (hw _ (List.mem_of_getElem? (i := 27) rfl)) (by decide) (by decide)) (g := (mkF m 27 #[.val (.ref a1), .val (.int (0 : Int32)), .val (.int (Int32.ofNat cs.length))] [(.int (Int32.ofNat cs.length)), (.int (0 : Int32)), (.ref t)])) rfl (by rw [hml]; rfl) (argsL := [(.ref t), (.int (0 : Int32)), (.int (Int32.ofNat cs.length))]) (rest := []) (lenOf pd_301 rfl) rfl (by show 2 * 0 + _ ≤ _; exact Nat.le_of_eq rfl) (hb hby d_jdk_42_method_59_27) (fun _ _ => ⟨rfl, e280, (by decide : 0 + 0 ≤ _), (by decide : 0 + 0 ≤ _)⟩)
    dsimp only [Pt.U, Pt.locs, Pt.cells, Pt.slots] at X281 l281 y281 z281 st281 hQ281
    subst l281 y281 z281
    obtain ⟨rfl, N281q, K281⟩ := hQ281
    have N281 := Fr.app N278 N281q
    refine own_Go.st st281 ?_
    show own_Go _ _ _ _ (T281.setTop (mkF m 30 #[.val (.ref a1), .val (.int (0 : Int32)), .val (.int (Int32.ofNat cs.length))] [(.int (Int32.ofNat (cs.length - own_pairs cs)))]))
    obtain ⟨fs282, hr282, hrun282, hend282, hW282, hsm282⟩ := X281.leave (v := some (.int (Int32.ofNat (cs.length - own_pairs cs)))) (fun h => by rw [Bd.returns] at h; cases h)
    subst hPP
    refine ⟨_, _, own_retI X281 hx Bd.returns (hb hby d_jdk_42_method_59_30) hr282, hrun282, hend282, _, _, rfl, ?_, ⟨_, rfl⟩, hW282, hsm282.mono (by decide) (by decide)⟩
    · show Q_cpc Z _ _ _ _ _ h0 _ T281.heap _
      rw [K281]
      exact ⟨rfl, N281, rfl⟩

theorem own_narRng (x : Int32) : ¬ nar .char x < 0 ∧ ¬ (65535 : Int32) < nar .char x := by
  have h := c_i2c x
  have e2 : (65535 : Int32).toInt = 65535 := by decide
  have e3 : (0 : Int32).toInt = 0 := by decide
  simp only [nar, Int32.lt_iff_toInt_lt, e2, e3]
  omega
theorem own_n5 (x : Int32) : (x &&& (7 : Int32)) % (5 : Int32) = 0 ∨ (x &&& (7 : Int32)) % (5 : Int32) = 1 ∨ (x &&& (7 : Int32)) % (5 : Int32) = 2 ∨ (x &&& (7 : Int32)) % (5 : Int32) = 3 ∨ (x &&& (7 : Int32)) % (5 : Int32) = 4 := by
  have h1 := c_mask x 7 3 (by decide) (by decide)
  have h2 := (c_irem (x &&& 7) 5 5 (by decide)).1 (by omega)
  have e0 : (0 : Int32).toInt = 0 := by decide
  have e1 : (1 : Int32).toInt = 1 := by decide
  have e2 : (2 : Int32).toInt = 2 := by decide
  have e3 : (3 : Int32).toInt = 3 := by decide
  have e4 : (4 : Int32).toInt = 4 := by decide
  simp only [← Int32.toInt_inj, e0, e1, e2, e3, e4]
  omega
theorem own_lt_le {a b : Int32} (h : ¬ b < a) (e : b.toInt + 1 = a.toInt + 1) : True := trivial
theorem own_hiL {c : Int32} (h1 : ¬ c < (55296 : Int32)) (h2 : ¬ (56319 : Int32) < c) : own_hi c := by
  refine ⟨h1, ?_⟩
  rw [Int32.lt_iff_toInt_lt] at h2 ⊢
  have e1 : (56319 : Int32).toInt = 56319 := by decide
  have e2 : (56320 : Int32).toInt = 56320 := by decide
  omega
theorem own_hiN {c : Int32} (h2 : (56319 : Int32) < c) : ¬ own_hi c := fun q => by
  have q2 := q.2
  rw [Int32.lt_iff_toInt_lt] at h2 q2
  have e1 : (56319 : Int32).toInt = 56319 := by decide
  have e2 : (56320 : Int32).toInt = 56320 := by decide
  omega
theorem own_loL {c : Int32} (h1 : ¬ c < (56320 : Int32)) (h2 : ¬ (57343 : Int32) < c) : own_lo c := by
  refine ⟨h1, ?_⟩
  rw [Int32.lt_iff_toInt_lt] at h2 ⊢
  have e1 : (57343 : Int32).toInt = 57343 := by decide
  have e2 : (57344 : Int32).toInt = 57344 := by decide
  omega
theorem own_loN {c : Int32} (h2 : (57343 : Int32) < c) : ¬ own_lo c := fun q => by
  have q2 := q.2
  rw [Int32.lt_iff_toInt_lt] at h2 q2
  have e1 : (57343 : Int32).toInt = 57343 := by decide
  have e2 : (57344 : Int32).toInt = 57344 := by decide
  omega
theorem own_cnt2 {a b r1 : Int32} (h1 : own_pr a b r1) : (2 : Int32) - ((0 : Int32) + r1) = Int32.ofNat (([a, b] : List Int32).length - own_pairs [a, b]) := by
  rcases h1 with ⟨rfl, h1⟩ | ⟨rfl, h1⟩ <;> simp only [own_pairs, h1, if_true, if_false, and_self, List.length_cons, List.length_nil] <;> decide
theorem own_cnt3 {a b c r1 r2 : Int32} (h1 : own_pr a b r1) (h2 : own_pr b c r2) : (3 : Int32) - (((0 : Int32) + r1) + r2) = Int32.ofNat (([a, b, c] : List Int32).length - own_pairs [a, b, c]) := by
  rcases h1 with ⟨rfl, h1⟩ | ⟨rfl, h1⟩ <;> rcases h2 with ⟨rfl, h2⟩ | ⟨rfl, h2⟩
  · exact absurd h2.1 (own_lohi h1.2)
  · simp only [own_pairs, h1, if_true, if_false, and_self, List.length_cons, List.length_nil]; decide
  · simp only [own_pairs, h1, h2, if_true, if_false, and_self, List.length_cons, List.length_nil]; decide
  · simp only [own_pairs, h1, h2, if_true, if_false, and_self, List.length_cons, List.length_nil]; decide
theorem own_cnt4 {a b c d r1 r2 r3 : Int32} (h1 : own_pr a b r1) (h2 : own_pr b c r2) (h3 : own_pr c d r3) : (4 : Int32) - ((((0 : Int32) + r1) + r2) + r3) = Int32.ofNat (([a, b, c, d] : List Int32).length - own_pairs [a, b, c, d]) := by
  rcases h1 with ⟨rfl, h1⟩ | ⟨rfl, h1⟩ <;> rcases h2 with ⟨rfl, h2⟩ | ⟨rfl, h2⟩ <;> rcases h3 with ⟨rfl, h3⟩ | ⟨rfl, h3⟩
  · exact absurd h2.1 (own_lohi h1.2)
  · exact absurd h2.1 (own_lohi h1.2)
  · simp only [own_pairs, h1, h2, h3, if_true, if_false, and_self, List.length_cons, List.length_nil]; decide
  · simp only [own_pairs, h1, h2, h3, if_true, if_false, and_self, List.length_cons, List.length_nil]; decide
  · exact absurd h3.1 (own_lohi h2.2)
  · simp only [own_pairs, h1, h2, h3, if_true, if_false, and_self, List.length_cons, List.length_nil]; decide
  · simp only [own_pairs, h1, h2, h3, if_true, if_false, and_self, List.length_cons, List.length_nil]; decide
  · simp only [own_pairs, h1, h2, h3, if_true, if_false, and_self, List.length_cons, List.length_nil]; decide
def own_mk (n c0 c1 c2 c3 : Int32) : List Int32 := if n = 0 then [] else if n = 1 then [c0] else if n = 2 then [c0, c1] else if n = 3 then [c0, c1, c2] else [c0, c1, c2, c3]

theorem pn_304 : plainName "com/example/vigilant_gate/vigilantgate/PasswordPolicyAdmitsPinLaw" = true := by first | (simp [plainName, overriddenIn]; done) | decide +kernel
theorem ef_305 (m : MethodId) (x0 : Int32) : entryFrame m #[(.int x0)] 3 = mkF m 0 #[.val (.int x0), .unset, .unset] [] := by first | (simp [entryFrame, mkF, argsToLocals, Value.category]; done) | rfl
theorem d_method_2_0 : decode method_2_code 0 = .ok (.iload_n 0, 1) := by decide +kernel
theorem d_method_2_1 : decode method_2_code 1 = .ok (.iconst 3, 1) := by decide +kernel
theorem d_method_2_2 : decode method_2_code 2 = .ok (.iand, 1) := by decide +kernel
theorem d_method_2_3 : decode method_2_code 3 = .ok (.istore_n 1, 1) := by decide +kernel
theorem d_method_2_4 : decode method_2_code 4 = .ok (.iload_n 0, 1) := by decide +kernel
theorem d_method_2_5 : decode method_2_code 5 = .ok (.iconst 2, 1) := by decide +kernel
theorem d_method_2_6 : decode method_2_code 6 = .ok (.iushr, 1) := by decide +kernel
theorem d_method_2_7 : decode method_2_code 7 = .ok (.istore_n 2, 1) := by decide +kernel
theorem d_method_2_8 : decode method_2_code 8 = .ok (.iload_n 1, 1) := by decide +kernel
theorem d_method_2_9 : decode method_2_code 9 = .ok (.ifCond .ne 10, 3) := by decide +kernel
theorem d_method_2_12 : decode method_2_code 12 = .ok (.iload_n 2, 1) := by decide +kernel
theorem d_method_2_13 : decode method_2_code 13 = .ok (.sipush 255, 3) := by decide +kernel
theorem d_method_2_16 : decode method_2_code 16 = .ok (.iand, 1) := by decide +kernel
theorem d_method_2_17 : decode method_2_code 17 = .ok (.i2c, 1) := by decide +kernel
theorem d_method_2_18 : decode method_2_code 18 = .ok (.ireturn, 1) := by decide +kernel
theorem d_method_2_19 : decode method_2_code 19 = .ok (.iload_n 1, 1) := by decide +kernel
theorem d_method_2_20 : decode method_2_code 20 = .ok (.iconst 1, 1) := by decide +kernel
theorem d_method_2_21 : decode method_2_code 21 = .ok (.if_icmp .ne 13, 3) := by decide +kernel
theorem d_method_2_24 : decode method_2_code 24 = .ok (.ldc 7, 2) := by decide +kernel
theorem d_method_2_26 : decode method_2_code 26 = .ok (.iload_n 2, 1) := by decide +kernel
theorem d_method_2_27 : decode method_2_code 27 = .ok (.sipush 1023, 3) := by decide +kernel
theorem d_method_2_30 : decode method_2_code 30 = .ok (.iand, 1) := by decide +kernel
theorem d_method_2_31 : decode method_2_code 31 = .ok (.iadd, 1) := by decide +kernel
theorem d_method_2_32 : decode method_2_code 32 = .ok (.i2c, 1) := by decide +kernel
theorem d_method_2_33 : decode method_2_code 33 = .ok (.ireturn, 1) := by decide +kernel
theorem d_method_2_34 : decode method_2_code 34 = .ok (.iload_n 1, 1) := by decide +kernel
theorem d_method_2_35 : decode method_2_code 35 = .ok (.iconst 2, 1) := by decide +kernel
theorem d_method_2_36 : decode method_2_code 36 = .ok (.if_icmp .ne 13, 3) := by decide +kernel
theorem d_method_2_39 : decode method_2_code 39 = .ok (.ldc 8, 2) := by decide +kernel
theorem d_method_2_41 : decode method_2_code 41 = .ok (.iload_n 2, 1) := by decide +kernel
theorem d_method_2_42 : decode method_2_code 42 = .ok (.sipush 1023, 3) := by decide +kernel
theorem d_method_2_45 : decode method_2_code 45 = .ok (.iand, 1) := by decide +kernel
theorem d_method_2_46 : decode method_2_code 46 = .ok (.iadd, 1) := by decide +kernel
theorem d_method_2_47 : decode method_2_code 47 = .ok (.i2c, 1) := by decide +kernel
theorem d_method_2_48 : decode method_2_code 48 = .ok (.ireturn, 1) := by decide +kernel
theorem d_method_2_49 : decode method_2_code 49 = .ok (.iload_n 2, 1) := by decide +kernel
theorem d_method_2_50 : decode method_2_code 50 = .ok (.ldc 9, 2) := by decide +kernel
theorem d_method_2_52 : decode method_2_code 52 = .ok (.iand, 1) := by decide +kernel
theorem d_method_2_53 : decode method_2_code 53 = .ok (.i2c, 1) := by decide +kernel
theorem d_method_2_54 : decode method_2_code 54 = .ok (.ireturn, 1) := by decide +kernel
def Q_draw (Z : State) (p1 : Int32) (h0 : Heap) (v : Option Value) (h : Heap) (L : List Loc) : Prop := ∃ (c : Int32), v = some (.int c) ∧ Fr Z.heap.size L ∧ h = h0 ∧ (¬ c < 0 ∧ ¬ (65535 : Int32) < c)
set_option maxRecDepth 65536 in
set_option maxHeartbeats 40000000 in
theorem rm_draw (l : Launch) (Z : State) (a0 : Array Value) (hw : ∀ d ∈ tables_1, d.before a0 Z = true) (ws : List Jvm.Cond) (p1 : Int32) (h0 : Heap) (OL : Old Z Z.heap.size h0) :
    MetFree l (⟨"com/example/vigilant_gate/vigilantgate/PasswordPolicyAdmitsPinLaw", "draw", "(I)C"⟩ : MethodName) (head1 (Jvm.Cond.code (⟨"com/example/vigilant_gate/vigilantgate/PasswordPolicyAdmitsPinLaw", "draw", "(I)C"⟩ : MethodName) method_2_code 3 (some .char) :: ws) ({ frames := 0, cells := 0, slots := 0, locals := 0 } : Room)) (fun a U => a = #[(.int p1)] ∧ Z.Warmed39 U.vm ∧ U.heap = h0) (fun _ _ _ _ _ => True) (fun _ U o U' => ∃ v L, o = .returned v ∧ Q_draw Z p1 h0 v U'.heap L ∧ FrameEnd U o U' L ({ frames := 0, cells := 0, slots := 0, locals := 0 } : Room).cells ({ frames := 0, cells := 0, slots := 0, locals := 0 } : Room).slots) := by
  refine MetFree.of_bodySF (plainFor_of_name pn_304) hisR ?_
  intro p e s m args below meth c s₁ Bd hml0 hP hK
  obtain ⟨rfl, hZ, hh⟩ := hP
  have hx := Bd.exec
  have hby := Bd.bytes
  have hml : c.maxLocals = 3 := hml0
  have hown : s.vm.findClass "com/example/vigilant_gate/vigilantgate/PasswordPolicyAdmitsPinLaw" = some m.cls := findClass_of_methodNamed Bd.named
  have hnm := (name_of_methodNamed Bd.named Bd.method).1
  have X0 : Stand p l e ({ frames := 0, cells := 0, slots := 0, locals := 0 } : Room) s m #[(.int p1)] below meth c s₁ [] 0 0 := Stand.of_body Bd
  have e0 : s₁.heap = h0 := by rw [← hh, Bd.state]; rfl
  have N0 := Fr.nil Z.heap.size
  have Z0 : Z.heap.size ≤ h0.size := OL.2.1
  obtain ⟨PP, hPP⟩ : ∃ PP : Outcome → State → Prop, PP = (fun o tE => ∃ v L, o = .returned v ∧ Q_draw Z p1 h0 v tE.heap L ∧ FrameEnd s o tE L ({ frames := 0, cells := 0, slots := 0, locals := 0 } : Room).cells ({ frames := 0, cells := 0, slots := 0, locals := 0 } : Room).slots) := ⟨_, rfl⟩
  show own_Go p.tables e below (fun o tE => ∃ v L, o = .returned v ∧ Q_draw Z p1 h0 v tE.heap L ∧ FrameEnd s o tE L ({ frames := 0, cells := 0, slots := 0, locals := 0 } : Room).cells ({ frames := 0, cells := 0, slots := 0, locals := 0 } : Room).slots) (s₁.setTop (entryFrame m #[(.int p1)] 3))
  rw [← hPP]
  refine own_Go.st (fun t k => castTop (ef_305 m p1) k) ?_
  show own_Go _ _ _ _ (s₁.setTop (mkF m 0 #[.val (.int p1), .unset, .unset] []))
  refine own_Go.st (fun _ k => XS.iloadN X0.here hx rfl (hb hby d_method_2_0) rfl k) ?_
  show own_Go _ _ _ _ (s₁.setTop (mkF m 1 #[.val (.int p1), .unset, .unset] [(.int p1)]))
  refine own_Go.st (fun _ k => XS.iconst X0.here hx rfl (hb hby d_method_2_1) k) ?_
  show own_Go _ _ _ _ (s₁.setTop (mkF m 2 #[.val (.int p1), .unset, .unset] [(.int (3 : Int32)), (.int p1)]))
  refine own_Go.st (fun _ k => XS.iand X0.here hx rfl (hb hby d_method_2_2) rfl k) ?_
  show own_Go _ _ _ _ (s₁.setTop (mkF m 3 #[.val (.int p1), .unset, .unset] [(.int (p1 &&& (3 : Int32)))]))
  refine own_Go.st (fun _ k => XS.istoreN X0.here hx rfl (hb hby d_method_2_3) rfl (l' := #[.val (.int p1), .val (.int (p1 &&& (3 : Int32))), .unset]) rfl k) ?_
  show own_Go _ _ _ _ (s₁.setTop (mkF m 4 #[.val (.int p1), .val (.int (p1 &&& (3 : Int32))), .unset] []))
  refine own_Go.st (fun _ k => XS.iloadN X0.here hx rfl (hb hby d_method_2_4) rfl k) ?_
  show own_Go _ _ _ _ (s₁.setTop (mkF m 5 #[.val (.int p1), .val (.int (p1 &&& (3 : Int32))), .unset] [(.int p1)]))
  refine own_Go.st (fun _ k => XS.iconst X0.here hx rfl (hb hby d_method_2_5) k) ?_
  show own_Go _ _ _ _ (s₁.setTop (mkF m 6 #[.val (.int p1), .val (.int (p1 &&& (3 : Int32))), .unset] [(.int (2 : Int32)), (.int p1)]))
  refine own_Go.st (fun _ k => XS.iushr X0.here hx rfl (hb hby d_method_2_6) rfl k) ?_
  show own_Go _ _ _ _ (s₁.setTop (mkF m 7 #[.val (.int p1), .val (.int (p1 &&& (3 : Int32))), .unset] [(.int ((p1.toUInt32 >>> ((2 : Int32) &&& 31).toUInt32).toInt32))]))
  refine own_Go.st (fun _ k => XS.istoreN X0.here hx rfl (hb hby d_method_2_7) rfl (l' := #[.val (.int p1), .val (.int (p1 &&& (3 : Int32))), .val (.int ((p1.toUInt32 >>> ((2 : Int32) &&& 31).toUInt32).toInt32))]) rfl k) ?_
  show own_Go _ _ _ _ (s₁.setTop (mkF m 8 #[.val (.int p1), .val (.int (p1 &&& (3 : Int32))), .val (.int ((p1.toUInt32 >>> ((2 : Int32) &&& 31).toUInt32).toInt32))] []))
  refine own_Go.st (fun _ k => XS.iloadN X0.here hx rfl (hb hby d_method_2_8) rfl k) ?_
  show own_Go _ _ _ _ (s₁.setTop (mkF m 9 #[.val (.int p1), .val (.int (p1 &&& (3 : Int32))), .val (.int ((p1.toUInt32 >>> ((2 : Int32) &&& 31).toUInt32).toInt32))] [(.int (p1 &&& (3 : Int32)))]))
  by_cases hc283 : (p1 &&& (3 : Int32)) = (0 : Int32)
  ·
    refine own_Go.st (fun _ k => XS.ifNo X0.here hx rfl (hb hby d_method_2_9) rfl ((if0 _ _).trans (teq hc283).2) k) ?_
    show own_Go _ _ _ _ (s₁.setTop (mkF m 12 #[.val (.int p1), .val (.int (p1 &&& (3 : Int32))), .val (.int ((p1.toUInt32 >>> ((2 : Int32) &&& 31).toUInt32).toInt32))] []))
    refine own_Go.st (fun _ k => XS.iloadN X0.here hx rfl (hb hby d_method_2_12) rfl k) ?_
    show own_Go _ _ _ _ (s₁.setTop (mkF m 13 #[.val (.int p1), .val (.int (p1 &&& (3 : Int32))), .val (.int ((p1.toUInt32 >>> ((2 : Int32) &&& 31).toUInt32).toInt32))] [(.int ((p1.toUInt32 >>> ((2 : Int32) &&& 31).toUInt32).toInt32))]))
    refine own_Go.st (fun _ k => XS.sipush X0.here hx rfl (hb hby d_method_2_13) k) ?_
    show own_Go _ _ _ _ (s₁.setTop (mkF m 16 #[.val (.int p1), .val (.int (p1 &&& (3 : Int32))), .val (.int ((p1.toUInt32 >>> ((2 : Int32) &&& 31).toUInt32).toInt32))] [(.int (255 : Int32)), (.int ((p1.toUInt32 >>> ((2 : Int32) &&& 31).toUInt32).toInt32))]))
    refine own_Go.st (fun _ k => XS.iand X0.here hx rfl (hb hby d_method_2_16) rfl k) ?_
    show own_Go _ _ _ _ (s₁.setTop (mkF m 17 #[.val (.int p1), .val (.int (p1 &&& (3 : Int32))), .val (.int ((p1.toUInt32 >>> ((2 : Int32) &&& 31).toUInt32).toInt32))] [(.int (((p1.toUInt32 >>> ((2 : Int32) &&& 31).toUInt32).toInt32) &&& (255 : Int32)))]))
    refine own_Go.st (fun _ k => XS.i2c X0.here hx rfl (hb hby d_method_2_17) rfl k) ?_
    show own_Go _ _ _ _ (s₁.setTop (mkF m 18 #[.val (.int p1), .val (.int (p1 &&& (3 : Int32))), .val (.int ((p1.toUInt32 >>> ((2 : Int32) &&& 31).toUInt32).toInt32))] [(.int ((((p1.toUInt32 >>> ((2 : Int32) &&& 31).toUInt32).toInt32) &&& (255 : Int32)).toUInt32.toUInt16.toUInt32.toInt32))]))
    obtain ⟨fs284, hr284, hrun284, hend284, hW284, hsm284⟩ := X0.leave (v := some (.int (nar .char ((((p1.toUInt32 >>> ((2 : Int32) &&& 31).toUInt32).toInt32) &&& (255 : Int32)).toUInt32.toUInt16.toUInt32.toInt32)))) (fun h => by rw [Bd.returns] at h; cases h)
    subst hPP
    refine ⟨_, _, retN X0 hx (t := .char) Bd.returns (by simp) (hb hby d_method_2_18) hr284, hrun284, hend284, _, _, rfl, ?_, ⟨_, rfl⟩, hW284, hsm284.mono (by decide) (by decide)⟩
    · show Q_draw Z _ h0 _ s₁.heap _
      rw [e0]
      exact ⟨_, rfl, N0, rfl, (own_narRng _)⟩
  ·
    refine own_Go.st (fun _ k => XS.ifYes X0.here hx rfl (pc0 := 9) (pc' := 19) rfl (hb hby d_method_2_9) rfl ((if0 _ _).trans (feq hc283).2) (by decide) (by decide) k) ?_
    show own_Go _ _ _ _ (s₁.setTop (mkF m 19 #[.val (.int p1), .val (.int (p1 &&& (3 : Int32))), .val (.int ((p1.toUInt32 >>> ((2 : Int32) &&& 31).toUInt32).toInt32))] []))
    refine own_Go.st (fun _ k => XS.iloadN X0.here hx rfl (hb hby d_method_2_19) rfl k) ?_
    show own_Go _ _ _ _ (s₁.setTop (mkF m 20 #[.val (.int p1), .val (.int (p1 &&& (3 : Int32))), .val (.int ((p1.toUInt32 >>> ((2 : Int32) &&& 31).toUInt32).toInt32))] [(.int (p1 &&& (3 : Int32)))]))
    refine own_Go.st (fun _ k => XS.iconst X0.here hx rfl (hb hby d_method_2_20) k) ?_
    show own_Go _ _ _ _ (s₁.setTop (mkF m 21 #[.val (.int p1), .val (.int (p1 &&& (3 : Int32))), .val (.int ((p1.toUInt32 >>> ((2 : Int32) &&& 31).toUInt32).toInt32))] [(.int (1 : Int32)), (.int (p1 &&& (3 : Int32)))]))
    by_cases hc285 : (p1 &&& (3 : Int32)) = (1 : Int32)
    ·
      refine own_Go.st (fun _ k => XS.icmpNo X0.here hx rfl (hb hby d_method_2_21) rfl (teq hc285).2 k) ?_
      show own_Go _ _ _ _ (s₁.setTop (mkF m 24 #[.val (.int p1), .val (.int (p1 &&& (3 : Int32))), .val (.int ((p1.toUInt32 >>> ((2 : Int32) &&& 31).toUInt32).toInt32))] []))
      refine own_Go.st (X0.ldcInt hx hown (mvT hZ (hw _ (List.mem_of_getElem? (i := 5) rfl))) (g := (mkF m 24 #[.val (.int p1), .val (.int (p1 &&& (3 : Int32))), .val (.int ((p1.toUInt32 >>> ((2 : Int32) &&& 31).toUInt32).toInt32))] [])) rfl (hb hby d_method_2_24)) ?_
      show own_Go _ _ _ _ (s₁.setTop (mkF m 26 #[.val (.int p1), .val (.int (p1 &&& (3 : Int32))), .val (.int ((p1.toUInt32 >>> ((2 : Int32) &&& 31).toUInt32).toInt32))] [(.int (55296 : Int32))]))
      refine own_Go.st (fun _ k => XS.iloadN X0.here hx rfl (hb hby d_method_2_26) rfl k) ?_
      show own_Go _ _ _ _ (s₁.setTop (mkF m 27 #[.val (.int p1), .val (.int (p1 &&& (3 : Int32))), .val (.int ((p1.toUInt32 >>> ((2 : Int32) &&& 31).toUInt32).toInt32))] [(.int ((p1.toUInt32 >>> ((2 : Int32) &&& 31).toUInt32).toInt32)), (.int (55296 : Int32))]))
      refine own_Go.st (fun _ k => XS.sipush X0.here hx rfl (hb hby d_method_2_27) k) ?_
      show own_Go _ _ _ _ (s₁.setTop (mkF m 30 #[.val (.int p1), .val (.int (p1 &&& (3 : Int32))), .val (.int ((p1.toUInt32 >>> ((2 : Int32) &&& 31).toUInt32).toInt32))] [(.int (1023 : Int32)), (.int ((p1.toUInt32 >>> ((2 : Int32) &&& 31).toUInt32).toInt32)), (.int (55296 : Int32))]))
      refine own_Go.st (fun _ k => XS.iand X0.here hx rfl (hb hby d_method_2_30) rfl k) ?_
      show own_Go _ _ _ _ (s₁.setTop (mkF m 31 #[.val (.int p1), .val (.int (p1 &&& (3 : Int32))), .val (.int ((p1.toUInt32 >>> ((2 : Int32) &&& 31).toUInt32).toInt32))] [(.int (((p1.toUInt32 >>> ((2 : Int32) &&& 31).toUInt32).toInt32) &&& (1023 : Int32))), (.int (55296 : Int32))]))
      refine own_Go.st (fun _ k => XS.iadd X0.here hx rfl (hb hby d_method_2_31) rfl k) ?_
      show own_Go _ _ _ _ (s₁.setTop (mkF m 32 #[.val (.int p1), .val (.int (p1 &&& (3 : Int32))), .val (.int ((p1.toUInt32 >>> ((2 : Int32) &&& 31).toUInt32).toInt32))] [(.int ((55296 : Int32) + (((p1.toUInt32 >>> ((2 : Int32) &&& 31).toUInt32).toInt32) &&& (1023 : Int32))))]))
      refine own_Go.st (fun _ k => XS.i2c X0.here hx rfl (hb hby d_method_2_32) rfl k) ?_
      show own_Go _ _ _ _ (s₁.setTop (mkF m 33 #[.val (.int p1), .val (.int (p1 &&& (3 : Int32))), .val (.int ((p1.toUInt32 >>> ((2 : Int32) &&& 31).toUInt32).toInt32))] [(.int (((55296 : Int32) + (((p1.toUInt32 >>> ((2 : Int32) &&& 31).toUInt32).toInt32) &&& (1023 : Int32))).toUInt32.toUInt16.toUInt32.toInt32))]))
      obtain ⟨fs286, hr286, hrun286, hend286, hW286, hsm286⟩ := X0.leave (v := some (.int (nar .char (((55296 : Int32) + (((p1.toUInt32 >>> ((2 : Int32) &&& 31).toUInt32).toInt32) &&& (1023 : Int32))).toUInt32.toUInt16.toUInt32.toInt32)))) (fun h => by rw [Bd.returns] at h; cases h)
      subst hPP
      refine ⟨_, _, retN X0 hx (t := .char) Bd.returns (by simp) (hb hby d_method_2_33) hr286, hrun286, hend286, _, _, rfl, ?_, ⟨_, rfl⟩, hW286, hsm286.mono (by decide) (by decide)⟩
      · show Q_draw Z _ h0 _ s₁.heap _
        rw [e0]
        exact ⟨_, rfl, N0, rfl, (own_narRng _)⟩
    ·
      refine own_Go.st (fun _ k => XS.icmpYes X0.here hx rfl (pc0 := 21) (pc' := 34) rfl (hb hby d_method_2_21) rfl (feq hc285).2 (by decide) (by decide) k) ?_
      show own_Go _ _ _ _ (s₁.setTop (mkF m 34 #[.val (.int p1), .val (.int (p1 &&& (3 : Int32))), .val (.int ((p1.toUInt32 >>> ((2 : Int32) &&& 31).toUInt32).toInt32))] []))
      refine own_Go.st (fun _ k => XS.iloadN X0.here hx rfl (hb hby d_method_2_34) rfl k) ?_
      show own_Go _ _ _ _ (s₁.setTop (mkF m 35 #[.val (.int p1), .val (.int (p1 &&& (3 : Int32))), .val (.int ((p1.toUInt32 >>> ((2 : Int32) &&& 31).toUInt32).toInt32))] [(.int (p1 &&& (3 : Int32)))]))
      refine own_Go.st (fun _ k => XS.iconst X0.here hx rfl (hb hby d_method_2_35) k) ?_
      show own_Go _ _ _ _ (s₁.setTop (mkF m 36 #[.val (.int p1), .val (.int (p1 &&& (3 : Int32))), .val (.int ((p1.toUInt32 >>> ((2 : Int32) &&& 31).toUInt32).toInt32))] [(.int (2 : Int32)), (.int (p1 &&& (3 : Int32)))]))
      by_cases hc287 : (p1 &&& (3 : Int32)) = (2 : Int32)
      ·
        refine own_Go.st (fun _ k => XS.icmpNo X0.here hx rfl (hb hby d_method_2_36) rfl (teq hc287).2 k) ?_
        show own_Go _ _ _ _ (s₁.setTop (mkF m 39 #[.val (.int p1), .val (.int (p1 &&& (3 : Int32))), .val (.int ((p1.toUInt32 >>> ((2 : Int32) &&& 31).toUInt32).toInt32))] []))
        refine own_Go.st (X0.ldcInt hx hown (mvT hZ (hw _ (List.mem_of_getElem? (i := 4) rfl))) (g := (mkF m 39 #[.val (.int p1), .val (.int (p1 &&& (3 : Int32))), .val (.int ((p1.toUInt32 >>> ((2 : Int32) &&& 31).toUInt32).toInt32))] [])) rfl (hb hby d_method_2_39)) ?_
        show own_Go _ _ _ _ (s₁.setTop (mkF m 41 #[.val (.int p1), .val (.int (p1 &&& (3 : Int32))), .val (.int ((p1.toUInt32 >>> ((2 : Int32) &&& 31).toUInt32).toInt32))] [(.int (56320 : Int32))]))
        refine own_Go.st (fun _ k => XS.iloadN X0.here hx rfl (hb hby d_method_2_41) rfl k) ?_
        show own_Go _ _ _ _ (s₁.setTop (mkF m 42 #[.val (.int p1), .val (.int (p1 &&& (3 : Int32))), .val (.int ((p1.toUInt32 >>> ((2 : Int32) &&& 31).toUInt32).toInt32))] [(.int ((p1.toUInt32 >>> ((2 : Int32) &&& 31).toUInt32).toInt32)), (.int (56320 : Int32))]))
        refine own_Go.st (fun _ k => XS.sipush X0.here hx rfl (hb hby d_method_2_42) k) ?_
        show own_Go _ _ _ _ (s₁.setTop (mkF m 45 #[.val (.int p1), .val (.int (p1 &&& (3 : Int32))), .val (.int ((p1.toUInt32 >>> ((2 : Int32) &&& 31).toUInt32).toInt32))] [(.int (1023 : Int32)), (.int ((p1.toUInt32 >>> ((2 : Int32) &&& 31).toUInt32).toInt32)), (.int (56320 : Int32))]))
        refine own_Go.st (fun _ k => XS.iand X0.here hx rfl (hb hby d_method_2_45) rfl k) ?_
        show own_Go _ _ _ _ (s₁.setTop (mkF m 46 #[.val (.int p1), .val (.int (p1 &&& (3 : Int32))), .val (.int ((p1.toUInt32 >>> ((2 : Int32) &&& 31).toUInt32).toInt32))] [(.int (((p1.toUInt32 >>> ((2 : Int32) &&& 31).toUInt32).toInt32) &&& (1023 : Int32))), (.int (56320 : Int32))]))
        refine own_Go.st (fun _ k => XS.iadd X0.here hx rfl (hb hby d_method_2_46) rfl k) ?_
        show own_Go _ _ _ _ (s₁.setTop (mkF m 47 #[.val (.int p1), .val (.int (p1 &&& (3 : Int32))), .val (.int ((p1.toUInt32 >>> ((2 : Int32) &&& 31).toUInt32).toInt32))] [(.int ((56320 : Int32) + (((p1.toUInt32 >>> ((2 : Int32) &&& 31).toUInt32).toInt32) &&& (1023 : Int32))))]))
        refine own_Go.st (fun _ k => XS.i2c X0.here hx rfl (hb hby d_method_2_47) rfl k) ?_
        show own_Go _ _ _ _ (s₁.setTop (mkF m 48 #[.val (.int p1), .val (.int (p1 &&& (3 : Int32))), .val (.int ((p1.toUInt32 >>> ((2 : Int32) &&& 31).toUInt32).toInt32))] [(.int (((56320 : Int32) + (((p1.toUInt32 >>> ((2 : Int32) &&& 31).toUInt32).toInt32) &&& (1023 : Int32))).toUInt32.toUInt16.toUInt32.toInt32))]))
        obtain ⟨fs288, hr288, hrun288, hend288, hW288, hsm288⟩ := X0.leave (v := some (.int (nar .char (((56320 : Int32) + (((p1.toUInt32 >>> ((2 : Int32) &&& 31).toUInt32).toInt32) &&& (1023 : Int32))).toUInt32.toUInt16.toUInt32.toInt32)))) (fun h => by rw [Bd.returns] at h; cases h)
        subst hPP
        refine ⟨_, _, retN X0 hx (t := .char) Bd.returns (by simp) (hb hby d_method_2_48) hr288, hrun288, hend288, _, _, rfl, ?_, ⟨_, rfl⟩, hW288, hsm288.mono (by decide) (by decide)⟩
        · show Q_draw Z _ h0 _ s₁.heap _
          rw [e0]
          exact ⟨_, rfl, N0, rfl, (own_narRng _)⟩
      ·
        refine own_Go.st (fun _ k => XS.icmpYes X0.here hx rfl (pc0 := 36) (pc' := 49) rfl (hb hby d_method_2_36) rfl (feq hc287).2 (by decide) (by decide) k) ?_
        show own_Go _ _ _ _ (s₁.setTop (mkF m 49 #[.val (.int p1), .val (.int (p1 &&& (3 : Int32))), .val (.int ((p1.toUInt32 >>> ((2 : Int32) &&& 31).toUInt32).toInt32))] []))
        refine own_Go.st (fun _ k => XS.iloadN X0.here hx rfl (hb hby d_method_2_49) rfl k) ?_
        show own_Go _ _ _ _ (s₁.setTop (mkF m 50 #[.val (.int p1), .val (.int (p1 &&& (3 : Int32))), .val (.int ((p1.toUInt32 >>> ((2 : Int32) &&& 31).toUInt32).toInt32))] [(.int ((p1.toUInt32 >>> ((2 : Int32) &&& 31).toUInt32).toInt32))]))
        refine own_Go.st (X0.ldcInt hx hown (mvT hZ (hw _ (List.mem_of_getElem? (i := 6) rfl))) (g := (mkF m 50 #[.val (.int p1), .val (.int (p1 &&& (3 : Int32))), .val (.int ((p1.toUInt32 >>> ((2 : Int32) &&& 31).toUInt32).toInt32))] [(.int ((p1.toUInt32 >>> ((2 : Int32) &&& 31).toUInt32).toInt32))])) rfl (hb hby d_method_2_50)) ?_
        show own_Go _ _ _ _ (s₁.setTop (mkF m 52 #[.val (.int p1), .val (.int (p1 &&& (3 : Int32))), .val (.int ((p1.toUInt32 >>> ((2 : Int32) &&& 31).toUInt32).toInt32))] [(.int (65535 : Int32)), (.int ((p1.toUInt32 >>> ((2 : Int32) &&& 31).toUInt32).toInt32))]))
        refine own_Go.st (fun _ k => XS.iand X0.here hx rfl (hb hby d_method_2_52) rfl k) ?_
        show own_Go _ _ _ _ (s₁.setTop (mkF m 53 #[.val (.int p1), .val (.int (p1 &&& (3 : Int32))), .val (.int ((p1.toUInt32 >>> ((2 : Int32) &&& 31).toUInt32).toInt32))] [(.int (((p1.toUInt32 >>> ((2 : Int32) &&& 31).toUInt32).toInt32) &&& (65535 : Int32)))]))
        refine own_Go.st (fun _ k => XS.i2c X0.here hx rfl (hb hby d_method_2_53) rfl k) ?_
        show own_Go _ _ _ _ (s₁.setTop (mkF m 54 #[.val (.int p1), .val (.int (p1 &&& (3 : Int32))), .val (.int ((p1.toUInt32 >>> ((2 : Int32) &&& 31).toUInt32).toInt32))] [(.int ((((p1.toUInt32 >>> ((2 : Int32) &&& 31).toUInt32).toInt32) &&& (65535 : Int32)).toUInt32.toUInt16.toUInt32.toInt32))]))
        obtain ⟨fs289, hr289, hrun289, hend289, hW289, hsm289⟩ := X0.leave (v := some (.int (nar .char ((((p1.toUInt32 >>> ((2 : Int32) &&& 31).toUInt32).toInt32) &&& (65535 : Int32)).toUInt32.toUInt16.toUInt32.toInt32)))) (fun h => by rw [Bd.returns] at h; cases h)
        subst hPP
        refine ⟨_, _, retN X0 hx (t := .char) Bd.returns (by simp) (hb hby d_method_2_54) hr289, hrun289, hend289, _, _, rfl, ?_, ⟨_, rfl⟩, hW289, hsm289.mono (by decide) (by decide)⟩
        · show Q_draw Z _ h0 _ s₁.heap _
          rw [e0]
          exact ⟨_, rfl, N0, rfl, (own_narRng _)⟩
theorem d_method_3_0 : decode method_3_code 0 = .ok (.iload_n 0, 1) := by decide +kernel
theorem d_method_3_1 : decode method_3_code 1 = .ok (.ldc 7, 2) := by decide +kernel
theorem d_method_3_3 : decode method_3_code 3 = .ok (.if_icmp .lt 13, 3) := by decide +kernel
theorem d_method_3_16 : decode method_3_code 16 = .ok (.iconst 0, 1) := by decide +kernel
theorem d_method_3_17 : decode method_3_code 17 = .ok (.ireturn, 1) := by decide +kernel
theorem d_method_3_6 : decode method_3_code 6 = .ok (.iload_n 0, 1) := by decide +kernel
theorem d_method_3_7 : decode method_3_code 7 = .ok (.ldc 10, 2) := by decide +kernel
theorem d_method_3_9 : decode method_3_code 9 = .ok (.if_icmp .gt 7, 3) := by decide +kernel
theorem d_method_3_12 : decode method_3_code 12 = .ok (.iconst 1, 1) := by decide +kernel
theorem d_method_3_13 : decode method_3_code 13 = .ok (.goto 4, 3) := by decide +kernel
def Q_isHigh (Z : State) (p1 : Int32) (h0 : Heap) (v : Option Value) (h : Heap) (L : List Loc) : Prop := ∃ (r : Int32), v = some (.int r) ∧ Fr Z.heap.size L ∧ h = h0 ∧ ((r = 1 ∧ own_hi p1) ∨ (r = 0 ∧ ¬ own_hi p1))
set_option maxRecDepth 65536 in
set_option maxHeartbeats 40000000 in
theorem rm_isHigh (l : Launch) (Z : State) (a0 : Array Value) (hw : ∀ d ∈ tables_1, d.before a0 Z = true) (ws : List Jvm.Cond) (p1 : Int32) (h0 : Heap) (OL : Old Z Z.heap.size h0) :
    MetFree l (⟨"com/example/vigilant_gate/vigilantgate/PasswordPolicyAdmitsPinLaw", "isHigh", "(C)Z"⟩ : MethodName) (head1 (Jvm.Cond.code (⟨"com/example/vigilant_gate/vigilantgate/PasswordPolicyAdmitsPinLaw", "isHigh", "(C)Z"⟩ : MethodName) method_3_code 1 (some .boolean) :: ws) ({ frames := 0, cells := 0, slots := 0, locals := 0 } : Room)) (fun a U => a = #[(.int p1)] ∧ Z.Warmed39 U.vm ∧ U.heap = h0) (fun _ _ _ _ _ => True) (fun _ U o U' => ∃ v L, o = .returned v ∧ Q_isHigh Z p1 h0 v U'.heap L ∧ FrameEnd U o U' L ({ frames := 0, cells := 0, slots := 0, locals := 0 } : Room).cells ({ frames := 0, cells := 0, slots := 0, locals := 0 } : Room).slots) := by
  refine MetFree.of_bodySF (plainFor_of_name pn_304) hisR ?_
  intro p e s m args below meth c s₁ Bd hml0 hP hK
  obtain ⟨rfl, hZ, hh⟩ := hP
  have hx := Bd.exec
  have hby := Bd.bytes
  have hml : c.maxLocals = 1 := hml0
  have hown : s.vm.findClass "com/example/vigilant_gate/vigilantgate/PasswordPolicyAdmitsPinLaw" = some m.cls := findClass_of_methodNamed Bd.named
  have hnm := (name_of_methodNamed Bd.named Bd.method).1
  have X0 : Stand p l e ({ frames := 0, cells := 0, slots := 0, locals := 0 } : Room) s m #[(.int p1)] below meth c s₁ [] 0 0 := Stand.of_body Bd
  have e0 : s₁.heap = h0 := by rw [← hh, Bd.state]; rfl
  have N0 := Fr.nil Z.heap.size
  have Z0 : Z.heap.size ≤ h0.size := OL.2.1
  obtain ⟨PP, hPP⟩ : ∃ PP : Outcome → State → Prop, PP = (fun o tE => ∃ v L, o = .returned v ∧ Q_isHigh Z p1 h0 v tE.heap L ∧ FrameEnd s o tE L ({ frames := 0, cells := 0, slots := 0, locals := 0 } : Room).cells ({ frames := 0, cells := 0, slots := 0, locals := 0 } : Room).slots) := ⟨_, rfl⟩
  show own_Go p.tables e below (fun o tE => ∃ v L, o = .returned v ∧ Q_isHigh Z p1 h0 v tE.heap L ∧ FrameEnd s o tE L ({ frames := 0, cells := 0, slots := 0, locals := 0 } : Room).cells ({ frames := 0, cells := 0, slots := 0, locals := 0 } : Room).slots) (s₁.setTop (entryFrame m #[(.int p1)] 1))
  rw [← hPP]
  refine own_Go.st (fun t k => castTop (ef_98 m p1) k) ?_
  show own_Go _ _ _ _ (s₁.setTop (mkF m 0 #[.val (.int p1)] []))
  refine own_Go.st (fun _ k => XS.iloadN X0.here hx rfl (hb hby d_method_3_0) rfl k) ?_
  show own_Go _ _ _ _ (s₁.setTop (mkF m 1 #[.val (.int p1)] [(.int p1)]))
  refine own_Go.st (X0.ldcInt hx hown (mvT hZ (hw _ (List.mem_of_getElem? (i := 5) rfl))) (g := (mkF m 1 #[.val (.int p1)] [(.int p1)])) rfl (hb hby d_method_3_1)) ?_
  show own_Go _ _ _ _ (s₁.setTop (mkF m 3 #[.val (.int p1)] [(.int (55296 : Int32)), (.int p1)]))
  by_cases hc290 : p1 < (55296 : Int32)
  ·
    refine own_Go.st (fun _ k => XS.icmpYes X0.here hx rfl (pc0 := 3) (pc' := 16) rfl (hb hby d_method_3_3) rfl (tlt hc290).1 (by decide) (by decide) k) ?_
    show own_Go _ _ _ _ (s₁.setTop (mkF m 16 #[.val (.int p1)] []))
    refine own_Go.st (fun _ k => XS.iconst X0.here hx rfl (hb hby d_method_3_16) k) ?_
    show own_Go _ _ _ _ (s₁.setTop (mkF m 17 #[.val (.int p1)] [(.int (0 : Int32))]))
    obtain ⟨fs291, hr291, hrun291, hend291, hW291, hsm291⟩ := X0.leave (v := some (.int (nar .boolean (0 : Int32)))) (fun h => by rw [Bd.returns] at h; cases h)
    subst hPP
    refine ⟨_, _, retN X0 hx (t := .boolean) Bd.returns (by simp) (hb hby d_method_3_17) hr291, hrun291, hend291, _, _, rfl, ?_, ⟨_, rfl⟩, hW291, hsm291.mono (by decide) (by decide)⟩
    · show Q_isHigh Z _ h0 _ s₁.heap _
      rw [e0]
      exact ⟨_, rfl, N0, rfl, (Or.inr ⟨rfl, fun q => q.1 hc290⟩)⟩
  ·
    refine own_Go.st (fun _ k => XS.icmpNo X0.here hx rfl (hb hby d_method_3_3) rfl (flt hc290).1 k) ?_
    show own_Go _ _ _ _ (s₁.setTop (mkF m 6 #[.val (.int p1)] []))
    refine own_Go.st (fun _ k => XS.iloadN X0.here hx rfl (hb hby d_method_3_6) rfl k) ?_
    show own_Go _ _ _ _ (s₁.setTop (mkF m 7 #[.val (.int p1)] [(.int p1)]))
    refine own_Go.st (X0.ldcInt hx hown (mvT hZ (hw _ (List.mem_of_getElem? (i := 65) rfl))) (g := (mkF m 7 #[.val (.int p1)] [(.int p1)])) rfl (hb hby d_method_3_7)) ?_
    show own_Go _ _ _ _ (s₁.setTop (mkF m 9 #[.val (.int p1)] [(.int (56319 : Int32)), (.int p1)]))
    by_cases hc292 : (56319 : Int32) < p1
    ·
      refine own_Go.st (fun _ k => XS.icmpYes X0.here hx rfl (pc0 := 9) (pc' := 16) rfl (hb hby d_method_3_9) rfl (tlt hc292).2.2.1 (by decide) (by decide) k) ?_
      show own_Go _ _ _ _ (s₁.setTop (mkF m 16 #[.val (.int p1)] []))
      refine own_Go.st (fun _ k => XS.iconst X0.here hx rfl (hb hby d_method_3_16) k) ?_
      show own_Go _ _ _ _ (s₁.setTop (mkF m 17 #[.val (.int p1)] [(.int (0 : Int32))]))
      obtain ⟨fs293, hr293, hrun293, hend293, hW293, hsm293⟩ := X0.leave (v := some (.int (nar .boolean (0 : Int32)))) (fun h => by rw [Bd.returns] at h; cases h)
      subst hPP
      refine ⟨_, _, retN X0 hx (t := .boolean) Bd.returns (by simp) (hb hby d_method_3_17) hr293, hrun293, hend293, _, _, rfl, ?_, ⟨_, rfl⟩, hW293, hsm293.mono (by decide) (by decide)⟩
      · show Q_isHigh Z _ h0 _ s₁.heap _
        rw [e0]
        exact ⟨_, rfl, N0, rfl, (Or.inr ⟨rfl, own_hiN hc292⟩)⟩
    ·
      refine own_Go.st (fun _ k => XS.icmpNo X0.here hx rfl (hb hby d_method_3_9) rfl (flt hc292).2.2.1 k) ?_
      show own_Go _ _ _ _ (s₁.setTop (mkF m 12 #[.val (.int p1)] []))
      refine own_Go.st (fun _ k => XS.iconst X0.here hx rfl (hb hby d_method_3_12) k) ?_
      show own_Go _ _ _ _ (s₁.setTop (mkF m 13 #[.val (.int p1)] [(.int (1 : Int32))]))
      refine own_Go.st (fun _ k => XS.goto X0.here hx rfl (pc0 := 13) (pc' := 17) rfl (hb hby d_method_3_13) (by decide) (by decide) k) ?_
      show own_Go _ _ _ _ (s₁.setTop (mkF m 17 #[.val (.int p1)] [(.int (1 : Int32))]))
      obtain ⟨fs294, hr294, hrun294, hend294, hW294, hsm294⟩ := X0.leave (v := some (.int (nar .boolean (1 : Int32)))) (fun h => by rw [Bd.returns] at h; cases h)
      subst hPP
      refine ⟨_, _, retN X0 hx (t := .boolean) Bd.returns (by simp) (hb hby d_method_3_17) hr294, hrun294, hend294, _, _, rfl, ?_, ⟨_, rfl⟩, hW294, hsm294.mono (by decide) (by decide)⟩
      · show Q_isHigh Z _ h0 _ s₁.heap _
        rw [e0]
        exact ⟨_, rfl, N0, rfl, (Or.inl ⟨rfl, own_hiL hc290 hc292⟩)⟩
theorem d_method_4_0 : decode method_4_code 0 = .ok (.iload_n 0, 1) := by decide +kernel
theorem d_method_4_1 : decode method_4_code 1 = .ok (.ldc 8, 2) := by decide +kernel
theorem d_method_4_3 : decode method_4_code 3 = .ok (.if_icmp .lt 13, 3) := by decide +kernel
theorem d_method_4_16 : decode method_4_code 16 = .ok (.iconst 0, 1) := by decide +kernel
theorem d_method_4_17 : decode method_4_code 17 = .ok (.ireturn, 1) := by decide +kernel
theorem d_method_4_6 : decode method_4_code 6 = .ok (.iload_n 0, 1) := by decide +kernel
theorem d_method_4_7 : decode method_4_code 7 = .ok (.ldc 11, 2) := by decide +kernel
theorem d_method_4_9 : decode method_4_code 9 = .ok (.if_icmp .gt 7, 3) := by decide +kernel
theorem d_method_4_12 : decode method_4_code 12 = .ok (.iconst 1, 1) := by decide +kernel
theorem d_method_4_13 : decode method_4_code 13 = .ok (.goto 4, 3) := by decide +kernel
def Q_isLow (Z : State) (p1 : Int32) (h0 : Heap) (v : Option Value) (h : Heap) (L : List Loc) : Prop := ∃ (r : Int32), v = some (.int r) ∧ Fr Z.heap.size L ∧ h = h0 ∧ ((r = 1 ∧ own_lo p1) ∨ (r = 0 ∧ ¬ own_lo p1))
set_option maxRecDepth 65536 in
set_option maxHeartbeats 40000000 in
theorem rm_isLow (l : Launch) (Z : State) (a0 : Array Value) (hw : ∀ d ∈ tables_1, d.before a0 Z = true) (ws : List Jvm.Cond) (p1 : Int32) (h0 : Heap) (OL : Old Z Z.heap.size h0) :
    MetFree l (⟨"com/example/vigilant_gate/vigilantgate/PasswordPolicyAdmitsPinLaw", "isLow", "(C)Z"⟩ : MethodName) (head1 (Jvm.Cond.code (⟨"com/example/vigilant_gate/vigilantgate/PasswordPolicyAdmitsPinLaw", "isLow", "(C)Z"⟩ : MethodName) method_4_code 1 (some .boolean) :: ws) ({ frames := 0, cells := 0, slots := 0, locals := 0 } : Room)) (fun a U => a = #[(.int p1)] ∧ Z.Warmed39 U.vm ∧ U.heap = h0) (fun _ _ _ _ _ => True) (fun _ U o U' => ∃ v L, o = .returned v ∧ Q_isLow Z p1 h0 v U'.heap L ∧ FrameEnd U o U' L ({ frames := 0, cells := 0, slots := 0, locals := 0 } : Room).cells ({ frames := 0, cells := 0, slots := 0, locals := 0 } : Room).slots) := by
  refine MetFree.of_bodySF (plainFor_of_name pn_304) hisR ?_
  intro p e s m args below meth c s₁ Bd hml0 hP hK
  obtain ⟨rfl, hZ, hh⟩ := hP
  have hx := Bd.exec
  have hby := Bd.bytes
  have hml : c.maxLocals = 1 := hml0
  have hown : s.vm.findClass "com/example/vigilant_gate/vigilantgate/PasswordPolicyAdmitsPinLaw" = some m.cls := findClass_of_methodNamed Bd.named
  have hnm := (name_of_methodNamed Bd.named Bd.method).1
  have X0 : Stand p l e ({ frames := 0, cells := 0, slots := 0, locals := 0 } : Room) s m #[(.int p1)] below meth c s₁ [] 0 0 := Stand.of_body Bd
  have e0 : s₁.heap = h0 := by rw [← hh, Bd.state]; rfl
  have N0 := Fr.nil Z.heap.size
  have Z0 : Z.heap.size ≤ h0.size := OL.2.1
  obtain ⟨PP, hPP⟩ : ∃ PP : Outcome → State → Prop, PP = (fun o tE => ∃ v L, o = .returned v ∧ Q_isLow Z p1 h0 v tE.heap L ∧ FrameEnd s o tE L ({ frames := 0, cells := 0, slots := 0, locals := 0 } : Room).cells ({ frames := 0, cells := 0, slots := 0, locals := 0 } : Room).slots) := ⟨_, rfl⟩
  show own_Go p.tables e below (fun o tE => ∃ v L, o = .returned v ∧ Q_isLow Z p1 h0 v tE.heap L ∧ FrameEnd s o tE L ({ frames := 0, cells := 0, slots := 0, locals := 0 } : Room).cells ({ frames := 0, cells := 0, slots := 0, locals := 0 } : Room).slots) (s₁.setTop (entryFrame m #[(.int p1)] 1))
  rw [← hPP]
  refine own_Go.st (fun t k => castTop (ef_98 m p1) k) ?_
  show own_Go _ _ _ _ (s₁.setTop (mkF m 0 #[.val (.int p1)] []))
  refine own_Go.st (fun _ k => XS.iloadN X0.here hx rfl (hb hby d_method_4_0) rfl k) ?_
  show own_Go _ _ _ _ (s₁.setTop (mkF m 1 #[.val (.int p1)] [(.int p1)]))
  refine own_Go.st (X0.ldcInt hx hown (mvT hZ (hw _ (List.mem_of_getElem? (i := 4) rfl))) (g := (mkF m 1 #[.val (.int p1)] [(.int p1)])) rfl (hb hby d_method_4_1)) ?_
  show own_Go _ _ _ _ (s₁.setTop (mkF m 3 #[.val (.int p1)] [(.int (56320 : Int32)), (.int p1)]))
  by_cases hc295 : p1 < (56320 : Int32)
  ·
    refine own_Go.st (fun _ k => XS.icmpYes X0.here hx rfl (pc0 := 3) (pc' := 16) rfl (hb hby d_method_4_3) rfl (tlt hc295).1 (by decide) (by decide) k) ?_
    show own_Go _ _ _ _ (s₁.setTop (mkF m 16 #[.val (.int p1)] []))
    refine own_Go.st (fun _ k => XS.iconst X0.here hx rfl (hb hby d_method_4_16) k) ?_
    show own_Go _ _ _ _ (s₁.setTop (mkF m 17 #[.val (.int p1)] [(.int (0 : Int32))]))
    obtain ⟨fs296, hr296, hrun296, hend296, hW296, hsm296⟩ := X0.leave (v := some (.int (nar .boolean (0 : Int32)))) (fun h => by rw [Bd.returns] at h; cases h)
    subst hPP
    refine ⟨_, _, retN X0 hx (t := .boolean) Bd.returns (by simp) (hb hby d_method_4_17) hr296, hrun296, hend296, _, _, rfl, ?_, ⟨_, rfl⟩, hW296, hsm296.mono (by decide) (by decide)⟩
    · show Q_isLow Z _ h0 _ s₁.heap _
      rw [e0]
      exact ⟨_, rfl, N0, rfl, (Or.inr ⟨rfl, fun q => q.1 hc295⟩)⟩
  ·
    refine own_Go.st (fun _ k => XS.icmpNo X0.here hx rfl (hb hby d_method_4_3) rfl (flt hc295).1 k) ?_
    show own_Go _ _ _ _ (s₁.setTop (mkF m 6 #[.val (.int p1)] []))
    refine own_Go.st (fun _ k => XS.iloadN X0.here hx rfl (hb hby d_method_4_6) rfl k) ?_
    show own_Go _ _ _ _ (s₁.setTop (mkF m 7 #[.val (.int p1)] [(.int p1)]))
    refine own_Go.st (X0.ldcInt hx hown (mvT hZ (hw _ (List.mem_of_getElem? (i := 135) rfl))) (g := (mkF m 7 #[.val (.int p1)] [(.int p1)])) rfl (hb hby d_method_4_7)) ?_
    show own_Go _ _ _ _ (s₁.setTop (mkF m 9 #[.val (.int p1)] [(.int (57343 : Int32)), (.int p1)]))
    by_cases hc297 : (57343 : Int32) < p1
    ·
      refine own_Go.st (fun _ k => XS.icmpYes X0.here hx rfl (pc0 := 9) (pc' := 16) rfl (hb hby d_method_4_9) rfl (tlt hc297).2.2.1 (by decide) (by decide) k) ?_
      show own_Go _ _ _ _ (s₁.setTop (mkF m 16 #[.val (.int p1)] []))
      refine own_Go.st (fun _ k => XS.iconst X0.here hx rfl (hb hby d_method_4_16) k) ?_
      show own_Go _ _ _ _ (s₁.setTop (mkF m 17 #[.val (.int p1)] [(.int (0 : Int32))]))
      obtain ⟨fs298, hr298, hrun298, hend298, hW298, hsm298⟩ := X0.leave (v := some (.int (nar .boolean (0 : Int32)))) (fun h => by rw [Bd.returns] at h; cases h)
      subst hPP
      refine ⟨_, _, retN X0 hx (t := .boolean) Bd.returns (by simp) (hb hby d_method_4_17) hr298, hrun298, hend298, _, _, rfl, ?_, ⟨_, rfl⟩, hW298, hsm298.mono (by decide) (by decide)⟩
      · show Q_isLow Z _ h0 _ s₁.heap _
        rw [e0]
        exact ⟨_, rfl, N0, rfl, (Or.inr ⟨rfl, own_loN hc297⟩)⟩
    ·
      refine own_Go.st (fun _ k => XS.icmpNo X0.here hx rfl (hb hby d_method_4_9) rfl (flt hc297).2.2.1 k) ?_
      show own_Go _ _ _ _ (s₁.setTop (mkF m 12 #[.val (.int p1)] []))
      refine own_Go.st (fun _ k => XS.iconst X0.here hx rfl (hb hby d_method_4_12) k) ?_
      show own_Go _ _ _ _ (s₁.setTop (mkF m 13 #[.val (.int p1)] [(.int (1 : Int32))]))
      refine own_Go.st (fun _ k => XS.goto X0.here hx rfl (pc0 := 13) (pc' := 17) rfl (hb hby d_method_4_13) (by decide) (by decide) k) ?_
      show own_Go _ _ _ _ (s₁.setTop (mkF m 17 #[.val (.int p1)] [(.int (1 : Int32))]))
      obtain ⟨fs299, hr299, hrun299, hend299, hW299, hsm299⟩ := X0.leave (v := some (.int (nar .boolean (1 : Int32)))) (fun h => by rw [Bd.returns] at h; cases h)
      subst hPP
      refine ⟨_, _, retN X0 hx (t := .boolean) Bd.returns (by simp) (hb hby d_method_4_17) hr299, hrun299, hend299, _, _, rfl, ?_, ⟨_, rfl⟩, hW299, hsm299.mono (by decide) (by decide)⟩
      · show Q_isLow Z _ h0 _ s₁.heap _
        rw [e0]
        exact ⟨_, rfl, N0, rfl, (Or.inl ⟨rfl, own_loL hc295 hc297⟩)⟩
theorem ef_366 (m : MethodId) (x0 : Int32) (x1 : Int32) : entryFrame m #[(.int x0), (.int x1)] 2 = mkF m 0 #[.val (.int x0), .val (.int x1)] [] := by first | (simp [entryFrame, mkF, argsToLocals, Value.category]; done) | rfl
theorem d_method_5_0 : decode method_5_code 0 = .ok (.iload_n 0, 1) := by decide +kernel
theorem d_method_5_1 : decode method_5_code 1 = .ok (.invokestatic 12, 3) := by decide +kernel
theorem d_method_5_4 : decode method_5_code 4 = .ok (.ifCond .eq 12, 3) := by decide +kernel
theorem d_method_5_16 : decode method_5_code 16 = .ok (.iconst 0, 1) := by decide +kernel
theorem d_method_5_17 : decode method_5_code 17 = .ok (.ireturn, 1) := by decide +kernel
theorem d_method_5_7 : decode method_5_code 7 = .ok (.iload_n 1, 1) := by decide +kernel
theorem d_method_5_8 : decode method_5_code 8 = .ok (.invokestatic 18, 3) := by decide +kernel
theorem d_method_5_11 : decode method_5_code 11 = .ok (.ifCond .eq 5, 3) := by decide +kernel
theorem d_method_5_14 : decode method_5_code 14 = .ok (.iconst 1, 1) := by decide +kernel
theorem d_method_5_15 : decode method_5_code 15 = .ok (.ireturn, 1) := by decide +kernel
def Q_pair (Z : State) (p1 : Int32) (p2 : Int32) (h0 : Heap) (v : Option Value) (h : Heap) (L : List Loc) : Prop := ∃ (r : Int32), v = some (.int r) ∧ Fr Z.heap.size L ∧ h = h0 ∧ (own_pr p1 p2 r)
set_option maxRecDepth 65536 in
set_option maxHeartbeats 40000000 in
theorem rm_pair (l : Launch) (Z : State) (a0 : Array Value) (hw : ∀ d ∈ tables_1, d.before a0 Z = true) (ws : List Jvm.Cond) (p1 : Int32) (p2 : Int32) (h0 : Heap) (OL : Old Z Z.heap.size h0) :
    MetFree l (⟨"com/example/vigilant_gate/vigilantgate/PasswordPolicyAdmitsPinLaw", "pair", "(CC)I"⟩ : MethodName) (head1 (Jvm.Cond.code (⟨"com/example/vigilant_gate/vigilantgate/PasswordPolicyAdmitsPinLaw", "pair", "(CC)I"⟩ : MethodName) method_5_code 2 (some .int) :: ws) ({ frames := 1, cells := 0, slots := 0, locals := 12 } : Room)) (fun a U => a = #[(.int p1), (.int p2)] ∧ Z.Warmed39 U.vm ∧ U.heap = h0) (fun _ _ _ _ _ => True) (fun _ U o U' => ∃ v L, o = .returned v ∧ Q_pair Z p1 p2 h0 v U'.heap L ∧ FrameEnd U o U' L ({ frames := 1, cells := 0, slots := 0, locals := 12 } : Room).cells ({ frames := 1, cells := 0, slots := 0, locals := 12 } : Room).slots) := by
  refine MetFree.of_bodySF (plainFor_of_name pn_304) hisR ?_
  intro p e s m args below meth c s₁ Bd hml0 hP hK
  obtain ⟨rfl, hZ, hh⟩ := hP
  have hx := Bd.exec
  have hby := Bd.bytes
  have hml : c.maxLocals = 2 := hml0
  have hown : s.vm.findClass "com/example/vigilant_gate/vigilantgate/PasswordPolicyAdmitsPinLaw" = some m.cls := findClass_of_methodNamed Bd.named
  have hnm := (name_of_methodNamed Bd.named Bd.method).1
  have X0 : Stand p l e ({ frames := 1, cells := 0, slots := 0, locals := 12 } : Room) s m #[(.int p1), (.int p2)] below meth c s₁ [] 0 0 := Stand.of_body Bd
  have e0 : s₁.heap = h0 := by rw [← hh, Bd.state]; rfl
  have N0 := Fr.nil Z.heap.size
  have Z0 : Z.heap.size ≤ h0.size := OL.2.1
  obtain ⟨PP, hPP⟩ : ∃ PP : Outcome → State → Prop, PP = (fun o tE => ∃ v L, o = .returned v ∧ Q_pair Z p1 p2 h0 v tE.heap L ∧ FrameEnd s o tE L ({ frames := 1, cells := 0, slots := 0, locals := 12 } : Room).cells ({ frames := 1, cells := 0, slots := 0, locals := 12 } : Room).slots) := ⟨_, rfl⟩
  show own_Go p.tables e below (fun o tE => ∃ v L, o = .returned v ∧ Q_pair Z p1 p2 h0 v tE.heap L ∧ FrameEnd s o tE L ({ frames := 1, cells := 0, slots := 0, locals := 12 } : Room).cells ({ frames := 1, cells := 0, slots := 0, locals := 12 } : Room).slots) (s₁.setTop (entryFrame m #[(.int p1), (.int p2)] 2))
  rw [← hPP]
  refine own_Go.st (fun t k => castTop (ef_366 m p1 p2) k) ?_
  show own_Go _ _ _ _ (s₁.setTop (mkF m 0 #[.val (.int p1), .val (.int p2)] []))
  refine own_Go.st (fun _ k => XS.iloadN X0.here hx rfl (hb hby d_method_5_0) rfl k) ?_
  show own_Go _ _ _ _ (s₁.setTop (mkF m 1 #[.val (.int p1), .val (.int p2)] [(.int p1)]))
  obtain ⟨_, _, ⟨T300, L300, k300, n300⟩, -, X300, ⟨Lc300, hQ300, l300, y300, z300⟩, st300⟩ := Jvm.LawKit.callS X0 hx (y := (⟨"com/example/vigilant_gate/vigilantgate/PasswordPolicyAdmitsPinLaw", "isHigh", "(C)Z"⟩ : MethodName)) hown (mvT hZ (hw _ (List.mem_of_getElem? (i := 62) rfl))) (mvT hZ (hw _ (List.mem_of_getElem? (i := 63) rfl))) (mvT hZ (hw _ (List.mem_of_getElem? (i := 2) rfl))) (mvT hZ (hw _ (List.mem_of_getElem? (i := 64) rfl))) (by decide) (backOf (W := 0) (rm_isHigh l Z a0 hw [] p1 h0 OL ) hZ (hw _ (List.mem_of_getElem? (i := 64) rfl)) (hw _ (List.mem_of_getElem? (i := 2) rfl)) (by decide) (by decide)) (g := (mkF m 1 #[.val (.int p1), .val (.int p2)] [(.int p1)])) rfl (by rw [hml]; rfl) (argsL := [(.int p1)]) (rest := []) (lenOf pd_261 rfl) rfl (by show 2 * 0 + _ ≤ _; exact Nat.le_of_eq rfl) (hb hby d_method_5_1) (fun _ _ => ⟨rfl, e0, (by decide : 0 + 0 ≤ _), (by decide : 0 + 0 ≤ _)⟩)
  dsimp only [Pt.U, Pt.locs, Pt.cells, Pt.slots] at X300 l300 y300 z300 st300 hQ300
  subst l300 y300 z300
  obtain ⟨r_300, rfl, N300q, K300, pr300_0⟩ := hQ300
  have N300 := Fr.app N0 N300q
  refine own_Go.st st300 ?_
  show own_Go _ _ _ _ (T300.setTop (mkF m 4 #[.val (.int p1), .val (.int p2)] [(.int r_300)]))
  by_cases hc301 : r_300 = (0 : Int32)
  ·
    refine own_Go.st (fun _ k => XS.ifYes X300.here hx rfl (pc0 := 4) (pc' := 16) rfl (hb hby d_method_5_4) rfl ((if0 _ _).trans (teq hc301).1) (by decide) (by decide) k) ?_
    show own_Go _ _ _ _ (T300.setTop (mkF m 16 #[.val (.int p1), .val (.int p2)] []))
    refine own_Go.st (fun _ k => XS.iconst X300.here hx rfl (hb hby d_method_5_16) k) ?_
    show own_Go _ _ _ _ (T300.setTop (mkF m 17 #[.val (.int p1), .val (.int p2)] [(.int (0 : Int32))]))
    obtain ⟨fs302, hr302, hrun302, hend302, hW302, hsm302⟩ := X300.leave (v := some (.int (0 : Int32))) (fun h => by rw [Bd.returns] at h; cases h)
    subst hPP
    refine ⟨_, _, own_retI X300 hx Bd.returns (hb hby d_method_5_17) hr302, hrun302, hend302, _, _, rfl, ?_, ⟨_, rfl⟩, hW302, hsm302.mono (by decide) (by decide)⟩
    · show Q_pair Z _ _ h0 _ T300.heap _
      rw [K300]
      exact ⟨_, rfl, N300, rfl, (Or.inr ⟨rfl, fun q => own_zero0 pr300_0 hc301 q.1⟩)⟩
  ·
    refine own_Go.st (fun _ k => XS.ifNo X300.here hx rfl (hb hby d_method_5_4) rfl ((if0 _ _).trans (feq hc301).1) k) ?_
    show own_Go _ _ _ _ (T300.setTop (mkF m 7 #[.val (.int p1), .val (.int p2)] []))
    refine own_Go.st (fun _ k => XS.iloadN X300.here hx rfl (hb hby d_method_5_7) rfl k) ?_
    show own_Go _ _ _ _ (T300.setTop (mkF m 8 #[.val (.int p1), .val (.int p2)] [(.int p2)]))
    obtain ⟨_, _, ⟨T303, L303, k303, n303⟩, -, X303, ⟨Lc303, hQ303, l303, y303, z303⟩, st303⟩ := Jvm.LawKit.callS X300 hx (y := (⟨"com/example/vigilant_gate/vigilantgate/PasswordPolicyAdmitsPinLaw", "isLow", "(C)Z"⟩ : MethodName)) hown (mvT hZ (hw _ (List.mem_of_getElem? (i := 66) rfl))) (mvT hZ (hw _ (List.mem_of_getElem? (i := 67) rfl))) (mvT hZ (hw _ (List.mem_of_getElem? (i := 2) rfl))) (mvT hZ (hw _ (List.mem_of_getElem? (i := 68) rfl))) (by decide) (backOf (W := 0) (rm_isLow l Z a0 hw [] p2 h0 OL ) hZ (hw _ (List.mem_of_getElem? (i := 68) rfl)) (hw _ (List.mem_of_getElem? (i := 2) rfl)) (by decide) (by decide)) (g := (mkF m 8 #[.val (.int p1), .val (.int p2)] [(.int p2)])) rfl (by rw [hml]; rfl) (argsL := [(.int p2)]) (rest := []) (lenOf pd_261 rfl) rfl (by show 2 * 0 + _ ≤ _; exact Nat.le_of_eq rfl) (hb hby d_method_5_8) (fun _ _ => ⟨rfl, K300, (by decide : 0 + 0 ≤ _), (by decide : 0 + 0 ≤ _)⟩)
    dsimp only [Pt.U, Pt.locs, Pt.cells, Pt.slots] at X303 l303 y303 z303 st303 hQ303
    subst l303 y303 z303
    obtain ⟨r_303, rfl, N303q, K303, pr303_0⟩ := hQ303
    have N303 := Fr.app N300 N303q
    refine own_Go.st st303 ?_
    show own_Go _ _ _ _ (T303.setTop (mkF m 11 #[.val (.int p1), .val (.int p2)] [(.int r_303)]))
    by_cases hc304 : r_303 = (0 : Int32)
    ·
      refine own_Go.st (fun _ k => XS.ifYes X303.here hx rfl (pc0 := 11) (pc' := 16) rfl (hb hby d_method_5_11) rfl ((if0 _ _).trans (teq hc304).1) (by decide) (by decide) k) ?_
      show own_Go _ _ _ _ (T303.setTop (mkF m 16 #[.val (.int p1), .val (.int p2)] []))
      refine own_Go.st (fun _ k => XS.iconst X303.here hx rfl (hb hby d_method_5_16) k) ?_
      show own_Go _ _ _ _ (T303.setTop (mkF m 17 #[.val (.int p1), .val (.int p2)] [(.int (0 : Int32))]))
      obtain ⟨fs305, hr305, hrun305, hend305, hW305, hsm305⟩ := X303.leave (v := some (.int (0 : Int32))) (fun h => by rw [Bd.returns] at h; cases h)
      subst hPP
      refine ⟨_, _, own_retI X303 hx Bd.returns (hb hby d_method_5_17) hr305, hrun305, hend305, _, _, rfl, ?_, ⟨_, rfl⟩, hW305, hsm305.mono (by decide) (by decide)⟩
      · show Q_pair Z _ _ h0 _ T303.heap _
        rw [K303]
        exact ⟨_, rfl, N303, rfl, (Or.inr ⟨rfl, fun q => own_zero0 pr303_0 hc304 q.2⟩)⟩
    ·
      refine own_Go.st (fun _ k => XS.ifNo X303.here hx rfl (hb hby d_method_5_11) rfl ((if0 _ _).trans (feq hc304).1) k) ?_
      show own_Go _ _ _ _ (T303.setTop (mkF m 14 #[.val (.int p1), .val (.int p2)] []))
      refine own_Go.st (fun _ k => XS.iconst X303.here hx rfl (hb hby d_method_5_14) k) ?_
      show own_Go _ _ _ _ (T303.setTop (mkF m 15 #[.val (.int p1), .val (.int p2)] [(.int (1 : Int32))]))
      obtain ⟨fs306, hr306, hrun306, hend306, hW306, hsm306⟩ := X303.leave (v := some (.int (1 : Int32))) (fun h => by rw [Bd.returns] at h; cases h)
      subst hPP
      refine ⟨_, _, own_retI X303 hx Bd.returns (hb hby d_method_5_15) hr306, hrun306, hend306, _, _, rfl, ?_, ⟨_, rfl⟩, hW306, hsm306.mono (by decide) (by decide)⟩
      · show Q_pair Z _ _ h0 _ T303.heap _
        rw [K303]
        exact ⟨_, rfl, N303, rfl, (Or.inl ⟨rfl, own_one0 pr300_0 hc301, own_one0 pr303_0 hc304⟩)⟩
theorem ef_377 (m : MethodId) (x0 : Int32) (x1 : Int32) (x2 : Int32) (x3 : Int32) (x4 : Int32) : entryFrame m #[(.int x0), (.int x1), (.int x2), (.int x3), (.int x4)] 5 = mkF m 0 #[.val (.int x0), .val (.int x1), .val (.int x2), .val (.int x3), .val (.int x4)] [] := by first | (simp [entryFrame, mkF, argsToLocals, Value.category]; done) | rfl
theorem d_method_6_0 : decode method_6_code 0 = .ok (.iload_n 0, 1) := by decide +kernel
theorem d_method_6_1 : decode method_6_code 1 = .ok (.ifCond .ne 14, 3) := by decide +kernel
theorem d_method_6_4 : decode method_6_code 4 = .ok (.new 21, 3) := by decide +kernel
theorem d_method_6_7 : decode method_6_code 7 = .ok (.dup, 1) := by decide +kernel
theorem d_method_6_8 : decode method_6_code 8 = .ok (.iconst 0, 1) := by decide +kernel
theorem d_method_6_9 : decode method_6_code 9 = .ok (.newarray .char, 2) := by decide +kernel
theorem pd_384 : parseMethodDescriptor "([C)V" = some ⟨[(.array .char)], none⟩ := by decide +kernel
theorem d_method_6_11 : decode method_6_code 11 = .ok (.invokespecial 23, 3) := by decide +kernel
theorem d_method_6_14 : decode method_6_code 14 = .ok (.areturn, 1) := by decide +kernel
theorem d_method_6_15 : decode method_6_code 15 = .ok (.iload_n 0, 1) := by decide +kernel
theorem d_method_6_16 : decode method_6_code 16 = .ok (.iconst 1, 1) := by decide +kernel
theorem d_method_6_17 : decode method_6_code 17 = .ok (.if_icmp .ne 18, 3) := by decide +kernel
theorem d_method_6_20 : decode method_6_code 20 = .ok (.new 21, 3) := by decide +kernel
theorem d_method_6_23 : decode method_6_code 23 = .ok (.dup, 1) := by decide +kernel
theorem d_method_6_24 : decode method_6_code 24 = .ok (.iconst 1, 1) := by decide +kernel
theorem d_method_6_25 : decode method_6_code 25 = .ok (.newarray .char, 2) := by decide +kernel
theorem d_method_6_27 : decode method_6_code 27 = .ok (.dup, 1) := by decide +kernel
theorem d_method_6_28 : decode method_6_code 28 = .ok (.iconst 0, 1) := by decide +kernel
theorem d_method_6_29 : decode method_6_code 29 = .ok (.iload_n 1, 1) := by decide +kernel
theorem d_method_6_30 : decode method_6_code 30 = .ok (.castore, 1) := by decide +kernel
theorem d_method_6_31 : decode method_6_code 31 = .ok (.invokespecial 23, 3) := by decide +kernel
theorem d_method_6_34 : decode method_6_code 34 = .ok (.areturn, 1) := by decide +kernel
theorem d_method_6_35 : decode method_6_code 35 = .ok (.iload_n 0, 1) := by decide +kernel
theorem d_method_6_36 : decode method_6_code 36 = .ok (.iconst 2, 1) := by decide +kernel
theorem d_method_6_37 : decode method_6_code 37 = .ok (.if_icmp .ne 22, 3) := by decide +kernel
theorem d_method_6_40 : decode method_6_code 40 = .ok (.new 21, 3) := by decide +kernel
theorem d_method_6_43 : decode method_6_code 43 = .ok (.dup, 1) := by decide +kernel
theorem d_method_6_44 : decode method_6_code 44 = .ok (.iconst 2, 1) := by decide +kernel
theorem d_method_6_45 : decode method_6_code 45 = .ok (.newarray .char, 2) := by decide +kernel
theorem d_method_6_47 : decode method_6_code 47 = .ok (.dup, 1) := by decide +kernel
theorem d_method_6_48 : decode method_6_code 48 = .ok (.iconst 0, 1) := by decide +kernel
theorem d_method_6_49 : decode method_6_code 49 = .ok (.iload_n 1, 1) := by decide +kernel
theorem d_method_6_50 : decode method_6_code 50 = .ok (.castore, 1) := by decide +kernel
theorem d_method_6_51 : decode method_6_code 51 = .ok (.dup, 1) := by decide +kernel
theorem d_method_6_52 : decode method_6_code 52 = .ok (.iconst 1, 1) := by decide +kernel
theorem d_method_6_53 : decode method_6_code 53 = .ok (.iload_n 2, 1) := by decide +kernel
theorem d_method_6_54 : decode method_6_code 54 = .ok (.castore, 1) := by decide +kernel
theorem d_method_6_55 : decode method_6_code 55 = .ok (.invokespecial 23, 3) := by decide +kernel
theorem d_method_6_58 : decode method_6_code 58 = .ok (.areturn, 1) := by decide +kernel
theorem d_method_6_59 : decode method_6_code 59 = .ok (.iload_n 0, 1) := by decide +kernel
theorem d_method_6_60 : decode method_6_code 60 = .ok (.iconst 3, 1) := by decide +kernel
theorem d_method_6_61 : decode method_6_code 61 = .ok (.if_icmp .ne 26, 3) := by decide +kernel
theorem d_method_6_64 : decode method_6_code 64 = .ok (.new 21, 3) := by decide +kernel
theorem d_method_6_67 : decode method_6_code 67 = .ok (.dup, 1) := by decide +kernel
theorem d_method_6_68 : decode method_6_code 68 = .ok (.iconst 3, 1) := by decide +kernel
theorem d_method_6_69 : decode method_6_code 69 = .ok (.newarray .char, 2) := by decide +kernel
theorem d_method_6_71 : decode method_6_code 71 = .ok (.dup, 1) := by decide +kernel
theorem d_method_6_72 : decode method_6_code 72 = .ok (.iconst 0, 1) := by decide +kernel
theorem d_method_6_73 : decode method_6_code 73 = .ok (.iload_n 1, 1) := by decide +kernel
theorem d_method_6_74 : decode method_6_code 74 = .ok (.castore, 1) := by decide +kernel
theorem d_method_6_75 : decode method_6_code 75 = .ok (.dup, 1) := by decide +kernel
theorem d_method_6_76 : decode method_6_code 76 = .ok (.iconst 1, 1) := by decide +kernel
theorem d_method_6_77 : decode method_6_code 77 = .ok (.iload_n 2, 1) := by decide +kernel
theorem d_method_6_78 : decode method_6_code 78 = .ok (.castore, 1) := by decide +kernel
theorem d_method_6_79 : decode method_6_code 79 = .ok (.dup, 1) := by decide +kernel
theorem d_method_6_80 : decode method_6_code 80 = .ok (.iconst 2, 1) := by decide +kernel
theorem d_method_6_81 : decode method_6_code 81 = .ok (.iload_n 3, 1) := by decide +kernel
theorem d_method_6_82 : decode method_6_code 82 = .ok (.castore, 1) := by decide +kernel
theorem d_method_6_83 : decode method_6_code 83 = .ok (.invokespecial 23, 3) := by decide +kernel
theorem d_method_6_86 : decode method_6_code 86 = .ok (.areturn, 1) := by decide +kernel
theorem d_method_6_87 : decode method_6_code 87 = .ok (.new 21, 3) := by decide +kernel
theorem d_method_6_90 : decode method_6_code 90 = .ok (.dup, 1) := by decide +kernel
theorem d_method_6_91 : decode method_6_code 91 = .ok (.iconst 4, 1) := by decide +kernel
theorem d_method_6_92 : decode method_6_code 92 = .ok (.newarray .char, 2) := by decide +kernel
theorem d_method_6_94 : decode method_6_code 94 = .ok (.dup, 1) := by decide +kernel
theorem d_method_6_95 : decode method_6_code 95 = .ok (.iconst 0, 1) := by decide +kernel
theorem d_method_6_96 : decode method_6_code 96 = .ok (.iload_n 1, 1) := by decide +kernel
theorem d_method_6_97 : decode method_6_code 97 = .ok (.castore, 1) := by decide +kernel
theorem d_method_6_98 : decode method_6_code 98 = .ok (.dup, 1) := by decide +kernel
theorem d_method_6_99 : decode method_6_code 99 = .ok (.iconst 1, 1) := by decide +kernel
theorem d_method_6_100 : decode method_6_code 100 = .ok (.iload_n 2, 1) := by decide +kernel
theorem d_method_6_101 : decode method_6_code 101 = .ok (.castore, 1) := by decide +kernel
theorem d_method_6_102 : decode method_6_code 102 = .ok (.dup, 1) := by decide +kernel
theorem d_method_6_103 : decode method_6_code 103 = .ok (.iconst 2, 1) := by decide +kernel
theorem d_method_6_104 : decode method_6_code 104 = .ok (.iload_n 3, 1) := by decide +kernel
theorem d_method_6_105 : decode method_6_code 105 = .ok (.castore, 1) := by decide +kernel
theorem d_method_6_106 : decode method_6_code 106 = .ok (.dup, 1) := by decide +kernel
theorem d_method_6_107 : decode method_6_code 107 = .ok (.iconst 3, 1) := by decide +kernel
theorem d_method_6_108 : decode method_6_code 108 = .ok (.iload 4, 2) := by decide +kernel
theorem d_method_6_110 : decode method_6_code 110 = .ok (.castore, 1) := by decide +kernel
theorem d_method_6_111 : decode method_6_code 111 = .ok (.invokespecial 23, 3) := by decide +kernel
theorem d_method_6_114 : decode method_6_code 114 = .ok (.areturn, 1) := by decide +kernel
def Q_build (Z : State) (p1 : Int32) (p2 : Int32) (p3 : Int32) (p4 : Int32) (p5 : Int32) (zc : Int32) (h0 : Heap) (v : Option Value) (h : Heap) (L : List Loc) : Prop := ∃ (x : Nat), ∃ (t : Nat), ∃ (cs : List Int32), v = some (.ref x) ∧ Fr Z.heap.size L ∧ Keep h0 h [] ∧ own_Str Z h x t cs ∧ (cs = own_mk p1 p2 p3 p4 p5)
set_option maxRecDepth 65536 in
set_option maxHeartbeats 40000000 in
theorem rm_build (l : Launch) (Z : State) (a0 : Array Value) (hw : ∀ d ∈ tables_1, d.before a0 Z = true) (ws : List Jvm.Cond) (p1 : Int32) (p2 : Int32) (p3 : Int32) (p4 : Int32) (p5 : Int32) (zc : Int32) (h0 : Heap) (hEL : EW Z a0 consts_1) (OL : Old Z Z.heap.size h0) (st_COMPACT_STRINGS : Sta Z Z.heap "java/lang/String" "COMPACT_STRINGS" "Z" (.int zc)) (st__assertionsDisabled : Sta Z Z.heap "java/lang/StringUTF16" "$assertionsDisabled" "Z" (.int (1 : Int32))) (st_HI_BYTE_SHIFT : Sta Z Z.heap "java/lang/StringUTF16" "HI_BYTE_SHIFT" "I" (.int (0 : Int32))) (st_LO_BYTE_SHIFT : Sta Z Z.heap "java/lang/StringUTF16" "LO_BYTE_SHIFT" "I" (.int (8 : Int32))) (hzc : ¬ zc = 0) (hp2 : ¬ p2 < 0 ∧ ¬ (65535 : Int32) < p2) (hp3 : ¬ p3 < 0 ∧ ¬ (65535 : Int32) < p3) (hp4 : ¬ p4 < 0 ∧ ¬ (65535 : Int32) < p4) (hp5 : ¬ p5 < 0 ∧ ¬ (65535 : Int32) < p5) :
    MetFree l (⟨"com/example/vigilant_gate/vigilantgate/PasswordPolicyAdmitsPinLaw", "build", "(ICCCC)Ljava/lang/String;"⟩ : MethodName) (head1 (Jvm.Cond.code (⟨"com/example/vigilant_gate/vigilantgate/PasswordPolicyAdmitsPinLaw", "build", "(ICCCC)Ljava/lang/String;"⟩ : MethodName) method_6_code 5 (some (.object "java/lang/String")) :: ws) ({ frames := 6, cells := 6, slots := 20, locals := 90 } : Room)) (fun a U => a = #[(.int p1), (.int p2), (.int p3), (.int p4), (.int p5)] ∧ Z.Warmed39 U.vm ∧ U.heap = h0 ∧ CHv Z consts_1 U.vm h0) (fun _ _ _ _ _ => True) (fun _ U o U' => ∃ v L, o = .returned v ∧ Q_build Z p1 p2 p3 p4 p5 zc h0 v U'.heap L ∧ CHr Z consts_1 U.vm U.heap U'.vm U'.heap ∧ ReturnedEndW U o U' L ({ frames := 6, cells := 6, slots := 20, locals := 90 } : Room).cells ({ frames := 6, cells := 6, slots := 20, locals := 90 } : Room).slots) := by
  refine MetFree.of_bodySF (plainFor_of_name pn_304) hisR ?_
  intro p e s m args below meth c s₁ Bd hml0 hP hK
  obtain ⟨rfl, hZ, hh, hC0⟩ := hP
  have hx := Bd.exec
  have hby := Bd.bytes
  have hml : c.maxLocals = 5 := hml0
  have hown : s.vm.findClass "com/example/vigilant_gate/vigilantgate/PasswordPolicyAdmitsPinLaw" = some m.cls := findClass_of_methodNamed Bd.named
  have hnm := (name_of_methodNamed Bd.named Bd.method).1
  have X0 : Stand p l e ({ frames := 6, cells := 6, slots := 20, locals := 90 } : Room) (s.setVm s.vm) m #[(.int p1), (.int p2), (.int p3), (.int p4), (.int p5)] below meth c s₁ [] 0 0 := Stand.of_body Bd
  have e0 : s₁.heap = h0 := by rw [← hh, Bd.state]; rfl
  have N0 := Fr.nil Z.heap.size
  have Z0 : Z.heap.size ≤ h0.size := OL.2.1
  have hS0 : s.Since s.vm h0.size := (State.WarmedH.refl s).since _
  have wS := own_wS hw
  have R0 : CHr Z consts_1 s.vm h0 s.vm h0 := CHr.refl hC0
  obtain ⟨PP, hPP⟩ : ∃ PP : Outcome → State → Prop, PP = (fun o tE => ∃ v L, o = .returned v ∧ Q_build Z p1 p2 p3 p4 p5 zc h0 v tE.heap L ∧ CHr Z consts_1 s.vm s.heap tE.vm tE.heap ∧ ReturnedEndW s o tE L ({ frames := 6, cells := 6, slots := 20, locals := 90 } : Room).cells ({ frames := 6, cells := 6, slots := 20, locals := 90 } : Room).slots) := ⟨_, rfl⟩
  show own_Go p.tables e below (fun o tE => ∃ v L, o = .returned v ∧ Q_build Z p1 p2 p3 p4 p5 zc h0 v tE.heap L ∧ CHr Z consts_1 s.vm s.heap tE.vm tE.heap ∧ ReturnedEndW s o tE L ({ frames := 6, cells := 6, slots := 20, locals := 90 } : Room).cells ({ frames := 6, cells := 6, slots := 20, locals := 90 } : Room).slots) (s₁.setTop (entryFrame m #[(.int p1), (.int p2), (.int p3), (.int p4), (.int p5)] 5))
  rw [← hPP]
  refine own_Go.st (fun t k => castTop (ef_377 m p1 p2 p3 p4 p5) k) ?_
  show own_Go _ _ _ _ (s₁.setTop (mkF m 0 #[.val (.int p1), .val (.int p2), .val (.int p3), .val (.int p4), .val (.int p5)] []))
  refine own_Go.st (fun _ k => XS.iloadN X0.here hx rfl (hb hby d_method_6_0) rfl k) ?_
  show own_Go _ _ _ _ (s₁.setTop (mkF m 1 #[.val (.int p1), .val (.int p2), .val (.int p3), .val (.int p4), .val (.int p5)] [(.int p1)]))
  by_cases hc307 : p1 = (0 : Int32)
  ·
    refine own_Go.st (fun _ k => XS.ifNo X0.here hx rfl (hb hby d_method_6_1) rfl ((if0 _ _).trans (teq hc307).2) k) ?_
    show own_Go _ _ _ _ (s₁.setTop (mkF m 4 #[.val (.int p1), .val (.int p2), .val (.int p3), .val (.int p4), .val (.int p5)] []))
    obtain ⟨T308, h308, X308, e308, E308, A308, D308, U308, st308⟩ := newO X0 hx hZ hown (hw _ (List.mem_of_getElem? (i := 10) rfl)) (hw _ (List.mem_of_getElem? (i := 11) rfl)) (hw _ (List.mem_of_getElem? (i := 12) rfl)) e0 (g := (mkF m 4 #[.val (.int p1), .val (.int p2), .val (.int p3), .val (.int p4), .val (.int p5)] [])) rfl (hb hby d_method_6_4) (by decide) (by decide)
    obtain ⟨b308, g308⟩ : ∃ z, z = h0.size := ⟨_, rfl⟩
    rw [← g308] at A308 D308 U308 st308
    refine own_Go.st st308 ?_
    have z308 : h0.size ≤ h308.size := E308.1
    have lt_b308 : @LT.lt Nat _ b308 h308.size := A308.lt
    have f309 : Fld Z h308 b308 "java/lang/String" "coder" "B" (.int (0 : Int32)) := D308 (Or.inr (hw _ (List.mem_of_getElem? (i := 56) rfl))) (ty := .byte) (by decide)
    have f310 : Fld Z h308 b308 "java/lang/String" "value" "[B" .null := D308 (Or.inr (hw _ (List.mem_of_getElem? (i := 58) rfl))) (ty := (.array .byte)) (by decide)
    have R308 : CHr Z consts_1 s.vm h0 s.vm h308 := R0.trans (CHr.ext E308 R0.1)
    have Sf308 : Safe Z consts_1 s.vm h308 b308 := (Safe.new (Nat.le_of_eq g308.symm)).ext E308 R0.1
    show own_Go _ _ _ _ (T308.setTop (mkF m 7 #[.val (.int p1), .val (.int p2), .val (.int p3), .val (.int p4), .val (.int p5)] [(.ref b308)]))
    refine own_Go.st (fun _ k => XS.dup X308.here hx rfl (hb hby d_method_6_7) rfl rfl k) ?_
    show own_Go _ _ _ _ (T308.setTop (mkF m 8 #[.val (.int p1), .val (.int p2), .val (.int p3), .val (.int p4), .val (.int p5)] [(.ref b308), (.ref b308)]))
    refine own_Go.st (fun _ k => XS.iconst X308.here hx rfl (hb hby d_method_6_8) k) ?_
    show own_Go _ _ _ _ (T308.setTop (mkF m 9 #[.val (.int p1), .val (.int p2), .val (.int p3), .val (.int p4), .val (.int p5)] [(.int (0 : Int32)), (.ref b308), (.ref b308)]))
    obtain ⟨T311, h311, k311, X311, e311, E311, A311, st311⟩ := newP X308 hx hZ (hw _ (List.mem_of_getElem? (i := 13) rfl)) e308 (g := (mkF m 9 #[.val (.int p1), .val (.int p2), .val (.int p3), .val (.int p4), .val (.int p5)] [(.int (0 : Int32)), (.ref b308), (.ref b308)])) rfl (hb hby d_method_6_9) rfl (by decide) (cap := 0) (by decide) (by decide) (by decide) (by decide)
    obtain ⟨b311, g311⟩ : ∃ z, z = h308.size := ⟨_, rfl⟩
    rw [← g311] at A311 st311
    refine own_Go.st st311 ?_
    have z311 : h308.size ≤ h311.size := E311.1
    have f312 : Arv Z h311 b311 k311 .char (0 : Int32) [] (.int (0 : Int32)) := (Arv.new A311 (by decide)).pad (pad_rep [] (.int (0 : Int32)) 0)
    have lt_b311 : @LT.lt Nat _ b311 h311.size := f312.lt
    have R311 : CHr Z consts_1 s.vm h0 s.vm h311 := R308.trans (CHr.ext E311 R308.1)
    have Sf313 : Safe Z consts_1 s.vm h311 b308 := Safe.ext E311 R308.1 Sf308
    show own_Go _ _ _ _ (T311.setTop (mkF m 11 #[.val (.int p1), .val (.int p2), .val (.int p3), .val (.int p4), .val (.int p5)] [(.ref b311), (.ref b308), (.ref b308)]))
    have f315 : Exa Z h311 b308 "java/lang/String" := A308.ext E311
    have f316 : Fld Z h311 b308 "java/lang/String" "value" "[B" .null := f310.ext E311
    have f317 : Fld Z h311 b308 "java/lang/String" "coder" "B" (.int (0 : Int32)) := f309.ext E311
    have f318 : Old Z Z.heap.size h308 := OL.ext E308
    have f319 : Old Z Z.heap.size h311 := f318.ext E311
    obtain ⟨_, _, ⟨T314, L314, k314, n314⟩, -, X314, hs314, hg314, ⟨Lc314, hQ314, l314, y314, z314, ch314⟩, st314⟩ := X311.specialBackS hx (y := (⟨"java/lang/String", "<init>", "([C)V"⟩ : MethodName)) rfl hown (mvT hZ (hw _ (List.mem_of_getElem? (i := 14) rfl))) (mvT hZ (hw _ (List.mem_of_getElem? (i := 15) rfl))) (mvT hZ (hw _ (List.mem_of_getElem? (i := 16) rfl))) (by decide) (backOfSH (s := s) (vm0 := s.vm) (W := 1) (rm_init1e l Z a0 hw [] b308 b311 k311 [] (.int (0 : Int32)) h311 hEL f319 f315 f316 f317 f312 (by omega)) hZ (hw _ (List.mem_of_getElem? (i := 16) rfl)) (hw _ (List.mem_of_getElem? (i := 12) rfl)) (by decide) (by decide) hEL R311.1) (g := (mkF m 11 #[.val (.int p1), .val (.int p2), .val (.int p3), .val (.int p4), .val (.int p5)] [(.ref b311), (.ref b308), (.ref b308)])) rfl (by rw [hml]; rfl) (Steps.refl _) (a := b308) (argsL := [(.ref b311)]) (rest := [(.ref b308)]) (lenOf pd_384 rfl) rfl (by show 2 * 0 + _ ≤ _; exact Nat.le_of_eq rfl) (hb hby d_method_6_11) (fun _ _ => ⟨rfl, e311, (by decide : 2 + 4 ≤ _), (by decide : 4 + 8 ≤ _)⟩)
    dsimp only [Pt.U, Pt.locs, Pt.cells, Pt.slots] at X314 l314 y314 z314 st314 hQ314 hs314 hg314 ch314
    subst l314 y314 z314
    obtain ⟨t_314, rfl, N314q, K314, f314_0⟩ := hQ314
    have N314 := Fr.app N0 N314q
    obtain ⟨Y314, hS314, hZ314, hown314⟩ := rebS hS0 (n1 := h311.size) (by omega) X314 hs314 (by have := hg314; first | exact this | (rw [← e311]; exact this)) hZ hown
    have z314 : h311.size ≤ T314.heap.size := K314.1
    have R314 : CHr Z consts_1 s.vm h0 T314.vm T314.heap := R311.trans ch314
    have Sf320 : Safe Z consts_1 T314.vm T314.heap b308 := ch314.safe (by show @LT.lt Nat _ b308 _; omega) Sf313
    have lt314_0 : @LT.lt Nat _ b308 T314.heap.size := f314_0.lt
    have ltv314_0 : @LT.lt Nat _ t_314 T314.heap.size := f314_0.ltv
    refine own_Go.tr st314 ?_
    show own_Go _ _ _ _ (T314.setTop (mkF m 14 #[.val (.int p1), .val (.int p2), .val (.int p3), .val (.int p4), .val (.int p5)] [(.ref b308)]))
    obtain ⟨fs321, hr321, hrun321, hend321, hret321⟩ := Y314.leaveW hS314 (by omega) (v := some (.ref b308)) (fun h => by rw [Bd.returns] at h; cases h)
    have K322 : Keep h0 h308 [] := (Keep.refl h0 []).ext E308
    have K323 : Keep h0 h311 [] := K322.ext E311
    have K324 : Keep h0 T314.heap [] := K323.trans K314 (allS (Or.inr (by omega)) all0)
    subst hPP
    refine ⟨_, _, own_retA Y314 hx Bd.returns rfl rfl (hb hby d_method_6_14) hr321, hrun321, hend321, _, _, rfl, ?_, ?_, hret321.1, hret321.2.1, hret321.2.2.1, hret321.2.2.2.mono (by decide) (by decide)⟩
    · show Q_build Z _ _ _ _ _ _ h0 _ T314.heap _
      exact ⟨b308, t_314, [], rfl, N314, K324, f314_0, (by unfold own_mk; rw [if_pos hc307])⟩
    · have hfin := R314.trans (CHv.at Y314 hZ314 hEL R314.1)
      rw [← hh] at hfin
      show CHr Z consts_1 s.vm s.heap T314.vm T314.heap
      exact hfin
  ·
    refine own_Go.st (fun _ k => XS.ifYes X0.here hx rfl (pc0 := 1) (pc' := 15) rfl (hb hby d_method_6_1) rfl ((if0 _ _).trans (feq hc307).2) (by decide) (by decide) k) ?_
    show own_Go _ _ _ _ (s₁.setTop (mkF m 15 #[.val (.int p1), .val (.int p2), .val (.int p3), .val (.int p4), .val (.int p5)] []))
    refine own_Go.st (fun _ k => XS.iloadN X0.here hx rfl (hb hby d_method_6_15) rfl k) ?_
    show own_Go _ _ _ _ (s₁.setTop (mkF m 16 #[.val (.int p1), .val (.int p2), .val (.int p3), .val (.int p4), .val (.int p5)] [(.int p1)]))
    refine own_Go.st (fun _ k => XS.iconst X0.here hx rfl (hb hby d_method_6_16) k) ?_
    show own_Go _ _ _ _ (s₁.setTop (mkF m 17 #[.val (.int p1), .val (.int p2), .val (.int p3), .val (.int p4), .val (.int p5)] [(.int (1 : Int32)), (.int p1)]))
    by_cases hc325 : p1 = (1 : Int32)
    ·
      refine own_Go.st (fun _ k => XS.icmpNo X0.here hx rfl (hb hby d_method_6_17) rfl (teq hc325).2 k) ?_
      show own_Go _ _ _ _ (s₁.setTop (mkF m 20 #[.val (.int p1), .val (.int p2), .val (.int p3), .val (.int p4), .val (.int p5)] []))
      obtain ⟨T326, h326, X326, e326, E326, A326, D326, U326, st326⟩ := newO X0 hx hZ hown (hw _ (List.mem_of_getElem? (i := 10) rfl)) (hw _ (List.mem_of_getElem? (i := 11) rfl)) (hw _ (List.mem_of_getElem? (i := 12) rfl)) e0 (g := (mkF m 20 #[.val (.int p1), .val (.int p2), .val (.int p3), .val (.int p4), .val (.int p5)] [])) rfl (hb hby d_method_6_20) (by decide) (by decide)
      obtain ⟨b326, g326⟩ : ∃ z, z = h0.size := ⟨_, rfl⟩
      rw [← g326] at A326 D326 U326 st326
      refine own_Go.st st326 ?_
      have z326 : h0.size ≤ h326.size := E326.1
      have lt_b326 : @LT.lt Nat _ b326 h326.size := A326.lt
      have f327 : Fld Z h326 b326 "java/lang/String" "coder" "B" (.int (0 : Int32)) := D326 (Or.inr (hw _ (List.mem_of_getElem? (i := 56) rfl))) (ty := .byte) (by decide)
      have f328 : Fld Z h326 b326 "java/lang/String" "value" "[B" .null := D326 (Or.inr (hw _ (List.mem_of_getElem? (i := 58) rfl))) (ty := (.array .byte)) (by decide)
      have R326 : CHr Z consts_1 s.vm h0 s.vm h326 := R0.trans (CHr.ext E326 R0.1)
      have Sf326 : Safe Z consts_1 s.vm h326 b326 := (Safe.new (Nat.le_of_eq g326.symm)).ext E326 R0.1
      show own_Go _ _ _ _ (T326.setTop (mkF m 23 #[.val (.int p1), .val (.int p2), .val (.int p3), .val (.int p4), .val (.int p5)] [(.ref b326)]))
      refine own_Go.st (fun _ k => XS.dup X326.here hx rfl (hb hby d_method_6_23) rfl rfl k) ?_
      show own_Go _ _ _ _ (T326.setTop (mkF m 24 #[.val (.int p1), .val (.int p2), .val (.int p3), .val (.int p4), .val (.int p5)] [(.ref b326), (.ref b326)]))
      refine own_Go.st (fun _ k => XS.iconst X326.here hx rfl (hb hby d_method_6_24) k) ?_
      show own_Go _ _ _ _ (T326.setTop (mkF m 25 #[.val (.int p1), .val (.int p2), .val (.int p3), .val (.int p4), .val (.int p5)] [(.int (1 : Int32)), (.ref b326), (.ref b326)]))
      obtain ⟨T329, h329, k329, X329, e329, E329, A329, st329⟩ := newP X326 hx hZ (hw _ (List.mem_of_getElem? (i := 13) rfl)) e326 (g := (mkF m 25 #[.val (.int p1), .val (.int p2), .val (.int p3), .val (.int p4), .val (.int p5)] [(.int (1 : Int32)), (.ref b326), (.ref b326)])) rfl (hb hby d_method_6_25) rfl (by decide) (cap := 1) (by decide) (by decide) (by decide) (by decide)
      obtain ⟨b329, g329⟩ : ∃ z, z = h326.size := ⟨_, rfl⟩
      rw [← g329] at A329 st329
      refine own_Go.st st329 ?_
      have z329 : h326.size ≤ h329.size := E329.1
      have f330 : Arv Z h329 b329 k329 .char (1 : Int32) [(.int (0 : Int32))] (.int (0 : Int32)) := (Arv.new A329 (by decide)).pad (pad_rep [] (.int (0 : Int32)) 1)
      have lt_b329 : @LT.lt Nat _ b329 h329.size := f330.lt
      have R329 : CHr Z consts_1 s.vm h0 s.vm h329 := R326.trans (CHr.ext E329 R326.1)
      have Sf331 : Safe Z consts_1 s.vm h329 b326 := Safe.ext E329 R326.1 Sf326
      show own_Go _ _ _ _ (T329.setTop (mkF m 27 #[.val (.int p1), .val (.int p2), .val (.int p3), .val (.int p4), .val (.int p5)] [(.ref b329), (.ref b326), (.ref b326)]))
      refine own_Go.st (fun _ k => XS.dup X329.here hx rfl (hb hby d_method_6_27) rfl rfl k) ?_
      show own_Go _ _ _ _ (T329.setTop (mkF m 28 #[.val (.int p1), .val (.int p2), .val (.int p3), .val (.int p4), .val (.int p5)] [(.ref b329), (.ref b329), (.ref b326), (.ref b326)]))
      refine own_Go.st (fun _ k => XS.iconst X329.here hx rfl (hb hby d_method_6_28) k) ?_
      show own_Go _ _ _ _ (T329.setTop (mkF m 29 #[.val (.int p1), .val (.int p2), .val (.int p3), .val (.int p4), .val (.int p5)] [(.int (0 : Int32)), (.ref b329), (.ref b329), (.ref b326), (.ref b326)]))
      refine own_Go.st (fun _ k => XS.iloadN X329.here hx rfl (hb hby d_method_6_29) rfl k) ?_
      show own_Go _ _ _ _ (T329.setTop (mkF m 30 #[.val (.int p1), .val (.int p2), .val (.int p3), .val (.int p4), .val (.int p5)] [(.int p2), (.int (0 : Int32)), (.ref b329), (.ref b329), (.ref b326), (.ref b326)]))
      obtain ⟨c332, Ar332, q332, S332, Nn332, H332, G332⟩ := id f330
      have hin332 : ¬ ((0 : Int32) < 0 ∨ c332.slots.size ≤ ((0 : Int32)).toNatClampNeg) := inb_of S332 ⟨by decide, by decide⟩
      obtain ⟨T332, h332, X332, e332, W332, st332⟩ := stC X329 hx hZ e329 Ar332 (j := (0 : Int32)) hin332 (g := (mkF m 30 #[.val (.int p1), .val (.int p2), .val (.int p3), .val (.int p4), .val (.int p5)] [(.int p2), (.int (0 : Int32)), (.ref b329), (.ref b329), (.ref b326), (.ref b326)])) rfl rfl (hb hby d_method_6_30)
      refine own_Go.st st332 ?_
      have N332 := Fr.snoc X332 N0 (by omega)
      have Sf334 : Safe Z consts_1 s.vm h329 b329 := Safe.arv hZ.alike f330 (by decide)
      have z332 : h329.size ≤ h332.size := Nat.le_of_eq W332.size.symm
      have f333 := Arv.set Ar332 q332 S332 Nn332 H332 G332 (fits_nar_char _) W332 0 rfl (Nat.le_of_ble_eq_true rfl)
      rw [own_nar hp2] at f333
      have f335 : Arv Z h332 b329 k329 .char (1 : Int32) [(.int p2)] (.int (0 : Int32)) := f333
      have R332 : CHr Z consts_1 s.vm h0 s.vm h332 := R329.trans (CHr.wr W332 Sf334 R329.1)
      have Sf336 : Safe Z consts_1 s.vm h332 b326 := Safe.wr W332 Sf334 R329.1 Sf331
      show own_Go _ _ _ _ (T332.setTop (mkF m 31 #[.val (.int p1), .val (.int p2), .val (.int p3), .val (.int p4), .val (.int p5)] [(.ref b329), (.ref b326), (.ref b326)]))
      have f338 : Exa Z h329 b326 "java/lang/String" := A326.ext E329
      have f339 : Exa Z h332 b326 "java/lang/String" := f338.wr W332
      have f340 : Fld Z h329 b326 "java/lang/String" "value" "[B" .null := f328.ext E329
      have f341 : Fld Z h332 b326 "java/lang/String" "value" "[B" .null := f340.other W332 (Or.inl (by show @Ne Nat b326 b329; omega))
      have f342 : Fld Z h329 b326 "java/lang/String" "coder" "B" (.int (0 : Int32)) := f327.ext E329
      have f343 : Fld Z h332 b326 "java/lang/String" "coder" "B" (.int (0 : Int32)) := f342.other W332 (Or.inl (by show @Ne Nat b326 b329; omega))
      have f344 : Old Z Z.heap.size h326 := OL.ext E326
      have f345 : Old Z Z.heap.size h329 := f344.ext E329
      have f346 : Old Z Z.heap.size h332 := f345.wr W332 (by omega)
      obtain ⟨_, _, ⟨T337, L337, k337, n337⟩, -, X337, ⟨Lc337, hQ337, l337, y337, z337⟩, st337⟩ := X332.specialBack hx (y := (⟨"java/lang/String", "<init>", "([C)V"⟩ : MethodName)) rfl hown (mvT hZ (hw _ (List.mem_of_getElem? (i := 14) rfl))) (mvT hZ (hw _ (List.mem_of_getElem? (i := 15) rfl))) (mvT hZ (hw _ (List.mem_of_getElem? (i := 16) rfl))) (by decide) (own_backStr (W := 1) (cs := [p2]) hZ hw f346 f339 f341 f343 f335 st_COMPACT_STRINGS st__assertionsDisabled st_HI_BYTE_SHIFT st_LO_BYTE_SHIFT rfl (Nat.le_of_ble_eq_true rfl) (Nat.le_of_ble_eq_true rfl) (own_aS hp2 own_a0) (by omega) (by first | assumption | decide) (by decide) (by decide)) (g := (mkF m 31 #[.val (.int p1), .val (.int p2), .val (.int p3), .val (.int p4), .val (.int p5)] [(.ref b329), (.ref b326), (.ref b326)])) rfl (by rw [hml]; rfl) (Steps.refl _) (a := b326) (argsL := [(.ref b329)]) (rest := [(.ref b326)]) (lenOf pd_384 rfl) rfl (by show 2 * 0 + _ ≤ _; exact Nat.le_of_eq rfl) (hb hby d_method_6_31) (fun _ _ => ⟨rfl, e332, (by decide : 2 + 2 ≤ _), (by decide : 5 + 12 ≤ _)⟩)
      dsimp only [Pt.U, Pt.locs, Pt.cells, Pt.slots] at X337 l337 y337 z337 st337 hQ337
      subst l337 y337 z337
      obtain ⟨t_337, rfl, N337q, K337, f337_0, pr337_0⟩ := hQ337
      have N337 := Fr.app N332 N337q
      have z337 : h332.size ≤ T337.heap.size := K337.1
      have R337 : CHr Z consts_1 s.vm h0 s.vm T337.heap := R332.trans (CHr.keep K337 (sfS Sf336 sf0) R332.1)
      have Sf347 : Safe Z consts_1 s.vm T337.heap b326 := Safe.keep K337 (sfS Sf336 sf0) R332.1 Sf336
      have lt337_0 : @LT.lt Nat _ b326 T337.heap.size := f337_0.lt
      have ltv337_0 : @LT.lt Nat _ t_337 T337.heap.size := f337_0.ltv
      refine own_Go.tr st337 ?_
      show own_Go _ _ _ _ (T337.setTop (mkF m 34 #[.val (.int p1), .val (.int p2), .val (.int p3), .val (.int p4), .val (.int p5)] [(.ref b326)]))
      obtain ⟨fs348, hr348, hrun348, hend348, hret348⟩ := X337.leaveW hS0 (by omega) (v := some (.ref b326)) (fun h => by rw [Bd.returns] at h; cases h)
      have K349 : Keep h0 h326 [] := (Keep.refl h0 []).ext E326
      have K350 : Keep h0 h329 [] := K349.ext E329
      have K351 : Keep h0 h332 [] := K350.wr W332 (Or.inr (by omega))
      have K352 : Keep h0 T337.heap [] := K351.trans K337 (allS (Or.inr (by omega)) all0)
      subst hPP
      refine ⟨_, _, own_retA X337 hx Bd.returns rfl rfl (hb hby d_method_6_34) hr348, hrun348, hend348, _, _, rfl, ?_, ?_, hret348.1, hret348.2.1, hret348.2.2.1, hret348.2.2.2.mono (by decide) (by decide)⟩
      · show Q_build Z _ _ _ _ _ _ h0 _ T337.heap _
        exact ⟨b326, t_337, [p2], rfl, N337, K352, f337_0, (by unfold own_mk; rw [if_neg hc307, if_pos hc325])⟩
      · have hfin := R337.trans (CHv.at X337 hZ hEL R337.1)
        rw [← hh] at hfin
        show CHr Z consts_1 s.vm s.heap T337.vm T337.heap
        exact hfin
    ·
      refine own_Go.st (fun _ k => XS.icmpYes X0.here hx rfl (pc0 := 17) (pc' := 35) rfl (hb hby d_method_6_17) rfl (feq hc325).2 (by decide) (by decide) k) ?_
      show own_Go _ _ _ _ (s₁.setTop (mkF m 35 #[.val (.int p1), .val (.int p2), .val (.int p3), .val (.int p4), .val (.int p5)] []))
      refine own_Go.st (fun _ k => XS.iloadN X0.here hx rfl (hb hby d_method_6_35) rfl k) ?_
      show own_Go _ _ _ _ (s₁.setTop (mkF m 36 #[.val (.int p1), .val (.int p2), .val (.int p3), .val (.int p4), .val (.int p5)] [(.int p1)]))
      refine own_Go.st (fun _ k => XS.iconst X0.here hx rfl (hb hby d_method_6_36) k) ?_
      show own_Go _ _ _ _ (s₁.setTop (mkF m 37 #[.val (.int p1), .val (.int p2), .val (.int p3), .val (.int p4), .val (.int p5)] [(.int (2 : Int32)), (.int p1)]))
      by_cases hc353 : p1 = (2 : Int32)
      ·
        refine own_Go.st (fun _ k => XS.icmpNo X0.here hx rfl (hb hby d_method_6_37) rfl (teq hc353).2 k) ?_
        show own_Go _ _ _ _ (s₁.setTop (mkF m 40 #[.val (.int p1), .val (.int p2), .val (.int p3), .val (.int p4), .val (.int p5)] []))
        obtain ⟨T354, h354, X354, e354, E354, A354, D354, U354, st354⟩ := newO X0 hx hZ hown (hw _ (List.mem_of_getElem? (i := 10) rfl)) (hw _ (List.mem_of_getElem? (i := 11) rfl)) (hw _ (List.mem_of_getElem? (i := 12) rfl)) e0 (g := (mkF m 40 #[.val (.int p1), .val (.int p2), .val (.int p3), .val (.int p4), .val (.int p5)] [])) rfl (hb hby d_method_6_40) (by decide) (by decide)
        obtain ⟨b354, g354⟩ : ∃ z, z = h0.size := ⟨_, rfl⟩
        rw [← g354] at A354 D354 U354 st354
        refine own_Go.st st354 ?_
        have z354 : h0.size ≤ h354.size := E354.1
        have lt_b354 : @LT.lt Nat _ b354 h354.size := A354.lt
        have f355 : Fld Z h354 b354 "java/lang/String" "coder" "B" (.int (0 : Int32)) := D354 (Or.inr (hw _ (List.mem_of_getElem? (i := 56) rfl))) (ty := .byte) (by decide)
        have f356 : Fld Z h354 b354 "java/lang/String" "value" "[B" .null := D354 (Or.inr (hw _ (List.mem_of_getElem? (i := 58) rfl))) (ty := (.array .byte)) (by decide)
        have R354 : CHr Z consts_1 s.vm h0 s.vm h354 := R0.trans (CHr.ext E354 R0.1)
        have Sf354 : Safe Z consts_1 s.vm h354 b354 := (Safe.new (Nat.le_of_eq g354.symm)).ext E354 R0.1
        show own_Go _ _ _ _ (T354.setTop (mkF m 43 #[.val (.int p1), .val (.int p2), .val (.int p3), .val (.int p4), .val (.int p5)] [(.ref b354)]))
        refine own_Go.st (fun _ k => XS.dup X354.here hx rfl (hb hby d_method_6_43) rfl rfl k) ?_
        show own_Go _ _ _ _ (T354.setTop (mkF m 44 #[.val (.int p1), .val (.int p2), .val (.int p3), .val (.int p4), .val (.int p5)] [(.ref b354), (.ref b354)]))
        refine own_Go.st (fun _ k => XS.iconst X354.here hx rfl (hb hby d_method_6_44) k) ?_
        show own_Go _ _ _ _ (T354.setTop (mkF m 45 #[.val (.int p1), .val (.int p2), .val (.int p3), .val (.int p4), .val (.int p5)] [(.int (2 : Int32)), (.ref b354), (.ref b354)]))
        obtain ⟨T357, h357, k357, X357, e357, E357, A357, st357⟩ := newP X354 hx hZ (hw _ (List.mem_of_getElem? (i := 13) rfl)) e354 (g := (mkF m 45 #[.val (.int p1), .val (.int p2), .val (.int p3), .val (.int p4), .val (.int p5)] [(.int (2 : Int32)), (.ref b354), (.ref b354)])) rfl (hb hby d_method_6_45) rfl (by decide) (cap := 2) (by decide) (by decide) (by decide) (by decide)
        obtain ⟨b357, g357⟩ : ∃ z, z = h354.size := ⟨_, rfl⟩
        rw [← g357] at A357 st357
        refine own_Go.st st357 ?_
        have z357 : h354.size ≤ h357.size := E357.1
        have f358 : Arv Z h357 b357 k357 .char (2 : Int32) [(.int (0 : Int32)), (.int (0 : Int32))] (.int (0 : Int32)) := (Arv.new A357 (by decide)).pad (pad_rep [] (.int (0 : Int32)) 2)
        have lt_b357 : @LT.lt Nat _ b357 h357.size := f358.lt
        have R357 : CHr Z consts_1 s.vm h0 s.vm h357 := R354.trans (CHr.ext E357 R354.1)
        have Sf359 : Safe Z consts_1 s.vm h357 b354 := Safe.ext E357 R354.1 Sf354
        show own_Go _ _ _ _ (T357.setTop (mkF m 47 #[.val (.int p1), .val (.int p2), .val (.int p3), .val (.int p4), .val (.int p5)] [(.ref b357), (.ref b354), (.ref b354)]))
        refine own_Go.st (fun _ k => XS.dup X357.here hx rfl (hb hby d_method_6_47) rfl rfl k) ?_
        show own_Go _ _ _ _ (T357.setTop (mkF m 48 #[.val (.int p1), .val (.int p2), .val (.int p3), .val (.int p4), .val (.int p5)] [(.ref b357), (.ref b357), (.ref b354), (.ref b354)]))
        refine own_Go.st (fun _ k => XS.iconst X357.here hx rfl (hb hby d_method_6_48) k) ?_
        show own_Go _ _ _ _ (T357.setTop (mkF m 49 #[.val (.int p1), .val (.int p2), .val (.int p3), .val (.int p4), .val (.int p5)] [(.int (0 : Int32)), (.ref b357), (.ref b357), (.ref b354), (.ref b354)]))
        refine own_Go.st (fun _ k => XS.iloadN X357.here hx rfl (hb hby d_method_6_49) rfl k) ?_
        show own_Go _ _ _ _ (T357.setTop (mkF m 50 #[.val (.int p1), .val (.int p2), .val (.int p3), .val (.int p4), .val (.int p5)] [(.int p2), (.int (0 : Int32)), (.ref b357), (.ref b357), (.ref b354), (.ref b354)]))
        obtain ⟨c360, Ar360, q360, S360, Nn360, H360, G360⟩ := id f358
        have hin360 : ¬ ((0 : Int32) < 0 ∨ c360.slots.size ≤ ((0 : Int32)).toNatClampNeg) := inb_of S360 ⟨by decide, by decide⟩
        obtain ⟨T360, h360, X360, e360, W360, st360⟩ := stC X357 hx hZ e357 Ar360 (j := (0 : Int32)) hin360 (g := (mkF m 50 #[.val (.int p1), .val (.int p2), .val (.int p3), .val (.int p4), .val (.int p5)] [(.int p2), (.int (0 : Int32)), (.ref b357), (.ref b357), (.ref b354), (.ref b354)])) rfl rfl (hb hby d_method_6_50)
        refine own_Go.st st360 ?_
        have N360 := Fr.snoc X360 N0 (by omega)
        have Sf362 : Safe Z consts_1 s.vm h357 b357 := Safe.arv hZ.alike f358 (by decide)
        have z360 : h357.size ≤ h360.size := Nat.le_of_eq W360.size.symm
        have f361 := Arv.set Ar360 q360 S360 Nn360 H360 G360 (fits_nar_char _) W360 0 rfl (Nat.le_of_ble_eq_true rfl)
        rw [own_nar hp2] at f361
        have f363 : Arv Z h360 b357 k357 .char (2 : Int32) [(.int p2), (.int (0 : Int32))] (.int (0 : Int32)) := f361
        have R360 : CHr Z consts_1 s.vm h0 s.vm h360 := R357.trans (CHr.wr W360 Sf362 R357.1)
        have Sf364 : Safe Z consts_1 s.vm h360 b354 := Safe.wr W360 Sf362 R357.1 Sf359
        show own_Go _ _ _ _ (T360.setTop (mkF m 51 #[.val (.int p1), .val (.int p2), .val (.int p3), .val (.int p4), .val (.int p5)] [(.ref b357), (.ref b354), (.ref b354)]))
        refine own_Go.st (fun _ k => XS.dup X360.here hx rfl (hb hby d_method_6_51) rfl rfl k) ?_
        show own_Go _ _ _ _ (T360.setTop (mkF m 52 #[.val (.int p1), .val (.int p2), .val (.int p3), .val (.int p4), .val (.int p5)] [(.ref b357), (.ref b357), (.ref b354), (.ref b354)]))
        refine own_Go.st (fun _ k => XS.iconst X360.here hx rfl (hb hby d_method_6_52) k) ?_
        show own_Go _ _ _ _ (T360.setTop (mkF m 53 #[.val (.int p1), .val (.int p2), .val (.int p3), .val (.int p4), .val (.int p5)] [(.int (1 : Int32)), (.ref b357), (.ref b357), (.ref b354), (.ref b354)]))
        refine own_Go.st (fun _ k => XS.iloadN X360.here hx rfl (hb hby d_method_6_53) rfl k) ?_
        show own_Go _ _ _ _ (T360.setTop (mkF m 54 #[.val (.int p1), .val (.int p2), .val (.int p3), .val (.int p4), .val (.int p5)] [(.int p3), (.int (1 : Int32)), (.ref b357), (.ref b357), (.ref b354), (.ref b354)]))
        obtain ⟨c365, Ar365, q365, S365, Nn365, H365, G365⟩ := id f363
        have hin365 : ¬ ((1 : Int32) < 0 ∨ c365.slots.size ≤ ((1 : Int32)).toNatClampNeg) := inb_of S365 ⟨by decide, by decide⟩
        obtain ⟨T365, h365, X365, e365, W365, st365⟩ := stC X360 hx hZ e360 Ar365 (j := (1 : Int32)) hin365 (g := (mkF m 54 #[.val (.int p1), .val (.int p2), .val (.int p3), .val (.int p4), .val (.int p5)] [(.int p3), (.int (1 : Int32)), (.ref b357), (.ref b357), (.ref b354), (.ref b354)])) rfl rfl (hb hby d_method_6_54)
        refine own_Go.st st365 ?_
        have N365 := Fr.snoc X365 N360 (by omega)
        have Sf367 : Safe Z consts_1 s.vm h360 b357 := Safe.arv hZ.alike f363 (by decide)
        have z365 : h360.size ≤ h365.size := Nat.le_of_eq W365.size.symm
        have f366 := Arv.set Ar365 q365 S365 Nn365 H365 G365 (fits_nar_char _) W365 1 rfl (Nat.le_of_ble_eq_true rfl)
        rw [own_nar hp3] at f366
        have f368 : Arv Z h365 b357 k357 .char (2 : Int32) [(.int p2), (.int p3)] (.int (0 : Int32)) := f366
        have R365 : CHr Z consts_1 s.vm h0 s.vm h365 := R360.trans (CHr.wr W365 Sf367 R360.1)
        have Sf369 : Safe Z consts_1 s.vm h365 b354 := Safe.wr W365 Sf367 R360.1 Sf364
        show own_Go _ _ _ _ (T365.setTop (mkF m 55 #[.val (.int p1), .val (.int p2), .val (.int p3), .val (.int p4), .val (.int p5)] [(.ref b357), (.ref b354), (.ref b354)]))
        have f371 : Exa Z h357 b354 "java/lang/String" := A354.ext E357
        have f372 : Exa Z h360 b354 "java/lang/String" := f371.wr W360
        have f373 : Exa Z h365 b354 "java/lang/String" := f372.wr W365
        have f374 : Fld Z h357 b354 "java/lang/String" "value" "[B" .null := f356.ext E357
        have f375 : Fld Z h360 b354 "java/lang/String" "value" "[B" .null := f374.other W360 (Or.inl (by show @Ne Nat b354 b357; omega))
        have f376 : Fld Z h365 b354 "java/lang/String" "value" "[B" .null := f375.other W365 (Or.inl (by show @Ne Nat b354 b357; omega))
        have f377 : Fld Z h357 b354 "java/lang/String" "coder" "B" (.int (0 : Int32)) := f355.ext E357
        have f378 : Fld Z h360 b354 "java/lang/String" "coder" "B" (.int (0 : Int32)) := f377.other W360 (Or.inl (by show @Ne Nat b354 b357; omega))
        have f379 : Fld Z h365 b354 "java/lang/String" "coder" "B" (.int (0 : Int32)) := f378.other W365 (Or.inl (by show @Ne Nat b354 b357; omega))
        have f380 : Old Z Z.heap.size h354 := OL.ext E354
        have f381 : Old Z Z.heap.size h357 := f380.ext E357
        have f382 : Old Z Z.heap.size h360 := f381.wr W360 (by omega)
        have f383 : Old Z Z.heap.size h365 := f382.wr W365 (by omega)
        obtain ⟨_, _, ⟨T370, L370, k370, n370⟩, -, X370, ⟨Lc370, hQ370, l370, y370, z370⟩, st370⟩ := X365.specialBack hx (y := (⟨"java/lang/String", "<init>", "([C)V"⟩ : MethodName)) rfl hown (mvT hZ (hw _ (List.mem_of_getElem? (i := 14) rfl))) (mvT hZ (hw _ (List.mem_of_getElem? (i := 15) rfl))) (mvT hZ (hw _ (List.mem_of_getElem? (i := 16) rfl))) (by decide) (own_backStr (W := 1) (cs := [p2, p3]) hZ hw f383 f373 f376 f379 f368 st_COMPACT_STRINGS st__assertionsDisabled st_HI_BYTE_SHIFT st_LO_BYTE_SHIFT rfl (Nat.le_of_ble_eq_true rfl) (Nat.le_of_ble_eq_true rfl) (own_aS hp2 (own_aS hp3 own_a0)) (by omega) (by first | assumption | decide) (by decide) (by decide)) (g := (mkF m 55 #[.val (.int p1), .val (.int p2), .val (.int p3), .val (.int p4), .val (.int p5)] [(.ref b357), (.ref b354), (.ref b354)])) rfl (by rw [hml]; rfl) (Steps.refl _) (a := b354) (argsL := [(.ref b357)]) (rest := [(.ref b354)]) (lenOf pd_384 rfl) rfl (by show 2 * 0 + _ ≤ _; exact Nat.le_of_eq rfl) (hb hby d_method_6_55) (fun _ _ => ⟨rfl, e365, (by decide : 2 + 2 ≤ _), (by decide : 6 + 12 ≤ _)⟩)
        dsimp only [Pt.U, Pt.locs, Pt.cells, Pt.slots] at X370 l370 y370 z370 st370 hQ370
        subst l370 y370 z370
        obtain ⟨t_370, rfl, N370q, K370, f370_0, pr370_0⟩ := hQ370
        have N370 := Fr.app N365 N370q
        have z370 : h365.size ≤ T370.heap.size := K370.1
        have R370 : CHr Z consts_1 s.vm h0 s.vm T370.heap := R365.trans (CHr.keep K370 (sfS Sf369 sf0) R365.1)
        have Sf384 : Safe Z consts_1 s.vm T370.heap b354 := Safe.keep K370 (sfS Sf369 sf0) R365.1 Sf369
        have lt370_0 : @LT.lt Nat _ b354 T370.heap.size := f370_0.lt
        have ltv370_0 : @LT.lt Nat _ t_370 T370.heap.size := f370_0.ltv
        refine own_Go.tr st370 ?_
        show own_Go _ _ _ _ (T370.setTop (mkF m 58 #[.val (.int p1), .val (.int p2), .val (.int p3), .val (.int p4), .val (.int p5)] [(.ref b354)]))
        obtain ⟨fs385, hr385, hrun385, hend385, hret385⟩ := X370.leaveW hS0 (by omega) (v := some (.ref b354)) (fun h => by rw [Bd.returns] at h; cases h)
        have K386 : Keep h0 h354 [] := (Keep.refl h0 []).ext E354
        have K387 : Keep h0 h357 [] := K386.ext E357
        have K388 : Keep h0 h360 [] := K387.wr W360 (Or.inr (by omega))
        have K389 : Keep h0 h365 [] := K388.wr W365 (Or.inr (by omega))
        have K390 : Keep h0 T370.heap [] := K389.trans K370 (allS (Or.inr (by omega)) all0)
        subst hPP
        refine ⟨_, _, own_retA X370 hx Bd.returns rfl rfl (hb hby d_method_6_58) hr385, hrun385, hend385, _, _, rfl, ?_, ?_, hret385.1, hret385.2.1, hret385.2.2.1, hret385.2.2.2.mono (by decide) (by decide)⟩
        · show Q_build Z _ _ _ _ _ _ h0 _ T370.heap _
          exact ⟨b354, t_370, [p2, p3], rfl, N370, K390, f370_0, (by unfold own_mk; rw [if_neg hc307, if_neg hc325, if_pos hc353])⟩
        · have hfin := R370.trans (CHv.at X370 hZ hEL R370.1)
          rw [← hh] at hfin
          show CHr Z consts_1 s.vm s.heap T370.vm T370.heap
          exact hfin
      ·
        refine own_Go.st (fun _ k => XS.icmpYes X0.here hx rfl (pc0 := 37) (pc' := 59) rfl (hb hby d_method_6_37) rfl (feq hc353).2 (by decide) (by decide) k) ?_
        show own_Go _ _ _ _ (s₁.setTop (mkF m 59 #[.val (.int p1), .val (.int p2), .val (.int p3), .val (.int p4), .val (.int p5)] []))
        refine own_Go.st (fun _ k => XS.iloadN X0.here hx rfl (hb hby d_method_6_59) rfl k) ?_
        show own_Go _ _ _ _ (s₁.setTop (mkF m 60 #[.val (.int p1), .val (.int p2), .val (.int p3), .val (.int p4), .val (.int p5)] [(.int p1)]))
        refine own_Go.st (fun _ k => XS.iconst X0.here hx rfl (hb hby d_method_6_60) k) ?_
        show own_Go _ _ _ _ (s₁.setTop (mkF m 61 #[.val (.int p1), .val (.int p2), .val (.int p3), .val (.int p4), .val (.int p5)] [(.int (3 : Int32)), (.int p1)]))
        by_cases hc391 : p1 = (3 : Int32)
        ·
          refine own_Go.st (fun _ k => XS.icmpNo X0.here hx rfl (hb hby d_method_6_61) rfl (teq hc391).2 k) ?_
          show own_Go _ _ _ _ (s₁.setTop (mkF m 64 #[.val (.int p1), .val (.int p2), .val (.int p3), .val (.int p4), .val (.int p5)] []))
          obtain ⟨T392, h392, X392, e392, E392, A392, D392, U392, st392⟩ := newO X0 hx hZ hown (hw _ (List.mem_of_getElem? (i := 10) rfl)) (hw _ (List.mem_of_getElem? (i := 11) rfl)) (hw _ (List.mem_of_getElem? (i := 12) rfl)) e0 (g := (mkF m 64 #[.val (.int p1), .val (.int p2), .val (.int p3), .val (.int p4), .val (.int p5)] [])) rfl (hb hby d_method_6_64) (by decide) (by decide)
          obtain ⟨b392, g392⟩ : ∃ z, z = h0.size := ⟨_, rfl⟩
          rw [← g392] at A392 D392 U392 st392
          refine own_Go.st st392 ?_
          have z392 : h0.size ≤ h392.size := E392.1
          have lt_b392 : @LT.lt Nat _ b392 h392.size := A392.lt
          have f393 : Fld Z h392 b392 "java/lang/String" "coder" "B" (.int (0 : Int32)) := D392 (Or.inr (hw _ (List.mem_of_getElem? (i := 56) rfl))) (ty := .byte) (by decide)
          have f394 : Fld Z h392 b392 "java/lang/String" "value" "[B" .null := D392 (Or.inr (hw _ (List.mem_of_getElem? (i := 58) rfl))) (ty := (.array .byte)) (by decide)
          have R392 : CHr Z consts_1 s.vm h0 s.vm h392 := R0.trans (CHr.ext E392 R0.1)
          have Sf392 : Safe Z consts_1 s.vm h392 b392 := (Safe.new (Nat.le_of_eq g392.symm)).ext E392 R0.1
          show own_Go _ _ _ _ (T392.setTop (mkF m 67 #[.val (.int p1), .val (.int p2), .val (.int p3), .val (.int p4), .val (.int p5)] [(.ref b392)]))
          refine own_Go.st (fun _ k => XS.dup X392.here hx rfl (hb hby d_method_6_67) rfl rfl k) ?_
          show own_Go _ _ _ _ (T392.setTop (mkF m 68 #[.val (.int p1), .val (.int p2), .val (.int p3), .val (.int p4), .val (.int p5)] [(.ref b392), (.ref b392)]))
          refine own_Go.st (fun _ k => XS.iconst X392.here hx rfl (hb hby d_method_6_68) k) ?_
          show own_Go _ _ _ _ (T392.setTop (mkF m 69 #[.val (.int p1), .val (.int p2), .val (.int p3), .val (.int p4), .val (.int p5)] [(.int (3 : Int32)), (.ref b392), (.ref b392)]))
          obtain ⟨T395, h395, k395, X395, e395, E395, A395, st395⟩ := newP X392 hx hZ (hw _ (List.mem_of_getElem? (i := 13) rfl)) e392 (g := (mkF m 69 #[.val (.int p1), .val (.int p2), .val (.int p3), .val (.int p4), .val (.int p5)] [(.int (3 : Int32)), (.ref b392), (.ref b392)])) rfl (hb hby d_method_6_69) rfl (by decide) (cap := 3) (by decide) (by decide) (by decide) (by decide)
          obtain ⟨b395, g395⟩ : ∃ z, z = h392.size := ⟨_, rfl⟩
          rw [← g395] at A395 st395
          refine own_Go.st st395 ?_
          have z395 : h392.size ≤ h395.size := E395.1
          have f396 : Arv Z h395 b395 k395 .char (3 : Int32) [(.int (0 : Int32)), (.int (0 : Int32)), (.int (0 : Int32))] (.int (0 : Int32)) := (Arv.new A395 (by decide)).pad (pad_rep [] (.int (0 : Int32)) 3)
          have lt_b395 : @LT.lt Nat _ b395 h395.size := f396.lt
          have R395 : CHr Z consts_1 s.vm h0 s.vm h395 := R392.trans (CHr.ext E395 R392.1)
          have Sf397 : Safe Z consts_1 s.vm h395 b392 := Safe.ext E395 R392.1 Sf392
          show own_Go _ _ _ _ (T395.setTop (mkF m 71 #[.val (.int p1), .val (.int p2), .val (.int p3), .val (.int p4), .val (.int p5)] [(.ref b395), (.ref b392), (.ref b392)]))
          refine own_Go.st (fun _ k => XS.dup X395.here hx rfl (hb hby d_method_6_71) rfl rfl k) ?_
          show own_Go _ _ _ _ (T395.setTop (mkF m 72 #[.val (.int p1), .val (.int p2), .val (.int p3), .val (.int p4), .val (.int p5)] [(.ref b395), (.ref b395), (.ref b392), (.ref b392)]))
          refine own_Go.st (fun _ k => XS.iconst X395.here hx rfl (hb hby d_method_6_72) k) ?_
          show own_Go _ _ _ _ (T395.setTop (mkF m 73 #[.val (.int p1), .val (.int p2), .val (.int p3), .val (.int p4), .val (.int p5)] [(.int (0 : Int32)), (.ref b395), (.ref b395), (.ref b392), (.ref b392)]))
          refine own_Go.st (fun _ k => XS.iloadN X395.here hx rfl (hb hby d_method_6_73) rfl k) ?_
          show own_Go _ _ _ _ (T395.setTop (mkF m 74 #[.val (.int p1), .val (.int p2), .val (.int p3), .val (.int p4), .val (.int p5)] [(.int p2), (.int (0 : Int32)), (.ref b395), (.ref b395), (.ref b392), (.ref b392)]))
          obtain ⟨c398, Ar398, q398, S398, Nn398, H398, G398⟩ := id f396
          have hin398 : ¬ ((0 : Int32) < 0 ∨ c398.slots.size ≤ ((0 : Int32)).toNatClampNeg) := inb_of S398 ⟨by decide, by decide⟩
          obtain ⟨T398, h398, X398, e398, W398, st398⟩ := stC X395 hx hZ e395 Ar398 (j := (0 : Int32)) hin398 (g := (mkF m 74 #[.val (.int p1), .val (.int p2), .val (.int p3), .val (.int p4), .val (.int p5)] [(.int p2), (.int (0 : Int32)), (.ref b395), (.ref b395), (.ref b392), (.ref b392)])) rfl rfl (hb hby d_method_6_74)
          refine own_Go.st st398 ?_
          have N398 := Fr.snoc X398 N0 (by omega)
          have Sf400 : Safe Z consts_1 s.vm h395 b395 := Safe.arv hZ.alike f396 (by decide)
          have z398 : h395.size ≤ h398.size := Nat.le_of_eq W398.size.symm
          have f399 := Arv.set Ar398 q398 S398 Nn398 H398 G398 (fits_nar_char _) W398 0 rfl (Nat.le_of_ble_eq_true rfl)
          rw [own_nar hp2] at f399
          have f401 : Arv Z h398 b395 k395 .char (3 : Int32) [(.int p2), (.int (0 : Int32)), (.int (0 : Int32))] (.int (0 : Int32)) := f399
          have R398 : CHr Z consts_1 s.vm h0 s.vm h398 := R395.trans (CHr.wr W398 Sf400 R395.1)
          have Sf402 : Safe Z consts_1 s.vm h398 b392 := Safe.wr W398 Sf400 R395.1 Sf397
          show own_Go _ _ _ _ (T398.setTop (mkF m 75 #[.val (.int p1), .val (.int p2), .val (.int p3), .val (.int p4), .val (.int p5)] [(.ref b395), (.ref b392), (.ref b392)]))
          refine own_Go.st (fun _ k => XS.dup X398.here hx rfl (hb hby d_method_6_75) rfl rfl k) ?_
          show own_Go _ _ _ _ (T398.setTop (mkF m 76 #[.val (.int p1), .val (.int p2), .val (.int p3), .val (.int p4), .val (.int p5)] [(.ref b395), (.ref b395), (.ref b392), (.ref b392)]))
          refine own_Go.st (fun _ k => XS.iconst X398.here hx rfl (hb hby d_method_6_76) k) ?_
          show own_Go _ _ _ _ (T398.setTop (mkF m 77 #[.val (.int p1), .val (.int p2), .val (.int p3), .val (.int p4), .val (.int p5)] [(.int (1 : Int32)), (.ref b395), (.ref b395), (.ref b392), (.ref b392)]))
          refine own_Go.st (fun _ k => XS.iloadN X398.here hx rfl (hb hby d_method_6_77) rfl k) ?_
          show own_Go _ _ _ _ (T398.setTop (mkF m 78 #[.val (.int p1), .val (.int p2), .val (.int p3), .val (.int p4), .val (.int p5)] [(.int p3), (.int (1 : Int32)), (.ref b395), (.ref b395), (.ref b392), (.ref b392)]))
          obtain ⟨c403, Ar403, q403, S403, Nn403, H403, G403⟩ := id f401
          have hin403 : ¬ ((1 : Int32) < 0 ∨ c403.slots.size ≤ ((1 : Int32)).toNatClampNeg) := inb_of S403 ⟨by decide, by decide⟩
          obtain ⟨T403, h403, X403, e403, W403, st403⟩ := stC X398 hx hZ e398 Ar403 (j := (1 : Int32)) hin403 (g := (mkF m 78 #[.val (.int p1), .val (.int p2), .val (.int p3), .val (.int p4), .val (.int p5)] [(.int p3), (.int (1 : Int32)), (.ref b395), (.ref b395), (.ref b392), (.ref b392)])) rfl rfl (hb hby d_method_6_78)
          refine own_Go.st st403 ?_
          have N403 := Fr.snoc X403 N398 (by omega)
          have Sf405 : Safe Z consts_1 s.vm h398 b395 := Safe.arv hZ.alike f401 (by decide)
          have z403 : h398.size ≤ h403.size := Nat.le_of_eq W403.size.symm
          have f404 := Arv.set Ar403 q403 S403 Nn403 H403 G403 (fits_nar_char _) W403 1 rfl (Nat.le_of_ble_eq_true rfl)
          rw [own_nar hp3] at f404
          have f406 : Arv Z h403 b395 k395 .char (3 : Int32) [(.int p2), (.int p3), (.int (0 : Int32))] (.int (0 : Int32)) := f404
          have R403 : CHr Z consts_1 s.vm h0 s.vm h403 := R398.trans (CHr.wr W403 Sf405 R398.1)
          have Sf407 : Safe Z consts_1 s.vm h403 b392 := Safe.wr W403 Sf405 R398.1 Sf402
          show own_Go _ _ _ _ (T403.setTop (mkF m 79 #[.val (.int p1), .val (.int p2), .val (.int p3), .val (.int p4), .val (.int p5)] [(.ref b395), (.ref b392), (.ref b392)]))
          refine own_Go.st (fun _ k => XS.dup X403.here hx rfl (hb hby d_method_6_79) rfl rfl k) ?_
          show own_Go _ _ _ _ (T403.setTop (mkF m 80 #[.val (.int p1), .val (.int p2), .val (.int p3), .val (.int p4), .val (.int p5)] [(.ref b395), (.ref b395), (.ref b392), (.ref b392)]))
          refine own_Go.st (fun _ k => XS.iconst X403.here hx rfl (hb hby d_method_6_80) k) ?_
          show own_Go _ _ _ _ (T403.setTop (mkF m 81 #[.val (.int p1), .val (.int p2), .val (.int p3), .val (.int p4), .val (.int p5)] [(.int (2 : Int32)), (.ref b395), (.ref b395), (.ref b392), (.ref b392)]))
          refine own_Go.st (fun _ k => XS.iloadN X403.here hx rfl (hb hby d_method_6_81) rfl k) ?_
          show own_Go _ _ _ _ (T403.setTop (mkF m 82 #[.val (.int p1), .val (.int p2), .val (.int p3), .val (.int p4), .val (.int p5)] [(.int p4), (.int (2 : Int32)), (.ref b395), (.ref b395), (.ref b392), (.ref b392)]))
          obtain ⟨c408, Ar408, q408, S408, Nn408, H408, G408⟩ := id f406
          have hin408 : ¬ ((2 : Int32) < 0 ∨ c408.slots.size ≤ ((2 : Int32)).toNatClampNeg) := inb_of S408 ⟨by decide, by decide⟩
          obtain ⟨T408, h408, X408, e408, W408, st408⟩ := stC X403 hx hZ e403 Ar408 (j := (2 : Int32)) hin408 (g := (mkF m 82 #[.val (.int p1), .val (.int p2), .val (.int p3), .val (.int p4), .val (.int p5)] [(.int p4), (.int (2 : Int32)), (.ref b395), (.ref b395), (.ref b392), (.ref b392)])) rfl rfl (hb hby d_method_6_82)
          refine own_Go.st st408 ?_
          have N408 := Fr.snoc X408 N403 (by omega)
          have Sf410 : Safe Z consts_1 s.vm h403 b395 := Safe.arv hZ.alike f406 (by decide)
          have z408 : h403.size ≤ h408.size := Nat.le_of_eq W408.size.symm
          have f409 := Arv.set Ar408 q408 S408 Nn408 H408 G408 (fits_nar_char _) W408 2 rfl (Nat.le_of_ble_eq_true rfl)
          rw [own_nar hp4] at f409
          have f411 : Arv Z h408 b395 k395 .char (3 : Int32) [(.int p2), (.int p3), (.int p4)] (.int (0 : Int32)) := f409
          have R408 : CHr Z consts_1 s.vm h0 s.vm h408 := R403.trans (CHr.wr W408 Sf410 R403.1)
          have Sf412 : Safe Z consts_1 s.vm h408 b392 := Safe.wr W408 Sf410 R403.1 Sf407
          show own_Go _ _ _ _ (T408.setTop (mkF m 83 #[.val (.int p1), .val (.int p2), .val (.int p3), .val (.int p4), .val (.int p5)] [(.ref b395), (.ref b392), (.ref b392)]))
          have f414 : Exa Z h395 b392 "java/lang/String" := A392.ext E395
          have f415 : Exa Z h398 b392 "java/lang/String" := f414.wr W398
          have f416 : Exa Z h403 b392 "java/lang/String" := f415.wr W403
          have f417 : Exa Z h408 b392 "java/lang/String" := f416.wr W408
          have f418 : Fld Z h395 b392 "java/lang/String" "value" "[B" .null := f394.ext E395
          have f419 : Fld Z h398 b392 "java/lang/String" "value" "[B" .null := f418.other W398 (Or.inl (by show @Ne Nat b392 b395; omega))
          have f420 : Fld Z h403 b392 "java/lang/String" "value" "[B" .null := f419.other W403 (Or.inl (by show @Ne Nat b392 b395; omega))
          have f421 : Fld Z h408 b392 "java/lang/String" "value" "[B" .null := f420.other W408 (Or.inl (by show @Ne Nat b392 b395; omega))
          have f422 : Fld Z h395 b392 "java/lang/String" "coder" "B" (.int (0 : Int32)) := f393.ext E395
          have f423 : Fld Z h398 b392 "java/lang/String" "coder" "B" (.int (0 : Int32)) := f422.other W398 (Or.inl (by show @Ne Nat b392 b395; omega))
          have f424 : Fld Z h403 b392 "java/lang/String" "coder" "B" (.int (0 : Int32)) := f423.other W403 (Or.inl (by show @Ne Nat b392 b395; omega))
          have f425 : Fld Z h408 b392 "java/lang/String" "coder" "B" (.int (0 : Int32)) := f424.other W408 (Or.inl (by show @Ne Nat b392 b395; omega))
          have f426 : Old Z Z.heap.size h392 := OL.ext E392
          have f427 : Old Z Z.heap.size h395 := f426.ext E395
          have f428 : Old Z Z.heap.size h398 := f427.wr W398 (by omega)
          have f429 : Old Z Z.heap.size h403 := f428.wr W403 (by omega)
          have f430 : Old Z Z.heap.size h408 := f429.wr W408 (by omega)
          obtain ⟨_, _, ⟨T413, L413, k413, n413⟩, -, X413, ⟨Lc413, hQ413, l413, y413, z413⟩, st413⟩ := X408.specialBack hx (y := (⟨"java/lang/String", "<init>", "([C)V"⟩ : MethodName)) rfl hown (mvT hZ (hw _ (List.mem_of_getElem? (i := 14) rfl))) (mvT hZ (hw _ (List.mem_of_getElem? (i := 15) rfl))) (mvT hZ (hw _ (List.mem_of_getElem? (i := 16) rfl))) (by decide) (own_backStr (W := 1) (cs := [p2, p3, p4]) hZ hw f430 f417 f421 f425 f411 st_COMPACT_STRINGS st__assertionsDisabled st_HI_BYTE_SHIFT st_LO_BYTE_SHIFT rfl (Nat.le_of_ble_eq_true rfl) (Nat.le_of_ble_eq_true rfl) (own_aS hp2 (own_aS hp3 (own_aS hp4 own_a0))) (by omega) (by first | assumption | decide) (by decide) (by decide)) (g := (mkF m 83 #[.val (.int p1), .val (.int p2), .val (.int p3), .val (.int p4), .val (.int p5)] [(.ref b395), (.ref b392), (.ref b392)])) rfl (by rw [hml]; rfl) (Steps.refl _) (a := b392) (argsL := [(.ref b395)]) (rest := [(.ref b392)]) (lenOf pd_384 rfl) rfl (by show 2 * 0 + _ ≤ _; exact Nat.le_of_eq rfl) (hb hby d_method_6_83) (fun _ _ => ⟨rfl, e408, (by decide : 2 + 2 ≤ _), (by decide : 7 + 12 ≤ _)⟩)
          dsimp only [Pt.U, Pt.locs, Pt.cells, Pt.slots] at X413 l413 y413 z413 st413 hQ413
          subst l413 y413 z413
          obtain ⟨t_413, rfl, N413q, K413, f413_0, pr413_0⟩ := hQ413
          have N413 := Fr.app N408 N413q
          have z413 : h408.size ≤ T413.heap.size := K413.1
          have R413 : CHr Z consts_1 s.vm h0 s.vm T413.heap := R408.trans (CHr.keep K413 (sfS Sf412 sf0) R408.1)
          have Sf431 : Safe Z consts_1 s.vm T413.heap b392 := Safe.keep K413 (sfS Sf412 sf0) R408.1 Sf412
          have lt413_0 : @LT.lt Nat _ b392 T413.heap.size := f413_0.lt
          have ltv413_0 : @LT.lt Nat _ t_413 T413.heap.size := f413_0.ltv
          refine own_Go.tr st413 ?_
          show own_Go _ _ _ _ (T413.setTop (mkF m 86 #[.val (.int p1), .val (.int p2), .val (.int p3), .val (.int p4), .val (.int p5)] [(.ref b392)]))
          obtain ⟨fs432, hr432, hrun432, hend432, hret432⟩ := X413.leaveW hS0 (by omega) (v := some (.ref b392)) (fun h => by rw [Bd.returns] at h; cases h)
          have K433 : Keep h0 h392 [] := (Keep.refl h0 []).ext E392
          have K434 : Keep h0 h395 [] := K433.ext E395
          have K435 : Keep h0 h398 [] := K434.wr W398 (Or.inr (by omega))
          have K436 : Keep h0 h403 [] := K435.wr W403 (Or.inr (by omega))
          have K437 : Keep h0 h408 [] := K436.wr W408 (Or.inr (by omega))
          have K438 : Keep h0 T413.heap [] := K437.trans K413 (allS (Or.inr (by omega)) all0)
          subst hPP
          refine ⟨_, _, own_retA X413 hx Bd.returns rfl rfl (hb hby d_method_6_86) hr432, hrun432, hend432, _, _, rfl, ?_, ?_, hret432.1, hret432.2.1, hret432.2.2.1, hret432.2.2.2.mono (by decide) (by decide)⟩
          · show Q_build Z _ _ _ _ _ _ h0 _ T413.heap _
            exact ⟨b392, t_413, [p2, p3, p4], rfl, N413, K438, f413_0, (by unfold own_mk; rw [if_neg hc307, if_neg hc325, if_neg hc353, if_pos hc391])⟩
          · have hfin := R413.trans (CHv.at X413 hZ hEL R413.1)
            rw [← hh] at hfin
            show CHr Z consts_1 s.vm s.heap T413.vm T413.heap
            exact hfin
        ·
          refine own_Go.st (fun _ k => XS.icmpYes X0.here hx rfl (pc0 := 61) (pc' := 87) rfl (hb hby d_method_6_61) rfl (feq hc391).2 (by decide) (by decide) k) ?_
          show own_Go _ _ _ _ (s₁.setTop (mkF m 87 #[.val (.int p1), .val (.int p2), .val (.int p3), .val (.int p4), .val (.int p5)] []))
          obtain ⟨T439, h439, X439, e439, E439, A439, D439, U439, st439⟩ := newO X0 hx hZ hown (hw _ (List.mem_of_getElem? (i := 10) rfl)) (hw _ (List.mem_of_getElem? (i := 11) rfl)) (hw _ (List.mem_of_getElem? (i := 12) rfl)) e0 (g := (mkF m 87 #[.val (.int p1), .val (.int p2), .val (.int p3), .val (.int p4), .val (.int p5)] [])) rfl (hb hby d_method_6_87) (by decide) (by decide)
          obtain ⟨b439, g439⟩ : ∃ z, z = h0.size := ⟨_, rfl⟩
          rw [← g439] at A439 D439 U439 st439
          refine own_Go.st st439 ?_
          have z439 : h0.size ≤ h439.size := E439.1
          have lt_b439 : @LT.lt Nat _ b439 h439.size := A439.lt
          have f440 : Fld Z h439 b439 "java/lang/String" "coder" "B" (.int (0 : Int32)) := D439 (Or.inr (hw _ (List.mem_of_getElem? (i := 56) rfl))) (ty := .byte) (by decide)
          have f441 : Fld Z h439 b439 "java/lang/String" "value" "[B" .null := D439 (Or.inr (hw _ (List.mem_of_getElem? (i := 58) rfl))) (ty := (.array .byte)) (by decide)
          have R439 : CHr Z consts_1 s.vm h0 s.vm h439 := R0.trans (CHr.ext E439 R0.1)
          have Sf439 : Safe Z consts_1 s.vm h439 b439 := (Safe.new (Nat.le_of_eq g439.symm)).ext E439 R0.1
          show own_Go _ _ _ _ (T439.setTop (mkF m 90 #[.val (.int p1), .val (.int p2), .val (.int p3), .val (.int p4), .val (.int p5)] [(.ref b439)]))
          refine own_Go.st (fun _ k => XS.dup X439.here hx rfl (hb hby d_method_6_90) rfl rfl k) ?_
          show own_Go _ _ _ _ (T439.setTop (mkF m 91 #[.val (.int p1), .val (.int p2), .val (.int p3), .val (.int p4), .val (.int p5)] [(.ref b439), (.ref b439)]))
          refine own_Go.st (fun _ k => XS.iconst X439.here hx rfl (hb hby d_method_6_91) k) ?_
          show own_Go _ _ _ _ (T439.setTop (mkF m 92 #[.val (.int p1), .val (.int p2), .val (.int p3), .val (.int p4), .val (.int p5)] [(.int (4 : Int32)), (.ref b439), (.ref b439)]))
          obtain ⟨T442, h442, k442, X442, e442, E442, A442, st442⟩ := newP X439 hx hZ (hw _ (List.mem_of_getElem? (i := 13) rfl)) e439 (g := (mkF m 92 #[.val (.int p1), .val (.int p2), .val (.int p3), .val (.int p4), .val (.int p5)] [(.int (4 : Int32)), (.ref b439), (.ref b439)])) rfl (hb hby d_method_6_92) rfl (by decide) (cap := 4) (by decide) (by decide) (by decide) (by decide)
          obtain ⟨b442, g442⟩ : ∃ z, z = h439.size := ⟨_, rfl⟩
          rw [← g442] at A442 st442
          refine own_Go.st st442 ?_
          have z442 : h439.size ≤ h442.size := E442.1
          have f443 : Arv Z h442 b442 k442 .char (4 : Int32) [(.int (0 : Int32)), (.int (0 : Int32)), (.int (0 : Int32)), (.int (0 : Int32))] (.int (0 : Int32)) := (Arv.new A442 (by decide)).pad (pad_rep [] (.int (0 : Int32)) 4)
          have lt_b442 : @LT.lt Nat _ b442 h442.size := f443.lt
          have R442 : CHr Z consts_1 s.vm h0 s.vm h442 := R439.trans (CHr.ext E442 R439.1)
          have Sf444 : Safe Z consts_1 s.vm h442 b439 := Safe.ext E442 R439.1 Sf439
          show own_Go _ _ _ _ (T442.setTop (mkF m 94 #[.val (.int p1), .val (.int p2), .val (.int p3), .val (.int p4), .val (.int p5)] [(.ref b442), (.ref b439), (.ref b439)]))
          refine own_Go.st (fun _ k => XS.dup X442.here hx rfl (hb hby d_method_6_94) rfl rfl k) ?_
          show own_Go _ _ _ _ (T442.setTop (mkF m 95 #[.val (.int p1), .val (.int p2), .val (.int p3), .val (.int p4), .val (.int p5)] [(.ref b442), (.ref b442), (.ref b439), (.ref b439)]))
          refine own_Go.st (fun _ k => XS.iconst X442.here hx rfl (hb hby d_method_6_95) k) ?_
          show own_Go _ _ _ _ (T442.setTop (mkF m 96 #[.val (.int p1), .val (.int p2), .val (.int p3), .val (.int p4), .val (.int p5)] [(.int (0 : Int32)), (.ref b442), (.ref b442), (.ref b439), (.ref b439)]))
          refine own_Go.st (fun _ k => XS.iloadN X442.here hx rfl (hb hby d_method_6_96) rfl k) ?_
          show own_Go _ _ _ _ (T442.setTop (mkF m 97 #[.val (.int p1), .val (.int p2), .val (.int p3), .val (.int p4), .val (.int p5)] [(.int p2), (.int (0 : Int32)), (.ref b442), (.ref b442), (.ref b439), (.ref b439)]))
          obtain ⟨c445, Ar445, q445, S445, Nn445, H445, G445⟩ := id f443
          have hin445 : ¬ ((0 : Int32) < 0 ∨ c445.slots.size ≤ ((0 : Int32)).toNatClampNeg) := inb_of S445 ⟨by decide, by decide⟩
          obtain ⟨T445, h445, X445, e445, W445, st445⟩ := stC X442 hx hZ e442 Ar445 (j := (0 : Int32)) hin445 (g := (mkF m 97 #[.val (.int p1), .val (.int p2), .val (.int p3), .val (.int p4), .val (.int p5)] [(.int p2), (.int (0 : Int32)), (.ref b442), (.ref b442), (.ref b439), (.ref b439)])) rfl rfl (hb hby d_method_6_97)
          refine own_Go.st st445 ?_
          have N445 := Fr.snoc X445 N0 (by omega)
          have Sf447 : Safe Z consts_1 s.vm h442 b442 := Safe.arv hZ.alike f443 (by decide)
          have z445 : h442.size ≤ h445.size := Nat.le_of_eq W445.size.symm
          have f446 := Arv.set Ar445 q445 S445 Nn445 H445 G445 (fits_nar_char _) W445 0 rfl (Nat.le_of_ble_eq_true rfl)
          rw [own_nar hp2] at f446
          have f448 : Arv Z h445 b442 k442 .char (4 : Int32) [(.int p2), (.int (0 : Int32)), (.int (0 : Int32)), (.int (0 : Int32))] (.int (0 : Int32)) := f446
          have R445 : CHr Z consts_1 s.vm h0 s.vm h445 := R442.trans (CHr.wr W445 Sf447 R442.1)
          have Sf449 : Safe Z consts_1 s.vm h445 b439 := Safe.wr W445 Sf447 R442.1 Sf444
          show own_Go _ _ _ _ (T445.setTop (mkF m 98 #[.val (.int p1), .val (.int p2), .val (.int p3), .val (.int p4), .val (.int p5)] [(.ref b442), (.ref b439), (.ref b439)]))
          refine own_Go.st (fun _ k => XS.dup X445.here hx rfl (hb hby d_method_6_98) rfl rfl k) ?_
          show own_Go _ _ _ _ (T445.setTop (mkF m 99 #[.val (.int p1), .val (.int p2), .val (.int p3), .val (.int p4), .val (.int p5)] [(.ref b442), (.ref b442), (.ref b439), (.ref b439)]))
          refine own_Go.st (fun _ k => XS.iconst X445.here hx rfl (hb hby d_method_6_99) k) ?_
          show own_Go _ _ _ _ (T445.setTop (mkF m 100 #[.val (.int p1), .val (.int p2), .val (.int p3), .val (.int p4), .val (.int p5)] [(.int (1 : Int32)), (.ref b442), (.ref b442), (.ref b439), (.ref b439)]))
          refine own_Go.st (fun _ k => XS.iloadN X445.here hx rfl (hb hby d_method_6_100) rfl k) ?_
          show own_Go _ _ _ _ (T445.setTop (mkF m 101 #[.val (.int p1), .val (.int p2), .val (.int p3), .val (.int p4), .val (.int p5)] [(.int p3), (.int (1 : Int32)), (.ref b442), (.ref b442), (.ref b439), (.ref b439)]))
          obtain ⟨c450, Ar450, q450, S450, Nn450, H450, G450⟩ := id f448
          have hin450 : ¬ ((1 : Int32) < 0 ∨ c450.slots.size ≤ ((1 : Int32)).toNatClampNeg) := inb_of S450 ⟨by decide, by decide⟩
          obtain ⟨T450, h450, X450, e450, W450, st450⟩ := stC X445 hx hZ e445 Ar450 (j := (1 : Int32)) hin450 (g := (mkF m 101 #[.val (.int p1), .val (.int p2), .val (.int p3), .val (.int p4), .val (.int p5)] [(.int p3), (.int (1 : Int32)), (.ref b442), (.ref b442), (.ref b439), (.ref b439)])) rfl rfl (hb hby d_method_6_101)
          refine own_Go.st st450 ?_
          have N450 := Fr.snoc X450 N445 (by omega)
          have Sf452 : Safe Z consts_1 s.vm h445 b442 := Safe.arv hZ.alike f448 (by decide)
          have z450 : h445.size ≤ h450.size := Nat.le_of_eq W450.size.symm
          have f451 := Arv.set Ar450 q450 S450 Nn450 H450 G450 (fits_nar_char _) W450 1 rfl (Nat.le_of_ble_eq_true rfl)
          rw [own_nar hp3] at f451
          have f453 : Arv Z h450 b442 k442 .char (4 : Int32) [(.int p2), (.int p3), (.int (0 : Int32)), (.int (0 : Int32))] (.int (0 : Int32)) := f451
          have R450 : CHr Z consts_1 s.vm h0 s.vm h450 := R445.trans (CHr.wr W450 Sf452 R445.1)
          have Sf454 : Safe Z consts_1 s.vm h450 b439 := Safe.wr W450 Sf452 R445.1 Sf449
          show own_Go _ _ _ _ (T450.setTop (mkF m 102 #[.val (.int p1), .val (.int p2), .val (.int p3), .val (.int p4), .val (.int p5)] [(.ref b442), (.ref b439), (.ref b439)]))
          refine own_Go.st (fun _ k => XS.dup X450.here hx rfl (hb hby d_method_6_102) rfl rfl k) ?_
          show own_Go _ _ _ _ (T450.setTop (mkF m 103 #[.val (.int p1), .val (.int p2), .val (.int p3), .val (.int p4), .val (.int p5)] [(.ref b442), (.ref b442), (.ref b439), (.ref b439)]))
          refine own_Go.st (fun _ k => XS.iconst X450.here hx rfl (hb hby d_method_6_103) k) ?_
          show own_Go _ _ _ _ (T450.setTop (mkF m 104 #[.val (.int p1), .val (.int p2), .val (.int p3), .val (.int p4), .val (.int p5)] [(.int (2 : Int32)), (.ref b442), (.ref b442), (.ref b439), (.ref b439)]))
          refine own_Go.st (fun _ k => XS.iloadN X450.here hx rfl (hb hby d_method_6_104) rfl k) ?_
          show own_Go _ _ _ _ (T450.setTop (mkF m 105 #[.val (.int p1), .val (.int p2), .val (.int p3), .val (.int p4), .val (.int p5)] [(.int p4), (.int (2 : Int32)), (.ref b442), (.ref b442), (.ref b439), (.ref b439)]))
          obtain ⟨c455, Ar455, q455, S455, Nn455, H455, G455⟩ := id f453
          have hin455 : ¬ ((2 : Int32) < 0 ∨ c455.slots.size ≤ ((2 : Int32)).toNatClampNeg) := inb_of S455 ⟨by decide, by decide⟩
          obtain ⟨T455, h455, X455, e455, W455, st455⟩ := stC X450 hx hZ e450 Ar455 (j := (2 : Int32)) hin455 (g := (mkF m 105 #[.val (.int p1), .val (.int p2), .val (.int p3), .val (.int p4), .val (.int p5)] [(.int p4), (.int (2 : Int32)), (.ref b442), (.ref b442), (.ref b439), (.ref b439)])) rfl rfl (hb hby d_method_6_105)
          refine own_Go.st st455 ?_
          have N455 := Fr.snoc X455 N450 (by omega)
          have Sf457 : Safe Z consts_1 s.vm h450 b442 := Safe.arv hZ.alike f453 (by decide)
          have z455 : h450.size ≤ h455.size := Nat.le_of_eq W455.size.symm
          have f456 := Arv.set Ar455 q455 S455 Nn455 H455 G455 (fits_nar_char _) W455 2 rfl (Nat.le_of_ble_eq_true rfl)
          rw [own_nar hp4] at f456
          have f458 : Arv Z h455 b442 k442 .char (4 : Int32) [(.int p2), (.int p3), (.int p4), (.int (0 : Int32))] (.int (0 : Int32)) := f456
          have R455 : CHr Z consts_1 s.vm h0 s.vm h455 := R450.trans (CHr.wr W455 Sf457 R450.1)
          have Sf459 : Safe Z consts_1 s.vm h455 b439 := Safe.wr W455 Sf457 R450.1 Sf454
          show own_Go _ _ _ _ (T455.setTop (mkF m 106 #[.val (.int p1), .val (.int p2), .val (.int p3), .val (.int p4), .val (.int p5)] [(.ref b442), (.ref b439), (.ref b439)]))
          refine own_Go.st (fun _ k => XS.dup X455.here hx rfl (hb hby d_method_6_106) rfl rfl k) ?_
          show own_Go _ _ _ _ (T455.setTop (mkF m 107 #[.val (.int p1), .val (.int p2), .val (.int p3), .val (.int p4), .val (.int p5)] [(.ref b442), (.ref b442), (.ref b439), (.ref b439)]))
          refine own_Go.st (fun _ k => XS.iconst X455.here hx rfl (hb hby d_method_6_107) k) ?_
          show own_Go _ _ _ _ (T455.setTop (mkF m 108 #[.val (.int p1), .val (.int p2), .val (.int p3), .val (.int p4), .val (.int p5)] [(.int (3 : Int32)), (.ref b442), (.ref b442), (.ref b439), (.ref b439)]))
          refine own_Go.st (fun _ k => XS.iload X455.here hx rfl (hb hby d_method_6_108) rfl k) ?_
          show own_Go _ _ _ _ (T455.setTop (mkF m 110 #[.val (.int p1), .val (.int p2), .val (.int p3), .val (.int p4), .val (.int p5)] [(.int p5), (.int (3 : Int32)), (.ref b442), (.ref b442), (.ref b439), (.ref b439)]))
          obtain ⟨c460, Ar460, q460, S460, Nn460, H460, G460⟩ := id f458
          have hin460 : ¬ ((3 : Int32) < 0 ∨ c460.slots.size ≤ ((3 : Int32)).toNatClampNeg) := inb_of S460 ⟨by decide, by decide⟩
          obtain ⟨T460, h460, X460, e460, W460, st460⟩ := stC X455 hx hZ e455 Ar460 (j := (3 : Int32)) hin460 (g := (mkF m 110 #[.val (.int p1), .val (.int p2), .val (.int p3), .val (.int p4), .val (.int p5)] [(.int p5), (.int (3 : Int32)), (.ref b442), (.ref b442), (.ref b439), (.ref b439)])) rfl rfl (hb hby d_method_6_110)
          refine own_Go.st st460 ?_
          have N460 := Fr.snoc X460 N455 (by omega)
          have Sf462 : Safe Z consts_1 s.vm h455 b442 := Safe.arv hZ.alike f458 (by decide)
          have z460 : h455.size ≤ h460.size := Nat.le_of_eq W460.size.symm
          have f461 := Arv.set Ar460 q460 S460 Nn460 H460 G460 (fits_nar_char _) W460 3 rfl (Nat.le_of_ble_eq_true rfl)
          rw [own_nar hp5] at f461
          have f463 : Arv Z h460 b442 k442 .char (4 : Int32) [(.int p2), (.int p3), (.int p4), (.int p5)] (.int (0 : Int32)) := f461
          have R460 : CHr Z consts_1 s.vm h0 s.vm h460 := R455.trans (CHr.wr W460 Sf462 R455.1)
          have Sf464 : Safe Z consts_1 s.vm h460 b439 := Safe.wr W460 Sf462 R455.1 Sf459
          show own_Go _ _ _ _ (T460.setTop (mkF m 111 #[.val (.int p1), .val (.int p2), .val (.int p3), .val (.int p4), .val (.int p5)] [(.ref b442), (.ref b439), (.ref b439)]))
          have f466 : Exa Z h442 b439 "java/lang/String" := A439.ext E442
          have f467 : Exa Z h445 b439 "java/lang/String" := f466.wr W445
          have f468 : Exa Z h450 b439 "java/lang/String" := f467.wr W450
          have f469 : Exa Z h455 b439 "java/lang/String" := f468.wr W455
          have f470 : Exa Z h460 b439 "java/lang/String" := f469.wr W460
          have f471 : Fld Z h442 b439 "java/lang/String" "value" "[B" .null := f441.ext E442
          have f472 : Fld Z h445 b439 "java/lang/String" "value" "[B" .null := f471.other W445 (Or.inl (by show @Ne Nat b439 b442; omega))
          have f473 : Fld Z h450 b439 "java/lang/String" "value" "[B" .null := f472.other W450 (Or.inl (by show @Ne Nat b439 b442; omega))
          have f474 : Fld Z h455 b439 "java/lang/String" "value" "[B" .null := f473.other W455 (Or.inl (by show @Ne Nat b439 b442; omega))
          have f475 : Fld Z h460 b439 "java/lang/String" "value" "[B" .null := f474.other W460 (Or.inl (by show @Ne Nat b439 b442; omega))
          have f476 : Fld Z h442 b439 "java/lang/String" "coder" "B" (.int (0 : Int32)) := f440.ext E442
          have f477 : Fld Z h445 b439 "java/lang/String" "coder" "B" (.int (0 : Int32)) := f476.other W445 (Or.inl (by show @Ne Nat b439 b442; omega))
          have f478 : Fld Z h450 b439 "java/lang/String" "coder" "B" (.int (0 : Int32)) := f477.other W450 (Or.inl (by show @Ne Nat b439 b442; omega))
          have f479 : Fld Z h455 b439 "java/lang/String" "coder" "B" (.int (0 : Int32)) := f478.other W455 (Or.inl (by show @Ne Nat b439 b442; omega))
          have f480 : Fld Z h460 b439 "java/lang/String" "coder" "B" (.int (0 : Int32)) := f479.other W460 (Or.inl (by show @Ne Nat b439 b442; omega))
          have f481 : Old Z Z.heap.size h439 := OL.ext E439
          have f482 : Old Z Z.heap.size h442 := f481.ext E442
          have f483 : Old Z Z.heap.size h445 := f482.wr W445 (by omega)
          have f484 : Old Z Z.heap.size h450 := f483.wr W450 (by omega)
          have f485 : Old Z Z.heap.size h455 := f484.wr W455 (by omega)
          have f486 : Old Z Z.heap.size h460 := f485.wr W460 (by omega)
          obtain ⟨_, _, ⟨T465, L465, k465, n465⟩, -, X465, ⟨Lc465, hQ465, l465, y465, z465⟩, st465⟩ := X460.specialBack hx (y := (⟨"java/lang/String", "<init>", "([C)V"⟩ : MethodName)) rfl hown (mvT hZ (hw _ (List.mem_of_getElem? (i := 14) rfl))) (mvT hZ (hw _ (List.mem_of_getElem? (i := 15) rfl))) (mvT hZ (hw _ (List.mem_of_getElem? (i := 16) rfl))) (by decide) (own_backStr (W := 1) (cs := [p2, p3, p4, p5]) hZ hw f486 f470 f475 f480 f463 st_COMPACT_STRINGS st__assertionsDisabled st_HI_BYTE_SHIFT st_LO_BYTE_SHIFT rfl (Nat.le_of_ble_eq_true rfl) (Nat.le_of_ble_eq_true rfl) (own_aS hp2 (own_aS hp3 (own_aS hp4 (own_aS hp5 own_a0)))) (by omega) (by first | assumption | decide) (by decide) (by decide)) (g := (mkF m 111 #[.val (.int p1), .val (.int p2), .val (.int p3), .val (.int p4), .val (.int p5)] [(.ref b442), (.ref b439), (.ref b439)])) rfl (by rw [hml]; rfl) (Steps.refl _) (a := b439) (argsL := [(.ref b442)]) (rest := [(.ref b439)]) (lenOf pd_384 rfl) rfl (by show 2 * 0 + _ ≤ _; exact Nat.le_of_eq rfl) (hb hby d_method_6_111) (fun _ _ => ⟨rfl, e460, (by decide : 2 + 2 ≤ _), (by decide : 8 + 12 ≤ _)⟩)
          dsimp only [Pt.U, Pt.locs, Pt.cells, Pt.slots] at X465 l465 y465 z465 st465 hQ465
          subst l465 y465 z465
          obtain ⟨t_465, rfl, N465q, K465, f465_0, pr465_0⟩ := hQ465
          have N465 := Fr.app N460 N465q
          have z465 : h460.size ≤ T465.heap.size := K465.1
          have R465 : CHr Z consts_1 s.vm h0 s.vm T465.heap := R460.trans (CHr.keep K465 (sfS Sf464 sf0) R460.1)
          have Sf487 : Safe Z consts_1 s.vm T465.heap b439 := Safe.keep K465 (sfS Sf464 sf0) R460.1 Sf464
          have lt465_0 : @LT.lt Nat _ b439 T465.heap.size := f465_0.lt
          have ltv465_0 : @LT.lt Nat _ t_465 T465.heap.size := f465_0.ltv
          refine own_Go.tr st465 ?_
          show own_Go _ _ _ _ (T465.setTop (mkF m 114 #[.val (.int p1), .val (.int p2), .val (.int p3), .val (.int p4), .val (.int p5)] [(.ref b439)]))
          obtain ⟨fs488, hr488, hrun488, hend488, hret488⟩ := X465.leaveW hS0 (by omega) (v := some (.ref b439)) (fun h => by rw [Bd.returns] at h; cases h)
          have K489 : Keep h0 h439 [] := (Keep.refl h0 []).ext E439
          have K490 : Keep h0 h442 [] := K489.ext E442
          have K491 : Keep h0 h445 [] := K490.wr W445 (Or.inr (by omega))
          have K492 : Keep h0 h450 [] := K491.wr W450 (Or.inr (by omega))
          have K493 : Keep h0 h455 [] := K492.wr W455 (Or.inr (by omega))
          have K494 : Keep h0 h460 [] := K493.wr W460 (Or.inr (by omega))
          have K495 : Keep h0 T465.heap [] := K494.trans K465 (allS (Or.inr (by omega)) all0)
          subst hPP
          refine ⟨_, _, own_retA X465 hx Bd.returns rfl rfl (hb hby d_method_6_114) hr488, hrun488, hend488, _, _, rfl, ?_, ?_, hret488.1, hret488.2.1, hret488.2.2.1, hret488.2.2.2.mono (by decide) (by decide)⟩
          · show Q_build Z _ _ _ _ _ _ h0 _ T465.heap _
            exact ⟨b439, t_465, [p2, p3, p4, p5], rfl, N465, K495, f465_0, (by unfold own_mk; rw [if_neg hc307, if_neg hc325, if_neg hc353, if_neg hc391])⟩
          · have hfin := R465.trans (CHv.at X465 hZ hEL R465.1)
            rw [← hh] at hfin
            show CHr Z consts_1 s.vm s.heap T465.vm T465.heap
            exact hfin
theorem pn_460 : plainName "java/lang/Record" = true := by first | (simp [plainName, overriddenIn]; done) | decide +kernel
theorem d_jdk_30_method_1_0 : decode jdk_30_method_1_code 0 = .ok (.aload_n 0, 1) := by decide +kernel
theorem d_jdk_30_method_1_1 : decode jdk_30_method_1_code 1 = .ok (.invokespecial 1, 3) := by decide +kernel
theorem d_jdk_30_method_1_4 : decode jdk_30_method_1_code 4 = .ok (.return_, 1) := by decide +kernel
def Q_record (Z : State) (a1 : Nat) (h0 : Heap) (v : Option Value) (h : Heap) (L : List Loc) : Prop := v = none ∧ Fr Z.heap.size L ∧ h = h0
set_option maxRecDepth 65536 in
set_option maxHeartbeats 40000000 in
theorem rm_record (l : Launch) (Z : State) (a0 : Array Value) (hw : ∀ d ∈ tables_1, d.before a0 Z = true) (ws : List Jvm.Cond) (a1 : Nat) (h0 : Heap) (OL : Old Z Z.heap.size h0) :
    MetFree l (⟨"java/lang/Record", "<init>", "()V"⟩ : MethodName) (head1 (Jvm.Cond.code (⟨"java/lang/Record", "<init>", "()V"⟩ : MethodName) jdk_30_method_1_code 1 none :: ws) ({ frames := 1, cells := 0, slots := 0, locals := 12 } : Room)) (fun a U => a = #[(.ref a1)] ∧ Z.Warmed39 U.vm ∧ U.heap = h0) (fun _ _ _ _ _ => True) (fun _ U o U' => ∃ v L, o = .returned v ∧ Q_record Z a1 h0 v U'.heap L ∧ FrameEnd U o U' L ({ frames := 1, cells := 0, slots := 0, locals := 12 } : Room).cells ({ frames := 1, cells := 0, slots := 0, locals := 12 } : Room).slots) := by
  refine MetFree.of_bodySF (plainFor_of_name pn_460) hisR ?_
  intro p e s m args below meth c s₁ Bd hml0 hP hK
  obtain ⟨rfl, hZ, hh⟩ := hP
  have hx := Bd.exec
  have hby := Bd.bytes
  have hml : c.maxLocals = 1 := hml0
  have hown : s.vm.findClass "java/lang/Record" = some m.cls := findClass_of_methodNamed Bd.named
  have hnm := (name_of_methodNamed Bd.named Bd.method).1
  have X0 : Stand p l e ({ frames := 1, cells := 0, slots := 0, locals := 12 } : Room) s m #[(.ref a1)] below meth c s₁ [] 0 0 := Stand.of_body Bd
  have e0 : s₁.heap = h0 := by rw [← hh, Bd.state]; rfl
  have N0 := Fr.nil Z.heap.size
  have Z0 : Z.heap.size ≤ h0.size := OL.2.1
  obtain ⟨PP, hPP⟩ : ∃ PP : Outcome → State → Prop, PP = (fun o tE => ∃ v L, o = .returned v ∧ Q_record Z a1 h0 v tE.heap L ∧ FrameEnd s o tE L ({ frames := 1, cells := 0, slots := 0, locals := 12 } : Room).cells ({ frames := 1, cells := 0, slots := 0, locals := 12 } : Room).slots) := ⟨_, rfl⟩
  show own_Go p.tables e below (fun o tE => ∃ v L, o = .returned v ∧ Q_record Z a1 h0 v tE.heap L ∧ FrameEnd s o tE L ({ frames := 1, cells := 0, slots := 0, locals := 12 } : Room).cells ({ frames := 1, cells := 0, slots := 0, locals := 12 } : Room).slots) (s₁.setTop (entryFrame m #[(.ref a1)] 1))
  rw [← hPP]
  refine own_Go.st (fun t k => castTop (ef_210 m a1) k) ?_
  show own_Go _ _ _ _ (s₁.setTop (mkF m 0 #[.val (.ref a1)] []))
  refine own_Go.st (fun _ k => XS.aloadN X0.here hx rfl (hb hby d_jdk_30_method_1_0) rfl rfl k) ?_
  show own_Go _ _ _ _ (s₁.setTop (mkF m 1 #[.val (.ref a1)] [(.ref a1)]))
  obtain ⟨T496, X496, e496, st496⟩ := initO X0 hx hZ hown (hw _ (List.mem_of_getElem? (i := 80) rfl)) (hw _ (List.mem_of_getElem? (i := 22) rfl)) (hw _ (List.mem_of_getElem? (i := 23) rfl)) e0 (g := (mkF m 1 #[.val (.ref a1)] [(.ref a1)])) rfl (by rw [hml]; rfl) rfl (hb hby d_jdk_30_method_1_1) (by decide) (W := 0) (by show 2 * 0 + _ ≤ _; exact Nat.le_of_eq rfl) (by decide)
  refine own_Go.st st496 ?_
  show own_Go _ _ _ _ (T496.setTop (mkF m 4 #[.val (.ref a1)] []))
  obtain ⟨fs497, hr497, hrun497, hend497, hW497, hsm497⟩ := X496.leave (v := none) (fun _ => rfl)
  subst hPP
  refine ⟨_, _, X496.returnOut hx Bd.returns (hb hby d_jdk_30_method_1_4) hr497, hrun497, hend497, _, _, rfl, ?_, ⟨_, rfl⟩, hW497, hsm497.mono (by decide) (by decide)⟩
  · show Q_record Z _ h0 _ T496.heap _
    rw [e496]
    exact ⟨rfl, N0, rfl⟩
theorem pn_464 : plainName "com/example/vigilant_gate/vigilantgate/PasswordPolicy" = true := by first | (simp [plainName, overriddenIn]; done) | decide +kernel
theorem d_prog_11_method_1_0 : decode prog_11_method_1_code 0 = .ok (.aload_n 0, 1) := by decide +kernel
theorem pd_466 : parseMethodDescriptor "()V" = some ⟨[], none⟩ := by decide +kernel
theorem d_prog_11_method_1_1 : decode prog_11_method_1_code 1 = .ok (.invokespecial 1, 3) := by decide +kernel
theorem d_prog_11_method_1_4 : decode prog_11_method_1_code 4 = .ok (.aload_n 0, 1) := by decide +kernel
theorem d_prog_11_method_1_5 : decode prog_11_method_1_code 5 = .ok (.iload_n 1, 1) := by decide +kernel
theorem d_prog_11_method_1_6 : decode prog_11_method_1_code 6 = .ok (.putfield 7, 3) := by decide +kernel
theorem d_prog_11_method_1_9 : decode prog_11_method_1_code 9 = .ok (.return_, 1) := by decide +kernel
def Q_ppinit (Z : State) (a1 : Nat) (p1 : Int32) (h0 : Heap) (v : Option Value) (h : Heap) (L : List Loc) : Prop := v = none ∧ Fr Z.heap.size L ∧ Keep h0 h [a1] ∧ Exa Z h a1 "com/example/vigilant_gate/vigilantgate/PasswordPolicy" ∧ Fld Z h a1 "com/example/vigilant_gate/vigilantgate/PasswordPolicy" "minimumPasswordLength" "I" (.int p1)
set_option maxRecDepth 65536 in
set_option maxHeartbeats 40000000 in
theorem rm_ppinit (l : Launch) (Z : State) (a0 : Array Value) (hw : ∀ d ∈ tables_1, d.before a0 Z = true) (ws : List Jvm.Cond) (a1 : Nat) (p1 : Int32) (h0 : Heap) (OL : Old Z Z.heap.size h0) (p0_ : Exa Z h0 a1 "com/example/vigilant_gate/vigilantgate/PasswordPolicy") (p1_ : Fld Z h0 a1 "com/example/vigilant_gate/vigilantgate/PasswordPolicy" "minimumPasswordLength" "I" (.int (0 : Int32))) (hn0 : Z.heap.size ≤ a1) :
    MetFree l (⟨"com/example/vigilant_gate/vigilantgate/PasswordPolicy", "<init>", "(I)V"⟩ : MethodName) (head1 (Jvm.Cond.code (⟨"com/example/vigilant_gate/vigilantgate/PasswordPolicy", "<init>", "(I)V"⟩ : MethodName) prog_11_method_1_code 2 none :: ws) ({ frames := 2, cells := 0, slots := 0, locals := 24 } : Room)) (fun a U => a = #[(.ref a1), (.int p1)] ∧ Z.Warmed39 U.vm ∧ U.heap = h0) (fun _ _ _ _ _ => True) (fun _ U o U' => ∃ v L, o = .returned v ∧ Q_ppinit Z a1 p1 h0 v U'.heap L ∧ FrameEnd U o U' L ({ frames := 2, cells := 0, slots := 0, locals := 24 } : Room).cells ({ frames := 2, cells := 0, slots := 0, locals := 24 } : Room).slots) := by
  refine MetFree.of_bodySF (plainFor_of_name pn_464) hisR ?_
  intro p e s m args below meth c s₁ Bd hml0 hP hK
  obtain ⟨rfl, hZ, hh⟩ := hP
  have hx := Bd.exec
  have hby := Bd.bytes
  have hml : c.maxLocals = 2 := hml0
  have hown : s.vm.findClass "com/example/vigilant_gate/vigilantgate/PasswordPolicy" = some m.cls := findClass_of_methodNamed Bd.named
  have hnm := (name_of_methodNamed Bd.named Bd.method).1
  have X0 : Stand p l e ({ frames := 2, cells := 0, slots := 0, locals := 24 } : Room) s m #[(.ref a1), (.int p1)] below meth c s₁ [] 0 0 := Stand.of_body Bd
  have e0 : s₁.heap = h0 := by rw [← hh, Bd.state]; rfl
  have N0 := Fr.nil Z.heap.size
  have Z0 : Z.heap.size ≤ h0.size := OL.2.1
  have lt_0 : @LT.lt Nat _ a1 h0.size := p0_.lt
  have lt_1 : @LT.lt Nat _ a1 h0.size := p1_.lt
  obtain ⟨PP, hPP⟩ : ∃ PP : Outcome → State → Prop, PP = (fun o tE => ∃ v L, o = .returned v ∧ Q_ppinit Z a1 p1 h0 v tE.heap L ∧ FrameEnd s o tE L ({ frames := 2, cells := 0, slots := 0, locals := 24 } : Room).cells ({ frames := 2, cells := 0, slots := 0, locals := 24 } : Room).slots) := ⟨_, rfl⟩
  show own_Go p.tables e below (fun o tE => ∃ v L, o = .returned v ∧ Q_ppinit Z a1 p1 h0 v tE.heap L ∧ FrameEnd s o tE L ({ frames := 2, cells := 0, slots := 0, locals := 24 } : Room).cells ({ frames := 2, cells := 0, slots := 0, locals := 24 } : Room).slots) (s₁.setTop (entryFrame m #[(.ref a1), (.int p1)] 2))
  rw [← hPP]
  refine own_Go.st (fun t k => castTop (ef_73 m a1 p1) k) ?_
  show own_Go _ _ _ _ (s₁.setTop (mkF m 0 #[.val (.ref a1), .val (.int p1)] []))
  refine own_Go.st (fun _ k => XS.aloadN X0.here hx rfl (hb hby d_prog_11_method_1_0) rfl rfl k) ?_
  show own_Go _ _ _ _ (s₁.setTop (mkF m 1 #[.val (.ref a1), .val (.int p1)] [(.ref a1)]))
  obtain ⟨_, _, ⟨T498, L498, k498, n498⟩, -, X498, ⟨Lc498, hQ498, l498, y498, z498⟩, st498⟩ := X0.specialBack hx (y := (⟨"java/lang/Record", "<init>", "()V"⟩ : MethodName)) rfl hown (mvT hZ (hw _ (List.mem_of_getElem? (i := 75) rfl))) (mvT hZ (hw _ (List.mem_of_getElem? (i := 76) rfl))) (mvT hZ (hw _ (List.mem_of_getElem? (i := 79) rfl))) (by decide) (backOf (W := 0) (rm_record l Z a0 hw [] a1 h0 OL ) hZ (hw _ (List.mem_of_getElem? (i := 79) rfl)) (hw _ (List.mem_of_getElem? (i := 78) rfl)) (by decide) (by decide)) (g := (mkF m 1 #[.val (.ref a1), .val (.int p1)] [(.ref a1)])) rfl (by rw [hml]; rfl) (Steps.refl _) (a := a1) (argsL := []) (rest := []) (lenOf pd_466 rfl) rfl (by show 2 * 0 + _ ≤ _; exact Nat.le_of_eq rfl) (hb hby d_prog_11_method_1_1) (fun _ _ => ⟨rfl, e0, (by decide : 0 + 0 ≤ _), (by decide : 0 + 0 ≤ _)⟩)
  dsimp only [Pt.U, Pt.locs, Pt.cells, Pt.slots] at X498 l498 y498 z498 st498 hQ498
  subst l498 y498 z498
  obtain ⟨rfl, N498q, K498⟩ := hQ498
  have N498 := Fr.app N0 N498q
  refine own_Go.tr st498 ?_
  show own_Go _ _ _ _ (T498.setTop (mkF m 4 #[.val (.ref a1), .val (.int p1)] []))
  refine own_Go.st (fun _ k => XS.aloadN X498.here hx rfl (hb hby d_prog_11_method_1_4) rfl rfl k) ?_
  show own_Go _ _ _ _ (T498.setTop (mkF m 5 #[.val (.ref a1), .val (.int p1)] [(.ref a1)]))
  refine own_Go.st (fun _ k => XS.iloadN X498.here hx rfl (hb hby d_prog_11_method_1_5) rfl k) ?_
  show own_Go _ _ _ _ (T498.setTop (mkF m 6 #[.val (.ref a1), .val (.int p1)] [(.int p1), (.ref a1)]))
  obtain ⟨T499, h499, X499, e499, W499, st499⟩ := putF X498 hx hZ hown (host := "") (Or.inl (hw _ (List.mem_of_getElem? (i := 81) rfl))) Via.refl K498 p1_ p0_ (Or.inr ⟨(hw _ (List.mem_of_getElem? (i := 82) rfl)), rfl, hnm⟩) (hw _ (List.mem_of_getElem? (i := 70) rfl)) (ty := .int) (by decide) rfl rfl (g := (mkF m 6 #[.val (.ref a1), .val (.int p1)] [(.int p1), (.ref a1)])) rfl rfl (hb hby d_prog_11_method_1_6)
  refine own_Go.st st499 ?_
  have N499 := Fr.snoc X499 N498 (by omega)
  have z499 : h0.size ≤ h499.size := Nat.le_of_eq W499.size.symm
  have f500 : Fld Z h499 a1 "com/example/vigilant_gate/vigilantgate/PasswordPolicy" "minimumPasswordLength" "I" (.int p1) := p1_.same W499
  show own_Go _ _ _ _ (T499.setTop (mkF m 9 #[.val (.ref a1), .val (.int p1)] []))
  obtain ⟨fs501, hr501, hrun501, hend501, hW501, hsm501⟩ := X499.leave (v := none) (fun _ => rfl)
  have K502 : Keep h0 h499 [a1] := (Keep.refl h0 [a1]).wr W499 (Or.inl (List.mem_of_getElem? (i := 0) rfl))
  have f503 : Exa Z h499 a1 "com/example/vigilant_gate/vigilantgate/PasswordPolicy" := p0_.wr W499
  subst hPP
  refine ⟨_, _, X499.returnOut hx Bd.returns (hb hby d_prog_11_method_1_9) hr501, hrun501, hend501, _, _, rfl, ?_, ⟨_, rfl⟩, hW501, hsm501.mono (by decide) (by decide)⟩
  · show Q_ppinit Z _ _ h0 _ T499.heap _
    rw [e499]
    exact ⟨rfl, N499, K502, f503, f500⟩
theorem d_prog_11_method_2_0 : decode prog_11_method_2_code 0 = .ok (.aload_n 1, 1) := by decide +kernel
theorem d_prog_11_method_2_1 : decode prog_11_method_2_code 1 = .ok (.iconst 0, 1) := by decide +kernel
theorem d_prog_11_method_2_2 : decode prog_11_method_2_code 2 = .ok (.aload_n 1, 1) := by decide +kernel
theorem d_prog_11_method_2_3 : decode prog_11_method_2_code 3 = .ok (.invokevirtual 13, 3) := by decide +kernel
theorem pd_476 : parseMethodDescriptor "(II)I" = some ⟨[.int, .int], some .int⟩ := by decide +kernel
theorem d_prog_11_method_2_6 : decode prog_11_method_2_code 6 = .ok (.invokevirtual 19, 3) := by decide +kernel
theorem d_prog_11_method_2_9 : decode prog_11_method_2_code 9 = .ok (.aload_n 0, 1) := by decide +kernel
theorem d_prog_11_method_2_10 : decode prog_11_method_2_code 10 = .ok (.getfield 7, 3) := by decide +kernel
theorem d_prog_11_method_2_13 : decode prog_11_method_2_code 13 = .ok (.if_icmp .lt 7, 3) := by decide +kernel
theorem d_prog_11_method_2_20 : decode prog_11_method_2_code 20 = .ok (.iconst 0, 1) := by decide +kernel
theorem d_prog_11_method_2_21 : decode prog_11_method_2_code 21 = .ok (.ireturn, 1) := by decide +kernel
theorem d_prog_11_method_2_16 : decode prog_11_method_2_code 16 = .ok (.iconst 1, 1) := by decide +kernel
theorem d_prog_11_method_2_17 : decode prog_11_method_2_code 17 = .ok (.goto 4, 3) := by decide +kernel
def Q_admits (Z : State) (a1 : Nat) (a2 : Nat) (mi : Int32) (t : Nat) (cs : List Int32) (zc : Int32) (h0 : Heap) (v : Option Value) (h : Heap) (L : List Loc) : Prop := ∃ (r : Int32), v = some (.int r) ∧ Fr Z.heap.size L ∧ h = h0 ∧ ((r = 0 ∧ (Int32.ofNat (cs.length - own_pairs cs)) < mi) ∨ (r = 1 ∧ ¬ (Int32.ofNat (cs.length - own_pairs cs)) < mi))
set_option maxRecDepth 65536 in
set_option maxHeartbeats 40000000 in
theorem rm_admits (l : Launch) (Z : State) (a0 : Array Value) (hw : ∀ d ∈ tables_1, d.before a0 Z = true) (ws : List Jvm.Cond) (a1 : Nat) (a2 : Nat) (mi : Int32) (t : Nat) (cs : List Int32) (zc : Int32) (h0 : Heap) (OL : Old Z Z.heap.size h0) (p0_ : Fld Z h0 a1 "com/example/vigilant_gate/vigilantgate/PasswordPolicy" "minimumPasswordLength" "I" (.int mi)) (p1_ : own_Str Z h0 a2 t cs) (st_COMPACT_STRINGS : Sta Z Z.heap "java/lang/String" "COMPACT_STRINGS" "Z" (.int zc)) (st__assertionsDisabled : Sta Z Z.heap "java/lang/StringUTF16" "$assertionsDisabled" "Z" (.int (1 : Int32))) (st_HI_BYTE_SHIFT : Sta Z Z.heap "java/lang/StringUTF16" "HI_BYTE_SHIFT" "I" (.int (0 : Int32))) (st_LO_BYTE_SHIFT : Sta Z Z.heap "java/lang/StringUTF16" "LO_BYTE_SHIFT" "I" (.int (8 : Int32))) (hzc : ¬ zc = 0) :
    MetFree l (⟨"com/example/vigilant_gate/vigilantgate/PasswordPolicy", "admits", "(Ljava/lang/String;)Z"⟩ : MethodName) (head1 (Jvm.Cond.code (⟨"com/example/vigilant_gate/vigilantgate/PasswordPolicy", "admits", "(Ljava/lang/String;)Z"⟩ : MethodName) prog_11_method_2_code 2 (some .boolean) :: ws) ({ frames := 4, cells := 0, slots := 0, locals := 66 } : Room)) (fun a U => a = #[(.ref a1), (.ref a2)] ∧ Z.Warmed39 U.vm ∧ U.heap = h0) (fun _ _ _ _ _ => True) (fun _ U o U' => ∃ v L, o = .returned v ∧ Q_admits Z a1 a2 mi t cs zc h0 v U'.heap L ∧ FrameEnd U o U' L ({ frames := 4, cells := 0, slots := 0, locals := 66 } : Room).cells ({ frames := 4, cells := 0, slots := 0, locals := 66 } : Room).slots) := by
  refine MetFree.of_bodySF (plainFor_of_name pn_464) hisR ?_
  intro p e s m args below meth c s₁ Bd hml0 hP hK
  obtain ⟨rfl, hZ, hh⟩ := hP
  have hx := Bd.exec
  have hby := Bd.bytes
  have hml : c.maxLocals = 2 := hml0
  have hown : s.vm.findClass "com/example/vigilant_gate/vigilantgate/PasswordPolicy" = some m.cls := findClass_of_methodNamed Bd.named
  have hnm := (name_of_methodNamed Bd.named Bd.method).1
  have X0 : Stand p l e ({ frames := 4, cells := 0, slots := 0, locals := 66 } : Room) s m #[(.ref a1), (.ref a2)] below meth c s₁ [] 0 0 := Stand.of_body Bd
  have e0 : s₁.heap = h0 := by rw [← hh, Bd.state]; rfl
  have N0 := Fr.nil Z.heap.size
  have Z0 : Z.heap.size ≤ h0.size := OL.2.1
  have lt_0 : @LT.lt Nat _ a1 h0.size := p0_.lt
  have lt_1 : @LT.lt Nat _ a2 h0.size := p1_.lt
  have ltv_1 : @LT.lt Nat _ t h0.size := p1_.ltv
  obtain ⟨PP, hPP⟩ : ∃ PP : Outcome → State → Prop, PP = (fun o tE => ∃ v L, o = .returned v ∧ Q_admits Z a1 a2 mi t cs zc h0 v tE.heap L ∧ FrameEnd s o tE L ({ frames := 4, cells := 0, slots := 0, locals := 66 } : Room).cells ({ frames := 4, cells := 0, slots := 0, locals := 66 } : Room).slots) := ⟨_, rfl⟩
  show own_Go p.tables e below (fun o tE => ∃ v L, o = .returned v ∧ Q_admits Z a1 a2 mi t cs zc h0 v tE.heap L ∧ FrameEnd s o tE L ({ frames := 4, cells := 0, slots := 0, locals := 66 } : Room).cells ({ frames := 4, cells := 0, slots := 0, locals := 66 } : Room).slots) (s₁.setTop (entryFrame m #[(.ref a1), (.ref a2)] 2))
  rw [← hPP]
  refine own_Go.st (fun t k => castTop (ef_15 m a1 a2) k) ?_
  show own_Go _ _ _ _ (s₁.setTop (mkF m 0 #[.val (.ref a1), .val (.ref a2)] []))
  refine own_Go.st (fun _ k => XS.aloadN X0.here hx rfl (hb hby d_prog_11_method_2_0) rfl rfl k) ?_
  show own_Go _ _ _ _ (s₁.setTop (mkF m 1 #[.val (.ref a1), .val (.ref a2)] [(.ref a2)]))
  refine own_Go.st (fun _ k => XS.iconst X0.here hx rfl (hb hby d_prog_11_method_2_1) k) ?_
  show own_Go _ _ _ _ (s₁.setTop (mkF m 2 #[.val (.ref a1), .val (.ref a2)] [(.int (0 : Int32)), (.ref a2)]))
  refine own_Go.st (fun _ k => XS.aloadN X0.here hx rfl (hb hby d_prog_11_method_2_2) rfl rfl k) ?_
  show own_Go _ _ _ _ (s₁.setTop (mkF m 3 #[.val (.ref a1), .val (.ref a2)] [(.ref a2), (.int (0 : Int32)), (.ref a2)]))
  obtain ⟨kb505, cd505, N505_, vs505, s1505, s2505, s3505, s4505, s5505, s6505, s7505⟩ := id p1_
  obtain ⟨cq504, kq504, q504a, q504b, q504c⟩ := isOf hZ e0 p1_.exa
  obtain ⟨_, _, ⟨T504, L504, k504, n504⟩, -, X504, ⟨Lc504, hQ504, l504, y504, z504⟩, st504⟩ := X0.virtualBack hx (y := (⟨"java/lang/String", "length", "()I"⟩ : MethodName)) (z := (⟨"java/lang/String", "length", "()I"⟩ : MethodName)) hown (mvT hZ (hw _ (List.mem_of_getElem? (i := 88) rfl))) (mvT hZ (hw _ (List.mem_of_getElem? (i := 89) rfl))) (notFace_of_selects (args := #[]) (mvT hZ (hw _ (List.mem_of_getElem? (i := 91) rfl)))) (mvT hZ (hw _ (List.mem_of_getElem? (i := 91) rfl))) (mvT hZ (hw _ (List.mem_of_getElem? (i := 90) rfl))) (by decide) (StrChars.Road.lenW (W := 2) hZ (own_hln hw) (kI := 4) (hw _ (List.mem_of_getElem? (i := 11) rfl)) s1505 s2505 s3505 s4505 s5505 s6505 (st_COMPACT_STRINGS.ext OL.2) hzc s7505 (by decide) (by decide)) q504a q504c (g := (mkF m 3 #[.val (.ref a1), .val (.ref a2)] [(.ref a2), (.int (0 : Int32)), (.ref a2)])) rfl (by rw [hml]; rfl) (Steps.refl _) (argsL := []) (rest := [(.int (0 : Int32)), (.ref a2)]) (lenOf pd_284 rfl) rfl (by show 2 * 0 + _ ≤ _; exact Nat.le_of_eq rfl) (hb hby d_prog_11_method_2_3) (fun _ _ => ⟨rfl, e0, (by decide : 0 + 0 ≤ _), (by decide : 0 + 0 ≤ _)⟩)
  dsimp only [Pt.U, Pt.locs, Pt.cells, Pt.slots] at X504 l504 y504 z504 st504 hQ504
  subst l504 y504 z504
  obtain ⟨rfl, rfl, K504⟩ := hQ504
  have N504 := Fr.app N0 (Fr.nil Z.heap.size)
  refine own_Go.tr st504 ?_
  show own_Go _ _ _ _ (T504.setTop (mkF m 6 #[.val (.ref a1), .val (.ref a2)] [(.int (Int32.ofNat cs.length)), (.int (0 : Int32)), (.ref a2)]))
  obtain ⟨cq506, kq506, q506a, q506b, q506c⟩ := isOf hZ K504 p1_.exa
  obtain ⟨_, _, ⟨T506, L506, k506, n506⟩, -, X506, ⟨Lc506, hQ506, l506, y506, z506⟩, st506⟩ := X504.virtualBack hx (y := (⟨"java/lang/String", "codePointCount", "(II)I"⟩ : MethodName)) (z := (⟨"java/lang/String", "codePointCount", "(II)I"⟩ : MethodName)) hown (mvT hZ (hw _ (List.mem_of_getElem? (i := 98) rfl))) (mvT hZ (hw _ (List.mem_of_getElem? (i := 99) rfl))) (notFace_of_selects (args := #[]) (mvT hZ (hw _ (List.mem_of_getElem? (i := 101) rfl)))) (mvT hZ (hw _ (List.mem_of_getElem? (i := 101) rfl))) (mvT hZ (hw _ (List.mem_of_getElem? (i := 100) rfl))) (by decide) (backOf (W := 0) (rm_cpc l Z a0 hw [] a2 (Int32.ofNat cs.length) t cs zc h0 OL p1_ st_COMPACT_STRINGS st__assertionsDisabled st_HI_BYTE_SHIFT st_LO_BYTE_SHIFT rfl (by first | assumption | decide)) hZ (hw _ (List.mem_of_getElem? (i := 102) rfl)) (hw _ (List.mem_of_getElem? (i := 12) rfl)) (by decide) (by decide)) q506a q506c (g := (mkF m 6 #[.val (.ref a1), .val (.ref a2)] [(.int (Int32.ofNat cs.length)), (.int (0 : Int32)), (.ref a2)])) rfl (by rw [hml]; rfl) (Steps.refl _) (argsL := [(.int (0 : Int32)), (.int (Int32.ofNat cs.length))]) (rest := []) (lenOf pd_476 rfl) rfl (by show 2 * 0 + _ ≤ _; exact Nat.le_of_eq rfl) (hb hby d_prog_11_method_2_6) (fun _ _ => ⟨rfl, K504, (by decide : 0 + 0 ≤ _), (by decide : 0 + 0 ≤ _)⟩)
  dsimp only [Pt.U, Pt.locs, Pt.cells, Pt.slots] at X506 l506 y506 z506 st506 hQ506
  subst l506 y506 z506
  obtain ⟨rfl, N506q, K506⟩ := hQ506
  have N506 := Fr.app N504 N506q
  refine own_Go.tr st506 ?_
  show own_Go _ _ _ _ (T506.setTop (mkF m 9 #[.val (.ref a1), .val (.ref a2)] [(.int (Int32.ofNat (cs.length - own_pairs cs)))]))
  refine own_Go.st (fun _ k => XS.aloadN X506.here hx rfl (hb hby d_prog_11_method_2_9) rfl rfl k) ?_
  show own_Go _ _ _ _ (T506.setTop (mkF m 10 #[.val (.ref a1), .val (.ref a2)] [(.ref a1), (.int (Int32.ofNat (cs.length - own_pairs cs)))]))
  obtain ⟨T507, X507, e507, st507⟩ := getF X506 hx hZ hown (host := "") (Or.inl (hw _ (List.mem_of_getElem? (i := 81) rfl))) Via.refl K506 p0_ (g := (mkF m 10 #[.val (.ref a1), .val (.ref a2)] [(.ref a1), (.int (Int32.ofNat (cs.length - own_pairs cs)))])) rfl rfl (hb hby d_prog_11_method_2_10)
  refine own_Go.st st507 ?_
  show own_Go _ _ _ _ (T507.setTop (mkF m 13 #[.val (.ref a1), .val (.ref a2)] [(.int mi), (.int (Int32.ofNat (cs.length - own_pairs cs)))]))
  by_cases hc508 : (Int32.ofNat (cs.length - own_pairs cs)) < mi
  ·
    refine own_Go.st (fun _ k => XS.icmpYes X507.here hx rfl (pc0 := 13) (pc' := 20) rfl (hb hby d_prog_11_method_2_13) rfl (tlt hc508).1 (by decide) (by decide) k) ?_
    show own_Go _ _ _ _ (T507.setTop (mkF m 20 #[.val (.ref a1), .val (.ref a2)] []))
    refine own_Go.st (fun _ k => XS.iconst X507.here hx rfl (hb hby d_prog_11_method_2_20) k) ?_
    show own_Go _ _ _ _ (T507.setTop (mkF m 21 #[.val (.ref a1), .val (.ref a2)] [(.int (0 : Int32))]))
    obtain ⟨fs509, hr509, hrun509, hend509, hW509, hsm509⟩ := X507.leave (v := some (.int (nar .boolean (0 : Int32)))) (fun h => by rw [Bd.returns] at h; cases h)
    subst hPP
    refine ⟨_, _, retN X507 hx (t := .boolean) Bd.returns (by simp) (hb hby d_prog_11_method_2_21) hr509, hrun509, hend509, _, _, rfl, ?_, ⟨_, rfl⟩, hW509, hsm509.mono (by decide) (by decide)⟩
    · show Q_admits Z _ _ _ _ _ _ h0 _ T507.heap _
      rw [e507]
      exact ⟨_, rfl, N506, rfl, (Or.inl ⟨rfl, hc508⟩)⟩
  ·
    refine own_Go.st (fun _ k => XS.icmpNo X507.here hx rfl (hb hby d_prog_11_method_2_13) rfl (flt hc508).1 k) ?_
    show own_Go _ _ _ _ (T507.setTop (mkF m 16 #[.val (.ref a1), .val (.ref a2)] []))
    refine own_Go.st (fun _ k => XS.iconst X507.here hx rfl (hb hby d_prog_11_method_2_16) k) ?_
    show own_Go _ _ _ _ (T507.setTop (mkF m 17 #[.val (.ref a1), .val (.ref a2)] [(.int (1 : Int32))]))
    refine own_Go.st (fun _ k => XS.goto X507.here hx rfl (pc0 := 17) (pc' := 21) rfl (hb hby d_prog_11_method_2_17) (by decide) (by decide) k) ?_
    show own_Go _ _ _ _ (T507.setTop (mkF m 21 #[.val (.ref a1), .val (.ref a2)] [(.int (1 : Int32))]))
    obtain ⟨fs510, hr510, hrun510, hend510, hW510, hsm510⟩ := X507.leave (v := some (.int (nar .boolean (1 : Int32)))) (fun h => by rw [Bd.returns] at h; cases h)
    subst hPP
    refine ⟨_, _, retN X507 hx (t := .boolean) Bd.returns (by simp) (hb hby d_prog_11_method_2_21) hr510, hrun510, hend510, _, _, rfl, ?_, ⟨_, rfl⟩, hW510, hsm510.mono (by decide) (by decide)⟩
    · show Q_admits Z _ _ _ _ _ _ h0 _ T507.heap _
      rw [e507]
      exact ⟨_, rfl, N506, rfl, (Or.inr ⟨rfl, hc508⟩)⟩
theorem ef_485 (m : MethodId) (x0 : Int32) (x1 : Int32) (x2 : Int32) (x3 : Int32) (x4 : Int32) (x5 : Int32) : entryFrame m #[(.int x0), (.int x1), (.int x2), (.int x3), (.int x4), (.int x5)] maxLocals = mkF m 0 #[.val (.int x0), .val (.int x1), .val (.int x2), .val (.int x3), .val (.int x4), .val (.int x5), .unset, .unset, .unset, .unset, .unset, .unset, .unset, .unset, .unset, .unset] [] := by first | (simp [entryFrame, mkF, argsToLocals, Value.category, maxLocals]; done) | rfl
theorem pd_486 : parseMethodDescriptor "(I)C" = some ⟨[.int], some .char⟩ := by decide +kernel
theorem pd_487 : parseMethodDescriptor "(ICCCC)Ljava/lang/String;" = some ⟨[.int, .char, .char, .char, .char], some (.object "java/lang/String")⟩ := by decide +kernel
theorem pd_488 : parseMethodDescriptor "(I)V" = some ⟨[.int], none⟩ := by decide +kernel
theorem pd_489 : parseMethodDescriptor "(Ljava/lang/String;)Z" = some ⟨[(.object "java/lang/String")], some .boolean⟩ := by decide +kernel
theorem pd_490 : parseMethodDescriptor "(CC)I" = some ⟨[.char, .char], some .int⟩ := by decide +kernel
def Q_law (Z : State) (p1 : Int32) (p2 : Int32) (p3 : Int32) (p4 : Int32) (p5 : Int32) (p6 : Int32) (zc : Int32) (h0 : Heap) (v : Option Value) (h : Heap) (L : List Loc) : Prop := v = some (.int (1 : Int32)) ∧ Fr Z.heap.size L ∧ Keep h0 h []
set_option maxRecDepth 65536 in
set_option maxHeartbeats 40000000 in
theorem rm_law (l : Launch) (Z : State) (a0 : Array Value) (hw : ∀ d ∈ tables_1, d.before a0 Z = true) (ws : List Jvm.Cond) (p1 : Int32) (p2 : Int32) (p3 : Int32) (p4 : Int32) (p5 : Int32) (p6 : Int32) (zc : Int32) (h0 : Heap) (hEL : EW Z a0 consts_1) (OL : Old Z Z.heap.size h0) (st_COMPACT_STRINGS : Sta Z Z.heap "java/lang/String" "COMPACT_STRINGS" "Z" (.int zc)) (st__assertionsDisabled : Sta Z Z.heap "java/lang/StringUTF16" "$assertionsDisabled" "Z" (.int (1 : Int32))) (st_HI_BYTE_SHIFT : Sta Z Z.heap "java/lang/StringUTF16" "HI_BYTE_SHIFT" "I" (.int (0 : Int32))) (st_LO_BYTE_SHIFT : Sta Z Z.heap "java/lang/StringUTF16" "LO_BYTE_SHIFT" "I" (.int (8 : Int32))) (hzc : ¬ zc = 0) :
    MetFree l x (head1 (Jvm.Cond.code x code maxLocals ret :: ws) room_1) (fun a U => a = #[(.int p1), (.int p2), (.int p3), (.int p4), (.int p5), (.int p6)] ∧ Z.Warmed39 U.vm ∧ U.heap = h0 ∧ CHv Z consts_1 U.vm h0) (fun _ _ _ _ _ => True) (fun _ U o U' => ∃ v L, o = .returned v ∧ Q_law Z p1 p2 p3 p4 p5 p6 zc h0 v U'.heap L ∧ CHr Z consts_1 U.vm U.heap U'.vm U'.heap ∧ ReturnedEndW U o U' L 24 1152) := by
  refine MetFree.of_bodySF (plainFor_of_name pn_304) hisR ?_
  intro p e s m args below meth c s₁ Bd hml0 hP hK
  obtain ⟨rfl, hZ, hh, hC0⟩ := hP
  have hx := Bd.exec
  have hby := Bd.bytes
  have hml : c.maxLocals = 16 := hml0
  have hown : s.vm.findClass "com/example/vigilant_gate/vigilantgate/PasswordPolicyAdmitsPinLaw" = some m.cls := findClass_of_methodNamed Bd.named
  have hnm := (name_of_methodNamed Bd.named Bd.method).1
  have X0 : Stand p l e room_1 (s.setVm s.vm) m #[(.int p1), (.int p2), (.int p3), (.int p4), (.int p5), (.int p6)] below meth c s₁ [] 0 0 := Stand.of_body Bd
  have e0 : s₁.heap = h0 := by rw [← hh, Bd.state]; rfl
  have N0 := Fr.nil Z.heap.size
  have Z0 : Z.heap.size ≤ h0.size := OL.2.1
  have hS0 : s.Since s.vm h0.size := (State.WarmedH.refl s).since _
  have wS := own_wS hw
  have R0 : CHr Z consts_1 s.vm h0 s.vm h0 := CHr.refl hC0
  obtain ⟨PP, hPP⟩ : ∃ PP : Outcome → State → Prop, PP = (fun o tE => ∃ v L, o = .returned v ∧ Q_law Z p1 p2 p3 p4 p5 p6 zc h0 v tE.heap L ∧ CHr Z consts_1 s.vm s.heap tE.vm tE.heap ∧ ReturnedEndW s o tE L 24 1152) := ⟨_, rfl⟩
  show own_Go p.tables e below (fun o tE => ∃ v L, o = .returned v ∧ Q_law Z p1 p2 p3 p4 p5 p6 zc h0 v tE.heap L ∧ CHr Z consts_1 s.vm s.heap tE.vm tE.heap ∧ ReturnedEndW s o tE L 24 1152) (s₁.setTop (entryFrame m #[(.int p1), (.int p2), (.int p3), (.int p4), (.int p5), (.int p6)] maxLocals))
  rw [← hPP]
  refine own_Go.st (fun t k => castTop (ef_485 m p1 p2 p3 p4 p5 p6) k) ?_
  show own_Go _ _ _ _ (s₁.setTop (mkF m 0 #[.val (.int p1), .val (.int p2), .val (.int p3), .val (.int p4), .val (.int p5), .val (.int p6), .unset, .unset, .unset, .unset, .unset, .unset, .unset, .unset, .unset, .unset] []))
  refine own_Go.st (fun _ k => XS.iloadN X0.here hx rfl (hb hby at_0) rfl k) ?_
  show own_Go _ _ _ _ (s₁.setTop (mkF m 1 #[.val (.int p1), .val (.int p2), .val (.int p3), .val (.int p4), .val (.int p5), .val (.int p6), .unset, .unset, .unset, .unset, .unset, .unset, .unset, .unset, .unset, .unset] [(.int p2)]))
  refine own_Go.st (fun _ k => XS.bipush X0.here hx rfl (hb hby at_1) k) ?_
  show own_Go _ _ _ _ (s₁.setTop (mkF m 3 #[.val (.int p1), .val (.int p2), .val (.int p3), .val (.int p4), .val (.int p5), .val (.int p6), .unset, .unset, .unset, .unset, .unset, .unset, .unset, .unset, .unset, .unset] [(.int (7 : Int32)), (.int p2)]))
  refine own_Go.st (fun _ k => XS.iand X0.here hx rfl (hb hby at_3) rfl k) ?_
  show own_Go _ _ _ _ (s₁.setTop (mkF m 4 #[.val (.int p1), .val (.int p2), .val (.int p3), .val (.int p4), .val (.int p5), .val (.int p6), .unset, .unset, .unset, .unset, .unset, .unset, .unset, .unset, .unset, .unset] [(.int (p2 &&& (7 : Int32)))]))
  refine own_Go.st (fun _ k => XS.iconst X0.here hx rfl (hb hby at_4) k) ?_
  show own_Go _ _ _ _ (s₁.setTop (mkF m 5 #[.val (.int p1), .val (.int p2), .val (.int p3), .val (.int p4), .val (.int p5), .val (.int p6), .unset, .unset, .unset, .unset, .unset, .unset, .unset, .unset, .unset, .unset] [(.int (5 : Int32)), (.int (p2 &&& (7 : Int32)))]))
  refine own_Go.st (fun _ k => iremM (g := (mkF m 5 #[.val (.int p1), .val (.int p2), .val (.int p3), .val (.int p4), .val (.int p5), .val (.int p6), .unset, .unset, .unset, .unset, .unset, .unset, .unset, .unset, .unset, .unset] [(.int (5 : Int32)), (.int (p2 &&& (7 : Int32)))])) X0 hx rfl (hb hby at_5) rfl (by decide) k) ?_
  show own_Go _ _ _ _ (s₁.setTop (mkF m 6 #[.val (.int p1), .val (.int p2), .val (.int p3), .val (.int p4), .val (.int p5), .val (.int p6), .unset, .unset, .unset, .unset, .unset, .unset, .unset, .unset, .unset, .unset] [(.int ((p2 &&& (7 : Int32)) % (5 : Int32)))]))
  refine own_Go.st (fun _ k => XS.istore X0.here hx rfl (hb hby at_6) rfl (l' := #[.val (.int p1), .val (.int p2), .val (.int p3), .val (.int p4), .val (.int p5), .val (.int p6), .val (.int ((p2 &&& (7 : Int32)) % (5 : Int32))), .unset, .unset, .unset, .unset, .unset, .unset, .unset, .unset, .unset]) rfl k) ?_
  show own_Go _ _ _ _ (s₁.setTop (mkF m 8 #[.val (.int p1), .val (.int p2), .val (.int p3), .val (.int p4), .val (.int p5), .val (.int p6), .val (.int ((p2 &&& (7 : Int32)) % (5 : Int32))), .unset, .unset, .unset, .unset, .unset, .unset, .unset, .unset, .unset] []))
  have hn5 := own_n5 p2
  generalize hne : ((p2 &&& (7 : Int32)) % (5 : Int32)) = nn at hn5 ⊢
  show own_Go _ _ _ _ (s₁.setTop (mkF m 8 #[.val (.int p1), .val (.int p2), .val (.int p3), .val (.int p4), .val (.int p5), .val (.int p6), .val (.int nn), .unset, .unset, .unset, .unset, .unset, .unset, .unset, .unset, .unset] []))
  refine own_Go.st (fun _ k => XS.iloadN X0.here hx rfl (hb hby at_8) rfl k) ?_
  show own_Go _ _ _ _ (s₁.setTop (mkF m 9 #[.val (.int p1), .val (.int p2), .val (.int p3), .val (.int p4), .val (.int p5), .val (.int p6), .val (.int nn), .unset, .unset, .unset, .unset, .unset, .unset, .unset, .unset, .unset] [(.int p3)]))
  obtain ⟨_, _, ⟨T511, L511, k511, n511⟩, -, X511, ⟨Lc511, hQ511, l511, y511, z511⟩, st511⟩ := Jvm.LawKit.callS X0 hx (y := (⟨"com/example/vigilant_gate/vigilantgate/PasswordPolicyAdmitsPinLaw", "draw", "(I)C"⟩ : MethodName)) hown (mvT hZ (hw _ (List.mem_of_getElem? (i := 0) rfl))) (mvT hZ (hw _ (List.mem_of_getElem? (i := 1) rfl))) (mvT hZ (hw _ (List.mem_of_getElem? (i := 2) rfl))) (mvT hZ (hw _ (List.mem_of_getElem? (i := 3) rfl))) (by decide) (backOf (W := 0) (rm_draw l Z a0 hw [] p3 h0 OL ) hZ (hw _ (List.mem_of_getElem? (i := 3) rfl)) (hw _ (List.mem_of_getElem? (i := 2) rfl)) (by decide) (by decide)) (g := (mkF m 9 #[.val (.int p1), .val (.int p2), .val (.int p3), .val (.int p4), .val (.int p5), .val (.int p6), .val (.int nn), .unset, .unset, .unset, .unset, .unset, .unset, .unset, .unset, .unset] [(.int p3)])) rfl (by rw [hml]; rfl) (argsL := [(.int p3)]) (rest := []) (lenOf pd_486 rfl) rfl (by show 2 * 0 + _ ≤ _; exact Nat.le_of_eq rfl) (hb hby at_9) (fun _ _ => ⟨rfl, e0, (by decide : 0 + 0 ≤ _), (by decide : 0 + 0 ≤ _)⟩)
  dsimp only [Pt.U, Pt.locs, Pt.cells, Pt.slots] at X511 l511 y511 z511 st511 hQ511
  subst l511 y511 z511
  obtain ⟨c_511, rfl, N511q, K511, pr511_0⟩ := hQ511
  have N511 := Fr.app N0 N511q
  refine own_Go.st st511 ?_
  show own_Go _ _ _ _ (T511.setTop (mkF m 12 #[.val (.int p1), .val (.int p2), .val (.int p3), .val (.int p4), .val (.int p5), .val (.int p6), .val (.int nn), .unset, .unset, .unset, .unset, .unset, .unset, .unset, .unset, .unset] [(.int c_511)]))
  refine own_Go.st (fun _ k => XS.istore X511.here hx rfl (hb hby at_12) rfl (l' := #[.val (.int p1), .val (.int p2), .val (.int p3), .val (.int p4), .val (.int p5), .val (.int p6), .val (.int nn), .val (.int c_511), .unset, .unset, .unset, .unset, .unset, .unset, .unset, .unset]) rfl k) ?_
  show own_Go _ _ _ _ (T511.setTop (mkF m 14 #[.val (.int p1), .val (.int p2), .val (.int p3), .val (.int p4), .val (.int p5), .val (.int p6), .val (.int nn), .val (.int c_511), .unset, .unset, .unset, .unset, .unset, .unset, .unset, .unset] []))
  refine own_Go.st (fun _ k => XS.iloadN X511.here hx rfl (hb hby at_14) rfl k) ?_
  show own_Go _ _ _ _ (T511.setTop (mkF m 15 #[.val (.int p1), .val (.int p2), .val (.int p3), .val (.int p4), .val (.int p5), .val (.int p6), .val (.int nn), .val (.int c_511), .unset, .unset, .unset, .unset, .unset, .unset, .unset, .unset] [(.int p4)]))
  obtain ⟨_, _, ⟨T512, L512, k512, n512⟩, -, X512, ⟨Lc512, hQ512, l512, y512, z512⟩, st512⟩ := Jvm.LawKit.callS X511 hx (y := (⟨"com/example/vigilant_gate/vigilantgate/PasswordPolicyAdmitsPinLaw", "draw", "(I)C"⟩ : MethodName)) hown (mvT hZ (hw _ (List.mem_of_getElem? (i := 0) rfl))) (mvT hZ (hw _ (List.mem_of_getElem? (i := 1) rfl))) (mvT hZ (hw _ (List.mem_of_getElem? (i := 2) rfl))) (mvT hZ (hw _ (List.mem_of_getElem? (i := 3) rfl))) (by decide) (backOf (W := 0) (rm_draw l Z a0 hw [] p4 h0 OL ) hZ (hw _ (List.mem_of_getElem? (i := 3) rfl)) (hw _ (List.mem_of_getElem? (i := 2) rfl)) (by decide) (by decide)) (g := (mkF m 15 #[.val (.int p1), .val (.int p2), .val (.int p3), .val (.int p4), .val (.int p5), .val (.int p6), .val (.int nn), .val (.int c_511), .unset, .unset, .unset, .unset, .unset, .unset, .unset, .unset] [(.int p4)])) rfl (by rw [hml]; rfl) (argsL := [(.int p4)]) (rest := []) (lenOf pd_486 rfl) rfl (by show 2 * 0 + _ ≤ _; exact Nat.le_of_eq rfl) (hb hby at_15) (fun _ _ => ⟨rfl, K511, (by decide : 0 + 0 ≤ _), (by decide : 0 + 0 ≤ _)⟩)
  dsimp only [Pt.U, Pt.locs, Pt.cells, Pt.slots] at X512 l512 y512 z512 st512 hQ512
  subst l512 y512 z512
  obtain ⟨c_512, rfl, N512q, K512, pr512_0⟩ := hQ512
  have N512 := Fr.app N511 N512q
  refine own_Go.st st512 ?_
  show own_Go _ _ _ _ (T512.setTop (mkF m 18 #[.val (.int p1), .val (.int p2), .val (.int p3), .val (.int p4), .val (.int p5), .val (.int p6), .val (.int nn), .val (.int c_511), .unset, .unset, .unset, .unset, .unset, .unset, .unset, .unset] [(.int c_512)]))
  refine own_Go.st (fun _ k => XS.istore X512.here hx rfl (hb hby at_18) rfl (l' := #[.val (.int p1), .val (.int p2), .val (.int p3), .val (.int p4), .val (.int p5), .val (.int p6), .val (.int nn), .val (.int c_511), .val (.int c_512), .unset, .unset, .unset, .unset, .unset, .unset, .unset]) rfl k) ?_
  show own_Go _ _ _ _ (T512.setTop (mkF m 20 #[.val (.int p1), .val (.int p2), .val (.int p3), .val (.int p4), .val (.int p5), .val (.int p6), .val (.int nn), .val (.int c_511), .val (.int c_512), .unset, .unset, .unset, .unset, .unset, .unset, .unset] []))
  refine own_Go.st (fun _ k => XS.iload X512.here hx rfl (hb hby at_20) rfl k) ?_
  show own_Go _ _ _ _ (T512.setTop (mkF m 22 #[.val (.int p1), .val (.int p2), .val (.int p3), .val (.int p4), .val (.int p5), .val (.int p6), .val (.int nn), .val (.int c_511), .val (.int c_512), .unset, .unset, .unset, .unset, .unset, .unset, .unset] [(.int p5)]))
  obtain ⟨_, _, ⟨T513, L513, k513, n513⟩, -, X513, ⟨Lc513, hQ513, l513, y513, z513⟩, st513⟩ := Jvm.LawKit.callS X512 hx (y := (⟨"com/example/vigilant_gate/vigilantgate/PasswordPolicyAdmitsPinLaw", "draw", "(I)C"⟩ : MethodName)) hown (mvT hZ (hw _ (List.mem_of_getElem? (i := 0) rfl))) (mvT hZ (hw _ (List.mem_of_getElem? (i := 1) rfl))) (mvT hZ (hw _ (List.mem_of_getElem? (i := 2) rfl))) (mvT hZ (hw _ (List.mem_of_getElem? (i := 3) rfl))) (by decide) (backOf (W := 0) (rm_draw l Z a0 hw [] p5 h0 OL ) hZ (hw _ (List.mem_of_getElem? (i := 3) rfl)) (hw _ (List.mem_of_getElem? (i := 2) rfl)) (by decide) (by decide)) (g := (mkF m 22 #[.val (.int p1), .val (.int p2), .val (.int p3), .val (.int p4), .val (.int p5), .val (.int p6), .val (.int nn), .val (.int c_511), .val (.int c_512), .unset, .unset, .unset, .unset, .unset, .unset, .unset] [(.int p5)])) rfl (by rw [hml]; rfl) (argsL := [(.int p5)]) (rest := []) (lenOf pd_486 rfl) rfl (by show 2 * 0 + _ ≤ _; exact Nat.le_of_eq rfl) (hb hby at_22) (fun _ _ => ⟨rfl, K512, (by decide : 0 + 0 ≤ _), (by decide : 0 + 0 ≤ _)⟩)
  dsimp only [Pt.U, Pt.locs, Pt.cells, Pt.slots] at X513 l513 y513 z513 st513 hQ513
  subst l513 y513 z513
  obtain ⟨c_513, rfl, N513q, K513, pr513_0⟩ := hQ513
  have N513 := Fr.app N512 N513q
  refine own_Go.st st513 ?_
  show own_Go _ _ _ _ (T513.setTop (mkF m 25 #[.val (.int p1), .val (.int p2), .val (.int p3), .val (.int p4), .val (.int p5), .val (.int p6), .val (.int nn), .val (.int c_511), .val (.int c_512), .unset, .unset, .unset, .unset, .unset, .unset, .unset] [(.int c_513)]))
  refine own_Go.st (fun _ k => XS.istore X513.here hx rfl (hb hby at_25) rfl (l' := #[.val (.int p1), .val (.int p2), .val (.int p3), .val (.int p4), .val (.int p5), .val (.int p6), .val (.int nn), .val (.int c_511), .val (.int c_512), .val (.int c_513), .unset, .unset, .unset, .unset, .unset, .unset]) rfl k) ?_
  show own_Go _ _ _ _ (T513.setTop (mkF m 27 #[.val (.int p1), .val (.int p2), .val (.int p3), .val (.int p4), .val (.int p5), .val (.int p6), .val (.int nn), .val (.int c_511), .val (.int c_512), .val (.int c_513), .unset, .unset, .unset, .unset, .unset, .unset] []))
  refine own_Go.st (fun _ k => XS.iload X513.here hx rfl (hb hby at_27) rfl k) ?_
  show own_Go _ _ _ _ (T513.setTop (mkF m 29 #[.val (.int p1), .val (.int p2), .val (.int p3), .val (.int p4), .val (.int p5), .val (.int p6), .val (.int nn), .val (.int c_511), .val (.int c_512), .val (.int c_513), .unset, .unset, .unset, .unset, .unset, .unset] [(.int p6)]))
  obtain ⟨_, _, ⟨T514, L514, k514, n514⟩, -, X514, ⟨Lc514, hQ514, l514, y514, z514⟩, st514⟩ := Jvm.LawKit.callS X513 hx (y := (⟨"com/example/vigilant_gate/vigilantgate/PasswordPolicyAdmitsPinLaw", "draw", "(I)C"⟩ : MethodName)) hown (mvT hZ (hw _ (List.mem_of_getElem? (i := 0) rfl))) (mvT hZ (hw _ (List.mem_of_getElem? (i := 1) rfl))) (mvT hZ (hw _ (List.mem_of_getElem? (i := 2) rfl))) (mvT hZ (hw _ (List.mem_of_getElem? (i := 3) rfl))) (by decide) (backOf (W := 0) (rm_draw l Z a0 hw [] p6 h0 OL ) hZ (hw _ (List.mem_of_getElem? (i := 3) rfl)) (hw _ (List.mem_of_getElem? (i := 2) rfl)) (by decide) (by decide)) (g := (mkF m 29 #[.val (.int p1), .val (.int p2), .val (.int p3), .val (.int p4), .val (.int p5), .val (.int p6), .val (.int nn), .val (.int c_511), .val (.int c_512), .val (.int c_513), .unset, .unset, .unset, .unset, .unset, .unset] [(.int p6)])) rfl (by rw [hml]; rfl) (argsL := [(.int p6)]) (rest := []) (lenOf pd_486 rfl) rfl (by show 2 * 0 + _ ≤ _; exact Nat.le_of_eq rfl) (hb hby at_29) (fun _ _ => ⟨rfl, K513, (by decide : 0 + 0 ≤ _), (by decide : 0 + 0 ≤ _)⟩)
  dsimp only [Pt.U, Pt.locs, Pt.cells, Pt.slots] at X514 l514 y514 z514 st514 hQ514
  subst l514 y514 z514
  obtain ⟨c_514, rfl, N514q, K514, pr514_0⟩ := hQ514
  have N514 := Fr.app N513 N514q
  refine own_Go.st st514 ?_
  show own_Go _ _ _ _ (T514.setTop (mkF m 32 #[.val (.int p1), .val (.int p2), .val (.int p3), .val (.int p4), .val (.int p5), .val (.int p6), .val (.int nn), .val (.int c_511), .val (.int c_512), .val (.int c_513), .unset, .unset, .unset, .unset, .unset, .unset] [(.int c_514)]))
  refine own_Go.st (fun _ k => XS.istore X514.here hx rfl (hb hby at_32) rfl (l' := #[.val (.int p1), .val (.int p2), .val (.int p3), .val (.int p4), .val (.int p5), .val (.int p6), .val (.int nn), .val (.int c_511), .val (.int c_512), .val (.int c_513), .val (.int c_514), .unset, .unset, .unset, .unset, .unset]) rfl k) ?_
  show own_Go _ _ _ _ (T514.setTop (mkF m 34 #[.val (.int p1), .val (.int p2), .val (.int p3), .val (.int p4), .val (.int p5), .val (.int p6), .val (.int nn), .val (.int c_511), .val (.int c_512), .val (.int c_513), .val (.int c_514), .unset, .unset, .unset, .unset, .unset] []))
  rcases hn5 with rfl | rfl | rfl | rfl | rfl
  ·
    show own_Go _ _ _ _ (T514.setTop (mkF m 34 #[.val (.int p1), .val (.int p2), .val (.int p3), .val (.int p4), .val (.int p5), .val (.int p6), .val (.int (0 : Int32)), .val (.int c_511), .val (.int c_512), .val (.int c_513), .val (.int c_514), .unset, .unset, .unset, .unset, .unset] []))
    refine own_Go.st (fun _ k => XS.iload X514.here hx rfl (hb hby at_34) rfl k) ?_
    show own_Go _ _ _ _ (T514.setTop (mkF m 36 #[.val (.int p1), .val (.int p2), .val (.int p3), .val (.int p4), .val (.int p5), .val (.int p6), .val (.int (0 : Int32)), .val (.int c_511), .val (.int c_512), .val (.int c_513), .val (.int c_514), .unset, .unset, .unset, .unset, .unset] [(.int (0 : Int32))]))
    refine own_Go.st (fun _ k => XS.iload X514.here hx rfl (hb hby at_36) rfl k) ?_
    show own_Go _ _ _ _ (T514.setTop (mkF m 38 #[.val (.int p1), .val (.int p2), .val (.int p3), .val (.int p4), .val (.int p5), .val (.int p6), .val (.int (0 : Int32)), .val (.int c_511), .val (.int c_512), .val (.int c_513), .val (.int c_514), .unset, .unset, .unset, .unset, .unset] [(.int c_511), (.int (0 : Int32))]))
    refine own_Go.st (fun _ k => XS.iload X514.here hx rfl (hb hby at_38) rfl k) ?_
    show own_Go _ _ _ _ (T514.setTop (mkF m 40 #[.val (.int p1), .val (.int p2), .val (.int p3), .val (.int p4), .val (.int p5), .val (.int p6), .val (.int (0 : Int32)), .val (.int c_511), .val (.int c_512), .val (.int c_513), .val (.int c_514), .unset, .unset, .unset, .unset, .unset] [(.int c_512), (.int c_511), (.int (0 : Int32))]))
    refine own_Go.st (fun _ k => XS.iload X514.here hx rfl (hb hby at_40) rfl k) ?_
    show own_Go _ _ _ _ (T514.setTop (mkF m 42 #[.val (.int p1), .val (.int p2), .val (.int p3), .val (.int p4), .val (.int p5), .val (.int p6), .val (.int (0 : Int32)), .val (.int c_511), .val (.int c_512), .val (.int c_513), .val (.int c_514), .unset, .unset, .unset, .unset, .unset] [(.int c_513), (.int c_512), (.int c_511), (.int (0 : Int32))]))
    refine own_Go.st (fun _ k => XS.iload X514.here hx rfl (hb hby at_42) rfl k) ?_
    show own_Go _ _ _ _ (T514.setTop (mkF m 44 #[.val (.int p1), .val (.int p2), .val (.int p3), .val (.int p4), .val (.int p5), .val (.int p6), .val (.int (0 : Int32)), .val (.int c_511), .val (.int c_512), .val (.int c_513), .val (.int c_514), .unset, .unset, .unset, .unset, .unset] [(.int c_514), (.int c_513), (.int c_512), (.int c_511), (.int (0 : Int32))]))
    obtain ⟨_, _, ⟨T515, L515, k515, n515⟩, -, X515, hs515, hg515, ⟨Lc515, hQ515, l515, y515, z515, ch515⟩, st515⟩ := callSS X514 hx (y := (⟨"com/example/vigilant_gate/vigilantgate/PasswordPolicyAdmitsPinLaw", "build", "(ICCCC)Ljava/lang/String;"⟩ : MethodName)) hown (mvT hZ (hw _ (List.mem_of_getElem? (i := 7) rfl))) (mvT hZ (hw _ (List.mem_of_getElem? (i := 8) rfl))) (mvT hZ (hw _ (List.mem_of_getElem? (i := 2) rfl))) (mvT hZ (hw _ (List.mem_of_getElem? (i := 9) rfl))) (by decide) (backOfSH (s := s) (vm0 := s.vm) (W := 0) (rm_build l Z a0 hw [] (0 : Int32) c_511 c_512 c_513 c_514 zc h0 hEL OL st_COMPACT_STRINGS st__assertionsDisabled st_HI_BYTE_SHIFT st_LO_BYTE_SHIFT (by first | assumption | decide) (by first | assumption | decide) (by first | assumption | decide) (by first | assumption | decide) (by first | assumption | decide)) hZ (hw _ (List.mem_of_getElem? (i := 9) rfl)) (hw _ (List.mem_of_getElem? (i := 2) rfl)) (by decide) (by decide) hEL R0.1) (g := (mkF m 44 #[.val (.int p1), .val (.int p2), .val (.int p3), .val (.int p4), .val (.int p5), .val (.int p6), .val (.int (0 : Int32)), .val (.int c_511), .val (.int c_512), .val (.int c_513), .val (.int c_514), .unset, .unset, .unset, .unset, .unset] [(.int c_514), (.int c_513), (.int c_512), (.int c_511), (.int (0 : Int32))])) rfl (by rw [hml]; rfl) (argsL := [(.int (0 : Int32)), (.int c_511), (.int c_512), (.int c_513), (.int c_514)]) (rest := []) (lenOf pd_487 rfl) rfl (by show 2 * 0 + _ ≤ _; exact Nat.le_of_eq rfl) (hb hby at_44) (fun _ _ => ⟨rfl, K514, (by decide : 0 + 6 ≤ _), (by decide : 0 + 20 ≤ _)⟩)
    dsimp only [Pt.U, Pt.locs, Pt.cells, Pt.slots] at X515 l515 y515 z515 st515 hQ515 hs515 hg515 ch515
    subst l515 y515 z515
    obtain ⟨x_515, t_515, cs_515, rfl, N515q, K515, f515_0, pr515_0⟩ := hQ515
    have N515 := Fr.app N514 N515q
    obtain ⟨Y515, hS515, hZ515, hown515⟩ := rebS hS0 (n1 := h0.size) (by omega) X515 hs515 (by have := hg515; first | exact this | (rw [← K514]; exact this)) hZ hown
    have z515 : h0.size ≤ T515.heap.size := K515.1
    have R515 : CHr Z consts_1 s.vm h0 T515.vm T515.heap := R0.trans ch515
    have lt515_0 : @LT.lt Nat _ x_515 T515.heap.size := f515_0.lt
    have ltv515_0 : @LT.lt Nat _ t_515 T515.heap.size := f515_0.ltv
    have hcs : cs_515 = ([] : List Int32) := by rw [pr515_0]; rfl
    refine own_Go.tr st515 ?_
    show own_Go _ _ _ _ (T515.setTop (mkF m 47 #[.val (.int p1), .val (.int p2), .val (.int p3), .val (.int p4), .val (.int p5), .val (.int p6), .val (.int (0 : Int32)), .val (.int c_511), .val (.int c_512), .val (.int c_513), .val (.int c_514), .unset, .unset, .unset, .unset, .unset] [(.ref x_515)]))
    refine own_Go.st (fun _ k => XS.astore Y515.here hx rfl (hb hby at_47) rfl rfl (l' := #[.val (.int p1), .val (.int p2), .val (.int p3), .val (.int p4), .val (.int p5), .val (.int p6), .val (.int (0 : Int32)), .val (.int c_511), .val (.int c_512), .val (.int c_513), .val (.int c_514), .val (.ref x_515), .unset, .unset, .unset, .unset]) rfl k) ?_
    show own_Go _ _ _ _ (T515.setTop (mkF m 49 #[.val (.int p1), .val (.int p2), .val (.int p3), .val (.int p4), .val (.int p5), .val (.int p6), .val (.int (0 : Int32)), .val (.int c_511), .val (.int c_512), .val (.int c_513), .val (.int c_514), .val (.ref x_515), .unset, .unset, .unset, .unset] []))
    refine own_Go.st (fun _ k => XS.iconst Y515.here hx rfl (hb hby at_49) k) ?_
    show own_Go _ _ _ _ (T515.setTop (mkF m 50 #[.val (.int p1), .val (.int p2), .val (.int p3), .val (.int p4), .val (.int p5), .val (.int p6), .val (.int (0 : Int32)), .val (.int c_511), .val (.int c_512), .val (.int c_513), .val (.int c_514), .val (.ref x_515), .unset, .unset, .unset, .unset] [(.int (0 : Int32))]))
    refine own_Go.st (fun _ k => XS.istore Y515.here hx rfl (hb hby at_50) rfl (l' := #[.val (.int p1), .val (.int p2), .val (.int p3), .val (.int p4), .val (.int p5), .val (.int p6), .val (.int (0 : Int32)), .val (.int c_511), .val (.int c_512), .val (.int c_513), .val (.int c_514), .val (.ref x_515), .val (.int (0 : Int32)), .unset, .unset, .unset]) rfl k) ?_
    show own_Go _ _ _ _ (T515.setTop (mkF m 52 #[.val (.int p1), .val (.int p2), .val (.int p3), .val (.int p4), .val (.int p5), .val (.int p6), .val (.int (0 : Int32)), .val (.int c_511), .val (.int c_512), .val (.int c_513), .val (.int c_514), .val (.ref x_515), .val (.int (0 : Int32)), .unset, .unset, .unset] []))
    refine own_Go.st (fun _ k => XS.iload Y515.here hx rfl (hb hby at_52) rfl k) ?_
    show own_Go _ _ _ _ (T515.setTop (mkF m 54 #[.val (.int p1), .val (.int p2), .val (.int p3), .val (.int p4), .val (.int p5), .val (.int p6), .val (.int (0 : Int32)), .val (.int c_511), .val (.int c_512), .val (.int c_513), .val (.int c_514), .val (.ref x_515), .val (.int (0 : Int32)), .unset, .unset, .unset] [(.int (0 : Int32))]))
    refine own_Go.st (fun _ k => XS.iconst Y515.here hx rfl (hb hby at_54) k) ?_
    show own_Go _ _ _ _ (T515.setTop (mkF m 55 #[.val (.int p1), .val (.int p2), .val (.int p3), .val (.int p4), .val (.int p5), .val (.int p6), .val (.int (0 : Int32)), .val (.int c_511), .val (.int c_512), .val (.int c_513), .val (.int c_514), .val (.ref x_515), .val (.int (0 : Int32)), .unset, .unset, .unset] [(.int (2 : Int32)), (.int (0 : Int32))]))
    refine own_Go.st (fun _ k => XS.icmpYes Y515.here hx rfl (pc0 := 55) (pc' := 70) rfl (hb hby at_55) rfl (tlt (by decide : (0 : Int32) < (2 : Int32))).1 (by decide) (by decide) k) ?_
    show own_Go _ _ _ _ (T515.setTop (mkF m 70 #[.val (.int p1), .val (.int p2), .val (.int p3), .val (.int p4), .val (.int p5), .val (.int p6), .val (.int (0 : Int32)), .val (.int c_511), .val (.int c_512), .val (.int c_513), .val (.int c_514), .val (.ref x_515), .val (.int (0 : Int32)), .unset, .unset, .unset] []))
    refine own_Go.st (fun _ k => XS.iload Y515.here hx rfl (hb hby at_70) rfl k) ?_
    show own_Go _ _ _ _ (T515.setTop (mkF m 72 #[.val (.int p1), .val (.int p2), .val (.int p3), .val (.int p4), .val (.int p5), .val (.int p6), .val (.int (0 : Int32)), .val (.int c_511), .val (.int c_512), .val (.int c_513), .val (.int c_514), .val (.ref x_515), .val (.int (0 : Int32)), .unset, .unset, .unset] [(.int (0 : Int32))]))
    refine own_Go.st (fun _ k => XS.iconst Y515.here hx rfl (hb hby at_72) k) ?_
    show own_Go _ _ _ _ (T515.setTop (mkF m 73 #[.val (.int p1), .val (.int p2), .val (.int p3), .val (.int p4), .val (.int p5), .val (.int p6), .val (.int (0 : Int32)), .val (.int c_511), .val (.int c_512), .val (.int c_513), .val (.int c_514), .val (.ref x_515), .val (.int (0 : Int32)), .unset, .unset, .unset] [(.int (3 : Int32)), (.int (0 : Int32))]))
    refine own_Go.st (fun _ k => XS.icmpYes Y515.here hx rfl (pc0 := 73) (pc' := 88) rfl (hb hby at_73) rfl (tlt (by decide : (0 : Int32) < (3 : Int32))).1 (by decide) (by decide) k) ?_
    show own_Go _ _ _ _ (T515.setTop (mkF m 88 #[.val (.int p1), .val (.int p2), .val (.int p3), .val (.int p4), .val (.int p5), .val (.int p6), .val (.int (0 : Int32)), .val (.int c_511), .val (.int c_512), .val (.int c_513), .val (.int c_514), .val (.ref x_515), .val (.int (0 : Int32)), .unset, .unset, .unset] []))
    refine own_Go.st (fun _ k => XS.iload Y515.here hx rfl (hb hby at_88) rfl k) ?_
    show own_Go _ _ _ _ (T515.setTop (mkF m 90 #[.val (.int p1), .val (.int p2), .val (.int p3), .val (.int p4), .val (.int p5), .val (.int p6), .val (.int (0 : Int32)), .val (.int c_511), .val (.int c_512), .val (.int c_513), .val (.int c_514), .val (.ref x_515), .val (.int (0 : Int32)), .unset, .unset, .unset] [(.int (0 : Int32))]))
    refine own_Go.st (fun _ k => XS.iconst Y515.here hx rfl (hb hby at_90) k) ?_
    show own_Go _ _ _ _ (T515.setTop (mkF m 91 #[.val (.int p1), .val (.int p2), .val (.int p3), .val (.int p4), .val (.int p5), .val (.int p6), .val (.int (0 : Int32)), .val (.int c_511), .val (.int c_512), .val (.int c_513), .val (.int c_514), .val (.ref x_515), .val (.int (0 : Int32)), .unset, .unset, .unset] [(.int (4 : Int32)), (.int (0 : Int32))]))
    refine own_Go.st (fun _ k => XS.icmpYes Y515.here hx rfl (pc0 := 91) (pc' := 106) rfl (hb hby at_91) rfl (tlt (by decide : (0 : Int32) < (4 : Int32))).1 (by decide) (by decide) k) ?_
    show own_Go _ _ _ _ (T515.setTop (mkF m 106 #[.val (.int p1), .val (.int p2), .val (.int p3), .val (.int p4), .val (.int p5), .val (.int p6), .val (.int (0 : Int32)), .val (.int c_511), .val (.int c_512), .val (.int c_513), .val (.int c_514), .val (.ref x_515), .val (.int (0 : Int32)), .unset, .unset, .unset] []))
    refine own_Go.st (fun _ k => XS.iload Y515.here hx rfl (hb hby at_106) rfl k) ?_
    show own_Go _ _ _ _ (T515.setTop (mkF m 108 #[.val (.int p1), .val (.int p2), .val (.int p3), .val (.int p4), .val (.int p5), .val (.int p6), .val (.int (0 : Int32)), .val (.int c_511), .val (.int c_512), .val (.int c_513), .val (.int c_514), .val (.ref x_515), .val (.int (0 : Int32)), .unset, .unset, .unset] [(.int (0 : Int32))]))
    refine own_Go.st (fun _ k => XS.iload Y515.here hx rfl (hb hby at_108) rfl k) ?_
    show own_Go _ _ _ _ (T515.setTop (mkF m 110 #[.val (.int p1), .val (.int p2), .val (.int p3), .val (.int p4), .val (.int p5), .val (.int p6), .val (.int (0 : Int32)), .val (.int c_511), .val (.int c_512), .val (.int c_513), .val (.int c_514), .val (.ref x_515), .val (.int (0 : Int32)), .unset, .unset, .unset] [(.int (0 : Int32)), (.int (0 : Int32))]))
    refine own_Go.st (fun _ k => XS.isub Y515.here hx rfl (hb hby at_110) rfl k) ?_
    show own_Go _ _ _ _ (T515.setTop (mkF m 111 #[.val (.int p1), .val (.int p2), .val (.int p3), .val (.int p4), .val (.int p5), .val (.int p6), .val (.int (0 : Int32)), .val (.int c_511), .val (.int c_512), .val (.int c_513), .val (.int c_514), .val (.ref x_515), .val (.int (0 : Int32)), .unset, .unset, .unset] [(.int (0 : Int32))]))
    refine own_Go.st (fun _ k => XS.istore Y515.here hx rfl (hb hby at_111) rfl (l' := #[.val (.int p1), .val (.int p2), .val (.int p3), .val (.int p4), .val (.int p5), .val (.int p6), .val (.int (0 : Int32)), .val (.int c_511), .val (.int c_512), .val (.int c_513), .val (.int c_514), .val (.ref x_515), .val (.int (0 : Int32)), .val (.int (0 : Int32)), .unset, .unset]) rfl k) ?_
    show own_Go _ _ _ _ (T515.setTop (mkF m 113 #[.val (.int p1), .val (.int p2), .val (.int p3), .val (.int p4), .val (.int p5), .val (.int p6), .val (.int (0 : Int32)), .val (.int c_511), .val (.int c_512), .val (.int c_513), .val (.int c_514), .val (.ref x_515), .val (.int (0 : Int32)), .val (.int (0 : Int32)), .unset, .unset] []))
    refine own_Go.st (fun _ k => XS.iload Y515.here hx rfl (hb hby at_113) rfl k) ?_
    show own_Go _ _ _ _ (T515.setTop (mkF m 115 #[.val (.int p1), .val (.int p2), .val (.int p3), .val (.int p4), .val (.int p5), .val (.int p6), .val (.int (0 : Int32)), .val (.int c_511), .val (.int c_512), .val (.int c_513), .val (.int c_514), .val (.ref x_515), .val (.int (0 : Int32)), .val (.int (0 : Int32)), .unset, .unset] [(.int (0 : Int32))]))
    refine own_Go.st (fun _ k => XS.iloadN Y515.here hx rfl (hb hby at_115) rfl k) ?_
    show own_Go _ _ _ _ (T515.setTop (mkF m 116 #[.val (.int p1), .val (.int p2), .val (.int p3), .val (.int p4), .val (.int p5), .val (.int p6), .val (.int (0 : Int32)), .val (.int c_511), .val (.int c_512), .val (.int c_513), .val (.int c_514), .val (.ref x_515), .val (.int (0 : Int32)), .val (.int (0 : Int32)), .unset, .unset] [(.int p1), (.int (0 : Int32))]))
    by_cases hc516 : (0 : Int32) < p1
    ·
      refine own_Go.st (fun _ k => XS.icmpYes Y515.here hx rfl (pc0 := 116) (pc' := 123) rfl (hb hby at_116) rfl (tlt hc516).1 (by decide) (by decide) k) ?_
      show own_Go _ _ _ _ (T515.setTop (mkF m 123 #[.val (.int p1), .val (.int p2), .val (.int p3), .val (.int p4), .val (.int p5), .val (.int p6), .val (.int (0 : Int32)), .val (.int c_511), .val (.int c_512), .val (.int c_513), .val (.int c_514), .val (.ref x_515), .val (.int (0 : Int32)), .val (.int (0 : Int32)), .unset, .unset] []))
      refine own_Go.st (fun _ k => XS.iconst Y515.here hx rfl (hb hby at_123) k) ?_
      show own_Go _ _ _ _ (T515.setTop (mkF m 124 #[.val (.int p1), .val (.int p2), .val (.int p3), .val (.int p4), .val (.int p5), .val (.int p6), .val (.int (0 : Int32)), .val (.int c_511), .val (.int c_512), .val (.int c_513), .val (.int c_514), .val (.ref x_515), .val (.int (0 : Int32)), .val (.int (0 : Int32)), .unset, .unset] [(.int (0 : Int32))]))
      refine own_Go.st (fun _ k => XS.istore Y515.here hx rfl (hb hby at_124) rfl (l' := #[.val (.int p1), .val (.int p2), .val (.int p3), .val (.int p4), .val (.int p5), .val (.int p6), .val (.int (0 : Int32)), .val (.int c_511), .val (.int c_512), .val (.int c_513), .val (.int c_514), .val (.ref x_515), .val (.int (0 : Int32)), .val (.int (0 : Int32)), .val (.int (0 : Int32)), .unset]) rfl k) ?_
      show own_Go _ _ _ _ (T515.setTop (mkF m 126 #[.val (.int p1), .val (.int p2), .val (.int p3), .val (.int p4), .val (.int p5), .val (.int p6), .val (.int (0 : Int32)), .val (.int c_511), .val (.int c_512), .val (.int c_513), .val (.int c_514), .val (.ref x_515), .val (.int (0 : Int32)), .val (.int (0 : Int32)), .val (.int (0 : Int32)), .unset] []))
      obtain ⟨T517, h517, X517, e517, E517, A517, D517, U517, st517⟩ := newO Y515 hx hZ515 hown515 (hw _ (List.mem_of_getElem? (i := 69) rfl)) (hw _ (List.mem_of_getElem? (i := 70) rfl)) (hw _ (List.mem_of_getElem? (i := 71) rfl)) rfl (g := (mkF m 126 #[.val (.int p1), .val (.int p2), .val (.int p3), .val (.int p4), .val (.int p5), .val (.int p6), .val (.int (0 : Int32)), .val (.int c_511), .val (.int c_512), .val (.int c_513), .val (.int c_514), .val (.ref x_515), .val (.int (0 : Int32)), .val (.int (0 : Int32)), .val (.int (0 : Int32)), .unset] [])) rfl (hb hby at_126) (by decide) (by decide)
      obtain ⟨b517, g517⟩ : ∃ z, z = T515.heap.size := ⟨_, rfl⟩
      rw [← g517] at A517 D517 U517 st517
      refine own_Go.st st517 ?_
      have z517 : T515.heap.size ≤ h517.size := E517.1
      have lt_b517 : @LT.lt Nat _ b517 h517.size := A517.lt
      have f518 : Fld Z h517 b517 "com/example/vigilant_gate/vigilantgate/PasswordPolicy" "minimumPasswordLength" "I" (.int (0 : Int32)) := D517 (Or.inr (hw _ (List.mem_of_getElem? (i := 82) rfl))) (ty := .int) (by decide)
      have R517 : CHr Z consts_1 s.vm h0 T515.vm h517 := R515.trans (CHr.ext E517 R515.1)
      show own_Go _ _ _ _ (T517.setTop (mkF m 129 #[.val (.int p1), .val (.int p2), .val (.int p3), .val (.int p4), .val (.int p5), .val (.int p6), .val (.int (0 : Int32)), .val (.int c_511), .val (.int c_512), .val (.int c_513), .val (.int c_514), .val (.ref x_515), .val (.int (0 : Int32)), .val (.int (0 : Int32)), .val (.int (0 : Int32)), .unset] [(.ref b517)]))
      refine own_Go.st (fun _ k => XS.dup X517.here hx rfl (hb hby at_129) rfl rfl k) ?_
      show own_Go _ _ _ _ (T517.setTop (mkF m 130 #[.val (.int p1), .val (.int p2), .val (.int p3), .val (.int p4), .val (.int p5), .val (.int p6), .val (.int (0 : Int32)), .val (.int c_511), .val (.int c_512), .val (.int c_513), .val (.int c_514), .val (.ref x_515), .val (.int (0 : Int32)), .val (.int (0 : Int32)), .val (.int (0 : Int32)), .unset] [(.ref b517), (.ref b517)]))
      refine own_Go.st (fun _ k => XS.iloadN X517.here hx rfl (hb hby at_130) rfl k) ?_
      show own_Go _ _ _ _ (T517.setTop (mkF m 131 #[.val (.int p1), .val (.int p2), .val (.int p3), .val (.int p4), .val (.int p5), .val (.int p6), .val (.int (0 : Int32)), .val (.int c_511), .val (.int c_512), .val (.int c_513), .val (.int c_514), .val (.ref x_515), .val (.int (0 : Int32)), .val (.int (0 : Int32)), .val (.int (0 : Int32)), .unset] [(.int p1), (.ref b517), (.ref b517)]))
      have f520 : Old Z Z.heap.size T515.heap := OL.keep K515 all0
      have f521 : Old Z Z.heap.size h517 := f520.ext E517
      obtain ⟨_, _, ⟨T519, L519, k519, n519⟩, -, X519, ⟨Lc519, hQ519, l519, y519, z519⟩, st519⟩ := X517.specialBack hx (y := (⟨"com/example/vigilant_gate/vigilantgate/PasswordPolicy", "<init>", "(I)V"⟩ : MethodName)) rfl hown515 (mvT hZ515 (hw _ (List.mem_of_getElem? (i := 72) rfl))) (mvT hZ515 (hw _ (List.mem_of_getElem? (i := 73) rfl))) (mvT hZ515 (hw _ (List.mem_of_getElem? (i := 74) rfl))) (by decide) (backOf (W := 1) (rm_ppinit l Z a0 hw [] b517 p1 h517 f521 A517 f518 (by omega)) hZ515 (hw _ (List.mem_of_getElem? (i := 74) rfl)) (hw _ (List.mem_of_getElem? (i := 71) rfl)) (by decide) (by decide)) (g := (mkF m 131 #[.val (.int p1), .val (.int p2), .val (.int p3), .val (.int p4), .val (.int p5), .val (.int p6), .val (.int (0 : Int32)), .val (.int c_511), .val (.int c_512), .val (.int c_513), .val (.int c_514), .val (.ref x_515), .val (.int (0 : Int32)), .val (.int (0 : Int32)), .val (.int (0 : Int32)), .unset] [(.int p1), (.ref b517), (.ref b517)])) rfl (by rw [hml]; rfl) (Steps.refl _) (a := b517) (argsL := [(.int p1)]) (rest := [(.ref b517)]) (lenOf pd_488 rfl) rfl (by show 2 * 0 + _ ≤ _; exact Nat.le_of_eq rfl) (hb hby at_131) (fun _ _ => ⟨rfl, e517, (by decide : 7 + 0 ≤ _), (by decide : 21 + 0 ≤ _)⟩)
      dsimp only [Pt.U, Pt.locs, Pt.cells, Pt.slots] at X519 l519 y519 z519 st519 hQ519
      subst l519 y519 z519
      obtain ⟨rfl, N519q, K519, f519_0, f519_1⟩ := hQ519
      have N519 := Fr.app N515 N519q
      have Sf522 : Safe Z consts_1 T515.vm h517 b517 := Safe.exa hZ515.alike A517 (by decide) (by decide)
      have z519 : h517.size ≤ T519.heap.size := K519.1
      have R519 : CHr Z consts_1 s.vm h0 T515.vm T519.heap := R517.trans (CHr.keep K519 (sfS Sf522 sf0) R517.1)
      have lt519_0 : @LT.lt Nat _ b517 T519.heap.size := f519_0.lt
      have lt519_1 : @LT.lt Nat _ b517 T519.heap.size := f519_1.lt
      refine own_Go.tr st519 ?_
      show own_Go _ _ _ _ (T519.setTop (mkF m 134 #[.val (.int p1), .val (.int p2), .val (.int p3), .val (.int p4), .val (.int p5), .val (.int p6), .val (.int (0 : Int32)), .val (.int c_511), .val (.int c_512), .val (.int c_513), .val (.int c_514), .val (.ref x_515), .val (.int (0 : Int32)), .val (.int (0 : Int32)), .val (.int (0 : Int32)), .unset] [(.ref b517)]))
      refine own_Go.st (fun _ k => XS.astore X519.here hx rfl (hb hby at_134) rfl rfl (l' := #[.val (.int p1), .val (.int p2), .val (.int p3), .val (.int p4), .val (.int p5), .val (.int p6), .val (.int (0 : Int32)), .val (.int c_511), .val (.int c_512), .val (.int c_513), .val (.int c_514), .val (.ref x_515), .val (.int (0 : Int32)), .val (.int (0 : Int32)), .val (.int (0 : Int32)), .val (.ref b517)]) rfl k) ?_
      show own_Go _ _ _ _ (T519.setTop (mkF m 136 #[.val (.int p1), .val (.int p2), .val (.int p3), .val (.int p4), .val (.int p5), .val (.int p6), .val (.int (0 : Int32)), .val (.int c_511), .val (.int c_512), .val (.int c_513), .val (.int c_514), .val (.ref x_515), .val (.int (0 : Int32)), .val (.int (0 : Int32)), .val (.int (0 : Int32)), .val (.ref b517)] []))
      refine own_Go.st (fun _ k => XS.aload X519.here hx rfl (hb hby at_136) rfl rfl k) ?_
      show own_Go _ _ _ _ (T519.setTop (mkF m 138 #[.val (.int p1), .val (.int p2), .val (.int p3), .val (.int p4), .val (.int p5), .val (.int p6), .val (.int (0 : Int32)), .val (.int c_511), .val (.int c_512), .val (.int c_513), .val (.int c_514), .val (.ref x_515), .val (.int (0 : Int32)), .val (.int (0 : Int32)), .val (.int (0 : Int32)), .val (.ref b517)] [(.ref b517)]))
      refine own_Go.st (fun _ k => XS.aload X519.here hx rfl (hb hby at_138) rfl rfl k) ?_
      show own_Go _ _ _ _ (T519.setTop (mkF m 140 #[.val (.int p1), .val (.int p2), .val (.int p3), .val (.int p4), .val (.int p5), .val (.int p6), .val (.int (0 : Int32)), .val (.int c_511), .val (.int c_512), .val (.int c_513), .val (.int c_514), .val (.ref x_515), .val (.int (0 : Int32)), .val (.int (0 : Int32)), .val (.int (0 : Int32)), .val (.ref b517)] [(.ref x_515), (.ref b517)]))
      have f524 : own_Str Z h517 x_515 t_515 cs_515 := f515_0.ext E517
      have f525 : own_Str Z T519.heap x_515 t_515 cs_515 := f524.keep K519 (ninS (by show @Ne Nat x_515 b517; omega) nin0) (ninS (by show @Ne Nat t_515 b517; omega) nin0)
      have f526 : Old Z Z.heap.size T519.heap := f521.keep K519 (allS (by omega) all0)
      obtain ⟨cq523, kq523, q523a, q523b, q523c⟩ := isOf hZ515 rfl f519_0
      obtain ⟨_, _, ⟨T523, L523, k523, n523⟩, -, X523, ⟨Lc523, hQ523, l523, y523, z523⟩, st523⟩ := X519.virtualBack hx (y := (⟨"com/example/vigilant_gate/vigilantgate/PasswordPolicy", "admits", "(Ljava/lang/String;)Z"⟩ : MethodName)) (z := (⟨"com/example/vigilant_gate/vigilantgate/PasswordPolicy", "admits", "(Ljava/lang/String;)Z"⟩ : MethodName)) hown515 (mvT hZ515 (hw _ (List.mem_of_getElem? (i := 83) rfl))) (mvT hZ515 (hw _ (List.mem_of_getElem? (i := 84) rfl))) (notFace_of_selects (args := #[]) (mvT hZ515 (hw _ (List.mem_of_getElem? (i := 86) rfl)))) (mvT hZ515 (hw _ (List.mem_of_getElem? (i := 86) rfl))) (mvT hZ515 (hw _ (List.mem_of_getElem? (i := 85) rfl))) (by decide) (backOf (W := 0) (rm_admits l Z a0 hw [] b517 x_515 p1 t_515 cs_515 zc T519.heap f526 f519_1 f525 st_COMPACT_STRINGS st__assertionsDisabled st_HI_BYTE_SHIFT st_LO_BYTE_SHIFT (by first | assumption | decide)) hZ515 (hw _ (List.mem_of_getElem? (i := 87) rfl)) (hw _ (List.mem_of_getElem? (i := 71) rfl)) (by decide) (by decide)) q523a q523c (g := (mkF m 140 #[.val (.int p1), .val (.int p2), .val (.int p3), .val (.int p4), .val (.int p5), .val (.int p6), .val (.int (0 : Int32)), .val (.int c_511), .val (.int c_512), .val (.int c_513), .val (.int c_514), .val (.ref x_515), .val (.int (0 : Int32)), .val (.int (0 : Int32)), .val (.int (0 : Int32)), .val (.ref b517)] [(.ref x_515), (.ref b517)])) rfl (by rw [hml]; rfl) (Steps.refl _) (argsL := [(.ref x_515)]) (rest := []) (lenOf pd_489 rfl) rfl (by show 2 * 0 + _ ≤ _; exact Nat.le_of_eq rfl) (hb hby at_140) (fun _ _ => ⟨rfl, rfl, (by decide : 7 + 0 ≤ _), (by decide : 21 + 0 ≤ _)⟩)
      dsimp only [Pt.U, Pt.locs, Pt.cells, Pt.slots] at X523 l523 y523 z523 st523 hQ523
      subst l523 y523 z523
      obtain ⟨r_523, rfl, N523q, K523, pr523_0⟩ := hQ523
      have N523 := Fr.app N519 N523q
      rw [hcs] at pr523_0
      refine own_Go.tr st523 ?_
      show own_Go _ _ _ _ (T523.setTop (mkF m 143 #[.val (.int p1), .val (.int p2), .val (.int p3), .val (.int p4), .val (.int p5), .val (.int p6), .val (.int (0 : Int32)), .val (.int c_511), .val (.int c_512), .val (.int c_513), .val (.int c_514), .val (.ref x_515), .val (.int (0 : Int32)), .val (.int (0 : Int32)), .val (.int (0 : Int32)), .val (.ref b517)] [(.int r_523)]))
      refine own_Go.st (fun _ k => XS.iload X523.here hx rfl (hb hby at_143) rfl k) ?_
      show own_Go _ _ _ _ (T523.setTop (mkF m 145 #[.val (.int p1), .val (.int p2), .val (.int p3), .val (.int p4), .val (.int p5), .val (.int p6), .val (.int (0 : Int32)), .val (.int c_511), .val (.int c_512), .val (.int c_513), .val (.int c_514), .val (.ref x_515), .val (.int (0 : Int32)), .val (.int (0 : Int32)), .val (.int (0 : Int32)), .val (.ref b517)] [(.int (0 : Int32)), (.int r_523)]))
      have hcnt : (0 : Int32) = Int32.ofNat (([] : List Int32).length - own_pairs []) := rfl
      rw [hcnt] at hc516
      have hc527 : r_523 = (0 : Int32) := (by rcases pr523_0 with ⟨q1, q2⟩ | ⟨q1, q2⟩ <;> first | exact q1 | exact absurd q2 hc516 | exact absurd hc516 q2)
      refine own_Go.st (fun _ k => XS.icmpNo X523.here hx rfl (hb hby at_145) rfl (teq hc527).2 k) ?_
      show own_Go _ _ _ _ (T523.setTop (mkF m 148 #[.val (.int p1), .val (.int p2), .val (.int p3), .val (.int p4), .val (.int p5), .val (.int p6), .val (.int (0 : Int32)), .val (.int c_511), .val (.int c_512), .val (.int c_513), .val (.int c_514), .val (.ref x_515), .val (.int (0 : Int32)), .val (.int (0 : Int32)), .val (.int (0 : Int32)), .val (.ref b517)] []))
      refine own_Go.st (fun _ k => XS.iconst X523.here hx rfl (hb hby at_148) k) ?_
      show own_Go _ _ _ _ (T523.setTop (mkF m 149 #[.val (.int p1), .val (.int p2), .val (.int p3), .val (.int p4), .val (.int p5), .val (.int p6), .val (.int (0 : Int32)), .val (.int c_511), .val (.int c_512), .val (.int c_513), .val (.int c_514), .val (.ref x_515), .val (.int (0 : Int32)), .val (.int (0 : Int32)), .val (.int (0 : Int32)), .val (.ref b517)] [(.int (1 : Int32))]))
      refine own_Go.st (fun _ k => XS.goto X523.here hx rfl (pc0 := 149) (pc' := 153) rfl (hb hby at_149) (by decide) (by decide) k) ?_
      show own_Go _ _ _ _ (T523.setTop (mkF m 153 #[.val (.int p1), .val (.int p2), .val (.int p3), .val (.int p4), .val (.int p5), .val (.int p6), .val (.int (0 : Int32)), .val (.int c_511), .val (.int c_512), .val (.int c_513), .val (.int c_514), .val (.ref x_515), .val (.int (0 : Int32)), .val (.int (0 : Int32)), .val (.int (0 : Int32)), .val (.ref b517)] [(.int (1 : Int32))]))
      obtain ⟨fs528, hr528, hrun528, hend528, hret528⟩ := X523.leaveW hS515 (by rw [K523]; exact (by omega)) (v := some (.int (nar .boolean (1 : Int32)))) (fun h => by rw [Bd.returns] at h; cases h)
      have K529 : Keep h0 T515.heap [] := (Keep.refl h0 []).trans K515 all0
      have K530 : Keep h0 h517 [] := K529.ext E517
      have K531 : Keep h0 T519.heap [] := K530.trans K519 (allS (Or.inr (by omega)) all0)
      subst hPP
      refine ⟨_, _, retN X523 hx (t := .boolean) Bd.returns (by simp) (hb hby at_153) hr528, hrun528, hend528, _, _, rfl, ?_, ?_, hret528.1, hret528.2.1, hret528.2.2.1, hret528.2.2.2.mono (by decide) (by decide)⟩
      · show Q_law Z _ _ _ _ _ _ _ h0 _ T523.heap _
        rw [K523]
        exact ⟨rfl, N523, K531⟩
      · have hfin := R519.trans (CHv.at X523 hZ515 hEL R519.1)
        rw [← hh] at hfin
        show CHr Z consts_1 s.vm s.heap T523.vm T523.heap
        rw [K523]
        exact hfin
    ·
      refine own_Go.st (fun _ k => XS.icmpNo Y515.here hx rfl (hb hby at_116) rfl (flt hc516).1 k) ?_
      show own_Go _ _ _ _ (T515.setTop (mkF m 119 #[.val (.int p1), .val (.int p2), .val (.int p3), .val (.int p4), .val (.int p5), .val (.int p6), .val (.int (0 : Int32)), .val (.int c_511), .val (.int c_512), .val (.int c_513), .val (.int c_514), .val (.ref x_515), .val (.int (0 : Int32)), .val (.int (0 : Int32)), .unset, .unset] []))
      refine own_Go.st (fun _ k => XS.iconst Y515.here hx rfl (hb hby at_119) k) ?_
      show own_Go _ _ _ _ (T515.setTop (mkF m 120 #[.val (.int p1), .val (.int p2), .val (.int p3), .val (.int p4), .val (.int p5), .val (.int p6), .val (.int (0 : Int32)), .val (.int c_511), .val (.int c_512), .val (.int c_513), .val (.int c_514), .val (.ref x_515), .val (.int (0 : Int32)), .val (.int (0 : Int32)), .unset, .unset] [(.int (1 : Int32))]))
      refine own_Go.st (fun _ k => XS.goto Y515.here hx rfl (pc0 := 120) (pc' := 124) rfl (hb hby at_120) (by decide) (by decide) k) ?_
      show own_Go _ _ _ _ (T515.setTop (mkF m 124 #[.val (.int p1), .val (.int p2), .val (.int p3), .val (.int p4), .val (.int p5), .val (.int p6), .val (.int (0 : Int32)), .val (.int c_511), .val (.int c_512), .val (.int c_513), .val (.int c_514), .val (.ref x_515), .val (.int (0 : Int32)), .val (.int (0 : Int32)), .unset, .unset] [(.int (1 : Int32))]))
      refine own_Go.st (fun _ k => XS.istore Y515.here hx rfl (hb hby at_124) rfl (l' := #[.val (.int p1), .val (.int p2), .val (.int p3), .val (.int p4), .val (.int p5), .val (.int p6), .val (.int (0 : Int32)), .val (.int c_511), .val (.int c_512), .val (.int c_513), .val (.int c_514), .val (.ref x_515), .val (.int (0 : Int32)), .val (.int (0 : Int32)), .val (.int (1 : Int32)), .unset]) rfl k) ?_
      show own_Go _ _ _ _ (T515.setTop (mkF m 126 #[.val (.int p1), .val (.int p2), .val (.int p3), .val (.int p4), .val (.int p5), .val (.int p6), .val (.int (0 : Int32)), .val (.int c_511), .val (.int c_512), .val (.int c_513), .val (.int c_514), .val (.ref x_515), .val (.int (0 : Int32)), .val (.int (0 : Int32)), .val (.int (1 : Int32)), .unset] []))
      obtain ⟨T532, h532, X532, e532, E532, A532, D532, U532, st532⟩ := newO Y515 hx hZ515 hown515 (hw _ (List.mem_of_getElem? (i := 69) rfl)) (hw _ (List.mem_of_getElem? (i := 70) rfl)) (hw _ (List.mem_of_getElem? (i := 71) rfl)) rfl (g := (mkF m 126 #[.val (.int p1), .val (.int p2), .val (.int p3), .val (.int p4), .val (.int p5), .val (.int p6), .val (.int (0 : Int32)), .val (.int c_511), .val (.int c_512), .val (.int c_513), .val (.int c_514), .val (.ref x_515), .val (.int (0 : Int32)), .val (.int (0 : Int32)), .val (.int (1 : Int32)), .unset] [])) rfl (hb hby at_126) (by decide) (by decide)
      obtain ⟨b532, g532⟩ : ∃ z, z = T515.heap.size := ⟨_, rfl⟩
      rw [← g532] at A532 D532 U532 st532
      refine own_Go.st st532 ?_
      have z532 : T515.heap.size ≤ h532.size := E532.1
      have lt_b532 : @LT.lt Nat _ b532 h532.size := A532.lt
      have f533 : Fld Z h532 b532 "com/example/vigilant_gate/vigilantgate/PasswordPolicy" "minimumPasswordLength" "I" (.int (0 : Int32)) := D532 (Or.inr (hw _ (List.mem_of_getElem? (i := 82) rfl))) (ty := .int) (by decide)
      have R532 : CHr Z consts_1 s.vm h0 T515.vm h532 := R515.trans (CHr.ext E532 R515.1)
      show own_Go _ _ _ _ (T532.setTop (mkF m 129 #[.val (.int p1), .val (.int p2), .val (.int p3), .val (.int p4), .val (.int p5), .val (.int p6), .val (.int (0 : Int32)), .val (.int c_511), .val (.int c_512), .val (.int c_513), .val (.int c_514), .val (.ref x_515), .val (.int (0 : Int32)), .val (.int (0 : Int32)), .val (.int (1 : Int32)), .unset] [(.ref b532)]))
      refine own_Go.st (fun _ k => XS.dup X532.here hx rfl (hb hby at_129) rfl rfl k) ?_
      show own_Go _ _ _ _ (T532.setTop (mkF m 130 #[.val (.int p1), .val (.int p2), .val (.int p3), .val (.int p4), .val (.int p5), .val (.int p6), .val (.int (0 : Int32)), .val (.int c_511), .val (.int c_512), .val (.int c_513), .val (.int c_514), .val (.ref x_515), .val (.int (0 : Int32)), .val (.int (0 : Int32)), .val (.int (1 : Int32)), .unset] [(.ref b532), (.ref b532)]))
      refine own_Go.st (fun _ k => XS.iloadN X532.here hx rfl (hb hby at_130) rfl k) ?_
      show own_Go _ _ _ _ (T532.setTop (mkF m 131 #[.val (.int p1), .val (.int p2), .val (.int p3), .val (.int p4), .val (.int p5), .val (.int p6), .val (.int (0 : Int32)), .val (.int c_511), .val (.int c_512), .val (.int c_513), .val (.int c_514), .val (.ref x_515), .val (.int (0 : Int32)), .val (.int (0 : Int32)), .val (.int (1 : Int32)), .unset] [(.int p1), (.ref b532), (.ref b532)]))
      have f535 : Old Z Z.heap.size T515.heap := OL.keep K515 all0
      have f536 : Old Z Z.heap.size h532 := f535.ext E532
      obtain ⟨_, _, ⟨T534, L534, k534, n534⟩, -, X534, ⟨Lc534, hQ534, l534, y534, z534⟩, st534⟩ := X532.specialBack hx (y := (⟨"com/example/vigilant_gate/vigilantgate/PasswordPolicy", "<init>", "(I)V"⟩ : MethodName)) rfl hown515 (mvT hZ515 (hw _ (List.mem_of_getElem? (i := 72) rfl))) (mvT hZ515 (hw _ (List.mem_of_getElem? (i := 73) rfl))) (mvT hZ515 (hw _ (List.mem_of_getElem? (i := 74) rfl))) (by decide) (backOf (W := 1) (rm_ppinit l Z a0 hw [] b532 p1 h532 f536 A532 f533 (by omega)) hZ515 (hw _ (List.mem_of_getElem? (i := 74) rfl)) (hw _ (List.mem_of_getElem? (i := 71) rfl)) (by decide) (by decide)) (g := (mkF m 131 #[.val (.int p1), .val (.int p2), .val (.int p3), .val (.int p4), .val (.int p5), .val (.int p6), .val (.int (0 : Int32)), .val (.int c_511), .val (.int c_512), .val (.int c_513), .val (.int c_514), .val (.ref x_515), .val (.int (0 : Int32)), .val (.int (0 : Int32)), .val (.int (1 : Int32)), .unset] [(.int p1), (.ref b532), (.ref b532)])) rfl (by rw [hml]; rfl) (Steps.refl _) (a := b532) (argsL := [(.int p1)]) (rest := [(.ref b532)]) (lenOf pd_488 rfl) rfl (by show 2 * 0 + _ ≤ _; exact Nat.le_of_eq rfl) (hb hby at_131) (fun _ _ => ⟨rfl, e532, (by decide : 7 + 0 ≤ _), (by decide : 21 + 0 ≤ _)⟩)
      dsimp only [Pt.U, Pt.locs, Pt.cells, Pt.slots] at X534 l534 y534 z534 st534 hQ534
      subst l534 y534 z534
      obtain ⟨rfl, N534q, K534, f534_0, f534_1⟩ := hQ534
      have N534 := Fr.app N515 N534q
      have Sf537 : Safe Z consts_1 T515.vm h532 b532 := Safe.exa hZ515.alike A532 (by decide) (by decide)
      have z534 : h532.size ≤ T534.heap.size := K534.1
      have R534 : CHr Z consts_1 s.vm h0 T515.vm T534.heap := R532.trans (CHr.keep K534 (sfS Sf537 sf0) R532.1)
      have lt534_0 : @LT.lt Nat _ b532 T534.heap.size := f534_0.lt
      have lt534_1 : @LT.lt Nat _ b532 T534.heap.size := f534_1.lt
      refine own_Go.tr st534 ?_
      show own_Go _ _ _ _ (T534.setTop (mkF m 134 #[.val (.int p1), .val (.int p2), .val (.int p3), .val (.int p4), .val (.int p5), .val (.int p6), .val (.int (0 : Int32)), .val (.int c_511), .val (.int c_512), .val (.int c_513), .val (.int c_514), .val (.ref x_515), .val (.int (0 : Int32)), .val (.int (0 : Int32)), .val (.int (1 : Int32)), .unset] [(.ref b532)]))
      refine own_Go.st (fun _ k => XS.astore X534.here hx rfl (hb hby at_134) rfl rfl (l' := #[.val (.int p1), .val (.int p2), .val (.int p3), .val (.int p4), .val (.int p5), .val (.int p6), .val (.int (0 : Int32)), .val (.int c_511), .val (.int c_512), .val (.int c_513), .val (.int c_514), .val (.ref x_515), .val (.int (0 : Int32)), .val (.int (0 : Int32)), .val (.int (1 : Int32)), .val (.ref b532)]) rfl k) ?_
      show own_Go _ _ _ _ (T534.setTop (mkF m 136 #[.val (.int p1), .val (.int p2), .val (.int p3), .val (.int p4), .val (.int p5), .val (.int p6), .val (.int (0 : Int32)), .val (.int c_511), .val (.int c_512), .val (.int c_513), .val (.int c_514), .val (.ref x_515), .val (.int (0 : Int32)), .val (.int (0 : Int32)), .val (.int (1 : Int32)), .val (.ref b532)] []))
      refine own_Go.st (fun _ k => XS.aload X534.here hx rfl (hb hby at_136) rfl rfl k) ?_
      show own_Go _ _ _ _ (T534.setTop (mkF m 138 #[.val (.int p1), .val (.int p2), .val (.int p3), .val (.int p4), .val (.int p5), .val (.int p6), .val (.int (0 : Int32)), .val (.int c_511), .val (.int c_512), .val (.int c_513), .val (.int c_514), .val (.ref x_515), .val (.int (0 : Int32)), .val (.int (0 : Int32)), .val (.int (1 : Int32)), .val (.ref b532)] [(.ref b532)]))
      refine own_Go.st (fun _ k => XS.aload X534.here hx rfl (hb hby at_138) rfl rfl k) ?_
      show own_Go _ _ _ _ (T534.setTop (mkF m 140 #[.val (.int p1), .val (.int p2), .val (.int p3), .val (.int p4), .val (.int p5), .val (.int p6), .val (.int (0 : Int32)), .val (.int c_511), .val (.int c_512), .val (.int c_513), .val (.int c_514), .val (.ref x_515), .val (.int (0 : Int32)), .val (.int (0 : Int32)), .val (.int (1 : Int32)), .val (.ref b532)] [(.ref x_515), (.ref b532)]))
      have f539 : own_Str Z h532 x_515 t_515 cs_515 := f515_0.ext E532
      have f540 : own_Str Z T534.heap x_515 t_515 cs_515 := f539.keep K534 (ninS (by show @Ne Nat x_515 b532; omega) nin0) (ninS (by show @Ne Nat t_515 b532; omega) nin0)
      have f541 : Old Z Z.heap.size T534.heap := f536.keep K534 (allS (by omega) all0)
      obtain ⟨cq538, kq538, q538a, q538b, q538c⟩ := isOf hZ515 rfl f534_0
      obtain ⟨_, _, ⟨T538, L538, k538, n538⟩, -, X538, ⟨Lc538, hQ538, l538, y538, z538⟩, st538⟩ := X534.virtualBack hx (y := (⟨"com/example/vigilant_gate/vigilantgate/PasswordPolicy", "admits", "(Ljava/lang/String;)Z"⟩ : MethodName)) (z := (⟨"com/example/vigilant_gate/vigilantgate/PasswordPolicy", "admits", "(Ljava/lang/String;)Z"⟩ : MethodName)) hown515 (mvT hZ515 (hw _ (List.mem_of_getElem? (i := 83) rfl))) (mvT hZ515 (hw _ (List.mem_of_getElem? (i := 84) rfl))) (notFace_of_selects (args := #[]) (mvT hZ515 (hw _ (List.mem_of_getElem? (i := 86) rfl)))) (mvT hZ515 (hw _ (List.mem_of_getElem? (i := 86) rfl))) (mvT hZ515 (hw _ (List.mem_of_getElem? (i := 85) rfl))) (by decide) (backOf (W := 0) (rm_admits l Z a0 hw [] b532 x_515 p1 t_515 cs_515 zc T534.heap f541 f534_1 f540 st_COMPACT_STRINGS st__assertionsDisabled st_HI_BYTE_SHIFT st_LO_BYTE_SHIFT (by first | assumption | decide)) hZ515 (hw _ (List.mem_of_getElem? (i := 87) rfl)) (hw _ (List.mem_of_getElem? (i := 71) rfl)) (by decide) (by decide)) q538a q538c (g := (mkF m 140 #[.val (.int p1), .val (.int p2), .val (.int p3), .val (.int p4), .val (.int p5), .val (.int p6), .val (.int (0 : Int32)), .val (.int c_511), .val (.int c_512), .val (.int c_513), .val (.int c_514), .val (.ref x_515), .val (.int (0 : Int32)), .val (.int (0 : Int32)), .val (.int (1 : Int32)), .val (.ref b532)] [(.ref x_515), (.ref b532)])) rfl (by rw [hml]; rfl) (Steps.refl _) (argsL := [(.ref x_515)]) (rest := []) (lenOf pd_489 rfl) rfl (by show 2 * 0 + _ ≤ _; exact Nat.le_of_eq rfl) (hb hby at_140) (fun _ _ => ⟨rfl, rfl, (by decide : 7 + 0 ≤ _), (by decide : 21 + 0 ≤ _)⟩)
      dsimp only [Pt.U, Pt.locs, Pt.cells, Pt.slots] at X538 l538 y538 z538 st538 hQ538
      subst l538 y538 z538
      obtain ⟨r_538, rfl, N538q, K538, pr538_0⟩ := hQ538
      have N538 := Fr.app N534 N538q
      rw [hcs] at pr538_0
      refine own_Go.tr st538 ?_
      show own_Go _ _ _ _ (T538.setTop (mkF m 143 #[.val (.int p1), .val (.int p2), .val (.int p3), .val (.int p4), .val (.int p5), .val (.int p6), .val (.int (0 : Int32)), .val (.int c_511), .val (.int c_512), .val (.int c_513), .val (.int c_514), .val (.ref x_515), .val (.int (0 : Int32)), .val (.int (0 : Int32)), .val (.int (1 : Int32)), .val (.ref b532)] [(.int r_538)]))
      refine own_Go.st (fun _ k => XS.iload X538.here hx rfl (hb hby at_143) rfl k) ?_
      show own_Go _ _ _ _ (T538.setTop (mkF m 145 #[.val (.int p1), .val (.int p2), .val (.int p3), .val (.int p4), .val (.int p5), .val (.int p6), .val (.int (0 : Int32)), .val (.int c_511), .val (.int c_512), .val (.int c_513), .val (.int c_514), .val (.ref x_515), .val (.int (0 : Int32)), .val (.int (0 : Int32)), .val (.int (1 : Int32)), .val (.ref b532)] [(.int (1 : Int32)), (.int r_538)]))
      have hcnt : (0 : Int32) = Int32.ofNat (([] : List Int32).length - own_pairs []) := rfl
      rw [hcnt] at hc516
      have hc542 : r_538 = (1 : Int32) := (by rcases pr538_0 with ⟨q1, q2⟩ | ⟨q1, q2⟩ <;> first | exact q1 | exact absurd q2 hc516 | exact absurd hc516 q2)
      refine own_Go.st (fun _ k => XS.icmpNo X538.here hx rfl (hb hby at_145) rfl (teq hc542).2 k) ?_
      show own_Go _ _ _ _ (T538.setTop (mkF m 148 #[.val (.int p1), .val (.int p2), .val (.int p3), .val (.int p4), .val (.int p5), .val (.int p6), .val (.int (0 : Int32)), .val (.int c_511), .val (.int c_512), .val (.int c_513), .val (.int c_514), .val (.ref x_515), .val (.int (0 : Int32)), .val (.int (0 : Int32)), .val (.int (1 : Int32)), .val (.ref b532)] []))
      refine own_Go.st (fun _ k => XS.iconst X538.here hx rfl (hb hby at_148) k) ?_
      show own_Go _ _ _ _ (T538.setTop (mkF m 149 #[.val (.int p1), .val (.int p2), .val (.int p3), .val (.int p4), .val (.int p5), .val (.int p6), .val (.int (0 : Int32)), .val (.int c_511), .val (.int c_512), .val (.int c_513), .val (.int c_514), .val (.ref x_515), .val (.int (0 : Int32)), .val (.int (0 : Int32)), .val (.int (1 : Int32)), .val (.ref b532)] [(.int (1 : Int32))]))
      refine own_Go.st (fun _ k => XS.goto X538.here hx rfl (pc0 := 149) (pc' := 153) rfl (hb hby at_149) (by decide) (by decide) k) ?_
      show own_Go _ _ _ _ (T538.setTop (mkF m 153 #[.val (.int p1), .val (.int p2), .val (.int p3), .val (.int p4), .val (.int p5), .val (.int p6), .val (.int (0 : Int32)), .val (.int c_511), .val (.int c_512), .val (.int c_513), .val (.int c_514), .val (.ref x_515), .val (.int (0 : Int32)), .val (.int (0 : Int32)), .val (.int (1 : Int32)), .val (.ref b532)] [(.int (1 : Int32))]))
      obtain ⟨fs543, hr543, hrun543, hend543, hret543⟩ := X538.leaveW hS515 (by rw [K538]; exact (by omega)) (v := some (.int (nar .boolean (1 : Int32)))) (fun h => by rw [Bd.returns] at h; cases h)
      have K544 : Keep h0 T515.heap [] := (Keep.refl h0 []).trans K515 all0
      have K545 : Keep h0 h532 [] := K544.ext E532
      have K546 : Keep h0 T534.heap [] := K545.trans K534 (allS (Or.inr (by omega)) all0)
      subst hPP
      refine ⟨_, _, retN X538 hx (t := .boolean) Bd.returns (by simp) (hb hby at_153) hr543, hrun543, hend543, _, _, rfl, ?_, ?_, hret543.1, hret543.2.1, hret543.2.2.1, hret543.2.2.2.mono (by decide) (by decide)⟩
      · show Q_law Z _ _ _ _ _ _ _ h0 _ T538.heap _
        rw [K538]
        exact ⟨rfl, N538, K546⟩
      · have hfin := R534.trans (CHv.at X538 hZ515 hEL R534.1)
        rw [← hh] at hfin
        show CHr Z consts_1 s.vm s.heap T538.vm T538.heap
        rw [K538]
        exact hfin
  ·
    show own_Go _ _ _ _ (T514.setTop (mkF m 34 #[.val (.int p1), .val (.int p2), .val (.int p3), .val (.int p4), .val (.int p5), .val (.int p6), .val (.int (1 : Int32)), .val (.int c_511), .val (.int c_512), .val (.int c_513), .val (.int c_514), .unset, .unset, .unset, .unset, .unset] []))
    refine own_Go.st (fun _ k => XS.iload X514.here hx rfl (hb hby at_34) rfl k) ?_
    show own_Go _ _ _ _ (T514.setTop (mkF m 36 #[.val (.int p1), .val (.int p2), .val (.int p3), .val (.int p4), .val (.int p5), .val (.int p6), .val (.int (1 : Int32)), .val (.int c_511), .val (.int c_512), .val (.int c_513), .val (.int c_514), .unset, .unset, .unset, .unset, .unset] [(.int (1 : Int32))]))
    refine own_Go.st (fun _ k => XS.iload X514.here hx rfl (hb hby at_36) rfl k) ?_
    show own_Go _ _ _ _ (T514.setTop (mkF m 38 #[.val (.int p1), .val (.int p2), .val (.int p3), .val (.int p4), .val (.int p5), .val (.int p6), .val (.int (1 : Int32)), .val (.int c_511), .val (.int c_512), .val (.int c_513), .val (.int c_514), .unset, .unset, .unset, .unset, .unset] [(.int c_511), (.int (1 : Int32))]))
    refine own_Go.st (fun _ k => XS.iload X514.here hx rfl (hb hby at_38) rfl k) ?_
    show own_Go _ _ _ _ (T514.setTop (mkF m 40 #[.val (.int p1), .val (.int p2), .val (.int p3), .val (.int p4), .val (.int p5), .val (.int p6), .val (.int (1 : Int32)), .val (.int c_511), .val (.int c_512), .val (.int c_513), .val (.int c_514), .unset, .unset, .unset, .unset, .unset] [(.int c_512), (.int c_511), (.int (1 : Int32))]))
    refine own_Go.st (fun _ k => XS.iload X514.here hx rfl (hb hby at_40) rfl k) ?_
    show own_Go _ _ _ _ (T514.setTop (mkF m 42 #[.val (.int p1), .val (.int p2), .val (.int p3), .val (.int p4), .val (.int p5), .val (.int p6), .val (.int (1 : Int32)), .val (.int c_511), .val (.int c_512), .val (.int c_513), .val (.int c_514), .unset, .unset, .unset, .unset, .unset] [(.int c_513), (.int c_512), (.int c_511), (.int (1 : Int32))]))
    refine own_Go.st (fun _ k => XS.iload X514.here hx rfl (hb hby at_42) rfl k) ?_
    show own_Go _ _ _ _ (T514.setTop (mkF m 44 #[.val (.int p1), .val (.int p2), .val (.int p3), .val (.int p4), .val (.int p5), .val (.int p6), .val (.int (1 : Int32)), .val (.int c_511), .val (.int c_512), .val (.int c_513), .val (.int c_514), .unset, .unset, .unset, .unset, .unset] [(.int c_514), (.int c_513), (.int c_512), (.int c_511), (.int (1 : Int32))]))
    obtain ⟨_, _, ⟨T547, L547, k547, n547⟩, -, X547, hs547, hg547, ⟨Lc547, hQ547, l547, y547, z547, ch547⟩, st547⟩ := callSS X514 hx (y := (⟨"com/example/vigilant_gate/vigilantgate/PasswordPolicyAdmitsPinLaw", "build", "(ICCCC)Ljava/lang/String;"⟩ : MethodName)) hown (mvT hZ (hw _ (List.mem_of_getElem? (i := 7) rfl))) (mvT hZ (hw _ (List.mem_of_getElem? (i := 8) rfl))) (mvT hZ (hw _ (List.mem_of_getElem? (i := 2) rfl))) (mvT hZ (hw _ (List.mem_of_getElem? (i := 9) rfl))) (by decide) (backOfSH (s := s) (vm0 := s.vm) (W := 0) (rm_build l Z a0 hw [] (1 : Int32) c_511 c_512 c_513 c_514 zc h0 hEL OL st_COMPACT_STRINGS st__assertionsDisabled st_HI_BYTE_SHIFT st_LO_BYTE_SHIFT (by first | assumption | decide) (by first | assumption | decide) (by first | assumption | decide) (by first | assumption | decide) (by first | assumption | decide)) hZ (hw _ (List.mem_of_getElem? (i := 9) rfl)) (hw _ (List.mem_of_getElem? (i := 2) rfl)) (by decide) (by decide) hEL R0.1) (g := (mkF m 44 #[.val (.int p1), .val (.int p2), .val (.int p3), .val (.int p4), .val (.int p5), .val (.int p6), .val (.int (1 : Int32)), .val (.int c_511), .val (.int c_512), .val (.int c_513), .val (.int c_514), .unset, .unset, .unset, .unset, .unset] [(.int c_514), (.int c_513), (.int c_512), (.int c_511), (.int (1 : Int32))])) rfl (by rw [hml]; rfl) (argsL := [(.int (1 : Int32)), (.int c_511), (.int c_512), (.int c_513), (.int c_514)]) (rest := []) (lenOf pd_487 rfl) rfl (by show 2 * 0 + _ ≤ _; exact Nat.le_of_eq rfl) (hb hby at_44) (fun _ _ => ⟨rfl, K514, (by decide : 0 + 6 ≤ _), (by decide : 0 + 20 ≤ _)⟩)
    dsimp only [Pt.U, Pt.locs, Pt.cells, Pt.slots] at X547 l547 y547 z547 st547 hQ547 hs547 hg547 ch547
    subst l547 y547 z547
    obtain ⟨x_547, t_547, cs_547, rfl, N547q, K547, f547_0, pr547_0⟩ := hQ547
    have N547 := Fr.app N514 N547q
    obtain ⟨Y547, hS547, hZ547, hown547⟩ := rebS hS0 (n1 := h0.size) (by omega) X547 hs547 (by have := hg547; first | exact this | (rw [← K514]; exact this)) hZ hown
    have z547 : h0.size ≤ T547.heap.size := K547.1
    have R547 : CHr Z consts_1 s.vm h0 T547.vm T547.heap := R0.trans ch547
    have lt547_0 : @LT.lt Nat _ x_547 T547.heap.size := f547_0.lt
    have ltv547_0 : @LT.lt Nat _ t_547 T547.heap.size := f547_0.ltv
    have hcs : cs_547 = ([c_511] : List Int32) := by rw [pr547_0]; rfl
    refine own_Go.tr st547 ?_
    show own_Go _ _ _ _ (T547.setTop (mkF m 47 #[.val (.int p1), .val (.int p2), .val (.int p3), .val (.int p4), .val (.int p5), .val (.int p6), .val (.int (1 : Int32)), .val (.int c_511), .val (.int c_512), .val (.int c_513), .val (.int c_514), .unset, .unset, .unset, .unset, .unset] [(.ref x_547)]))
    refine own_Go.st (fun _ k => XS.astore Y547.here hx rfl (hb hby at_47) rfl rfl (l' := #[.val (.int p1), .val (.int p2), .val (.int p3), .val (.int p4), .val (.int p5), .val (.int p6), .val (.int (1 : Int32)), .val (.int c_511), .val (.int c_512), .val (.int c_513), .val (.int c_514), .val (.ref x_547), .unset, .unset, .unset, .unset]) rfl k) ?_
    show own_Go _ _ _ _ (T547.setTop (mkF m 49 #[.val (.int p1), .val (.int p2), .val (.int p3), .val (.int p4), .val (.int p5), .val (.int p6), .val (.int (1 : Int32)), .val (.int c_511), .val (.int c_512), .val (.int c_513), .val (.int c_514), .val (.ref x_547), .unset, .unset, .unset, .unset] []))
    refine own_Go.st (fun _ k => XS.iconst Y547.here hx rfl (hb hby at_49) k) ?_
    show own_Go _ _ _ _ (T547.setTop (mkF m 50 #[.val (.int p1), .val (.int p2), .val (.int p3), .val (.int p4), .val (.int p5), .val (.int p6), .val (.int (1 : Int32)), .val (.int c_511), .val (.int c_512), .val (.int c_513), .val (.int c_514), .val (.ref x_547), .unset, .unset, .unset, .unset] [(.int (0 : Int32))]))
    refine own_Go.st (fun _ k => XS.istore Y547.here hx rfl (hb hby at_50) rfl (l' := #[.val (.int p1), .val (.int p2), .val (.int p3), .val (.int p4), .val (.int p5), .val (.int p6), .val (.int (1 : Int32)), .val (.int c_511), .val (.int c_512), .val (.int c_513), .val (.int c_514), .val (.ref x_547), .val (.int (0 : Int32)), .unset, .unset, .unset]) rfl k) ?_
    show own_Go _ _ _ _ (T547.setTop (mkF m 52 #[.val (.int p1), .val (.int p2), .val (.int p3), .val (.int p4), .val (.int p5), .val (.int p6), .val (.int (1 : Int32)), .val (.int c_511), .val (.int c_512), .val (.int c_513), .val (.int c_514), .val (.ref x_547), .val (.int (0 : Int32)), .unset, .unset, .unset] []))
    refine own_Go.st (fun _ k => XS.iload Y547.here hx rfl (hb hby at_52) rfl k) ?_
    show own_Go _ _ _ _ (T547.setTop (mkF m 54 #[.val (.int p1), .val (.int p2), .val (.int p3), .val (.int p4), .val (.int p5), .val (.int p6), .val (.int (1 : Int32)), .val (.int c_511), .val (.int c_512), .val (.int c_513), .val (.int c_514), .val (.ref x_547), .val (.int (0 : Int32)), .unset, .unset, .unset] [(.int (1 : Int32))]))
    refine own_Go.st (fun _ k => XS.iconst Y547.here hx rfl (hb hby at_54) k) ?_
    show own_Go _ _ _ _ (T547.setTop (mkF m 55 #[.val (.int p1), .val (.int p2), .val (.int p3), .val (.int p4), .val (.int p5), .val (.int p6), .val (.int (1 : Int32)), .val (.int c_511), .val (.int c_512), .val (.int c_513), .val (.int c_514), .val (.ref x_547), .val (.int (0 : Int32)), .unset, .unset, .unset] [(.int (2 : Int32)), (.int (1 : Int32))]))
    refine own_Go.st (fun _ k => XS.icmpYes Y547.here hx rfl (pc0 := 55) (pc' := 70) rfl (hb hby at_55) rfl (tlt (by decide : (1 : Int32) < (2 : Int32))).1 (by decide) (by decide) k) ?_
    show own_Go _ _ _ _ (T547.setTop (mkF m 70 #[.val (.int p1), .val (.int p2), .val (.int p3), .val (.int p4), .val (.int p5), .val (.int p6), .val (.int (1 : Int32)), .val (.int c_511), .val (.int c_512), .val (.int c_513), .val (.int c_514), .val (.ref x_547), .val (.int (0 : Int32)), .unset, .unset, .unset] []))
    refine own_Go.st (fun _ k => XS.iload Y547.here hx rfl (hb hby at_70) rfl k) ?_
    show own_Go _ _ _ _ (T547.setTop (mkF m 72 #[.val (.int p1), .val (.int p2), .val (.int p3), .val (.int p4), .val (.int p5), .val (.int p6), .val (.int (1 : Int32)), .val (.int c_511), .val (.int c_512), .val (.int c_513), .val (.int c_514), .val (.ref x_547), .val (.int (0 : Int32)), .unset, .unset, .unset] [(.int (1 : Int32))]))
    refine own_Go.st (fun _ k => XS.iconst Y547.here hx rfl (hb hby at_72) k) ?_
    show own_Go _ _ _ _ (T547.setTop (mkF m 73 #[.val (.int p1), .val (.int p2), .val (.int p3), .val (.int p4), .val (.int p5), .val (.int p6), .val (.int (1 : Int32)), .val (.int c_511), .val (.int c_512), .val (.int c_513), .val (.int c_514), .val (.ref x_547), .val (.int (0 : Int32)), .unset, .unset, .unset] [(.int (3 : Int32)), (.int (1 : Int32))]))
    refine own_Go.st (fun _ k => XS.icmpYes Y547.here hx rfl (pc0 := 73) (pc' := 88) rfl (hb hby at_73) rfl (tlt (by decide : (1 : Int32) < (3 : Int32))).1 (by decide) (by decide) k) ?_
    show own_Go _ _ _ _ (T547.setTop (mkF m 88 #[.val (.int p1), .val (.int p2), .val (.int p3), .val (.int p4), .val (.int p5), .val (.int p6), .val (.int (1 : Int32)), .val (.int c_511), .val (.int c_512), .val (.int c_513), .val (.int c_514), .val (.ref x_547), .val (.int (0 : Int32)), .unset, .unset, .unset] []))
    refine own_Go.st (fun _ k => XS.iload Y547.here hx rfl (hb hby at_88) rfl k) ?_
    show own_Go _ _ _ _ (T547.setTop (mkF m 90 #[.val (.int p1), .val (.int p2), .val (.int p3), .val (.int p4), .val (.int p5), .val (.int p6), .val (.int (1 : Int32)), .val (.int c_511), .val (.int c_512), .val (.int c_513), .val (.int c_514), .val (.ref x_547), .val (.int (0 : Int32)), .unset, .unset, .unset] [(.int (1 : Int32))]))
    refine own_Go.st (fun _ k => XS.iconst Y547.here hx rfl (hb hby at_90) k) ?_
    show own_Go _ _ _ _ (T547.setTop (mkF m 91 #[.val (.int p1), .val (.int p2), .val (.int p3), .val (.int p4), .val (.int p5), .val (.int p6), .val (.int (1 : Int32)), .val (.int c_511), .val (.int c_512), .val (.int c_513), .val (.int c_514), .val (.ref x_547), .val (.int (0 : Int32)), .unset, .unset, .unset] [(.int (4 : Int32)), (.int (1 : Int32))]))
    refine own_Go.st (fun _ k => XS.icmpYes Y547.here hx rfl (pc0 := 91) (pc' := 106) rfl (hb hby at_91) rfl (tlt (by decide : (1 : Int32) < (4 : Int32))).1 (by decide) (by decide) k) ?_
    show own_Go _ _ _ _ (T547.setTop (mkF m 106 #[.val (.int p1), .val (.int p2), .val (.int p3), .val (.int p4), .val (.int p5), .val (.int p6), .val (.int (1 : Int32)), .val (.int c_511), .val (.int c_512), .val (.int c_513), .val (.int c_514), .val (.ref x_547), .val (.int (0 : Int32)), .unset, .unset, .unset] []))
    refine own_Go.st (fun _ k => XS.iload Y547.here hx rfl (hb hby at_106) rfl k) ?_
    show own_Go _ _ _ _ (T547.setTop (mkF m 108 #[.val (.int p1), .val (.int p2), .val (.int p3), .val (.int p4), .val (.int p5), .val (.int p6), .val (.int (1 : Int32)), .val (.int c_511), .val (.int c_512), .val (.int c_513), .val (.int c_514), .val (.ref x_547), .val (.int (0 : Int32)), .unset, .unset, .unset] [(.int (1 : Int32))]))
    refine own_Go.st (fun _ k => XS.iload Y547.here hx rfl (hb hby at_108) rfl k) ?_
    show own_Go _ _ _ _ (T547.setTop (mkF m 110 #[.val (.int p1), .val (.int p2), .val (.int p3), .val (.int p4), .val (.int p5), .val (.int p6), .val (.int (1 : Int32)), .val (.int c_511), .val (.int c_512), .val (.int c_513), .val (.int c_514), .val (.ref x_547), .val (.int (0 : Int32)), .unset, .unset, .unset] [(.int (0 : Int32)), (.int (1 : Int32))]))
    refine own_Go.st (fun _ k => XS.isub Y547.here hx rfl (hb hby at_110) rfl k) ?_
    show own_Go _ _ _ _ (T547.setTop (mkF m 111 #[.val (.int p1), .val (.int p2), .val (.int p3), .val (.int p4), .val (.int p5), .val (.int p6), .val (.int (1 : Int32)), .val (.int c_511), .val (.int c_512), .val (.int c_513), .val (.int c_514), .val (.ref x_547), .val (.int (0 : Int32)), .unset, .unset, .unset] [(.int (1 : Int32))]))
    refine own_Go.st (fun _ k => XS.istore Y547.here hx rfl (hb hby at_111) rfl (l' := #[.val (.int p1), .val (.int p2), .val (.int p3), .val (.int p4), .val (.int p5), .val (.int p6), .val (.int (1 : Int32)), .val (.int c_511), .val (.int c_512), .val (.int c_513), .val (.int c_514), .val (.ref x_547), .val (.int (0 : Int32)), .val (.int (1 : Int32)), .unset, .unset]) rfl k) ?_
    show own_Go _ _ _ _ (T547.setTop (mkF m 113 #[.val (.int p1), .val (.int p2), .val (.int p3), .val (.int p4), .val (.int p5), .val (.int p6), .val (.int (1 : Int32)), .val (.int c_511), .val (.int c_512), .val (.int c_513), .val (.int c_514), .val (.ref x_547), .val (.int (0 : Int32)), .val (.int (1 : Int32)), .unset, .unset] []))
    refine own_Go.st (fun _ k => XS.iload Y547.here hx rfl (hb hby at_113) rfl k) ?_
    show own_Go _ _ _ _ (T547.setTop (mkF m 115 #[.val (.int p1), .val (.int p2), .val (.int p3), .val (.int p4), .val (.int p5), .val (.int p6), .val (.int (1 : Int32)), .val (.int c_511), .val (.int c_512), .val (.int c_513), .val (.int c_514), .val (.ref x_547), .val (.int (0 : Int32)), .val (.int (1 : Int32)), .unset, .unset] [(.int (1 : Int32))]))
    refine own_Go.st (fun _ k => XS.iloadN Y547.here hx rfl (hb hby at_115) rfl k) ?_
    show own_Go _ _ _ _ (T547.setTop (mkF m 116 #[.val (.int p1), .val (.int p2), .val (.int p3), .val (.int p4), .val (.int p5), .val (.int p6), .val (.int (1 : Int32)), .val (.int c_511), .val (.int c_512), .val (.int c_513), .val (.int c_514), .val (.ref x_547), .val (.int (0 : Int32)), .val (.int (1 : Int32)), .unset, .unset] [(.int p1), (.int (1 : Int32))]))
    by_cases hc548 : (1 : Int32) < p1
    ·
      refine own_Go.st (fun _ k => XS.icmpYes Y547.here hx rfl (pc0 := 116) (pc' := 123) rfl (hb hby at_116) rfl (tlt hc548).1 (by decide) (by decide) k) ?_
      show own_Go _ _ _ _ (T547.setTop (mkF m 123 #[.val (.int p1), .val (.int p2), .val (.int p3), .val (.int p4), .val (.int p5), .val (.int p6), .val (.int (1 : Int32)), .val (.int c_511), .val (.int c_512), .val (.int c_513), .val (.int c_514), .val (.ref x_547), .val (.int (0 : Int32)), .val (.int (1 : Int32)), .unset, .unset] []))
      refine own_Go.st (fun _ k => XS.iconst Y547.here hx rfl (hb hby at_123) k) ?_
      show own_Go _ _ _ _ (T547.setTop (mkF m 124 #[.val (.int p1), .val (.int p2), .val (.int p3), .val (.int p4), .val (.int p5), .val (.int p6), .val (.int (1 : Int32)), .val (.int c_511), .val (.int c_512), .val (.int c_513), .val (.int c_514), .val (.ref x_547), .val (.int (0 : Int32)), .val (.int (1 : Int32)), .unset, .unset] [(.int (0 : Int32))]))
      refine own_Go.st (fun _ k => XS.istore Y547.here hx rfl (hb hby at_124) rfl (l' := #[.val (.int p1), .val (.int p2), .val (.int p3), .val (.int p4), .val (.int p5), .val (.int p6), .val (.int (1 : Int32)), .val (.int c_511), .val (.int c_512), .val (.int c_513), .val (.int c_514), .val (.ref x_547), .val (.int (0 : Int32)), .val (.int (1 : Int32)), .val (.int (0 : Int32)), .unset]) rfl k) ?_
      show own_Go _ _ _ _ (T547.setTop (mkF m 126 #[.val (.int p1), .val (.int p2), .val (.int p3), .val (.int p4), .val (.int p5), .val (.int p6), .val (.int (1 : Int32)), .val (.int c_511), .val (.int c_512), .val (.int c_513), .val (.int c_514), .val (.ref x_547), .val (.int (0 : Int32)), .val (.int (1 : Int32)), .val (.int (0 : Int32)), .unset] []))
      obtain ⟨T549, h549, X549, e549, E549, A549, D549, U549, st549⟩ := newO Y547 hx hZ547 hown547 (hw _ (List.mem_of_getElem? (i := 69) rfl)) (hw _ (List.mem_of_getElem? (i := 70) rfl)) (hw _ (List.mem_of_getElem? (i := 71) rfl)) rfl (g := (mkF m 126 #[.val (.int p1), .val (.int p2), .val (.int p3), .val (.int p4), .val (.int p5), .val (.int p6), .val (.int (1 : Int32)), .val (.int c_511), .val (.int c_512), .val (.int c_513), .val (.int c_514), .val (.ref x_547), .val (.int (0 : Int32)), .val (.int (1 : Int32)), .val (.int (0 : Int32)), .unset] [])) rfl (hb hby at_126) (by decide) (by decide)
      obtain ⟨b549, g549⟩ : ∃ z, z = T547.heap.size := ⟨_, rfl⟩
      rw [← g549] at A549 D549 U549 st549
      refine own_Go.st st549 ?_
      have z549 : T547.heap.size ≤ h549.size := E549.1
      have lt_b549 : @LT.lt Nat _ b549 h549.size := A549.lt
      have f550 : Fld Z h549 b549 "com/example/vigilant_gate/vigilantgate/PasswordPolicy" "minimumPasswordLength" "I" (.int (0 : Int32)) := D549 (Or.inr (hw _ (List.mem_of_getElem? (i := 82) rfl))) (ty := .int) (by decide)
      have R549 : CHr Z consts_1 s.vm h0 T547.vm h549 := R547.trans (CHr.ext E549 R547.1)
      show own_Go _ _ _ _ (T549.setTop (mkF m 129 #[.val (.int p1), .val (.int p2), .val (.int p3), .val (.int p4), .val (.int p5), .val (.int p6), .val (.int (1 : Int32)), .val (.int c_511), .val (.int c_512), .val (.int c_513), .val (.int c_514), .val (.ref x_547), .val (.int (0 : Int32)), .val (.int (1 : Int32)), .val (.int (0 : Int32)), .unset] [(.ref b549)]))
      refine own_Go.st (fun _ k => XS.dup X549.here hx rfl (hb hby at_129) rfl rfl k) ?_
      show own_Go _ _ _ _ (T549.setTop (mkF m 130 #[.val (.int p1), .val (.int p2), .val (.int p3), .val (.int p4), .val (.int p5), .val (.int p6), .val (.int (1 : Int32)), .val (.int c_511), .val (.int c_512), .val (.int c_513), .val (.int c_514), .val (.ref x_547), .val (.int (0 : Int32)), .val (.int (1 : Int32)), .val (.int (0 : Int32)), .unset] [(.ref b549), (.ref b549)]))
      refine own_Go.st (fun _ k => XS.iloadN X549.here hx rfl (hb hby at_130) rfl k) ?_
      show own_Go _ _ _ _ (T549.setTop (mkF m 131 #[.val (.int p1), .val (.int p2), .val (.int p3), .val (.int p4), .val (.int p5), .val (.int p6), .val (.int (1 : Int32)), .val (.int c_511), .val (.int c_512), .val (.int c_513), .val (.int c_514), .val (.ref x_547), .val (.int (0 : Int32)), .val (.int (1 : Int32)), .val (.int (0 : Int32)), .unset] [(.int p1), (.ref b549), (.ref b549)]))
      have f552 : Old Z Z.heap.size T547.heap := OL.keep K547 all0
      have f553 : Old Z Z.heap.size h549 := f552.ext E549
      obtain ⟨_, _, ⟨T551, L551, k551, n551⟩, -, X551, ⟨Lc551, hQ551, l551, y551, z551⟩, st551⟩ := X549.specialBack hx (y := (⟨"com/example/vigilant_gate/vigilantgate/PasswordPolicy", "<init>", "(I)V"⟩ : MethodName)) rfl hown547 (mvT hZ547 (hw _ (List.mem_of_getElem? (i := 72) rfl))) (mvT hZ547 (hw _ (List.mem_of_getElem? (i := 73) rfl))) (mvT hZ547 (hw _ (List.mem_of_getElem? (i := 74) rfl))) (by decide) (backOf (W := 1) (rm_ppinit l Z a0 hw [] b549 p1 h549 f553 A549 f550 (by omega)) hZ547 (hw _ (List.mem_of_getElem? (i := 74) rfl)) (hw _ (List.mem_of_getElem? (i := 71) rfl)) (by decide) (by decide)) (g := (mkF m 131 #[.val (.int p1), .val (.int p2), .val (.int p3), .val (.int p4), .val (.int p5), .val (.int p6), .val (.int (1 : Int32)), .val (.int c_511), .val (.int c_512), .val (.int c_513), .val (.int c_514), .val (.ref x_547), .val (.int (0 : Int32)), .val (.int (1 : Int32)), .val (.int (0 : Int32)), .unset] [(.int p1), (.ref b549), (.ref b549)])) rfl (by rw [hml]; rfl) (Steps.refl _) (a := b549) (argsL := [(.int p1)]) (rest := [(.ref b549)]) (lenOf pd_488 rfl) rfl (by show 2 * 0 + _ ≤ _; exact Nat.le_of_eq rfl) (hb hby at_131) (fun _ _ => ⟨rfl, e549, (by decide : 7 + 0 ≤ _), (by decide : 21 + 0 ≤ _)⟩)
      dsimp only [Pt.U, Pt.locs, Pt.cells, Pt.slots] at X551 l551 y551 z551 st551 hQ551
      subst l551 y551 z551
      obtain ⟨rfl, N551q, K551, f551_0, f551_1⟩ := hQ551
      have N551 := Fr.app N547 N551q
      have Sf554 : Safe Z consts_1 T547.vm h549 b549 := Safe.exa hZ547.alike A549 (by decide) (by decide)
      have z551 : h549.size ≤ T551.heap.size := K551.1
      have R551 : CHr Z consts_1 s.vm h0 T547.vm T551.heap := R549.trans (CHr.keep K551 (sfS Sf554 sf0) R549.1)
      have lt551_0 : @LT.lt Nat _ b549 T551.heap.size := f551_0.lt
      have lt551_1 : @LT.lt Nat _ b549 T551.heap.size := f551_1.lt
      refine own_Go.tr st551 ?_
      show own_Go _ _ _ _ (T551.setTop (mkF m 134 #[.val (.int p1), .val (.int p2), .val (.int p3), .val (.int p4), .val (.int p5), .val (.int p6), .val (.int (1 : Int32)), .val (.int c_511), .val (.int c_512), .val (.int c_513), .val (.int c_514), .val (.ref x_547), .val (.int (0 : Int32)), .val (.int (1 : Int32)), .val (.int (0 : Int32)), .unset] [(.ref b549)]))
      refine own_Go.st (fun _ k => XS.astore X551.here hx rfl (hb hby at_134) rfl rfl (l' := #[.val (.int p1), .val (.int p2), .val (.int p3), .val (.int p4), .val (.int p5), .val (.int p6), .val (.int (1 : Int32)), .val (.int c_511), .val (.int c_512), .val (.int c_513), .val (.int c_514), .val (.ref x_547), .val (.int (0 : Int32)), .val (.int (1 : Int32)), .val (.int (0 : Int32)), .val (.ref b549)]) rfl k) ?_
      show own_Go _ _ _ _ (T551.setTop (mkF m 136 #[.val (.int p1), .val (.int p2), .val (.int p3), .val (.int p4), .val (.int p5), .val (.int p6), .val (.int (1 : Int32)), .val (.int c_511), .val (.int c_512), .val (.int c_513), .val (.int c_514), .val (.ref x_547), .val (.int (0 : Int32)), .val (.int (1 : Int32)), .val (.int (0 : Int32)), .val (.ref b549)] []))
      refine own_Go.st (fun _ k => XS.aload X551.here hx rfl (hb hby at_136) rfl rfl k) ?_
      show own_Go _ _ _ _ (T551.setTop (mkF m 138 #[.val (.int p1), .val (.int p2), .val (.int p3), .val (.int p4), .val (.int p5), .val (.int p6), .val (.int (1 : Int32)), .val (.int c_511), .val (.int c_512), .val (.int c_513), .val (.int c_514), .val (.ref x_547), .val (.int (0 : Int32)), .val (.int (1 : Int32)), .val (.int (0 : Int32)), .val (.ref b549)] [(.ref b549)]))
      refine own_Go.st (fun _ k => XS.aload X551.here hx rfl (hb hby at_138) rfl rfl k) ?_
      show own_Go _ _ _ _ (T551.setTop (mkF m 140 #[.val (.int p1), .val (.int p2), .val (.int p3), .val (.int p4), .val (.int p5), .val (.int p6), .val (.int (1 : Int32)), .val (.int c_511), .val (.int c_512), .val (.int c_513), .val (.int c_514), .val (.ref x_547), .val (.int (0 : Int32)), .val (.int (1 : Int32)), .val (.int (0 : Int32)), .val (.ref b549)] [(.ref x_547), (.ref b549)]))
      have f556 : own_Str Z h549 x_547 t_547 cs_547 := f547_0.ext E549
      have f557 : own_Str Z T551.heap x_547 t_547 cs_547 := f556.keep K551 (ninS (by show @Ne Nat x_547 b549; omega) nin0) (ninS (by show @Ne Nat t_547 b549; omega) nin0)
      have f558 : Old Z Z.heap.size T551.heap := f553.keep K551 (allS (by omega) all0)
      obtain ⟨cq555, kq555, q555a, q555b, q555c⟩ := isOf hZ547 rfl f551_0
      obtain ⟨_, _, ⟨T555, L555, k555, n555⟩, -, X555, ⟨Lc555, hQ555, l555, y555, z555⟩, st555⟩ := X551.virtualBack hx (y := (⟨"com/example/vigilant_gate/vigilantgate/PasswordPolicy", "admits", "(Ljava/lang/String;)Z"⟩ : MethodName)) (z := (⟨"com/example/vigilant_gate/vigilantgate/PasswordPolicy", "admits", "(Ljava/lang/String;)Z"⟩ : MethodName)) hown547 (mvT hZ547 (hw _ (List.mem_of_getElem? (i := 83) rfl))) (mvT hZ547 (hw _ (List.mem_of_getElem? (i := 84) rfl))) (notFace_of_selects (args := #[]) (mvT hZ547 (hw _ (List.mem_of_getElem? (i := 86) rfl)))) (mvT hZ547 (hw _ (List.mem_of_getElem? (i := 86) rfl))) (mvT hZ547 (hw _ (List.mem_of_getElem? (i := 85) rfl))) (by decide) (backOf (W := 0) (rm_admits l Z a0 hw [] b549 x_547 p1 t_547 cs_547 zc T551.heap f558 f551_1 f557 st_COMPACT_STRINGS st__assertionsDisabled st_HI_BYTE_SHIFT st_LO_BYTE_SHIFT (by first | assumption | decide)) hZ547 (hw _ (List.mem_of_getElem? (i := 87) rfl)) (hw _ (List.mem_of_getElem? (i := 71) rfl)) (by decide) (by decide)) q555a q555c (g := (mkF m 140 #[.val (.int p1), .val (.int p2), .val (.int p3), .val (.int p4), .val (.int p5), .val (.int p6), .val (.int (1 : Int32)), .val (.int c_511), .val (.int c_512), .val (.int c_513), .val (.int c_514), .val (.ref x_547), .val (.int (0 : Int32)), .val (.int (1 : Int32)), .val (.int (0 : Int32)), .val (.ref b549)] [(.ref x_547), (.ref b549)])) rfl (by rw [hml]; rfl) (Steps.refl _) (argsL := [(.ref x_547)]) (rest := []) (lenOf pd_489 rfl) rfl (by show 2 * 0 + _ ≤ _; exact Nat.le_of_eq rfl) (hb hby at_140) (fun _ _ => ⟨rfl, rfl, (by decide : 7 + 0 ≤ _), (by decide : 21 + 0 ≤ _)⟩)
      dsimp only [Pt.U, Pt.locs, Pt.cells, Pt.slots] at X555 l555 y555 z555 st555 hQ555
      subst l555 y555 z555
      obtain ⟨r_555, rfl, N555q, K555, pr555_0⟩ := hQ555
      have N555 := Fr.app N551 N555q
      rw [hcs] at pr555_0
      refine own_Go.tr st555 ?_
      show own_Go _ _ _ _ (T555.setTop (mkF m 143 #[.val (.int p1), .val (.int p2), .val (.int p3), .val (.int p4), .val (.int p5), .val (.int p6), .val (.int (1 : Int32)), .val (.int c_511), .val (.int c_512), .val (.int c_513), .val (.int c_514), .val (.ref x_547), .val (.int (0 : Int32)), .val (.int (1 : Int32)), .val (.int (0 : Int32)), .val (.ref b549)] [(.int r_555)]))
      refine own_Go.st (fun _ k => XS.iload X555.here hx rfl (hb hby at_143) rfl k) ?_
      show own_Go _ _ _ _ (T555.setTop (mkF m 145 #[.val (.int p1), .val (.int p2), .val (.int p3), .val (.int p4), .val (.int p5), .val (.int p6), .val (.int (1 : Int32)), .val (.int c_511), .val (.int c_512), .val (.int c_513), .val (.int c_514), .val (.ref x_547), .val (.int (0 : Int32)), .val (.int (1 : Int32)), .val (.int (0 : Int32)), .val (.ref b549)] [(.int (0 : Int32)), (.int r_555)]))
      have hcnt : (1 : Int32) = Int32.ofNat (([c_511] : List Int32).length - own_pairs [c_511]) := rfl
      rw [hcnt] at hc548
      have hc559 : r_555 = (0 : Int32) := (by rcases pr555_0 with ⟨q1, q2⟩ | ⟨q1, q2⟩ <;> first | exact q1 | exact absurd q2 hc548 | exact absurd hc548 q2)
      refine own_Go.st (fun _ k => XS.icmpNo X555.here hx rfl (hb hby at_145) rfl (teq hc559).2 k) ?_
      show own_Go _ _ _ _ (T555.setTop (mkF m 148 #[.val (.int p1), .val (.int p2), .val (.int p3), .val (.int p4), .val (.int p5), .val (.int p6), .val (.int (1 : Int32)), .val (.int c_511), .val (.int c_512), .val (.int c_513), .val (.int c_514), .val (.ref x_547), .val (.int (0 : Int32)), .val (.int (1 : Int32)), .val (.int (0 : Int32)), .val (.ref b549)] []))
      refine own_Go.st (fun _ k => XS.iconst X555.here hx rfl (hb hby at_148) k) ?_
      show own_Go _ _ _ _ (T555.setTop (mkF m 149 #[.val (.int p1), .val (.int p2), .val (.int p3), .val (.int p4), .val (.int p5), .val (.int p6), .val (.int (1 : Int32)), .val (.int c_511), .val (.int c_512), .val (.int c_513), .val (.int c_514), .val (.ref x_547), .val (.int (0 : Int32)), .val (.int (1 : Int32)), .val (.int (0 : Int32)), .val (.ref b549)] [(.int (1 : Int32))]))
      refine own_Go.st (fun _ k => XS.goto X555.here hx rfl (pc0 := 149) (pc' := 153) rfl (hb hby at_149) (by decide) (by decide) k) ?_
      show own_Go _ _ _ _ (T555.setTop (mkF m 153 #[.val (.int p1), .val (.int p2), .val (.int p3), .val (.int p4), .val (.int p5), .val (.int p6), .val (.int (1 : Int32)), .val (.int c_511), .val (.int c_512), .val (.int c_513), .val (.int c_514), .val (.ref x_547), .val (.int (0 : Int32)), .val (.int (1 : Int32)), .val (.int (0 : Int32)), .val (.ref b549)] [(.int (1 : Int32))]))
      obtain ⟨fs560, hr560, hrun560, hend560, hret560⟩ := X555.leaveW hS547 (by rw [K555]; exact (by omega)) (v := some (.int (nar .boolean (1 : Int32)))) (fun h => by rw [Bd.returns] at h; cases h)
      have K561 : Keep h0 T547.heap [] := (Keep.refl h0 []).trans K547 all0
      have K562 : Keep h0 h549 [] := K561.ext E549
      have K563 : Keep h0 T551.heap [] := K562.trans K551 (allS (Or.inr (by omega)) all0)
      subst hPP
      refine ⟨_, _, retN X555 hx (t := .boolean) Bd.returns (by simp) (hb hby at_153) hr560, hrun560, hend560, _, _, rfl, ?_, ?_, hret560.1, hret560.2.1, hret560.2.2.1, hret560.2.2.2.mono (by decide) (by decide)⟩
      · show Q_law Z _ _ _ _ _ _ _ h0 _ T555.heap _
        rw [K555]
        exact ⟨rfl, N555, K563⟩
      · have hfin := R551.trans (CHv.at X555 hZ547 hEL R551.1)
        rw [← hh] at hfin
        show CHr Z consts_1 s.vm s.heap T555.vm T555.heap
        rw [K555]
        exact hfin
    ·
      refine own_Go.st (fun _ k => XS.icmpNo Y547.here hx rfl (hb hby at_116) rfl (flt hc548).1 k) ?_
      show own_Go _ _ _ _ (T547.setTop (mkF m 119 #[.val (.int p1), .val (.int p2), .val (.int p3), .val (.int p4), .val (.int p5), .val (.int p6), .val (.int (1 : Int32)), .val (.int c_511), .val (.int c_512), .val (.int c_513), .val (.int c_514), .val (.ref x_547), .val (.int (0 : Int32)), .val (.int (1 : Int32)), .unset, .unset] []))
      refine own_Go.st (fun _ k => XS.iconst Y547.here hx rfl (hb hby at_119) k) ?_
      show own_Go _ _ _ _ (T547.setTop (mkF m 120 #[.val (.int p1), .val (.int p2), .val (.int p3), .val (.int p4), .val (.int p5), .val (.int p6), .val (.int (1 : Int32)), .val (.int c_511), .val (.int c_512), .val (.int c_513), .val (.int c_514), .val (.ref x_547), .val (.int (0 : Int32)), .val (.int (1 : Int32)), .unset, .unset] [(.int (1 : Int32))]))
      refine own_Go.st (fun _ k => XS.goto Y547.here hx rfl (pc0 := 120) (pc' := 124) rfl (hb hby at_120) (by decide) (by decide) k) ?_
      show own_Go _ _ _ _ (T547.setTop (mkF m 124 #[.val (.int p1), .val (.int p2), .val (.int p3), .val (.int p4), .val (.int p5), .val (.int p6), .val (.int (1 : Int32)), .val (.int c_511), .val (.int c_512), .val (.int c_513), .val (.int c_514), .val (.ref x_547), .val (.int (0 : Int32)), .val (.int (1 : Int32)), .unset, .unset] [(.int (1 : Int32))]))
      refine own_Go.st (fun _ k => XS.istore Y547.here hx rfl (hb hby at_124) rfl (l' := #[.val (.int p1), .val (.int p2), .val (.int p3), .val (.int p4), .val (.int p5), .val (.int p6), .val (.int (1 : Int32)), .val (.int c_511), .val (.int c_512), .val (.int c_513), .val (.int c_514), .val (.ref x_547), .val (.int (0 : Int32)), .val (.int (1 : Int32)), .val (.int (1 : Int32)), .unset]) rfl k) ?_
      show own_Go _ _ _ _ (T547.setTop (mkF m 126 #[.val (.int p1), .val (.int p2), .val (.int p3), .val (.int p4), .val (.int p5), .val (.int p6), .val (.int (1 : Int32)), .val (.int c_511), .val (.int c_512), .val (.int c_513), .val (.int c_514), .val (.ref x_547), .val (.int (0 : Int32)), .val (.int (1 : Int32)), .val (.int (1 : Int32)), .unset] []))
      obtain ⟨T564, h564, X564, e564, E564, A564, D564, U564, st564⟩ := newO Y547 hx hZ547 hown547 (hw _ (List.mem_of_getElem? (i := 69) rfl)) (hw _ (List.mem_of_getElem? (i := 70) rfl)) (hw _ (List.mem_of_getElem? (i := 71) rfl)) rfl (g := (mkF m 126 #[.val (.int p1), .val (.int p2), .val (.int p3), .val (.int p4), .val (.int p5), .val (.int p6), .val (.int (1 : Int32)), .val (.int c_511), .val (.int c_512), .val (.int c_513), .val (.int c_514), .val (.ref x_547), .val (.int (0 : Int32)), .val (.int (1 : Int32)), .val (.int (1 : Int32)), .unset] [])) rfl (hb hby at_126) (by decide) (by decide)
      obtain ⟨b564, g564⟩ : ∃ z, z = T547.heap.size := ⟨_, rfl⟩
      rw [← g564] at A564 D564 U564 st564
      refine own_Go.st st564 ?_
      have z564 : T547.heap.size ≤ h564.size := E564.1
      have lt_b564 : @LT.lt Nat _ b564 h564.size := A564.lt
      have f565 : Fld Z h564 b564 "com/example/vigilant_gate/vigilantgate/PasswordPolicy" "minimumPasswordLength" "I" (.int (0 : Int32)) := D564 (Or.inr (hw _ (List.mem_of_getElem? (i := 82) rfl))) (ty := .int) (by decide)
      have R564 : CHr Z consts_1 s.vm h0 T547.vm h564 := R547.trans (CHr.ext E564 R547.1)
      show own_Go _ _ _ _ (T564.setTop (mkF m 129 #[.val (.int p1), .val (.int p2), .val (.int p3), .val (.int p4), .val (.int p5), .val (.int p6), .val (.int (1 : Int32)), .val (.int c_511), .val (.int c_512), .val (.int c_513), .val (.int c_514), .val (.ref x_547), .val (.int (0 : Int32)), .val (.int (1 : Int32)), .val (.int (1 : Int32)), .unset] [(.ref b564)]))
      refine own_Go.st (fun _ k => XS.dup X564.here hx rfl (hb hby at_129) rfl rfl k) ?_
      show own_Go _ _ _ _ (T564.setTop (mkF m 130 #[.val (.int p1), .val (.int p2), .val (.int p3), .val (.int p4), .val (.int p5), .val (.int p6), .val (.int (1 : Int32)), .val (.int c_511), .val (.int c_512), .val (.int c_513), .val (.int c_514), .val (.ref x_547), .val (.int (0 : Int32)), .val (.int (1 : Int32)), .val (.int (1 : Int32)), .unset] [(.ref b564), (.ref b564)]))
      refine own_Go.st (fun _ k => XS.iloadN X564.here hx rfl (hb hby at_130) rfl k) ?_
      show own_Go _ _ _ _ (T564.setTop (mkF m 131 #[.val (.int p1), .val (.int p2), .val (.int p3), .val (.int p4), .val (.int p5), .val (.int p6), .val (.int (1 : Int32)), .val (.int c_511), .val (.int c_512), .val (.int c_513), .val (.int c_514), .val (.ref x_547), .val (.int (0 : Int32)), .val (.int (1 : Int32)), .val (.int (1 : Int32)), .unset] [(.int p1), (.ref b564), (.ref b564)]))
      have f567 : Old Z Z.heap.size T547.heap := OL.keep K547 all0
      have f568 : Old Z Z.heap.size h564 := f567.ext E564
      obtain ⟨_, _, ⟨T566, L566, k566, n566⟩, -, X566, ⟨Lc566, hQ566, l566, y566, z566⟩, st566⟩ := X564.specialBack hx (y := (⟨"com/example/vigilant_gate/vigilantgate/PasswordPolicy", "<init>", "(I)V"⟩ : MethodName)) rfl hown547 (mvT hZ547 (hw _ (List.mem_of_getElem? (i := 72) rfl))) (mvT hZ547 (hw _ (List.mem_of_getElem? (i := 73) rfl))) (mvT hZ547 (hw _ (List.mem_of_getElem? (i := 74) rfl))) (by decide) (backOf (W := 1) (rm_ppinit l Z a0 hw [] b564 p1 h564 f568 A564 f565 (by omega)) hZ547 (hw _ (List.mem_of_getElem? (i := 74) rfl)) (hw _ (List.mem_of_getElem? (i := 71) rfl)) (by decide) (by decide)) (g := (mkF m 131 #[.val (.int p1), .val (.int p2), .val (.int p3), .val (.int p4), .val (.int p5), .val (.int p6), .val (.int (1 : Int32)), .val (.int c_511), .val (.int c_512), .val (.int c_513), .val (.int c_514), .val (.ref x_547), .val (.int (0 : Int32)), .val (.int (1 : Int32)), .val (.int (1 : Int32)), .unset] [(.int p1), (.ref b564), (.ref b564)])) rfl (by rw [hml]; rfl) (Steps.refl _) (a := b564) (argsL := [(.int p1)]) (rest := [(.ref b564)]) (lenOf pd_488 rfl) rfl (by show 2 * 0 + _ ≤ _; exact Nat.le_of_eq rfl) (hb hby at_131) (fun _ _ => ⟨rfl, e564, (by decide : 7 + 0 ≤ _), (by decide : 21 + 0 ≤ _)⟩)
      dsimp only [Pt.U, Pt.locs, Pt.cells, Pt.slots] at X566 l566 y566 z566 st566 hQ566
      subst l566 y566 z566
      obtain ⟨rfl, N566q, K566, f566_0, f566_1⟩ := hQ566
      have N566 := Fr.app N547 N566q
      have Sf569 : Safe Z consts_1 T547.vm h564 b564 := Safe.exa hZ547.alike A564 (by decide) (by decide)
      have z566 : h564.size ≤ T566.heap.size := K566.1
      have R566 : CHr Z consts_1 s.vm h0 T547.vm T566.heap := R564.trans (CHr.keep K566 (sfS Sf569 sf0) R564.1)
      have lt566_0 : @LT.lt Nat _ b564 T566.heap.size := f566_0.lt
      have lt566_1 : @LT.lt Nat _ b564 T566.heap.size := f566_1.lt
      refine own_Go.tr st566 ?_
      show own_Go _ _ _ _ (T566.setTop (mkF m 134 #[.val (.int p1), .val (.int p2), .val (.int p3), .val (.int p4), .val (.int p5), .val (.int p6), .val (.int (1 : Int32)), .val (.int c_511), .val (.int c_512), .val (.int c_513), .val (.int c_514), .val (.ref x_547), .val (.int (0 : Int32)), .val (.int (1 : Int32)), .val (.int (1 : Int32)), .unset] [(.ref b564)]))
      refine own_Go.st (fun _ k => XS.astore X566.here hx rfl (hb hby at_134) rfl rfl (l' := #[.val (.int p1), .val (.int p2), .val (.int p3), .val (.int p4), .val (.int p5), .val (.int p6), .val (.int (1 : Int32)), .val (.int c_511), .val (.int c_512), .val (.int c_513), .val (.int c_514), .val (.ref x_547), .val (.int (0 : Int32)), .val (.int (1 : Int32)), .val (.int (1 : Int32)), .val (.ref b564)]) rfl k) ?_
      show own_Go _ _ _ _ (T566.setTop (mkF m 136 #[.val (.int p1), .val (.int p2), .val (.int p3), .val (.int p4), .val (.int p5), .val (.int p6), .val (.int (1 : Int32)), .val (.int c_511), .val (.int c_512), .val (.int c_513), .val (.int c_514), .val (.ref x_547), .val (.int (0 : Int32)), .val (.int (1 : Int32)), .val (.int (1 : Int32)), .val (.ref b564)] []))
      refine own_Go.st (fun _ k => XS.aload X566.here hx rfl (hb hby at_136) rfl rfl k) ?_
      show own_Go _ _ _ _ (T566.setTop (mkF m 138 #[.val (.int p1), .val (.int p2), .val (.int p3), .val (.int p4), .val (.int p5), .val (.int p6), .val (.int (1 : Int32)), .val (.int c_511), .val (.int c_512), .val (.int c_513), .val (.int c_514), .val (.ref x_547), .val (.int (0 : Int32)), .val (.int (1 : Int32)), .val (.int (1 : Int32)), .val (.ref b564)] [(.ref b564)]))
      refine own_Go.st (fun _ k => XS.aload X566.here hx rfl (hb hby at_138) rfl rfl k) ?_
      show own_Go _ _ _ _ (T566.setTop (mkF m 140 #[.val (.int p1), .val (.int p2), .val (.int p3), .val (.int p4), .val (.int p5), .val (.int p6), .val (.int (1 : Int32)), .val (.int c_511), .val (.int c_512), .val (.int c_513), .val (.int c_514), .val (.ref x_547), .val (.int (0 : Int32)), .val (.int (1 : Int32)), .val (.int (1 : Int32)), .val (.ref b564)] [(.ref x_547), (.ref b564)]))
      have f571 : own_Str Z h564 x_547 t_547 cs_547 := f547_0.ext E564
      have f572 : own_Str Z T566.heap x_547 t_547 cs_547 := f571.keep K566 (ninS (by show @Ne Nat x_547 b564; omega) nin0) (ninS (by show @Ne Nat t_547 b564; omega) nin0)
      have f573 : Old Z Z.heap.size T566.heap := f568.keep K566 (allS (by omega) all0)
      obtain ⟨cq570, kq570, q570a, q570b, q570c⟩ := isOf hZ547 rfl f566_0
      obtain ⟨_, _, ⟨T570, L570, k570, n570⟩, -, X570, ⟨Lc570, hQ570, l570, y570, z570⟩, st570⟩ := X566.virtualBack hx (y := (⟨"com/example/vigilant_gate/vigilantgate/PasswordPolicy", "admits", "(Ljava/lang/String;)Z"⟩ : MethodName)) (z := (⟨"com/example/vigilant_gate/vigilantgate/PasswordPolicy", "admits", "(Ljava/lang/String;)Z"⟩ : MethodName)) hown547 (mvT hZ547 (hw _ (List.mem_of_getElem? (i := 83) rfl))) (mvT hZ547 (hw _ (List.mem_of_getElem? (i := 84) rfl))) (notFace_of_selects (args := #[]) (mvT hZ547 (hw _ (List.mem_of_getElem? (i := 86) rfl)))) (mvT hZ547 (hw _ (List.mem_of_getElem? (i := 86) rfl))) (mvT hZ547 (hw _ (List.mem_of_getElem? (i := 85) rfl))) (by decide) (backOf (W := 0) (rm_admits l Z a0 hw [] b564 x_547 p1 t_547 cs_547 zc T566.heap f573 f566_1 f572 st_COMPACT_STRINGS st__assertionsDisabled st_HI_BYTE_SHIFT st_LO_BYTE_SHIFT (by first | assumption | decide)) hZ547 (hw _ (List.mem_of_getElem? (i := 87) rfl)) (hw _ (List.mem_of_getElem? (i := 71) rfl)) (by decide) (by decide)) q570a q570c (g := (mkF m 140 #[.val (.int p1), .val (.int p2), .val (.int p3), .val (.int p4), .val (.int p5), .val (.int p6), .val (.int (1 : Int32)), .val (.int c_511), .val (.int c_512), .val (.int c_513), .val (.int c_514), .val (.ref x_547), .val (.int (0 : Int32)), .val (.int (1 : Int32)), .val (.int (1 : Int32)), .val (.ref b564)] [(.ref x_547), (.ref b564)])) rfl (by rw [hml]; rfl) (Steps.refl _) (argsL := [(.ref x_547)]) (rest := []) (lenOf pd_489 rfl) rfl (by show 2 * 0 + _ ≤ _; exact Nat.le_of_eq rfl) (hb hby at_140) (fun _ _ => ⟨rfl, rfl, (by decide : 7 + 0 ≤ _), (by decide : 21 + 0 ≤ _)⟩)
      dsimp only [Pt.U, Pt.locs, Pt.cells, Pt.slots] at X570 l570 y570 z570 st570 hQ570
      subst l570 y570 z570
      obtain ⟨r_570, rfl, N570q, K570, pr570_0⟩ := hQ570
      have N570 := Fr.app N566 N570q
      rw [hcs] at pr570_0
      refine own_Go.tr st570 ?_
      show own_Go _ _ _ _ (T570.setTop (mkF m 143 #[.val (.int p1), .val (.int p2), .val (.int p3), .val (.int p4), .val (.int p5), .val (.int p6), .val (.int (1 : Int32)), .val (.int c_511), .val (.int c_512), .val (.int c_513), .val (.int c_514), .val (.ref x_547), .val (.int (0 : Int32)), .val (.int (1 : Int32)), .val (.int (1 : Int32)), .val (.ref b564)] [(.int r_570)]))
      refine own_Go.st (fun _ k => XS.iload X570.here hx rfl (hb hby at_143) rfl k) ?_
      show own_Go _ _ _ _ (T570.setTop (mkF m 145 #[.val (.int p1), .val (.int p2), .val (.int p3), .val (.int p4), .val (.int p5), .val (.int p6), .val (.int (1 : Int32)), .val (.int c_511), .val (.int c_512), .val (.int c_513), .val (.int c_514), .val (.ref x_547), .val (.int (0 : Int32)), .val (.int (1 : Int32)), .val (.int (1 : Int32)), .val (.ref b564)] [(.int (1 : Int32)), (.int r_570)]))
      have hcnt : (1 : Int32) = Int32.ofNat (([c_511] : List Int32).length - own_pairs [c_511]) := rfl
      rw [hcnt] at hc548
      have hc574 : r_570 = (1 : Int32) := (by rcases pr570_0 with ⟨q1, q2⟩ | ⟨q1, q2⟩ <;> first | exact q1 | exact absurd q2 hc548 | exact absurd hc548 q2)
      refine own_Go.st (fun _ k => XS.icmpNo X570.here hx rfl (hb hby at_145) rfl (teq hc574).2 k) ?_
      show own_Go _ _ _ _ (T570.setTop (mkF m 148 #[.val (.int p1), .val (.int p2), .val (.int p3), .val (.int p4), .val (.int p5), .val (.int p6), .val (.int (1 : Int32)), .val (.int c_511), .val (.int c_512), .val (.int c_513), .val (.int c_514), .val (.ref x_547), .val (.int (0 : Int32)), .val (.int (1 : Int32)), .val (.int (1 : Int32)), .val (.ref b564)] []))
      refine own_Go.st (fun _ k => XS.iconst X570.here hx rfl (hb hby at_148) k) ?_
      show own_Go _ _ _ _ (T570.setTop (mkF m 149 #[.val (.int p1), .val (.int p2), .val (.int p3), .val (.int p4), .val (.int p5), .val (.int p6), .val (.int (1 : Int32)), .val (.int c_511), .val (.int c_512), .val (.int c_513), .val (.int c_514), .val (.ref x_547), .val (.int (0 : Int32)), .val (.int (1 : Int32)), .val (.int (1 : Int32)), .val (.ref b564)] [(.int (1 : Int32))]))
      refine own_Go.st (fun _ k => XS.goto X570.here hx rfl (pc0 := 149) (pc' := 153) rfl (hb hby at_149) (by decide) (by decide) k) ?_
      show own_Go _ _ _ _ (T570.setTop (mkF m 153 #[.val (.int p1), .val (.int p2), .val (.int p3), .val (.int p4), .val (.int p5), .val (.int p6), .val (.int (1 : Int32)), .val (.int c_511), .val (.int c_512), .val (.int c_513), .val (.int c_514), .val (.ref x_547), .val (.int (0 : Int32)), .val (.int (1 : Int32)), .val (.int (1 : Int32)), .val (.ref b564)] [(.int (1 : Int32))]))
      obtain ⟨fs575, hr575, hrun575, hend575, hret575⟩ := X570.leaveW hS547 (by rw [K570]; exact (by omega)) (v := some (.int (nar .boolean (1 : Int32)))) (fun h => by rw [Bd.returns] at h; cases h)
      have K576 : Keep h0 T547.heap [] := (Keep.refl h0 []).trans K547 all0
      have K577 : Keep h0 h564 [] := K576.ext E564
      have K578 : Keep h0 T566.heap [] := K577.trans K566 (allS (Or.inr (by omega)) all0)
      subst hPP
      refine ⟨_, _, retN X570 hx (t := .boolean) Bd.returns (by simp) (hb hby at_153) hr575, hrun575, hend575, _, _, rfl, ?_, ?_, hret575.1, hret575.2.1, hret575.2.2.1, hret575.2.2.2.mono (by decide) (by decide)⟩
      · show Q_law Z _ _ _ _ _ _ _ h0 _ T570.heap _
        rw [K570]
        exact ⟨rfl, N570, K578⟩
      · have hfin := R566.trans (CHv.at X570 hZ547 hEL R566.1)
        rw [← hh] at hfin
        show CHr Z consts_1 s.vm s.heap T570.vm T570.heap
        rw [K570]
        exact hfin
  ·
    show own_Go _ _ _ _ (T514.setTop (mkF m 34 #[.val (.int p1), .val (.int p2), .val (.int p3), .val (.int p4), .val (.int p5), .val (.int p6), .val (.int (2 : Int32)), .val (.int c_511), .val (.int c_512), .val (.int c_513), .val (.int c_514), .unset, .unset, .unset, .unset, .unset] []))
    refine own_Go.st (fun _ k => XS.iload X514.here hx rfl (hb hby at_34) rfl k) ?_
    show own_Go _ _ _ _ (T514.setTop (mkF m 36 #[.val (.int p1), .val (.int p2), .val (.int p3), .val (.int p4), .val (.int p5), .val (.int p6), .val (.int (2 : Int32)), .val (.int c_511), .val (.int c_512), .val (.int c_513), .val (.int c_514), .unset, .unset, .unset, .unset, .unset] [(.int (2 : Int32))]))
    refine own_Go.st (fun _ k => XS.iload X514.here hx rfl (hb hby at_36) rfl k) ?_
    show own_Go _ _ _ _ (T514.setTop (mkF m 38 #[.val (.int p1), .val (.int p2), .val (.int p3), .val (.int p4), .val (.int p5), .val (.int p6), .val (.int (2 : Int32)), .val (.int c_511), .val (.int c_512), .val (.int c_513), .val (.int c_514), .unset, .unset, .unset, .unset, .unset] [(.int c_511), (.int (2 : Int32))]))
    refine own_Go.st (fun _ k => XS.iload X514.here hx rfl (hb hby at_38) rfl k) ?_
    show own_Go _ _ _ _ (T514.setTop (mkF m 40 #[.val (.int p1), .val (.int p2), .val (.int p3), .val (.int p4), .val (.int p5), .val (.int p6), .val (.int (2 : Int32)), .val (.int c_511), .val (.int c_512), .val (.int c_513), .val (.int c_514), .unset, .unset, .unset, .unset, .unset] [(.int c_512), (.int c_511), (.int (2 : Int32))]))
    refine own_Go.st (fun _ k => XS.iload X514.here hx rfl (hb hby at_40) rfl k) ?_
    show own_Go _ _ _ _ (T514.setTop (mkF m 42 #[.val (.int p1), .val (.int p2), .val (.int p3), .val (.int p4), .val (.int p5), .val (.int p6), .val (.int (2 : Int32)), .val (.int c_511), .val (.int c_512), .val (.int c_513), .val (.int c_514), .unset, .unset, .unset, .unset, .unset] [(.int c_513), (.int c_512), (.int c_511), (.int (2 : Int32))]))
    refine own_Go.st (fun _ k => XS.iload X514.here hx rfl (hb hby at_42) rfl k) ?_
    show own_Go _ _ _ _ (T514.setTop (mkF m 44 #[.val (.int p1), .val (.int p2), .val (.int p3), .val (.int p4), .val (.int p5), .val (.int p6), .val (.int (2 : Int32)), .val (.int c_511), .val (.int c_512), .val (.int c_513), .val (.int c_514), .unset, .unset, .unset, .unset, .unset] [(.int c_514), (.int c_513), (.int c_512), (.int c_511), (.int (2 : Int32))]))
    obtain ⟨_, _, ⟨T579, L579, k579, n579⟩, -, X579, hs579, hg579, ⟨Lc579, hQ579, l579, y579, z579, ch579⟩, st579⟩ := callSS X514 hx (y := (⟨"com/example/vigilant_gate/vigilantgate/PasswordPolicyAdmitsPinLaw", "build", "(ICCCC)Ljava/lang/String;"⟩ : MethodName)) hown (mvT hZ (hw _ (List.mem_of_getElem? (i := 7) rfl))) (mvT hZ (hw _ (List.mem_of_getElem? (i := 8) rfl))) (mvT hZ (hw _ (List.mem_of_getElem? (i := 2) rfl))) (mvT hZ (hw _ (List.mem_of_getElem? (i := 9) rfl))) (by decide) (backOfSH (s := s) (vm0 := s.vm) (W := 0) (rm_build l Z a0 hw [] (2 : Int32) c_511 c_512 c_513 c_514 zc h0 hEL OL st_COMPACT_STRINGS st__assertionsDisabled st_HI_BYTE_SHIFT st_LO_BYTE_SHIFT (by first | assumption | decide) (by first | assumption | decide) (by first | assumption | decide) (by first | assumption | decide) (by first | assumption | decide)) hZ (hw _ (List.mem_of_getElem? (i := 9) rfl)) (hw _ (List.mem_of_getElem? (i := 2) rfl)) (by decide) (by decide) hEL R0.1) (g := (mkF m 44 #[.val (.int p1), .val (.int p2), .val (.int p3), .val (.int p4), .val (.int p5), .val (.int p6), .val (.int (2 : Int32)), .val (.int c_511), .val (.int c_512), .val (.int c_513), .val (.int c_514), .unset, .unset, .unset, .unset, .unset] [(.int c_514), (.int c_513), (.int c_512), (.int c_511), (.int (2 : Int32))])) rfl (by rw [hml]; rfl) (argsL := [(.int (2 : Int32)), (.int c_511), (.int c_512), (.int c_513), (.int c_514)]) (rest := []) (lenOf pd_487 rfl) rfl (by show 2 * 0 + _ ≤ _; exact Nat.le_of_eq rfl) (hb hby at_44) (fun _ _ => ⟨rfl, K514, (by decide : 0 + 6 ≤ _), (by decide : 0 + 20 ≤ _)⟩)
    dsimp only [Pt.U, Pt.locs, Pt.cells, Pt.slots] at X579 l579 y579 z579 st579 hQ579 hs579 hg579 ch579
    subst l579 y579 z579
    obtain ⟨x_579, t_579, cs_579, rfl, N579q, K579, f579_0, pr579_0⟩ := hQ579
    have N579 := Fr.app N514 N579q
    obtain ⟨Y579, hS579, hZ579, hown579⟩ := rebS hS0 (n1 := h0.size) (by omega) X579 hs579 (by have := hg579; first | exact this | (rw [← K514]; exact this)) hZ hown
    have z579 : h0.size ≤ T579.heap.size := K579.1
    have R579 : CHr Z consts_1 s.vm h0 T579.vm T579.heap := R0.trans ch579
    have lt579_0 : @LT.lt Nat _ x_579 T579.heap.size := f579_0.lt
    have ltv579_0 : @LT.lt Nat _ t_579 T579.heap.size := f579_0.ltv
    have hcs : cs_579 = ([c_511, c_512] : List Int32) := by rw [pr579_0]; rfl
    refine own_Go.tr st579 ?_
    show own_Go _ _ _ _ (T579.setTop (mkF m 47 #[.val (.int p1), .val (.int p2), .val (.int p3), .val (.int p4), .val (.int p5), .val (.int p6), .val (.int (2 : Int32)), .val (.int c_511), .val (.int c_512), .val (.int c_513), .val (.int c_514), .unset, .unset, .unset, .unset, .unset] [(.ref x_579)]))
    refine own_Go.st (fun _ k => XS.astore Y579.here hx rfl (hb hby at_47) rfl rfl (l' := #[.val (.int p1), .val (.int p2), .val (.int p3), .val (.int p4), .val (.int p5), .val (.int p6), .val (.int (2 : Int32)), .val (.int c_511), .val (.int c_512), .val (.int c_513), .val (.int c_514), .val (.ref x_579), .unset, .unset, .unset, .unset]) rfl k) ?_
    show own_Go _ _ _ _ (T579.setTop (mkF m 49 #[.val (.int p1), .val (.int p2), .val (.int p3), .val (.int p4), .val (.int p5), .val (.int p6), .val (.int (2 : Int32)), .val (.int c_511), .val (.int c_512), .val (.int c_513), .val (.int c_514), .val (.ref x_579), .unset, .unset, .unset, .unset] []))
    refine own_Go.st (fun _ k => XS.iconst Y579.here hx rfl (hb hby at_49) k) ?_
    show own_Go _ _ _ _ (T579.setTop (mkF m 50 #[.val (.int p1), .val (.int p2), .val (.int p3), .val (.int p4), .val (.int p5), .val (.int p6), .val (.int (2 : Int32)), .val (.int c_511), .val (.int c_512), .val (.int c_513), .val (.int c_514), .val (.ref x_579), .unset, .unset, .unset, .unset] [(.int (0 : Int32))]))
    refine own_Go.st (fun _ k => XS.istore Y579.here hx rfl (hb hby at_50) rfl (l' := #[.val (.int p1), .val (.int p2), .val (.int p3), .val (.int p4), .val (.int p5), .val (.int p6), .val (.int (2 : Int32)), .val (.int c_511), .val (.int c_512), .val (.int c_513), .val (.int c_514), .val (.ref x_579), .val (.int (0 : Int32)), .unset, .unset, .unset]) rfl k) ?_
    show own_Go _ _ _ _ (T579.setTop (mkF m 52 #[.val (.int p1), .val (.int p2), .val (.int p3), .val (.int p4), .val (.int p5), .val (.int p6), .val (.int (2 : Int32)), .val (.int c_511), .val (.int c_512), .val (.int c_513), .val (.int c_514), .val (.ref x_579), .val (.int (0 : Int32)), .unset, .unset, .unset] []))
    refine own_Go.st (fun _ k => XS.iload Y579.here hx rfl (hb hby at_52) rfl k) ?_
    show own_Go _ _ _ _ (T579.setTop (mkF m 54 #[.val (.int p1), .val (.int p2), .val (.int p3), .val (.int p4), .val (.int p5), .val (.int p6), .val (.int (2 : Int32)), .val (.int c_511), .val (.int c_512), .val (.int c_513), .val (.int c_514), .val (.ref x_579), .val (.int (0 : Int32)), .unset, .unset, .unset] [(.int (2 : Int32))]))
    refine own_Go.st (fun _ k => XS.iconst Y579.here hx rfl (hb hby at_54) k) ?_
    show own_Go _ _ _ _ (T579.setTop (mkF m 55 #[.val (.int p1), .val (.int p2), .val (.int p3), .val (.int p4), .val (.int p5), .val (.int p6), .val (.int (2 : Int32)), .val (.int c_511), .val (.int c_512), .val (.int c_513), .val (.int c_514), .val (.ref x_579), .val (.int (0 : Int32)), .unset, .unset, .unset] [(.int (2 : Int32)), (.int (2 : Int32))]))
    refine own_Go.st (fun _ k => XS.icmpNo Y579.here hx rfl (hb hby at_55) rfl (flt (by decide : ¬ ((2 : Int32) < (2 : Int32)))).1 k) ?_
    show own_Go _ _ _ _ (T579.setTop (mkF m 58 #[.val (.int p1), .val (.int p2), .val (.int p3), .val (.int p4), .val (.int p5), .val (.int p6), .val (.int (2 : Int32)), .val (.int c_511), .val (.int c_512), .val (.int c_513), .val (.int c_514), .val (.ref x_579), .val (.int (0 : Int32)), .unset, .unset, .unset] []))
    refine own_Go.st (fun _ k => XS.iload Y579.here hx rfl (hb hby at_58) rfl k) ?_
    show own_Go _ _ _ _ (T579.setTop (mkF m 60 #[.val (.int p1), .val (.int p2), .val (.int p3), .val (.int p4), .val (.int p5), .val (.int p6), .val (.int (2 : Int32)), .val (.int c_511), .val (.int c_512), .val (.int c_513), .val (.int c_514), .val (.ref x_579), .val (.int (0 : Int32)), .unset, .unset, .unset] [(.int (0 : Int32))]))
    refine own_Go.st (fun _ k => XS.iload Y579.here hx rfl (hb hby at_60) rfl k) ?_
    show own_Go _ _ _ _ (T579.setTop (mkF m 62 #[.val (.int p1), .val (.int p2), .val (.int p3), .val (.int p4), .val (.int p5), .val (.int p6), .val (.int (2 : Int32)), .val (.int c_511), .val (.int c_512), .val (.int c_513), .val (.int c_514), .val (.ref x_579), .val (.int (0 : Int32)), .unset, .unset, .unset] [(.int c_511), (.int (0 : Int32))]))
    refine own_Go.st (fun _ k => XS.iload Y579.here hx rfl (hb hby at_62) rfl k) ?_
    show own_Go _ _ _ _ (T579.setTop (mkF m 64 #[.val (.int p1), .val (.int p2), .val (.int p3), .val (.int p4), .val (.int p5), .val (.int p6), .val (.int (2 : Int32)), .val (.int c_511), .val (.int c_512), .val (.int c_513), .val (.int c_514), .val (.ref x_579), .val (.int (0 : Int32)), .unset, .unset, .unset] [(.int c_512), (.int c_511), (.int (0 : Int32))]))
    have f581 : Old Z Z.heap.size T579.heap := OL.keep K579 all0
    obtain ⟨_, _, ⟨T580, L580, k580, n580⟩, -, X580, ⟨Lc580, hQ580, l580, y580, z580⟩, st580⟩ := Jvm.LawKit.callS Y579 hx (y := (⟨"com/example/vigilant_gate/vigilantgate/PasswordPolicyAdmitsPinLaw", "pair", "(CC)I"⟩ : MethodName)) hown579 (mvT hZ579 (hw _ (List.mem_of_getElem? (i := 59) rfl))) (mvT hZ579 (hw _ (List.mem_of_getElem? (i := 60) rfl))) (mvT hZ579 (hw _ (List.mem_of_getElem? (i := 2) rfl))) (mvT hZ579 (hw _ (List.mem_of_getElem? (i := 61) rfl))) (by decide) (backOf (W := 1) (rm_pair l Z a0 hw [] c_511 c_512 T579.heap f581 ) hZ579 (hw _ (List.mem_of_getElem? (i := 61) rfl)) (hw _ (List.mem_of_getElem? (i := 2) rfl)) (by decide) (by decide)) (g := (mkF m 64 #[.val (.int p1), .val (.int p2), .val (.int p3), .val (.int p4), .val (.int p5), .val (.int p6), .val (.int (2 : Int32)), .val (.int c_511), .val (.int c_512), .val (.int c_513), .val (.int c_514), .val (.ref x_579), .val (.int (0 : Int32)), .unset, .unset, .unset] [(.int c_512), (.int c_511), (.int (0 : Int32))])) rfl (by rw [hml]; rfl) (argsL := [(.int c_511), (.int c_512)]) (rest := [(.int (0 : Int32))]) (lenOf pd_490 rfl) rfl (by show 2 * 0 + _ ≤ _; exact Nat.le_of_eq rfl) (hb hby at_64) (fun _ _ => ⟨rfl, rfl, (by decide : 6 + 0 ≤ _), (by decide : 20 + 0 ≤ _)⟩)
    dsimp only [Pt.U, Pt.locs, Pt.cells, Pt.slots] at X580 l580 y580 z580 st580 hQ580
    subst l580 y580 z580
    obtain ⟨r_580, rfl, N580q, K580, pr580_0⟩ := hQ580
    have N580 := Fr.app N579 N580q
    refine own_Go.st st580 ?_
    show own_Go _ _ _ _ (T580.setTop (mkF m 67 #[.val (.int p1), .val (.int p2), .val (.int p3), .val (.int p4), .val (.int p5), .val (.int p6), .val (.int (2 : Int32)), .val (.int c_511), .val (.int c_512), .val (.int c_513), .val (.int c_514), .val (.ref x_579), .val (.int (0 : Int32)), .unset, .unset, .unset] [(.int r_580), (.int (0 : Int32))]))
    refine own_Go.st (fun _ k => XS.iadd X580.here hx rfl (hb hby at_67) rfl k) ?_
    show own_Go _ _ _ _ (T580.setTop (mkF m 68 #[.val (.int p1), .val (.int p2), .val (.int p3), .val (.int p4), .val (.int p5), .val (.int p6), .val (.int (2 : Int32)), .val (.int c_511), .val (.int c_512), .val (.int c_513), .val (.int c_514), .val (.ref x_579), .val (.int (0 : Int32)), .unset, .unset, .unset] [(.int ((0 : Int32) + r_580))]))
    refine own_Go.st (fun _ k => XS.istore X580.here hx rfl (hb hby at_68) rfl (l' := #[.val (.int p1), .val (.int p2), .val (.int p3), .val (.int p4), .val (.int p5), .val (.int p6), .val (.int (2 : Int32)), .val (.int c_511), .val (.int c_512), .val (.int c_513), .val (.int c_514), .val (.ref x_579), .val (.int ((0 : Int32) + r_580)), .unset, .unset, .unset]) rfl k) ?_
    show own_Go _ _ _ _ (T580.setTop (mkF m 70 #[.val (.int p1), .val (.int p2), .val (.int p3), .val (.int p4), .val (.int p5), .val (.int p6), .val (.int (2 : Int32)), .val (.int c_511), .val (.int c_512), .val (.int c_513), .val (.int c_514), .val (.ref x_579), .val (.int ((0 : Int32) + r_580)), .unset, .unset, .unset] []))
    refine own_Go.st (fun _ k => XS.iload X580.here hx rfl (hb hby at_70) rfl k) ?_
    show own_Go _ _ _ _ (T580.setTop (mkF m 72 #[.val (.int p1), .val (.int p2), .val (.int p3), .val (.int p4), .val (.int p5), .val (.int p6), .val (.int (2 : Int32)), .val (.int c_511), .val (.int c_512), .val (.int c_513), .val (.int c_514), .val (.ref x_579), .val (.int ((0 : Int32) + r_580)), .unset, .unset, .unset] [(.int (2 : Int32))]))
    refine own_Go.st (fun _ k => XS.iconst X580.here hx rfl (hb hby at_72) k) ?_
    show own_Go _ _ _ _ (T580.setTop (mkF m 73 #[.val (.int p1), .val (.int p2), .val (.int p3), .val (.int p4), .val (.int p5), .val (.int p6), .val (.int (2 : Int32)), .val (.int c_511), .val (.int c_512), .val (.int c_513), .val (.int c_514), .val (.ref x_579), .val (.int ((0 : Int32) + r_580)), .unset, .unset, .unset] [(.int (3 : Int32)), (.int (2 : Int32))]))
    refine own_Go.st (fun _ k => XS.icmpYes X580.here hx rfl (pc0 := 73) (pc' := 88) rfl (hb hby at_73) rfl (tlt (by decide : (2 : Int32) < (3 : Int32))).1 (by decide) (by decide) k) ?_
    show own_Go _ _ _ _ (T580.setTop (mkF m 88 #[.val (.int p1), .val (.int p2), .val (.int p3), .val (.int p4), .val (.int p5), .val (.int p6), .val (.int (2 : Int32)), .val (.int c_511), .val (.int c_512), .val (.int c_513), .val (.int c_514), .val (.ref x_579), .val (.int ((0 : Int32) + r_580)), .unset, .unset, .unset] []))
    refine own_Go.st (fun _ k => XS.iload X580.here hx rfl (hb hby at_88) rfl k) ?_
    show own_Go _ _ _ _ (T580.setTop (mkF m 90 #[.val (.int p1), .val (.int p2), .val (.int p3), .val (.int p4), .val (.int p5), .val (.int p6), .val (.int (2 : Int32)), .val (.int c_511), .val (.int c_512), .val (.int c_513), .val (.int c_514), .val (.ref x_579), .val (.int ((0 : Int32) + r_580)), .unset, .unset, .unset] [(.int (2 : Int32))]))
    refine own_Go.st (fun _ k => XS.iconst X580.here hx rfl (hb hby at_90) k) ?_
    show own_Go _ _ _ _ (T580.setTop (mkF m 91 #[.val (.int p1), .val (.int p2), .val (.int p3), .val (.int p4), .val (.int p5), .val (.int p6), .val (.int (2 : Int32)), .val (.int c_511), .val (.int c_512), .val (.int c_513), .val (.int c_514), .val (.ref x_579), .val (.int ((0 : Int32) + r_580)), .unset, .unset, .unset] [(.int (4 : Int32)), (.int (2 : Int32))]))
    refine own_Go.st (fun _ k => XS.icmpYes X580.here hx rfl (pc0 := 91) (pc' := 106) rfl (hb hby at_91) rfl (tlt (by decide : (2 : Int32) < (4 : Int32))).1 (by decide) (by decide) k) ?_
    show own_Go _ _ _ _ (T580.setTop (mkF m 106 #[.val (.int p1), .val (.int p2), .val (.int p3), .val (.int p4), .val (.int p5), .val (.int p6), .val (.int (2 : Int32)), .val (.int c_511), .val (.int c_512), .val (.int c_513), .val (.int c_514), .val (.ref x_579), .val (.int ((0 : Int32) + r_580)), .unset, .unset, .unset] []))
    refine own_Go.st (fun _ k => XS.iload X580.here hx rfl (hb hby at_106) rfl k) ?_
    show own_Go _ _ _ _ (T580.setTop (mkF m 108 #[.val (.int p1), .val (.int p2), .val (.int p3), .val (.int p4), .val (.int p5), .val (.int p6), .val (.int (2 : Int32)), .val (.int c_511), .val (.int c_512), .val (.int c_513), .val (.int c_514), .val (.ref x_579), .val (.int ((0 : Int32) + r_580)), .unset, .unset, .unset] [(.int (2 : Int32))]))
    refine own_Go.st (fun _ k => XS.iload X580.here hx rfl (hb hby at_108) rfl k) ?_
    show own_Go _ _ _ _ (T580.setTop (mkF m 110 #[.val (.int p1), .val (.int p2), .val (.int p3), .val (.int p4), .val (.int p5), .val (.int p6), .val (.int (2 : Int32)), .val (.int c_511), .val (.int c_512), .val (.int c_513), .val (.int c_514), .val (.ref x_579), .val (.int ((0 : Int32) + r_580)), .unset, .unset, .unset] [(.int ((0 : Int32) + r_580)), (.int (2 : Int32))]))
    refine own_Go.st (fun _ k => XS.isub X580.here hx rfl (hb hby at_110) rfl k) ?_
    show own_Go _ _ _ _ (T580.setTop (mkF m 111 #[.val (.int p1), .val (.int p2), .val (.int p3), .val (.int p4), .val (.int p5), .val (.int p6), .val (.int (2 : Int32)), .val (.int c_511), .val (.int c_512), .val (.int c_513), .val (.int c_514), .val (.ref x_579), .val (.int ((0 : Int32) + r_580)), .unset, .unset, .unset] [(.int ((2 : Int32) - ((0 : Int32) + r_580)))]))
    refine own_Go.st (fun _ k => XS.istore X580.here hx rfl (hb hby at_111) rfl (l' := #[.val (.int p1), .val (.int p2), .val (.int p3), .val (.int p4), .val (.int p5), .val (.int p6), .val (.int (2 : Int32)), .val (.int c_511), .val (.int c_512), .val (.int c_513), .val (.int c_514), .val (.ref x_579), .val (.int ((0 : Int32) + r_580)), .val (.int ((2 : Int32) - ((0 : Int32) + r_580))), .unset, .unset]) rfl k) ?_
    show own_Go _ _ _ _ (T580.setTop (mkF m 113 #[.val (.int p1), .val (.int p2), .val (.int p3), .val (.int p4), .val (.int p5), .val (.int p6), .val (.int (2 : Int32)), .val (.int c_511), .val (.int c_512), .val (.int c_513), .val (.int c_514), .val (.ref x_579), .val (.int ((0 : Int32) + r_580)), .val (.int ((2 : Int32) - ((0 : Int32) + r_580))), .unset, .unset] []))
    refine own_Go.st (fun _ k => XS.iload X580.here hx rfl (hb hby at_113) rfl k) ?_
    show own_Go _ _ _ _ (T580.setTop (mkF m 115 #[.val (.int p1), .val (.int p2), .val (.int p3), .val (.int p4), .val (.int p5), .val (.int p6), .val (.int (2 : Int32)), .val (.int c_511), .val (.int c_512), .val (.int c_513), .val (.int c_514), .val (.ref x_579), .val (.int ((0 : Int32) + r_580)), .val (.int ((2 : Int32) - ((0 : Int32) + r_580))), .unset, .unset] [(.int ((2 : Int32) - ((0 : Int32) + r_580)))]))
    refine own_Go.st (fun _ k => XS.iloadN X580.here hx rfl (hb hby at_115) rfl k) ?_
    show own_Go _ _ _ _ (T580.setTop (mkF m 116 #[.val (.int p1), .val (.int p2), .val (.int p3), .val (.int p4), .val (.int p5), .val (.int p6), .val (.int (2 : Int32)), .val (.int c_511), .val (.int c_512), .val (.int c_513), .val (.int c_514), .val (.ref x_579), .val (.int ((0 : Int32) + r_580)), .val (.int ((2 : Int32) - ((0 : Int32) + r_580))), .unset, .unset] [(.int p1), (.int ((2 : Int32) - ((0 : Int32) + r_580)))]))
    by_cases hc582 : ((2 : Int32) - ((0 : Int32) + r_580)) < p1
    ·
      refine own_Go.st (fun _ k => XS.icmpYes X580.here hx rfl (pc0 := 116) (pc' := 123) rfl (hb hby at_116) rfl (tlt hc582).1 (by decide) (by decide) k) ?_
      show own_Go _ _ _ _ (T580.setTop (mkF m 123 #[.val (.int p1), .val (.int p2), .val (.int p3), .val (.int p4), .val (.int p5), .val (.int p6), .val (.int (2 : Int32)), .val (.int c_511), .val (.int c_512), .val (.int c_513), .val (.int c_514), .val (.ref x_579), .val (.int ((0 : Int32) + r_580)), .val (.int ((2 : Int32) - ((0 : Int32) + r_580))), .unset, .unset] []))
      refine own_Go.st (fun _ k => XS.iconst X580.here hx rfl (hb hby at_123) k) ?_
      show own_Go _ _ _ _ (T580.setTop (mkF m 124 #[.val (.int p1), .val (.int p2), .val (.int p3), .val (.int p4), .val (.int p5), .val (.int p6), .val (.int (2 : Int32)), .val (.int c_511), .val (.int c_512), .val (.int c_513), .val (.int c_514), .val (.ref x_579), .val (.int ((0 : Int32) + r_580)), .val (.int ((2 : Int32) - ((0 : Int32) + r_580))), .unset, .unset] [(.int (0 : Int32))]))
      refine own_Go.st (fun _ k => XS.istore X580.here hx rfl (hb hby at_124) rfl (l' := #[.val (.int p1), .val (.int p2), .val (.int p3), .val (.int p4), .val (.int p5), .val (.int p6), .val (.int (2 : Int32)), .val (.int c_511), .val (.int c_512), .val (.int c_513), .val (.int c_514), .val (.ref x_579), .val (.int ((0 : Int32) + r_580)), .val (.int ((2 : Int32) - ((0 : Int32) + r_580))), .val (.int (0 : Int32)), .unset]) rfl k) ?_
      show own_Go _ _ _ _ (T580.setTop (mkF m 126 #[.val (.int p1), .val (.int p2), .val (.int p3), .val (.int p4), .val (.int p5), .val (.int p6), .val (.int (2 : Int32)), .val (.int c_511), .val (.int c_512), .val (.int c_513), .val (.int c_514), .val (.ref x_579), .val (.int ((0 : Int32) + r_580)), .val (.int ((2 : Int32) - ((0 : Int32) + r_580))), .val (.int (0 : Int32)), .unset] []))
      obtain ⟨T583, h583, X583, e583, E583, A583, D583, U583, st583⟩ := newO X580 hx hZ579 hown579 (hw _ (List.mem_of_getElem? (i := 69) rfl)) (hw _ (List.mem_of_getElem? (i := 70) rfl)) (hw _ (List.mem_of_getElem? (i := 71) rfl)) K580 (g := (mkF m 126 #[.val (.int p1), .val (.int p2), .val (.int p3), .val (.int p4), .val (.int p5), .val (.int p6), .val (.int (2 : Int32)), .val (.int c_511), .val (.int c_512), .val (.int c_513), .val (.int c_514), .val (.ref x_579), .val (.int ((0 : Int32) + r_580)), .val (.int ((2 : Int32) - ((0 : Int32) + r_580))), .val (.int (0 : Int32)), .unset] [])) rfl (hb hby at_126) (by decide) (by decide)
      obtain ⟨b583, g583⟩ : ∃ z, z = T579.heap.size := ⟨_, rfl⟩
      rw [← g583] at A583 D583 U583 st583
      refine own_Go.st st583 ?_
      have z583 : T579.heap.size ≤ h583.size := E583.1
      have lt_b583 : @LT.lt Nat _ b583 h583.size := A583.lt
      have f584 : Fld Z h583 b583 "com/example/vigilant_gate/vigilantgate/PasswordPolicy" "minimumPasswordLength" "I" (.int (0 : Int32)) := D583 (Or.inr (hw _ (List.mem_of_getElem? (i := 82) rfl))) (ty := .int) (by decide)
      have R583 : CHr Z consts_1 s.vm h0 T579.vm h583 := R579.trans (CHr.ext E583 R579.1)
      show own_Go _ _ _ _ (T583.setTop (mkF m 129 #[.val (.int p1), .val (.int p2), .val (.int p3), .val (.int p4), .val (.int p5), .val (.int p6), .val (.int (2 : Int32)), .val (.int c_511), .val (.int c_512), .val (.int c_513), .val (.int c_514), .val (.ref x_579), .val (.int ((0 : Int32) + r_580)), .val (.int ((2 : Int32) - ((0 : Int32) + r_580))), .val (.int (0 : Int32)), .unset] [(.ref b583)]))
      refine own_Go.st (fun _ k => XS.dup X583.here hx rfl (hb hby at_129) rfl rfl k) ?_
      show own_Go _ _ _ _ (T583.setTop (mkF m 130 #[.val (.int p1), .val (.int p2), .val (.int p3), .val (.int p4), .val (.int p5), .val (.int p6), .val (.int (2 : Int32)), .val (.int c_511), .val (.int c_512), .val (.int c_513), .val (.int c_514), .val (.ref x_579), .val (.int ((0 : Int32) + r_580)), .val (.int ((2 : Int32) - ((0 : Int32) + r_580))), .val (.int (0 : Int32)), .unset] [(.ref b583), (.ref b583)]))
      refine own_Go.st (fun _ k => XS.iloadN X583.here hx rfl (hb hby at_130) rfl k) ?_
      show own_Go _ _ _ _ (T583.setTop (mkF m 131 #[.val (.int p1), .val (.int p2), .val (.int p3), .val (.int p4), .val (.int p5), .val (.int p6), .val (.int (2 : Int32)), .val (.int c_511), .val (.int c_512), .val (.int c_513), .val (.int c_514), .val (.ref x_579), .val (.int ((0 : Int32) + r_580)), .val (.int ((2 : Int32) - ((0 : Int32) + r_580))), .val (.int (0 : Int32)), .unset] [(.int p1), (.ref b583), (.ref b583)]))
      have f586 : Old Z Z.heap.size h583 := f581.ext E583
      obtain ⟨_, _, ⟨T585, L585, k585, n585⟩, -, X585, ⟨Lc585, hQ585, l585, y585, z585⟩, st585⟩ := X583.specialBack hx (y := (⟨"com/example/vigilant_gate/vigilantgate/PasswordPolicy", "<init>", "(I)V"⟩ : MethodName)) rfl hown579 (mvT hZ579 (hw _ (List.mem_of_getElem? (i := 72) rfl))) (mvT hZ579 (hw _ (List.mem_of_getElem? (i := 73) rfl))) (mvT hZ579 (hw _ (List.mem_of_getElem? (i := 74) rfl))) (by decide) (backOf (W := 1) (rm_ppinit l Z a0 hw [] b583 p1 h583 f586 A583 f584 (by omega)) hZ579 (hw _ (List.mem_of_getElem? (i := 74) rfl)) (hw _ (List.mem_of_getElem? (i := 71) rfl)) (by decide) (by decide)) (g := (mkF m 131 #[.val (.int p1), .val (.int p2), .val (.int p3), .val (.int p4), .val (.int p5), .val (.int p6), .val (.int (2 : Int32)), .val (.int c_511), .val (.int c_512), .val (.int c_513), .val (.int c_514), .val (.ref x_579), .val (.int ((0 : Int32) + r_580)), .val (.int ((2 : Int32) - ((0 : Int32) + r_580))), .val (.int (0 : Int32)), .unset] [(.int p1), (.ref b583), (.ref b583)])) rfl (by rw [hml]; rfl) (Steps.refl _) (a := b583) (argsL := [(.int p1)]) (rest := [(.ref b583)]) (lenOf pd_488 rfl) rfl (by show 2 * 0 + _ ≤ _; exact Nat.le_of_eq rfl) (hb hby at_131) (fun _ _ => ⟨rfl, e583, (by decide : 7 + 0 ≤ _), (by decide : 21 + 0 ≤ _)⟩)
      dsimp only [Pt.U, Pt.locs, Pt.cells, Pt.slots] at X585 l585 y585 z585 st585 hQ585
      subst l585 y585 z585
      obtain ⟨rfl, N585q, K585, f585_0, f585_1⟩ := hQ585
      have N585 := Fr.app N580 N585q
      have Sf587 : Safe Z consts_1 T579.vm h583 b583 := Safe.exa hZ579.alike A583 (by decide) (by decide)
      have z585 : h583.size ≤ T585.heap.size := K585.1
      have R585 : CHr Z consts_1 s.vm h0 T579.vm T585.heap := R583.trans (CHr.keep K585 (sfS Sf587 sf0) R583.1)
      have lt585_0 : @LT.lt Nat _ b583 T585.heap.size := f585_0.lt
      have lt585_1 : @LT.lt Nat _ b583 T585.heap.size := f585_1.lt
      refine own_Go.tr st585 ?_
      show own_Go _ _ _ _ (T585.setTop (mkF m 134 #[.val (.int p1), .val (.int p2), .val (.int p3), .val (.int p4), .val (.int p5), .val (.int p6), .val (.int (2 : Int32)), .val (.int c_511), .val (.int c_512), .val (.int c_513), .val (.int c_514), .val (.ref x_579), .val (.int ((0 : Int32) + r_580)), .val (.int ((2 : Int32) - ((0 : Int32) + r_580))), .val (.int (0 : Int32)), .unset] [(.ref b583)]))
      refine own_Go.st (fun _ k => XS.astore X585.here hx rfl (hb hby at_134) rfl rfl (l' := #[.val (.int p1), .val (.int p2), .val (.int p3), .val (.int p4), .val (.int p5), .val (.int p6), .val (.int (2 : Int32)), .val (.int c_511), .val (.int c_512), .val (.int c_513), .val (.int c_514), .val (.ref x_579), .val (.int ((0 : Int32) + r_580)), .val (.int ((2 : Int32) - ((0 : Int32) + r_580))), .val (.int (0 : Int32)), .val (.ref b583)]) rfl k) ?_
      show own_Go _ _ _ _ (T585.setTop (mkF m 136 #[.val (.int p1), .val (.int p2), .val (.int p3), .val (.int p4), .val (.int p5), .val (.int p6), .val (.int (2 : Int32)), .val (.int c_511), .val (.int c_512), .val (.int c_513), .val (.int c_514), .val (.ref x_579), .val (.int ((0 : Int32) + r_580)), .val (.int ((2 : Int32) - ((0 : Int32) + r_580))), .val (.int (0 : Int32)), .val (.ref b583)] []))
      refine own_Go.st (fun _ k => XS.aload X585.here hx rfl (hb hby at_136) rfl rfl k) ?_
      show own_Go _ _ _ _ (T585.setTop (mkF m 138 #[.val (.int p1), .val (.int p2), .val (.int p3), .val (.int p4), .val (.int p5), .val (.int p6), .val (.int (2 : Int32)), .val (.int c_511), .val (.int c_512), .val (.int c_513), .val (.int c_514), .val (.ref x_579), .val (.int ((0 : Int32) + r_580)), .val (.int ((2 : Int32) - ((0 : Int32) + r_580))), .val (.int (0 : Int32)), .val (.ref b583)] [(.ref b583)]))
      refine own_Go.st (fun _ k => XS.aload X585.here hx rfl (hb hby at_138) rfl rfl k) ?_
      show own_Go _ _ _ _ (T585.setTop (mkF m 140 #[.val (.int p1), .val (.int p2), .val (.int p3), .val (.int p4), .val (.int p5), .val (.int p6), .val (.int (2 : Int32)), .val (.int c_511), .val (.int c_512), .val (.int c_513), .val (.int c_514), .val (.ref x_579), .val (.int ((0 : Int32) + r_580)), .val (.int ((2 : Int32) - ((0 : Int32) + r_580))), .val (.int (0 : Int32)), .val (.ref b583)] [(.ref x_579), (.ref b583)]))
      have f589 : own_Str Z h583 x_579 t_579 cs_579 := f579_0.ext E583
      have f590 : own_Str Z T585.heap x_579 t_579 cs_579 := f589.keep K585 (ninS (by show @Ne Nat x_579 b583; omega) nin0) (ninS (by show @Ne Nat t_579 b583; omega) nin0)
      have f591 : Old Z Z.heap.size T585.heap := f586.keep K585 (allS (by omega) all0)
      obtain ⟨cq588, kq588, q588a, q588b, q588c⟩ := isOf hZ579 rfl f585_0
      obtain ⟨_, _, ⟨T588, L588, k588, n588⟩, -, X588, ⟨Lc588, hQ588, l588, y588, z588⟩, st588⟩ := X585.virtualBack hx (y := (⟨"com/example/vigilant_gate/vigilantgate/PasswordPolicy", "admits", "(Ljava/lang/String;)Z"⟩ : MethodName)) (z := (⟨"com/example/vigilant_gate/vigilantgate/PasswordPolicy", "admits", "(Ljava/lang/String;)Z"⟩ : MethodName)) hown579 (mvT hZ579 (hw _ (List.mem_of_getElem? (i := 83) rfl))) (mvT hZ579 (hw _ (List.mem_of_getElem? (i := 84) rfl))) (notFace_of_selects (args := #[]) (mvT hZ579 (hw _ (List.mem_of_getElem? (i := 86) rfl)))) (mvT hZ579 (hw _ (List.mem_of_getElem? (i := 86) rfl))) (mvT hZ579 (hw _ (List.mem_of_getElem? (i := 85) rfl))) (by decide) (backOf (W := 0) (rm_admits l Z a0 hw [] b583 x_579 p1 t_579 cs_579 zc T585.heap f591 f585_1 f590 st_COMPACT_STRINGS st__assertionsDisabled st_HI_BYTE_SHIFT st_LO_BYTE_SHIFT (by first | assumption | decide)) hZ579 (hw _ (List.mem_of_getElem? (i := 87) rfl)) (hw _ (List.mem_of_getElem? (i := 71) rfl)) (by decide) (by decide)) q588a q588c (g := (mkF m 140 #[.val (.int p1), .val (.int p2), .val (.int p3), .val (.int p4), .val (.int p5), .val (.int p6), .val (.int (2 : Int32)), .val (.int c_511), .val (.int c_512), .val (.int c_513), .val (.int c_514), .val (.ref x_579), .val (.int ((0 : Int32) + r_580)), .val (.int ((2 : Int32) - ((0 : Int32) + r_580))), .val (.int (0 : Int32)), .val (.ref b583)] [(.ref x_579), (.ref b583)])) rfl (by rw [hml]; rfl) (Steps.refl _) (argsL := [(.ref x_579)]) (rest := []) (lenOf pd_489 rfl) rfl (by show 2 * 0 + _ ≤ _; exact Nat.le_of_eq rfl) (hb hby at_140) (fun _ _ => ⟨rfl, rfl, (by decide : 7 + 0 ≤ _), (by decide : 21 + 0 ≤ _)⟩)
      dsimp only [Pt.U, Pt.locs, Pt.cells, Pt.slots] at X588 l588 y588 z588 st588 hQ588
      subst l588 y588 z588
      obtain ⟨r_588, rfl, N588q, K588, pr588_0⟩ := hQ588
      have N588 := Fr.app N585 N588q
      rw [hcs] at pr588_0
      refine own_Go.tr st588 ?_
      show own_Go _ _ _ _ (T588.setTop (mkF m 143 #[.val (.int p1), .val (.int p2), .val (.int p3), .val (.int p4), .val (.int p5), .val (.int p6), .val (.int (2 : Int32)), .val (.int c_511), .val (.int c_512), .val (.int c_513), .val (.int c_514), .val (.ref x_579), .val (.int ((0 : Int32) + r_580)), .val (.int ((2 : Int32) - ((0 : Int32) + r_580))), .val (.int (0 : Int32)), .val (.ref b583)] [(.int r_588)]))
      refine own_Go.st (fun _ k => XS.iload X588.here hx rfl (hb hby at_143) rfl k) ?_
      show own_Go _ _ _ _ (T588.setTop (mkF m 145 #[.val (.int p1), .val (.int p2), .val (.int p3), .val (.int p4), .val (.int p5), .val (.int p6), .val (.int (2 : Int32)), .val (.int c_511), .val (.int c_512), .val (.int c_513), .val (.int c_514), .val (.ref x_579), .val (.int ((0 : Int32) + r_580)), .val (.int ((2 : Int32) - ((0 : Int32) + r_580))), .val (.int (0 : Int32)), .val (.ref b583)] [(.int (0 : Int32)), (.int r_588)]))
      have hcnt : ((2 : Int32) - ((0 : Int32) + r_580)) = Int32.ofNat (([c_511, c_512] : List Int32).length - own_pairs [c_511, c_512]) := own_cnt2 pr580_0
      rw [hcnt] at hc582
      have hc592 : r_588 = (0 : Int32) := (by rcases pr588_0 with ⟨q1, q2⟩ | ⟨q1, q2⟩ <;> first | exact q1 | exact absurd q2 hc582 | exact absurd hc582 q2)
      refine own_Go.st (fun _ k => XS.icmpNo X588.here hx rfl (hb hby at_145) rfl (teq hc592).2 k) ?_
      show own_Go _ _ _ _ (T588.setTop (mkF m 148 #[.val (.int p1), .val (.int p2), .val (.int p3), .val (.int p4), .val (.int p5), .val (.int p6), .val (.int (2 : Int32)), .val (.int c_511), .val (.int c_512), .val (.int c_513), .val (.int c_514), .val (.ref x_579), .val (.int ((0 : Int32) + r_580)), .val (.int ((2 : Int32) - ((0 : Int32) + r_580))), .val (.int (0 : Int32)), .val (.ref b583)] []))
      refine own_Go.st (fun _ k => XS.iconst X588.here hx rfl (hb hby at_148) k) ?_
      show own_Go _ _ _ _ (T588.setTop (mkF m 149 #[.val (.int p1), .val (.int p2), .val (.int p3), .val (.int p4), .val (.int p5), .val (.int p6), .val (.int (2 : Int32)), .val (.int c_511), .val (.int c_512), .val (.int c_513), .val (.int c_514), .val (.ref x_579), .val (.int ((0 : Int32) + r_580)), .val (.int ((2 : Int32) - ((0 : Int32) + r_580))), .val (.int (0 : Int32)), .val (.ref b583)] [(.int (1 : Int32))]))
      refine own_Go.st (fun _ k => XS.goto X588.here hx rfl (pc0 := 149) (pc' := 153) rfl (hb hby at_149) (by decide) (by decide) k) ?_
      show own_Go _ _ _ _ (T588.setTop (mkF m 153 #[.val (.int p1), .val (.int p2), .val (.int p3), .val (.int p4), .val (.int p5), .val (.int p6), .val (.int (2 : Int32)), .val (.int c_511), .val (.int c_512), .val (.int c_513), .val (.int c_514), .val (.ref x_579), .val (.int ((0 : Int32) + r_580)), .val (.int ((2 : Int32) - ((0 : Int32) + r_580))), .val (.int (0 : Int32)), .val (.ref b583)] [(.int (1 : Int32))]))
      obtain ⟨fs593, hr593, hrun593, hend593, hret593⟩ := X588.leaveW hS579 (by rw [K588]; exact (by omega)) (v := some (.int (nar .boolean (1 : Int32)))) (fun h => by rw [Bd.returns] at h; cases h)
      have K594 : Keep h0 T579.heap [] := (Keep.refl h0 []).trans K579 all0
      have K595 : Keep h0 h583 [] := K594.ext E583
      have K596 : Keep h0 T585.heap [] := K595.trans K585 (allS (Or.inr (by omega)) all0)
      subst hPP
      refine ⟨_, _, retN X588 hx (t := .boolean) Bd.returns (by simp) (hb hby at_153) hr593, hrun593, hend593, _, _, rfl, ?_, ?_, hret593.1, hret593.2.1, hret593.2.2.1, hret593.2.2.2.mono (by decide) (by decide)⟩
      · show Q_law Z _ _ _ _ _ _ _ h0 _ T588.heap _
        rw [K588]
        exact ⟨rfl, N588, K596⟩
      · have hfin := R585.trans (CHv.at X588 hZ579 hEL R585.1)
        rw [← hh] at hfin
        show CHr Z consts_1 s.vm s.heap T588.vm T588.heap
        rw [K588]
        exact hfin
    ·
      refine own_Go.st (fun _ k => XS.icmpNo X580.here hx rfl (hb hby at_116) rfl (flt hc582).1 k) ?_
      show own_Go _ _ _ _ (T580.setTop (mkF m 119 #[.val (.int p1), .val (.int p2), .val (.int p3), .val (.int p4), .val (.int p5), .val (.int p6), .val (.int (2 : Int32)), .val (.int c_511), .val (.int c_512), .val (.int c_513), .val (.int c_514), .val (.ref x_579), .val (.int ((0 : Int32) + r_580)), .val (.int ((2 : Int32) - ((0 : Int32) + r_580))), .unset, .unset] []))
      refine own_Go.st (fun _ k => XS.iconst X580.here hx rfl (hb hby at_119) k) ?_
      show own_Go _ _ _ _ (T580.setTop (mkF m 120 #[.val (.int p1), .val (.int p2), .val (.int p3), .val (.int p4), .val (.int p5), .val (.int p6), .val (.int (2 : Int32)), .val (.int c_511), .val (.int c_512), .val (.int c_513), .val (.int c_514), .val (.ref x_579), .val (.int ((0 : Int32) + r_580)), .val (.int ((2 : Int32) - ((0 : Int32) + r_580))), .unset, .unset] [(.int (1 : Int32))]))
      refine own_Go.st (fun _ k => XS.goto X580.here hx rfl (pc0 := 120) (pc' := 124) rfl (hb hby at_120) (by decide) (by decide) k) ?_
      show own_Go _ _ _ _ (T580.setTop (mkF m 124 #[.val (.int p1), .val (.int p2), .val (.int p3), .val (.int p4), .val (.int p5), .val (.int p6), .val (.int (2 : Int32)), .val (.int c_511), .val (.int c_512), .val (.int c_513), .val (.int c_514), .val (.ref x_579), .val (.int ((0 : Int32) + r_580)), .val (.int ((2 : Int32) - ((0 : Int32) + r_580))), .unset, .unset] [(.int (1 : Int32))]))
      refine own_Go.st (fun _ k => XS.istore X580.here hx rfl (hb hby at_124) rfl (l' := #[.val (.int p1), .val (.int p2), .val (.int p3), .val (.int p4), .val (.int p5), .val (.int p6), .val (.int (2 : Int32)), .val (.int c_511), .val (.int c_512), .val (.int c_513), .val (.int c_514), .val (.ref x_579), .val (.int ((0 : Int32) + r_580)), .val (.int ((2 : Int32) - ((0 : Int32) + r_580))), .val (.int (1 : Int32)), .unset]) rfl k) ?_
      show own_Go _ _ _ _ (T580.setTop (mkF m 126 #[.val (.int p1), .val (.int p2), .val (.int p3), .val (.int p4), .val (.int p5), .val (.int p6), .val (.int (2 : Int32)), .val (.int c_511), .val (.int c_512), .val (.int c_513), .val (.int c_514), .val (.ref x_579), .val (.int ((0 : Int32) + r_580)), .val (.int ((2 : Int32) - ((0 : Int32) + r_580))), .val (.int (1 : Int32)), .unset] []))
      obtain ⟨T597, h597, X597, e597, E597, A597, D597, U597, st597⟩ := newO X580 hx hZ579 hown579 (hw _ (List.mem_of_getElem? (i := 69) rfl)) (hw _ (List.mem_of_getElem? (i := 70) rfl)) (hw _ (List.mem_of_getElem? (i := 71) rfl)) K580 (g := (mkF m 126 #[.val (.int p1), .val (.int p2), .val (.int p3), .val (.int p4), .val (.int p5), .val (.int p6), .val (.int (2 : Int32)), .val (.int c_511), .val (.int c_512), .val (.int c_513), .val (.int c_514), .val (.ref x_579), .val (.int ((0 : Int32) + r_580)), .val (.int ((2 : Int32) - ((0 : Int32) + r_580))), .val (.int (1 : Int32)), .unset] [])) rfl (hb hby at_126) (by decide) (by decide)
      obtain ⟨b597, g597⟩ : ∃ z, z = T579.heap.size := ⟨_, rfl⟩
      rw [← g597] at A597 D597 U597 st597
      refine own_Go.st st597 ?_
      have z597 : T579.heap.size ≤ h597.size := E597.1
      have lt_b597 : @LT.lt Nat _ b597 h597.size := A597.lt
      have f598 : Fld Z h597 b597 "com/example/vigilant_gate/vigilantgate/PasswordPolicy" "minimumPasswordLength" "I" (.int (0 : Int32)) := D597 (Or.inr (hw _ (List.mem_of_getElem? (i := 82) rfl))) (ty := .int) (by decide)
      have R597 : CHr Z consts_1 s.vm h0 T579.vm h597 := R579.trans (CHr.ext E597 R579.1)
      show own_Go _ _ _ _ (T597.setTop (mkF m 129 #[.val (.int p1), .val (.int p2), .val (.int p3), .val (.int p4), .val (.int p5), .val (.int p6), .val (.int (2 : Int32)), .val (.int c_511), .val (.int c_512), .val (.int c_513), .val (.int c_514), .val (.ref x_579), .val (.int ((0 : Int32) + r_580)), .val (.int ((2 : Int32) - ((0 : Int32) + r_580))), .val (.int (1 : Int32)), .unset] [(.ref b597)]))
      refine own_Go.st (fun _ k => XS.dup X597.here hx rfl (hb hby at_129) rfl rfl k) ?_
      show own_Go _ _ _ _ (T597.setTop (mkF m 130 #[.val (.int p1), .val (.int p2), .val (.int p3), .val (.int p4), .val (.int p5), .val (.int p6), .val (.int (2 : Int32)), .val (.int c_511), .val (.int c_512), .val (.int c_513), .val (.int c_514), .val (.ref x_579), .val (.int ((0 : Int32) + r_580)), .val (.int ((2 : Int32) - ((0 : Int32) + r_580))), .val (.int (1 : Int32)), .unset] [(.ref b597), (.ref b597)]))
      refine own_Go.st (fun _ k => XS.iloadN X597.here hx rfl (hb hby at_130) rfl k) ?_
      show own_Go _ _ _ _ (T597.setTop (mkF m 131 #[.val (.int p1), .val (.int p2), .val (.int p3), .val (.int p4), .val (.int p5), .val (.int p6), .val (.int (2 : Int32)), .val (.int c_511), .val (.int c_512), .val (.int c_513), .val (.int c_514), .val (.ref x_579), .val (.int ((0 : Int32) + r_580)), .val (.int ((2 : Int32) - ((0 : Int32) + r_580))), .val (.int (1 : Int32)), .unset] [(.int p1), (.ref b597), (.ref b597)]))
      have f600 : Old Z Z.heap.size h597 := f581.ext E597
      obtain ⟨_, _, ⟨T599, L599, k599, n599⟩, -, X599, ⟨Lc599, hQ599, l599, y599, z599⟩, st599⟩ := X597.specialBack hx (y := (⟨"com/example/vigilant_gate/vigilantgate/PasswordPolicy", "<init>", "(I)V"⟩ : MethodName)) rfl hown579 (mvT hZ579 (hw _ (List.mem_of_getElem? (i := 72) rfl))) (mvT hZ579 (hw _ (List.mem_of_getElem? (i := 73) rfl))) (mvT hZ579 (hw _ (List.mem_of_getElem? (i := 74) rfl))) (by decide) (backOf (W := 1) (rm_ppinit l Z a0 hw [] b597 p1 h597 f600 A597 f598 (by omega)) hZ579 (hw _ (List.mem_of_getElem? (i := 74) rfl)) (hw _ (List.mem_of_getElem? (i := 71) rfl)) (by decide) (by decide)) (g := (mkF m 131 #[.val (.int p1), .val (.int p2), .val (.int p3), .val (.int p4), .val (.int p5), .val (.int p6), .val (.int (2 : Int32)), .val (.int c_511), .val (.int c_512), .val (.int c_513), .val (.int c_514), .val (.ref x_579), .val (.int ((0 : Int32) + r_580)), .val (.int ((2 : Int32) - ((0 : Int32) + r_580))), .val (.int (1 : Int32)), .unset] [(.int p1), (.ref b597), (.ref b597)])) rfl (by rw [hml]; rfl) (Steps.refl _) (a := b597) (argsL := [(.int p1)]) (rest := [(.ref b597)]) (lenOf pd_488 rfl) rfl (by show 2 * 0 + _ ≤ _; exact Nat.le_of_eq rfl) (hb hby at_131) (fun _ _ => ⟨rfl, e597, (by decide : 7 + 0 ≤ _), (by decide : 21 + 0 ≤ _)⟩)
      dsimp only [Pt.U, Pt.locs, Pt.cells, Pt.slots] at X599 l599 y599 z599 st599 hQ599
      subst l599 y599 z599
      obtain ⟨rfl, N599q, K599, f599_0, f599_1⟩ := hQ599
      have N599 := Fr.app N580 N599q
      have Sf601 : Safe Z consts_1 T579.vm h597 b597 := Safe.exa hZ579.alike A597 (by decide) (by decide)
      have z599 : h597.size ≤ T599.heap.size := K599.1
      have R599 : CHr Z consts_1 s.vm h0 T579.vm T599.heap := R597.trans (CHr.keep K599 (sfS Sf601 sf0) R597.1)
      have lt599_0 : @LT.lt Nat _ b597 T599.heap.size := f599_0.lt
      have lt599_1 : @LT.lt Nat _ b597 T599.heap.size := f599_1.lt
      refine own_Go.tr st599 ?_
      show own_Go _ _ _ _ (T599.setTop (mkF m 134 #[.val (.int p1), .val (.int p2), .val (.int p3), .val (.int p4), .val (.int p5), .val (.int p6), .val (.int (2 : Int32)), .val (.int c_511), .val (.int c_512), .val (.int c_513), .val (.int c_514), .val (.ref x_579), .val (.int ((0 : Int32) + r_580)), .val (.int ((2 : Int32) - ((0 : Int32) + r_580))), .val (.int (1 : Int32)), .unset] [(.ref b597)]))
      refine own_Go.st (fun _ k => XS.astore X599.here hx rfl (hb hby at_134) rfl rfl (l' := #[.val (.int p1), .val (.int p2), .val (.int p3), .val (.int p4), .val (.int p5), .val (.int p6), .val (.int (2 : Int32)), .val (.int c_511), .val (.int c_512), .val (.int c_513), .val (.int c_514), .val (.ref x_579), .val (.int ((0 : Int32) + r_580)), .val (.int ((2 : Int32) - ((0 : Int32) + r_580))), .val (.int (1 : Int32)), .val (.ref b597)]) rfl k) ?_
      show own_Go _ _ _ _ (T599.setTop (mkF m 136 #[.val (.int p1), .val (.int p2), .val (.int p3), .val (.int p4), .val (.int p5), .val (.int p6), .val (.int (2 : Int32)), .val (.int c_511), .val (.int c_512), .val (.int c_513), .val (.int c_514), .val (.ref x_579), .val (.int ((0 : Int32) + r_580)), .val (.int ((2 : Int32) - ((0 : Int32) + r_580))), .val (.int (1 : Int32)), .val (.ref b597)] []))
      refine own_Go.st (fun _ k => XS.aload X599.here hx rfl (hb hby at_136) rfl rfl k) ?_
      show own_Go _ _ _ _ (T599.setTop (mkF m 138 #[.val (.int p1), .val (.int p2), .val (.int p3), .val (.int p4), .val (.int p5), .val (.int p6), .val (.int (2 : Int32)), .val (.int c_511), .val (.int c_512), .val (.int c_513), .val (.int c_514), .val (.ref x_579), .val (.int ((0 : Int32) + r_580)), .val (.int ((2 : Int32) - ((0 : Int32) + r_580))), .val (.int (1 : Int32)), .val (.ref b597)] [(.ref b597)]))
      refine own_Go.st (fun _ k => XS.aload X599.here hx rfl (hb hby at_138) rfl rfl k) ?_
      show own_Go _ _ _ _ (T599.setTop (mkF m 140 #[.val (.int p1), .val (.int p2), .val (.int p3), .val (.int p4), .val (.int p5), .val (.int p6), .val (.int (2 : Int32)), .val (.int c_511), .val (.int c_512), .val (.int c_513), .val (.int c_514), .val (.ref x_579), .val (.int ((0 : Int32) + r_580)), .val (.int ((2 : Int32) - ((0 : Int32) + r_580))), .val (.int (1 : Int32)), .val (.ref b597)] [(.ref x_579), (.ref b597)]))
      have f603 : own_Str Z h597 x_579 t_579 cs_579 := f579_0.ext E597
      have f604 : own_Str Z T599.heap x_579 t_579 cs_579 := f603.keep K599 (ninS (by show @Ne Nat x_579 b597; omega) nin0) (ninS (by show @Ne Nat t_579 b597; omega) nin0)
      have f605 : Old Z Z.heap.size T599.heap := f600.keep K599 (allS (by omega) all0)
      obtain ⟨cq602, kq602, q602a, q602b, q602c⟩ := isOf hZ579 rfl f599_0
      obtain ⟨_, _, ⟨T602, L602, k602, n602⟩, -, X602, ⟨Lc602, hQ602, l602, y602, z602⟩, st602⟩ := X599.virtualBack hx (y := (⟨"com/example/vigilant_gate/vigilantgate/PasswordPolicy", "admits", "(Ljava/lang/String;)Z"⟩ : MethodName)) (z := (⟨"com/example/vigilant_gate/vigilantgate/PasswordPolicy", "admits", "(Ljava/lang/String;)Z"⟩ : MethodName)) hown579 (mvT hZ579 (hw _ (List.mem_of_getElem? (i := 83) rfl))) (mvT hZ579 (hw _ (List.mem_of_getElem? (i := 84) rfl))) (notFace_of_selects (args := #[]) (mvT hZ579 (hw _ (List.mem_of_getElem? (i := 86) rfl)))) (mvT hZ579 (hw _ (List.mem_of_getElem? (i := 86) rfl))) (mvT hZ579 (hw _ (List.mem_of_getElem? (i := 85) rfl))) (by decide) (backOf (W := 0) (rm_admits l Z a0 hw [] b597 x_579 p1 t_579 cs_579 zc T599.heap f605 f599_1 f604 st_COMPACT_STRINGS st__assertionsDisabled st_HI_BYTE_SHIFT st_LO_BYTE_SHIFT (by first | assumption | decide)) hZ579 (hw _ (List.mem_of_getElem? (i := 87) rfl)) (hw _ (List.mem_of_getElem? (i := 71) rfl)) (by decide) (by decide)) q602a q602c (g := (mkF m 140 #[.val (.int p1), .val (.int p2), .val (.int p3), .val (.int p4), .val (.int p5), .val (.int p6), .val (.int (2 : Int32)), .val (.int c_511), .val (.int c_512), .val (.int c_513), .val (.int c_514), .val (.ref x_579), .val (.int ((0 : Int32) + r_580)), .val (.int ((2 : Int32) - ((0 : Int32) + r_580))), .val (.int (1 : Int32)), .val (.ref b597)] [(.ref x_579), (.ref b597)])) rfl (by rw [hml]; rfl) (Steps.refl _) (argsL := [(.ref x_579)]) (rest := []) (lenOf pd_489 rfl) rfl (by show 2 * 0 + _ ≤ _; exact Nat.le_of_eq rfl) (hb hby at_140) (fun _ _ => ⟨rfl, rfl, (by decide : 7 + 0 ≤ _), (by decide : 21 + 0 ≤ _)⟩)
      dsimp only [Pt.U, Pt.locs, Pt.cells, Pt.slots] at X602 l602 y602 z602 st602 hQ602
      subst l602 y602 z602
      obtain ⟨r_602, rfl, N602q, K602, pr602_0⟩ := hQ602
      have N602 := Fr.app N599 N602q
      rw [hcs] at pr602_0
      refine own_Go.tr st602 ?_
      show own_Go _ _ _ _ (T602.setTop (mkF m 143 #[.val (.int p1), .val (.int p2), .val (.int p3), .val (.int p4), .val (.int p5), .val (.int p6), .val (.int (2 : Int32)), .val (.int c_511), .val (.int c_512), .val (.int c_513), .val (.int c_514), .val (.ref x_579), .val (.int ((0 : Int32) + r_580)), .val (.int ((2 : Int32) - ((0 : Int32) + r_580))), .val (.int (1 : Int32)), .val (.ref b597)] [(.int r_602)]))
      refine own_Go.st (fun _ k => XS.iload X602.here hx rfl (hb hby at_143) rfl k) ?_
      show own_Go _ _ _ _ (T602.setTop (mkF m 145 #[.val (.int p1), .val (.int p2), .val (.int p3), .val (.int p4), .val (.int p5), .val (.int p6), .val (.int (2 : Int32)), .val (.int c_511), .val (.int c_512), .val (.int c_513), .val (.int c_514), .val (.ref x_579), .val (.int ((0 : Int32) + r_580)), .val (.int ((2 : Int32) - ((0 : Int32) + r_580))), .val (.int (1 : Int32)), .val (.ref b597)] [(.int (1 : Int32)), (.int r_602)]))
      have hcnt : ((2 : Int32) - ((0 : Int32) + r_580)) = Int32.ofNat (([c_511, c_512] : List Int32).length - own_pairs [c_511, c_512]) := own_cnt2 pr580_0
      rw [hcnt] at hc582
      have hc606 : r_602 = (1 : Int32) := (by rcases pr602_0 with ⟨q1, q2⟩ | ⟨q1, q2⟩ <;> first | exact q1 | exact absurd q2 hc582 | exact absurd hc582 q2)
      refine own_Go.st (fun _ k => XS.icmpNo X602.here hx rfl (hb hby at_145) rfl (teq hc606).2 k) ?_
      show own_Go _ _ _ _ (T602.setTop (mkF m 148 #[.val (.int p1), .val (.int p2), .val (.int p3), .val (.int p4), .val (.int p5), .val (.int p6), .val (.int (2 : Int32)), .val (.int c_511), .val (.int c_512), .val (.int c_513), .val (.int c_514), .val (.ref x_579), .val (.int ((0 : Int32) + r_580)), .val (.int ((2 : Int32) - ((0 : Int32) + r_580))), .val (.int (1 : Int32)), .val (.ref b597)] []))
      refine own_Go.st (fun _ k => XS.iconst X602.here hx rfl (hb hby at_148) k) ?_
      show own_Go _ _ _ _ (T602.setTop (mkF m 149 #[.val (.int p1), .val (.int p2), .val (.int p3), .val (.int p4), .val (.int p5), .val (.int p6), .val (.int (2 : Int32)), .val (.int c_511), .val (.int c_512), .val (.int c_513), .val (.int c_514), .val (.ref x_579), .val (.int ((0 : Int32) + r_580)), .val (.int ((2 : Int32) - ((0 : Int32) + r_580))), .val (.int (1 : Int32)), .val (.ref b597)] [(.int (1 : Int32))]))
      refine own_Go.st (fun _ k => XS.goto X602.here hx rfl (pc0 := 149) (pc' := 153) rfl (hb hby at_149) (by decide) (by decide) k) ?_
      show own_Go _ _ _ _ (T602.setTop (mkF m 153 #[.val (.int p1), .val (.int p2), .val (.int p3), .val (.int p4), .val (.int p5), .val (.int p6), .val (.int (2 : Int32)), .val (.int c_511), .val (.int c_512), .val (.int c_513), .val (.int c_514), .val (.ref x_579), .val (.int ((0 : Int32) + r_580)), .val (.int ((2 : Int32) - ((0 : Int32) + r_580))), .val (.int (1 : Int32)), .val (.ref b597)] [(.int (1 : Int32))]))
      obtain ⟨fs607, hr607, hrun607, hend607, hret607⟩ := X602.leaveW hS579 (by rw [K602]; exact (by omega)) (v := some (.int (nar .boolean (1 : Int32)))) (fun h => by rw [Bd.returns] at h; cases h)
      have K608 : Keep h0 T579.heap [] := (Keep.refl h0 []).trans K579 all0
      have K609 : Keep h0 h597 [] := K608.ext E597
      have K610 : Keep h0 T599.heap [] := K609.trans K599 (allS (Or.inr (by omega)) all0)
      subst hPP
      refine ⟨_, _, retN X602 hx (t := .boolean) Bd.returns (by simp) (hb hby at_153) hr607, hrun607, hend607, _, _, rfl, ?_, ?_, hret607.1, hret607.2.1, hret607.2.2.1, hret607.2.2.2.mono (by decide) (by decide)⟩
      · show Q_law Z _ _ _ _ _ _ _ h0 _ T602.heap _
        rw [K602]
        exact ⟨rfl, N602, K610⟩
      · have hfin := R599.trans (CHv.at X602 hZ579 hEL R599.1)
        rw [← hh] at hfin
        show CHr Z consts_1 s.vm s.heap T602.vm T602.heap
        rw [K602]
        exact hfin
  ·
    show own_Go _ _ _ _ (T514.setTop (mkF m 34 #[.val (.int p1), .val (.int p2), .val (.int p3), .val (.int p4), .val (.int p5), .val (.int p6), .val (.int (3 : Int32)), .val (.int c_511), .val (.int c_512), .val (.int c_513), .val (.int c_514), .unset, .unset, .unset, .unset, .unset] []))
    refine own_Go.st (fun _ k => XS.iload X514.here hx rfl (hb hby at_34) rfl k) ?_
    show own_Go _ _ _ _ (T514.setTop (mkF m 36 #[.val (.int p1), .val (.int p2), .val (.int p3), .val (.int p4), .val (.int p5), .val (.int p6), .val (.int (3 : Int32)), .val (.int c_511), .val (.int c_512), .val (.int c_513), .val (.int c_514), .unset, .unset, .unset, .unset, .unset] [(.int (3 : Int32))]))
    refine own_Go.st (fun _ k => XS.iload X514.here hx rfl (hb hby at_36) rfl k) ?_
    show own_Go _ _ _ _ (T514.setTop (mkF m 38 #[.val (.int p1), .val (.int p2), .val (.int p3), .val (.int p4), .val (.int p5), .val (.int p6), .val (.int (3 : Int32)), .val (.int c_511), .val (.int c_512), .val (.int c_513), .val (.int c_514), .unset, .unset, .unset, .unset, .unset] [(.int c_511), (.int (3 : Int32))]))
    refine own_Go.st (fun _ k => XS.iload X514.here hx rfl (hb hby at_38) rfl k) ?_
    show own_Go _ _ _ _ (T514.setTop (mkF m 40 #[.val (.int p1), .val (.int p2), .val (.int p3), .val (.int p4), .val (.int p5), .val (.int p6), .val (.int (3 : Int32)), .val (.int c_511), .val (.int c_512), .val (.int c_513), .val (.int c_514), .unset, .unset, .unset, .unset, .unset] [(.int c_512), (.int c_511), (.int (3 : Int32))]))
    refine own_Go.st (fun _ k => XS.iload X514.here hx rfl (hb hby at_40) rfl k) ?_
    show own_Go _ _ _ _ (T514.setTop (mkF m 42 #[.val (.int p1), .val (.int p2), .val (.int p3), .val (.int p4), .val (.int p5), .val (.int p6), .val (.int (3 : Int32)), .val (.int c_511), .val (.int c_512), .val (.int c_513), .val (.int c_514), .unset, .unset, .unset, .unset, .unset] [(.int c_513), (.int c_512), (.int c_511), (.int (3 : Int32))]))
    refine own_Go.st (fun _ k => XS.iload X514.here hx rfl (hb hby at_42) rfl k) ?_
    show own_Go _ _ _ _ (T514.setTop (mkF m 44 #[.val (.int p1), .val (.int p2), .val (.int p3), .val (.int p4), .val (.int p5), .val (.int p6), .val (.int (3 : Int32)), .val (.int c_511), .val (.int c_512), .val (.int c_513), .val (.int c_514), .unset, .unset, .unset, .unset, .unset] [(.int c_514), (.int c_513), (.int c_512), (.int c_511), (.int (3 : Int32))]))
    obtain ⟨_, _, ⟨T611, L611, k611, n611⟩, -, X611, hs611, hg611, ⟨Lc611, hQ611, l611, y611, z611, ch611⟩, st611⟩ := callSS X514 hx (y := (⟨"com/example/vigilant_gate/vigilantgate/PasswordPolicyAdmitsPinLaw", "build", "(ICCCC)Ljava/lang/String;"⟩ : MethodName)) hown (mvT hZ (hw _ (List.mem_of_getElem? (i := 7) rfl))) (mvT hZ (hw _ (List.mem_of_getElem? (i := 8) rfl))) (mvT hZ (hw _ (List.mem_of_getElem? (i := 2) rfl))) (mvT hZ (hw _ (List.mem_of_getElem? (i := 9) rfl))) (by decide) (backOfSH (s := s) (vm0 := s.vm) (W := 0) (rm_build l Z a0 hw [] (3 : Int32) c_511 c_512 c_513 c_514 zc h0 hEL OL st_COMPACT_STRINGS st__assertionsDisabled st_HI_BYTE_SHIFT st_LO_BYTE_SHIFT (by first | assumption | decide) (by first | assumption | decide) (by first | assumption | decide) (by first | assumption | decide) (by first | assumption | decide)) hZ (hw _ (List.mem_of_getElem? (i := 9) rfl)) (hw _ (List.mem_of_getElem? (i := 2) rfl)) (by decide) (by decide) hEL R0.1) (g := (mkF m 44 #[.val (.int p1), .val (.int p2), .val (.int p3), .val (.int p4), .val (.int p5), .val (.int p6), .val (.int (3 : Int32)), .val (.int c_511), .val (.int c_512), .val (.int c_513), .val (.int c_514), .unset, .unset, .unset, .unset, .unset] [(.int c_514), (.int c_513), (.int c_512), (.int c_511), (.int (3 : Int32))])) rfl (by rw [hml]; rfl) (argsL := [(.int (3 : Int32)), (.int c_511), (.int c_512), (.int c_513), (.int c_514)]) (rest := []) (lenOf pd_487 rfl) rfl (by show 2 * 0 + _ ≤ _; exact Nat.le_of_eq rfl) (hb hby at_44) (fun _ _ => ⟨rfl, K514, (by decide : 0 + 6 ≤ _), (by decide : 0 + 20 ≤ _)⟩)
    dsimp only [Pt.U, Pt.locs, Pt.cells, Pt.slots] at X611 l611 y611 z611 st611 hQ611 hs611 hg611 ch611
    subst l611 y611 z611
    obtain ⟨x_611, t_611, cs_611, rfl, N611q, K611, f611_0, pr611_0⟩ := hQ611
    have N611 := Fr.app N514 N611q
    obtain ⟨Y611, hS611, hZ611, hown611⟩ := rebS hS0 (n1 := h0.size) (by omega) X611 hs611 (by have := hg611; first | exact this | (rw [← K514]; exact this)) hZ hown
    have z611 : h0.size ≤ T611.heap.size := K611.1
    have R611 : CHr Z consts_1 s.vm h0 T611.vm T611.heap := R0.trans ch611
    have lt611_0 : @LT.lt Nat _ x_611 T611.heap.size := f611_0.lt
    have ltv611_0 : @LT.lt Nat _ t_611 T611.heap.size := f611_0.ltv
    have hcs : cs_611 = ([c_511, c_512, c_513] : List Int32) := by rw [pr611_0]; rfl
    refine own_Go.tr st611 ?_
    show own_Go _ _ _ _ (T611.setTop (mkF m 47 #[.val (.int p1), .val (.int p2), .val (.int p3), .val (.int p4), .val (.int p5), .val (.int p6), .val (.int (3 : Int32)), .val (.int c_511), .val (.int c_512), .val (.int c_513), .val (.int c_514), .unset, .unset, .unset, .unset, .unset] [(.ref x_611)]))
    refine own_Go.st (fun _ k => XS.astore Y611.here hx rfl (hb hby at_47) rfl rfl (l' := #[.val (.int p1), .val (.int p2), .val (.int p3), .val (.int p4), .val (.int p5), .val (.int p6), .val (.int (3 : Int32)), .val (.int c_511), .val (.int c_512), .val (.int c_513), .val (.int c_514), .val (.ref x_611), .unset, .unset, .unset, .unset]) rfl k) ?_
    show own_Go _ _ _ _ (T611.setTop (mkF m 49 #[.val (.int p1), .val (.int p2), .val (.int p3), .val (.int p4), .val (.int p5), .val (.int p6), .val (.int (3 : Int32)), .val (.int c_511), .val (.int c_512), .val (.int c_513), .val (.int c_514), .val (.ref x_611), .unset, .unset, .unset, .unset] []))
    refine own_Go.st (fun _ k => XS.iconst Y611.here hx rfl (hb hby at_49) k) ?_
    show own_Go _ _ _ _ (T611.setTop (mkF m 50 #[.val (.int p1), .val (.int p2), .val (.int p3), .val (.int p4), .val (.int p5), .val (.int p6), .val (.int (3 : Int32)), .val (.int c_511), .val (.int c_512), .val (.int c_513), .val (.int c_514), .val (.ref x_611), .unset, .unset, .unset, .unset] [(.int (0 : Int32))]))
    refine own_Go.st (fun _ k => XS.istore Y611.here hx rfl (hb hby at_50) rfl (l' := #[.val (.int p1), .val (.int p2), .val (.int p3), .val (.int p4), .val (.int p5), .val (.int p6), .val (.int (3 : Int32)), .val (.int c_511), .val (.int c_512), .val (.int c_513), .val (.int c_514), .val (.ref x_611), .val (.int (0 : Int32)), .unset, .unset, .unset]) rfl k) ?_
    show own_Go _ _ _ _ (T611.setTop (mkF m 52 #[.val (.int p1), .val (.int p2), .val (.int p3), .val (.int p4), .val (.int p5), .val (.int p6), .val (.int (3 : Int32)), .val (.int c_511), .val (.int c_512), .val (.int c_513), .val (.int c_514), .val (.ref x_611), .val (.int (0 : Int32)), .unset, .unset, .unset] []))
    refine own_Go.st (fun _ k => XS.iload Y611.here hx rfl (hb hby at_52) rfl k) ?_
    show own_Go _ _ _ _ (T611.setTop (mkF m 54 #[.val (.int p1), .val (.int p2), .val (.int p3), .val (.int p4), .val (.int p5), .val (.int p6), .val (.int (3 : Int32)), .val (.int c_511), .val (.int c_512), .val (.int c_513), .val (.int c_514), .val (.ref x_611), .val (.int (0 : Int32)), .unset, .unset, .unset] [(.int (3 : Int32))]))
    refine own_Go.st (fun _ k => XS.iconst Y611.here hx rfl (hb hby at_54) k) ?_
    show own_Go _ _ _ _ (T611.setTop (mkF m 55 #[.val (.int p1), .val (.int p2), .val (.int p3), .val (.int p4), .val (.int p5), .val (.int p6), .val (.int (3 : Int32)), .val (.int c_511), .val (.int c_512), .val (.int c_513), .val (.int c_514), .val (.ref x_611), .val (.int (0 : Int32)), .unset, .unset, .unset] [(.int (2 : Int32)), (.int (3 : Int32))]))
    refine own_Go.st (fun _ k => XS.icmpNo Y611.here hx rfl (hb hby at_55) rfl (flt (by decide : ¬ ((3 : Int32) < (2 : Int32)))).1 k) ?_
    show own_Go _ _ _ _ (T611.setTop (mkF m 58 #[.val (.int p1), .val (.int p2), .val (.int p3), .val (.int p4), .val (.int p5), .val (.int p6), .val (.int (3 : Int32)), .val (.int c_511), .val (.int c_512), .val (.int c_513), .val (.int c_514), .val (.ref x_611), .val (.int (0 : Int32)), .unset, .unset, .unset] []))
    refine own_Go.st (fun _ k => XS.iload Y611.here hx rfl (hb hby at_58) rfl k) ?_
    show own_Go _ _ _ _ (T611.setTop (mkF m 60 #[.val (.int p1), .val (.int p2), .val (.int p3), .val (.int p4), .val (.int p5), .val (.int p6), .val (.int (3 : Int32)), .val (.int c_511), .val (.int c_512), .val (.int c_513), .val (.int c_514), .val (.ref x_611), .val (.int (0 : Int32)), .unset, .unset, .unset] [(.int (0 : Int32))]))
    refine own_Go.st (fun _ k => XS.iload Y611.here hx rfl (hb hby at_60) rfl k) ?_
    show own_Go _ _ _ _ (T611.setTop (mkF m 62 #[.val (.int p1), .val (.int p2), .val (.int p3), .val (.int p4), .val (.int p5), .val (.int p6), .val (.int (3 : Int32)), .val (.int c_511), .val (.int c_512), .val (.int c_513), .val (.int c_514), .val (.ref x_611), .val (.int (0 : Int32)), .unset, .unset, .unset] [(.int c_511), (.int (0 : Int32))]))
    refine own_Go.st (fun _ k => XS.iload Y611.here hx rfl (hb hby at_62) rfl k) ?_
    show own_Go _ _ _ _ (T611.setTop (mkF m 64 #[.val (.int p1), .val (.int p2), .val (.int p3), .val (.int p4), .val (.int p5), .val (.int p6), .val (.int (3 : Int32)), .val (.int c_511), .val (.int c_512), .val (.int c_513), .val (.int c_514), .val (.ref x_611), .val (.int (0 : Int32)), .unset, .unset, .unset] [(.int c_512), (.int c_511), (.int (0 : Int32))]))
    have f613 : Old Z Z.heap.size T611.heap := OL.keep K611 all0
    obtain ⟨_, _, ⟨T612, L612, k612, n612⟩, -, X612, ⟨Lc612, hQ612, l612, y612, z612⟩, st612⟩ := Jvm.LawKit.callS Y611 hx (y := (⟨"com/example/vigilant_gate/vigilantgate/PasswordPolicyAdmitsPinLaw", "pair", "(CC)I"⟩ : MethodName)) hown611 (mvT hZ611 (hw _ (List.mem_of_getElem? (i := 59) rfl))) (mvT hZ611 (hw _ (List.mem_of_getElem? (i := 60) rfl))) (mvT hZ611 (hw _ (List.mem_of_getElem? (i := 2) rfl))) (mvT hZ611 (hw _ (List.mem_of_getElem? (i := 61) rfl))) (by decide) (backOf (W := 1) (rm_pair l Z a0 hw [] c_511 c_512 T611.heap f613 ) hZ611 (hw _ (List.mem_of_getElem? (i := 61) rfl)) (hw _ (List.mem_of_getElem? (i := 2) rfl)) (by decide) (by decide)) (g := (mkF m 64 #[.val (.int p1), .val (.int p2), .val (.int p3), .val (.int p4), .val (.int p5), .val (.int p6), .val (.int (3 : Int32)), .val (.int c_511), .val (.int c_512), .val (.int c_513), .val (.int c_514), .val (.ref x_611), .val (.int (0 : Int32)), .unset, .unset, .unset] [(.int c_512), (.int c_511), (.int (0 : Int32))])) rfl (by rw [hml]; rfl) (argsL := [(.int c_511), (.int c_512)]) (rest := [(.int (0 : Int32))]) (lenOf pd_490 rfl) rfl (by show 2 * 0 + _ ≤ _; exact Nat.le_of_eq rfl) (hb hby at_64) (fun _ _ => ⟨rfl, rfl, (by decide : 6 + 0 ≤ _), (by decide : 20 + 0 ≤ _)⟩)
    dsimp only [Pt.U, Pt.locs, Pt.cells, Pt.slots] at X612 l612 y612 z612 st612 hQ612
    subst l612 y612 z612
    obtain ⟨r_612, rfl, N612q, K612, pr612_0⟩ := hQ612
    have N612 := Fr.app N611 N612q
    refine own_Go.st st612 ?_
    show own_Go _ _ _ _ (T612.setTop (mkF m 67 #[.val (.int p1), .val (.int p2), .val (.int p3), .val (.int p4), .val (.int p5), .val (.int p6), .val (.int (3 : Int32)), .val (.int c_511), .val (.int c_512), .val (.int c_513), .val (.int c_514), .val (.ref x_611), .val (.int (0 : Int32)), .unset, .unset, .unset] [(.int r_612), (.int (0 : Int32))]))
    refine own_Go.st (fun _ k => XS.iadd X612.here hx rfl (hb hby at_67) rfl k) ?_
    show own_Go _ _ _ _ (T612.setTop (mkF m 68 #[.val (.int p1), .val (.int p2), .val (.int p3), .val (.int p4), .val (.int p5), .val (.int p6), .val (.int (3 : Int32)), .val (.int c_511), .val (.int c_512), .val (.int c_513), .val (.int c_514), .val (.ref x_611), .val (.int (0 : Int32)), .unset, .unset, .unset] [(.int ((0 : Int32) + r_612))]))
    refine own_Go.st (fun _ k => XS.istore X612.here hx rfl (hb hby at_68) rfl (l' := #[.val (.int p1), .val (.int p2), .val (.int p3), .val (.int p4), .val (.int p5), .val (.int p6), .val (.int (3 : Int32)), .val (.int c_511), .val (.int c_512), .val (.int c_513), .val (.int c_514), .val (.ref x_611), .val (.int ((0 : Int32) + r_612)), .unset, .unset, .unset]) rfl k) ?_
    show own_Go _ _ _ _ (T612.setTop (mkF m 70 #[.val (.int p1), .val (.int p2), .val (.int p3), .val (.int p4), .val (.int p5), .val (.int p6), .val (.int (3 : Int32)), .val (.int c_511), .val (.int c_512), .val (.int c_513), .val (.int c_514), .val (.ref x_611), .val (.int ((0 : Int32) + r_612)), .unset, .unset, .unset] []))
    refine own_Go.st (fun _ k => XS.iload X612.here hx rfl (hb hby at_70) rfl k) ?_
    show own_Go _ _ _ _ (T612.setTop (mkF m 72 #[.val (.int p1), .val (.int p2), .val (.int p3), .val (.int p4), .val (.int p5), .val (.int p6), .val (.int (3 : Int32)), .val (.int c_511), .val (.int c_512), .val (.int c_513), .val (.int c_514), .val (.ref x_611), .val (.int ((0 : Int32) + r_612)), .unset, .unset, .unset] [(.int (3 : Int32))]))
    refine own_Go.st (fun _ k => XS.iconst X612.here hx rfl (hb hby at_72) k) ?_
    show own_Go _ _ _ _ (T612.setTop (mkF m 73 #[.val (.int p1), .val (.int p2), .val (.int p3), .val (.int p4), .val (.int p5), .val (.int p6), .val (.int (3 : Int32)), .val (.int c_511), .val (.int c_512), .val (.int c_513), .val (.int c_514), .val (.ref x_611), .val (.int ((0 : Int32) + r_612)), .unset, .unset, .unset] [(.int (3 : Int32)), (.int (3 : Int32))]))
    refine own_Go.st (fun _ k => XS.icmpNo X612.here hx rfl (hb hby at_73) rfl (flt (by decide : ¬ ((3 : Int32) < (3 : Int32)))).1 k) ?_
    show own_Go _ _ _ _ (T612.setTop (mkF m 76 #[.val (.int p1), .val (.int p2), .val (.int p3), .val (.int p4), .val (.int p5), .val (.int p6), .val (.int (3 : Int32)), .val (.int c_511), .val (.int c_512), .val (.int c_513), .val (.int c_514), .val (.ref x_611), .val (.int ((0 : Int32) + r_612)), .unset, .unset, .unset] []))
    refine own_Go.st (fun _ k => XS.iload X612.here hx rfl (hb hby at_76) rfl k) ?_
    show own_Go _ _ _ _ (T612.setTop (mkF m 78 #[.val (.int p1), .val (.int p2), .val (.int p3), .val (.int p4), .val (.int p5), .val (.int p6), .val (.int (3 : Int32)), .val (.int c_511), .val (.int c_512), .val (.int c_513), .val (.int c_514), .val (.ref x_611), .val (.int ((0 : Int32) + r_612)), .unset, .unset, .unset] [(.int ((0 : Int32) + r_612))]))
    refine own_Go.st (fun _ k => XS.iload X612.here hx rfl (hb hby at_78) rfl k) ?_
    show own_Go _ _ _ _ (T612.setTop (mkF m 80 #[.val (.int p1), .val (.int p2), .val (.int p3), .val (.int p4), .val (.int p5), .val (.int p6), .val (.int (3 : Int32)), .val (.int c_511), .val (.int c_512), .val (.int c_513), .val (.int c_514), .val (.ref x_611), .val (.int ((0 : Int32) + r_612)), .unset, .unset, .unset] [(.int c_512), (.int ((0 : Int32) + r_612))]))
    refine own_Go.st (fun _ k => XS.iload X612.here hx rfl (hb hby at_80) rfl k) ?_
    show own_Go _ _ _ _ (T612.setTop (mkF m 82 #[.val (.int p1), .val (.int p2), .val (.int p3), .val (.int p4), .val (.int p5), .val (.int p6), .val (.int (3 : Int32)), .val (.int c_511), .val (.int c_512), .val (.int c_513), .val (.int c_514), .val (.ref x_611), .val (.int ((0 : Int32) + r_612)), .unset, .unset, .unset] [(.int c_513), (.int c_512), (.int ((0 : Int32) + r_612))]))
    obtain ⟨_, _, ⟨T614, L614, k614, n614⟩, -, X614, ⟨Lc614, hQ614, l614, y614, z614⟩, st614⟩ := Jvm.LawKit.callS X612 hx (y := (⟨"com/example/vigilant_gate/vigilantgate/PasswordPolicyAdmitsPinLaw", "pair", "(CC)I"⟩ : MethodName)) hown611 (mvT hZ611 (hw _ (List.mem_of_getElem? (i := 59) rfl))) (mvT hZ611 (hw _ (List.mem_of_getElem? (i := 60) rfl))) (mvT hZ611 (hw _ (List.mem_of_getElem? (i := 2) rfl))) (mvT hZ611 (hw _ (List.mem_of_getElem? (i := 61) rfl))) (by decide) (backOf (W := 1) (rm_pair l Z a0 hw [] c_512 c_513 T611.heap f613 ) hZ611 (hw _ (List.mem_of_getElem? (i := 61) rfl)) (hw _ (List.mem_of_getElem? (i := 2) rfl)) (by decide) (by decide)) (g := (mkF m 82 #[.val (.int p1), .val (.int p2), .val (.int p3), .val (.int p4), .val (.int p5), .val (.int p6), .val (.int (3 : Int32)), .val (.int c_511), .val (.int c_512), .val (.int c_513), .val (.int c_514), .val (.ref x_611), .val (.int ((0 : Int32) + r_612)), .unset, .unset, .unset] [(.int c_513), (.int c_512), (.int ((0 : Int32) + r_612))])) rfl (by rw [hml]; rfl) (argsL := [(.int c_512), (.int c_513)]) (rest := [(.int ((0 : Int32) + r_612))]) (lenOf pd_490 rfl) rfl (by show 2 * 0 + _ ≤ _; exact Nat.le_of_eq rfl) (hb hby at_82) (fun _ _ => ⟨rfl, K612, (by decide : 6 + 0 ≤ _), (by decide : 20 + 0 ≤ _)⟩)
    dsimp only [Pt.U, Pt.locs, Pt.cells, Pt.slots] at X614 l614 y614 z614 st614 hQ614
    subst l614 y614 z614
    obtain ⟨r_614, rfl, N614q, K614, pr614_0⟩ := hQ614
    have N614 := Fr.app N612 N614q
    refine own_Go.st st614 ?_
    show own_Go _ _ _ _ (T614.setTop (mkF m 85 #[.val (.int p1), .val (.int p2), .val (.int p3), .val (.int p4), .val (.int p5), .val (.int p6), .val (.int (3 : Int32)), .val (.int c_511), .val (.int c_512), .val (.int c_513), .val (.int c_514), .val (.ref x_611), .val (.int ((0 : Int32) + r_612)), .unset, .unset, .unset] [(.int r_614), (.int ((0 : Int32) + r_612))]))
    refine own_Go.st (fun _ k => XS.iadd X614.here hx rfl (hb hby at_85) rfl k) ?_
    show own_Go _ _ _ _ (T614.setTop (mkF m 86 #[.val (.int p1), .val (.int p2), .val (.int p3), .val (.int p4), .val (.int p5), .val (.int p6), .val (.int (3 : Int32)), .val (.int c_511), .val (.int c_512), .val (.int c_513), .val (.int c_514), .val (.ref x_611), .val (.int ((0 : Int32) + r_612)), .unset, .unset, .unset] [(.int (((0 : Int32) + r_612) + r_614))]))
    refine own_Go.st (fun _ k => XS.istore X614.here hx rfl (hb hby at_86) rfl (l' := #[.val (.int p1), .val (.int p2), .val (.int p3), .val (.int p4), .val (.int p5), .val (.int p6), .val (.int (3 : Int32)), .val (.int c_511), .val (.int c_512), .val (.int c_513), .val (.int c_514), .val (.ref x_611), .val (.int (((0 : Int32) + r_612) + r_614)), .unset, .unset, .unset]) rfl k) ?_
    show own_Go _ _ _ _ (T614.setTop (mkF m 88 #[.val (.int p1), .val (.int p2), .val (.int p3), .val (.int p4), .val (.int p5), .val (.int p6), .val (.int (3 : Int32)), .val (.int c_511), .val (.int c_512), .val (.int c_513), .val (.int c_514), .val (.ref x_611), .val (.int (((0 : Int32) + r_612) + r_614)), .unset, .unset, .unset] []))
    refine own_Go.st (fun _ k => XS.iload X614.here hx rfl (hb hby at_88) rfl k) ?_
    show own_Go _ _ _ _ (T614.setTop (mkF m 90 #[.val (.int p1), .val (.int p2), .val (.int p3), .val (.int p4), .val (.int p5), .val (.int p6), .val (.int (3 : Int32)), .val (.int c_511), .val (.int c_512), .val (.int c_513), .val (.int c_514), .val (.ref x_611), .val (.int (((0 : Int32) + r_612) + r_614)), .unset, .unset, .unset] [(.int (3 : Int32))]))
    refine own_Go.st (fun _ k => XS.iconst X614.here hx rfl (hb hby at_90) k) ?_
    show own_Go _ _ _ _ (T614.setTop (mkF m 91 #[.val (.int p1), .val (.int p2), .val (.int p3), .val (.int p4), .val (.int p5), .val (.int p6), .val (.int (3 : Int32)), .val (.int c_511), .val (.int c_512), .val (.int c_513), .val (.int c_514), .val (.ref x_611), .val (.int (((0 : Int32) + r_612) + r_614)), .unset, .unset, .unset] [(.int (4 : Int32)), (.int (3 : Int32))]))
    refine own_Go.st (fun _ k => XS.icmpYes X614.here hx rfl (pc0 := 91) (pc' := 106) rfl (hb hby at_91) rfl (tlt (by decide : (3 : Int32) < (4 : Int32))).1 (by decide) (by decide) k) ?_
    show own_Go _ _ _ _ (T614.setTop (mkF m 106 #[.val (.int p1), .val (.int p2), .val (.int p3), .val (.int p4), .val (.int p5), .val (.int p6), .val (.int (3 : Int32)), .val (.int c_511), .val (.int c_512), .val (.int c_513), .val (.int c_514), .val (.ref x_611), .val (.int (((0 : Int32) + r_612) + r_614)), .unset, .unset, .unset] []))
    refine own_Go.st (fun _ k => XS.iload X614.here hx rfl (hb hby at_106) rfl k) ?_
    show own_Go _ _ _ _ (T614.setTop (mkF m 108 #[.val (.int p1), .val (.int p2), .val (.int p3), .val (.int p4), .val (.int p5), .val (.int p6), .val (.int (3 : Int32)), .val (.int c_511), .val (.int c_512), .val (.int c_513), .val (.int c_514), .val (.ref x_611), .val (.int (((0 : Int32) + r_612) + r_614)), .unset, .unset, .unset] [(.int (3 : Int32))]))
    refine own_Go.st (fun _ k => XS.iload X614.here hx rfl (hb hby at_108) rfl k) ?_
    show own_Go _ _ _ _ (T614.setTop (mkF m 110 #[.val (.int p1), .val (.int p2), .val (.int p3), .val (.int p4), .val (.int p5), .val (.int p6), .val (.int (3 : Int32)), .val (.int c_511), .val (.int c_512), .val (.int c_513), .val (.int c_514), .val (.ref x_611), .val (.int (((0 : Int32) + r_612) + r_614)), .unset, .unset, .unset] [(.int (((0 : Int32) + r_612) + r_614)), (.int (3 : Int32))]))
    refine own_Go.st (fun _ k => XS.isub X614.here hx rfl (hb hby at_110) rfl k) ?_
    show own_Go _ _ _ _ (T614.setTop (mkF m 111 #[.val (.int p1), .val (.int p2), .val (.int p3), .val (.int p4), .val (.int p5), .val (.int p6), .val (.int (3 : Int32)), .val (.int c_511), .val (.int c_512), .val (.int c_513), .val (.int c_514), .val (.ref x_611), .val (.int (((0 : Int32) + r_612) + r_614)), .unset, .unset, .unset] [(.int ((3 : Int32) - (((0 : Int32) + r_612) + r_614)))]))
    refine own_Go.st (fun _ k => XS.istore X614.here hx rfl (hb hby at_111) rfl (l' := #[.val (.int p1), .val (.int p2), .val (.int p3), .val (.int p4), .val (.int p5), .val (.int p6), .val (.int (3 : Int32)), .val (.int c_511), .val (.int c_512), .val (.int c_513), .val (.int c_514), .val (.ref x_611), .val (.int (((0 : Int32) + r_612) + r_614)), .val (.int ((3 : Int32) - (((0 : Int32) + r_612) + r_614))), .unset, .unset]) rfl k) ?_
    show own_Go _ _ _ _ (T614.setTop (mkF m 113 #[.val (.int p1), .val (.int p2), .val (.int p3), .val (.int p4), .val (.int p5), .val (.int p6), .val (.int (3 : Int32)), .val (.int c_511), .val (.int c_512), .val (.int c_513), .val (.int c_514), .val (.ref x_611), .val (.int (((0 : Int32) + r_612) + r_614)), .val (.int ((3 : Int32) - (((0 : Int32) + r_612) + r_614))), .unset, .unset] []))
    refine own_Go.st (fun _ k => XS.iload X614.here hx rfl (hb hby at_113) rfl k) ?_
    show own_Go _ _ _ _ (T614.setTop (mkF m 115 #[.val (.int p1), .val (.int p2), .val (.int p3), .val (.int p4), .val (.int p5), .val (.int p6), .val (.int (3 : Int32)), .val (.int c_511), .val (.int c_512), .val (.int c_513), .val (.int c_514), .val (.ref x_611), .val (.int (((0 : Int32) + r_612) + r_614)), .val (.int ((3 : Int32) - (((0 : Int32) + r_612) + r_614))), .unset, .unset] [(.int ((3 : Int32) - (((0 : Int32) + r_612) + r_614)))]))
    refine own_Go.st (fun _ k => XS.iloadN X614.here hx rfl (hb hby at_115) rfl k) ?_
    show own_Go _ _ _ _ (T614.setTop (mkF m 116 #[.val (.int p1), .val (.int p2), .val (.int p3), .val (.int p4), .val (.int p5), .val (.int p6), .val (.int (3 : Int32)), .val (.int c_511), .val (.int c_512), .val (.int c_513), .val (.int c_514), .val (.ref x_611), .val (.int (((0 : Int32) + r_612) + r_614)), .val (.int ((3 : Int32) - (((0 : Int32) + r_612) + r_614))), .unset, .unset] [(.int p1), (.int ((3 : Int32) - (((0 : Int32) + r_612) + r_614)))]))
    by_cases hc615 : ((3 : Int32) - (((0 : Int32) + r_612) + r_614)) < p1
    ·
      refine own_Go.st (fun _ k => XS.icmpYes X614.here hx rfl (pc0 := 116) (pc' := 123) rfl (hb hby at_116) rfl (tlt hc615).1 (by decide) (by decide) k) ?_
      show own_Go _ _ _ _ (T614.setTop (mkF m 123 #[.val (.int p1), .val (.int p2), .val (.int p3), .val (.int p4), .val (.int p5), .val (.int p6), .val (.int (3 : Int32)), .val (.int c_511), .val (.int c_512), .val (.int c_513), .val (.int c_514), .val (.ref x_611), .val (.int (((0 : Int32) + r_612) + r_614)), .val (.int ((3 : Int32) - (((0 : Int32) + r_612) + r_614))), .unset, .unset] []))
      refine own_Go.st (fun _ k => XS.iconst X614.here hx rfl (hb hby at_123) k) ?_
      show own_Go _ _ _ _ (T614.setTop (mkF m 124 #[.val (.int p1), .val (.int p2), .val (.int p3), .val (.int p4), .val (.int p5), .val (.int p6), .val (.int (3 : Int32)), .val (.int c_511), .val (.int c_512), .val (.int c_513), .val (.int c_514), .val (.ref x_611), .val (.int (((0 : Int32) + r_612) + r_614)), .val (.int ((3 : Int32) - (((0 : Int32) + r_612) + r_614))), .unset, .unset] [(.int (0 : Int32))]))
      refine own_Go.st (fun _ k => XS.istore X614.here hx rfl (hb hby at_124) rfl (l' := #[.val (.int p1), .val (.int p2), .val (.int p3), .val (.int p4), .val (.int p5), .val (.int p6), .val (.int (3 : Int32)), .val (.int c_511), .val (.int c_512), .val (.int c_513), .val (.int c_514), .val (.ref x_611), .val (.int (((0 : Int32) + r_612) + r_614)), .val (.int ((3 : Int32) - (((0 : Int32) + r_612) + r_614))), .val (.int (0 : Int32)), .unset]) rfl k) ?_
      show own_Go _ _ _ _ (T614.setTop (mkF m 126 #[.val (.int p1), .val (.int p2), .val (.int p3), .val (.int p4), .val (.int p5), .val (.int p6), .val (.int (3 : Int32)), .val (.int c_511), .val (.int c_512), .val (.int c_513), .val (.int c_514), .val (.ref x_611), .val (.int (((0 : Int32) + r_612) + r_614)), .val (.int ((3 : Int32) - (((0 : Int32) + r_612) + r_614))), .val (.int (0 : Int32)), .unset] []))
      obtain ⟨T616, h616, X616, e616, E616, A616, D616, U616, st616⟩ := newO X614 hx hZ611 hown611 (hw _ (List.mem_of_getElem? (i := 69) rfl)) (hw _ (List.mem_of_getElem? (i := 70) rfl)) (hw _ (List.mem_of_getElem? (i := 71) rfl)) K614 (g := (mkF m 126 #[.val (.int p1), .val (.int p2), .val (.int p3), .val (.int p4), .val (.int p5), .val (.int p6), .val (.int (3 : Int32)), .val (.int c_511), .val (.int c_512), .val (.int c_513), .val (.int c_514), .val (.ref x_611), .val (.int (((0 : Int32) + r_612) + r_614)), .val (.int ((3 : Int32) - (((0 : Int32) + r_612) + r_614))), .val (.int (0 : Int32)), .unset] [])) rfl (hb hby at_126) (by decide) (by decide)
      obtain ⟨b616, g616⟩ : ∃ z, z = T611.heap.size := ⟨_, rfl⟩
      rw [← g616] at A616 D616 U616 st616
      refine own_Go.st st616 ?_
      have z616 : T611.heap.size ≤ h616.size := E616.1
      have lt_b616 : @LT.lt Nat _ b616 h616.size := A616.lt
      have f617 : Fld Z h616 b616 "com/example/vigilant_gate/vigilantgate/PasswordPolicy" "minimumPasswordLength" "I" (.int (0 : Int32)) := D616 (Or.inr (hw _ (List.mem_of_getElem? (i := 82) rfl))) (ty := .int) (by decide)
      have R616 : CHr Z consts_1 s.vm h0 T611.vm h616 := R611.trans (CHr.ext E616 R611.1)
      show own_Go _ _ _ _ (T616.setTop (mkF m 129 #[.val (.int p1), .val (.int p2), .val (.int p3), .val (.int p4), .val (.int p5), .val (.int p6), .val (.int (3 : Int32)), .val (.int c_511), .val (.int c_512), .val (.int c_513), .val (.int c_514), .val (.ref x_611), .val (.int (((0 : Int32) + r_612) + r_614)), .val (.int ((3 : Int32) - (((0 : Int32) + r_612) + r_614))), .val (.int (0 : Int32)), .unset] [(.ref b616)]))
      refine own_Go.st (fun _ k => XS.dup X616.here hx rfl (hb hby at_129) rfl rfl k) ?_
      show own_Go _ _ _ _ (T616.setTop (mkF m 130 #[.val (.int p1), .val (.int p2), .val (.int p3), .val (.int p4), .val (.int p5), .val (.int p6), .val (.int (3 : Int32)), .val (.int c_511), .val (.int c_512), .val (.int c_513), .val (.int c_514), .val (.ref x_611), .val (.int (((0 : Int32) + r_612) + r_614)), .val (.int ((3 : Int32) - (((0 : Int32) + r_612) + r_614))), .val (.int (0 : Int32)), .unset] [(.ref b616), (.ref b616)]))
      refine own_Go.st (fun _ k => XS.iloadN X616.here hx rfl (hb hby at_130) rfl k) ?_
      show own_Go _ _ _ _ (T616.setTop (mkF m 131 #[.val (.int p1), .val (.int p2), .val (.int p3), .val (.int p4), .val (.int p5), .val (.int p6), .val (.int (3 : Int32)), .val (.int c_511), .val (.int c_512), .val (.int c_513), .val (.int c_514), .val (.ref x_611), .val (.int (((0 : Int32) + r_612) + r_614)), .val (.int ((3 : Int32) - (((0 : Int32) + r_612) + r_614))), .val (.int (0 : Int32)), .unset] [(.int p1), (.ref b616), (.ref b616)]))
      have f619 : Old Z Z.heap.size h616 := f613.ext E616
      obtain ⟨_, _, ⟨T618, L618, k618, n618⟩, -, X618, ⟨Lc618, hQ618, l618, y618, z618⟩, st618⟩ := X616.specialBack hx (y := (⟨"com/example/vigilant_gate/vigilantgate/PasswordPolicy", "<init>", "(I)V"⟩ : MethodName)) rfl hown611 (mvT hZ611 (hw _ (List.mem_of_getElem? (i := 72) rfl))) (mvT hZ611 (hw _ (List.mem_of_getElem? (i := 73) rfl))) (mvT hZ611 (hw _ (List.mem_of_getElem? (i := 74) rfl))) (by decide) (backOf (W := 1) (rm_ppinit l Z a0 hw [] b616 p1 h616 f619 A616 f617 (by omega)) hZ611 (hw _ (List.mem_of_getElem? (i := 74) rfl)) (hw _ (List.mem_of_getElem? (i := 71) rfl)) (by decide) (by decide)) (g := (mkF m 131 #[.val (.int p1), .val (.int p2), .val (.int p3), .val (.int p4), .val (.int p5), .val (.int p6), .val (.int (3 : Int32)), .val (.int c_511), .val (.int c_512), .val (.int c_513), .val (.int c_514), .val (.ref x_611), .val (.int (((0 : Int32) + r_612) + r_614)), .val (.int ((3 : Int32) - (((0 : Int32) + r_612) + r_614))), .val (.int (0 : Int32)), .unset] [(.int p1), (.ref b616), (.ref b616)])) rfl (by rw [hml]; rfl) (Steps.refl _) (a := b616) (argsL := [(.int p1)]) (rest := [(.ref b616)]) (lenOf pd_488 rfl) rfl (by show 2 * 0 + _ ≤ _; exact Nat.le_of_eq rfl) (hb hby at_131) (fun _ _ => ⟨rfl, e616, (by decide : 7 + 0 ≤ _), (by decide : 21 + 0 ≤ _)⟩)
      dsimp only [Pt.U, Pt.locs, Pt.cells, Pt.slots] at X618 l618 y618 z618 st618 hQ618
      subst l618 y618 z618
      obtain ⟨rfl, N618q, K618, f618_0, f618_1⟩ := hQ618
      have N618 := Fr.app N614 N618q
      have Sf620 : Safe Z consts_1 T611.vm h616 b616 := Safe.exa hZ611.alike A616 (by decide) (by decide)
      have z618 : h616.size ≤ T618.heap.size := K618.1
      have R618 : CHr Z consts_1 s.vm h0 T611.vm T618.heap := R616.trans (CHr.keep K618 (sfS Sf620 sf0) R616.1)
      have lt618_0 : @LT.lt Nat _ b616 T618.heap.size := f618_0.lt
      have lt618_1 : @LT.lt Nat _ b616 T618.heap.size := f618_1.lt
      refine own_Go.tr st618 ?_
      show own_Go _ _ _ _ (T618.setTop (mkF m 134 #[.val (.int p1), .val (.int p2), .val (.int p3), .val (.int p4), .val (.int p5), .val (.int p6), .val (.int (3 : Int32)), .val (.int c_511), .val (.int c_512), .val (.int c_513), .val (.int c_514), .val (.ref x_611), .val (.int (((0 : Int32) + r_612) + r_614)), .val (.int ((3 : Int32) - (((0 : Int32) + r_612) + r_614))), .val (.int (0 : Int32)), .unset] [(.ref b616)]))
      refine own_Go.st (fun _ k => XS.astore X618.here hx rfl (hb hby at_134) rfl rfl (l' := #[.val (.int p1), .val (.int p2), .val (.int p3), .val (.int p4), .val (.int p5), .val (.int p6), .val (.int (3 : Int32)), .val (.int c_511), .val (.int c_512), .val (.int c_513), .val (.int c_514), .val (.ref x_611), .val (.int (((0 : Int32) + r_612) + r_614)), .val (.int ((3 : Int32) - (((0 : Int32) + r_612) + r_614))), .val (.int (0 : Int32)), .val (.ref b616)]) rfl k) ?_
      show own_Go _ _ _ _ (T618.setTop (mkF m 136 #[.val (.int p1), .val (.int p2), .val (.int p3), .val (.int p4), .val (.int p5), .val (.int p6), .val (.int (3 : Int32)), .val (.int c_511), .val (.int c_512), .val (.int c_513), .val (.int c_514), .val (.ref x_611), .val (.int (((0 : Int32) + r_612) + r_614)), .val (.int ((3 : Int32) - (((0 : Int32) + r_612) + r_614))), .val (.int (0 : Int32)), .val (.ref b616)] []))
      refine own_Go.st (fun _ k => XS.aload X618.here hx rfl (hb hby at_136) rfl rfl k) ?_
      show own_Go _ _ _ _ (T618.setTop (mkF m 138 #[.val (.int p1), .val (.int p2), .val (.int p3), .val (.int p4), .val (.int p5), .val (.int p6), .val (.int (3 : Int32)), .val (.int c_511), .val (.int c_512), .val (.int c_513), .val (.int c_514), .val (.ref x_611), .val (.int (((0 : Int32) + r_612) + r_614)), .val (.int ((3 : Int32) - (((0 : Int32) + r_612) + r_614))), .val (.int (0 : Int32)), .val (.ref b616)] [(.ref b616)]))
      refine own_Go.st (fun _ k => XS.aload X618.here hx rfl (hb hby at_138) rfl rfl k) ?_
      show own_Go _ _ _ _ (T618.setTop (mkF m 140 #[.val (.int p1), .val (.int p2), .val (.int p3), .val (.int p4), .val (.int p5), .val (.int p6), .val (.int (3 : Int32)), .val (.int c_511), .val (.int c_512), .val (.int c_513), .val (.int c_514), .val (.ref x_611), .val (.int (((0 : Int32) + r_612) + r_614)), .val (.int ((3 : Int32) - (((0 : Int32) + r_612) + r_614))), .val (.int (0 : Int32)), .val (.ref b616)] [(.ref x_611), (.ref b616)]))
      have f622 : own_Str Z h616 x_611 t_611 cs_611 := f611_0.ext E616
      have f623 : own_Str Z T618.heap x_611 t_611 cs_611 := f622.keep K618 (ninS (by show @Ne Nat x_611 b616; omega) nin0) (ninS (by show @Ne Nat t_611 b616; omega) nin0)
      have f624 : Old Z Z.heap.size T618.heap := f619.keep K618 (allS (by omega) all0)
      obtain ⟨cq621, kq621, q621a, q621b, q621c⟩ := isOf hZ611 rfl f618_0
      obtain ⟨_, _, ⟨T621, L621, k621, n621⟩, -, X621, ⟨Lc621, hQ621, l621, y621, z621⟩, st621⟩ := X618.virtualBack hx (y := (⟨"com/example/vigilant_gate/vigilantgate/PasswordPolicy", "admits", "(Ljava/lang/String;)Z"⟩ : MethodName)) (z := (⟨"com/example/vigilant_gate/vigilantgate/PasswordPolicy", "admits", "(Ljava/lang/String;)Z"⟩ : MethodName)) hown611 (mvT hZ611 (hw _ (List.mem_of_getElem? (i := 83) rfl))) (mvT hZ611 (hw _ (List.mem_of_getElem? (i := 84) rfl))) (notFace_of_selects (args := #[]) (mvT hZ611 (hw _ (List.mem_of_getElem? (i := 86) rfl)))) (mvT hZ611 (hw _ (List.mem_of_getElem? (i := 86) rfl))) (mvT hZ611 (hw _ (List.mem_of_getElem? (i := 85) rfl))) (by decide) (backOf (W := 0) (rm_admits l Z a0 hw [] b616 x_611 p1 t_611 cs_611 zc T618.heap f624 f618_1 f623 st_COMPACT_STRINGS st__assertionsDisabled st_HI_BYTE_SHIFT st_LO_BYTE_SHIFT (by first | assumption | decide)) hZ611 (hw _ (List.mem_of_getElem? (i := 87) rfl)) (hw _ (List.mem_of_getElem? (i := 71) rfl)) (by decide) (by decide)) q621a q621c (g := (mkF m 140 #[.val (.int p1), .val (.int p2), .val (.int p3), .val (.int p4), .val (.int p5), .val (.int p6), .val (.int (3 : Int32)), .val (.int c_511), .val (.int c_512), .val (.int c_513), .val (.int c_514), .val (.ref x_611), .val (.int (((0 : Int32) + r_612) + r_614)), .val (.int ((3 : Int32) - (((0 : Int32) + r_612) + r_614))), .val (.int (0 : Int32)), .val (.ref b616)] [(.ref x_611), (.ref b616)])) rfl (by rw [hml]; rfl) (Steps.refl _) (argsL := [(.ref x_611)]) (rest := []) (lenOf pd_489 rfl) rfl (by show 2 * 0 + _ ≤ _; exact Nat.le_of_eq rfl) (hb hby at_140) (fun _ _ => ⟨rfl, rfl, (by decide : 7 + 0 ≤ _), (by decide : 21 + 0 ≤ _)⟩)
      dsimp only [Pt.U, Pt.locs, Pt.cells, Pt.slots] at X621 l621 y621 z621 st621 hQ621
      subst l621 y621 z621
      obtain ⟨r_621, rfl, N621q, K621, pr621_0⟩ := hQ621
      have N621 := Fr.app N618 N621q
      rw [hcs] at pr621_0
      refine own_Go.tr st621 ?_
      show own_Go _ _ _ _ (T621.setTop (mkF m 143 #[.val (.int p1), .val (.int p2), .val (.int p3), .val (.int p4), .val (.int p5), .val (.int p6), .val (.int (3 : Int32)), .val (.int c_511), .val (.int c_512), .val (.int c_513), .val (.int c_514), .val (.ref x_611), .val (.int (((0 : Int32) + r_612) + r_614)), .val (.int ((3 : Int32) - (((0 : Int32) + r_612) + r_614))), .val (.int (0 : Int32)), .val (.ref b616)] [(.int r_621)]))
      refine own_Go.st (fun _ k => XS.iload X621.here hx rfl (hb hby at_143) rfl k) ?_
      show own_Go _ _ _ _ (T621.setTop (mkF m 145 #[.val (.int p1), .val (.int p2), .val (.int p3), .val (.int p4), .val (.int p5), .val (.int p6), .val (.int (3 : Int32)), .val (.int c_511), .val (.int c_512), .val (.int c_513), .val (.int c_514), .val (.ref x_611), .val (.int (((0 : Int32) + r_612) + r_614)), .val (.int ((3 : Int32) - (((0 : Int32) + r_612) + r_614))), .val (.int (0 : Int32)), .val (.ref b616)] [(.int (0 : Int32)), (.int r_621)]))
      have hcnt : ((3 : Int32) - (((0 : Int32) + r_612) + r_614)) = Int32.ofNat (([c_511, c_512, c_513] : List Int32).length - own_pairs [c_511, c_512, c_513]) := own_cnt3 pr612_0 pr614_0
      rw [hcnt] at hc615
      have hc625 : r_621 = (0 : Int32) := (by rcases pr621_0 with ⟨q1, q2⟩ | ⟨q1, q2⟩ <;> first | exact q1 | exact absurd q2 hc615 | exact absurd hc615 q2)
      refine own_Go.st (fun _ k => XS.icmpNo X621.here hx rfl (hb hby at_145) rfl (teq hc625).2 k) ?_
      show own_Go _ _ _ _ (T621.setTop (mkF m 148 #[.val (.int p1), .val (.int p2), .val (.int p3), .val (.int p4), .val (.int p5), .val (.int p6), .val (.int (3 : Int32)), .val (.int c_511), .val (.int c_512), .val (.int c_513), .val (.int c_514), .val (.ref x_611), .val (.int (((0 : Int32) + r_612) + r_614)), .val (.int ((3 : Int32) - (((0 : Int32) + r_612) + r_614))), .val (.int (0 : Int32)), .val (.ref b616)] []))
      refine own_Go.st (fun _ k => XS.iconst X621.here hx rfl (hb hby at_148) k) ?_
      show own_Go _ _ _ _ (T621.setTop (mkF m 149 #[.val (.int p1), .val (.int p2), .val (.int p3), .val (.int p4), .val (.int p5), .val (.int p6), .val (.int (3 : Int32)), .val (.int c_511), .val (.int c_512), .val (.int c_513), .val (.int c_514), .val (.ref x_611), .val (.int (((0 : Int32) + r_612) + r_614)), .val (.int ((3 : Int32) - (((0 : Int32) + r_612) + r_614))), .val (.int (0 : Int32)), .val (.ref b616)] [(.int (1 : Int32))]))
      refine own_Go.st (fun _ k => XS.goto X621.here hx rfl (pc0 := 149) (pc' := 153) rfl (hb hby at_149) (by decide) (by decide) k) ?_
      show own_Go _ _ _ _ (T621.setTop (mkF m 153 #[.val (.int p1), .val (.int p2), .val (.int p3), .val (.int p4), .val (.int p5), .val (.int p6), .val (.int (3 : Int32)), .val (.int c_511), .val (.int c_512), .val (.int c_513), .val (.int c_514), .val (.ref x_611), .val (.int (((0 : Int32) + r_612) + r_614)), .val (.int ((3 : Int32) - (((0 : Int32) + r_612) + r_614))), .val (.int (0 : Int32)), .val (.ref b616)] [(.int (1 : Int32))]))
      obtain ⟨fs626, hr626, hrun626, hend626, hret626⟩ := X621.leaveW hS611 (by rw [K621]; exact (by omega)) (v := some (.int (nar .boolean (1 : Int32)))) (fun h => by rw [Bd.returns] at h; cases h)
      have K627 : Keep h0 T611.heap [] := (Keep.refl h0 []).trans K611 all0
      have K628 : Keep h0 h616 [] := K627.ext E616
      have K629 : Keep h0 T618.heap [] := K628.trans K618 (allS (Or.inr (by omega)) all0)
      subst hPP
      refine ⟨_, _, retN X621 hx (t := .boolean) Bd.returns (by simp) (hb hby at_153) hr626, hrun626, hend626, _, _, rfl, ?_, ?_, hret626.1, hret626.2.1, hret626.2.2.1, hret626.2.2.2.mono (by decide) (by decide)⟩
      · show Q_law Z _ _ _ _ _ _ _ h0 _ T621.heap _
        rw [K621]
        exact ⟨rfl, N621, K629⟩
      · have hfin := R618.trans (CHv.at X621 hZ611 hEL R618.1)
        rw [← hh] at hfin
        show CHr Z consts_1 s.vm s.heap T621.vm T621.heap
        rw [K621]
        exact hfin
    ·
      refine own_Go.st (fun _ k => XS.icmpNo X614.here hx rfl (hb hby at_116) rfl (flt hc615).1 k) ?_
      show own_Go _ _ _ _ (T614.setTop (mkF m 119 #[.val (.int p1), .val (.int p2), .val (.int p3), .val (.int p4), .val (.int p5), .val (.int p6), .val (.int (3 : Int32)), .val (.int c_511), .val (.int c_512), .val (.int c_513), .val (.int c_514), .val (.ref x_611), .val (.int (((0 : Int32) + r_612) + r_614)), .val (.int ((3 : Int32) - (((0 : Int32) + r_612) + r_614))), .unset, .unset] []))
      refine own_Go.st (fun _ k => XS.iconst X614.here hx rfl (hb hby at_119) k) ?_
      show own_Go _ _ _ _ (T614.setTop (mkF m 120 #[.val (.int p1), .val (.int p2), .val (.int p3), .val (.int p4), .val (.int p5), .val (.int p6), .val (.int (3 : Int32)), .val (.int c_511), .val (.int c_512), .val (.int c_513), .val (.int c_514), .val (.ref x_611), .val (.int (((0 : Int32) + r_612) + r_614)), .val (.int ((3 : Int32) - (((0 : Int32) + r_612) + r_614))), .unset, .unset] [(.int (1 : Int32))]))
      refine own_Go.st (fun _ k => XS.goto X614.here hx rfl (pc0 := 120) (pc' := 124) rfl (hb hby at_120) (by decide) (by decide) k) ?_
      show own_Go _ _ _ _ (T614.setTop (mkF m 124 #[.val (.int p1), .val (.int p2), .val (.int p3), .val (.int p4), .val (.int p5), .val (.int p6), .val (.int (3 : Int32)), .val (.int c_511), .val (.int c_512), .val (.int c_513), .val (.int c_514), .val (.ref x_611), .val (.int (((0 : Int32) + r_612) + r_614)), .val (.int ((3 : Int32) - (((0 : Int32) + r_612) + r_614))), .unset, .unset] [(.int (1 : Int32))]))
      refine own_Go.st (fun _ k => XS.istore X614.here hx rfl (hb hby at_124) rfl (l' := #[.val (.int p1), .val (.int p2), .val (.int p3), .val (.int p4), .val (.int p5), .val (.int p6), .val (.int (3 : Int32)), .val (.int c_511), .val (.int c_512), .val (.int c_513), .val (.int c_514), .val (.ref x_611), .val (.int (((0 : Int32) + r_612) + r_614)), .val (.int ((3 : Int32) - (((0 : Int32) + r_612) + r_614))), .val (.int (1 : Int32)), .unset]) rfl k) ?_
      show own_Go _ _ _ _ (T614.setTop (mkF m 126 #[.val (.int p1), .val (.int p2), .val (.int p3), .val (.int p4), .val (.int p5), .val (.int p6), .val (.int (3 : Int32)), .val (.int c_511), .val (.int c_512), .val (.int c_513), .val (.int c_514), .val (.ref x_611), .val (.int (((0 : Int32) + r_612) + r_614)), .val (.int ((3 : Int32) - (((0 : Int32) + r_612) + r_614))), .val (.int (1 : Int32)), .unset] []))
      obtain ⟨T630, h630, X630, e630, E630, A630, D630, U630, st630⟩ := newO X614 hx hZ611 hown611 (hw _ (List.mem_of_getElem? (i := 69) rfl)) (hw _ (List.mem_of_getElem? (i := 70) rfl)) (hw _ (List.mem_of_getElem? (i := 71) rfl)) K614 (g := (mkF m 126 #[.val (.int p1), .val (.int p2), .val (.int p3), .val (.int p4), .val (.int p5), .val (.int p6), .val (.int (3 : Int32)), .val (.int c_511), .val (.int c_512), .val (.int c_513), .val (.int c_514), .val (.ref x_611), .val (.int (((0 : Int32) + r_612) + r_614)), .val (.int ((3 : Int32) - (((0 : Int32) + r_612) + r_614))), .val (.int (1 : Int32)), .unset] [])) rfl (hb hby at_126) (by decide) (by decide)
      obtain ⟨b630, g630⟩ : ∃ z, z = T611.heap.size := ⟨_, rfl⟩
      rw [← g630] at A630 D630 U630 st630
      refine own_Go.st st630 ?_
      have z630 : T611.heap.size ≤ h630.size := E630.1
      have lt_b630 : @LT.lt Nat _ b630 h630.size := A630.lt
      have f631 : Fld Z h630 b630 "com/example/vigilant_gate/vigilantgate/PasswordPolicy" "minimumPasswordLength" "I" (.int (0 : Int32)) := D630 (Or.inr (hw _ (List.mem_of_getElem? (i := 82) rfl))) (ty := .int) (by decide)
      have R630 : CHr Z consts_1 s.vm h0 T611.vm h630 := R611.trans (CHr.ext E630 R611.1)
      show own_Go _ _ _ _ (T630.setTop (mkF m 129 #[.val (.int p1), .val (.int p2), .val (.int p3), .val (.int p4), .val (.int p5), .val (.int p6), .val (.int (3 : Int32)), .val (.int c_511), .val (.int c_512), .val (.int c_513), .val (.int c_514), .val (.ref x_611), .val (.int (((0 : Int32) + r_612) + r_614)), .val (.int ((3 : Int32) - (((0 : Int32) + r_612) + r_614))), .val (.int (1 : Int32)), .unset] [(.ref b630)]))
      refine own_Go.st (fun _ k => XS.dup X630.here hx rfl (hb hby at_129) rfl rfl k) ?_
      show own_Go _ _ _ _ (T630.setTop (mkF m 130 #[.val (.int p1), .val (.int p2), .val (.int p3), .val (.int p4), .val (.int p5), .val (.int p6), .val (.int (3 : Int32)), .val (.int c_511), .val (.int c_512), .val (.int c_513), .val (.int c_514), .val (.ref x_611), .val (.int (((0 : Int32) + r_612) + r_614)), .val (.int ((3 : Int32) - (((0 : Int32) + r_612) + r_614))), .val (.int (1 : Int32)), .unset] [(.ref b630), (.ref b630)]))
      refine own_Go.st (fun _ k => XS.iloadN X630.here hx rfl (hb hby at_130) rfl k) ?_
      show own_Go _ _ _ _ (T630.setTop (mkF m 131 #[.val (.int p1), .val (.int p2), .val (.int p3), .val (.int p4), .val (.int p5), .val (.int p6), .val (.int (3 : Int32)), .val (.int c_511), .val (.int c_512), .val (.int c_513), .val (.int c_514), .val (.ref x_611), .val (.int (((0 : Int32) + r_612) + r_614)), .val (.int ((3 : Int32) - (((0 : Int32) + r_612) + r_614))), .val (.int (1 : Int32)), .unset] [(.int p1), (.ref b630), (.ref b630)]))
      have f633 : Old Z Z.heap.size h630 := f613.ext E630
      obtain ⟨_, _, ⟨T632, L632, k632, n632⟩, -, X632, ⟨Lc632, hQ632, l632, y632, z632⟩, st632⟩ := X630.specialBack hx (y := (⟨"com/example/vigilant_gate/vigilantgate/PasswordPolicy", "<init>", "(I)V"⟩ : MethodName)) rfl hown611 (mvT hZ611 (hw _ (List.mem_of_getElem? (i := 72) rfl))) (mvT hZ611 (hw _ (List.mem_of_getElem? (i := 73) rfl))) (mvT hZ611 (hw _ (List.mem_of_getElem? (i := 74) rfl))) (by decide) (backOf (W := 1) (rm_ppinit l Z a0 hw [] b630 p1 h630 f633 A630 f631 (by omega)) hZ611 (hw _ (List.mem_of_getElem? (i := 74) rfl)) (hw _ (List.mem_of_getElem? (i := 71) rfl)) (by decide) (by decide)) (g := (mkF m 131 #[.val (.int p1), .val (.int p2), .val (.int p3), .val (.int p4), .val (.int p5), .val (.int p6), .val (.int (3 : Int32)), .val (.int c_511), .val (.int c_512), .val (.int c_513), .val (.int c_514), .val (.ref x_611), .val (.int (((0 : Int32) + r_612) + r_614)), .val (.int ((3 : Int32) - (((0 : Int32) + r_612) + r_614))), .val (.int (1 : Int32)), .unset] [(.int p1), (.ref b630), (.ref b630)])) rfl (by rw [hml]; rfl) (Steps.refl _) (a := b630) (argsL := [(.int p1)]) (rest := [(.ref b630)]) (lenOf pd_488 rfl) rfl (by show 2 * 0 + _ ≤ _; exact Nat.le_of_eq rfl) (hb hby at_131) (fun _ _ => ⟨rfl, e630, (by decide : 7 + 0 ≤ _), (by decide : 21 + 0 ≤ _)⟩)
      dsimp only [Pt.U, Pt.locs, Pt.cells, Pt.slots] at X632 l632 y632 z632 st632 hQ632
      subst l632 y632 z632
      obtain ⟨rfl, N632q, K632, f632_0, f632_1⟩ := hQ632
      have N632 := Fr.app N614 N632q
      have Sf634 : Safe Z consts_1 T611.vm h630 b630 := Safe.exa hZ611.alike A630 (by decide) (by decide)
      have z632 : h630.size ≤ T632.heap.size := K632.1
      have R632 : CHr Z consts_1 s.vm h0 T611.vm T632.heap := R630.trans (CHr.keep K632 (sfS Sf634 sf0) R630.1)
      have lt632_0 : @LT.lt Nat _ b630 T632.heap.size := f632_0.lt
      have lt632_1 : @LT.lt Nat _ b630 T632.heap.size := f632_1.lt
      refine own_Go.tr st632 ?_
      show own_Go _ _ _ _ (T632.setTop (mkF m 134 #[.val (.int p1), .val (.int p2), .val (.int p3), .val (.int p4), .val (.int p5), .val (.int p6), .val (.int (3 : Int32)), .val (.int c_511), .val (.int c_512), .val (.int c_513), .val (.int c_514), .val (.ref x_611), .val (.int (((0 : Int32) + r_612) + r_614)), .val (.int ((3 : Int32) - (((0 : Int32) + r_612) + r_614))), .val (.int (1 : Int32)), .unset] [(.ref b630)]))
      refine own_Go.st (fun _ k => XS.astore X632.here hx rfl (hb hby at_134) rfl rfl (l' := #[.val (.int p1), .val (.int p2), .val (.int p3), .val (.int p4), .val (.int p5), .val (.int p6), .val (.int (3 : Int32)), .val (.int c_511), .val (.int c_512), .val (.int c_513), .val (.int c_514), .val (.ref x_611), .val (.int (((0 : Int32) + r_612) + r_614)), .val (.int ((3 : Int32) - (((0 : Int32) + r_612) + r_614))), .val (.int (1 : Int32)), .val (.ref b630)]) rfl k) ?_
      show own_Go _ _ _ _ (T632.setTop (mkF m 136 #[.val (.int p1), .val (.int p2), .val (.int p3), .val (.int p4), .val (.int p5), .val (.int p6), .val (.int (3 : Int32)), .val (.int c_511), .val (.int c_512), .val (.int c_513), .val (.int c_514), .val (.ref x_611), .val (.int (((0 : Int32) + r_612) + r_614)), .val (.int ((3 : Int32) - (((0 : Int32) + r_612) + r_614))), .val (.int (1 : Int32)), .val (.ref b630)] []))
      refine own_Go.st (fun _ k => XS.aload X632.here hx rfl (hb hby at_136) rfl rfl k) ?_
      show own_Go _ _ _ _ (T632.setTop (mkF m 138 #[.val (.int p1), .val (.int p2), .val (.int p3), .val (.int p4), .val (.int p5), .val (.int p6), .val (.int (3 : Int32)), .val (.int c_511), .val (.int c_512), .val (.int c_513), .val (.int c_514), .val (.ref x_611), .val (.int (((0 : Int32) + r_612) + r_614)), .val (.int ((3 : Int32) - (((0 : Int32) + r_612) + r_614))), .val (.int (1 : Int32)), .val (.ref b630)] [(.ref b630)]))
      refine own_Go.st (fun _ k => XS.aload X632.here hx rfl (hb hby at_138) rfl rfl k) ?_
      show own_Go _ _ _ _ (T632.setTop (mkF m 140 #[.val (.int p1), .val (.int p2), .val (.int p3), .val (.int p4), .val (.int p5), .val (.int p6), .val (.int (3 : Int32)), .val (.int c_511), .val (.int c_512), .val (.int c_513), .val (.int c_514), .val (.ref x_611), .val (.int (((0 : Int32) + r_612) + r_614)), .val (.int ((3 : Int32) - (((0 : Int32) + r_612) + r_614))), .val (.int (1 : Int32)), .val (.ref b630)] [(.ref x_611), (.ref b630)]))
      have f636 : own_Str Z h630 x_611 t_611 cs_611 := f611_0.ext E630
      have f637 : own_Str Z T632.heap x_611 t_611 cs_611 := f636.keep K632 (ninS (by show @Ne Nat x_611 b630; omega) nin0) (ninS (by show @Ne Nat t_611 b630; omega) nin0)
      have f638 : Old Z Z.heap.size T632.heap := f633.keep K632 (allS (by omega) all0)
      obtain ⟨cq635, kq635, q635a, q635b, q635c⟩ := isOf hZ611 rfl f632_0
      obtain ⟨_, _, ⟨T635, L635, k635, n635⟩, -, X635, ⟨Lc635, hQ635, l635, y635, z635⟩, st635⟩ := X632.virtualBack hx (y := (⟨"com/example/vigilant_gate/vigilantgate/PasswordPolicy", "admits", "(Ljava/lang/String;)Z"⟩ : MethodName)) (z := (⟨"com/example/vigilant_gate/vigilantgate/PasswordPolicy", "admits", "(Ljava/lang/String;)Z"⟩ : MethodName)) hown611 (mvT hZ611 (hw _ (List.mem_of_getElem? (i := 83) rfl))) (mvT hZ611 (hw _ (List.mem_of_getElem? (i := 84) rfl))) (notFace_of_selects (args := #[]) (mvT hZ611 (hw _ (List.mem_of_getElem? (i := 86) rfl)))) (mvT hZ611 (hw _ (List.mem_of_getElem? (i := 86) rfl))) (mvT hZ611 (hw _ (List.mem_of_getElem? (i := 85) rfl))) (by decide) (backOf (W := 0) (rm_admits l Z a0 hw [] b630 x_611 p1 t_611 cs_611 zc T632.heap f638 f632_1 f637 st_COMPACT_STRINGS st__assertionsDisabled st_HI_BYTE_SHIFT st_LO_BYTE_SHIFT (by first | assumption | decide)) hZ611 (hw _ (List.mem_of_getElem? (i := 87) rfl)) (hw _ (List.mem_of_getElem? (i := 71) rfl)) (by decide) (by decide)) q635a q635c (g := (mkF m 140 #[.val (.int p1), .val (.int p2), .val (.int p3), .val (.int p4), .val (.int p5), .val (.int p6), .val (.int (3 : Int32)), .val (.int c_511), .val (.int c_512), .val (.int c_513), .val (.int c_514), .val (.ref x_611), .val (.int (((0 : Int32) + r_612) + r_614)), .val (.int ((3 : Int32) - (((0 : Int32) + r_612) + r_614))), .val (.int (1 : Int32)), .val (.ref b630)] [(.ref x_611), (.ref b630)])) rfl (by rw [hml]; rfl) (Steps.refl _) (argsL := [(.ref x_611)]) (rest := []) (lenOf pd_489 rfl) rfl (by show 2 * 0 + _ ≤ _; exact Nat.le_of_eq rfl) (hb hby at_140) (fun _ _ => ⟨rfl, rfl, (by decide : 7 + 0 ≤ _), (by decide : 21 + 0 ≤ _)⟩)
      dsimp only [Pt.U, Pt.locs, Pt.cells, Pt.slots] at X635 l635 y635 z635 st635 hQ635
      subst l635 y635 z635
      obtain ⟨r_635, rfl, N635q, K635, pr635_0⟩ := hQ635
      have N635 := Fr.app N632 N635q
      rw [hcs] at pr635_0
      refine own_Go.tr st635 ?_
      show own_Go _ _ _ _ (T635.setTop (mkF m 143 #[.val (.int p1), .val (.int p2), .val (.int p3), .val (.int p4), .val (.int p5), .val (.int p6), .val (.int (3 : Int32)), .val (.int c_511), .val (.int c_512), .val (.int c_513), .val (.int c_514), .val (.ref x_611), .val (.int (((0 : Int32) + r_612) + r_614)), .val (.int ((3 : Int32) - (((0 : Int32) + r_612) + r_614))), .val (.int (1 : Int32)), .val (.ref b630)] [(.int r_635)]))
      refine own_Go.st (fun _ k => XS.iload X635.here hx rfl (hb hby at_143) rfl k) ?_
      show own_Go _ _ _ _ (T635.setTop (mkF m 145 #[.val (.int p1), .val (.int p2), .val (.int p3), .val (.int p4), .val (.int p5), .val (.int p6), .val (.int (3 : Int32)), .val (.int c_511), .val (.int c_512), .val (.int c_513), .val (.int c_514), .val (.ref x_611), .val (.int (((0 : Int32) + r_612) + r_614)), .val (.int ((3 : Int32) - (((0 : Int32) + r_612) + r_614))), .val (.int (1 : Int32)), .val (.ref b630)] [(.int (1 : Int32)), (.int r_635)]))
      have hcnt : ((3 : Int32) - (((0 : Int32) + r_612) + r_614)) = Int32.ofNat (([c_511, c_512, c_513] : List Int32).length - own_pairs [c_511, c_512, c_513]) := own_cnt3 pr612_0 pr614_0
      rw [hcnt] at hc615
      have hc639 : r_635 = (1 : Int32) := (by rcases pr635_0 with ⟨q1, q2⟩ | ⟨q1, q2⟩ <;> first | exact q1 | exact absurd q2 hc615 | exact absurd hc615 q2)
      refine own_Go.st (fun _ k => XS.icmpNo X635.here hx rfl (hb hby at_145) rfl (teq hc639).2 k) ?_
      show own_Go _ _ _ _ (T635.setTop (mkF m 148 #[.val (.int p1), .val (.int p2), .val (.int p3), .val (.int p4), .val (.int p5), .val (.int p6), .val (.int (3 : Int32)), .val (.int c_511), .val (.int c_512), .val (.int c_513), .val (.int c_514), .val (.ref x_611), .val (.int (((0 : Int32) + r_612) + r_614)), .val (.int ((3 : Int32) - (((0 : Int32) + r_612) + r_614))), .val (.int (1 : Int32)), .val (.ref b630)] []))
      refine own_Go.st (fun _ k => XS.iconst X635.here hx rfl (hb hby at_148) k) ?_
      show own_Go _ _ _ _ (T635.setTop (mkF m 149 #[.val (.int p1), .val (.int p2), .val (.int p3), .val (.int p4), .val (.int p5), .val (.int p6), .val (.int (3 : Int32)), .val (.int c_511), .val (.int c_512), .val (.int c_513), .val (.int c_514), .val (.ref x_611), .val (.int (((0 : Int32) + r_612) + r_614)), .val (.int ((3 : Int32) - (((0 : Int32) + r_612) + r_614))), .val (.int (1 : Int32)), .val (.ref b630)] [(.int (1 : Int32))]))
      refine own_Go.st (fun _ k => XS.goto X635.here hx rfl (pc0 := 149) (pc' := 153) rfl (hb hby at_149) (by decide) (by decide) k) ?_
      show own_Go _ _ _ _ (T635.setTop (mkF m 153 #[.val (.int p1), .val (.int p2), .val (.int p3), .val (.int p4), .val (.int p5), .val (.int p6), .val (.int (3 : Int32)), .val (.int c_511), .val (.int c_512), .val (.int c_513), .val (.int c_514), .val (.ref x_611), .val (.int (((0 : Int32) + r_612) + r_614)), .val (.int ((3 : Int32) - (((0 : Int32) + r_612) + r_614))), .val (.int (1 : Int32)), .val (.ref b630)] [(.int (1 : Int32))]))
      obtain ⟨fs640, hr640, hrun640, hend640, hret640⟩ := X635.leaveW hS611 (by rw [K635]; exact (by omega)) (v := some (.int (nar .boolean (1 : Int32)))) (fun h => by rw [Bd.returns] at h; cases h)
      have K641 : Keep h0 T611.heap [] := (Keep.refl h0 []).trans K611 all0
      have K642 : Keep h0 h630 [] := K641.ext E630
      have K643 : Keep h0 T632.heap [] := K642.trans K632 (allS (Or.inr (by omega)) all0)
      subst hPP
      refine ⟨_, _, retN X635 hx (t := .boolean) Bd.returns (by simp) (hb hby at_153) hr640, hrun640, hend640, _, _, rfl, ?_, ?_, hret640.1, hret640.2.1, hret640.2.2.1, hret640.2.2.2.mono (by decide) (by decide)⟩
      · show Q_law Z _ _ _ _ _ _ _ h0 _ T635.heap _
        rw [K635]
        exact ⟨rfl, N635, K643⟩
      · have hfin := R632.trans (CHv.at X635 hZ611 hEL R632.1)
        rw [← hh] at hfin
        show CHr Z consts_1 s.vm s.heap T635.vm T635.heap
        rw [K635]
        exact hfin
  ·
    show own_Go _ _ _ _ (T514.setTop (mkF m 34 #[.val (.int p1), .val (.int p2), .val (.int p3), .val (.int p4), .val (.int p5), .val (.int p6), .val (.int (4 : Int32)), .val (.int c_511), .val (.int c_512), .val (.int c_513), .val (.int c_514), .unset, .unset, .unset, .unset, .unset] []))
    refine own_Go.st (fun _ k => XS.iload X514.here hx rfl (hb hby at_34) rfl k) ?_
    show own_Go _ _ _ _ (T514.setTop (mkF m 36 #[.val (.int p1), .val (.int p2), .val (.int p3), .val (.int p4), .val (.int p5), .val (.int p6), .val (.int (4 : Int32)), .val (.int c_511), .val (.int c_512), .val (.int c_513), .val (.int c_514), .unset, .unset, .unset, .unset, .unset] [(.int (4 : Int32))]))
    refine own_Go.st (fun _ k => XS.iload X514.here hx rfl (hb hby at_36) rfl k) ?_
    show own_Go _ _ _ _ (T514.setTop (mkF m 38 #[.val (.int p1), .val (.int p2), .val (.int p3), .val (.int p4), .val (.int p5), .val (.int p6), .val (.int (4 : Int32)), .val (.int c_511), .val (.int c_512), .val (.int c_513), .val (.int c_514), .unset, .unset, .unset, .unset, .unset] [(.int c_511), (.int (4 : Int32))]))
    refine own_Go.st (fun _ k => XS.iload X514.here hx rfl (hb hby at_38) rfl k) ?_
    show own_Go _ _ _ _ (T514.setTop (mkF m 40 #[.val (.int p1), .val (.int p2), .val (.int p3), .val (.int p4), .val (.int p5), .val (.int p6), .val (.int (4 : Int32)), .val (.int c_511), .val (.int c_512), .val (.int c_513), .val (.int c_514), .unset, .unset, .unset, .unset, .unset] [(.int c_512), (.int c_511), (.int (4 : Int32))]))
    refine own_Go.st (fun _ k => XS.iload X514.here hx rfl (hb hby at_40) rfl k) ?_
    show own_Go _ _ _ _ (T514.setTop (mkF m 42 #[.val (.int p1), .val (.int p2), .val (.int p3), .val (.int p4), .val (.int p5), .val (.int p6), .val (.int (4 : Int32)), .val (.int c_511), .val (.int c_512), .val (.int c_513), .val (.int c_514), .unset, .unset, .unset, .unset, .unset] [(.int c_513), (.int c_512), (.int c_511), (.int (4 : Int32))]))
    refine own_Go.st (fun _ k => XS.iload X514.here hx rfl (hb hby at_42) rfl k) ?_
    show own_Go _ _ _ _ (T514.setTop (mkF m 44 #[.val (.int p1), .val (.int p2), .val (.int p3), .val (.int p4), .val (.int p5), .val (.int p6), .val (.int (4 : Int32)), .val (.int c_511), .val (.int c_512), .val (.int c_513), .val (.int c_514), .unset, .unset, .unset, .unset, .unset] [(.int c_514), (.int c_513), (.int c_512), (.int c_511), (.int (4 : Int32))]))
    obtain ⟨_, _, ⟨T644, L644, k644, n644⟩, -, X644, hs644, hg644, ⟨Lc644, hQ644, l644, y644, z644, ch644⟩, st644⟩ := callSS X514 hx (y := (⟨"com/example/vigilant_gate/vigilantgate/PasswordPolicyAdmitsPinLaw", "build", "(ICCCC)Ljava/lang/String;"⟩ : MethodName)) hown (mvT hZ (hw _ (List.mem_of_getElem? (i := 7) rfl))) (mvT hZ (hw _ (List.mem_of_getElem? (i := 8) rfl))) (mvT hZ (hw _ (List.mem_of_getElem? (i := 2) rfl))) (mvT hZ (hw _ (List.mem_of_getElem? (i := 9) rfl))) (by decide) (backOfSH (s := s) (vm0 := s.vm) (W := 0) (rm_build l Z a0 hw [] (4 : Int32) c_511 c_512 c_513 c_514 zc h0 hEL OL st_COMPACT_STRINGS st__assertionsDisabled st_HI_BYTE_SHIFT st_LO_BYTE_SHIFT (by first | assumption | decide) (by first | assumption | decide) (by first | assumption | decide) (by first | assumption | decide) (by first | assumption | decide)) hZ (hw _ (List.mem_of_getElem? (i := 9) rfl)) (hw _ (List.mem_of_getElem? (i := 2) rfl)) (by decide) (by decide) hEL R0.1) (g := (mkF m 44 #[.val (.int p1), .val (.int p2), .val (.int p3), .val (.int p4), .val (.int p5), .val (.int p6), .val (.int (4 : Int32)), .val (.int c_511), .val (.int c_512), .val (.int c_513), .val (.int c_514), .unset, .unset, .unset, .unset, .unset] [(.int c_514), (.int c_513), (.int c_512), (.int c_511), (.int (4 : Int32))])) rfl (by rw [hml]; rfl) (argsL := [(.int (4 : Int32)), (.int c_511), (.int c_512), (.int c_513), (.int c_514)]) (rest := []) (lenOf pd_487 rfl) rfl (by show 2 * 0 + _ ≤ _; exact Nat.le_of_eq rfl) (hb hby at_44) (fun _ _ => ⟨rfl, K514, (by decide : 0 + 6 ≤ _), (by decide : 0 + 20 ≤ _)⟩)
    dsimp only [Pt.U, Pt.locs, Pt.cells, Pt.slots] at X644 l644 y644 z644 st644 hQ644 hs644 hg644 ch644
    subst l644 y644 z644
    obtain ⟨x_644, t_644, cs_644, rfl, N644q, K644, f644_0, pr644_0⟩ := hQ644
    have N644 := Fr.app N514 N644q
    obtain ⟨Y644, hS644, hZ644, hown644⟩ := rebS hS0 (n1 := h0.size) (by omega) X644 hs644 (by have := hg644; first | exact this | (rw [← K514]; exact this)) hZ hown
    have z644 : h0.size ≤ T644.heap.size := K644.1
    have R644 : CHr Z consts_1 s.vm h0 T644.vm T644.heap := R0.trans ch644
    have lt644_0 : @LT.lt Nat _ x_644 T644.heap.size := f644_0.lt
    have ltv644_0 : @LT.lt Nat _ t_644 T644.heap.size := f644_0.ltv
    have hcs : cs_644 = ([c_511, c_512, c_513, c_514] : List Int32) := by rw [pr644_0]; rfl
    refine own_Go.tr st644 ?_
    show own_Go _ _ _ _ (T644.setTop (mkF m 47 #[.val (.int p1), .val (.int p2), .val (.int p3), .val (.int p4), .val (.int p5), .val (.int p6), .val (.int (4 : Int32)), .val (.int c_511), .val (.int c_512), .val (.int c_513), .val (.int c_514), .unset, .unset, .unset, .unset, .unset] [(.ref x_644)]))
    refine own_Go.st (fun _ k => XS.astore Y644.here hx rfl (hb hby at_47) rfl rfl (l' := #[.val (.int p1), .val (.int p2), .val (.int p3), .val (.int p4), .val (.int p5), .val (.int p6), .val (.int (4 : Int32)), .val (.int c_511), .val (.int c_512), .val (.int c_513), .val (.int c_514), .val (.ref x_644), .unset, .unset, .unset, .unset]) rfl k) ?_
    show own_Go _ _ _ _ (T644.setTop (mkF m 49 #[.val (.int p1), .val (.int p2), .val (.int p3), .val (.int p4), .val (.int p5), .val (.int p6), .val (.int (4 : Int32)), .val (.int c_511), .val (.int c_512), .val (.int c_513), .val (.int c_514), .val (.ref x_644), .unset, .unset, .unset, .unset] []))
    refine own_Go.st (fun _ k => XS.iconst Y644.here hx rfl (hb hby at_49) k) ?_
    show own_Go _ _ _ _ (T644.setTop (mkF m 50 #[.val (.int p1), .val (.int p2), .val (.int p3), .val (.int p4), .val (.int p5), .val (.int p6), .val (.int (4 : Int32)), .val (.int c_511), .val (.int c_512), .val (.int c_513), .val (.int c_514), .val (.ref x_644), .unset, .unset, .unset, .unset] [(.int (0 : Int32))]))
    refine own_Go.st (fun _ k => XS.istore Y644.here hx rfl (hb hby at_50) rfl (l' := #[.val (.int p1), .val (.int p2), .val (.int p3), .val (.int p4), .val (.int p5), .val (.int p6), .val (.int (4 : Int32)), .val (.int c_511), .val (.int c_512), .val (.int c_513), .val (.int c_514), .val (.ref x_644), .val (.int (0 : Int32)), .unset, .unset, .unset]) rfl k) ?_
    show own_Go _ _ _ _ (T644.setTop (mkF m 52 #[.val (.int p1), .val (.int p2), .val (.int p3), .val (.int p4), .val (.int p5), .val (.int p6), .val (.int (4 : Int32)), .val (.int c_511), .val (.int c_512), .val (.int c_513), .val (.int c_514), .val (.ref x_644), .val (.int (0 : Int32)), .unset, .unset, .unset] []))
    refine own_Go.st (fun _ k => XS.iload Y644.here hx rfl (hb hby at_52) rfl k) ?_
    show own_Go _ _ _ _ (T644.setTop (mkF m 54 #[.val (.int p1), .val (.int p2), .val (.int p3), .val (.int p4), .val (.int p5), .val (.int p6), .val (.int (4 : Int32)), .val (.int c_511), .val (.int c_512), .val (.int c_513), .val (.int c_514), .val (.ref x_644), .val (.int (0 : Int32)), .unset, .unset, .unset] [(.int (4 : Int32))]))
    refine own_Go.st (fun _ k => XS.iconst Y644.here hx rfl (hb hby at_54) k) ?_
    show own_Go _ _ _ _ (T644.setTop (mkF m 55 #[.val (.int p1), .val (.int p2), .val (.int p3), .val (.int p4), .val (.int p5), .val (.int p6), .val (.int (4 : Int32)), .val (.int c_511), .val (.int c_512), .val (.int c_513), .val (.int c_514), .val (.ref x_644), .val (.int (0 : Int32)), .unset, .unset, .unset] [(.int (2 : Int32)), (.int (4 : Int32))]))
    refine own_Go.st (fun _ k => XS.icmpNo Y644.here hx rfl (hb hby at_55) rfl (flt (by decide : ¬ ((4 : Int32) < (2 : Int32)))).1 k) ?_
    show own_Go _ _ _ _ (T644.setTop (mkF m 58 #[.val (.int p1), .val (.int p2), .val (.int p3), .val (.int p4), .val (.int p5), .val (.int p6), .val (.int (4 : Int32)), .val (.int c_511), .val (.int c_512), .val (.int c_513), .val (.int c_514), .val (.ref x_644), .val (.int (0 : Int32)), .unset, .unset, .unset] []))
    refine own_Go.st (fun _ k => XS.iload Y644.here hx rfl (hb hby at_58) rfl k) ?_
    show own_Go _ _ _ _ (T644.setTop (mkF m 60 #[.val (.int p1), .val (.int p2), .val (.int p3), .val (.int p4), .val (.int p5), .val (.int p6), .val (.int (4 : Int32)), .val (.int c_511), .val (.int c_512), .val (.int c_513), .val (.int c_514), .val (.ref x_644), .val (.int (0 : Int32)), .unset, .unset, .unset] [(.int (0 : Int32))]))
    refine own_Go.st (fun _ k => XS.iload Y644.here hx rfl (hb hby at_60) rfl k) ?_
    show own_Go _ _ _ _ (T644.setTop (mkF m 62 #[.val (.int p1), .val (.int p2), .val (.int p3), .val (.int p4), .val (.int p5), .val (.int p6), .val (.int (4 : Int32)), .val (.int c_511), .val (.int c_512), .val (.int c_513), .val (.int c_514), .val (.ref x_644), .val (.int (0 : Int32)), .unset, .unset, .unset] [(.int c_511), (.int (0 : Int32))]))
    refine own_Go.st (fun _ k => XS.iload Y644.here hx rfl (hb hby at_62) rfl k) ?_
    show own_Go _ _ _ _ (T644.setTop (mkF m 64 #[.val (.int p1), .val (.int p2), .val (.int p3), .val (.int p4), .val (.int p5), .val (.int p6), .val (.int (4 : Int32)), .val (.int c_511), .val (.int c_512), .val (.int c_513), .val (.int c_514), .val (.ref x_644), .val (.int (0 : Int32)), .unset, .unset, .unset] [(.int c_512), (.int c_511), (.int (0 : Int32))]))
    have f646 : Old Z Z.heap.size T644.heap := OL.keep K644 all0
    obtain ⟨_, _, ⟨T645, L645, k645, n645⟩, -, X645, ⟨Lc645, hQ645, l645, y645, z645⟩, st645⟩ := Jvm.LawKit.callS Y644 hx (y := (⟨"com/example/vigilant_gate/vigilantgate/PasswordPolicyAdmitsPinLaw", "pair", "(CC)I"⟩ : MethodName)) hown644 (mvT hZ644 (hw _ (List.mem_of_getElem? (i := 59) rfl))) (mvT hZ644 (hw _ (List.mem_of_getElem? (i := 60) rfl))) (mvT hZ644 (hw _ (List.mem_of_getElem? (i := 2) rfl))) (mvT hZ644 (hw _ (List.mem_of_getElem? (i := 61) rfl))) (by decide) (backOf (W := 1) (rm_pair l Z a0 hw [] c_511 c_512 T644.heap f646 ) hZ644 (hw _ (List.mem_of_getElem? (i := 61) rfl)) (hw _ (List.mem_of_getElem? (i := 2) rfl)) (by decide) (by decide)) (g := (mkF m 64 #[.val (.int p1), .val (.int p2), .val (.int p3), .val (.int p4), .val (.int p5), .val (.int p6), .val (.int (4 : Int32)), .val (.int c_511), .val (.int c_512), .val (.int c_513), .val (.int c_514), .val (.ref x_644), .val (.int (0 : Int32)), .unset, .unset, .unset] [(.int c_512), (.int c_511), (.int (0 : Int32))])) rfl (by rw [hml]; rfl) (argsL := [(.int c_511), (.int c_512)]) (rest := [(.int (0 : Int32))]) (lenOf pd_490 rfl) rfl (by show 2 * 0 + _ ≤ _; exact Nat.le_of_eq rfl) (hb hby at_64) (fun _ _ => ⟨rfl, rfl, (by decide : 6 + 0 ≤ _), (by decide : 20 + 0 ≤ _)⟩)
    dsimp only [Pt.U, Pt.locs, Pt.cells, Pt.slots] at X645 l645 y645 z645 st645 hQ645
    subst l645 y645 z645
    obtain ⟨r_645, rfl, N645q, K645, pr645_0⟩ := hQ645
    have N645 := Fr.app N644 N645q
    refine own_Go.st st645 ?_
    show own_Go _ _ _ _ (T645.setTop (mkF m 67 #[.val (.int p1), .val (.int p2), .val (.int p3), .val (.int p4), .val (.int p5), .val (.int p6), .val (.int (4 : Int32)), .val (.int c_511), .val (.int c_512), .val (.int c_513), .val (.int c_514), .val (.ref x_644), .val (.int (0 : Int32)), .unset, .unset, .unset] [(.int r_645), (.int (0 : Int32))]))
    refine own_Go.st (fun _ k => XS.iadd X645.here hx rfl (hb hby at_67) rfl k) ?_
    show own_Go _ _ _ _ (T645.setTop (mkF m 68 #[.val (.int p1), .val (.int p2), .val (.int p3), .val (.int p4), .val (.int p5), .val (.int p6), .val (.int (4 : Int32)), .val (.int c_511), .val (.int c_512), .val (.int c_513), .val (.int c_514), .val (.ref x_644), .val (.int (0 : Int32)), .unset, .unset, .unset] [(.int ((0 : Int32) + r_645))]))
    refine own_Go.st (fun _ k => XS.istore X645.here hx rfl (hb hby at_68) rfl (l' := #[.val (.int p1), .val (.int p2), .val (.int p3), .val (.int p4), .val (.int p5), .val (.int p6), .val (.int (4 : Int32)), .val (.int c_511), .val (.int c_512), .val (.int c_513), .val (.int c_514), .val (.ref x_644), .val (.int ((0 : Int32) + r_645)), .unset, .unset, .unset]) rfl k) ?_
    show own_Go _ _ _ _ (T645.setTop (mkF m 70 #[.val (.int p1), .val (.int p2), .val (.int p3), .val (.int p4), .val (.int p5), .val (.int p6), .val (.int (4 : Int32)), .val (.int c_511), .val (.int c_512), .val (.int c_513), .val (.int c_514), .val (.ref x_644), .val (.int ((0 : Int32) + r_645)), .unset, .unset, .unset] []))
    refine own_Go.st (fun _ k => XS.iload X645.here hx rfl (hb hby at_70) rfl k) ?_
    show own_Go _ _ _ _ (T645.setTop (mkF m 72 #[.val (.int p1), .val (.int p2), .val (.int p3), .val (.int p4), .val (.int p5), .val (.int p6), .val (.int (4 : Int32)), .val (.int c_511), .val (.int c_512), .val (.int c_513), .val (.int c_514), .val (.ref x_644), .val (.int ((0 : Int32) + r_645)), .unset, .unset, .unset] [(.int (4 : Int32))]))
    refine own_Go.st (fun _ k => XS.iconst X645.here hx rfl (hb hby at_72) k) ?_
    show own_Go _ _ _ _ (T645.setTop (mkF m 73 #[.val (.int p1), .val (.int p2), .val (.int p3), .val (.int p4), .val (.int p5), .val (.int p6), .val (.int (4 : Int32)), .val (.int c_511), .val (.int c_512), .val (.int c_513), .val (.int c_514), .val (.ref x_644), .val (.int ((0 : Int32) + r_645)), .unset, .unset, .unset] [(.int (3 : Int32)), (.int (4 : Int32))]))
    refine own_Go.st (fun _ k => XS.icmpNo X645.here hx rfl (hb hby at_73) rfl (flt (by decide : ¬ ((4 : Int32) < (3 : Int32)))).1 k) ?_
    show own_Go _ _ _ _ (T645.setTop (mkF m 76 #[.val (.int p1), .val (.int p2), .val (.int p3), .val (.int p4), .val (.int p5), .val (.int p6), .val (.int (4 : Int32)), .val (.int c_511), .val (.int c_512), .val (.int c_513), .val (.int c_514), .val (.ref x_644), .val (.int ((0 : Int32) + r_645)), .unset, .unset, .unset] []))
    refine own_Go.st (fun _ k => XS.iload X645.here hx rfl (hb hby at_76) rfl k) ?_
    show own_Go _ _ _ _ (T645.setTop (mkF m 78 #[.val (.int p1), .val (.int p2), .val (.int p3), .val (.int p4), .val (.int p5), .val (.int p6), .val (.int (4 : Int32)), .val (.int c_511), .val (.int c_512), .val (.int c_513), .val (.int c_514), .val (.ref x_644), .val (.int ((0 : Int32) + r_645)), .unset, .unset, .unset] [(.int ((0 : Int32) + r_645))]))
    refine own_Go.st (fun _ k => XS.iload X645.here hx rfl (hb hby at_78) rfl k) ?_
    show own_Go _ _ _ _ (T645.setTop (mkF m 80 #[.val (.int p1), .val (.int p2), .val (.int p3), .val (.int p4), .val (.int p5), .val (.int p6), .val (.int (4 : Int32)), .val (.int c_511), .val (.int c_512), .val (.int c_513), .val (.int c_514), .val (.ref x_644), .val (.int ((0 : Int32) + r_645)), .unset, .unset, .unset] [(.int c_512), (.int ((0 : Int32) + r_645))]))
    refine own_Go.st (fun _ k => XS.iload X645.here hx rfl (hb hby at_80) rfl k) ?_
    show own_Go _ _ _ _ (T645.setTop (mkF m 82 #[.val (.int p1), .val (.int p2), .val (.int p3), .val (.int p4), .val (.int p5), .val (.int p6), .val (.int (4 : Int32)), .val (.int c_511), .val (.int c_512), .val (.int c_513), .val (.int c_514), .val (.ref x_644), .val (.int ((0 : Int32) + r_645)), .unset, .unset, .unset] [(.int c_513), (.int c_512), (.int ((0 : Int32) + r_645))]))
    obtain ⟨_, _, ⟨T647, L647, k647, n647⟩, -, X647, ⟨Lc647, hQ647, l647, y647, z647⟩, st647⟩ := Jvm.LawKit.callS X645 hx (y := (⟨"com/example/vigilant_gate/vigilantgate/PasswordPolicyAdmitsPinLaw", "pair", "(CC)I"⟩ : MethodName)) hown644 (mvT hZ644 (hw _ (List.mem_of_getElem? (i := 59) rfl))) (mvT hZ644 (hw _ (List.mem_of_getElem? (i := 60) rfl))) (mvT hZ644 (hw _ (List.mem_of_getElem? (i := 2) rfl))) (mvT hZ644 (hw _ (List.mem_of_getElem? (i := 61) rfl))) (by decide) (backOf (W := 1) (rm_pair l Z a0 hw [] c_512 c_513 T644.heap f646 ) hZ644 (hw _ (List.mem_of_getElem? (i := 61) rfl)) (hw _ (List.mem_of_getElem? (i := 2) rfl)) (by decide) (by decide)) (g := (mkF m 82 #[.val (.int p1), .val (.int p2), .val (.int p3), .val (.int p4), .val (.int p5), .val (.int p6), .val (.int (4 : Int32)), .val (.int c_511), .val (.int c_512), .val (.int c_513), .val (.int c_514), .val (.ref x_644), .val (.int ((0 : Int32) + r_645)), .unset, .unset, .unset] [(.int c_513), (.int c_512), (.int ((0 : Int32) + r_645))])) rfl (by rw [hml]; rfl) (argsL := [(.int c_512), (.int c_513)]) (rest := [(.int ((0 : Int32) + r_645))]) (lenOf pd_490 rfl) rfl (by show 2 * 0 + _ ≤ _; exact Nat.le_of_eq rfl) (hb hby at_82) (fun _ _ => ⟨rfl, K645, (by decide : 6 + 0 ≤ _), (by decide : 20 + 0 ≤ _)⟩)
    dsimp only [Pt.U, Pt.locs, Pt.cells, Pt.slots] at X647 l647 y647 z647 st647 hQ647
    subst l647 y647 z647
    obtain ⟨r_647, rfl, N647q, K647, pr647_0⟩ := hQ647
    have N647 := Fr.app N645 N647q
    refine own_Go.st st647 ?_
    show own_Go _ _ _ _ (T647.setTop (mkF m 85 #[.val (.int p1), .val (.int p2), .val (.int p3), .val (.int p4), .val (.int p5), .val (.int p6), .val (.int (4 : Int32)), .val (.int c_511), .val (.int c_512), .val (.int c_513), .val (.int c_514), .val (.ref x_644), .val (.int ((0 : Int32) + r_645)), .unset, .unset, .unset] [(.int r_647), (.int ((0 : Int32) + r_645))]))
    refine own_Go.st (fun _ k => XS.iadd X647.here hx rfl (hb hby at_85) rfl k) ?_
    show own_Go _ _ _ _ (T647.setTop (mkF m 86 #[.val (.int p1), .val (.int p2), .val (.int p3), .val (.int p4), .val (.int p5), .val (.int p6), .val (.int (4 : Int32)), .val (.int c_511), .val (.int c_512), .val (.int c_513), .val (.int c_514), .val (.ref x_644), .val (.int ((0 : Int32) + r_645)), .unset, .unset, .unset] [(.int (((0 : Int32) + r_645) + r_647))]))
    refine own_Go.st (fun _ k => XS.istore X647.here hx rfl (hb hby at_86) rfl (l' := #[.val (.int p1), .val (.int p2), .val (.int p3), .val (.int p4), .val (.int p5), .val (.int p6), .val (.int (4 : Int32)), .val (.int c_511), .val (.int c_512), .val (.int c_513), .val (.int c_514), .val (.ref x_644), .val (.int (((0 : Int32) + r_645) + r_647)), .unset, .unset, .unset]) rfl k) ?_
    show own_Go _ _ _ _ (T647.setTop (mkF m 88 #[.val (.int p1), .val (.int p2), .val (.int p3), .val (.int p4), .val (.int p5), .val (.int p6), .val (.int (4 : Int32)), .val (.int c_511), .val (.int c_512), .val (.int c_513), .val (.int c_514), .val (.ref x_644), .val (.int (((0 : Int32) + r_645) + r_647)), .unset, .unset, .unset] []))
    refine own_Go.st (fun _ k => XS.iload X647.here hx rfl (hb hby at_88) rfl k) ?_
    show own_Go _ _ _ _ (T647.setTop (mkF m 90 #[.val (.int p1), .val (.int p2), .val (.int p3), .val (.int p4), .val (.int p5), .val (.int p6), .val (.int (4 : Int32)), .val (.int c_511), .val (.int c_512), .val (.int c_513), .val (.int c_514), .val (.ref x_644), .val (.int (((0 : Int32) + r_645) + r_647)), .unset, .unset, .unset] [(.int (4 : Int32))]))
    refine own_Go.st (fun _ k => XS.iconst X647.here hx rfl (hb hby at_90) k) ?_
    show own_Go _ _ _ _ (T647.setTop (mkF m 91 #[.val (.int p1), .val (.int p2), .val (.int p3), .val (.int p4), .val (.int p5), .val (.int p6), .val (.int (4 : Int32)), .val (.int c_511), .val (.int c_512), .val (.int c_513), .val (.int c_514), .val (.ref x_644), .val (.int (((0 : Int32) + r_645) + r_647)), .unset, .unset, .unset] [(.int (4 : Int32)), (.int (4 : Int32))]))
    refine own_Go.st (fun _ k => XS.icmpNo X647.here hx rfl (hb hby at_91) rfl (flt (by decide : ¬ ((4 : Int32) < (4 : Int32)))).1 k) ?_
    show own_Go _ _ _ _ (T647.setTop (mkF m 94 #[.val (.int p1), .val (.int p2), .val (.int p3), .val (.int p4), .val (.int p5), .val (.int p6), .val (.int (4 : Int32)), .val (.int c_511), .val (.int c_512), .val (.int c_513), .val (.int c_514), .val (.ref x_644), .val (.int (((0 : Int32) + r_645) + r_647)), .unset, .unset, .unset] []))
    refine own_Go.st (fun _ k => XS.iload X647.here hx rfl (hb hby at_94) rfl k) ?_
    show own_Go _ _ _ _ (T647.setTop (mkF m 96 #[.val (.int p1), .val (.int p2), .val (.int p3), .val (.int p4), .val (.int p5), .val (.int p6), .val (.int (4 : Int32)), .val (.int c_511), .val (.int c_512), .val (.int c_513), .val (.int c_514), .val (.ref x_644), .val (.int (((0 : Int32) + r_645) + r_647)), .unset, .unset, .unset] [(.int (((0 : Int32) + r_645) + r_647))]))
    refine own_Go.st (fun _ k => XS.iload X647.here hx rfl (hb hby at_96) rfl k) ?_
    show own_Go _ _ _ _ (T647.setTop (mkF m 98 #[.val (.int p1), .val (.int p2), .val (.int p3), .val (.int p4), .val (.int p5), .val (.int p6), .val (.int (4 : Int32)), .val (.int c_511), .val (.int c_512), .val (.int c_513), .val (.int c_514), .val (.ref x_644), .val (.int (((0 : Int32) + r_645) + r_647)), .unset, .unset, .unset] [(.int c_513), (.int (((0 : Int32) + r_645) + r_647))]))
    refine own_Go.st (fun _ k => XS.iload X647.here hx rfl (hb hby at_98) rfl k) ?_
    show own_Go _ _ _ _ (T647.setTop (mkF m 100 #[.val (.int p1), .val (.int p2), .val (.int p3), .val (.int p4), .val (.int p5), .val (.int p6), .val (.int (4 : Int32)), .val (.int c_511), .val (.int c_512), .val (.int c_513), .val (.int c_514), .val (.ref x_644), .val (.int (((0 : Int32) + r_645) + r_647)), .unset, .unset, .unset] [(.int c_514), (.int c_513), (.int (((0 : Int32) + r_645) + r_647))]))
    obtain ⟨_, _, ⟨T648, L648, k648, n648⟩, -, X648, ⟨Lc648, hQ648, l648, y648, z648⟩, st648⟩ := Jvm.LawKit.callS X647 hx (y := (⟨"com/example/vigilant_gate/vigilantgate/PasswordPolicyAdmitsPinLaw", "pair", "(CC)I"⟩ : MethodName)) hown644 (mvT hZ644 (hw _ (List.mem_of_getElem? (i := 59) rfl))) (mvT hZ644 (hw _ (List.mem_of_getElem? (i := 60) rfl))) (mvT hZ644 (hw _ (List.mem_of_getElem? (i := 2) rfl))) (mvT hZ644 (hw _ (List.mem_of_getElem? (i := 61) rfl))) (by decide) (backOf (W := 1) (rm_pair l Z a0 hw [] c_513 c_514 T644.heap f646 ) hZ644 (hw _ (List.mem_of_getElem? (i := 61) rfl)) (hw _ (List.mem_of_getElem? (i := 2) rfl)) (by decide) (by decide)) (g := (mkF m 100 #[.val (.int p1), .val (.int p2), .val (.int p3), .val (.int p4), .val (.int p5), .val (.int p6), .val (.int (4 : Int32)), .val (.int c_511), .val (.int c_512), .val (.int c_513), .val (.int c_514), .val (.ref x_644), .val (.int (((0 : Int32) + r_645) + r_647)), .unset, .unset, .unset] [(.int c_514), (.int c_513), (.int (((0 : Int32) + r_645) + r_647))])) rfl (by rw [hml]; rfl) (argsL := [(.int c_513), (.int c_514)]) (rest := [(.int (((0 : Int32) + r_645) + r_647))]) (lenOf pd_490 rfl) rfl (by show 2 * 0 + _ ≤ _; exact Nat.le_of_eq rfl) (hb hby at_100) (fun _ _ => ⟨rfl, K647, (by decide : 6 + 0 ≤ _), (by decide : 20 + 0 ≤ _)⟩)
    dsimp only [Pt.U, Pt.locs, Pt.cells, Pt.slots] at X648 l648 y648 z648 st648 hQ648
    subst l648 y648 z648
    obtain ⟨r_648, rfl, N648q, K648, pr648_0⟩ := hQ648
    have N648 := Fr.app N647 N648q
    refine own_Go.st st648 ?_
    show own_Go _ _ _ _ (T648.setTop (mkF m 103 #[.val (.int p1), .val (.int p2), .val (.int p3), .val (.int p4), .val (.int p5), .val (.int p6), .val (.int (4 : Int32)), .val (.int c_511), .val (.int c_512), .val (.int c_513), .val (.int c_514), .val (.ref x_644), .val (.int (((0 : Int32) + r_645) + r_647)), .unset, .unset, .unset] [(.int r_648), (.int (((0 : Int32) + r_645) + r_647))]))
    refine own_Go.st (fun _ k => XS.iadd X648.here hx rfl (hb hby at_103) rfl k) ?_
    show own_Go _ _ _ _ (T648.setTop (mkF m 104 #[.val (.int p1), .val (.int p2), .val (.int p3), .val (.int p4), .val (.int p5), .val (.int p6), .val (.int (4 : Int32)), .val (.int c_511), .val (.int c_512), .val (.int c_513), .val (.int c_514), .val (.ref x_644), .val (.int (((0 : Int32) + r_645) + r_647)), .unset, .unset, .unset] [(.int ((((0 : Int32) + r_645) + r_647) + r_648))]))
    refine own_Go.st (fun _ k => XS.istore X648.here hx rfl (hb hby at_104) rfl (l' := #[.val (.int p1), .val (.int p2), .val (.int p3), .val (.int p4), .val (.int p5), .val (.int p6), .val (.int (4 : Int32)), .val (.int c_511), .val (.int c_512), .val (.int c_513), .val (.int c_514), .val (.ref x_644), .val (.int ((((0 : Int32) + r_645) + r_647) + r_648)), .unset, .unset, .unset]) rfl k) ?_
    show own_Go _ _ _ _ (T648.setTop (mkF m 106 #[.val (.int p1), .val (.int p2), .val (.int p3), .val (.int p4), .val (.int p5), .val (.int p6), .val (.int (4 : Int32)), .val (.int c_511), .val (.int c_512), .val (.int c_513), .val (.int c_514), .val (.ref x_644), .val (.int ((((0 : Int32) + r_645) + r_647) + r_648)), .unset, .unset, .unset] []))
    refine own_Go.st (fun _ k => XS.iload X648.here hx rfl (hb hby at_106) rfl k) ?_
    show own_Go _ _ _ _ (T648.setTop (mkF m 108 #[.val (.int p1), .val (.int p2), .val (.int p3), .val (.int p4), .val (.int p5), .val (.int p6), .val (.int (4 : Int32)), .val (.int c_511), .val (.int c_512), .val (.int c_513), .val (.int c_514), .val (.ref x_644), .val (.int ((((0 : Int32) + r_645) + r_647) + r_648)), .unset, .unset, .unset] [(.int (4 : Int32))]))
    refine own_Go.st (fun _ k => XS.iload X648.here hx rfl (hb hby at_108) rfl k) ?_
    show own_Go _ _ _ _ (T648.setTop (mkF m 110 #[.val (.int p1), .val (.int p2), .val (.int p3), .val (.int p4), .val (.int p5), .val (.int p6), .val (.int (4 : Int32)), .val (.int c_511), .val (.int c_512), .val (.int c_513), .val (.int c_514), .val (.ref x_644), .val (.int ((((0 : Int32) + r_645) + r_647) + r_648)), .unset, .unset, .unset] [(.int ((((0 : Int32) + r_645) + r_647) + r_648)), (.int (4 : Int32))]))
    refine own_Go.st (fun _ k => XS.isub X648.here hx rfl (hb hby at_110) rfl k) ?_
    show own_Go _ _ _ _ (T648.setTop (mkF m 111 #[.val (.int p1), .val (.int p2), .val (.int p3), .val (.int p4), .val (.int p5), .val (.int p6), .val (.int (4 : Int32)), .val (.int c_511), .val (.int c_512), .val (.int c_513), .val (.int c_514), .val (.ref x_644), .val (.int ((((0 : Int32) + r_645) + r_647) + r_648)), .unset, .unset, .unset] [(.int ((4 : Int32) - ((((0 : Int32) + r_645) + r_647) + r_648)))]))
    refine own_Go.st (fun _ k => XS.istore X648.here hx rfl (hb hby at_111) rfl (l' := #[.val (.int p1), .val (.int p2), .val (.int p3), .val (.int p4), .val (.int p5), .val (.int p6), .val (.int (4 : Int32)), .val (.int c_511), .val (.int c_512), .val (.int c_513), .val (.int c_514), .val (.ref x_644), .val (.int ((((0 : Int32) + r_645) + r_647) + r_648)), .val (.int ((4 : Int32) - ((((0 : Int32) + r_645) + r_647) + r_648))), .unset, .unset]) rfl k) ?_
    show own_Go _ _ _ _ (T648.setTop (mkF m 113 #[.val (.int p1), .val (.int p2), .val (.int p3), .val (.int p4), .val (.int p5), .val (.int p6), .val (.int (4 : Int32)), .val (.int c_511), .val (.int c_512), .val (.int c_513), .val (.int c_514), .val (.ref x_644), .val (.int ((((0 : Int32) + r_645) + r_647) + r_648)), .val (.int ((4 : Int32) - ((((0 : Int32) + r_645) + r_647) + r_648))), .unset, .unset] []))
    refine own_Go.st (fun _ k => XS.iload X648.here hx rfl (hb hby at_113) rfl k) ?_
    show own_Go _ _ _ _ (T648.setTop (mkF m 115 #[.val (.int p1), .val (.int p2), .val (.int p3), .val (.int p4), .val (.int p5), .val (.int p6), .val (.int (4 : Int32)), .val (.int c_511), .val (.int c_512), .val (.int c_513), .val (.int c_514), .val (.ref x_644), .val (.int ((((0 : Int32) + r_645) + r_647) + r_648)), .val (.int ((4 : Int32) - ((((0 : Int32) + r_645) + r_647) + r_648))), .unset, .unset] [(.int ((4 : Int32) - ((((0 : Int32) + r_645) + r_647) + r_648)))]))
    refine own_Go.st (fun _ k => XS.iloadN X648.here hx rfl (hb hby at_115) rfl k) ?_
    show own_Go _ _ _ _ (T648.setTop (mkF m 116 #[.val (.int p1), .val (.int p2), .val (.int p3), .val (.int p4), .val (.int p5), .val (.int p6), .val (.int (4 : Int32)), .val (.int c_511), .val (.int c_512), .val (.int c_513), .val (.int c_514), .val (.ref x_644), .val (.int ((((0 : Int32) + r_645) + r_647) + r_648)), .val (.int ((4 : Int32) - ((((0 : Int32) + r_645) + r_647) + r_648))), .unset, .unset] [(.int p1), (.int ((4 : Int32) - ((((0 : Int32) + r_645) + r_647) + r_648)))]))
    by_cases hc649 : ((4 : Int32) - ((((0 : Int32) + r_645) + r_647) + r_648)) < p1
    ·
      refine own_Go.st (fun _ k => XS.icmpYes X648.here hx rfl (pc0 := 116) (pc' := 123) rfl (hb hby at_116) rfl (tlt hc649).1 (by decide) (by decide) k) ?_
      show own_Go _ _ _ _ (T648.setTop (mkF m 123 #[.val (.int p1), .val (.int p2), .val (.int p3), .val (.int p4), .val (.int p5), .val (.int p6), .val (.int (4 : Int32)), .val (.int c_511), .val (.int c_512), .val (.int c_513), .val (.int c_514), .val (.ref x_644), .val (.int ((((0 : Int32) + r_645) + r_647) + r_648)), .val (.int ((4 : Int32) - ((((0 : Int32) + r_645) + r_647) + r_648))), .unset, .unset] []))
      refine own_Go.st (fun _ k => XS.iconst X648.here hx rfl (hb hby at_123) k) ?_
      show own_Go _ _ _ _ (T648.setTop (mkF m 124 #[.val (.int p1), .val (.int p2), .val (.int p3), .val (.int p4), .val (.int p5), .val (.int p6), .val (.int (4 : Int32)), .val (.int c_511), .val (.int c_512), .val (.int c_513), .val (.int c_514), .val (.ref x_644), .val (.int ((((0 : Int32) + r_645) + r_647) + r_648)), .val (.int ((4 : Int32) - ((((0 : Int32) + r_645) + r_647) + r_648))), .unset, .unset] [(.int (0 : Int32))]))
      refine own_Go.st (fun _ k => XS.istore X648.here hx rfl (hb hby at_124) rfl (l' := #[.val (.int p1), .val (.int p2), .val (.int p3), .val (.int p4), .val (.int p5), .val (.int p6), .val (.int (4 : Int32)), .val (.int c_511), .val (.int c_512), .val (.int c_513), .val (.int c_514), .val (.ref x_644), .val (.int ((((0 : Int32) + r_645) + r_647) + r_648)), .val (.int ((4 : Int32) - ((((0 : Int32) + r_645) + r_647) + r_648))), .val (.int (0 : Int32)), .unset]) rfl k) ?_
      show own_Go _ _ _ _ (T648.setTop (mkF m 126 #[.val (.int p1), .val (.int p2), .val (.int p3), .val (.int p4), .val (.int p5), .val (.int p6), .val (.int (4 : Int32)), .val (.int c_511), .val (.int c_512), .val (.int c_513), .val (.int c_514), .val (.ref x_644), .val (.int ((((0 : Int32) + r_645) + r_647) + r_648)), .val (.int ((4 : Int32) - ((((0 : Int32) + r_645) + r_647) + r_648))), .val (.int (0 : Int32)), .unset] []))
      obtain ⟨T650, h650, X650, e650, E650, A650, D650, U650, st650⟩ := newO X648 hx hZ644 hown644 (hw _ (List.mem_of_getElem? (i := 69) rfl)) (hw _ (List.mem_of_getElem? (i := 70) rfl)) (hw _ (List.mem_of_getElem? (i := 71) rfl)) K648 (g := (mkF m 126 #[.val (.int p1), .val (.int p2), .val (.int p3), .val (.int p4), .val (.int p5), .val (.int p6), .val (.int (4 : Int32)), .val (.int c_511), .val (.int c_512), .val (.int c_513), .val (.int c_514), .val (.ref x_644), .val (.int ((((0 : Int32) + r_645) + r_647) + r_648)), .val (.int ((4 : Int32) - ((((0 : Int32) + r_645) + r_647) + r_648))), .val (.int (0 : Int32)), .unset] [])) rfl (hb hby at_126) (by decide) (by decide)
      obtain ⟨b650, g650⟩ : ∃ z, z = T644.heap.size := ⟨_, rfl⟩
      rw [← g650] at A650 D650 U650 st650
      refine own_Go.st st650 ?_
      have z650 : T644.heap.size ≤ h650.size := E650.1
      have lt_b650 : @LT.lt Nat _ b650 h650.size := A650.lt
      have f651 : Fld Z h650 b650 "com/example/vigilant_gate/vigilantgate/PasswordPolicy" "minimumPasswordLength" "I" (.int (0 : Int32)) := D650 (Or.inr (hw _ (List.mem_of_getElem? (i := 82) rfl))) (ty := .int) (by decide)
      have R650 : CHr Z consts_1 s.vm h0 T644.vm h650 := R644.trans (CHr.ext E650 R644.1)
      show own_Go _ _ _ _ (T650.setTop (mkF m 129 #[.val (.int p1), .val (.int p2), .val (.int p3), .val (.int p4), .val (.int p5), .val (.int p6), .val (.int (4 : Int32)), .val (.int c_511), .val (.int c_512), .val (.int c_513), .val (.int c_514), .val (.ref x_644), .val (.int ((((0 : Int32) + r_645) + r_647) + r_648)), .val (.int ((4 : Int32) - ((((0 : Int32) + r_645) + r_647) + r_648))), .val (.int (0 : Int32)), .unset] [(.ref b650)]))
      refine own_Go.st (fun _ k => XS.dup X650.here hx rfl (hb hby at_129) rfl rfl k) ?_
      show own_Go _ _ _ _ (T650.setTop (mkF m 130 #[.val (.int p1), .val (.int p2), .val (.int p3), .val (.int p4), .val (.int p5), .val (.int p6), .val (.int (4 : Int32)), .val (.int c_511), .val (.int c_512), .val (.int c_513), .val (.int c_514), .val (.ref x_644), .val (.int ((((0 : Int32) + r_645) + r_647) + r_648)), .val (.int ((4 : Int32) - ((((0 : Int32) + r_645) + r_647) + r_648))), .val (.int (0 : Int32)), .unset] [(.ref b650), (.ref b650)]))
      refine own_Go.st (fun _ k => XS.iloadN X650.here hx rfl (hb hby at_130) rfl k) ?_
      show own_Go _ _ _ _ (T650.setTop (mkF m 131 #[.val (.int p1), .val (.int p2), .val (.int p3), .val (.int p4), .val (.int p5), .val (.int p6), .val (.int (4 : Int32)), .val (.int c_511), .val (.int c_512), .val (.int c_513), .val (.int c_514), .val (.ref x_644), .val (.int ((((0 : Int32) + r_645) + r_647) + r_648)), .val (.int ((4 : Int32) - ((((0 : Int32) + r_645) + r_647) + r_648))), .val (.int (0 : Int32)), .unset] [(.int p1), (.ref b650), (.ref b650)]))
      have f653 : Old Z Z.heap.size h650 := f646.ext E650
      obtain ⟨_, _, ⟨T652, L652, k652, n652⟩, -, X652, ⟨Lc652, hQ652, l652, y652, z652⟩, st652⟩ := X650.specialBack hx (y := (⟨"com/example/vigilant_gate/vigilantgate/PasswordPolicy", "<init>", "(I)V"⟩ : MethodName)) rfl hown644 (mvT hZ644 (hw _ (List.mem_of_getElem? (i := 72) rfl))) (mvT hZ644 (hw _ (List.mem_of_getElem? (i := 73) rfl))) (mvT hZ644 (hw _ (List.mem_of_getElem? (i := 74) rfl))) (by decide) (backOf (W := 1) (rm_ppinit l Z a0 hw [] b650 p1 h650 f653 A650 f651 (by omega)) hZ644 (hw _ (List.mem_of_getElem? (i := 74) rfl)) (hw _ (List.mem_of_getElem? (i := 71) rfl)) (by decide) (by decide)) (g := (mkF m 131 #[.val (.int p1), .val (.int p2), .val (.int p3), .val (.int p4), .val (.int p5), .val (.int p6), .val (.int (4 : Int32)), .val (.int c_511), .val (.int c_512), .val (.int c_513), .val (.int c_514), .val (.ref x_644), .val (.int ((((0 : Int32) + r_645) + r_647) + r_648)), .val (.int ((4 : Int32) - ((((0 : Int32) + r_645) + r_647) + r_648))), .val (.int (0 : Int32)), .unset] [(.int p1), (.ref b650), (.ref b650)])) rfl (by rw [hml]; rfl) (Steps.refl _) (a := b650) (argsL := [(.int p1)]) (rest := [(.ref b650)]) (lenOf pd_488 rfl) rfl (by show 2 * 0 + _ ≤ _; exact Nat.le_of_eq rfl) (hb hby at_131) (fun _ _ => ⟨rfl, e650, (by decide : 7 + 0 ≤ _), (by decide : 21 + 0 ≤ _)⟩)
      dsimp only [Pt.U, Pt.locs, Pt.cells, Pt.slots] at X652 l652 y652 z652 st652 hQ652
      subst l652 y652 z652
      obtain ⟨rfl, N652q, K652, f652_0, f652_1⟩ := hQ652
      have N652 := Fr.app N648 N652q
      have Sf654 : Safe Z consts_1 T644.vm h650 b650 := Safe.exa hZ644.alike A650 (by decide) (by decide)
      have z652 : h650.size ≤ T652.heap.size := K652.1
      have R652 : CHr Z consts_1 s.vm h0 T644.vm T652.heap := R650.trans (CHr.keep K652 (sfS Sf654 sf0) R650.1)
      have lt652_0 : @LT.lt Nat _ b650 T652.heap.size := f652_0.lt
      have lt652_1 : @LT.lt Nat _ b650 T652.heap.size := f652_1.lt
      refine own_Go.tr st652 ?_
      show own_Go _ _ _ _ (T652.setTop (mkF m 134 #[.val (.int p1), .val (.int p2), .val (.int p3), .val (.int p4), .val (.int p5), .val (.int p6), .val (.int (4 : Int32)), .val (.int c_511), .val (.int c_512), .val (.int c_513), .val (.int c_514), .val (.ref x_644), .val (.int ((((0 : Int32) + r_645) + r_647) + r_648)), .val (.int ((4 : Int32) - ((((0 : Int32) + r_645) + r_647) + r_648))), .val (.int (0 : Int32)), .unset] [(.ref b650)]))
      refine own_Go.st (fun _ k => XS.astore X652.here hx rfl (hb hby at_134) rfl rfl (l' := #[.val (.int p1), .val (.int p2), .val (.int p3), .val (.int p4), .val (.int p5), .val (.int p6), .val (.int (4 : Int32)), .val (.int c_511), .val (.int c_512), .val (.int c_513), .val (.int c_514), .val (.ref x_644), .val (.int ((((0 : Int32) + r_645) + r_647) + r_648)), .val (.int ((4 : Int32) - ((((0 : Int32) + r_645) + r_647) + r_648))), .val (.int (0 : Int32)), .val (.ref b650)]) rfl k) ?_
      show own_Go _ _ _ _ (T652.setTop (mkF m 136 #[.val (.int p1), .val (.int p2), .val (.int p3), .val (.int p4), .val (.int p5), .val (.int p6), .val (.int (4 : Int32)), .val (.int c_511), .val (.int c_512), .val (.int c_513), .val (.int c_514), .val (.ref x_644), .val (.int ((((0 : Int32) + r_645) + r_647) + r_648)), .val (.int ((4 : Int32) - ((((0 : Int32) + r_645) + r_647) + r_648))), .val (.int (0 : Int32)), .val (.ref b650)] []))
      refine own_Go.st (fun _ k => XS.aload X652.here hx rfl (hb hby at_136) rfl rfl k) ?_
      show own_Go _ _ _ _ (T652.setTop (mkF m 138 #[.val (.int p1), .val (.int p2), .val (.int p3), .val (.int p4), .val (.int p5), .val (.int p6), .val (.int (4 : Int32)), .val (.int c_511), .val (.int c_512), .val (.int c_513), .val (.int c_514), .val (.ref x_644), .val (.int ((((0 : Int32) + r_645) + r_647) + r_648)), .val (.int ((4 : Int32) - ((((0 : Int32) + r_645) + r_647) + r_648))), .val (.int (0 : Int32)), .val (.ref b650)] [(.ref b650)]))
      refine own_Go.st (fun _ k => XS.aload X652.here hx rfl (hb hby at_138) rfl rfl k) ?_
      show own_Go _ _ _ _ (T652.setTop (mkF m 140 #[.val (.int p1), .val (.int p2), .val (.int p3), .val (.int p4), .val (.int p5), .val (.int p6), .val (.int (4 : Int32)), .val (.int c_511), .val (.int c_512), .val (.int c_513), .val (.int c_514), .val (.ref x_644), .val (.int ((((0 : Int32) + r_645) + r_647) + r_648)), .val (.int ((4 : Int32) - ((((0 : Int32) + r_645) + r_647) + r_648))), .val (.int (0 : Int32)), .val (.ref b650)] [(.ref x_644), (.ref b650)]))
      have f656 : own_Str Z h650 x_644 t_644 cs_644 := f644_0.ext E650
      have f657 : own_Str Z T652.heap x_644 t_644 cs_644 := f656.keep K652 (ninS (by show @Ne Nat x_644 b650; omega) nin0) (ninS (by show @Ne Nat t_644 b650; omega) nin0)
      have f658 : Old Z Z.heap.size T652.heap := f653.keep K652 (allS (by omega) all0)
      obtain ⟨cq655, kq655, q655a, q655b, q655c⟩ := isOf hZ644 rfl f652_0
      obtain ⟨_, _, ⟨T655, L655, k655, n655⟩, -, X655, ⟨Lc655, hQ655, l655, y655, z655⟩, st655⟩ := X652.virtualBack hx (y := (⟨"com/example/vigilant_gate/vigilantgate/PasswordPolicy", "admits", "(Ljava/lang/String;)Z"⟩ : MethodName)) (z := (⟨"com/example/vigilant_gate/vigilantgate/PasswordPolicy", "admits", "(Ljava/lang/String;)Z"⟩ : MethodName)) hown644 (mvT hZ644 (hw _ (List.mem_of_getElem? (i := 83) rfl))) (mvT hZ644 (hw _ (List.mem_of_getElem? (i := 84) rfl))) (notFace_of_selects (args := #[]) (mvT hZ644 (hw _ (List.mem_of_getElem? (i := 86) rfl)))) (mvT hZ644 (hw _ (List.mem_of_getElem? (i := 86) rfl))) (mvT hZ644 (hw _ (List.mem_of_getElem? (i := 85) rfl))) (by decide) (backOf (W := 0) (rm_admits l Z a0 hw [] b650 x_644 p1 t_644 cs_644 zc T652.heap f658 f652_1 f657 st_COMPACT_STRINGS st__assertionsDisabled st_HI_BYTE_SHIFT st_LO_BYTE_SHIFT (by first | assumption | decide)) hZ644 (hw _ (List.mem_of_getElem? (i := 87) rfl)) (hw _ (List.mem_of_getElem? (i := 71) rfl)) (by decide) (by decide)) q655a q655c (g := (mkF m 140 #[.val (.int p1), .val (.int p2), .val (.int p3), .val (.int p4), .val (.int p5), .val (.int p6), .val (.int (4 : Int32)), .val (.int c_511), .val (.int c_512), .val (.int c_513), .val (.int c_514), .val (.ref x_644), .val (.int ((((0 : Int32) + r_645) + r_647) + r_648)), .val (.int ((4 : Int32) - ((((0 : Int32) + r_645) + r_647) + r_648))), .val (.int (0 : Int32)), .val (.ref b650)] [(.ref x_644), (.ref b650)])) rfl (by rw [hml]; rfl) (Steps.refl _) (argsL := [(.ref x_644)]) (rest := []) (lenOf pd_489 rfl) rfl (by show 2 * 0 + _ ≤ _; exact Nat.le_of_eq rfl) (hb hby at_140) (fun _ _ => ⟨rfl, rfl, (by decide : 7 + 0 ≤ _), (by decide : 21 + 0 ≤ _)⟩)
      dsimp only [Pt.U, Pt.locs, Pt.cells, Pt.slots] at X655 l655 y655 z655 st655 hQ655
      subst l655 y655 z655
      obtain ⟨r_655, rfl, N655q, K655, pr655_0⟩ := hQ655
      have N655 := Fr.app N652 N655q
      rw [hcs] at pr655_0
      refine own_Go.tr st655 ?_
      show own_Go _ _ _ _ (T655.setTop (mkF m 143 #[.val (.int p1), .val (.int p2), .val (.int p3), .val (.int p4), .val (.int p5), .val (.int p6), .val (.int (4 : Int32)), .val (.int c_511), .val (.int c_512), .val (.int c_513), .val (.int c_514), .val (.ref x_644), .val (.int ((((0 : Int32) + r_645) + r_647) + r_648)), .val (.int ((4 : Int32) - ((((0 : Int32) + r_645) + r_647) + r_648))), .val (.int (0 : Int32)), .val (.ref b650)] [(.int r_655)]))
      refine own_Go.st (fun _ k => XS.iload X655.here hx rfl (hb hby at_143) rfl k) ?_
      show own_Go _ _ _ _ (T655.setTop (mkF m 145 #[.val (.int p1), .val (.int p2), .val (.int p3), .val (.int p4), .val (.int p5), .val (.int p6), .val (.int (4 : Int32)), .val (.int c_511), .val (.int c_512), .val (.int c_513), .val (.int c_514), .val (.ref x_644), .val (.int ((((0 : Int32) + r_645) + r_647) + r_648)), .val (.int ((4 : Int32) - ((((0 : Int32) + r_645) + r_647) + r_648))), .val (.int (0 : Int32)), .val (.ref b650)] [(.int (0 : Int32)), (.int r_655)]))
      have hcnt : ((4 : Int32) - ((((0 : Int32) + r_645) + r_647) + r_648)) = Int32.ofNat (([c_511, c_512, c_513, c_514] : List Int32).length - own_pairs [c_511, c_512, c_513, c_514]) := own_cnt4 pr645_0 pr647_0 pr648_0
      rw [hcnt] at hc649
      have hc659 : r_655 = (0 : Int32) := (by rcases pr655_0 with ⟨q1, q2⟩ | ⟨q1, q2⟩ <;> first | exact q1 | exact absurd q2 hc649 | exact absurd hc649 q2)
      refine own_Go.st (fun _ k => XS.icmpNo X655.here hx rfl (hb hby at_145) rfl (teq hc659).2 k) ?_
      show own_Go _ _ _ _ (T655.setTop (mkF m 148 #[.val (.int p1), .val (.int p2), .val (.int p3), .val (.int p4), .val (.int p5), .val (.int p6), .val (.int (4 : Int32)), .val (.int c_511), .val (.int c_512), .val (.int c_513), .val (.int c_514), .val (.ref x_644), .val (.int ((((0 : Int32) + r_645) + r_647) + r_648)), .val (.int ((4 : Int32) - ((((0 : Int32) + r_645) + r_647) + r_648))), .val (.int (0 : Int32)), .val (.ref b650)] []))
      refine own_Go.st (fun _ k => XS.iconst X655.here hx rfl (hb hby at_148) k) ?_
      show own_Go _ _ _ _ (T655.setTop (mkF m 149 #[.val (.int p1), .val (.int p2), .val (.int p3), .val (.int p4), .val (.int p5), .val (.int p6), .val (.int (4 : Int32)), .val (.int c_511), .val (.int c_512), .val (.int c_513), .val (.int c_514), .val (.ref x_644), .val (.int ((((0 : Int32) + r_645) + r_647) + r_648)), .val (.int ((4 : Int32) - ((((0 : Int32) + r_645) + r_647) + r_648))), .val (.int (0 : Int32)), .val (.ref b650)] [(.int (1 : Int32))]))
      refine own_Go.st (fun _ k => XS.goto X655.here hx rfl (pc0 := 149) (pc' := 153) rfl (hb hby at_149) (by decide) (by decide) k) ?_
      show own_Go _ _ _ _ (T655.setTop (mkF m 153 #[.val (.int p1), .val (.int p2), .val (.int p3), .val (.int p4), .val (.int p5), .val (.int p6), .val (.int (4 : Int32)), .val (.int c_511), .val (.int c_512), .val (.int c_513), .val (.int c_514), .val (.ref x_644), .val (.int ((((0 : Int32) + r_645) + r_647) + r_648)), .val (.int ((4 : Int32) - ((((0 : Int32) + r_645) + r_647) + r_648))), .val (.int (0 : Int32)), .val (.ref b650)] [(.int (1 : Int32))]))
      obtain ⟨fs660, hr660, hrun660, hend660, hret660⟩ := X655.leaveW hS644 (by rw [K655]; exact (by omega)) (v := some (.int (nar .boolean (1 : Int32)))) (fun h => by rw [Bd.returns] at h; cases h)
      have K661 : Keep h0 T644.heap [] := (Keep.refl h0 []).trans K644 all0
      have K662 : Keep h0 h650 [] := K661.ext E650
      have K663 : Keep h0 T652.heap [] := K662.trans K652 (allS (Or.inr (by omega)) all0)
      subst hPP
      refine ⟨_, _, retN X655 hx (t := .boolean) Bd.returns (by simp) (hb hby at_153) hr660, hrun660, hend660, _, _, rfl, ?_, ?_, hret660.1, hret660.2.1, hret660.2.2.1, hret660.2.2.2.mono (by decide) (by decide)⟩
      · show Q_law Z _ _ _ _ _ _ _ h0 _ T655.heap _
        rw [K655]
        exact ⟨rfl, N655, K663⟩
      · have hfin := R652.trans (CHv.at X655 hZ644 hEL R652.1)
        rw [← hh] at hfin
        show CHr Z consts_1 s.vm s.heap T655.vm T655.heap
        rw [K655]
        exact hfin
    ·
      refine own_Go.st (fun _ k => XS.icmpNo X648.here hx rfl (hb hby at_116) rfl (flt hc649).1 k) ?_
      show own_Go _ _ _ _ (T648.setTop (mkF m 119 #[.val (.int p1), .val (.int p2), .val (.int p3), .val (.int p4), .val (.int p5), .val (.int p6), .val (.int (4 : Int32)), .val (.int c_511), .val (.int c_512), .val (.int c_513), .val (.int c_514), .val (.ref x_644), .val (.int ((((0 : Int32) + r_645) + r_647) + r_648)), .val (.int ((4 : Int32) - ((((0 : Int32) + r_645) + r_647) + r_648))), .unset, .unset] []))
      refine own_Go.st (fun _ k => XS.iconst X648.here hx rfl (hb hby at_119) k) ?_
      show own_Go _ _ _ _ (T648.setTop (mkF m 120 #[.val (.int p1), .val (.int p2), .val (.int p3), .val (.int p4), .val (.int p5), .val (.int p6), .val (.int (4 : Int32)), .val (.int c_511), .val (.int c_512), .val (.int c_513), .val (.int c_514), .val (.ref x_644), .val (.int ((((0 : Int32) + r_645) + r_647) + r_648)), .val (.int ((4 : Int32) - ((((0 : Int32) + r_645) + r_647) + r_648))), .unset, .unset] [(.int (1 : Int32))]))
      refine own_Go.st (fun _ k => XS.goto X648.here hx rfl (pc0 := 120) (pc' := 124) rfl (hb hby at_120) (by decide) (by decide) k) ?_
      show own_Go _ _ _ _ (T648.setTop (mkF m 124 #[.val (.int p1), .val (.int p2), .val (.int p3), .val (.int p4), .val (.int p5), .val (.int p6), .val (.int (4 : Int32)), .val (.int c_511), .val (.int c_512), .val (.int c_513), .val (.int c_514), .val (.ref x_644), .val (.int ((((0 : Int32) + r_645) + r_647) + r_648)), .val (.int ((4 : Int32) - ((((0 : Int32) + r_645) + r_647) + r_648))), .unset, .unset] [(.int (1 : Int32))]))
      refine own_Go.st (fun _ k => XS.istore X648.here hx rfl (hb hby at_124) rfl (l' := #[.val (.int p1), .val (.int p2), .val (.int p3), .val (.int p4), .val (.int p5), .val (.int p6), .val (.int (4 : Int32)), .val (.int c_511), .val (.int c_512), .val (.int c_513), .val (.int c_514), .val (.ref x_644), .val (.int ((((0 : Int32) + r_645) + r_647) + r_648)), .val (.int ((4 : Int32) - ((((0 : Int32) + r_645) + r_647) + r_648))), .val (.int (1 : Int32)), .unset]) rfl k) ?_
      show own_Go _ _ _ _ (T648.setTop (mkF m 126 #[.val (.int p1), .val (.int p2), .val (.int p3), .val (.int p4), .val (.int p5), .val (.int p6), .val (.int (4 : Int32)), .val (.int c_511), .val (.int c_512), .val (.int c_513), .val (.int c_514), .val (.ref x_644), .val (.int ((((0 : Int32) + r_645) + r_647) + r_648)), .val (.int ((4 : Int32) - ((((0 : Int32) + r_645) + r_647) + r_648))), .val (.int (1 : Int32)), .unset] []))
      obtain ⟨T664, h664, X664, e664, E664, A664, D664, U664, st664⟩ := newO X648 hx hZ644 hown644 (hw _ (List.mem_of_getElem? (i := 69) rfl)) (hw _ (List.mem_of_getElem? (i := 70) rfl)) (hw _ (List.mem_of_getElem? (i := 71) rfl)) K648 (g := (mkF m 126 #[.val (.int p1), .val (.int p2), .val (.int p3), .val (.int p4), .val (.int p5), .val (.int p6), .val (.int (4 : Int32)), .val (.int c_511), .val (.int c_512), .val (.int c_513), .val (.int c_514), .val (.ref x_644), .val (.int ((((0 : Int32) + r_645) + r_647) + r_648)), .val (.int ((4 : Int32) - ((((0 : Int32) + r_645) + r_647) + r_648))), .val (.int (1 : Int32)), .unset] [])) rfl (hb hby at_126) (by decide) (by decide)
      obtain ⟨b664, g664⟩ : ∃ z, z = T644.heap.size := ⟨_, rfl⟩
      rw [← g664] at A664 D664 U664 st664
      refine own_Go.st st664 ?_
      have z664 : T644.heap.size ≤ h664.size := E664.1
      have lt_b664 : @LT.lt Nat _ b664 h664.size := A664.lt
      have f665 : Fld Z h664 b664 "com/example/vigilant_gate/vigilantgate/PasswordPolicy" "minimumPasswordLength" "I" (.int (0 : Int32)) := D664 (Or.inr (hw _ (List.mem_of_getElem? (i := 82) rfl))) (ty := .int) (by decide)
      have R664 : CHr Z consts_1 s.vm h0 T644.vm h664 := R644.trans (CHr.ext E664 R644.1)
      show own_Go _ _ _ _ (T664.setTop (mkF m 129 #[.val (.int p1), .val (.int p2), .val (.int p3), .val (.int p4), .val (.int p5), .val (.int p6), .val (.int (4 : Int32)), .val (.int c_511), .val (.int c_512), .val (.int c_513), .val (.int c_514), .val (.ref x_644), .val (.int ((((0 : Int32) + r_645) + r_647) + r_648)), .val (.int ((4 : Int32) - ((((0 : Int32) + r_645) + r_647) + r_648))), .val (.int (1 : Int32)), .unset] [(.ref b664)]))
      refine own_Go.st (fun _ k => XS.dup X664.here hx rfl (hb hby at_129) rfl rfl k) ?_
      show own_Go _ _ _ _ (T664.setTop (mkF m 130 #[.val (.int p1), .val (.int p2), .val (.int p3), .val (.int p4), .val (.int p5), .val (.int p6), .val (.int (4 : Int32)), .val (.int c_511), .val (.int c_512), .val (.int c_513), .val (.int c_514), .val (.ref x_644), .val (.int ((((0 : Int32) + r_645) + r_647) + r_648)), .val (.int ((4 : Int32) - ((((0 : Int32) + r_645) + r_647) + r_648))), .val (.int (1 : Int32)), .unset] [(.ref b664), (.ref b664)]))
      refine own_Go.st (fun _ k => XS.iloadN X664.here hx rfl (hb hby at_130) rfl k) ?_
      show own_Go _ _ _ _ (T664.setTop (mkF m 131 #[.val (.int p1), .val (.int p2), .val (.int p3), .val (.int p4), .val (.int p5), .val (.int p6), .val (.int (4 : Int32)), .val (.int c_511), .val (.int c_512), .val (.int c_513), .val (.int c_514), .val (.ref x_644), .val (.int ((((0 : Int32) + r_645) + r_647) + r_648)), .val (.int ((4 : Int32) - ((((0 : Int32) + r_645) + r_647) + r_648))), .val (.int (1 : Int32)), .unset] [(.int p1), (.ref b664), (.ref b664)]))
      have f667 : Old Z Z.heap.size h664 := f646.ext E664
      obtain ⟨_, _, ⟨T666, L666, k666, n666⟩, -, X666, ⟨Lc666, hQ666, l666, y666, z666⟩, st666⟩ := X664.specialBack hx (y := (⟨"com/example/vigilant_gate/vigilantgate/PasswordPolicy", "<init>", "(I)V"⟩ : MethodName)) rfl hown644 (mvT hZ644 (hw _ (List.mem_of_getElem? (i := 72) rfl))) (mvT hZ644 (hw _ (List.mem_of_getElem? (i := 73) rfl))) (mvT hZ644 (hw _ (List.mem_of_getElem? (i := 74) rfl))) (by decide) (backOf (W := 1) (rm_ppinit l Z a0 hw [] b664 p1 h664 f667 A664 f665 (by omega)) hZ644 (hw _ (List.mem_of_getElem? (i := 74) rfl)) (hw _ (List.mem_of_getElem? (i := 71) rfl)) (by decide) (by decide)) (g := (mkF m 131 #[.val (.int p1), .val (.int p2), .val (.int p3), .val (.int p4), .val (.int p5), .val (.int p6), .val (.int (4 : Int32)), .val (.int c_511), .val (.int c_512), .val (.int c_513), .val (.int c_514), .val (.ref x_644), .val (.int ((((0 : Int32) + r_645) + r_647) + r_648)), .val (.int ((4 : Int32) - ((((0 : Int32) + r_645) + r_647) + r_648))), .val (.int (1 : Int32)), .unset] [(.int p1), (.ref b664), (.ref b664)])) rfl (by rw [hml]; rfl) (Steps.refl _) (a := b664) (argsL := [(.int p1)]) (rest := [(.ref b664)]) (lenOf pd_488 rfl) rfl (by show 2 * 0 + _ ≤ _; exact Nat.le_of_eq rfl) (hb hby at_131) (fun _ _ => ⟨rfl, e664, (by decide : 7 + 0 ≤ _), (by decide : 21 + 0 ≤ _)⟩)
      dsimp only [Pt.U, Pt.locs, Pt.cells, Pt.slots] at X666 l666 y666 z666 st666 hQ666
      subst l666 y666 z666
      obtain ⟨rfl, N666q, K666, f666_0, f666_1⟩ := hQ666
      have N666 := Fr.app N648 N666q
      have Sf668 : Safe Z consts_1 T644.vm h664 b664 := Safe.exa hZ644.alike A664 (by decide) (by decide)
      have z666 : h664.size ≤ T666.heap.size := K666.1
      have R666 : CHr Z consts_1 s.vm h0 T644.vm T666.heap := R664.trans (CHr.keep K666 (sfS Sf668 sf0) R664.1)
      have lt666_0 : @LT.lt Nat _ b664 T666.heap.size := f666_0.lt
      have lt666_1 : @LT.lt Nat _ b664 T666.heap.size := f666_1.lt
      refine own_Go.tr st666 ?_
      show own_Go _ _ _ _ (T666.setTop (mkF m 134 #[.val (.int p1), .val (.int p2), .val (.int p3), .val (.int p4), .val (.int p5), .val (.int p6), .val (.int (4 : Int32)), .val (.int c_511), .val (.int c_512), .val (.int c_513), .val (.int c_514), .val (.ref x_644), .val (.int ((((0 : Int32) + r_645) + r_647) + r_648)), .val (.int ((4 : Int32) - ((((0 : Int32) + r_645) + r_647) + r_648))), .val (.int (1 : Int32)), .unset] [(.ref b664)]))
      refine own_Go.st (fun _ k => XS.astore X666.here hx rfl (hb hby at_134) rfl rfl (l' := #[.val (.int p1), .val (.int p2), .val (.int p3), .val (.int p4), .val (.int p5), .val (.int p6), .val (.int (4 : Int32)), .val (.int c_511), .val (.int c_512), .val (.int c_513), .val (.int c_514), .val (.ref x_644), .val (.int ((((0 : Int32) + r_645) + r_647) + r_648)), .val (.int ((4 : Int32) - ((((0 : Int32) + r_645) + r_647) + r_648))), .val (.int (1 : Int32)), .val (.ref b664)]) rfl k) ?_
      show own_Go _ _ _ _ (T666.setTop (mkF m 136 #[.val (.int p1), .val (.int p2), .val (.int p3), .val (.int p4), .val (.int p5), .val (.int p6), .val (.int (4 : Int32)), .val (.int c_511), .val (.int c_512), .val (.int c_513), .val (.int c_514), .val (.ref x_644), .val (.int ((((0 : Int32) + r_645) + r_647) + r_648)), .val (.int ((4 : Int32) - ((((0 : Int32) + r_645) + r_647) + r_648))), .val (.int (1 : Int32)), .val (.ref b664)] []))
      refine own_Go.st (fun _ k => XS.aload X666.here hx rfl (hb hby at_136) rfl rfl k) ?_
      show own_Go _ _ _ _ (T666.setTop (mkF m 138 #[.val (.int p1), .val (.int p2), .val (.int p3), .val (.int p4), .val (.int p5), .val (.int p6), .val (.int (4 : Int32)), .val (.int c_511), .val (.int c_512), .val (.int c_513), .val (.int c_514), .val (.ref x_644), .val (.int ((((0 : Int32) + r_645) + r_647) + r_648)), .val (.int ((4 : Int32) - ((((0 : Int32) + r_645) + r_647) + r_648))), .val (.int (1 : Int32)), .val (.ref b664)] [(.ref b664)]))
      refine own_Go.st (fun _ k => XS.aload X666.here hx rfl (hb hby at_138) rfl rfl k) ?_
      show own_Go _ _ _ _ (T666.setTop (mkF m 140 #[.val (.int p1), .val (.int p2), .val (.int p3), .val (.int p4), .val (.int p5), .val (.int p6), .val (.int (4 : Int32)), .val (.int c_511), .val (.int c_512), .val (.int c_513), .val (.int c_514), .val (.ref x_644), .val (.int ((((0 : Int32) + r_645) + r_647) + r_648)), .val (.int ((4 : Int32) - ((((0 : Int32) + r_645) + r_647) + r_648))), .val (.int (1 : Int32)), .val (.ref b664)] [(.ref x_644), (.ref b664)]))
      have f670 : own_Str Z h664 x_644 t_644 cs_644 := f644_0.ext E664
      have f671 : own_Str Z T666.heap x_644 t_644 cs_644 := f670.keep K666 (ninS (by show @Ne Nat x_644 b664; omega) nin0) (ninS (by show @Ne Nat t_644 b664; omega) nin0)
      have f672 : Old Z Z.heap.size T666.heap := f667.keep K666 (allS (by omega) all0)
      obtain ⟨cq669, kq669, q669a, q669b, q669c⟩ := isOf hZ644 rfl f666_0
      obtain ⟨_, _, ⟨T669, L669, k669, n669⟩, -, X669, ⟨Lc669, hQ669, l669, y669, z669⟩, st669⟩ := X666.virtualBack hx (y := (⟨"com/example/vigilant_gate/vigilantgate/PasswordPolicy", "admits", "(Ljava/lang/String;)Z"⟩ : MethodName)) (z := (⟨"com/example/vigilant_gate/vigilantgate/PasswordPolicy", "admits", "(Ljava/lang/String;)Z"⟩ : MethodName)) hown644 (mvT hZ644 (hw _ (List.mem_of_getElem? (i := 83) rfl))) (mvT hZ644 (hw _ (List.mem_of_getElem? (i := 84) rfl))) (notFace_of_selects (args := #[]) (mvT hZ644 (hw _ (List.mem_of_getElem? (i := 86) rfl)))) (mvT hZ644 (hw _ (List.mem_of_getElem? (i := 86) rfl))) (mvT hZ644 (hw _ (List.mem_of_getElem? (i := 85) rfl))) (by decide) (backOf (W := 0) (rm_admits l Z a0 hw [] b664 x_644 p1 t_644 cs_644 zc T666.heap f672 f666_1 f671 st_COMPACT_STRINGS st__assertionsDisabled st_HI_BYTE_SHIFT st_LO_BYTE_SHIFT (by first | assumption | decide)) hZ644 (hw _ (List.mem_of_getElem? (i := 87) rfl)) (hw _ (List.mem_of_getElem? (i := 71) rfl)) (by decide) (by decide)) q669a q669c (g := (mkF m 140 #[.val (.int p1), .val (.int p2), .val (.int p3), .val (.int p4), .val (.int p5), .val (.int p6), .val (.int (4 : Int32)), .val (.int c_511), .val (.int c_512), .val (.int c_513), .val (.int c_514), .val (.ref x_644), .val (.int ((((0 : Int32) + r_645) + r_647) + r_648)), .val (.int ((4 : Int32) - ((((0 : Int32) + r_645) + r_647) + r_648))), .val (.int (1 : Int32)), .val (.ref b664)] [(.ref x_644), (.ref b664)])) rfl (by rw [hml]; rfl) (Steps.refl _) (argsL := [(.ref x_644)]) (rest := []) (lenOf pd_489 rfl) rfl (by show 2 * 0 + _ ≤ _; exact Nat.le_of_eq rfl) (hb hby at_140) (fun _ _ => ⟨rfl, rfl, (by decide : 7 + 0 ≤ _), (by decide : 21 + 0 ≤ _)⟩)
      dsimp only [Pt.U, Pt.locs, Pt.cells, Pt.slots] at X669 l669 y669 z669 st669 hQ669
      subst l669 y669 z669
      obtain ⟨r_669, rfl, N669q, K669, pr669_0⟩ := hQ669
      have N669 := Fr.app N666 N669q
      rw [hcs] at pr669_0
      refine own_Go.tr st669 ?_
      show own_Go _ _ _ _ (T669.setTop (mkF m 143 #[.val (.int p1), .val (.int p2), .val (.int p3), .val (.int p4), .val (.int p5), .val (.int p6), .val (.int (4 : Int32)), .val (.int c_511), .val (.int c_512), .val (.int c_513), .val (.int c_514), .val (.ref x_644), .val (.int ((((0 : Int32) + r_645) + r_647) + r_648)), .val (.int ((4 : Int32) - ((((0 : Int32) + r_645) + r_647) + r_648))), .val (.int (1 : Int32)), .val (.ref b664)] [(.int r_669)]))
      refine own_Go.st (fun _ k => XS.iload X669.here hx rfl (hb hby at_143) rfl k) ?_
      show own_Go _ _ _ _ (T669.setTop (mkF m 145 #[.val (.int p1), .val (.int p2), .val (.int p3), .val (.int p4), .val (.int p5), .val (.int p6), .val (.int (4 : Int32)), .val (.int c_511), .val (.int c_512), .val (.int c_513), .val (.int c_514), .val (.ref x_644), .val (.int ((((0 : Int32) + r_645) + r_647) + r_648)), .val (.int ((4 : Int32) - ((((0 : Int32) + r_645) + r_647) + r_648))), .val (.int (1 : Int32)), .val (.ref b664)] [(.int (1 : Int32)), (.int r_669)]))
      have hcnt : ((4 : Int32) - ((((0 : Int32) + r_645) + r_647) + r_648)) = Int32.ofNat (([c_511, c_512, c_513, c_514] : List Int32).length - own_pairs [c_511, c_512, c_513, c_514]) := own_cnt4 pr645_0 pr647_0 pr648_0
      rw [hcnt] at hc649
      have hc673 : r_669 = (1 : Int32) := (by rcases pr669_0 with ⟨q1, q2⟩ | ⟨q1, q2⟩ <;> first | exact q1 | exact absurd q2 hc649 | exact absurd hc649 q2)
      refine own_Go.st (fun _ k => XS.icmpNo X669.here hx rfl (hb hby at_145) rfl (teq hc673).2 k) ?_
      show own_Go _ _ _ _ (T669.setTop (mkF m 148 #[.val (.int p1), .val (.int p2), .val (.int p3), .val (.int p4), .val (.int p5), .val (.int p6), .val (.int (4 : Int32)), .val (.int c_511), .val (.int c_512), .val (.int c_513), .val (.int c_514), .val (.ref x_644), .val (.int ((((0 : Int32) + r_645) + r_647) + r_648)), .val (.int ((4 : Int32) - ((((0 : Int32) + r_645) + r_647) + r_648))), .val (.int (1 : Int32)), .val (.ref b664)] []))
      refine own_Go.st (fun _ k => XS.iconst X669.here hx rfl (hb hby at_148) k) ?_
      show own_Go _ _ _ _ (T669.setTop (mkF m 149 #[.val (.int p1), .val (.int p2), .val (.int p3), .val (.int p4), .val (.int p5), .val (.int p6), .val (.int (4 : Int32)), .val (.int c_511), .val (.int c_512), .val (.int c_513), .val (.int c_514), .val (.ref x_644), .val (.int ((((0 : Int32) + r_645) + r_647) + r_648)), .val (.int ((4 : Int32) - ((((0 : Int32) + r_645) + r_647) + r_648))), .val (.int (1 : Int32)), .val (.ref b664)] [(.int (1 : Int32))]))
      refine own_Go.st (fun _ k => XS.goto X669.here hx rfl (pc0 := 149) (pc' := 153) rfl (hb hby at_149) (by decide) (by decide) k) ?_
      show own_Go _ _ _ _ (T669.setTop (mkF m 153 #[.val (.int p1), .val (.int p2), .val (.int p3), .val (.int p4), .val (.int p5), .val (.int p6), .val (.int (4 : Int32)), .val (.int c_511), .val (.int c_512), .val (.int c_513), .val (.int c_514), .val (.ref x_644), .val (.int ((((0 : Int32) + r_645) + r_647) + r_648)), .val (.int ((4 : Int32) - ((((0 : Int32) + r_645) + r_647) + r_648))), .val (.int (1 : Int32)), .val (.ref b664)] [(.int (1 : Int32))]))
      obtain ⟨fs674, hr674, hrun674, hend674, hret674⟩ := X669.leaveW hS644 (by rw [K669]; exact (by omega)) (v := some (.int (nar .boolean (1 : Int32)))) (fun h => by rw [Bd.returns] at h; cases h)
      have K675 : Keep h0 T644.heap [] := (Keep.refl h0 []).trans K644 all0
      have K676 : Keep h0 h664 [] := K675.ext E664
      have K677 : Keep h0 T666.heap [] := K676.trans K666 (allS (Or.inr (by omega)) all0)
      subst hPP
      refine ⟨_, _, retN X669 hx (t := .boolean) Bd.returns (by simp) (hb hby at_153) hr674, hrun674, hend674, _, _, rfl, ?_, ?_, hret674.1, hret674.2.1, hret674.2.2.1, hret674.2.2.2.mono (by decide) (by decide)⟩
      · show Q_law Z _ _ _ _ _ _ _ h0 _ T669.heap _
        rw [K669]
        exact ⟨rfl, N669, K677⟩
      · have hfin := R666.trans (CHv.at X669 hZ644 hEL R666.1)
        rw [← hh] at hfin
        show CHr Z consts_1 s.vm s.heap T669.vm T669.heap
        rw [K669]
        exact hfin

theorem own_staEq {s : State} {args : Array Value} {C n d : String} {v : Int32} (h : (Jvm.Cond.eq (Jvm.Term.static C n d) (Jvm.Term.int v)).before args s = true) (hi : (Jvm.Cond.initializedFor C n d).before args s = true) : Sta s s.heap C n d (.int v) := by
  obtain ⟨x, y, e1, e2, -, -⟩ := cmp_v (Or.inl (Cond.before_iff.mp h))
  have e3 : y = .int v := by simpa [Term.eval] using e2.symm
  subst e3
  have e4 : x = .int v := by
    have q := Cond.before_iff.mp h
    simp only [Cond.value, e1, e2] at q
    cases x <;> simp_all
  subst e4
  exact Sta.start e1 (Or.inl hi)

set_option maxRecDepth 65536 in
set_option maxHeartbeats 40000000 in
theorem comes_1 {Post : Tables → Env → Array Value → State → Outcome → State → Prop} (hpost : ∀ tb e args s v u, (limb_1_1.after args s (.returned v) u = true ∧ limb_1_2.after args s (.returned v) u = true ∧ True) → ReturnedEndW s (.returned v) u (Jvm.fieldLocs frame_1_writes args s ++ Jvm.arrayLocs frame_1_arrays args s ++ Jvm.staticLocs frame_1_statics s) 24 1152 → Post tb e args s (.returned v) u) :
    ArmFor flags0 classFile x code maxLocals ret World_1 tables_1 room_1 Calls_1 rest_1 Pre_1 Post := by
  intro l hfl _ _ p e ha hc hk s m args below hf hA hF happ hP
  obtain ⟨hcalls, hrest, hpre⟩ := hP
  obtain ⟨-, -, -, hnamed, -, -, -, hat⟩ := (Spec.applies_iff hf).mp happ
  obtain ⟨hg, hn⟩ := and_e (Cond.before_iff.mp (show (Jvm.Cond.and given_1 narrow_1).before args s = true from hpre))
  obtain ⟨g0, r0⟩ := and_e hg
  obtain ⟨g1, r1⟩ := and_e r0
  obtain ⟨g2, r2⟩ := and_e r1
  obtain ⟨g3, r3⟩ := and_e r2
  obtain ⟨g4, r4⟩ := and_e r3
  obtain ⟨g5, r5⟩ := and_e r4
  obtain ⟨w0, w1, w2, w3, w4, w5, rfl⟩ : ∃ w0 w1 w2 w3 w4 w5 : Value, args = #[w0, w1, w2, w3, w4, w5] := by
    have hs : args.size = 6 := by simpa [Cond.value, given_1] using g0
    obtain ⟨L⟩ := args
    match L, hs with
    | [w0, w1, w2, w3, w4, w5], _ => exact ⟨w0, w1, w2, w3, w4, w5, rfl⟩
  have hw := fun d (hd : d ∈ tables_1) => atoms_spec (ws := Jvm.Cond.code x code maxLocals ret :: tables_1) hat d (List.mem_cons_of_mem _ hd)
  obtain ⟨hsets, hown0⟩ := atoms_of _ (rest_1_c_eq ▸ (show rest_1_c.before _ s = true from hrest))
  have hfit : Fit s := fun {y c} hc i hi => by
    obtain ⟨ha, rfl⟩ := Array.getElem?_eq_some_iff.mp hc
    have q := List.all_eq_true.mp ((Array.all_eq_true_iff_forall_mem.mp hF) _ (Array.getElem_mem ha)) i (List.mem_range.mpr hi)
    simpa [Array.getElem?_eq_getElem hi] using q
  obtain ⟨i0, e0⟩ := is_v g1
  obtain rfl : w0 = (.int i0) := Option.some.inj e0
  obtain ⟨i1, e1⟩ := is_v g2
  obtain rfl : w1 = (.int i1) := Option.some.inj e1
  obtain ⟨i2, e2⟩ := is_v g3
  obtain rfl : w2 = (.int i2) := Option.some.inj e2
  obtain ⟨i3, e3⟩ := is_v g4
  obtain rfl : w3 = (.int i3) := Option.some.inj e3
  obtain ⟨i4, e4⟩ := is_v g5
  obtain rfl : w4 = (.int i4) := Option.some.inj e4
  obtain ⟨i5, e5⟩ := is_v r5
  obtain rfl : w5 = (.int i5) := Option.some.inj e5
  obtain ⟨zc, ez⟩ := is_v (Cond.before_iff.mp (hsets _ (List.mem_of_getElem? (i := 1) rfl)))
  have st_zc : Sta s s.heap "java/lang/String" "COMPACT_STRINGS" "Z" (.int zc) := Sta.start ez (Or.inl (hsets _ (List.mem_of_getElem? (i := 0) rfl)))
  have hzc : ¬ (zc = (0 : Int32)) := gotF (Cond.eq_ints ez (Term.int_eval (0))) (not_v (Cond.before_iff.mp (hsets _ (List.mem_of_getElem? (i := 2) rfl))))
  have hEL : EW s _ consts_1 := (EW.cons (hw _ (List.mem_of_getElem? (i := 132) rfl)) (by decide) EW.nil)
  have hC0 : CHv s consts_1 s.vm s.heap := CHv.start hEL (fun p hp => hcalls.1 p hp) (hsets _ (List.mem_of_getElem? (i := 2) rfl)) (hw _ (List.mem_of_getElem? (i := 29) rfl)) (hw _ (List.mem_of_getElem? (i := 11) rfl))
  have st__assertionsDisabled : Sta s s.heap "java/lang/StringUTF16" "$assertionsDisabled" "Z" (.int (1 : Int32)) := own_staEq (hsets _ (List.mem_of_getElem? (i := 12) rfl)) (hsets _ (List.mem_of_getElem? (i := 11) rfl))
  have st_HI_BYTE_SHIFT : Sta s s.heap "java/lang/StringUTF16" "HI_BYTE_SHIFT" "I" (.int (0 : Int32)) := own_staEq (hsets _ (List.mem_of_getElem? (i := 15) rfl)) (hsets _ (List.mem_of_getElem? (i := 14) rfl))
  have st_LO_BYTE_SHIFT : Sta s s.heap "java/lang/StringUTF16" "LO_BYTE_SHIFT" "I" (.int (8 : Int32)) := own_staEq (hsets _ (List.mem_of_getElem? (i := 18) rfl)) (hsets _ (List.mem_of_getElem? (i := 17) rfl))
  obtain ⟨n, o, h1, h2, h3, _, L, rfl, ⟨rfl, N, -⟩, -, hq⟩ := rm_law l s _ hw tables_1 i0 i1 i2 i3 i4 i5 zc s.heap hEL (Old.start s) st_zc st__assertionsDisabled st_HI_BYTE_SHIFT st_LO_BYTE_SHIFT hzc p e ha hc hk s m _ below hf ((Spec.applies_iff_loose hf).mp happ).1 ⟨rfl, State.Warmed39.refl s, rfl, hC0⟩ trivial
  refine ⟨n, _, h1, h2, h3, hpost _ _ _ _ _ _ ⟨Cond.after_iff.mpr rfl, Cond.after_iff.mpr (eq_i res_at (Term.int_eval (1)) rfl), trivial⟩ ⟨hq.1, hq.2.1, hq.2.2.1, (hq.2.2.2.sift fun y hy => Or.inr (N y hy)).mono (by decide) (by decide)⟩⟩
theorem main_1_1 : Claimed_1_1 := comes_1 fun _ _ _ _ _ _ h hF => ⟨h.1, hF⟩
theorem main_1_2 : Claimed_1_2 := comes_1 fun _ _ _ _ _ _ h hF => ⟨h.2.1, hF⟩
end Jvm.Pilot.@@N@@
namespace Jvm.Pilot.@@N@@
open Jvm Jvm.ClassFile Sem Op Lib Jvm.Free Jvm.Stand Jvm.Pilot.@@N@@.Jvm.D
/-! MADE BY PROGRAM (witnessworld.py) out of the Statement's table words and the real class files: 23 classes; the members and pool entries that the words name. The judged class is class 1, her method 6. -/
namespace start1
open Jvm.ClassFile
def u (s : String) : CpInfo := .utf8 (stringToUtf16 s)
/-- a pool by its gaps: so many unusable entries, then the entry; so many at the end -/
def gap : Nat → List CpInfo → List CpInfo
  | 0, r => r
  | n + 1, r => .unusable :: gap n r
def poolList (es : List (Nat × CpInfo)) (last : Nat) : List CpInfo := es.foldr (fun e r => gap e.1 (e.2 :: r)) (gap last [])
def pool (es : List (Nat × CpInfo)) (last : Nat) : Array CpInfo := ⟨poolList es last⟩
def fileOf (pool : Array CpInfo) (this : Nat) (attrs : Array Attribute := #[]) (ms : Array MethodInfo := #[]) (fl : Nat := 33) (sup : Nat := 0) (ifs : Array Nat := #[]) (fds : Array FieldInfo := #[]) : ClassFile where
  minorVersion := 0
  majorVersion := 65
  constantPool := pool
  accessFlags := fl
  thisClass := this
  superClass := sup
  interfaces := ifs
  fields := fds
  methods := ms
  attributes := attrs
def plain (name : String) (sup : Option ClassId) : Class where
  name := name
  kind := .ordinary
  loader := none
  accessFlags := 33
  super := sup
  interfaces := #[]
  cf := none
  fields := #[]
  methods := #[]
  instanceTypes := #[]
  staticTypes := #[]
  resolved := #[]
  callSites := []
  init := .initialized
  statics := none
  mirror := none

def pool0 : Array CpInfo := pool [(5, u "<init>"), (0, u "()V"), (1, .class_ 10), (1, u "java/lang/Object")] 113

def k0c0 : Code := { maxStack := 0, maxLocals := 1, code := object_method_1_code, exceptionTable := #[], attributes := #[] }
def k0m0 : Method := { name := "<init>", desc := "()V", sig := { parameters := [], returnType := none }, accessFlags := 1, code := some k0c0 }
/-- java/lang/Object -/
def k0 : Class := { plain "java/lang/Object" none with
  accessFlags := 33
  interfaces := #[]
  cf := some (fileOf pool0 8 #[] #[{ accessFlags := 1, nameIndex := 5, descriptorIndex := 6, attributes := #[] }] 33 0 #[] #[])
  fields := #[]
  methods := #[k0m0]
  instanceTypes := #[]
  staticTypes := #[]
  resolved := Array.replicate 124 none
  statics := none }

def pool1 : Array CpInfo := pool [(2, .class_ 4), (1, u "java/lang/Object"), (0, u "<init>"), (0, u "()V"), (0, .integer 55296), (0, .integer 56320), (0, .integer 65535), (0, .integer 56319), (0, .integer 57343), (0, .methodref 13 14), (0, .class_ 15), (0, .nameAndType 16 17), (0, u "com/example/vigilant_gate/vigilantgate/PasswordPolicyAdmitsPinLaw"), (0, u "isHigh"), (0, u "(C)Z"), (0, .methodref 13 19), (0, .nameAndType 20 17), (0, u "isLow"), (0, .class_ 22), (0, u "java/lang/String"), (0, .methodref 21 24), (0, .nameAndType 5 25), (0, u "([C)V"), (0, .methodref 13 27), (0, .nameAndType 28 29), (0, u "draw"), (0, u "(I)C"), (0, .methodref 13 31), (0, .nameAndType 32 33), (0, u "build"), (0, u "(ICCCC)Ljava/lang/String;"), (0, .methodref 13 35), (0, .nameAndType 36 37), (0, u "pair"), (0, u "(CC)I"), (0, .class_ 39), (0, u "com/example/vigilant_gate/vigilantgate/PasswordPolicy"), (0, .methodref 38 41), (0, .nameAndType 5 42), (0, u "(I)V"), (0, .methodref 38 44), (0, .nameAndType 45 46), (0, u "admits"), (0, u "(Ljava/lang/String;)Z"), (3, u "law"), (0, u "(IIIIII)Z")] 2

def k1m0 : Method := { name := "<init>", desc := "()V", sig := { parameters := [], returnType := none }, accessFlags := 1, code := none }
def k1c1 : Code := { maxStack := 3, maxLocals := 3, code := method_2_code, exceptionTable := #[], attributes := #[] }
def k1m1 : Method := { name := "draw", desc := "(I)C", sig := { parameters := [.int], returnType := some .char }, accessFlags := 10, code := some k1c1 }
def k1c2 : Code := { maxStack := 2, maxLocals := 1, code := method_3_code, exceptionTable := #[], attributes := #[] }
def k1m2 : Method := { name := "isHigh", desc := "(C)Z", sig := { parameters := [.char], returnType := some .boolean }, accessFlags := 10, code := some k1c2 }
def k1c3 : Code := { maxStack := 2, maxLocals := 1, code := method_4_code, exceptionTable := #[], attributes := #[] }
def k1m3 : Method := { name := "isLow", desc := "(C)Z", sig := { parameters := [.char], returnType := some .boolean }, accessFlags := 10, code := some k1c3 }
def k1c4 : Code := { maxStack := 1, maxLocals := 2, code := method_5_code, exceptionTable := #[], attributes := #[] }
def k1m4 : Method := { name := "pair", desc := "(CC)I", sig := { parameters := [.char, .char], returnType := some .int }, accessFlags := 10, code := some k1c4 }
def k1c5 : Code := { maxStack := 6, maxLocals := 5, code := method_6_code, exceptionTable := #[], attributes := #[] }
def k1m5 : Method := { name := "build", desc := "(ICCCC)Ljava/lang/String;", sig := { parameters := [.int, .char, .char, .char, .char], returnType := some (.object "java/lang/String") }, accessFlags := 10, code := some k1c5 }
def k1c6 : Code := { maxStack := 5, maxLocals := 16, code := code, exceptionTable := #[], attributes := #[] }
def k1m6 : Method := { name := "law", desc := "(IIIIII)Z", sig := { parameters := [.int, .int, .int, .int, .int, .int], returnType := some .boolean }, accessFlags := 9, code := some k1c6 }
/-- com/example/vigilant_gate/vigilantgate/PasswordPolicyAdmitsPinLaw -/
def k1 : Class := { plain "com/example/vigilant_gate/vigilantgate/PasswordPolicyAdmitsPinLaw" (some 0) with
  accessFlags := 49
  interfaces := #[]
  cf := some (fileOf pool1 13 #[] #[{ accessFlags := 1, nameIndex := 5, descriptorIndex := 6, attributes := #[] }, { accessFlags := 10, nameIndex := 28, descriptorIndex := 29, attributes := #[] }, { accessFlags := 10, nameIndex := 16, descriptorIndex := 17, attributes := #[] }, { accessFlags := 10, nameIndex := 20, descriptorIndex := 17, attributes := #[] }, { accessFlags := 10, nameIndex := 36, descriptorIndex := 37, attributes := #[] }, { accessFlags := 10, nameIndex := 32, descriptorIndex := 33, attributes := #[] }, { accessFlags := 9, nameIndex := 50, descriptorIndex := 51, attributes := #[] }] 49 2 #[] #[])
  fields := #[]
  methods := #[k1m0, k1m1, k1m2, k1m3, k1m4, k1m5, k1m6]
  instanceTypes := #[]
  staticTypes := #[]
  resolved := Array.replicate 54 none
  statics := none }

def pool2 : Array CpInfo := pool [(1, .class_ 2), (0, u "java/io/Serializable"), (0, .class_ 4), (0, u "java/lang/Object")] 2

/-- java/io/Serializable -/
def k2 : Class := { plain "java/io/Serializable" (some 0) with
  accessFlags := 1537
  interfaces := #[]
  cf := some (fileOf pool2 1 #[] #[] 1537 3 #[] #[])
  fields := #[]
  methods := #[]
  instanceTypes := #[]
  staticTypes := #[]
  resolved := Array.replicate 7 none
  statics := none }

def pool3 : Array CpInfo := pool [(1, .class_ 2), (0, u "java/lang/Comparable"), (0, .class_ 4), (0, u "java/lang/Object")] 7

/-- java/lang/Comparable -/
def k3 : Class := { plain "java/lang/Comparable" (some 0) with
  accessFlags := 1537
  interfaces := #[]
  cf := some (fileOf pool3 1 #[] #[] 1537 3 #[] #[])
  fields := #[]
  methods := #[]
  instanceTypes := #[]
  staticTypes := #[]
  resolved := Array.replicate 12 none
  statics := none }

def pool4 : Array CpInfo := pool [(2, .class_ 4), (1, u "java/lang/CharSequence"), (42, .class_ 48), (0, u "java/lang/CharSequence$1CodePointIterator"), (10, .class_ 60), (0, u "java/lang/CharSequence$1CharIterator"), (5, .class_ 67), (0, u "java/lang/Object")] 63

/-- java/lang/CharSequence -/
def k4 : Class := { plain "java/lang/CharSequence" (some 0) with
  accessFlags := 1537
  interfaces := #[]
  cf := some (fileOf pool4 2 #[.nestMembers #[47, 59]] #[] 1537 66 #[] #[])
  fields := #[]
  methods := #[]
  instanceTypes := #[]
  staticTypes := #[]
  resolved := Array.replicate 131 none
  statics := none }

def pool5 : Array CpInfo := pool [(1, .class_ 2), (0, u "java/lang/constant/Constable"), (0, .class_ 4), (0, u "java/lang/Object")] 6

/-- java/lang/constant/Constable -/
def k5 : Class := { plain "java/lang/constant/Constable" (some 0) with
  accessFlags := 1537
  interfaces := #[]
  cf := some (fileOf pool5 1 #[] #[] 1537 3 #[] #[])
  fields := #[]
  methods := #[]
  instanceTypes := #[]
  staticTypes := #[]
  resolved := Array.replicate 11 none
  statics := none }

def pool6 : Array CpInfo := pool [(1, .class_ 2), (0, u "java/lang/constant/ConstantDesc"), (0, .class_ 4), (0, u "java/lang/Object")] 32

/-- java/lang/constant/ConstantDesc -/
def k6 : Class := { plain "java/lang/constant/ConstantDesc" (some 0) with
  accessFlags := 1537
  interfaces := #[]
  cf := some (fileOf pool6 1 #[] #[] 1537 3 #[] #[])
  fields := #[]
  methods := #[]
  instanceTypes := #[]
  staticTypes := #[]
  resolved := Array.replicate 37 none
  statics := none }

def pool7 : Array CpInfo := pool [(1, .methodref 2 3), (0, .class_ 4), (0, .nameAndType 5 6), (0, u "java/lang/Object"), (0, u "<init>"), (0, u "()V"), (0, .string 8), (0, u ""), (0, .fieldref 10 11), (0, .class_ 12), (0, .nameAndType 13 14), (0, u "java/lang/String"), (0, u "value"), (0, u "[B"), (0, .fieldref 10 16), (0, .nameAndType 17 18), (0, u "coder"), (0, u "B"), (2, u "hash"), (0, u "I"), (2, u "hashIsZero"), (0, u "Z"), (0, .methodref 10 28), (0, .nameAndType 5 29), (0, u "([CIILjava/lang/Void;)V"), (7, u "(III)I"), (0, .fieldref 10 39), (0, .nameAndType 40 26), (0, u "COMPACT_STRINGS"), (1, .class_ 44), (1, u "java/lang/StringUTF16"), (0, u "compress"), (1, .methodref 42 48), (0, .nameAndType 49 50), (0, u "coderFromArrayLen"), (0, u "([BI)B"), (28, .class_ 81), (1, u "java/util/Objects"), (15, u "([BII)I"), (44, u "()Z"), (34, .methodref 42 178), (0, .nameAndType 45 179), (0, u "([CII)[B"), (154, u "()I"), (0, .methodref 10 336), (0, .nameAndType 17 337), (0, u "()B"), (154, .methodref 10 493), (0, .nameAndType 494 142), (0, u "isLatin1"), (10, .methodref 10 506), (0, .nameAndType 507 334), (0, u "length"), (3, .methodref 79 512), (0, .nameAndType 513 37), (0, u "checkFromToIndex"), (0, .methodref 42 515), (0, .nameAndType 516 97), (0, u "codePointCount"), (58, .class_ 576), (0, u "java/lang/CharSequence"), (22, u "CASE_INSENSITIVE_ORDER"), (0, u "Ljava/util/Comparator;"), (35, u "(II)I"), (373, u "([C)V"), (90, u "serialPersistentFields"), (0, u "[Ljava/io/ObjectStreamField;"), (0, .class_ 1104), (0, u "java/lang/String$CaseInsensitiveComparator"), (1, .class_ 1107), (0, u "java/io/Serializable"), (0, .class_ 1109), (0, u "java/lang/Comparable"), (0, .class_ 1111), (0, u "java/lang/constant/Constable"), (0, .class_ 1113), (0, u "java/lang/constant/ConstantDesc"), (2, u "serialVersionUID"), (0, u "J"), (3, u "REPL"), (0, u "C"), (2, u "LATIN1"), (1, u "UTF16")] 323

def k7m0 : Method := { name := "<init>", desc := "()V", sig := { parameters := [], returnType := none }, accessFlags := 1, code := none }
def k7c1 : Code := { maxStack := 5, maxLocals := 2, code := jdk_42_method_3_code, exceptionTable := #[], attributes := #[] }
def k7m1 : Method := { name := "<init>", desc := "([C)V", sig := { parameters := [(.array .char)], returnType := none }, accessFlags := 1, code := some k7c1 }
def k7c2 : Code := { maxStack := 2, maxLocals := 1, code := jdk_42_method_54_code, exceptionTable := #[], attributes := #[] }
def k7m2 : Method := { name := "length", desc := "()I", sig := { parameters := [], returnType := some .int }, accessFlags := 1, code := some k7c2 }
def k7c3 : Code := { maxStack := 3, maxLocals := 3, code := jdk_42_method_59_code, exceptionTable := #[], attributes := #[] }
def k7m3 : Method := { name := "codePointCount", desc := "(II)I", sig := { parameters := [.int, .int], returnType := some .int }, accessFlags := 1, code := some k7c3 }
def k7c4 : Code := { maxStack := 4, maxLocals := 6, code := jdk_42_method_149_code, exceptionTable := #[], attributes := #[] }
def k7m4 : Method := { name := "<init>", desc := "([CIILjava/lang/Void;)V", sig := { parameters := [(.array .char), .int, .int, (.object "java/lang/Void")], returnType := none }, accessFlags := 2, code := some k7c4 }
def k7c5 : Code := { maxStack := 1, maxLocals := 1, code := jdk_42_method_152_code, exceptionTable := #[], attributes := #[] }
def k7m5 : Method := { name := "coder", desc := "()B", sig := { parameters := [], returnType := some .byte }, accessFlags := 0, code := some k7c5 }
def k7c6 : Code := { maxStack := 1, maxLocals := 1, code := jdk_42_method_154_code, exceptionTable := #[], attributes := #[] }
def k7m6 : Method := { name := "isLatin1", desc := "()Z", sig := { parameters := [], returnType := some .boolean }, accessFlags := 0, code := some k7c6 }
/-- java/lang/String -/
def k7 : Class := { plain "java/lang/String" (some 0) with
  accessFlags := 49
  interfaces := #[2, 3, 4, 5, 6]
  cf := some (fileOf pool7 10 #[.nestMembers #[1103]] #[{ accessFlags := 1, nameIndex := 5, descriptorIndex := 6, attributes := #[] }, { accessFlags := 1, nameIndex := 5, descriptorIndex := 1010, attributes := #[] }, { accessFlags := 1, nameIndex := 507, descriptorIndex := 334, attributes := #[] }, { accessFlags := 1, nameIndex := 516, descriptorIndex := 636, attributes := #[] }, { accessFlags := 2, nameIndex := 5, descriptorIndex := 29, attributes := #[] }, { accessFlags := 0, nameIndex := 17, descriptorIndex := 337, attributes := #[] }, { accessFlags := 0, nameIndex := 494, descriptorIndex := 142, attributes := #[] }] 49 2 #[1106, 1108, 575, 1110, 1112] #[{ accessFlags := 18, nameIndex := 13, descriptorIndex := 14, attributes := #[] }, { accessFlags := 18, nameIndex := 17, descriptorIndex := 18, attributes := #[] }, { accessFlags := 2, nameIndex := 21, descriptorIndex := 22, attributes := #[] }, { accessFlags := 2, nameIndex := 25, descriptorIndex := 26, attributes := #[] }, { accessFlags := 26, nameIndex := 1116, descriptorIndex := 1117, attributes := #[] }, { accessFlags := 24, nameIndex := 40, descriptorIndex := 26, attributes := #[] }, { accessFlags := 26, nameIndex := 1101, descriptorIndex := 1102, attributes := #[] }, { accessFlags := 26, nameIndex := 1121, descriptorIndex := 1122, attributes := #[] }, { accessFlags := 25, nameIndex := 599, descriptorIndex := 600, attributes := #[] }, { accessFlags := 24, nameIndex := 1125, descriptorIndex := 18, attributes := #[] }, { accessFlags := 24, nameIndex := 1127, descriptorIndex := 18, attributes := #[] }])
  fields := #[{ name := "value", type := (.array .byte), accessFlags := 18, slot := 0, constantValue := 0 }, { name := "coder", type := .byte, accessFlags := 18, slot := 1, constantValue := 0 }, { name := "hash", type := .int, accessFlags := 2, slot := 2, constantValue := 0 }, { name := "hashIsZero", type := .boolean, accessFlags := 2, slot := 3, constantValue := 0 }, { name := "serialVersionUID", type := .long, accessFlags := 26, slot := 0, constantValue := 0 }, { name := "COMPACT_STRINGS", type := .boolean, accessFlags := 24, slot := 1, constantValue := 0 }, { name := "serialPersistentFields", type := (.array (.object "java/io/ObjectStreamField")), accessFlags := 26, slot := 2, constantValue := 0 }, { name := "REPL", type := .char, accessFlags := 26, slot := 3, constantValue := 0 }, { name := "CASE_INSENSITIVE_ORDER", type := (.object "java/util/Comparator"), accessFlags := 25, slot := 4, constantValue := 0 }, { name := "LATIN1", type := .byte, accessFlags := 24, slot := 5, constantValue := 0 }, { name := "UTF16", type := .byte, accessFlags := 24, slot := 6, constantValue := 0 }]
  methods := #[k7m0, k7m1, k7m2, k7m3, k7m4, k7m5, k7m6]
  instanceTypes := #[(.array .byte), .byte, .int, .boolean]
  staticTypes := #[.long, .boolean, (.array (.object "java/io/ObjectStreamField")), .char, (.object "java/util/Comparator"), .byte, .byte]
  resolved := Array.replicate 1451 none
  statics := some 0 }

def pool8 : Array CpInfo := pool [(6, .class_ 8), (1, u "java/lang/Object"), (0, u "<init>"), (0, u "()V"), (0, .methodref 12 13), (0, .class_ 14), (0, .nameAndType 15 16), (0, u "java/lang/StringUTF16"), (0, u "newBytesLength"), (0, u "(I)I"), (3, .integer 1073741823), (23, .fieldref 12 45), (0, .nameAndType 46 47), (0, u "$assertionsDisabled"), (0, u "Z"), (11, .fieldref 12 60), (0, .nameAndType 61 62), (0, u "HI_BYTE_SHIFT"), (0, u "I"), (0, .fieldref 12 64), (0, .nameAndType 65 62), (0, u "LO_BYTE_SHIFT"), (5, .methodref 12 72), (0, .nameAndType 73 74), (0, u "getChar"), (0, u "([BI)C"), (0, .methodref 76 77), (0, .class_ 78), (0, .nameAndType 79 80), (0, u "java/lang/Character"), (0, u "isHighSurrogate"), (0, u "(C)Z"), (0, .methodref 76 82), (0, .nameAndType 83 80), (0, u "isLowSurrogate"), (7, u "([BIIZ)I"), (8, .methodref 12 101), (0, .nameAndType 102 91), (0, u "codePointCount"), (4, .methodref 12 108), (0, .nameAndType 109 110), (0, u "newBytesFor"), (0, u "(I)[B"), (0, .methodref 12 112), (0, .nameAndType 113 114), (0, u "putChar"), (0, u "([BII)V"), (0, .methodref 12 116), (0, .nameAndType 117 118), (0, u "compress"), (0, u "([CI[BII)I"), (0, .methodref 12 120), (0, .nameAndType 121 122), (0, u "toBytes"), (0, u "([CII)[B"), (127, u "([BII)I"), (10, u "coderFromArrayLen"), (0, u "([BI)B"), (106, .class_ 371), (1, u "java/lang/StringUTF16$LinesSpliterator"), (58, u "MAX_LENGTH"), (196, .class_ 628), (0, u "java/lang/StringUTF16$CodePointsSpliterator"), (0, .class_ 630), (0, u "java/lang/StringUTF16$CharsSpliterator")] 4

def k8m0 : Method := { name := "<init>", desc := "()V", sig := { parameters := [], returnType := none }, accessFlags := 0, code := none }
def k8c1 : Code := { maxStack := 1, maxLocals := 1, code := jdk_52_method_2_code, exceptionTable := #[], attributes := #[] }
def k8m1 : Method := { name := "newBytesFor", desc := "(I)[B", sig := { parameters := [.int], returnType := some (.array .byte) }, accessFlags := 9, code := some k8c1 }
def k8c2 : Code := { maxStack := 4, maxLocals := 1, code := jdk_52_method_3_code, exceptionTable := #[], attributes := #[] }
def k8m2 : Method := { name := "newBytesLength", desc := "(I)I", sig := { parameters := [.int], returnType := some .int }, accessFlags := 9, code := some k8c2 }
def k8c3 : Code := { maxStack := 4, maxLocals := 3, code := jdk_52_method_4_code, exceptionTable := #[], attributes := #[] }
def k8m3 : Method := { name := "putChar", desc := "([BII)V", sig := { parameters := [(.array .byte), .int, .int], returnType := none }, accessFlags := 8, code := some k8c3 }
def k8c4 : Code := { maxStack := 3, maxLocals := 2, code := jdk_52_method_5_code, exceptionTable := #[], attributes := #[] }
def k8m4 : Method := { name := "getChar", desc := "([BI)C", sig := { parameters := [(.array .byte), .int], returnType := some .char }, accessFlags := 8, code := some k8c4 }
def k8c5 : Code := { maxStack := 3, maxLocals := 6, code := jdk_52_method_11_code, exceptionTable := #[], attributes := #[] }
def k8m5 : Method := { name := "codePointCount", desc := "([BIIZ)I", sig := { parameters := [(.array .byte), .int, .int, .boolean], returnType := some .int }, accessFlags := 10, code := some k8c5 }
def k8c6 : Code := { maxStack := 4, maxLocals := 3, code := jdk_52_method_12_code, exceptionTable := #[], attributes := #[] }
def k8m6 : Method := { name := "codePointCount", desc := "([BII)I", sig := { parameters := [(.array .byte), .int, .int], returnType := some .int }, accessFlags := 9, code := some k8c6 }
def k8c7 : Code := { maxStack := 4, maxLocals := 5, code := jdk_52_method_14_code, exceptionTable := #[], attributes := #[] }
def k8m7 : Method := { name := "toBytes", desc := "([CII)[B", sig := { parameters := [(.array .char), .int, .int], returnType := some (.array .byte) }, accessFlags := 9, code := some k8c7 }
def k8c8 : Code := { maxStack := 2, maxLocals := 2, code := jdk_52_method_15_code, exceptionTable := #[], attributes := #[] }
def k8m8 : Method := { name := "coderFromArrayLen", desc := "([BI)B", sig := { parameters := [(.array .byte), .int], returnType := some .byte }, accessFlags := 8, code := some k8c8 }
def k8c9 : Code := { maxStack := 5, maxLocals := 6, code := jdk_52_method_16_code, exceptionTable := #[], attributes := #[] }
def k8m9 : Method := { name := "compress", desc := "([CII)[B", sig := { parameters := [(.array .char), .int, .int], returnType := some (.array .byte) }, accessFlags := 9, code := some k8c9 }
def k8c10 : Code := { maxStack := 3, maxLocals := 7, code := jdk_52_method_21_code, exceptionTable := #[], attributes := #[] }
def k8m10 : Method := { name := "compress", desc := "([CI[BII)I", sig := { parameters := [(.array .char), .int, (.array .byte), .int, .int], returnType := some .int }, accessFlags := 9, code := some k8c10 }
/-- java/lang/StringUTF16 -/
def k8 : Class := { plain "java/lang/StringUTF16" (some 0) with
  accessFlags := 48
  interfaces := #[]
  cf := some (fileOf pool8 12 #[.nestMembers #[627, 629, 369]] #[{ accessFlags := 0, nameIndex := 9, descriptorIndex := 10, attributes := #[] }, { accessFlags := 9, nameIndex := 109, descriptorIndex := 110, attributes := #[] }, { accessFlags := 9, nameIndex := 15, descriptorIndex := 16, attributes := #[] }, { accessFlags := 8, nameIndex := 113, descriptorIndex := 114, attributes := #[] }, { accessFlags := 8, nameIndex := 73, descriptorIndex := 74, attributes := #[] }, { accessFlags := 10, nameIndex := 102, descriptorIndex := 91, attributes := #[] }, { accessFlags := 9, nameIndex := 102, descriptorIndex := 250, attributes := #[] }, { accessFlags := 9, nameIndex := 121, descriptorIndex := 122, attributes := #[] }, { accessFlags := 8, nameIndex := 261, descriptorIndex := 262, attributes := #[] }, { accessFlags := 9, nameIndex := 117, descriptorIndex := 122, attributes := #[] }, { accessFlags := 9, nameIndex := 117, descriptorIndex := 118, attributes := #[] }] 48 6 #[] #[{ accessFlags := 26, nameIndex := 61, descriptorIndex := 62, attributes := #[] }, { accessFlags := 26, nameIndex := 65, descriptorIndex := 62, attributes := #[] }, { accessFlags := 24, nameIndex := 430, descriptorIndex := 62, attributes := #[] }, { accessFlags := 4120, nameIndex := 46, descriptorIndex := 47, attributes := #[] }])
  fields := #[{ name := "HI_BYTE_SHIFT", type := .int, accessFlags := 26, slot := 0, constantValue := 0 }, { name := "LO_BYTE_SHIFT", type := .int, accessFlags := 26, slot := 1, constantValue := 0 }, { name := "MAX_LENGTH", type := .int, accessFlags := 24, slot := 2, constantValue := 0 }, { name := "$assertionsDisabled", type := .boolean, accessFlags := 4120, slot := 3, constantValue := 0 }]
  methods := #[k8m0, k8m1, k8m2, k8m3, k8m4, k8m5, k8m6, k8m7, k8m8, k8m9, k8m10]
  instanceTypes := #[]
  staticTypes := #[.int, .int, .int, .boolean]
  resolved := Array.replicate 635 none
  statics := some 1 }

def pool9 : Array CpInfo := pool [(1, .methodref 2 3), (0, .class_ 4), (0, .nameAndType 5 6), (0, u "java/lang/Object"), (0, u "<init>"), (0, u "()V"), (0, .class_ 8), (0, u "java/lang/Record")] 13

def k9c0 : Code := { maxStack := 1, maxLocals := 1, code := jdk_30_method_1_code, exceptionTable := #[], attributes := #[] }
def k9m0 : Method := { name := "<init>", desc := "()V", sig := { parameters := [], returnType := none }, accessFlags := 4, code := some k9c0 }
/-- java/lang/Record -/
def k9 : Class := { plain "java/lang/Record" (some 0) with
  accessFlags := 1057
  interfaces := #[]
  cf := some (fileOf pool9 7 #[] #[{ accessFlags := 4, nameIndex := 5, descriptorIndex := 6, attributes := #[] }] 1057 2 #[] #[])
  fields := #[]
  methods := #[k9m0]
  instanceTypes := #[]
  staticTypes := #[]
  resolved := Array.replicate 22 none
  statics := none }

def pool10 : Array CpInfo := pool [(1, .methodref 2 3), (0, .class_ 4), (0, .nameAndType 5 6), (0, u "java/lang/Record"), (0, u "<init>"), (0, u "()V"), (0, .fieldref 8 9), (0, .class_ 10), (0, .nameAndType 11 12), (0, u "com/example/vigilant_gate/vigilantgate/PasswordPolicy"), (0, u "minimumPasswordLength"), (0, u "I"), (0, .methodref 14 15), (0, .class_ 16), (0, .nameAndType 17 18), (0, u "java/lang/String"), (0, u "length"), (0, u "()I"), (0, .methodref 14 20), (0, .nameAndType 21 22), (0, u "codePointCount"), (0, u "(II)I"), (14, u "(I)V"), (2, u "DEFAULT"), (0, u "Lcom/example/vigilant_gate/vigilantgate/PasswordPolicy;"), (3, u "admits"), (0, u "(Ljava/lang/String;)Z")] 23

def k10c0 : Code := { maxStack := 2, maxLocals := 2, code := prog_11_method_1_code, exceptionTable := #[], attributes := #[] }
def k10m0 : Method := { name := "<init>", desc := "(I)V", sig := { parameters := [.int], returnType := none }, accessFlags := 0, code := some k10c0 }
def k10c1 : Code := { maxStack := 3, maxLocals := 2, code := prog_11_method_2_code, exceptionTable := #[], attributes := #[] }
def k10m1 : Method := { name := "admits", desc := "(Ljava/lang/String;)Z", sig := { parameters := [(.object "java/lang/String")], returnType := some .boolean }, accessFlags := 0, code := some k10c1 }
/-- com/example/vigilant_gate/vigilantgate/PasswordPolicy -/
def k10 : Class := { plain "com/example/vigilant_gate/vigilantgate/PasswordPolicy" (some 9) with
  accessFlags := 48
  interfaces := #[]
  cf := some (fileOf pool10 8 #[] #[{ accessFlags := 0, nameIndex := 5, descriptorIndex := 37, attributes := #[] }, { accessFlags := 0, nameIndex := 45, descriptorIndex := 46, attributes := #[] }] 48 2 #[] #[{ accessFlags := 18, nameIndex := 11, descriptorIndex := 12, attributes := #[] }, { accessFlags := 24, nameIndex := 40, descriptorIndex := 41, attributes := #[] }])
  fields := #[{ name := "minimumPasswordLength", type := .int, accessFlags := 18, slot := 0, constantValue := 0 }, { name := "DEFAULT", type := (.object "com/example/vigilant_gate/vigilantgate/PasswordPolicy"), accessFlags := 24, slot := 0, constantValue := 0 }]
  methods := #[k10m0, k10m1]
  instanceTypes := #[.int]
  staticTypes := #[(.object "com/example/vigilant_gate/vigilantgate/PasswordPolicy")]
  resolved := Array.replicate 70 none
  statics := none }

def pool11 : Array CpInfo := pool [(2, .class_ 4), (1, u "java/lang/Object"), (0, u "<init>"), (0, u "()V"), (35, .class_ 44), (1, u "java/util/Objects"), (61, .class_ 108), (1, u "jdk/internal/util/Preconditions"), (2, .methodref 106 112), (0, .nameAndType 113 114), (0, u "checkFromToIndex"), (0, u "(IIILjava/util/function/BiFunction;)I"), (60, u "(III)I")] 8

def k11m0 : Method := { name := "<init>", desc := "()V", sig := { parameters := [], returnType := none }, accessFlags := 2, code := none }
def k11c1 : Code := { maxStack := 4, maxLocals := 3, code := jdk_31_method_18_code, exceptionTable := #[], attributes := #[] }
def k11m1 : Method := { name := "checkFromToIndex", desc := "(III)I", sig := { parameters := [.int, .int, .int], returnType := some .int }, accessFlags := 9, code := some k11c1 }
/-- java/util/Objects -/
def k11 : Class := { plain "java/util/Objects" (some 0) with
  accessFlags := 49
  interfaces := #[]
  cf := some (fileOf pool11 42 #[] #[{ accessFlags := 2, nameIndex := 5, descriptorIndex := 6, attributes := #[] }, { accessFlags := 9, nameIndex := 113, descriptorIndex := 175, attributes := #[] }] 49 2 #[] #[])
  fields := #[]
  methods := #[k11m0, k11m1]
  instanceTypes := #[]
  staticTypes := #[]
  resolved := Array.replicate 184 none
  statics := none }

def pool12 : Array CpInfo := pool [(2, .class_ 4), (1, u "java/lang/Object"), (0, u "<init>"), (0, u "()V"), (17, .class_ 26), (1, u "jdk/internal/util/Preconditions"), (20, u "checkFromToIndex"), (7, .class_ 56), (0, u "jdk/internal/util/Preconditions$4"), (57, .class_ 115), (0, u "jdk/internal/util/Preconditions$1"), (7, u "SIOOBE_FORMATTER"), (0, u "Ljava/util/function/BiFunction;"), (0, .class_ 126), (0, u "jdk/internal/util/Preconditions$2"), (3, u "AIOOBE_FORMATTER"), (0, .class_ 132), (0, u "jdk/internal/util/Preconditions$3"), (3, u "IOOBE_FORMATTER"), (46, u "(IIILjava/util/function/BiFunction;)I")] 10

def k12m0 : Method := { name := "<init>", desc := "()V", sig := { parameters := [], returnType := none }, accessFlags := 1, code := none }
def k12c1 : Code := { maxStack := 4, maxLocals := 4, code := jdk_41_method_12_code, exceptionTable := #[], attributes := #[] }
def k12m1 : Method := { name := "checkFromToIndex", desc := "(IIILjava/util/function/BiFunction;)I", sig := { parameters := [.int, .int, .int, (.object "java/util/function/BiFunction")], returnType := some .int }, accessFlags := 9, code := some k12c1 }
/-- jdk/internal/util/Preconditions -/
def k12 : Class := { plain "jdk/internal/util/Preconditions" (some 0) with
  accessFlags := 33
  interfaces := #[]
  cf := some (fileOf pool12 24 #[.nestMembers #[55, 131, 125, 114]] #[{ accessFlags := 1, nameIndex := 5, descriptorIndex := 6, attributes := #[] }, { accessFlags := 9, nameIndex := 47, descriptorIndex := 183, attributes := #[] }] 33 2 #[] #[{ accessFlags := 25, nameIndex := 123, descriptorIndex := 124, attributes := #[] }, { accessFlags := 25, nameIndex := 130, descriptorIndex := 124, attributes := #[] }, { accessFlags := 25, nameIndex := 136, descriptorIndex := 124, attributes := #[] }])
  fields := #[{ name := "SIOOBE_FORMATTER", type := (.object "java/util/function/BiFunction"), accessFlags := 25, slot := 0, constantValue := 0 }, { name := "AIOOBE_FORMATTER", type := (.object "java/util/function/BiFunction"), accessFlags := 25, slot := 1, constantValue := 0 }, { name := "IOOBE_FORMATTER", type := (.object "java/util/function/BiFunction"), accessFlags := 25, slot := 2, constantValue := 0 }]
  methods := #[k12m0, k12m1]
  instanceTypes := #[]
  staticTypes := #[(.object "java/util/function/BiFunction"), (.object "java/util/function/BiFunction"), (.object "java/util/function/BiFunction")]
  resolved := Array.replicate 194 none
  statics := some 2 }

def pool13 : Array CpInfo := pool [(1, .class_ 2), (0, u "java/lang/Character"), (18, u "value"), (0, u "C"), (19, .class_ 44), (1, u "java/lang/Object"), (3, .class_ 50), (1, u "java/lang/Character$CharacterCache"), (24, .integer 55296), (0, .integer 56320), (0, .integer 57344), (2, u "isHighSurrogate"), (0, u "(C)Z"), (2, u "isLowSurrogate"), (199, u "$assertionsDisabled"), (0, u "Z"), (21, .class_ 309), (1, u "java/lang/Character$UnicodeBlock"), (73, u "TYPE"), (0, u "Ljava/lang/Class;"), (0, .class_ 386), (0, u "java/io/Serializable"), (0, .class_ 388), (0, u "java/lang/Comparable"), (0, .class_ 390), (0, u "java/lang/constant/Constable"), (0, u "MIN_RADIX"), (0, u "I"), (2, u "MAX_RADIX"), (1, u "MIN_VALUE"), (1, u "MAX_VALUE"), (3, u "UNASSIGNED"), (0, u "B"), (0, u "UPPERCASE_LETTER"), (1, u "LOWERCASE_LETTER"), (0, u "TITLECASE_LETTER"), (1, u "MODIFIER_LETTER"), (1, u "OTHER_LETTER"), (1, u "NON_SPACING_MARK"), (1, u "ENCLOSING_MARK"), (1, u "COMBINING_SPACING_MARK"), (1, u "DECIMAL_DIGIT_NUMBER"), (1, u "LETTER_NUMBER"), (1, u "OTHER_NUMBER"), (1, u "SPACE_SEPARATOR"), (1, u "LINE_SEPARATOR"), (1, u "PARAGRAPH_SEPARATOR"), (1, u "CONTROL"), (1, u "FORMAT"), (1, u "PRIVATE_USE"), (1, u "SURROGATE"), (1, u "DASH_PUNCTUATION"), (1, u "START_PUNCTUATION"), (1, u "END_PUNCTUATION"), (1, u "CONNECTOR_PUNCTUATION"), (1, u "OTHER_PUNCTUATION"), (1, u "MATH_SYMBOL"), (1, u "CURRENCY_SYMBOL"), (1, u "MODIFIER_SYMBOL"), (1, u "OTHER_SYMBOL"), (1, u "INITIAL_QUOTE_PUNCTUATION"), (1, u "FINAL_QUOTE_PUNCTUATION"), (1, u "ERROR"), (1, u "DIRECTIONALITY_UNDEFINED"), (0, u "DIRECTIONALITY_LEFT_TO_RIGHT"), (0, u "DIRECTIONALITY_RIGHT_TO_LEFT"), (0, u "DIRECTIONALITY_RIGHT_TO_LEFT_ARABIC"), (0, u "DIRECTIONALITY_EUROPEAN_NUMBER"), (0, u "DIRECTIONALITY_EUROPEAN_NUMBER_SEPARATOR"), (0, u "DIRECTIONALITY_EUROPEAN_NUMBER_TERMINATOR"), (0, u "DIRECTIONALITY_ARABIC_NUMBER"), (0, u "DIRECTIONALITY_COMMON_NUMBER_SEPARATOR"), (0, u "DIRECTIONALITY_NONSPACING_MARK"), (0, u "DIRECTIONALITY_BOUNDARY_NEUTRAL"), (0, u "DIRECTIONALITY_PARAGRAPH_SEPARATOR"), (0, u "DIRECTIONALITY_SEGMENT_SEPARATOR"), (0, u "DIRECTIONALITY_WHITESPACE"), (0, u "DIRECTIONALITY_OTHER_NEUTRALS"), (0, u "DIRECTIONALITY_LEFT_TO_RIGHT_EMBEDDING"), (0, u "DIRECTIONALITY_LEFT_TO_RIGHT_OVERRIDE"), (0, u "DIRECTIONALITY_RIGHT_TO_LEFT_EMBEDDING"), (0, u "DIRECTIONALITY_RIGHT_TO_LEFT_OVERRIDE"), (1, u "DIRECTIONALITY_POP_DIRECTIONAL_FORMAT"), (0, u "DIRECTIONALITY_LEFT_TO_RIGHT_ISOLATE"), (0, u "DIRECTIONALITY_RIGHT_TO_LEFT_ISOLATE"), (0, u "DIRECTIONALITY_FIRST_STRONG_ISOLATE"), (0, u "DIRECTIONALITY_POP_DIRECTIONAL_ISOLATE"), (0, u "MIN_HIGH_SURROGATE"), (0, u "MAX_HIGH_SURROGATE"), (1, u "MIN_LOW_SURROGATE"), (0, u "MAX_LOW_SURROGATE"), (1, u "MIN_SURROGATE"), (0, u "MAX_SURROGATE"), (0, u "MIN_SUPPLEMENTARY_CODE_POINT"), (0, u "MIN_CODE_POINT"), (0, u "MAX_CODE_POINT"), (1, u "serialVersionUID"), (0, u "J"), (2, u "SIZE"), (0, u "BYTES"), (88, .class_ 596), (0, u "java/lang/Character$UnicodeScript"), (0, .class_ 598), (0, u "java/lang/Character$Subset")] 5

def k13c0 : Code := { maxStack := 2, maxLocals := 1, code := jdk_89_method_14_code, exceptionTable := #[], attributes := #[] }
def k13m0 : Method := { name := "isHighSurrogate", desc := "(C)Z", sig := { parameters := [.char], returnType := some .boolean }, accessFlags := 9, code := some k13c0 }
def k13c1 : Code := { maxStack := 2, maxLocals := 1, code := jdk_89_method_15_code, exceptionTable := #[], attributes := #[] }
def k13m1 : Method := { name := "isLowSurrogate", desc := "(C)Z", sig := { parameters := [.char], returnType := some .boolean }, accessFlags := 9, code := some k13c1 }
/-- java/lang/Character -/
def k13 : Class := { plain "java/lang/Character" (some 0) with
  accessFlags := 49
  interfaces := #[2, 3, 5]
  cf := some (fileOf pool13 1 #[.nestMembers #[48, 595, 307, 597]] #[{ accessFlags := 9, nameIndex := 80, descriptorIndex := 81, attributes := #[] }, { accessFlags := 9, nameIndex := 84, descriptorIndex := 81, attributes := #[] }] 49 42 #[385, 387, 389] #[{ accessFlags := 25, nameIndex := 391, descriptorIndex := 392, attributes := #[] }, { accessFlags := 25, nameIndex := 395, descriptorIndex := 392, attributes := #[] }, { accessFlags := 25, nameIndex := 397, descriptorIndex := 22, attributes := #[] }, { accessFlags := 25, nameIndex := 399, descriptorIndex := 22, attributes := #[] }, { accessFlags := 25, nameIndex := 383, descriptorIndex := 384, attributes := #[] }, { accessFlags := 25, nameIndex := 403, descriptorIndex := 404, attributes := #[] }, { accessFlags := 25, nameIndex := 405, descriptorIndex := 404, attributes := #[] }, { accessFlags := 25, nameIndex := 407, descriptorIndex := 404, attributes := #[] }, { accessFlags := 25, nameIndex := 408, descriptorIndex := 404, attributes := #[] }, { accessFlags := 25, nameIndex := 410, descriptorIndex := 404, attributes := #[] }, { accessFlags := 25, nameIndex := 412, descriptorIndex := 404, attributes := #[] }, { accessFlags := 25, nameIndex := 414, descriptorIndex := 404, attributes := #[] }, { accessFlags := 25, nameIndex := 416, descriptorIndex := 404, attributes := #[] }, { accessFlags := 25, nameIndex := 418, descriptorIndex := 404, attributes := #[] }, { accessFlags := 25, nameIndex := 420, descriptorIndex := 404, attributes := #[] }, { accessFlags := 25, nameIndex := 422, descriptorIndex := 404, attributes := #[] }, { accessFlags := 25, nameIndex := 424, descriptorIndex := 404, attributes := #[] }, { accessFlags := 25, nameIndex := 426, descriptorIndex := 404, attributes := #[] }, { accessFlags := 25, nameIndex := 428, descriptorIndex := 404, attributes := #[] }, { accessFlags := 25, nameIndex := 430, descriptorIndex := 404, attributes := #[] }, { accessFlags := 25, nameIndex := 432, descriptorIndex := 404, attributes := #[] }, { accessFlags := 25, nameIndex := 434, descriptorIndex := 404, attributes := #[] }, { accessFlags := 25, nameIndex := 436, descriptorIndex := 404, attributes := #[] }, { accessFlags := 25, nameIndex := 438, descriptorIndex := 404, attributes := #[] }, { accessFlags := 25, nameIndex := 440, descriptorIndex := 404, attributes := #[] }, { accessFlags := 25, nameIndex := 442, descriptorIndex := 404, attributes := #[] }, { accessFlags := 25, nameIndex := 444, descriptorIndex := 404, attributes := #[] }, { accessFlags := 25, nameIndex := 446, descriptorIndex := 404, attributes := #[] }, { accessFlags := 25, nameIndex := 448, descriptorIndex := 404, attributes := #[] }, { accessFlags := 25, nameIndex := 450, descriptorIndex := 404, attributes := #[] }, { accessFlags := 25, nameIndex := 452, descriptorIndex := 404, attributes := #[] }, { accessFlags := 25, nameIndex := 454, descriptorIndex := 404, attributes := #[] }, { accessFlags := 25, nameIndex := 456, descriptorIndex := 404, attributes := #[] }, { accessFlags := 25, nameIndex := 458, descriptorIndex := 404, attributes := #[] }, { accessFlags := 25, nameIndex := 460, descriptorIndex := 404, attributes := #[] }, { accessFlags := 24, nameIndex := 462, descriptorIndex := 392, attributes := #[] }, { accessFlags := 25, nameIndex := 464, descriptorIndex := 404, attributes := #[] }, { accessFlags := 25, nameIndex := 465, descriptorIndex := 404, attributes := #[] }, { accessFlags := 25, nameIndex := 466, descriptorIndex := 404, attributes := #[] }, { accessFlags := 25, nameIndex := 467, descriptorIndex := 404, attributes := #[] }, { accessFlags := 25, nameIndex := 468, descriptorIndex := 404, attributes := #[] }, { accessFlags := 25, nameIndex := 469, descriptorIndex := 404, attributes := #[] }, { accessFlags := 25, nameIndex := 470, descriptorIndex := 404, attributes := #[] }, { accessFlags := 25, nameIndex := 471, descriptorIndex := 404, attributes := #[] }, { accessFlags := 25, nameIndex := 472, descriptorIndex := 404, attributes := #[] }, { accessFlags := 25, nameIndex := 473, descriptorIndex := 404, attributes := #[] }, { accessFlags := 25, nameIndex := 474, descriptorIndex := 404, attributes := #[] }, { accessFlags := 25, nameIndex := 475, descriptorIndex := 404, attributes := #[] }, { accessFlags := 25, nameIndex := 476, descriptorIndex := 404, attributes := #[] }, { accessFlags := 25, nameIndex := 477, descriptorIndex := 404, attributes := #[] }, { accessFlags := 25, nameIndex := 478, descriptorIndex := 404, attributes := #[] }, { accessFlags := 25, nameIndex := 479, descriptorIndex := 404, attributes := #[] }, { accessFlags := 25, nameIndex := 480, descriptorIndex := 404, attributes := #[] }, { accessFlags := 25, nameIndex := 481, descriptorIndex := 404, attributes := #[] }, { accessFlags := 25, nameIndex := 482, descriptorIndex := 404, attributes := #[] }, { accessFlags := 25, nameIndex := 484, descriptorIndex := 404, attributes := #[] }, { accessFlags := 25, nameIndex := 485, descriptorIndex := 404, attributes := #[] }, { accessFlags := 25, nameIndex := 486, descriptorIndex := 404, attributes := #[] }, { accessFlags := 25, nameIndex := 487, descriptorIndex := 404, attributes := #[] }, { accessFlags := 25, nameIndex := 488, descriptorIndex := 404, attributes := #[] }, { accessFlags := 25, nameIndex := 489, descriptorIndex := 22, attributes := #[] }, { accessFlags := 25, nameIndex := 490, descriptorIndex := 22, attributes := #[] }, { accessFlags := 25, nameIndex := 492, descriptorIndex := 22, attributes := #[] }, { accessFlags := 25, nameIndex := 493, descriptorIndex := 22, attributes := #[] }, { accessFlags := 25, nameIndex := 495, descriptorIndex := 22, attributes := #[] }, { accessFlags := 25, nameIndex := 496, descriptorIndex := 22, attributes := #[] }, { accessFlags := 25, nameIndex := 497, descriptorIndex := 392, attributes := #[] }, { accessFlags := 25, nameIndex := 498, descriptorIndex := 392, attributes := #[] }, { accessFlags := 25, nameIndex := 499, descriptorIndex := 392, attributes := #[] }, { accessFlags := 18, nameIndex := 21, descriptorIndex := 22, attributes := #[] }, { accessFlags := 26, nameIndex := 501, descriptorIndex := 502, attributes := #[] }, { accessFlags := 25, nameIndex := 505, descriptorIndex := 392, attributes := #[] }, { accessFlags := 25, nameIndex := 506, descriptorIndex := 392, attributes := #[] }, { accessFlags := 4120, nameIndex := 284, descriptorIndex := 285, attributes := #[] }])
  fields := #[{ name := "MIN_RADIX", type := .int, accessFlags := 25, slot := 0, constantValue := 0 }, { name := "MAX_RADIX", type := .int, accessFlags := 25, slot := 1, constantValue := 0 }, { name := "MIN_VALUE", type := .char, accessFlags := 25, slot := 2, constantValue := 0 }, { name := "MAX_VALUE", type := .char, accessFlags := 25, slot := 3, constantValue := 0 }, { name := "TYPE", type := (.object "java/lang/Class"), accessFlags := 25, slot := 4, constantValue := 0 }, { name := "UNASSIGNED", type := .byte, accessFlags := 25, slot := 5, constantValue := 0 }, { name := "UPPERCASE_LETTER", type := .byte, accessFlags := 25, slot := 6, constantValue := 0 }, { name := "LOWERCASE_LETTER", type := .byte, accessFlags := 25, slot := 7, constantValue := 0 }, { name := "TITLECASE_LETTER", type := .byte, accessFlags := 25, slot := 8, constantValue := 0 }, { name := "MODIFIER_LETTER", type := .byte, accessFlags := 25, slot := 9, constantValue := 0 }, { name := "OTHER_LETTER", type := .byte, accessFlags := 25, slot := 10, constantValue := 0 }, { name := "NON_SPACING_MARK", type := .byte, accessFlags := 25, slot := 11, constantValue := 0 }, { name := "ENCLOSING_MARK", type := .byte, accessFlags := 25, slot := 12, constantValue := 0 }, { name := "COMBINING_SPACING_MARK", type := .byte, accessFlags := 25, slot := 13, constantValue := 0 }, { name := "DECIMAL_DIGIT_NUMBER", type := .byte, accessFlags := 25, slot := 14, constantValue := 0 }, { name := "LETTER_NUMBER", type := .byte, accessFlags := 25, slot := 15, constantValue := 0 }, { name := "OTHER_NUMBER", type := .byte, accessFlags := 25, slot := 16, constantValue := 0 }, { name := "SPACE_SEPARATOR", type := .byte, accessFlags := 25, slot := 17, constantValue := 0 }, { name := "LINE_SEPARATOR", type := .byte, accessFlags := 25, slot := 18, constantValue := 0 }, { name := "PARAGRAPH_SEPARATOR", type := .byte, accessFlags := 25, slot := 19, constantValue := 0 }, { name := "CONTROL", type := .byte, accessFlags := 25, slot := 20, constantValue := 0 }, { name := "FORMAT", type := .byte, accessFlags := 25, slot := 21, constantValue := 0 }, { name := "PRIVATE_USE", type := .byte, accessFlags := 25, slot := 22, constantValue := 0 }, { name := "SURROGATE", type := .byte, accessFlags := 25, slot := 23, constantValue := 0 }, { name := "DASH_PUNCTUATION", type := .byte, accessFlags := 25, slot := 24, constantValue := 0 }, { name := "START_PUNCTUATION", type := .byte, accessFlags := 25, slot := 25, constantValue := 0 }, { name := "END_PUNCTUATION", type := .byte, accessFlags := 25, slot := 26, constantValue := 0 }, { name := "CONNECTOR_PUNCTUATION", type := .byte, accessFlags := 25, slot := 27, constantValue := 0 }, { name := "OTHER_PUNCTUATION", type := .byte, accessFlags := 25, slot := 28, constantValue := 0 }, { name := "MATH_SYMBOL", type := .byte, accessFlags := 25, slot := 29, constantValue := 0 }, { name := "CURRENCY_SYMBOL", type := .byte, accessFlags := 25, slot := 30, constantValue := 0 }, { name := "MODIFIER_SYMBOL", type := .byte, accessFlags := 25, slot := 31, constantValue := 0 }, { name := "OTHER_SYMBOL", type := .byte, accessFlags := 25, slot := 32, constantValue := 0 }, { name := "INITIAL_QUOTE_PUNCTUATION", type := .byte, accessFlags := 25, slot := 33, constantValue := 0 }, { name := "FINAL_QUOTE_PUNCTUATION", type := .byte, accessFlags := 25, slot := 34, constantValue := 0 }, { name := "ERROR", type := .int, accessFlags := 24, slot := 35, constantValue := 0 }, { name := "DIRECTIONALITY_UNDEFINED", type := .byte, accessFlags := 25, slot := 36, constantValue := 0 }, { name := "DIRECTIONALITY_LEFT_TO_RIGHT", type := .byte, accessFlags := 25, slot := 37, constantValue := 0 }, { name := "DIRECTIONALITY_RIGHT_TO_LEFT", type := .byte, accessFlags := 25, slot := 38, constantValue := 0 }, { name := "DIRECTIONALITY_RIGHT_TO_LEFT_ARABIC", type := .byte, accessFlags := 25, slot := 39, constantValue := 0 }, { name := "DIRECTIONALITY_EUROPEAN_NUMBER", type := .byte, accessFlags := 25, slot := 40, constantValue := 0 }, { name := "DIRECTIONALITY_EUROPEAN_NUMBER_SEPARATOR", type := .byte, accessFlags := 25, slot := 41, constantValue := 0 }, { name := "DIRECTIONALITY_EUROPEAN_NUMBER_TERMINATOR", type := .byte, accessFlags := 25, slot := 42, constantValue := 0 }, { name := "DIRECTIONALITY_ARABIC_NUMBER", type := .byte, accessFlags := 25, slot := 43, constantValue := 0 }, { name := "DIRECTIONALITY_COMMON_NUMBER_SEPARATOR", type := .byte, accessFlags := 25, slot := 44, constantValue := 0 }, { name := "DIRECTIONALITY_NONSPACING_MARK", type := .byte, accessFlags := 25, slot := 45, constantValue := 0 }, { name := "DIRECTIONALITY_BOUNDARY_NEUTRAL", type := .byte, accessFlags := 25, slot := 46, constantValue := 0 }, { name := "DIRECTIONALITY_PARAGRAPH_SEPARATOR", type := .byte, accessFlags := 25, slot := 47, constantValue := 0 }, { name := "DIRECTIONALITY_SEGMENT_SEPARATOR", type := .byte, accessFlags := 25, slot := 48, constantValue := 0 }, { name := "DIRECTIONALITY_WHITESPACE", type := .byte, accessFlags := 25, slot := 49, constantValue := 0 }, { name := "DIRECTIONALITY_OTHER_NEUTRALS", type := .byte, accessFlags := 25, slot := 50, constantValue := 0 }, { name := "DIRECTIONALITY_LEFT_TO_RIGHT_EMBEDDING", type := .byte, accessFlags := 25, slot := 51, constantValue := 0 }, { name := "DIRECTIONALITY_LEFT_TO_RIGHT_OVERRIDE", type := .byte, accessFlags := 25, slot := 52, constantValue := 0 }, { name := "DIRECTIONALITY_RIGHT_TO_LEFT_EMBEDDING", type := .byte, accessFlags := 25, slot := 53, constantValue := 0 }, { name := "DIRECTIONALITY_RIGHT_TO_LEFT_OVERRIDE", type := .byte, accessFlags := 25, slot := 54, constantValue := 0 }, { name := "DIRECTIONALITY_POP_DIRECTIONAL_FORMAT", type := .byte, accessFlags := 25, slot := 55, constantValue := 0 }, { name := "DIRECTIONALITY_LEFT_TO_RIGHT_ISOLATE", type := .byte, accessFlags := 25, slot := 56, constantValue := 0 }, { name := "DIRECTIONALITY_RIGHT_TO_LEFT_ISOLATE", type := .byte, accessFlags := 25, slot := 57, constantValue := 0 }, { name := "DIRECTIONALITY_FIRST_STRONG_ISOLATE", type := .byte, accessFlags := 25, slot := 58, constantValue := 0 }, { name := "DIRECTIONALITY_POP_DIRECTIONAL_ISOLATE", type := .byte, accessFlags := 25, slot := 59, constantValue := 0 }, { name := "MIN_HIGH_SURROGATE", type := .char, accessFlags := 25, slot := 60, constantValue := 0 }, { name := "MAX_HIGH_SURROGATE", type := .char, accessFlags := 25, slot := 61, constantValue := 0 }, { name := "MIN_LOW_SURROGATE", type := .char, accessFlags := 25, slot := 62, constantValue := 0 }, { name := "MAX_LOW_SURROGATE", type := .char, accessFlags := 25, slot := 63, constantValue := 0 }, { name := "MIN_SURROGATE", type := .char, accessFlags := 25, slot := 64, constantValue := 0 }, { name := "MAX_SURROGATE", type := .char, accessFlags := 25, slot := 65, constantValue := 0 }, { name := "MIN_SUPPLEMENTARY_CODE_POINT", type := .int, accessFlags := 25, slot := 66, constantValue := 0 }, { name := "MIN_CODE_POINT", type := .int, accessFlags := 25, slot := 67, constantValue := 0 }, { name := "MAX_CODE_POINT", type := .int, accessFlags := 25, slot := 68, constantValue := 0 }, { name := "value", type := .char, accessFlags := 18, slot := 0, constantValue := 0 }, { name := "serialVersionUID", type := .long, accessFlags := 26, slot := 69, constantValue := 0 }, { name := "SIZE", type := .int, accessFlags := 25, slot := 70, constantValue := 0 }, { name := "BYTES", type := .int, accessFlags := 25, slot := 71, constantValue := 0 }, { name := "$assertionsDisabled", type := .boolean, accessFlags := 4120, slot := 72, constantValue := 0 }]
  methods := #[k13m0, k13m1]
  instanceTypes := #[.char]
  staticTypes := #[.int, .int, .char, .char, (.object "java/lang/Class"), .byte, .byte, .byte, .byte, .byte, .byte, .byte, .byte, .byte, .byte, .byte, .byte, .byte, .byte, .byte, .byte, .byte, .byte, .byte, .byte, .byte, .byte, .byte, .byte, .byte, .byte, .byte, .byte, .byte, .byte, .int, .byte, .byte, .byte, .byte, .byte, .byte, .byte, .byte, .byte, .byte, .byte, .byte, .byte, .byte, .byte, .byte, .byte, .byte, .byte, .byte, .byte, .byte, .byte, .byte, .char, .char, .char, .char, .char, .char, .int, .int, .int, .long, .int, .int, .boolean]
  resolved := Array.replicate 604 none
  statics := none }

def pool14 : Array CpInfo := pool [(4, .class_ 6), (1, u "java/lang/Object"), (0, u "<init>"), (0, u "()V"), (5, .class_ 16), (1, u "java/lang/StringLatin1"), (104, u "$assertionsDisabled"), (0, u "Z"), (98, .class_ 223), (1, u "java/lang/StringLatin1$LinesSpliterator"), (166, .class_ 391), (0, u "java/lang/StringLatin1$CharsSpliterator")] 3

def k14m0 : Method := { name := "<init>", desc := "()V", sig := { parameters := [], returnType := none }, accessFlags := 0, code := none }
/-- java/lang/StringLatin1 -/
def k14 : Class := { plain "java/lang/StringLatin1" (some 0) with
  accessFlags := 48
  interfaces := #[]
  cf := some (fileOf pool14 14 #[.nestMembers #[390, 221]] #[{ accessFlags := 0, nameIndex := 7, descriptorIndex := 8, attributes := #[] }] 48 4 #[] #[{ accessFlags := 4120, nameIndex := 121, descriptorIndex := 122, attributes := #[] }])
  fields := #[{ name := "$assertionsDisabled", type := .boolean, accessFlags := 4120, slot := 0, constantValue := 0 }]
  methods := #[k14m0]
  instanceTypes := #[]
  staticTypes := #[.boolean]
  resolved := Array.replicate 395 none
  statics := none }

def pool15 : Array CpInfo := pool [(9, u "<init>"), (6, .class_ 18), (1, u "java/lang/Object"), (0, u "()V"), (1, .class_ 23), (1, u "jdk/internal/util/ArraysSupport"), (0, u "LOG2_ARRAY_LONG_INDEX_SCALE"), (0, u "I"), (2, u "U"), (0, u "Ljdk/internal/misc/Unsafe;"), (8, u "BIG_ENDIAN"), (0, u "Z"), (8, u "LOG2_BYTE_BIT_SIZE"), (4, u "LOG2_ARRAY_INT_INDEX_SCALE"), (54, u "JLA"), (0, u "Ljdk/internal/access/JavaLangAccess;"), (11, u "LOG2_ARRAY_BOOLEAN_INDEX_SCALE"), (9, u "LOG2_ARRAY_BYTE_INDEX_SCALE"), (5, u "LOG2_ARRAY_CHAR_INDEX_SCALE"), (5, u "LOG2_ARRAY_SHORT_INDEX_SCALE"), (18, u "LOG2_ARRAY_FLOAT_INDEX_SCALE"), (24, u "LOG2_ARRAY_DOUBLE_INDEX_SCALE"), (89, u "T_BOOLEAN"), (2, u "T_CHAR"), (1, u "T_FLOAT"), (1, u "T_DOUBLE"), (1, u "T_BYTE"), (1, u "T_SHORT"), (1, u "T_INT"), (1, u "T_LONG"), (1, u "SOFT_MAX_ARRAY_LENGTH")] 83

def k15m0 : Method := { name := "<init>", desc := "()V", sig := { parameters := [], returnType := none }, accessFlags := 2, code := none }
/-- jdk/internal/util/ArraysSupport -/
def k15 : Class := { plain "jdk/internal/util/ArraysSupport" (some 0) with
  accessFlags := 33
  interfaces := #[]
  cf := some (fileOf pool15 21 #[] #[{ accessFlags := 2, nameIndex := 9, descriptorIndex := 19, attributes := #[] }] 33 16 #[] #[{ accessFlags := 24, nameIndex := 28, descriptorIndex := 29, attributes := #[] }, { accessFlags := 26, nameIndex := 38, descriptorIndex := 39, attributes := #[] }, { accessFlags := 25, nameIndex := 121, descriptorIndex := 25, attributes := #[] }, { accessFlags := 25, nameIndex := 131, descriptorIndex := 25, attributes := #[] }, { accessFlags := 25, nameIndex := 137, descriptorIndex := 25, attributes := #[] }, { accessFlags := 25, nameIndex := 143, descriptorIndex := 25, attributes := #[] }, { accessFlags := 25, nameIndex := 53, descriptorIndex := 25, attributes := #[] }, { accessFlags := 25, nameIndex := 24, descriptorIndex := 25, attributes := #[] }, { accessFlags := 25, nameIndex := 162, descriptorIndex := 25, attributes := #[] }, { accessFlags := 25, nameIndex := 187, descriptorIndex := 25, attributes := #[] }, { accessFlags := 26, nameIndex := 48, descriptorIndex := 25, attributes := #[] }, { accessFlags := 25, nameIndex := 277, descriptorIndex := 25, attributes := #[] }, { accessFlags := 25, nameIndex := 280, descriptorIndex := 25, attributes := #[] }, { accessFlags := 25, nameIndex := 282, descriptorIndex := 25, attributes := #[] }, { accessFlags := 25, nameIndex := 284, descriptorIndex := 25, attributes := #[] }, { accessFlags := 25, nameIndex := 286, descriptorIndex := 25, attributes := #[] }, { accessFlags := 25, nameIndex := 288, descriptorIndex := 25, attributes := #[] }, { accessFlags := 25, nameIndex := 290, descriptorIndex := 25, attributes := #[] }, { accessFlags := 25, nameIndex := 292, descriptorIndex := 25, attributes := #[] }, { accessFlags := 26, nameIndex := 108, descriptorIndex := 109, attributes := #[] }, { accessFlags := 25, nameIndex := 294, descriptorIndex := 25, attributes := #[] }])
  fields := #[{ name := "U", type := (.object "jdk/internal/misc/Unsafe"), accessFlags := 24, slot := 0, constantValue := 0 }, { name := "BIG_ENDIAN", type := .boolean, accessFlags := 26, slot := 1, constantValue := 0 }, { name := "LOG2_ARRAY_BOOLEAN_INDEX_SCALE", type := .int, accessFlags := 25, slot := 2, constantValue := 0 }, { name := "LOG2_ARRAY_BYTE_INDEX_SCALE", type := .int, accessFlags := 25, slot := 3, constantValue := 0 }, { name := "LOG2_ARRAY_CHAR_INDEX_SCALE", type := .int, accessFlags := 25, slot := 4, constantValue := 0 }, { name := "LOG2_ARRAY_SHORT_INDEX_SCALE", type := .int, accessFlags := 25, slot := 5, constantValue := 0 }, { name := "LOG2_ARRAY_INT_INDEX_SCALE", type := .int, accessFlags := 25, slot := 6, constantValue := 0 }, { name := "LOG2_ARRAY_LONG_INDEX_SCALE", type := .int, accessFlags := 25, slot := 7, constantValue := 0 }, { name := "LOG2_ARRAY_FLOAT_INDEX_SCALE", type := .int, accessFlags := 25, slot := 8, constantValue := 0 }, { name := "LOG2_ARRAY_DOUBLE_INDEX_SCALE", type := .int, accessFlags := 25, slot := 9, constantValue := 0 }, { name := "LOG2_BYTE_BIT_SIZE", type := .int, accessFlags := 26, slot := 10, constantValue := 0 }, { name := "T_BOOLEAN", type := .int, accessFlags := 25, slot := 11, constantValue := 0 }, { name := "T_CHAR", type := .int, accessFlags := 25, slot := 12, constantValue := 0 }, { name := "T_FLOAT", type := .int, accessFlags := 25, slot := 13, constantValue := 0 }, { name := "T_DOUBLE", type := .int, accessFlags := 25, slot := 14, constantValue := 0 }, { name := "T_BYTE", type := .int, accessFlags := 25, slot := 15, constantValue := 0 }, { name := "T_SHORT", type := .int, accessFlags := 25, slot := 16, constantValue := 0 }, { name := "T_INT", type := .int, accessFlags := 25, slot := 17, constantValue := 0 }, { name := "T_LONG", type := .int, accessFlags := 25, slot := 18, constantValue := 0 }, { name := "JLA", type := (.object "jdk/internal/access/JavaLangAccess"), accessFlags := 26, slot := 19, constantValue := 0 }, { name := "SOFT_MAX_ARRAY_LENGTH", type := .int, accessFlags := 25, slot := 20, constantValue := 0 }]
  methods := #[k15m0]
  instanceTypes := #[]
  staticTypes := #[(.object "jdk/internal/misc/Unsafe"), .boolean, .int, .int, .int, .int, .int, .int, .int, .int, .int, .int, .int, .int, .int, .int, .int, .int, .int, (.object "jdk/internal/access/JavaLangAccess"), .int]
  resolved := Array.replicate 378 none
  statics := none }

def pool16 : Array CpInfo := pool [(1, u "java/lang/Cloneable"), (0, .class_ 1), (0, u "java/lang/Object"), (0, .class_ 3)] 3

/-- java/lang/Cloneable -/
def k16 : Class := { plain "java/lang/Cloneable" (some 0) with
  accessFlags := 1537
  interfaces := #[]
  cf := some (fileOf pool16 2 #[] #[] 1537 4 #[] #[])
  fields := #[]
  methods := #[]
  instanceTypes := #[]
  staticTypes := #[]
  resolved := Array.replicate 8 none
  statics := none }

/-- the primitive byte -/
def k17 : Class := { plain "byte" none with kind := .primitive 'B', accessFlags := 0x411 }
/-- [B -/
def k18 : Class := { plain "[B" (some 0) with kind := .array 17 .byte, interfaces := #[16, 2], accessFlags := 1041 }

/-- the primitive char -/
def k19 : Class := { plain "char" none with kind := .primitive 'C', accessFlags := 0x411 }
/-- [C -/
def k20 : Class := { plain "[C" (some 0) with kind := .array 19 .char, interfaces := #[16, 2], accessFlags := 1041 }

/-- the primitive int -/
def k21 : Class := { plain "int" none with kind := .primitive 'I', accessFlags := 0x411 }
/-- [I -/
def k22 : Class := { plain "[I" (some 0) with kind := .array 21 .int, interfaces := #[16, 2], accessFlags := 1041 }

def heap : Heap := #[{ cls := 7, slots := #[.long 0, .int 1, .null, .int 0, .null, .int 0, .int 0], vm := .statics 7 },
  { cls := 8, slots := #[.int 0, .int 8, .int 0, .int 1], vm := .statics 8 },
  { cls := 12, slots := #[.null, .null, .null], vm := .statics 12 }]
def classes : Array Class := #[k0, k1, k2, k3, k4, k5, k6, k7, k8, k9, k10, k11, k12, k13, k14, k15, k16, k17, k18, k19, k20, k21, k22]
def interned : List (Array UInt16 × Addr) := []
def slotsUsed : Nat := 14
def theMethod : MethodId := ⟨1, 6⟩
def args0 : Array Value := #[.int 3, .int 2, .int 9, .int 8, .int 7, .int 6]
def aboutOver (below : List Frame) : State where
  vm := { classes := classes, interned := interned.toArray }
  heap := heap
  slotsUsed := slotsUsed
  threads := #[{ frames := .invoking theMethod args0 :: below }]
def below0 : List Frame := [.native { method := ⟨0, 0⟩, args := #[] }]
def about1 : State := aboutOver below0
def p0 : Program := .bare "" "" ""
def e0 : Env := launch0.env 0 0 0
theorem w_frames : about1.frames = Frame.invoking theMethod args0 :: below0 := rfl
set_option maxRecDepth 65536 in
theorem w_args : argsFit about1.vm theMethod args0 = true := by decide +kernel
set_option maxRecDepth 65536 in
theorem w_heap : heapFits about1 = true := by decide +kernel
set_option maxRecDepth 65536 in
theorem w_runnable : about1.curStatus? = some .runnable := by decide +kernel
set_option maxRecDepth 65536 in
theorem w_alone : about1.alone = true := by decide +kernel
set_option maxRecDepth 65536 in
theorem w_named : about1.methodNamed? x = some theMethod := by decide +kernel
set_option maxRecDepth 65536 in
theorem w_hears : about1.hears theMethod below0 = true := by decide +kernel
set_option maxRecDepth 65536 in
theorem w_ripe : about1.ripe theMethod args0 below0 = true := by decide +kernel
theorem w_running : about1.status = .running := rfl
set_option maxRecDepth 65536 in
theorem w_room : about1.hasRoom e0.platform room_1 = true :=
  launch0.hasRoom_least _ room_1 (by decide +kernel) (by decide +kernel) (by decide +kernel) (by decide +kernel) (by decide +kernel) (by decide +kernel)
theorem allAtoms_all (ts : List Jvm.Cond) (a : Array Jvm.Value) (st : Jvm.State) : (allAtoms ts).before a st = ts.all (fun c => c.before a st) := by
  induction ts with
  | nil => rfl
  | cons c t ih =>
    show (Jvm.Cond.and c (allAtoms t)).before a st = _
    rw [Jvm.Cond.before_and, ih, List.all_cons]
def words1 : List Jvm.Cond := Jvm.Cond.code x code maxLocals ret :: tables_1
/-- a 'code' word, met by the world's own term for the bytes: nothing is compared byte by byte -/
theorem code_word {y : MethodName} {bytes : ByteArray} {mx : Nat} {rt : Option FieldType} {a : Array Value} {s : State} {m : MethodId} {meth : Method} {c : Code} (h1 : s.methodNamed? y = some m) (h2 : s.vm.method? m = some meth) (h3 : meth.code = some c) (h4 : c.code = bytes)
    (h5 : (c.maxLocals == mx && c.exceptionTable.isEmpty && decide (c.maxStack ≤ mostOperands) && decide (meth.sig.returnType = rt) && !meth.locks && decide (parseMethodDescriptor y.desc = some meth.sig)) = true) : (Jvm.Cond.code y bytes mx rt).before a s = true := by
  simp only [Bool.and_eq_true, beq_iff_eq, Bool.not_eq_true', decide_eq_true_eq] at h5
  obtain ⟨⟨⟨⟨⟨g1, g2⟩, g3⟩, g4⟩, g5⟩, g6⟩ := h5
  simp [Cond.before, Cond.holds, Cond.value, h1, h2, h3, h4, g1, g2, g3, g4, g5, g6]
def isCode : Jvm.Cond → Bool
  | .code _ _ _ _ => true
  | _ => false
theorem all_split {L : List Jvm.Cond} {P : Jvm.Cond → Bool} (h1 : L.all (fun c => isCode c || P c) = true) (h2 : ∀ c ∈ L.filter isCode, P c = true) : L.all P = true := by
  refine List.all_eq_true.mpr fun c hc => ?_
  have h := List.all_eq_true.mp h1 c hc
  rcases Bool.eq_false_or_eq_true (isCode c) with hi | hi
  · exact h2 c (List.mem_filter.mpr ⟨hc, hi⟩)
  · simpa [hi] using h
set_option maxRecDepth 65536 in
theorem w_c0 : (Jvm.Cond.code x code maxLocals ret).before args0 about1 = true := code_word (m := ⟨1, 6⟩) (meth := k1m6) (c := k1c6) (by decide +kernel) rfl rfl rfl (by decide +kernel)
set_option maxRecDepth 65536 in
theorem w_c1 : (Jvm.Cond.code ({ cls := "com/example/vigilant_gate/vigilantgate/PasswordPolicyAdmitsPinLaw", name := "draw", desc := "(I)C" } : Jvm.MethodName) method_2_code (3 : Nat) (Option.some Jvm.ClassFile.FieldType.char)).before args0 about1 = true := code_word (m := ⟨1, 1⟩) (meth := k1m1) (c := k1c1) (by decide +kernel) rfl rfl rfl (by decide +kernel)
set_option maxRecDepth 65536 in
theorem w_c2 : (Jvm.Cond.code ({ cls := "com/example/vigilant_gate/vigilantgate/PasswordPolicyAdmitsPinLaw", name := "build", desc := "(ICCCC)Ljava/lang/String;" } : Jvm.MethodName) method_6_code (5 : Nat) (Option.some (Jvm.ClassFile.FieldType.object "java/lang/String"))).before args0 about1 = true := code_word (m := ⟨1, 5⟩) (meth := k1m5) (c := k1c5) (by decide +kernel) rfl rfl rfl (by decide +kernel)
set_option maxRecDepth 65536 in
theorem w_c3 : (Jvm.Cond.code ({ cls := "java/lang/String", name := "<init>", desc := "([C)V" } : Jvm.MethodName) jdk_42_method_3_code (2 : Nat) (Option.none : Option Jvm.ClassFile.FieldType)).before args0 about1 = true := code_word (m := ⟨7, 1⟩) (meth := k7m1) (c := k7c1) (by decide +kernel) rfl rfl rfl (by decide +kernel)
set_option maxRecDepth 65536 in
theorem w_c4 : (Jvm.Cond.code ({ cls := "java/lang/String", name := "<init>", desc := "([CIILjava/lang/Void;)V" } : Jvm.MethodName) jdk_42_method_149_code (6 : Nat) (Option.none : Option Jvm.ClassFile.FieldType)).before args0 about1 = true := code_word (m := ⟨7, 4⟩) (meth := k7m4) (c := k7c4) (by decide +kernel) rfl rfl rfl (by decide +kernel)
set_option maxRecDepth 65536 in
theorem w_c5 : (Jvm.Cond.code ({ cls := "java/lang/Object", name := "<init>", desc := "()V" } : Jvm.MethodName) object_method_1_code (1 : Nat) (Option.none : Option Jvm.ClassFile.FieldType)).before args0 about1 = true := code_word (m := ⟨0, 0⟩) (meth := k0m0) (c := k0c0) (by decide +kernel) rfl rfl rfl (by decide +kernel)
set_option maxRecDepth 65536 in
theorem w_c6 : (Jvm.Cond.code ({ cls := "java/lang/StringUTF16", name := "compress", desc := "([CII)[B" } : Jvm.MethodName) jdk_52_method_16_code (6 : Nat) (Option.some (Jvm.ClassFile.FieldType.array Jvm.ClassFile.FieldType.byte))).before args0 about1 = true := code_word (m := ⟨8, 9⟩) (meth := k8m9) (c := k8c9) (by decide +kernel) rfl rfl rfl (by decide +kernel)
set_option maxRecDepth 65536 in
theorem w_c7 : (Jvm.Cond.code ({ cls := "java/lang/StringUTF16", name := "compress", desc := "([CI[BII)I" } : Jvm.MethodName) jdk_52_method_21_code (7 : Nat) (Option.some Jvm.ClassFile.FieldType.int)).before args0 about1 = true := code_word (m := ⟨8, 10⟩) (meth := k8m10) (c := k8c10) (by decide +kernel) rfl rfl rfl (by decide +kernel)
set_option maxRecDepth 65536 in
theorem w_c8 : (Jvm.Cond.code ({ cls := "java/lang/StringUTF16", name := "toBytes", desc := "([CII)[B" } : Jvm.MethodName) jdk_52_method_14_code (5 : Nat) (Option.some (Jvm.ClassFile.FieldType.array Jvm.ClassFile.FieldType.byte))).before args0 about1 = true := code_word (m := ⟨8, 7⟩) (meth := k8m7) (c := k8c7) (by decide +kernel) rfl rfl rfl (by decide +kernel)
set_option maxRecDepth 65536 in
theorem w_c9 : (Jvm.Cond.code ({ cls := "java/lang/StringUTF16", name := "newBytesFor", desc := "(I)[B" } : Jvm.MethodName) jdk_52_method_2_code (1 : Nat) (Option.some (Jvm.ClassFile.FieldType.array Jvm.ClassFile.FieldType.byte))).before args0 about1 = true := code_word (m := ⟨8, 1⟩) (meth := k8m1) (c := k8c1) (by decide +kernel) rfl rfl rfl (by decide +kernel)
set_option maxRecDepth 65536 in
theorem w_c10 : (Jvm.Cond.code ({ cls := "java/lang/StringUTF16", name := "newBytesLength", desc := "(I)I" } : Jvm.MethodName) jdk_52_method_3_code (1 : Nat) (Option.some Jvm.ClassFile.FieldType.int)).before args0 about1 = true := code_word (m := ⟨8, 2⟩) (meth := k8m2) (c := k8c2) (by decide +kernel) rfl rfl rfl (by decide +kernel)
set_option maxRecDepth 65536 in
theorem w_c11 : (Jvm.Cond.code ({ cls := "java/lang/StringUTF16", name := "putChar", desc := "([BII)V" } : Jvm.MethodName) jdk_52_method_4_code (3 : Nat) (Option.none : Option Jvm.ClassFile.FieldType)).before args0 about1 = true := code_word (m := ⟨8, 3⟩) (meth := k8m3) (c := k8c3) (by decide +kernel) rfl rfl rfl (by decide +kernel)
set_option maxRecDepth 65536 in
theorem w_c12 : (Jvm.Cond.code ({ cls := "java/lang/StringUTF16", name := "getChar", desc := "([BI)C" } : Jvm.MethodName) jdk_52_method_5_code (2 : Nat) (Option.some Jvm.ClassFile.FieldType.char)).before args0 about1 = true := code_word (m := ⟨8, 4⟩) (meth := k8m4) (c := k8c4) (by decide +kernel) rfl rfl rfl (by decide +kernel)
set_option maxRecDepth 65536 in
theorem w_c13 : (Jvm.Cond.code ({ cls := "java/lang/StringUTF16", name := "coderFromArrayLen", desc := "([BI)B" } : Jvm.MethodName) jdk_52_method_15_code (2 : Nat) (Option.some Jvm.ClassFile.FieldType.byte)).before args0 about1 = true := code_word (m := ⟨8, 8⟩) (meth := k8m8) (c := k8c8) (by decide +kernel) rfl rfl rfl (by decide +kernel)
set_option maxRecDepth 65536 in
theorem w_c14 : (Jvm.Cond.code ({ cls := "com/example/vigilant_gate/vigilantgate/PasswordPolicyAdmitsPinLaw", name := "pair", desc := "(CC)I" } : Jvm.MethodName) method_5_code (2 : Nat) (Option.some Jvm.ClassFile.FieldType.int)).before args0 about1 = true := code_word (m := ⟨1, 4⟩) (meth := k1m4) (c := k1c4) (by decide +kernel) rfl rfl rfl (by decide +kernel)
set_option maxRecDepth 65536 in
theorem w_c15 : (Jvm.Cond.code ({ cls := "com/example/vigilant_gate/vigilantgate/PasswordPolicyAdmitsPinLaw", name := "isHigh", desc := "(C)Z" } : Jvm.MethodName) method_3_code (1 : Nat) (Option.some Jvm.ClassFile.FieldType.boolean)).before args0 about1 = true := code_word (m := ⟨1, 2⟩) (meth := k1m2) (c := k1c2) (by decide +kernel) rfl rfl rfl (by decide +kernel)
set_option maxRecDepth 65536 in
theorem w_c16 : (Jvm.Cond.code ({ cls := "com/example/vigilant_gate/vigilantgate/PasswordPolicyAdmitsPinLaw", name := "isLow", desc := "(C)Z" } : Jvm.MethodName) method_4_code (1 : Nat) (Option.some Jvm.ClassFile.FieldType.boolean)).before args0 about1 = true := code_word (m := ⟨1, 3⟩) (meth := k1m3) (c := k1c3) (by decide +kernel) rfl rfl rfl (by decide +kernel)
set_option maxRecDepth 65536 in
theorem w_c17 : (Jvm.Cond.code ({ cls := "com/example/vigilant_gate/vigilantgate/PasswordPolicy", name := "<init>", desc := "(I)V" } : Jvm.MethodName) prog_11_method_1_code (2 : Nat) (Option.none : Option Jvm.ClassFile.FieldType)).before args0 about1 = true := code_word (m := ⟨10, 0⟩) (meth := k10m0) (c := k10c0) (by decide +kernel) rfl rfl rfl (by decide +kernel)
set_option maxRecDepth 65536 in
theorem w_c18 : (Jvm.Cond.code ({ cls := "java/lang/Record", name := "<init>", desc := "()V" } : Jvm.MethodName) jdk_30_method_1_code (1 : Nat) (Option.none : Option Jvm.ClassFile.FieldType)).before args0 about1 = true := code_word (m := ⟨9, 0⟩) (meth := k9m0) (c := k9c0) (by decide +kernel) rfl rfl rfl (by decide +kernel)
set_option maxRecDepth 65536 in
theorem w_c19 : (Jvm.Cond.code ({ cls := "com/example/vigilant_gate/vigilantgate/PasswordPolicy", name := "admits", desc := "(Ljava/lang/String;)Z" } : Jvm.MethodName) prog_11_method_2_code (2 : Nat) (Option.some Jvm.ClassFile.FieldType.boolean)).before args0 about1 = true := code_word (m := ⟨10, 1⟩) (meth := k10m1) (c := k10c1) (by decide +kernel) rfl rfl rfl (by decide +kernel)
set_option maxRecDepth 65536 in
theorem w_c20 : (Jvm.Cond.code ({ cls := "java/lang/String", name := "length", desc := "()I" } : Jvm.MethodName) jdk_42_method_54_code (1 : Nat) (Option.some Jvm.ClassFile.FieldType.int)).before args0 about1 = true := code_word (m := ⟨7, 2⟩) (meth := k7m2) (c := k7c2) (by decide +kernel) rfl rfl rfl (by decide +kernel)
set_option maxRecDepth 65536 in
theorem w_c21 : (Jvm.Cond.code ({ cls := "java/lang/String", name := "coder", desc := "()B" } : Jvm.MethodName) jdk_42_method_152_code (1 : Nat) (Option.some Jvm.ClassFile.FieldType.byte)).before args0 about1 = true := code_word (m := ⟨7, 5⟩) (meth := k7m5) (c := k7c5) (by decide +kernel) rfl rfl rfl (by decide +kernel)
set_option maxRecDepth 65536 in
theorem w_c22 : (Jvm.Cond.code ({ cls := "java/lang/String", name := "codePointCount", desc := "(II)I" } : Jvm.MethodName) jdk_42_method_59_code (3 : Nat) (Option.some Jvm.ClassFile.FieldType.int)).before args0 about1 = true := code_word (m := ⟨7, 3⟩) (meth := k7m3) (c := k7c3) (by decide +kernel) rfl rfl rfl (by decide +kernel)
set_option maxRecDepth 65536 in
theorem w_c23 : (Jvm.Cond.code ({ cls := "java/util/Objects", name := "checkFromToIndex", desc := "(III)I" } : Jvm.MethodName) jdk_31_method_18_code (3 : Nat) (Option.some Jvm.ClassFile.FieldType.int)).before args0 about1 = true := code_word (m := ⟨11, 1⟩) (meth := k11m1) (c := k11c1) (by decide +kernel) rfl rfl rfl (by decide +kernel)
set_option maxRecDepth 65536 in
theorem w_c24 : (Jvm.Cond.code ({ cls := "jdk/internal/util/Preconditions", name := "checkFromToIndex", desc := "(IIILjava/util/function/BiFunction;)I" } : Jvm.MethodName) jdk_41_method_12_code (4 : Nat) (Option.some Jvm.ClassFile.FieldType.int)).before args0 about1 = true := code_word (m := ⟨12, 1⟩) (meth := k12m1) (c := k12c1) (by decide +kernel) rfl rfl rfl (by decide +kernel)
set_option maxRecDepth 65536 in
theorem w_c25 : (Jvm.Cond.code ({ cls := "java/lang/String", name := "isLatin1", desc := "()Z" } : Jvm.MethodName) jdk_42_method_154_code (1 : Nat) (Option.some Jvm.ClassFile.FieldType.boolean)).before args0 about1 = true := code_word (m := ⟨7, 6⟩) (meth := k7m6) (c := k7c6) (by decide +kernel) rfl rfl rfl (by decide +kernel)
set_option maxRecDepth 65536 in
theorem w_c26 : (Jvm.Cond.code ({ cls := "java/lang/StringUTF16", name := "codePointCount", desc := "([BII)I" } : Jvm.MethodName) jdk_52_method_12_code (3 : Nat) (Option.some Jvm.ClassFile.FieldType.int)).before args0 about1 = true := code_word (m := ⟨8, 6⟩) (meth := k8m6) (c := k8c6) (by decide +kernel) rfl rfl rfl (by decide +kernel)
set_option maxRecDepth 65536 in
theorem w_c27 : (Jvm.Cond.code ({ cls := "java/lang/StringUTF16", name := "codePointCount", desc := "([BIIZ)I" } : Jvm.MethodName) jdk_52_method_11_code (6 : Nat) (Option.some Jvm.ClassFile.FieldType.int)).before args0 about1 = true := code_word (m := ⟨8, 5⟩) (meth := k8m5) (c := k8c5) (by decide +kernel) rfl rfl rfl (by decide +kernel)
set_option maxRecDepth 65536 in
theorem w_c28 : (Jvm.Cond.code ({ cls := "java/lang/Character", name := "isHighSurrogate", desc := "(C)Z" } : Jvm.MethodName) jdk_89_method_14_code (1 : Nat) (Option.some Jvm.ClassFile.FieldType.boolean)).before args0 about1 = true := code_word (m := ⟨13, 0⟩) (meth := k13m0) (c := k13c0) (by decide +kernel) rfl rfl rfl (by decide +kernel)
set_option maxRecDepth 65536 in
theorem w_c29 : (Jvm.Cond.code ({ cls := "java/lang/Character", name := "isLowSurrogate", desc := "(C)Z" } : Jvm.MethodName) jdk_89_method_15_code (1 : Nat) (Option.some Jvm.ClassFile.FieldType.boolean)).before args0 about1 = true := code_word (m := ⟨13, 1⟩) (meth := k13m1) (c := k13c1) (by decide +kernel) rfl rfl rfl (by decide +kernel)
def codes1 : List Jvm.Cond := [Jvm.Cond.code x code maxLocals ret, Jvm.Cond.code ({ cls := "com/example/vigilant_gate/vigilantgate/PasswordPolicyAdmitsPinLaw", name := "draw", desc := "(I)C" } : Jvm.MethodName) method_2_code (3 : Nat) (Option.some Jvm.ClassFile.FieldType.char), Jvm.Cond.code ({ cls := "com/example/vigilant_gate/vigilantgate/PasswordPolicyAdmitsPinLaw", name := "build", desc := "(ICCCC)Ljava/lang/String;" } : Jvm.MethodName) method_6_code (5 : Nat) (Option.some (Jvm.ClassFile.FieldType.object "java/lang/String")), Jvm.Cond.code ({ cls := "java/lang/String", name := "<init>", desc := "([C)V" } : Jvm.MethodName) jdk_42_method_3_code (2 : Nat) (Option.none : Option Jvm.ClassFile.FieldType), Jvm.Cond.code ({ cls := "java/lang/String", name := "<init>", desc := "([CIILjava/lang/Void;)V" } : Jvm.MethodName) jdk_42_method_149_code (6 : Nat) (Option.none : Option Jvm.ClassFile.FieldType), Jvm.Cond.code ({ cls := "java/lang/Object", name := "<init>", desc := "()V" } : Jvm.MethodName) object_method_1_code (1 : Nat) (Option.none : Option Jvm.ClassFile.FieldType), Jvm.Cond.code ({ cls := "java/lang/StringUTF16", name := "compress", desc := "([CII)[B" } : Jvm.MethodName) jdk_52_method_16_code (6 : Nat) (Option.some (Jvm.ClassFile.FieldType.array Jvm.ClassFile.FieldType.byte)), Jvm.Cond.code ({ cls := "java/lang/StringUTF16", name := "compress", desc := "([CI[BII)I" } : Jvm.MethodName) jdk_52_method_21_code (7 : Nat) (Option.some Jvm.ClassFile.FieldType.int), Jvm.Cond.code ({ cls := "java/lang/StringUTF16", name := "toBytes", desc := "([CII)[B" } : Jvm.MethodName) jdk_52_method_14_code (5 : Nat) (Option.some (Jvm.ClassFile.FieldType.array Jvm.ClassFile.FieldType.byte)), Jvm.Cond.code ({ cls := "java/lang/StringUTF16", name := "newBytesFor", desc := "(I)[B" } : Jvm.MethodName) jdk_52_method_2_code (1 : Nat) (Option.some (Jvm.ClassFile.FieldType.array Jvm.ClassFile.FieldType.byte)), Jvm.Cond.code ({ cls := "java/lang/StringUTF16", name := "newBytesLength", desc := "(I)I" } : Jvm.MethodName) jdk_52_method_3_code (1 : Nat) (Option.some Jvm.ClassFile.FieldType.int), Jvm.Cond.code ({ cls := "java/lang/StringUTF16", name := "putChar", desc := "([BII)V" } : Jvm.MethodName) jdk_52_method_4_code (3 : Nat) (Option.none : Option Jvm.ClassFile.FieldType), Jvm.Cond.code ({ cls := "java/lang/StringUTF16", name := "getChar", desc := "([BI)C" } : Jvm.MethodName) jdk_52_method_5_code (2 : Nat) (Option.some Jvm.ClassFile.FieldType.char), Jvm.Cond.code ({ cls := "java/lang/StringUTF16", name := "coderFromArrayLen", desc := "([BI)B" } : Jvm.MethodName) jdk_52_method_15_code (2 : Nat) (Option.some Jvm.ClassFile.FieldType.byte), Jvm.Cond.code ({ cls := "com/example/vigilant_gate/vigilantgate/PasswordPolicyAdmitsPinLaw", name := "pair", desc := "(CC)I" } : Jvm.MethodName) method_5_code (2 : Nat) (Option.some Jvm.ClassFile.FieldType.int), Jvm.Cond.code ({ cls := "com/example/vigilant_gate/vigilantgate/PasswordPolicyAdmitsPinLaw", name := "isHigh", desc := "(C)Z" } : Jvm.MethodName) method_3_code (1 : Nat) (Option.some Jvm.ClassFile.FieldType.boolean), Jvm.Cond.code ({ cls := "com/example/vigilant_gate/vigilantgate/PasswordPolicyAdmitsPinLaw", name := "isLow", desc := "(C)Z" } : Jvm.MethodName) method_4_code (1 : Nat) (Option.some Jvm.ClassFile.FieldType.boolean), Jvm.Cond.code ({ cls := "com/example/vigilant_gate/vigilantgate/PasswordPolicy", name := "<init>", desc := "(I)V" } : Jvm.MethodName) prog_11_method_1_code (2 : Nat) (Option.none : Option Jvm.ClassFile.FieldType), Jvm.Cond.code ({ cls := "java/lang/Record", name := "<init>", desc := "()V" } : Jvm.MethodName) jdk_30_method_1_code (1 : Nat) (Option.none : Option Jvm.ClassFile.FieldType), Jvm.Cond.code ({ cls := "com/example/vigilant_gate/vigilantgate/PasswordPolicy", name := "admits", desc := "(Ljava/lang/String;)Z" } : Jvm.MethodName) prog_11_method_2_code (2 : Nat) (Option.some Jvm.ClassFile.FieldType.boolean), Jvm.Cond.code ({ cls := "java/lang/String", name := "length", desc := "()I" } : Jvm.MethodName) jdk_42_method_54_code (1 : Nat) (Option.some Jvm.ClassFile.FieldType.int), Jvm.Cond.code ({ cls := "java/lang/String", name := "coder", desc := "()B" } : Jvm.MethodName) jdk_42_method_152_code (1 : Nat) (Option.some Jvm.ClassFile.FieldType.byte), Jvm.Cond.code ({ cls := "java/lang/String", name := "codePointCount", desc := "(II)I" } : Jvm.MethodName) jdk_42_method_59_code (3 : Nat) (Option.some Jvm.ClassFile.FieldType.int), Jvm.Cond.code ({ cls := "java/util/Objects", name := "checkFromToIndex", desc := "(III)I" } : Jvm.MethodName) jdk_31_method_18_code (3 : Nat) (Option.some Jvm.ClassFile.FieldType.int), Jvm.Cond.code ({ cls := "jdk/internal/util/Preconditions", name := "checkFromToIndex", desc := "(IIILjava/util/function/BiFunction;)I" } : Jvm.MethodName) jdk_41_method_12_code (4 : Nat) (Option.some Jvm.ClassFile.FieldType.int), Jvm.Cond.code ({ cls := "java/lang/String", name := "isLatin1", desc := "()Z" } : Jvm.MethodName) jdk_42_method_154_code (1 : Nat) (Option.some Jvm.ClassFile.FieldType.boolean), Jvm.Cond.code ({ cls := "java/lang/StringUTF16", name := "codePointCount", desc := "([BII)I" } : Jvm.MethodName) jdk_52_method_12_code (3 : Nat) (Option.some Jvm.ClassFile.FieldType.int), Jvm.Cond.code ({ cls := "java/lang/StringUTF16", name := "codePointCount", desc := "([BIIZ)I" } : Jvm.MethodName) jdk_52_method_11_code (6 : Nat) (Option.some Jvm.ClassFile.FieldType.int), Jvm.Cond.code ({ cls := "java/lang/Character", name := "isHighSurrogate", desc := "(C)Z" } : Jvm.MethodName) jdk_89_method_14_code (1 : Nat) (Option.some Jvm.ClassFile.FieldType.boolean), Jvm.Cond.code ({ cls := "java/lang/Character", name := "isLowSurrogate", desc := "(C)Z" } : Jvm.MethodName) jdk_89_method_15_code (1 : Nat) (Option.some Jvm.ClassFile.FieldType.boolean)]
set_option maxRecDepth 65536 in
theorem codes_eq : words1.filter isCode = codes1 := rfl
theorem w_codes : ∀ c ∈ words1.filter isCode, c.before args0 about1 = true := by
  rw [codes_eq]
  intro c hc
  simp only [codes1, List.mem_cons, List.not_mem_nil, or_false] at hc
  rcases hc with rfl | rfl | rfl | rfl | rfl | rfl | rfl | rfl | rfl | rfl | rfl | rfl | rfl | rfl | rfl | rfl | rfl | rfl | rfl | rfl | rfl | rfl | rfl | rfl | rfl | rfl | rfl | rfl | rfl | rfl
  · exact w_c0
  · exact w_c1
  · exact w_c2
  · exact w_c3
  · exact w_c4
  · exact w_c5
  · exact w_c6
  · exact w_c7
  · exact w_c8
  · exact w_c9
  · exact w_c10
  · exact w_c11
  · exact w_c12
  · exact w_c13
  · exact w_c14
  · exact w_c15
  · exact w_c16
  · exact w_c17
  · exact w_c18
  · exact w_c19
  · exact w_c20
  · exact w_c21
  · exact w_c22
  · exact w_c23
  · exact w_c24
  · exact w_c25
  · exact w_c26
  · exact w_c27
  · exact w_c28
  · exact w_c29
set_option maxRecDepth 65536 in
theorem w_t1 : (words1.take 24).all (fun c => isCode c || c.before args0 about1) = true := by decide +kernel
set_option maxRecDepth 65536 in
theorem w_t2 : ((words1.drop 24).take 24).all (fun c => isCode c || c.before args0 about1) = true := by decide +kernel
set_option maxRecDepth 65536 in
theorem w_t3 : (((words1.drop 24).drop 24).take 24).all (fun c => isCode c || c.before args0 about1) = true := by decide +kernel
set_option maxRecDepth 65536 in
theorem w_t4 : ((((words1.drop 24).drop 24).drop 24).take 24).all (fun c => isCode c || c.before args0 about1) = true := by decide +kernel
set_option maxRecDepth 65536 in
theorem w_t5 : (((((words1.drop 24).drop 24).drop 24).drop 24).take 24).all (fun c => isCode c || c.before args0 about1) = true := by decide +kernel
set_option maxRecDepth 65536 in
theorem w_t6 : (((((words1.drop 24).drop 24).drop 24).drop 24).drop 24).all (fun c => isCode c || c.before args0 about1) = true := by decide +kernel
theorem w_tables : (allAtoms (Jvm.Cond.code x code maxLocals ret :: tables_1)).before args0 about1 = true := by
  rw [allAtoms_all]
  show words1.all (fun c => c.before args0 about1) = true
  refine all_split ?_ w_codes
  rw [← List.take_append_drop 24 words1, List.all_append, w_t1, ← List.take_append_drop 24 (words1.drop 24), List.all_append, w_t2, ← List.take_append_drop 24 ((words1.drop 24).drop 24), List.all_append, w_t3, ← List.take_append_drop 24 (((words1.drop 24).drop 24).drop 24), List.all_append, w_t4, ← List.take_append_drop 24 ((((words1.drop 24).drop 24).drop 24).drop 24), List.all_append, w_t5, w_t6]
  rfl
set_option maxRecDepth 65536 in
theorem w_rest : rest_1_c.before args0 about1 = true := by decide +kernel
set_option maxRecDepth 65536 in
theorem w_case : (Jvm.Cond.and given_1 narrow_1).before args0 about1 = true := by decide +kernel
set_option maxRecDepth 65536 in
theorem w_consts : constsHeld consts_1 about1 := Jvm.Lit.constsHeldB_iff.mp (by decide +kernel)
theorem w_applies : (headSpec (Jvm.Cond.code x code maxLocals ret :: tables_1) room_1).applies x e0.platform about1 = true :=
  (Spec.applies_iff w_frames).mpr ⟨w_running, w_runnable, w_alone, w_named, w_hears, w_ripe, w_room, w_tables⟩
theorem atStart : AtStart classFile x code maxLocals ret World_1 tables_1 room_1 Calls_1 rest_1 Pre_1 launch0 p0 e0 about1 theMethod args0 below0 :=
  ⟨lists_1, trivial, launch0.admits_env _ _ _, launch0.least_env, fairChoices_fair.cas, fairChoices_fair.clock, w_frames, w_args, w_heap, w_applies, ⟨w_consts, trivial⟩, w_rest, w_case⟩
end start1
theorem witness_1 : WitnessClaimed_1 := ⟨start1.p0, start1.e0, start1.about1, start1.theMethod, start1.args0, start1.below0, start1.atStart⟩
end Jvm.Pilot.@@N@@
