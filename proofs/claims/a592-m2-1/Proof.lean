import JvmDerived
import JvmDerived.Pilot.@@N@@Statement
import JvmDerived.Pilot.@@N@@Code
set_option linter.unusedVariables false
set_option linter.unusedSimpArgs false

/- laws to paste: Road.backV, Road.codOf (cut by pick.py; bodies as the Statement names them) -/
namespace Jvm.Pilot.@@N@@
namespace StrChars
open Jvm Sem ClassFile Op Lib Jvm.Stand Jvm.Free.XT Jvm.Free.ALB Jvm.Free.JM Jvm.Free
open Jvm.Lib.Cold (StaticIs)
/-- a char array whose places are chars -/
def Ch (a : Addr) (A : Cell) (U : State) : Prop := Arr .char a A U ∧ Typed .char A
theorem Ch.mv {a : Addr} {A : Cell} {U U' : State} (h : Ch a A U) (hal : U.vm.Alike U'.vm) (hh : U'.heap = U.heap) : Ch a A U' := ⟨h.1.mv hal hh, h.2⟩
theorem Ch.keep {a : Addr} {A : Cell} {U U' : State} (h : Ch a A U) (hal : U.vm.Alike U'.vm) (hk : U'.heap[a]? = some A) : Ch a A U' := ⟨h.1.keep hal hk, h.2⟩
/-- what place i of a char[]'s cell holds -/
def cv (A : Cell) (i : Nat) : Int32 := match A.slots[i]? with | some (.int x) => x | _ => 0
theorem Ch.get {a : Addr} {A : Cell} {U : State} (h : Ch a A U) {i : Nat} (hi : i < A.slots.size) : A.slots[i]? = some (.int (cv A i)) := by
  have e := Array.getElem?_eq_getElem hi
  have f := h.2 i _ e
  unfold cv; rw [e]
  generalize A.slots[i] = v at f
  cases v <;> simp [fits] at f ⊢
/-- the byte that i2b leaves of a char -/
def lo8 (x : Int32) : Int32 := x.toInt8.toInt32
theorem fits_lo8 (y : Int32) : fits .byte (.int (lo8 y)) = true := by
  have h1 := y.toInt8.le_toInt
  have h2 := y.toInt8.toInt_lt
  simp only [lo8, fits, Bool.and_eq_true, decide_eq_true_eq, Int32.le_iff_toInt_le, Int8.toInt_toInt32, show (-128 : Int32).toInt = -128 from by decide, show (127 : Int32).toInt = 127 from by decide]
  omega
/-- A' is A but that each place j of lo .. hi - 1 holds f j -/
def Laid (A A' : Cell) (lo hi : Nat) (f : Nat → Value) : Prop := A'.cls = A.cls ∧ A'.vm = A.vm ∧ A'.slots.size = A.slots.size ∧ ∀ i, A'.slots[i]? = if lo ≤ i ∧ i < hi then some (f i) else A.slots[i]?
theorem Laid.zero (A : Cell) (lo : Nat) (f : Nat → Value) : Laid A A lo (lo + 0) f := ⟨rfl, rfl, rfl, fun i => by rw [if_neg (by omega)]⟩
theorem Laid.step {A Ak : Cell} {lo k : Nat} {f : Nat → Value} {v : Value} (h : Laid A Ak lo k f) (hlo : lo ≤ k) (hk : k < Ak.slots.size) (hv : v = f k) : Laid A (Ak.setSlot k v) lo (k + 1) f := by
  refine ⟨h.1, h.2.1, by simpa [Cell.setSlot] using h.2.2.1, fun i => ?_⟩
  by_cases e : k = i
  · subst e; rw [Cell.slots_setSlot_self v hk, if_pos (by omega), hv]
  · rw [Cell.slots_setSlot_ne v e, h.2.2.2 i]
    by_cases q : lo ≤ i ∧ i < k
    · rw [if_pos q, if_pos (by omega)]
    · rw [if_neg q, if_neg (by omega)]
def U16 : String := "java/lang/StringUTF16"
namespace Cmp5
def yN : MethodName := ⟨"java/lang/StringUTF16", "compress", "([CI[BII)I"⟩
abbrev yB : ByteArray := jdk_52_method_21_code
theorem d0 : decode yB 0 = .ok (.iconst 0, 1) := by decide +kernel
theorem d1 : decode yB 1 = .ok (.istore 5, 2) := by decide +kernel
theorem d3 : decode yB 3 = .ok (.iload 5, 2) := by decide +kernel
theorem d5 : decode yB 5 = .ok (.iload 4, 2) := by decide +kernel
theorem d7 : decode yB 7 = .ok (.if_icmp (.ge) 37, 3) := by decide +kernel
theorem d10 : decode yB 10 = .ok (.aload_n 0, 1) := by decide +kernel
theorem d11 : decode yB 11 = .ok (.iload_n 1, 1) := by decide +kernel
theorem d12 : decode yB 12 = .ok (.caload, 1) := by decide +kernel
theorem d13 : decode yB 13 = .ok (.istore 6, 2) := by decide +kernel
theorem d15 : decode yB 15 = .ok (.iload 6, 2) := by decide +kernel
theorem d17 : decode yB 17 = .ok (.sipush 255, 3) := by decide +kernel
theorem d20 : decode yB 20 = .ok (.if_icmp (.le) 6, 3) := by decide +kernel
theorem d26 : decode yB 26 = .ok (.aload_n 2, 1) := by decide +kernel
theorem d27 : decode yB 27 = .ok (.iload_n 3, 1) := by decide +kernel
theorem d28 : decode yB 28 = .ok (.iload 6, 2) := by decide +kernel
theorem d30 : decode yB 30 = .ok (.i2b, 1) := by decide +kernel
theorem d31 : decode yB 31 = .ok (.bastore, 1) := by decide +kernel
theorem d32 : decode yB 32 = .ok (.iinc 1 1, 3) := by decide +kernel
theorem d35 : decode yB 35 = .ok (.iinc 3 1, 3) := by decide +kernel
theorem d38 : decode yB 38 = .ok (.iinc 5 1, 3) := by decide +kernel
theorem d41 : decode yB 41 = .ok (.goto (-38), 3) := by decide +kernel
theorem d44 : decode yB 44 = .ok (.iload 4, 2) := by decide +kernel
theorem d46 : decode yB 46 = .ok (.ireturn, 1) := by decide +kernel
def site : List Cond := []
def tab : Cond := tabOf yN yB 7 (some .int) site
def P (b : Addr) (A : Cell) (d : Addr) (B : Cell) (o q len : Nat) (args : Array Value) (s : State) : Prop := args = #[.ref b, .int (Int32.ofNat o), .ref d, .int (Int32.ofNat q), .int (Int32.ofNat len)] ∧ Ch b A s ∧ Arr .byte d B s ∧ b ≠ d ∧ o + len ≤ A.slots.size ∧ q + len ≤ B.slots.size ∧ ∀ i, i < len → ¬ 255 < cv A (o + i)
def E (b : Addr) (A : Cell) (d : Addr) (B : Cell) (o q len : Nat) (r : Option Value) (s u : State) : Prop := r = some (.int (Int32.ofNat len)) ∧ ∃ B', Put d B' s u ∧ Laid B B' q (q + len) (fun j => Value.int (lo8 (cv A (o + (j - q)))))
/-- no char of the range above 255: len; the places written hold each char's low byte -/
theorem law (l : Launch) (b : Addr) (A : Cell) (d : Addr) (B : Cell) (o q len : Nat) : Law l yN 5 5 0 0 yB 7 (some .int) site (P b A d B o q len) (E b A d B o q len) (copyLocs d q len) 0 0 := by
  refine Law.of_walk (plainFor_of_name (by decide +kernel)) (by decide +kernel) (by decide +kernel) (by decide) (fun _ _ h => by rw [h.1]; rfl) (fun _ U U' hal hh h => ⟨h.1, h.2.1.mv hal hh, h.2.2.1.mv hal hh, h.2.2.2⟩) (fun r U U' V V' h1 hal h2 h => ⟨h.1, h.2.elim fun B' q => ⟨B', q.1.mv h1 h2, q.2⟩⟩) ?_
  intro p e s m args below meth c s₁ X0 hexec hbytes hml hret hlk hnm hown hh0 W hP
  obtain ⟨rfl, hA, hB, hne, l1, l2, hp⟩ := hP
  have c1 : Steps p.tables e below (s₁.setTop (entryFrame m #[.ref b, .int (Int32.ofNat o), .ref d, .int (Int32.ofNat q), .int (Int32.ofNat len)] 7)) (s₁.setTop (mkF m 0 #[.val (.ref b), .val (.int (Int32.ofNat o)), .val (.ref d), .val (.int (Int32.ofNat q)), .val (.int (Int32.ofNat len)), .unset, .unset] [])) := entry rfl
  have hA0 := hA.1.mv X0.warmed.alike hh0
  have hB0 := hB.mv X0.warmed.alike hh0
  have a31 := hA.1.2.2.2
  have c2 : Steps p.tables e below (s₁.setTop (entryFrame m #[.ref b, .int (Int32.ofNat o), .ref d, .int (Int32.ofNat q), .int (Int32.ofNat len)] 7)) (s₁.setTop (mkF m 3 #[.val (.ref b), .val (.int (Int32.ofNat o)), .val (.ref d), .val (.int (Int32.ofNat q)), .val (.int (Int32.ofNat len)), .val (.int 0), .unset] [])) := c1.trans (by
    refine iconstV X0.here hexec rfl 0 (hb hbytes d0) (by decide) ?_
    refine XS.istore X0.here hexec rfl (hb hbytes d1) rfl rfl ?_
    exact Steps.refl _)
  have loop : ∀ (r i : Nat), i + r = len → ∀ (z : Slot), (z = .unset ∨ ∃ w, z = .val w ∧ w.category = 1) → ∀ (Tl : State) (Bk : Cell), Stand p l e { frames := 0, locals := 0, cells := 0, slots := 0 } s m #[.ref b, .int (Int32.ofNat o), .ref d, .int (Int32.ofNat q), .int (Int32.ofNat len)] below meth c Tl ([] ++ copyLocs d q i) 0 0 → Put d Bk s₁ Tl → Laid B Bk q (q + i) (fun j => Value.int (lo8 (cv A (o + (j - q))))) →
      Steps p.tables e below (s₁.setTop (entryFrame m #[.ref b, .int (Int32.ofNat o), .ref d, .int (Int32.ofNat q), .int (Int32.ofNat len)] 7)) (Tl.setTop (mkF m 3 #[.val (.ref b), .val (.int (Int32.ofNat (o + i))), .val (.ref d), .val (.int (Int32.ofNat (q + i))), .val (.int (Int32.ofNat len)), .val (.int (Int32.ofNat i)), z] [])) → ∃ (T' : State) (B' : Cell) (z' : Slot), Stand p l e { frames := 0, locals := 0, cells := 0, slots := 0 } s m #[.ref b, .int (Int32.ofNat o), .ref d, .int (Int32.ofNat q), .int (Int32.ofNat len)] below meth c T' ([] ++ copyLocs d q len) 0 0 ∧ Put d B' s₁ T' ∧ Laid B B' q (q + len) (fun j => Value.int (lo8 (cv A (o + (j - q))))) ∧
      Steps p.tables e below (s₁.setTop (entryFrame m #[.ref b, .int (Int32.ofNat o), .ref d, .int (Int32.ofNat q), .int (Int32.ofNat len)] 7)) (T'.setTop (mkF m 3 #[.val (.ref b), .val (.int (Int32.ofNat (o + len))), .val (.ref d), .val (.int (Int32.ofNat (q + len))), .val (.int (Int32.ofNat len)), .val (.int (Int32.ofNat len)), z'] [])) := by
    intro r
    induction r with
    | zero =>
      intro i hi z hz Tl Bk Xl pl fl cl
      have hil : i = len := by omega
      rw [hil] at Xl fl cl
      exact ⟨Tl, Bk, z, Xl, pl, fl, cl⟩
    | succ r ih =>
      intro i hi z hz Tl Bk Xl pl fl cl
      have all := X0.warmed.alike.symm.trans Xl.warmed.alike
      have hAl := hA0.keep all (pl.other hne hA0.1)
      have hBk := hB0.like all pl.1 fl.1 fl.2.1 fl.2.2.1
      have hlt : q + i < Bk.slots.size := by rw [fl.2.2.1]; omega
      have c3 : Steps p.tables e below (s₁.setTop (entryFrame m #[.ref b, .int (Int32.ofNat o), .ref d, .int (Int32.ofNat q), .int (Int32.ofNat len)] 7)) (Tl.setTop (mkF m 12 #[.val (.ref b), .val (.int (Int32.ofNat (o + i))), .val (.ref d), .val (.int (Int32.ofNat (q + i))), .val (.int (Int32.ofNat len)), .val (.int (Int32.ofNat i)), z] [.int (Int32.ofNat (o + i)), .ref b])) := cl.trans (by
        refine XS.iload Xl.here hexec rfl (hb hbytes d3) rfl ?_
        refine XS.iload Xl.here hexec rfl (hb hbytes d5) rfl ?_
        refine XS.icmpNo Xl.here hexec rfl (hb hbytes d7) rfl (ii_ge_f (lt32 (by omega) (by omega))) ?_
        refine XS.aloadN Xl.here hexec rfl (hb hbytes d10) rfl rfl ?_
        refine XS.iloadN Xl.here hexec rfl (hb hbytes d11) rfl ?_
        exact Steps.refl _)
      have c4 : Steps p.tables e below (s₁.setTop (entryFrame m #[.ref b, .int (Int32.ofNat o), .ref d, .int (Int32.ofNat q), .int (Int32.ofNat len)] 7)) (Tl.setTop (mkF m 13 #[.val (.ref b), .val (.int (Int32.ofNat (o + i))), .val (.ref d), .val (.int (Int32.ofNat (q + i))), .val (.int (Int32.ofNat len)), .val (.int (Int32.ofNat i)), z] [.int (cv A (o + i))])) := c3.trans (by
        refine Xl.aget hexec hAl rfl (hA.get (i := o + i) (by omega)) rfl rfl (hb hbytes d12) ?_
        exact Steps.refl _)
      have c5 : Steps p.tables e below (s₁.setTop (entryFrame m #[.ref b, .int (Int32.ofNat o), .ref d, .int (Int32.ofNat q), .int (Int32.ofNat len)] 7)) (Tl.setTop (mkF m 15 #[.val (.ref b), .val (.int (Int32.ofNat (o + i))), .val (.ref d), .val (.int (Int32.ofNat (q + i))), .val (.int (Int32.ofNat len)), .val (.int (Int32.ofNat i)), .val (.int (cv A (o + i)))] [])) := c4.trans (by
        refine XS.istoreS Xl.here hexec rfl (hb hbytes d13) rfl rfl hz ?_
        exact Steps.refl _)
      have c6 : Steps p.tables e below (s₁.setTop (entryFrame m #[.ref b, .int (Int32.ofNat o), .ref d, .int (Int32.ofNat q), .int (Int32.ofNat len)] 7)) (Tl.setTop (mkF m 31 #[.val (.ref b), .val (.int (Int32.ofNat (o + i))), .val (.ref d), .val (.int (Int32.ofNat (q + i))), .val (.int (Int32.ofNat len)), .val (.int (Int32.ofNat i)), .val (.int (cv A (o + i)))] [.int (lo8 (cv A (o + i))), .int (Int32.ofNat (q + i)), .ref d])) := c5.trans (by
        refine XS.iload Xl.here hexec rfl (hb hbytes d15) rfl ?_
        refine sipushV Xl.here hexec rfl 255 (hb hbytes d17) (by decide) ?_
        refine XS.icmpYes Xl.here hexec rfl (pc0 := 20) rfl (hb hbytes d20) rfl (ii_le_t (hp i (by omega))) (by decide) rfl ?_
        refine XS.aloadN Xl.here hexec rfl (hb hbytes d26) rfl rfl ?_
        refine XS.iloadN Xl.here hexec rfl (hb hbytes d27) rfl ?_
        refine XS.iload Xl.here hexec rfl (hb hbytes d28) rfl ?_
        refine i2b Xl.here hexec rfl (hb hbytes d30) rfl ?_
        exact Steps.refl _)
      obtain ⟨T7, X7, p7, st7⟩ := Xl.aput hexec hBk rfl hlt rfl (fits_lo8 (cv A (o + i))) (g := (mkF m 31 #[.val (.ref b), .val (.int (Int32.ofNat (o + i))), .val (.ref d), .val (.int (Int32.ofNat (q + i))), .val (.int (Int32.ofNat len)), .val (.int (Int32.ofNat i)), .val (.int (cv A (o + i)))] [.int (lo8 (cv A (o + i))), .int (Int32.ofNat (q + i)), .ref d])) rfl (rest := []) rfl (hb hbytes d31)
      have c8 : Steps p.tables e below (s₁.setTop (entryFrame m #[.ref b, .int (Int32.ofNat o), .ref d, .int (Int32.ofNat q), .int (Int32.ofNat len)] 7)) (T7.setTop (mkF m 32 #[.val (.ref b), .val (.int (Int32.ofNat (o + i))), .val (.ref d), .val (.int (Int32.ofNat (q + i))), .val (.int (Int32.ofNat len)), .val (.int (Int32.ofNat i)), .val (.int (cv A (o + i)))] [])) := c6.trans (st7 _ (Steps.refl _))
      have c9 : Steps p.tables e below (s₁.setTop (entryFrame m #[.ref b, .int (Int32.ofNat o), .ref d, .int (Int32.ofNat q), .int (Int32.ofNat len)] 7)) (T7.setTop (mkF m 3 #[.val (.ref b), .val (.int (Int32.ofNat (o + i) + 1)), .val (.ref d), .val (.int (Int32.ofNat (q + i) + 1)), .val (.int (Int32.ofNat len)), .val (.int (Int32.ofNat i + 1)), .val (.int (cv A (o + i)))] [])) := c8.trans (by
        refine iincV X7.here hexec rfl 1 (hb hbytes d32) (by decide) rfl rfl ?_
        refine iincV X7.here hexec rfl 1 (hb hbytes d35) (by decide) rfl rfl ?_
        refine iincV X7.here hexec rfl 1 (hb hbytes d38) (by decide) rfl rfl ?_
        refine XS.goto X7.here hexec rfl (pc0 := 41) rfl (hb hbytes d41) (by decide) rfl ?_
        exact Steps.refl _)
      have c10 : Steps p.tables e below (s₁.setTop (entryFrame m #[.ref b, .int (Int32.ofNat o), .ref d, .int (Int32.ofNat q), .int (Int32.ofNat len)] 7)) (T7.setTop (mkF m 3 #[.val (.ref b), .val (.int (Int32.ofNat (o + (i + 1)))), .val (.ref d), .val (.int (Int32.ofNat (q + (i + 1)))), .val (.int (Int32.ofNat len)), .val (.int (Int32.ofNat (i + 1))), .val (.int (cv A (o + i)))] [])) := by
        have := c9
        rw [succ32, succ32, succ32] at this
        exact this
      exact ih (i + 1) (by omega) _ (Or.inr ⟨_, rfl, rfl⟩) T7 _ (by rw [copyLocs_step, ← List.append_assoc]; exact X7) (pl.trans p7) (fl.step (by omega) hlt (by simp)) c10
  obtain ⟨T9, B9, z9, X9, p9, f9, g9⟩ := loop len 0 (by omega) .unset (Or.inl rfl) s₁ B (by simpa [copyLocs] using X0) ⟨hB0.1, fun _ _ => rfl, rfl⟩ (Laid.zero _ _ _) c2
  have c11 : Steps p.tables e below (s₁.setTop (entryFrame m #[.ref b, .int (Int32.ofNat o), .ref d, .int (Int32.ofNat q), .int (Int32.ofNat len)] 7)) (T9.setTop (mkF m 46 #[.val (.ref b), .val (.int (Int32.ofNat (o + len))), .val (.ref d), .val (.int (Int32.ofNat (q + len))), .val (.int (Int32.ofNat len)), .val (.int (Int32.ofNat len)), z9] [.int (Int32.ofNat len)])) := g9.trans (by
    refine XS.iload X9.here hexec rfl (hb hbytes d3) rfl ?_
    refine XS.iload X9.here hexec rfl (hb hbytes d5) rfl ?_
    refine XS.icmpYes X9.here hexec rfl (pc0 := 7) rfl (hb hbytes d7) rfl (ii_ge_t (nlt32 (by omega) (Nat.le_refl _))) (by decide) rfl ?_
    refine XS.iload X9.here hexec rfl (hb hbytes d44) rfl ?_
    exact Steps.refl _)
  exact ⟨T9, some (.int (Int32.ofNat len)), _, _, _, X9, by simp, rfl, rfl, (fun h => by cases h), ⟨rfl, B9, p9.from hh0, f9⟩, fun fs hl => c11.trans (X9.ireturnOut hexec hret rfl (Or.inl rfl) (hb hbytes d46) hl)⟩
end Cmp5
namespace Cmp3
def yN : MethodName := ⟨"java/lang/StringUTF16", "compress", "([CII)[B"⟩
abbrev yB : ByteArray := jdk_52_method_16_code
theorem d0 : decode yB 0 = .ok (.iload_n 2, 1) := by decide +kernel
theorem d1 : decode yB 1 = .ok (.newarray .byte, 2) := by decide +kernel
theorem d3 : decode yB 3 = .ok (.astore_n 3, 1) := by decide +kernel
theorem d4 : decode yB 4 = .ok (.aload_n 0, 1) := by decide +kernel
theorem d5 : decode yB 5 = .ok (.iload_n 1, 1) := by decide +kernel
theorem d6 : decode yB 6 = .ok (.aload_n 3, 1) := by decide +kernel
theorem d7 : decode yB 7 = .ok (.iconst 0, 1) := by decide +kernel
theorem d8 : decode yB 8 = .ok (.iload_n 2, 1) := by decide +kernel
theorem d9 : decode yB 9 = .ok (.invokestatic 115, 3) := by decide +kernel
theorem d12 : decode yB 12 = .ok (.istore 4, 2) := by decide +kernel
theorem d14 : decode yB 14 = .ok (.iload 4, 2) := by decide +kernel
theorem d16 : decode yB 16 = .ok (.iload_n 2, 1) := by decide +kernel
theorem d17 : decode yB 17 = .ok (.if_icmp (.eq) 40, 3) := by decide +kernel
theorem d57 : decode yB 57 = .ok (.aload_n 3, 1) := by decide +kernel
theorem d58 : decode yB 58 = .ok (.areturn, 1) := by decide +kernel
def site : List Cond := [.arrayClass .byte, Cmp5.tab] ++ staticW U16 115 Cmp5.yN
def tab : Cond := tabOf yN yB 6 (some (.array .byte)) site
def P (b : Addr) (A : Cell) (o len : Nat) (args : Array Value) (s : State) : Prop := args = #[.ref b, .int (Int32.ofNat o), .int (Int32.ofNat len)] ∧ Ch b A s ∧ o + len ≤ A.slots.size ∧ len ≤ 536870912 ∧ ∀ i, i < len → ¬ 255 < cv A (o + i)
def E (b : Addr) (A : Cell) (o len : Nat) (r : Option Value) (s u : State) : Prop := NewArr .byte "[B" len (fun j => .int (lo8 (cv A (o + j)))) r s u ∧ u.heap.size = s.heap.size + 1
/-- no char of the range above 255: a new byte[] of their low bytes -/
theorem law (l : Launch) (b : Addr) (A : Cell) (o len : Nat) : Law l yN 3 3 1 18 yB 6 (some (.array .byte)) site (P b A o len) (E b A o len) [] 1 len := by
  refine Law.of_walk (plainFor_of_name (by decide +kernel)) (by decide +kernel) (by decide +kernel) (by decide) (fun _ _ h => by rw [h.1]; rfl) (fun _ U U' hal hh h => ⟨h.1, h.2.1.mv hal hh, h.2.2⟩) (fun r U U' V V' h1 hal h2 h => ⟨NewArr.mv r U U' V V' h1 hal h2 h.1, by rw [h1, h2]; exact h.2⟩) ?_
  intro p e s m args below meth c s₁ X0 hexec hbytes hml hret hlk hnm hown hh0 W hP
  obtain ⟨rfl, hA, l1, l2, hp⟩ := hP
  have a31 := hA.1.2.2.2
  have c1 : Steps p.tables e below (s₁.setTop (entryFrame m #[.ref b, .int (Int32.ofNat o), .int (Int32.ofNat len)] 6)) (s₁.setTop (mkF m 0 #[.val (.ref b), .val (.int (Int32.ofNat o)), .val (.int (Int32.ofNat len)), .unset, .unset, .unset] [])) := entry rfl
  have c2 : Steps p.tables e below (s₁.setTop (entryFrame m #[.ref b, .int (Int32.ofNat o), .int (Int32.ofNat len)] 6)) (s₁.setTop (mkF m 1 #[.val (.ref b), .val (.int (Int32.ofNat o)), .val (.int (Int32.ofNat len)), .unset, .unset, .unset] [.int (Int32.ofNat len)])) := c1.trans (by
    refine XS.iloadN X0.here hexec rfl (hb hbytes d0) rfl ?_
    exact Steps.refl _)
  obtain ⟨T3, B3, X3, ba3, bs3, bv3, bh3, bf3, st3⟩ := X0.anew hexec (atype := .byte) (wk W (.arrayClass .byte)) rfl (by show len * 1 ≤ _; omega) (by omega) (g := (mkF m 1 #[.val (.ref b), .val (.int (Int32.ofNat o)), .val (.int (Int32.ofNat len)), .unset, .unset, .unset] [.int (Int32.ofNat len)])) rfl (hb hbytes d1) (rest := []) rfl (Nat.le_refl _) (by show 0 + len ≤ len; omega)
  rw [hh0] at ba3 st3
  have kp3 : XT.Kept s T3 := (XT.Kept.of_eq hh0).push bh3
  have hA3 := hA.keep X3.warmed.alike (kp3 _ _ hA.1.1)
  have hne : b ≠ s.heap.size := hA.1.ne
  have c4 : Steps p.tables e below (s₁.setTop (entryFrame m #[.ref b, .int (Int32.ofNat o), .int (Int32.ofNat len)] 6)) (T3.setTop (mkF m 3 #[.val (.ref b), .val (.int (Int32.ofNat o)), .val (.int (Int32.ofNat len)), .unset, .unset, .unset] [.ref s.heap.size])) := c2.trans (st3 _ (Steps.refl _))
  have c5 : Steps p.tables e below (s₁.setTop (entryFrame m #[.ref b, .int (Int32.ofNat o), .int (Int32.ofNat len)] 6)) (T3.setTop (mkF m 9 #[.val (.ref b), .val (.int (Int32.ofNat o)), .val (.int (Int32.ofNat len)), .val (.ref s.heap.size), .unset, .unset] [.int (Int32.ofNat len), .int 0, .ref s.heap.size, .int (Int32.ofNat o), .ref b])) := c4.trans (by
    refine XS.astoreN X3.here hexec rfl (hb hbytes d3) rfl rfl rfl ?_
    refine XS.aloadN X3.here hexec rfl (hb hbytes d4) rfl rfl ?_
    refine XS.iloadN X3.here hexec rfl (hb hbytes d5) rfl ?_
    refine XS.aloadN X3.here hexec rfl (hb hbytes d6) rfl rfl ?_
    refine iconstV X3.here hexec rfl 0 (hb hbytes d7) (by decide) ?_
    refine XS.iloadN X3.here hexec rfl (hb hbytes d8) rfl ?_
    exact Steps.refl _)
  obtain ⟨v6, T6, X6, E6, g6⟩ := X3.callS hexec (Cmp5.law l b A s.heap.size B3 o 0 len) hown (wks W (staticW U16 115 Cmp5.yN)) (wk W Cmp5.tab) (W := 0) (Nat.le_of_ble_eq_true rfl) (Nat.le_of_ble_eq_true rfl) (Nat.le_refl _) (by show 0 + len + 0 ≤ len; omega) (g := (mkF m 9 #[.val (.ref b), .val (.int (Int32.ofNat o)), .val (.int (Int32.ofNat len)), .val (.ref s.heap.size), .unset, .unset] [.int (Int32.ofNat len), .int (Int32.ofNat 0), .ref s.heap.size, .int (Int32.ofNat o), .ref b])) rfl (by rw [hml]; rfl) c5 (argsL := [.ref b, .int (Int32.ofNat o), .ref s.heap.size, .int (Int32.ofNat 0), .int (Int32.ofNat len)]) (rest := []) rfl rfl (by show 2 * 0 + 0 ≤ _; decide) (hb hbytes d9) (⟨rfl, hA3, ba3, hne, l1, by rw [bs3]; simp, hp⟩)
  obtain ⟨rfl, B6, p6, f6⟩ := E6
  have c7 : Steps p.tables e below (s₁.setTop (entryFrame m #[.ref b, .int (Int32.ofNat o), .int (Int32.ofNat len)] 6)) (T6.setTop (mkF m 12 #[.val (.ref b), .val (.int (Int32.ofNat o)), .val (.int (Int32.ofNat len)), .val (.ref s.heap.size), .unset, .unset] [.int (Int32.ofNat len)])) := g6
  have c8 : Steps p.tables e below (s₁.setTop (entryFrame m #[.ref b, .int (Int32.ofNat o), .int (Int32.ofNat len)] 6)) (T6.setTop (mkF m 58 #[.val (.ref b), .val (.int (Int32.ofNat o)), .val (.int (Int32.ofNat len)), .val (.ref s.heap.size), .val (.int (Int32.ofNat len)), .unset] [.ref s.heap.size])) := c7.trans (by
    refine XS.istore X6.here hexec rfl (hb hbytes d12) rfl rfl ?_
    refine XS.iload X6.here hexec rfl (hb hbytes d14) rfl ?_
    refine XS.iloadN X6.here hexec rfl (hb hbytes d16) rfl ?_
    refine XS.icmpYes X6.here hexec rfl (pc0 := 17) rfl (hb hbytes d17) rfl (ii_eq_t rfl) (by decide) rfl ?_
    refine XS.aloadN X6.here hexec rfl (hb hbytes d57) rfl rfl ?_
    exact Steps.refl _)
  have X8 := X6.wide (L' := []) (cells' := 1) (slots' := len) (fun x hx hlt => by
    simp only [List.nil_append, copyLocs, List.mem_map, List.mem_range] at hx
    obtain ⟨i, -, rfl⟩ := hx
    exact absurd hlt (Nat.lt_irrefl _)) (Nat.le_refl _) (by omega)
  exact ⟨T6, some (.ref s.heap.size), _, _, _, X8, rfl, rfl, rfl, (fun h => by cases h), ⟨⟨rfl, B6, ba3.like (X3.warmed.alike.symm.trans X6.warmed.alike) p6.1 f6.1 f6.2.1 f6.2.2.1, f6.2.1.trans bv3, by rw [X6.warmed.alike.findClass, f6.1]; exact bf3, by rw [f6.2.2.1, bs3]; simp, fun j hj => by rw [f6.2.2.2 j, if_pos (by omega)]; rfl, kp3.put p6 (Nat.le_refl _)⟩, by rw [p6.2.2, bh3, hh0]; simp⟩, fun fs hl => c8.trans (X8.areturnOut hexec rfl hret rfl (hb hbytes d58) hl)⟩
end Cmp3
namespace CodL
def yN : MethodName := ⟨"java/lang/StringUTF16", "coderFromArrayLen", "([BI)B"⟩
abbrev yB : ByteArray := jdk_52_method_15_code
theorem d0 : decode yB 0 = .ok (.iload_n 1, 1) := by decide +kernel
theorem d1 : decode yB 1 = .ok (.aload_n 0, 1) := by decide +kernel
theorem d2 : decode yB 2 = .ok (.arraylength, 1) := by decide +kernel
theorem d3 : decode yB 3 = .ok (.isub, 1) := by decide +kernel
theorem d4 : decode yB 4 = .ok (.bipush 31, 2) := by decide +kernel
theorem d6 : decode yB 6 = .ok (.iushr, 1) := by decide +kernel
theorem d7 : decode yB 7 = .ok (.i2b, 1) := by decide +kernel
theorem d8 : decode yB 8 = .ok (.ireturn, 1) := by decide +kernel
def site : List Cond := []
def tab : Cond := tabOf yN yB 2 (some .byte) site
def P (d : Addr) (B : Cell) (args : Array Value) (s : State) : Prop := args = #[.ref d, .int (Int32.ofNat B.slots.size)] ∧ Arr .byte d B s
def E (r : Option Value) (s u : State) : Prop := XT.PureE (some (.int 0)) r s u
/-- an array as long as the number of chars: LATIN1 -/
theorem law (l : Launch) (d : Addr) (B : Cell) : Law l yN 2 2 0 0 yB 2 (some .byte) site (P d B) E [] 0 0 := by
  refine Law.of_walk (plainFor_of_name (by decide +kernel)) (by decide +kernel) (by decide +kernel) (by decide) (fun _ _ h => by rw [h.1]; rfl) (fun _ U U' hal hh h => ⟨h.1, h.2.mv hal hh⟩) (fun r U U' V V' h1 hal h2 h => XT.PureE.mv r U U' V V' h1 hal h2 h) ?_
  intro p e s m args below meth c s₁ X0 hexec hbytes hml hret hlk hnm hown hh0 W hP
  obtain ⟨rfl, hB⟩ := hP
  have hB0 := hB.mv X0.warmed.alike hh0
  have c1 : Steps p.tables e below (s₁.setTop (entryFrame m #[.ref d, .int (Int32.ofNat B.slots.size)] 2)) (s₁.setTop (mkF m 0 #[.val (.ref d), .val (.int (Int32.ofNat B.slots.size))] [])) := entry rfl
  have c2 : Steps p.tables e below (s₁.setTop (entryFrame m #[.ref d, .int (Int32.ofNat B.slots.size)] 2)) (s₁.setTop (mkF m 2 #[.val (.ref d), .val (.int (Int32.ofNat B.slots.size))] [.ref d, .int (Int32.ofNat B.slots.size)])) := c1.trans (by
    refine XS.iloadN X0.here hexec rfl (hb hbytes d0) rfl ?_
    refine XS.aloadN X0.here hexec rfl (hb hbytes d1) rfl rfl ?_
    exact Steps.refl _)
  have c3 : Steps p.tables e below (s₁.setTop (entryFrame m #[.ref d, .int (Int32.ofNat B.slots.size)] 2)) (s₁.setTop (mkF m 8 #[.val (.ref d), .val (.int (Int32.ofNat B.slots.size))] [.int (lo8 (ushr (Int32.ofNat B.slots.size - Int32.ofNat B.slots.size) 31))])) := c2.trans (by
    refine X0.alen hexec hB0 rfl rfl (hb hbytes d2) ?_
    refine XS.isub X0.here hexec rfl (hb hbytes d3) rfl ?_
    refine bipushV X0.here hexec rfl 31 (hb hbytes d4) (by decide) ?_
    refine iushr X0.here hexec rfl (hb hbytes d6) rfl ?_
    refine i2b X0.here hexec rfl (hb hbytes d7) rfl ?_
    exact Steps.refl _)
  have e0 : lo8 (ushr (Int32.ofNat B.slots.size - Int32.ofNat B.slots.size) 31) = 0 := by rw [Int32.sub_self]; decide
  rw [e0] at c3
  exact ⟨s₁, some (.int 0), _, _, _, X0, rfl, rfl, rfl, (fun h => by cases h), ⟨rfl, hh0⟩, fun fs hl => c3.trans (X0.ireturnOut hexec hret rfl (Or.inr (Or.inr (Or.inl rfl))) (hb hbytes d8) hl)⟩
end CodL
/-- the String at a is Latin-1 over a new byte[] (the heap's one new cell): the low bytes of the len chars of A from o on; every cell but a is kept -/
def Got (a : Addr) (D : Cell) (fV fC : Field) (A : Cell) (o len : Nat) (r : Option Value) (s u : State) : Prop := r = none ∧ ∃ D' V : Cell, Blank "java/lang/String" a D' u ∧ Same D D' [fV.slot, fC.slot] ∧ D'.slots[fV.slot]? = some (.ref s.heap.size) ∧ D'.slots[fC.slot]? = some (.int 0) ∧ Arr .byte s.heap.size V u ∧ V.vm = .none ∧ u.vm.findClass "[B" = some V.cls ∧ V.slots.size = len ∧ (∀ j, j < len → V.slots[j]? = some (.int (lo8 (cv A (o + j))))) ∧ (∀ (y : Addr) (c : Cell), y ≠ a → s.heap[y]? = some c → u.heap[y]? = some c) ∧ u.heap.size = s.heap.size + 1
theorem Got.mv {a : Addr} {D A : Cell} {fV fC : Field} {o len : Nat} : ∀ r (U U' V V' : State), U'.heap = U.heap → V.vm.Alike V'.vm → V'.heap = V.heap → Got a D fV fC A o len r U V → Got a D fV fC A o len r U' V' :=
  fun r U U' V V' h1 hal h2 ⟨e0, D', X, a1, a2, a3, a4, a5, a6, a7, a8, a9, a10, a11⟩ => ⟨e0, D', X, a1.mv hal h2, a2, by rw [h1]; exact a3, a4, by rw [h1]; exact a5.mv hal h2, a6, by rw [hal.findClass]; exact a7, a8, a9, by rw [h1, h2]; exact a10, by rw [h1, h2]; exact a11⟩
namespace New4
def yN : MethodName := ⟨"java/lang/String", "<init>", "([CIILjava/lang/Void;)V"⟩
abbrev yB : ByteArray := jdk_42_method_149_code
theorem d0 : decode yB 0 = .ok (.aload_n 0, 1) := by decide +kernel
theorem d1 : decode yB 1 = .ok (.invokespecial 1, 3) := by decide +kernel
theorem d4 : decode yB 4 = .ok (.iload_n 3, 1) := by decide +kernel
theorem d5 : decode yB 5 = .ok (.ifCond (.ne) 22, 3) := by decide +kernel
theorem d27 : decode yB 27 = .ok (.getstatic 38, 3) := by decide +kernel
theorem d30 : decode yB 30 = .ok (.ifCond (.eq) 28, 3) := by decide +kernel
theorem d33 : decode yB 33 = .ok (.aload_n 1, 1) := by decide +kernel
theorem d34 : decode yB 34 = .ok (.iload_n 2, 1) := by decide +kernel
theorem d35 : decode yB 35 = .ok (.iload_n 3, 1) := by decide +kernel
theorem d36 : decode yB 36 = .ok (.invokestatic 177, 3) := by decide +kernel
theorem d39 : decode yB 39 = .ok (.astore 5, 2) := by decide +kernel
theorem d41 : decode yB 41 = .ok (.aload_n 0, 1) := by decide +kernel
theorem d42 : decode yB 42 = .ok (.aload 5, 2) := by decide +kernel
theorem d44 : decode yB 44 = .ok (.iload_n 3, 1) := by decide +kernel
theorem d45 : decode yB 45 = .ok (.invokestatic 47, 3) := by decide +kernel
theorem d48 : decode yB 48 = .ok (.putfield 15, 3) := by decide +kernel
theorem d51 : decode yB 51 = .ok (.aload_n 0, 1) := by decide +kernel
theorem d52 : decode yB 52 = .ok (.aload 5, 2) := by decide +kernel
theorem d54 : decode yB 54 = .ok (.putfield 9, 3) := by decide +kernel
theorem d57 : decode yB 57 = .ok (.return_, 1) := by decide +kernel
def site : List Cond := [.fieldLink "java/lang/String" 38 "java/lang/String" "COMPACT_STRINGS" "Z", Cmp3.tab, CodL.tab, .laysFinal "java/lang/String" "java/lang/String" "value" "[B", .fieldLink "java/lang/String" 9 "java/lang/String" "value" "[B", .laysFinal "java/lang/String" "java/lang/String" "coder" "B", .fieldLink "java/lang/String" 15 "java/lang/String" "coder" "B"] ++ objW "java/lang/String" 1 ++ staticW "java/lang/String" 177 Cmp3.yN ++ staticW "java/lang/String" 47 CodL.yN
def tab : Cond := tabOf yN yB 6 none site
def P (a : Addr) (D : Cell) (fV fC : Field) (b : Addr) (A : Cell) (z : Int32) (o len : Nat) (args : Array Value) (s : State) : Prop := args = #[.ref a, .ref b, .int (Int32.ofNat o), .int (Int32.ofNat len), .null] ∧ Blank "java/lang/String" a D s ∧ Found "java/lang/String" "value" "[B" fV s ∧ Found "java/lang/String" "coder" "B" fC s ∧ Ch b A s ∧ StaticIs s "java/lang/String" "COMPACT_STRINGS" "Z" (.int z) ∧ ¬ z = 0 ∧ 0 < len ∧ o + len ≤ A.slots.size ∧ len ≤ 536870912 ∧ ∀ i, i < len → ¬ 255 < cv A (o + i)
def E (a : Addr) (D : Cell) (fV fC : Field) (A : Cell) (o len : Nat) (r : Option Value) (s u : State) : Prop := Got a D fV fC A o len r s u
/-- len > 0, no char of the range above 255: a Latin-1 String of their low bytes -/
theorem law (l : Launch) (a : Addr) (D : Cell) (fV fC : Field) (b : Addr) (A : Cell) (z : Int32) (o len : Nat) : Law l yN 5 4 2 35 yB 6 none site (P a D fV fC b A z o len) (E a D fV fC A o len) [⟨a, fC.slot⟩, ⟨a, fV.slot⟩] 1 len := by
  refine Law.of_walk (plainFor_of_name (by decide +kernel)) (by decide +kernel) (by decide +kernel) (by decide) (fun _ _ h => by rw [h.1]; rfl) (fun _ U U' hal hh h => ⟨h.1, h.2.1.mv hal hh, h.2.2.1.al hal, h.2.2.2.1.al hal, h.2.2.2.2.1.mv hal hh, h.2.2.2.2.2.1.there hal hh, h.2.2.2.2.2.2⟩) (fun r U U' V V' h1 hal h2 h => Got.mv r U U' V V' h1 hal h2 h) ?_
  intro p e s m args below meth c s₁ X0 hexec hbytes hml hret hlk hnm hown hh0 W hP
  obtain ⟨rfl, hB, f1, f2, hA, s1, hz, l0, l1, l2, hp⟩ := hP
  have a31 := hA.1.2.2.2
  have c1 : Steps p.tables e below (s₁.setTop (entryFrame m #[.ref a, .ref b, .int (Int32.ofNat o), .int (Int32.ofNat len), .null] 6)) (s₁.setTop (mkF m 0 #[.val (.ref a), .val (.ref b), .val (.int (Int32.ofNat o)), .val (.int (Int32.ofNat len)), .val .null, .unset] [])) := entry rfl
  have c2 : Steps p.tables e below (s₁.setTop (entryFrame m #[.ref a, .ref b, .int (Int32.ofNat o), .int (Int32.ofNat len), .null] 6)) (s₁.setTop (mkF m 1 #[.val (.ref a), .val (.ref b), .val (.int (Int32.ofNat o)), .val (.int (Int32.ofNat len)), .val .null, .unset] [.ref a])) := c1.trans (by
    refine XS.aloadN X0.here hexec rfl (hb hbytes d0) rfl rfl ?_
    exact Steps.refl _)
  obtain ⟨T3, X3, q3, st3⟩ := X0.oinit hexec hown (wks W (objW "java/lang/String" 1)) (g := (mkF m 1 #[.val (.ref a), .val (.ref b), .val (.int (Int32.ofNat o)), .val (.int (Int32.ofNat len)), .val .null, .unset] [.ref a])) rfl (by rw [hml]; rfl) (rest := []) rfl (hb hbytes d1) (W := 0) (by show 2 * 0 + 0 ≤ _; decide) (Nat.le_of_ble_eq_true rfl) (Nat.le_of_ble_eq_true rfl)
  have hh3 := q3.trans hh0
  have c4 : Steps p.tables e below (s₁.setTop (entryFrame m #[.ref a, .ref b, .int (Int32.ofNat o), .int (Int32.ofNat len), .null] 6)) (T3.setTop (mkF m 27 #[.val (.ref a), .val (.ref b), .val (.int (Int32.ofNat o)), .val (.int (Int32.ofNat len)), .val .null, .unset] [])) := (c2.trans (st3 _ (Steps.refl _))).trans (by
    refine XS.iloadN X3.here hexec rfl (hb hbytes d4) rfl ?_
    refine XS.ifYes X3.here hexec rfl (pc0 := 5) rfl (hb hbytes d5) rfl (i0_ne_t (nz32 (by omega) l0)) (by decide) rfl ?_
    exact Steps.refl _)
  obtain ⟨T5, X5, q5, st5⟩ := X3.sget hexec hown (wk W (.fieldLink "java/lang/String" 38 "java/lang/String" "COMPACT_STRINGS" "Z")) s1 (fun _ _ h => by rw [hh3]; exact h) (g := (mkF m 27 #[.val (.ref a), .val (.ref b), .val (.int (Int32.ofNat o)), .val (.int (Int32.ofNat len)), .val .null, .unset] [])) rfl (hb hbytes d27)
  have hh5 := q5.trans hh3
  have c6 : Steps p.tables e below (s₁.setTop (entryFrame m #[.ref a, .ref b, .int (Int32.ofNat o), .int (Int32.ofNat len), .null] 6)) (T5.setTop (mkF m 30 #[.val (.ref a), .val (.ref b), .val (.int (Int32.ofNat o)), .val (.int (Int32.ofNat len)), .val .null, .unset] [.int z])) := c4.trans (st5 _ (Steps.refl _))
  have c7 : Steps p.tables e below (s₁.setTop (entryFrame m #[.ref a, .ref b, .int (Int32.ofNat o), .int (Int32.ofNat len), .null] 6)) (T5.setTop (mkF m 36 #[.val (.ref a), .val (.ref b), .val (.int (Int32.ofNat o)), .val (.int (Int32.ofNat len)), .val .null, .unset] [.int (Int32.ofNat len), .int (Int32.ofNat o), .ref b])) := c6.trans (by
    refine XS.ifNo X5.here hexec rfl (hb hbytes d30) rfl (i0_eq_f hz) ?_
    refine XS.aloadN X5.here hexec rfl (hb hbytes d33) rfl rfl ?_
    refine XS.iloadN X5.here hexec rfl (hb hbytes d34) rfl ?_
    refine XS.iloadN X5.here hexec rfl (hb hbytes d35) rfl ?_
    exact Steps.refl _)
  obtain ⟨v8, T8, X8, E8, g8⟩ := X5.callS hexec (Cmp3.law l b A o len) hown (wks W (staticW "java/lang/String" 177 Cmp3.yN)) (wk W Cmp3.tab) (W := 0) (Nat.le_of_ble_eq_true rfl) (Nat.le_of_ble_eq_true rfl) (Nat.le_refl _) (by show 0 + len ≤ len; omega) (g := (mkF m 36 #[.val (.ref a), .val (.ref b), .val (.int (Int32.ofNat o)), .val (.int (Int32.ofNat len)), .val .null, .unset] [.int (Int32.ofNat len), .int (Int32.ofNat o), .ref b])) rfl (by rw [hml]; rfl) c7 (argsL := [.ref b, .int (Int32.ofNat o), .int (Int32.ofNat len)]) (rest := []) rfl rfl (by show 2 * 0 + 0 ≤ _; decide) (hb hbytes d36) (⟨rfl, hA.mv X5.warmed.alike hh5, l1, l2, hp⟩)
  obtain ⟨e8, z8⟩ := E8
  obtain ⟨rfl, N, n1, n2, n3, n4, n5, n6⟩ := NewArr.mv _ T5 s _ _ hh5.symm (Vm.Alike.refl _) rfl e8
  rw [hh5] at z8
  have hB1 := hB.keep X8.warmed.alike (n6 _ _ hB.1)
  have hne : s.heap.size ≠ a := (Nat.ne_of_lt (Array.getElem?_eq_some_iff.mp hB.1).1).symm
  have c9 : Steps p.tables e below (s₁.setTop (entryFrame m #[.ref a, .ref b, .int (Int32.ofNat o), .int (Int32.ofNat len), .null] 6)) (T8.setTop (mkF m 39 #[.val (.ref a), .val (.ref b), .val (.int (Int32.ofNat o)), .val (.int (Int32.ofNat len)), .val .null, .unset] [.ref s.heap.size])) := g8
  have c10 : Steps p.tables e below (s₁.setTop (entryFrame m #[.ref a, .ref b, .int (Int32.ofNat o), .int (Int32.ofNat len), .null] 6)) (T8.setTop (mkF m 45 #[.val (.ref a), .val (.ref b), .val (.int (Int32.ofNat o)), .val (.int (Int32.ofNat len)), .val .null, .val (.ref s.heap.size)] [.int (Int32.ofNat N.slots.size), .ref s.heap.size, .ref a])) := by
    have hc : Steps p.tables e below (s₁.setTop (entryFrame m #[.ref a, .ref b, .int (Int32.ofNat o), .int (Int32.ofNat len), .null] 6)) (T8.setTop (mkF m 45 #[.val (.ref a), .val (.ref b), .val (.int (Int32.ofNat o)), .val (.int (Int32.ofNat len)), .val .null, .val (.ref s.heap.size)] [.int (Int32.ofNat len), .ref s.heap.size, .ref a])) := c9.trans (by
      refine XS.astore X8.here hexec rfl (hb hbytes d39) rfl rfl rfl ?_
      refine XS.aloadN X8.here hexec rfl (hb hbytes d41) rfl rfl ?_
      refine XS.aload X8.here hexec rfl (hb hbytes d42) rfl rfl ?_
      refine XS.iloadN X8.here hexec rfl (hb hbytes d44) rfl ?_
      exact Steps.refl _)
    rw [n4]; exact hc
  obtain ⟨v11, T11, X11, E11, g11⟩ := X8.callS hexec (CodL.law l s.heap.size N) hown (wks W (staticW "java/lang/String" 47 CodL.yN)) (wk W CodL.tab) (W := 1) (Nat.le_of_ble_eq_true rfl) (Nat.le_of_ble_eq_true rfl) (Nat.le_refl _) (by show 0 + len + 0 ≤ len; omega) (g := (mkF m 45 #[.val (.ref a), .val (.ref b), .val (.int (Int32.ofNat o)), .val (.int (Int32.ofNat len)), .val .null, .val (.ref s.heap.size)] [.int (Int32.ofNat N.slots.size), .ref s.heap.size, .ref a])) rfl (by rw [hml]; rfl) c10 (argsL := [.ref s.heap.size, .int (Int32.ofNat N.slots.size)]) (rest := [.ref a]) rfl rfl (by show 2 * 0 + (1 + 0) ≤ _; decide) (hb hbytes d45) (⟨rfl, n1⟩)
  obtain ⟨rfl, q11⟩ := E11
  have hB11 := hB1.mv (X8.warmed.alike.symm.trans X11.warmed.alike) q11
  have c12 : Steps p.tables e below (s₁.setTop (entryFrame m #[.ref a, .ref b, .int (Int32.ofNat o), .int (Int32.ofNat len), .null] 6)) (T11.setTop (mkF m 48 #[.val (.ref a), .val (.ref b), .val (.int (Int32.ofNat o)), .val (.int (Int32.ofNat len)), .val .null, .val (.ref s.heap.size)] [.int 0, .ref a])) := g11
  obtain ⟨T13, X13, p13, bl13, sl13, st13⟩ := X11.finit hexec hown (wk W (.fieldLink "java/lang/String" 15 "java/lang/String" "coder" "B")) (Or.inr ⟨_, (wk W (.laysFinal "java/lang/String" "java/lang/String" "coder" "B"))⟩) (Or.inl ⟨rfl, hnm⟩) f2 (Or.inl rfl) hB11 (t := .byte) (by decide +kernel) rfl (g := (mkF m 48 #[.val (.ref a), .val (.ref b), .val (.int (Int32.ofNat o)), .val (.int (Int32.ofNat len)), .val .null, .val (.ref s.heap.size)] [.int 0, .ref a])) rfl (rest := []) rfl (hb hbytes d48)
  have c14 : Steps p.tables e below (s₁.setTop (entryFrame m #[.ref a, .ref b, .int (Int32.ofNat o), .int (Int32.ofNat len), .null] 6)) (T13.setTop (mkF m 54 #[.val (.ref a), .val (.ref b), .val (.int (Int32.ofNat o)), .val (.int (Int32.ofNat len)), .val .null, .val (.ref s.heap.size)] [.ref s.heap.size, .ref a])) := (c12.trans (st13 _ (Steps.refl _))).trans (by
    refine XS.aloadN X13.here hexec rfl (hb hbytes d51) rfl rfl ?_
    refine XS.aload X13.here hexec rfl (hb hbytes d52) rfl rfl ?_
    exact Steps.refl _)
  obtain ⟨T15, X15, p15, bl15, sl15, st15⟩ := X13.finit hexec hown (wk W (.fieldLink "java/lang/String" 9 "java/lang/String" "value" "[B")) (Or.inr ⟨_, (wk W (.laysFinal "java/lang/String" "java/lang/String" "value" "[B"))⟩) (Or.inl ⟨rfl, hnm⟩) f1 (Or.inl rfl) bl13 (t := (.array .byte)) (by decide +kernel) rfl (g := (mkF m 54 #[.val (.ref a), .val (.ref b), .val (.int (Int32.ofNat o)), .val (.int (Int32.ofNat len)), .val .null, .val (.ref s.heap.size)] [.ref s.heap.size, .ref a])) rfl (rest := []) rfl (hb hbytes d54)
  have c16 : Steps p.tables e below (s₁.setTop (entryFrame m #[.ref a, .ref b, .int (Int32.ofNat o), .int (Int32.ofNat len), .null] 6)) (T15.setTop (mkF m 57 #[.val (.ref a), .val (.ref b), .val (.int (Int32.ofNat o)), .val (.int (Int32.ofNat len)), .val .null, .val (.ref s.heap.size)] [])) := c14.trans (st15 _ (Steps.refl _))
  have ap := apart (Or.inr ⟨_, (wk W (.laysFinal "java/lang/String" "java/lang/String" "value" "[B"))⟩) (Or.inr ⟨_, (wk W (.laysFinal "java/lang/String" "java/lang/String" "coder" "B"))⟩) f1 f2 (t₁ := .array .byte) (t₂ := .byte) (by decide +kernel) (by decide +kernel) (by decide)
  have al := X8.warmed.alike.symm.trans X15.warmed.alike
  have n7 : T11.heap[s.heap.size]? = some N := by rw [q11]; exact n1.1
  exact ⟨T15, none, _, _, _, X15, by simp, rfl, by omega, (fun _ => rfl), ⟨rfl, _, N, bl15, ((Same.refl D _).set _ (by simp)).set _ (by simp), sl15, (Cell.slots_setSlot_ne _ ap).trans sl13, n1.keep al (p15.other hne (p13.other hne n7)), n2, by rw [al.findClass]; exact n3, n4, n5, fun y c h1 h2 => p15.other h1 (p13.other h1 (by rw [q11]; exact n6 y c h2)), by rw [p15.2.2, p13.2.2, q11]; exact z8⟩, fun fs hl => c16.trans (X15.returnOut hexec hret (hb hbytes d57) hl)⟩
end New4
namespace New1
def yN : MethodName := ⟨"java/lang/String", "<init>", "([C)V"⟩
abbrev yB : ByteArray := jdk_42_method_3_code
theorem d0 : decode yB 0 = .ok (.aload_n 0, 1) := by decide +kernel
theorem d1 : decode yB 1 = .ok (.aload_n 1, 1) := by decide +kernel
theorem d2 : decode yB 2 = .ok (.iconst 0, 1) := by decide +kernel
theorem d3 : decode yB 3 = .ok (.aload_n 1, 1) := by decide +kernel
theorem d4 : decode yB 4 = .ok (.arraylength, 1) := by decide +kernel
theorem d5 : decode yB 5 = .ok (.aconst_null, 1) := by decide +kernel
theorem d6 : decode yB 6 = .ok (.invokespecial 27, 3) := by decide +kernel
theorem d9 : decode yB 9 = .ok (.return_, 1) := by decide +kernel
def site : List Cond := [New4.tab] ++ initW "java/lang/String" 27 New4.yN
def tab : Cond := tabOf yN yB 2 none site
def P (a : Addr) (D : Cell) (fV fC : Field) (b : Addr) (A : Cell) (z : Int32) (args : Array Value) (s : State) : Prop := args = #[.ref a, .ref b] ∧ Blank "java/lang/String" a D s ∧ Found "java/lang/String" "value" "[B" fV s ∧ Found "java/lang/String" "coder" "B" fC s ∧ Ch b A s ∧ StaticIs s "java/lang/String" "COMPACT_STRINGS" "Z" (.int z) ∧ ¬ z = 0 ∧ 0 < A.slots.size ∧ A.slots.size ≤ 536870912 ∧ ∀ i, i < A.slots.size → ¬ 255 < cv A i
def E (a : Addr) (D : Cell) (fV fC : Field) (A : Cell) (r : Option Value) (s u : State) : Prop := Got a D fV fC A 0 A.slots.size r s u
/-- new String(chars), not empty, no char above 255: a Latin-1 String of their low bytes -/
theorem law (l : Launch) (a : Addr) (D : Cell) (fV fC : Field) (b : Addr) (A : Cell) (z : Int32) : Law l yN 2 1 3 52 yB 2 none site (P a D fV fC b A z) (E a D fV fC A) [⟨a, fC.slot⟩, ⟨a, fV.slot⟩] 1 A.slots.size := by
  refine Law.of_walk (plainFor_of_name (by decide +kernel)) (by decide +kernel) (by decide +kernel) (by decide) (fun _ _ h => by rw [h.1]; rfl) (fun _ U U' hal hh h => ⟨h.1, h.2.1.mv hal hh, h.2.2.1.al hal, h.2.2.2.1.al hal, h.2.2.2.2.1.mv hal hh, h.2.2.2.2.2.1.there hal hh, h.2.2.2.2.2.2⟩) (fun r U U' V V' h1 hal h2 h => Got.mv r U U' V V' h1 hal h2 h) ?_
  intro p e s m args below meth c s₁ X0 hexec hbytes hml hret hlk hnm hown hh0 W hP
  obtain ⟨rfl, hB, f1, f2, hA, s1, hz, l0, l2, hp⟩ := hP
  have c1 : Steps p.tables e below (s₁.setTop (entryFrame m #[.ref a, .ref b] 2)) (s₁.setTop (mkF m 0 #[.val (.ref a), .val (.ref b)] [])) := entry rfl
  have c2 : Steps p.tables e below (s₁.setTop (entryFrame m #[.ref a, .ref b] 2)) (s₁.setTop (mkF m 6 #[.val (.ref a), .val (.ref b)] [.null, .int (Int32.ofNat A.slots.size), .int 0, .ref b, .ref a])) := c1.trans (by
    refine XS.aloadN X0.here hexec rfl (hb hbytes d0) rfl rfl ?_
    refine XS.aloadN X0.here hexec rfl (hb hbytes d1) rfl rfl ?_
    refine iconstV X0.here hexec rfl 0 (hb hbytes d2) (by decide) ?_
    refine XS.aloadN X0.here hexec rfl (hb hbytes d3) rfl rfl ?_
    refine X0.alen hexec (hA.1.mv X0.warmed.alike hh0) rfl rfl (hb hbytes d4) ?_
    refine XS.aconstNull X0.here hexec rfl (hb hbytes d5) ?_
    exact Steps.refl _)
  obtain ⟨v3, T3, X3, E3, g3⟩ := X0.callN hexec (New4.law l a D fV fC b A z 0 A.slots.size) rfl hown (wks W (initW "java/lang/String" 27 New4.yN)) (W New4.tab (by simp only [site, List.mem_cons, List.mem_append, true_or, or_true])) (W := 0) (Nat.le_of_ble_eq_true rfl) (Nat.le_of_ble_eq_true rfl) (Nat.le_refl _) (by show 0 + A.slots.size ≤ A.slots.size; omega) (g := (mkF m 6 #[.val (.ref a), .val (.ref b)] [.null, .int (Int32.ofNat A.slots.size), .int (Int32.ofNat 0), .ref b, .ref a])) rfl (by rw [hml]; rfl) c2 (argsL := [.ref b, .int (Int32.ofNat 0), .int (Int32.ofNat A.slots.size), .null]) (rest := []) rfl rfl (by show 2 * 0 + 0 ≤ _; decide) (hb hbytes d6) (⟨rfl, hB.mv X0.warmed.alike hh0, f1.al X0.warmed.alike, f2.al X0.warmed.alike, hA.mv X0.warmed.alike hh0, s1.there X0.warmed.alike hh0, hz, l0, by omega, l2, fun i hi => by rw [Nat.zero_add]; exact hp i hi⟩)
  have e0 := Got.mv _ s₁ s _ _ hh0.symm (Vm.Alike.refl _) rfl E3
  obtain rfl := e0.1
  have c4 : Steps p.tables e below (s₁.setTop (entryFrame m #[.ref a, .ref b] 2)) (T3.setTop (mkF m 9 #[.val (.ref a), .val (.ref b)] [])) := g3
  exact ⟨T3, none, _, _, _, X3, by simp, rfl, by omega, (fun _ => rfl), e0, fun fs hl => c4.trans (X3.returnOut hexec hret (hb hbytes d9) hl)⟩
theorem pays {l : Launch} {R : Room} {p : Program} {e : Env} {below : List Frame} {s : State} {sargs : Array Value} {len W : Nat} (a : Addr) (D : Cell) (fV fC : Field) (b : Addr) (A : Cell) (z : Int32) (htab : tab.before sargs s = true) (hfr : 4 ≤ R.frames) (hlo : W + 65 ≤ R.locals) :
    Back l R p e below s sargs yN len W (fun A₁ a₁ => A₁.cells + 1 ≤ R.cells ∧ A₁.slots + A.slots.size ≤ R.slots ∧ P a D fV fC b A z a₁ A₁.U) (fun A₁ _ v₁ B₁ => E a D fV fC A v₁ A₁.U B₁.U ∧ B₁.locs = A₁.locs ++ [⟨a, fC.slot⟩, ⟨a, fV.slot⟩] ∧ B₁.cells = A₁.cells + 1 ∧ B₁.slots = A₁.slots + A.slots.size) :=
  (law l a D fV fC b A z).pays htab hfr (by omega)
end New1
end StrChars
namespace StrChars.Road
open Jvm Sem ClassFile Op Lib Jvm.Stand Jvm.Free Jvm.Free.XT
open Jvm.Lib.Cold (StaticIs)
abbrev ST : String := "java/lang/String"
/-- every table word that New1's law asks, flat -/
abbrev words : List Jvm.Cond := [.code New1.yN New1.yB 2 none, .initialized ST, .methodLink ST 27 New4.yN, .instanceMethod New4.yN,
  .code New4.yN New4.yB 6 none, .fieldLink ST 38 ST "COMPACT_STRINGS" "Z", .laysFinal ST ST "value" "[B", .fieldLink ST 9 ST "value" "[B", .laysFinal ST ST "coder" "B", .fieldLink ST 15 ST "coder" "B",
  .methodLink ST 1 Lib.objectInit, .instanceMethod Lib.objectInit, .code Lib.objectInit ⟨#[0xb1]⟩ 1 none, .methodLink ST 177 Cmp3.yN, .static Cmp3.yN, .methodLink ST 47 CodL.yN, .static CodL.yN,
  .code Cmp3.yN Cmp3.yB 6 (some (.array .byte)), .initialized U16, .arrayClass .byte, .methodLink U16 115 Cmp5.yN, .static Cmp5.yN, .code Cmp5.yN Cmp5.yB 7 (some .int), .code CodL.yN CodL.yB 2 (some .byte)]
theorem tab_of {a : Array Value} {s : State} (h : ∀ w ∈ words, w.before a s = true) : New1.tab.before a s = true := by
  have h5 : Cmp5.tab.before a s = true := unparts (wk h (.code Cmp5.yN Cmp5.yB 7 (some .int))) (wks h (.initialized Cmp5.yN.cls :: Cmp5.site))
  have hc : CodL.tab.before a s = true := unparts (wk h (.code CodL.yN CodL.yB 2 (some .byte))) (wks h (.initialized CodL.yN.cls :: CodL.site))
  have q5 : ∀ w ∈ Cmp5.tab :: words, w.before a s = true := fun w hw => (List.mem_cons.mp hw).elim (fun e => e ▸ h5) (h w)
  have h3 : Cmp3.tab.before a s = true := unparts (wk q5 (.code Cmp3.yN Cmp3.yB 6 (some (.array .byte)))) (wks q5 (.initialized Cmp3.yN.cls :: Cmp3.site))
  have q3 : ∀ w ∈ Cmp3.tab :: CodL.tab :: words, w.before a s = true := fun w hw => (List.mem_cons.mp hw).elim (fun e => e ▸ h3) fun hw => (List.mem_cons.mp hw).elim (fun e => e ▸ hc) (h w)
  have h4 : New4.tab.before a s = true := unparts (wk q3 (.code New4.yN New4.yB 6 none)) (wks q3 (.initialized New4.yN.cls :: New4.site))
  have q4 : ∀ w ∈ New4.tab :: words, w.before a s = true := fun w hw => (List.mem_cons.mp hw).elim (fun e => e ▸ h4) (h w)
  exact unparts (wk q4 (.code New1.yN New1.yB 2 none)) (wks q4 (.initialized New1.yN.cls :: New1.site))
/-- the words ride from the start Z to the walk's own state -/
theorem moved {Z s : State} {a0 args : Array Value} (hZ : Z.Warmed39 s.vm) (hw : ∀ d ∈ words, d.before a0 Z = true) : ∀ d ∈ words, d.before args s = true := fun d hd => by
  have q := hw d hd
  have t : ∀ d ∈ words, d = .arrayClass .byte ∨ (d.onTables && d.keepsFace) = true := by decide +kernel
  rcases t d hd with rfl | t
  · exact RoadKit.mvA hZ q
  · exact RoadKit.mv hZ q t
/-- WHAT COMES BACK, over the tables of the start Z: h the heap at the call, h' behind it -/
def Q (Z : State) (x : Addr) (A : Cell) (h : Heap) (v : Option Value) (h' : Heap) (L : List Loc) : Prop := v = none ∧ (∀ y ∈ L, y.base = x) ∧ RoadKit.Keep h h' [x] ∧ h'.size = h.size + 1 ∧ RoadKit.Exa Z h' x ST ∧ RoadKit.Fld Z h' x ST "value" "[B" (.ref h.size) ∧ RoadKit.Fld Z h' x ST "coder" "B" (.int 0) ∧
  (∃ V : Cell, RoadKit.Arr Z h' h.size V .byte ∧ V.vm = .none ∧ Z.vm.findClass "[B" = some V.cls ∧ V.slots.size = A.slots.size ∧ ∀ j, j < A.slots.size → V.slots[j]? = some (.int (lo8 (cv A j)))) ∧
  ∀ (O n d : String) (w : Value), RoadKit.Fld Z h x O n d w → RoadKit.slotOf Z O n d ≠ RoadKit.slotOf Z ST "value" "[B" → RoadKit.slotOf Z O n d ≠ RoadKit.slotOf Z ST "coder" "B" → RoadKit.Fld Z h' x O n d w
/-- **new String(chars) AT A CALL, IN THE ROAD'S FORM**: for specialBack behind newO: x the fresh String, b the char[] with the cell A -/
theorem back {p : Program} {l : Launch} {e : Env} {R : Room} {s : State} {args : Array Value} {below : List Frame} {len W : Nat} {Z : State} {a0 : Array Value} {h : Heap} (hZ : Z.Warmed39 s.vm) (hw : ∀ d ∈ words, d.before a0 Z = true) {kI : Nat} (wi : (Jvm.Cond.instantiable ST kI).before a0 Z = true)
    {x b : Addr} {A : Cell} {z : Int32} {v0 c0 : Value} (E : RoadKit.Exa Z h x ST) (V : RoadKit.Fld Z h x ST "value" "[B" v0) (C : RoadKit.Fld Z h x ST "coder" "B" c0) (K : RoadKit.Arr Z h b A .char) (hty : Typed .char A) (S : RoadKit.Sta Z h ST "COMPACT_STRINGS" "Z" (.int z)) (hz : ¬ z = 0)
    (l0 : 0 < A.slots.size) (l2 : A.slots.size ≤ 536870912) (hp : ∀ i, i < A.slots.size → ¬ 255 < cv A i) (hfr : 4 ≤ R.frames) (hlo : W + 65 ≤ R.locals) :
    Back l R p e below s args New1.yN len W (fun P a => a = #[.ref x, .ref b] ∧ P.U.heap = h ∧ P.cells + 1 ≤ R.cells ∧ P.slots + A.slots.size ≤ R.slots)
      (fun P _ v B => ∃ L, Q Z x A h v B.U.heap L ∧ B.locs = P.locs ++ L ∧ B.cells = P.cells + 1 ∧ B.slots = P.slots + A.slots.size) := by
  intro m meth c P g ig mk a X hg hsize hdg hW hn hp'
  obtain ⟨rfl, rfl, r1, r2⟩ := hp'
  have al : Z.vm.Alike P.U.vm := hZ.alike.trans X.warmed.alike
  obtain ⟨D, cfV, kV, iV, fV, hD, gV, stV, knV, obV, asV, slV⟩ := id V
  obtain ⟨D', cfC, kC, iC, fC, hD', gC, stC, -, -, asC, slC⟩ := id C
  cases hD.symm.trans hD'
  obtain ⟨D2, kD, e1, e2, e3, e4, e5⟩ := id E
  cases hD.symm.trans e1
  obtain ⟨c2, k2, i1, i2, i3, -⟩ := Cond.instantiable_spec wi
  cases e2.symm.trans i1
  cases e3.symm.trans i2
  obtain ⟨kU, u1, u2⟩ := al.2.2 _ _ e3
  have hB : Blank ST x D P.U := ⟨hD, ⟨knV, fun q hq => by rw [hq] at obV; cases obV⟩, by rw [al.findClass]; exact e2, kU, u1, by rw [u2]; exact i3, by rw [u2]; exact e5 i3⟩
  have F1 : Found ST "value" "[B" fV P.U := ⟨SBG.found_only al ⟨cfV, kV, iV, gV⟩, stV⟩
  have F2 : Found ST "coder" "B" fC P.U := ⟨SBG.found_only al ⟨cfC, kC, iC, gC⟩, stC⟩
  have hA : Ch b A P.U := ⟨⟨K.1, State.isArrayOf_alike al K.2.1, K.2.2, by omega⟩, hty⟩
  have hS : StaticIs P.U ST "COMPACT_STRINGS" "Z" (.int z) := by
    obtain ⟨cfS, iS, kS, fS, st, cS, t1, t2, t3, t4, t5, t6, t7⟩ := S
    exact StaticIs.there (s := { Z with heap := P.U.heap }) ⟨cfS, iS, kS, fS, st, cS, t1, t2, t3, t4, t5, (fun q => by rw [q] at t6; cases t6), t7⟩ al rfl
  obtain ⟨v, B, X', ⟨⟨hv, E', V', q1, q2, q3, q4, q5, q6, q7, q8, q9, q10, q11⟩, hl, hc, hs⟩, st⟩ := New1.pays x D fV fC b A z (tab_of (moved hZ hw)) hfr hlo m meth c P g ig mk _ X hg hsize hdg hW hn ⟨r1, r2, rfl, hB, F1, F2, hA, hS, hz, l0, l2, hp⟩
  have al' : Z.vm.Alike B.U.vm := hZ.alike.trans X'.warmed.alike
  have hsz : E'.slots.size = D.slots.size := by
    obtain ⟨-, -, -, kB, w1, w2, w3⟩ := q1
    obtain ⟨kB', y1, y2⟩ := al'.2.2 _ _ e3
    rw [q2.2.1] at w1
    cases w1.symm.trans y1
    rw [w3, e5 i3, y2]
  refine ⟨v, B, X', ⟨_, ⟨hv, ?_, ⟨by omega, fun y cy hy hn' => q10 y cy (by simpa using hn') hy, fun y cy hy => ?_⟩, q11, ⟨E', _, q1.1, by rw [q2.2.1]; exact e2, by rw [q2.2.1]; exact e3, by rw [q2.1]; exact obV, fun _ => by rw [hsz]; exact e5 i3⟩,
    ⟨E', cfV, kV, iV, fV, q1.1, gV, stV, by rw [q2.1]; exact knV, by rw [q2.1]; exact obV, by rw [q2.2.1]; exact asV, q3⟩, ⟨E', cfC, kC, iC, fC, q1.1, gC, stC, by rw [q2.1]; exact knV, by rw [q2.1]; exact obV, by rw [q2.2.1]; exact asC, q4⟩,
    ⟨V', ⟨q5.1, State.isArrayOf_alike al'.symm q5.2.1, q5.2.2.1⟩, q6, by rw [← al'.findClass]; exact q7, q8, fun j hj => by have := q9 j hj; rwa [Nat.zero_add] at this⟩, fun O n d w F n1 n2 => ?_⟩, hl, hc, hs⟩, st⟩
  · intro y hy
    simp only [List.mem_cons, List.not_mem_nil, or_false] at hy
    rcases hy with rfl | rfl <;> rfl
  · by_cases q : y = x
    · subst q
      cases hD.symm.trans hy
      exact ⟨E', q1.1, q2.2.1, q2.1, hsz⟩
    · exact ⟨cy, q10 y cy q hy, rfl, rfl, rfl⟩
  · obtain ⟨D3, cf, k, i, f, g1, g2, g3, g4, g5, g6, g7⟩ := F
    cases hD.symm.trans g1
    simp only [RoadKit.slotOf, g2, gV, gC, Option.map_some, Option.getD_some] at n1 n2
    exact ⟨E', cf, k, i, f, q1.1, g2, g3, by rw [q2.1]; exact g4, by rw [q2.1]; exact g5, by rw [q2.2.1]; exact g6, by rw [q2.2.2 f.slot (by simp [n1, n2])]; exact g7⟩
end StrChars.Road
namespace StrChars.Road
open Jvm Sem ClassFile Op Lib Jvm.Stand Jvm.Free Jvm.Free.XT
/-- WHAT COMES BACK, the byte[] as a list of values -/
def QA (Z : State) (x : Addr) (zn : Int32) (cs : List Int32) (h : Heap) (v : Option Value) (h' : Heap) (L : List Loc) : Prop := v = none ∧ (∀ y ∈ L, y.base = x) ∧ RoadKit.Keep h h' [x] ∧ h'.size = h.size + 1 ∧ RoadKit.Exa Z h' x ST ∧ RoadKit.Fld Z h' x ST "value" "[B" (.ref h.size) ∧ RoadKit.Fld Z h' x ST "coder" "B" (.int 0) ∧
  (∃ kb, Z.vm.findClass "[B" = some kb ∧ RoadKit.Arv Z h' h.size kb .byte zn (cs.map fun c => .int (lo8 c)) (.int 0)) ∧
  ∀ (O n d : String) (w : Value), RoadKit.Fld Z h x O n d w → RoadKit.slotOf Z O n d ≠ RoadKit.slotOf Z ST "value" "[B" → RoadKit.slotOf Z O n d ≠ RoadKit.slotOf Z ST "coder" "B" → RoadKit.Fld Z h' x O n d w
/-- **new String(chars) AT A CALL, THE ARRAYS AS LISTS**: the char[] at b holds cs, not empty, no char above 255 -/
theorem backArv {p : Program} {l : Launch} {e : Env} {R : Room} {s : State} {args : Array Value} {below : List Frame} {len W : Nat} {Z : State} {a0 : Array Value} {h : Heap} (hZ : Z.Warmed39 s.vm) (hw : ∀ d ∈ words, d.before a0 Z = true) {kI : Nat} (wi : (Jvm.Cond.instantiable ST kI).before a0 Z = true)
    {x b : Addr} {k : ClassId} {zn z : Int32} {cs : List Int32} {dv v0 c0 : Value} (E : RoadKit.Exa Z h x ST) (V : RoadKit.Fld Z h x ST "value" "[B" v0) (C : RoadKit.Fld Z h x ST "coder" "B" c0) (K : RoadKit.Arv Z h b k .char zn (cs.map Value.int) dv) (S : RoadKit.Sta Z h ST "COMPACT_STRINGS" "Z" (.int z)) (hz : ¬ z = 0)
    (hlen : zn.toNatClampNeg = cs.length) (h0 : 0 < cs.length) (hbig : cs.length ≤ 536870912) (hall : ∀ c ∈ cs, ¬ 255 < c) (hfr : 4 ≤ R.frames) (hlo : W + 65 ≤ R.locals) :
    Back l R p e below s args New1.yN len W (fun P a => a = #[.ref x, .ref b] ∧ P.U.heap = h ∧ P.cells + 1 ≤ R.cells ∧ P.slots + cs.length ≤ R.slots)
      (fun P _ v B => ∃ L, QA Z x zn cs h v B.U.heap L ∧ B.locs = P.locs ++ L ∧ B.cells = P.cells + 1 ∧ B.slots = P.slots + cs.length) := by
  obtain ⟨A, K1, K2, K3, K4, K5, K6⟩ := K
  have e : A.slots.size = cs.length := K3.trans hlen
  have hat : ∀ (i : Nat) (hi : i < cs.length), A.slots[i]? = some (.int cs[i]) := fun i hi => by rw [K5 i (by omega)]; simp [List.getD_eq_getElem?_getD, hi]
  have hcv : ∀ (i : Nat) (hi : i < cs.length), cv A i = cs[i] := fun i hi => by unfold cv; rw [hat i hi]
  have hty : Typed .char A := fun i v hv => by
    have hi : i < A.slots.size := (Array.getElem?_eq_some_iff.mp hv).1
    have q := K5 i hi
    rw [hv] at q
    rw [Option.some.inj q]
    exact K6 i hi
  refine Back.mono (back hZ hw wi E V C K1 hty S hz (by omega) (by omega) (fun i hi => by rw [hcv i (by omega)]; exact hall _ (List.getElem_mem _)) hfr hlo) (fun P a hp => ⟨hp.1, hp.2.1, hp.2.2.1, by rw [e]; exact hp.2.2.2⟩) (fun P a v B hp hq => ?_)
  obtain ⟨L, ⟨q1, q2, q3, q4, q5, q6, q7, ⟨V', v1, v2, v3, v4, v5⟩, q9⟩, hl, hc, hs⟩ := hq
  refine ⟨L, ⟨q1, q2, q3, q4, q5, q6, q7, ⟨V'.cls, v3, V', v1, rfl, by rw [v4, e, hlen], K4, fun i hi => ?_, fun i hi => ?_⟩, q9⟩, hl, hc, by rw [hs, e]⟩
  · have hi' : i < cs.length := by omega
    rw [v5 i (by omega), hcv i hi']; simp [List.getD_eq_getElem?_getD, hi']
  · have hi' : i < cs.length := by omega
    simp only [List.getD_eq_getElem?_getD, List.getElem?_map, List.getElem?_eq_getElem hi', Option.map_some, Option.getD_some]
    exact fits_lo8 _
end StrChars.Road
namespace StrChars.Road
open Jvm Sem ClassFile Op Lib Jvm.Stand Jvm.Free Jvm.Free.XT
/-- WHAT COMES BACK, in the writer's own shape -/
def QV (Z : State) (x : Addr) (N : Int32) (bs : List Int32) (h : Heap) (n0 : Nat) (v : Option Value) (h' : Heap) (L : List Loc) : Prop := v = none ∧ RoadKit.Fr n0 L ∧ RoadKit.Keep h h' [x] ∧ RoadKit.Exa Z h' x ST ∧ RoadKit.Fld Z h' x ST "coder" "B" (.int 0) ∧
  ∃ (t : Addr) (kb : ClassId), n0 ≤ t ∧ h.size ≤ t ∧ ¬ t = x ∧ RoadKit.Fld Z h' x ST "value" "[B" (.ref t) ∧ RoadKit.Arv Z h' t kb .byte N (bs.map Value.int) (.int 0)
/-- **new String(chars) AT A CALL, FOR THE WRITER**: a char[] of n known ints, each 0 to 255 -/
theorem backV {p : Program} {l : Launch} {e : Env} {R : Room} {s : State} {args : Array Value} {below : List Frame} {len W : Nat} {Z : State} {a0 : Array Value} {h : Heap} (hZ : Z.Warmed39 s.vm) (hw : ∀ d ∈ words, d.before a0 Z = true) {kI : Nat} (wi : (Jvm.Cond.instantiable ST kI).before a0 Z = true)
    {x b : Addr} {kC : ClassId} {cs bs : List Int32} {d v0 c0 : Value} {z N : Int32} {n n0 : Nat} (hx0 : n0 ≤ x) (hh0 : n0 ≤ h.size) (E : RoadKit.Exa Z h x ST) (V : RoadKit.Fld Z h x ST "value" "[B" v0) (C : RoadKit.Fld Z h x ST "coder" "B" c0) (K : RoadKit.Arv Z h b kC .char N (cs.map Value.int) d) (S : RoadKit.Sta Z h ST "COMPACT_STRINGS" "Z" (.int z)) (hz : ¬ z = 0)
    (hn : cs.length = n) (hN : N = Int32.ofNat n) (l0 : 0 < n) (l2 : n ≤ 4000) (hp : ∀ c ∈ cs, ¬ c < 0 ∧ ¬ (255 : Int32) < c) (hb : bs = cs.map (fun c => c.toInt8.toInt32)) (hfr : 4 ≤ R.frames) (hlo : W + 65 ≤ R.locals) :
    Back l R p e below s args (⟨"java/lang/String", "<init>", "([C)V"⟩ : MethodName) len W (fun P a => a = #[.ref x, .ref b] ∧ P.U.heap = h ∧ P.cells + 1 ≤ R.cells ∧ P.slots + n ≤ R.slots)
      (fun P _ v B => ∃ L, QV Z x N bs h n0 v B.U.heap L ∧ B.locs = P.locs ++ L ∧ B.cells = P.cells + 1 ∧ B.slots = P.slots + n) := by
  subst hn hN hb
  refine Back.mono (backArv hZ hw wi E V C K S hz (n32 (by omega)) l0 (by omega) (fun c hc => (hp c hc).2) hfr hlo) (fun P a hp => hp) (fun P a v B hp hq => ?_)
  obtain ⟨L, ⟨q1, q2, q3, q4, q5, q6, q7, ⟨kb, v1, v2⟩, q9⟩, hl, hc, hs⟩ := hq
  exact ⟨L, ⟨q1, fun y hy => by rw [q2 y hy]; exact hx0, q3, q5, q7, h.size, kb, hh0, Nat.le_refl _, Nat.ne_of_gt E.lt, q6, by rw [List.map_map]; exact v2⟩, hl, hc, hs⟩
end StrChars.Road
namespace StrChars
open Jvm Sem ClassFile Op Lib Jvm.Stand Jvm.Free.XT Jvm.Free.ALB Jvm.Free.JM Jvm.Free
open Jvm.Lib.Cold (StaticIs)
def hi8 (x : Int32) : Int32 := lo8 (x >>> ((8 : Int32) &&& 31))
end StrChars
namespace StrChars.Road
open Jvm Sem ClassFile Op Lib Jvm.Stand Jvm.Free Jvm.Free.XT
open Jvm.Lib.Cold (StaticIs)
/-- the bytes of the chars cs, low before high -/
def wideBytes : List Int32 → List Value
  | [] => []
  | c :: cs => .int (lo8 c) :: .int (hi8 c) :: wideBytes cs
/-- an array of N2 bytes vs codes the chars cs by the coder cd -/
def CodA (cs : List Int32) (cd N2 : Int32) (vs : List Value) : Prop := (cd = 0 ∧ N2 = Int32.ofNat cs.length ∧ vs = (cs.map fun c => Value.int (lo8 c)) ∧ ∀ c ∈ cs, ¬ 255 < c) ∨ (cd = 1 ∧ N2 = Int32.ofNat (2 * cs.length) ∧ vs = wideBytes cs ∧ ∃ c ∈ cs, 255 < c)
end StrChars.Road
namespace StrChars.Road
open Jvm Sem ClassFile Op Lib Jvm.Stand Jvm.Free Jvm.Free.XT
open Jvm.Lib.Cold (StaticIs)
/-- what backV says of its String, as the contracts of this text ask it: cs's low bytes, coder 0 -/
theorem codOf {cs : List Int32} {n : Nat} (hn : cs.length = n) (hb : ∀ c ∈ cs, ¬ 255 < c) : CodA cs 0 (Int32.ofNat n) ((cs.map lo8).map Value.int) := Or.inl ⟨rfl, by rw [hn], by simp [List.map_map, Function.comp_def], hb⟩
end StrChars.Road
end Jvm.Pilot.@@N@@


namespace Jvm.Pilot.@@N@@
open Jvm Jvm.ClassFile Sem Op Lib Jvm.Free Jvm.Stand Jvm.LawKit Jvm.RoadKit Bundle Jvm.Pilot.@@N@@.Jvm.D
abbrev mN0 : MethodName := (⟨"com/example/hinagata/hinagata/DigestComparison", "<init>", "(Ljava/util/List;Ljava/util/List;)V"⟩ : MethodName)
abbrev mN1 : MethodName := (⟨"com/example/hinagata/hinagata/DigestComparison", "matches", "()Z"⟩ : MethodName)
abbrev mN2 : MethodName := (⟨"java/lang/Math", "max", "(II)I"⟩ : MethodName)
abbrev mN3 : MethodName := (⟨"java/lang/Math", "min", "(II)I"⟩ : MethodName)
abbrev mN4 : MethodName := (⟨"java/lang/Record", "<init>", "()V"⟩ : MethodName)
abbrev mN5 : MethodName := (⟨"java/lang/String", "<init>", "([BB)V"⟩ : MethodName)
abbrev mN6 : MethodName := (⟨"java/lang/String", "<init>", "([C)V"⟩ : MethodName)
abbrev mN7 : MethodName := (⟨"java/lang/String", "<init>", "([CIILjava/lang/Void;)V"⟩ : MethodName)
abbrev mN8 : MethodName := (⟨"java/lang/String", "valueOf", "(C)Ljava/lang/String;"⟩ : MethodName)
abbrev mN9 : MethodName := (⟨"java/lang/StringLatin1", "canEncode", "(C)Z"⟩ : MethodName)
abbrev mN10 : MethodName := (⟨"java/lang/StringLatin1", "toBytes", "(C)[B"⟩ : MethodName)
abbrev mN11 : MethodName := (⟨"java/util/AbstractCollection", "<init>", "()V"⟩ : MethodName)
abbrev mN12 : MethodName := (⟨"java/util/AbstractList", "<init>", "()V"⟩ : MethodName)
abbrev mN13 : MethodName := (⟨"java/util/ArrayList", "<init>", "()V"⟩ : MethodName)
abbrev mN14 : MethodName := (⟨"java/util/ArrayList", "add", "(Ljava/lang/Object;)Z"⟩ : MethodName)
abbrev mN15 : MethodName := (⟨"java/util/ArrayList", "add", "(Ljava/lang/Object;[Ljava/lang/Object;I)V"⟩ : MethodName)
abbrev mN16 : MethodName := (⟨"java/util/ArrayList", "grow", "()[Ljava/lang/Object;"⟩ : MethodName)
abbrev mN17 : MethodName := (⟨"java/util/ArrayList", "grow", "(I)[Ljava/lang/Object;"⟩ : MethodName)
abbrev mN18 : MethodName := (⟨"java/util/ArrayList", "isEmpty", "()Z"⟩ : MethodName)
abbrev mN19 : MethodName := (⟨"java/util/ArrayList", "toArray", "()[Ljava/lang/Object;"⟩ : MethodName)
abbrev mN20 : MethodName := (⟨"java/util/Arrays", "copyOf", "([Ljava/lang/Object;I)[Ljava/lang/Object;"⟩ : MethodName)
abbrev mN21 : MethodName := (⟨"java/util/Arrays", "copyOf", "([Ljava/lang/Object;ILjava/lang/Class;)[Ljava/lang/Object;"⟩ : MethodName)
abbrev mN22 : MethodName := (⟨"java/util/ImmutableCollections", "listCopy", "(Ljava/util/Collection;)Ljava/util/List;"⟩ : MethodName)
abbrev mN23 : MethodName := (⟨"java/util/ImmutableCollections", "listFromArray", "([Ljava/lang/Object;)Ljava/util/List;"⟩ : MethodName)
abbrev mN24 : MethodName := (⟨"java/util/ImmutableCollections$AbstractImmutableCollection", "<init>", "()V"⟩ : MethodName)
abbrev mN25 : MethodName := (⟨"java/util/ImmutableCollections$AbstractImmutableList", "<init>", "()V"⟩ : MethodName)
abbrev mN26 : MethodName := (⟨"java/util/ImmutableCollections$List12", "<init>", "(Ljava/lang/Object;)V"⟩ : MethodName)
abbrev mN27 : MethodName := (⟨"java/util/ImmutableCollections$List12", "<init>", "(Ljava/lang/Object;Ljava/lang/Object;)V"⟩ : MethodName)
abbrev mN28 : MethodName := (⟨"java/util/ImmutableCollections$List12", "isEmpty", "()Z"⟩ : MethodName)
abbrev mN29 : MethodName := (⟨"java/util/ImmutableCollections$ListN", "<init>", "([Ljava/lang/Object;Z)V"⟩ : MethodName)
abbrev mN30 : MethodName := (⟨"java/util/ImmutableCollections$ListN", "isEmpty", "()Z"⟩ : MethodName)
abbrev mN31 : MethodName := (⟨"java/util/List", "copyOf", "(Ljava/util/Collection;)Ljava/util/List;"⟩ : MethodName)
abbrev mN32 : MethodName := (⟨"java/util/List", "isEmpty", "()Z"⟩ : MethodName)
abbrev mN33 : MethodName := (⟨"java/util/List", "of", "()Ljava/util/List;"⟩ : MethodName)
abbrev mN34 : MethodName := (⟨"java/util/List", "of", "([Ljava/lang/Object;)Ljava/util/List;"⟩ : MethodName)
abbrev mN35 : MethodName := (⟨"java/util/Objects", "requireNonNull", "(Ljava/lang/Object;)Ljava/lang/Object;"⟩ : MethodName)
abbrev rM0 : Room := ({ frames := 0, cells := 0, slots := 0, locals := 0 } : Room)
abbrev rM1 : Room := ({ frames := 0, cells := 1, slots := 1, locals := 0 } : Room)
abbrev rM2 : Room := ({ frames := 1, cells := 0, slots := 0, locals := 12 } : Room)
abbrev rM3 : Room := ({ frames := 1, cells := 0, slots := 0, locals := 16 } : Room)
abbrev rM4 : Room := ({ frames := 1, cells := 0, slots := 0, locals := 20 } : Room)
abbrev rM5 : Room := ({ frames := 1, cells := 1, slots := 10, locals := 16 } : Room)
abbrev rM6 : Room := ({ frames := 1, cells := 1, slots := 3, locals := 40 } : Room)
abbrev rM7 : Room := ({ frames := 1, cells := 4, slots := 8, locals := 12 } : Room)
abbrev rM8 : Room := ({ frames := 2, cells := 0, slots := 0, locals := 26 } : Room)
abbrev rM9 : Room := ({ frames := 2, cells := 1, slots := 10, locals := 32 } : Room)
abbrev rM10 : Room := ({ frames := 2, cells := 1, slots := 3, locals := 60 } : Room)
abbrev rM11 : Room := ({ frames := 2, cells := 2, slots := 5, locals := 30 } : Room)
abbrev rM12 : Room := ({ frames := 2, cells := 4, slots := 8, locals := 29 } : Room)
abbrev rM13 : Room := ({ frames := 3, cells := 0, slots := 0, locals := 40 } : Room)
abbrev rM14 : Room := ({ frames := 3, cells := 0, slots := 0, locals := 42 } : Room)
abbrev rM15 : Room := ({ frames := 3, cells := 1, slots := 10, locals := 50 } : Room)
abbrev rM16 : Room := ({ frames := 3, cells := 1, slots := 3, locals := 76 } : Room)
abbrev rM17 : Room := ({ frames := 4, cells := 0, slots := 0, locals := 56 } : Room)
abbrev rM18 : Room := ({ frames := 4, cells := 0, slots := 0, locals := 58 } : Room)
abbrev rM19 : Room := ({ frames := 4, cells := 1, slots := 10, locals := 68 } : Room)
abbrev rM20 : Room := ({ frames := 5, cells := 2, slots := 5, locals := 80 } : Room)
abbrev rM21 : Room := ({ frames := 6, cells := 2, slots := 5, locals := 100 } : Room)
abbrev rM22 : Room := ({ frames := 7, cells := 3, slots := 8, locals := 120 } : Room)
abbrev rM23 : Room := ({ frames := 8, cells := 3, slots := 8, locals := 136 } : Room)
abbrev rM24 : Room := ({ frames := 9, cells := 6, slots := 16, locals := 156 } : Room)
theorem own_w {a0 : Array Value} {Z : State} (hw : ∀ d ∈ tables_1, d.before a0 Z = true) (i : Nat) {d : Jvm.Cond} (h : tables_1[i]? = some d) : d.before a0 Z = true := hw _ (List.mem_of_getElem? h)
theorem own_v {Z s : State} {a0 args : Array Value} {d : Jvm.Cond} (hZ : Z.Warmed39 s.vm) (hw : ∀ d ∈ tables_1, d.before a0 Z = true) (i : Nat) (h : tables_1[i]? = some d) (hd : (d.onTables && d.keepsFace) = true := by first | rfl | simp [Cond.onTables, Cond.keepsFace, Cond.keeps, Cond.steady]) : d.before args s = true := mvT hZ (own_w hw i h) hd
def own_Go (tb : Tables) (e : Env) (below : List Frame) (P : Outcome → State → Prop) (U : State) : Prop := ∃ s₂ o, Steps tb e below U s₂ ∧ s₂.status = .running ∧ Ended s₂ below o ∧ P o s₂
theorem own_Go.st {tb : Tables} {e : Env} {below : List Frame} {P : Outcome → State → Prop} {U U' : State} (h : ∀ t, Steps tb e below U' t → Steps tb e below U t) (k : own_Go tb e below P U') : own_Go tb e below P U := by
  obtain ⟨t, o, a, r⟩ := k
  exact ⟨t, o, h t a, r⟩
theorem own_hd {tb : Tables} {e : Env} {below : List Frame} {P : Outcome → State → Prop} {U : State} (k : ∀ PP, PP = P → own_Go tb e below PP U) : own_Go tb e below P U := k P rfl
theorem own_Go.tr {tb : Tables} {e : Env} {below : List Frame} {P : Outcome → State → Prop} {U U' : State} (h : Steps tb e below U U') (k : own_Go tb e below P U') : own_Go tb e below P U := own_Go.st (fun _ a => h.trans a) k
section OwnRet
variable {p : Program} {l : Launch} {e : Env} {R : Room} {s : State} {m : MethodId} {args : Array Value} {below : List Frame} {meth : Method} {c : Code} {T : State} {locs : List Loc} {cells slots : Nat}
theorem own_retI (X : Stand p l e R s m args below meth c T locs cells slots) (hx : p.tables.exec = Jvm.exec) {pc : Nat} {Ls : Array Slot} {z : Int32} {rest : List Value} (hret : meth.sig.returnType = some .int) (hd : decode c.code pc = .ok (.ireturn, 1)) {fs : List Frame}
    (hl : ∀ (f : JFrame) (acts : List Action), f.method = m → f.locked = none → f.entered = [] → (doReturn e (T.setTop f) acts (some (.int z))).1 = T.setFrames fs) : Steps p.tables e below (T.setTop (mkF m pc Ls (.int z :: rest))) (T.setFrames fs) :=
  retOut X hx hret rfl (Or.inl ⟨rfl, Or.inl rfl, z, rfl⟩) hd hl
theorem own_retL (X : Stand p l e R s m args below meth c T locs cells slots) (hx : p.tables.exec = Jvm.exec) {pc : Nat} {Ls : Array Slot} {z : Int64} {rest : List Value} (hret : meth.sig.returnType = some .long) (hd : decode c.code pc = .ok (.lreturn, 1)) {fs : List Frame}
    (hl : ∀ (f : JFrame) (acts : List Action), f.method = m → f.locked = none → f.entered = [] → (doReturn e (T.setTop f) acts (some (.long z))).1 = T.setFrames fs) : Steps p.tables e below (T.setTop (mkF m pc Ls (.long z :: rest))) (T.setFrames fs) :=
  retOut X hx hret rfl (Or.inr (Or.inl ⟨rfl, rfl, z, rfl⟩)) hd hl
theorem own_narRef {t : FieldType} {w : Value} (ht : t.isReference = true) (hw : w.isRef = true) : narrow t w = w := by
  cases t <;> first | rfl | (simp [FieldType.isReference] at ht; done) | (cases w <;> first | rfl | simp [Value.isRef] at hw)
theorem own_retA (X : Stand p l e R s m args below meth c T locs cells slots) (hx : p.tables.exec = Jvm.exec) {pc : Nat} {Ls : Array Slot} {w : Value} {t : FieldType} {rest : List Value} (hret : meth.sig.returnType = some t) (ht : t.isReference = true) (hw : w.isRef = true) (hd : decode c.code pc = .ok (.areturn, 1)) {fs : List Frame}
    (hl : ∀ (f : JFrame) (acts : List Action), f.method = m → f.locked = none → f.entered = [] → (doReturn e (T.setTop f) acts (some w)).1 = T.setFrames fs) : Steps p.tables e below (T.setTop (mkF m pc Ls (w :: rest))) (T.setFrames fs) :=
  retOut X hx hret (own_narRef ht hw) (Or.inr (Or.inr (Or.inr (Or.inr ⟨rfl, ht, hw⟩)))) hd hl
end OwnRet
theorem own_selP {s : State} {args : Array Value} {C : String} {y : MethodName} (h : (Jvm.Cond.selects C y y).before args s = true) (hp : s.PrivateAt y) (hi : (Jvm.Cond.instanceMethod y).before args s = true) (hy : y.cls ≠ "java/lang/invoke/MethodHandle" ∧ y.cls ≠ "java/lang/invoke/VarHandle") : (Jvm.Cond.selects y.cls y y).before args s = true := by
  obtain ⟨c, r, m, -, -, q3, -, mk, k1, k2⟩ := Cond.selects_spec h
  exact Jvm.Stand.selects_self_of_private (findClass_of_methodNamed q3) k1 k2 hp hi hy
theorem own_nf {s : State} {args : Array Value} {C : String} {y y2 : MethodName} (h : (Jvm.Cond.selects C y2 y2).before args s = true) (he : y2.cls = y.cls) : NotFace s y := fun r0 h0 => by
  obtain ⟨c, r, m, -, -, q3, -, mk, k1, k2⟩ := Cond.selects_spec h
  have e1 := findClass_of_methodNamed q3
  have e2 := findClass_of_methodNamed h0
  rw [he] at e1
  have e3 : m.cls = r0.cls := Option.some.inj (e1.symm.trans e2)
  exact ⟨mk, e3 ▸ k1, k2⟩
theorem own_sameP {s : State} {args : Array Value} {C : String} {y y2 : MethodName} (hd : (Jvm.Cond.declares y).before args s = true) (h : (Jvm.Cond.selects C y2 y2).before args s = true) (he : y2.cls = y.cls) (hy : y.cls ≠ "java/lang/invoke/MethodHandle" ∧ y.cls ≠ "java/lang/invoke/VarHandle") : (Jvm.Cond.sameMethod y.cls y.cls y.name y.desc).before args s = true := by
  obtain ⟨c, r, m, -, -, q3, -, mk, k1, k2⟩ := Cond.selects_spec h
  have e1 := findClass_of_methodNamed q3
  rw [he] at e1
  cases hm : s.methodNamed? y with
  | none => simp [Cond.before, Cond.holds, Cond.value, hm] at hd
  | some mm =>
    have hf : s.methodFound? y.cls y.name y.desc = some mm := State.methodFound?_of_named hm hy
    have hm' : s.methodNamed? ⟨y.cls, y.name, y.desc⟩ = some mm := hm
    simp [Cond.before, Cond.holds, Cond.value, e1, hf, hm', k1, k2]
theorem own_rwE {T h : Heap} {a : Addr} {c : Option Cell} (e : T = h) (q : h[a]? = c) : T[a]? = c := by rw [e]; exact q
theorem own_nar {x : Int32} (h : ¬ x < 0 ∧ ¬ (65535 : Int32) < x) : nar .char x = x := by
  have q := c_i2c x
  have h1 := h.1; have h2 := h.2
  rw [Int32.lt_iff_toInt_lt] at h1 h2
  have e1 : (0 : Int32).toInt = 0 := by decide
  have e2 : (65535 : Int32).toInt = 65535 := by decide
  rw [e1] at h1; rw [e2] at h2
  show x.toUInt32.toUInt16.toUInt32.toInt32 = x
  apply Int32.toInt_inj.mp
  omega
theorem own_up {x : Int32} (h : ¬ x < 0 ∧ ¬ (255 : Int32) < x) : ¬ x < 0 ∧ ¬ (65535 : Int32) < x := by
  refine ⟨h.1, fun q => h.2 ?_⟩
  rw [Int32.lt_iff_toInt_lt] at q ⊢
  have e1 : (255 : Int32).toInt = 255 := by decide
  have e2 : (65535 : Int32).toInt = 65535 := by decide
  omega
theorem own_arvTy {Z : State} {h : Heap} {a b : Addr} {k k' : ClassId} {ty ty' : FieldType} {n n' : Int32} {vs vs' : List Value} {d d' : Value} (A : Arv Z h a k ty n vs d) (B : Arv Z h b k' ty' n' vs' d') (ht : ty ≠ ty') : a ≠ b := fun q => by
  subst q
  obtain ⟨c, C, -⟩ := A
  obtain ⟨c', C', -⟩ := B
  cases C.1.symm.trans C'.1
  obtain ⟨-, k1, j1, cp1, j2⟩ := C.2.1
  obtain ⟨-, k2, i1, cp2, i2⟩ := C'.2.1
  cases j1.symm.trans i1
  rw [j2] at i2
  cases i2
  exact ht rfl


def own_Str (Z : State) (h : Heap) (x t : Addr) (cs : List Int32) : Prop := ∃ (kb : ClassId) (cd N2 : Int32) (vs : List Value), Exa Z h x "java/lang/String" ∧ Fld Z h x "java/lang/String" "value" "[B" (.ref t) ∧ Fld Z h x "java/lang/String" "coder" "B" (.int cd) ∧ Arv Z h t kb .byte N2 vs (.int 0) ∧ StrChars.Road.CodA cs cd N2 vs ∧ (∀ c ∈ cs, ¬ c < 0 ∧ ¬ (65535 : Int32) < c) ∧ cs.length ≤ 4000
section OwnStr
variable {Z : State} {h h' : Heap} {x t a : Addr} {cs : List Int32} {sl : Nat} {v : Value} {ws : List Addr}
theorem own_Str.ext (F : own_Str Z h x t cs) (E : Ext h h') : own_Str Z h' x t cs := by
  obtain ⟨kb, cd, N2, vs, h1, h2, h3, h4, r⟩ := F
  exact ⟨kb, cd, N2, vs, h1.ext E, h2.ext E, h3.ext E, h4.ext E, r⟩
theorem own_Str.other (F : own_Str Z h x t cs) (W : Wr h h' a sl v) (n1 : x ≠ a) (n2 : t ≠ a) : own_Str Z h' x t cs := by
  obtain ⟨kb, cd, N2, vs, h1, h2, h3, h4, r⟩ := F
  exact ⟨kb, cd, N2, vs, h1.wr W, h2.other W (Or.inl n1), h3.other W (Or.inl n1), h4.other W n2, r⟩
theorem own_Str.keep (F : own_Str Z h x t cs) (K : Keep h h' ws) (n1 : x ∉ ws) (n2 : t ∉ ws) : own_Str Z h' x t cs := by
  obtain ⟨kb, cd, N2, vs, h1, h2, h3, h4, r⟩ := F
  exact ⟨kb, cd, N2, vs, h1.keep K, h2.keep K n1, h3.keep K n1, h4.keep K n2, r⟩
theorem own_Str.exa (F : own_Str Z h x t cs) : Exa Z h x "java/lang/String" := by obtain ⟨kb, cd, N2, vs, h1, -⟩ := F; exact h1
theorem own_Str.lt (F : own_Str Z h x t cs) : x < h.size := F.exa.lt
theorem own_Str.ltv (F : own_Str Z h x t cs) : t < h.size := by obtain ⟨kb, cd, N2, vs, -, -, -, h4, -⟩ := F; exact h4.lt
theorem own_Str.le (F : own_Str Z h x t cs) : cs.length ≤ 4000 := by obtain ⟨kb, cd, N2, vs, -, -, -, -, -, -, h⟩ := F; exact h
theorem own_Str.rng (F : own_Str Z h x t cs) : ∀ c ∈ cs, ¬ c < 0 ∧ ¬ (65535 : Int32) < c := by obtain ⟨kb, cd, N2, vs, -, -, -, -, -, h, -⟩ := F; exact h
theorem own_Str.neArv {b : Addr} {k : ClassId} {ty : FieldType} {n : Int32} {us : List Value} {d : Value} {a0 : Array Value} {kI : Nat} (F : own_Str Z h x t cs) (B : Arv Z h b k ty n us d) (wi : (Jvm.Cond.instantiable "java/lang/String" kI).before a0 Z = true) : x ≠ b := F.exa.neArv B wi
theorem own_Str.neV {b : Addr} {C : String} {a0 : Array Value} {kI : Nat} (F : own_Str Z h x t cs) (E : Exa Z h b C) (wi : (Jvm.Cond.instantiable C kI).before a0 Z = true) : b ≠ t := by
  obtain ⟨kb, cd, N2, vs, -, -, -, h4, -⟩ := F
  exact E.neArv h4 wi
theorem own_Str.neTy {b : Addr} {k : ClassId} {ty : FieldType} {n : Int32} {us : List Value} {d : Value} (F : own_Str Z h x t cs) (B : Arv Z h b k ty n us d) (ht : .byte ≠ ty) : t ≠ b := by
  obtain ⟨kb, cd, N2, vs, -, -, -, h4, -⟩ := F
  exact own_arvTy h4 B ht
end OwnStr


theorem own_a0 {P : Int32 → Prop} : ∀ c ∈ ([] : List Int32), P c := fun _ q => nomatch q
theorem own_aS {P : Int32 → Prop} {x : Int32} {L : List Int32} (h : P x) (r : ∀ c ∈ L, P c) : ∀ c ∈ x :: L, P c := fun c q => (List.mem_cons.mp q).elim (fun u => u ▸ h) (r c)
theorem own_upL {cs : List Int32} (h : ∀ c ∈ cs, ¬ c < 0 ∧ ¬ (255 : Int32) < c) : ∀ c ∈ cs, ¬ c < 0 ∧ ¬ (65535 : Int32) < c := fun c q => own_up (h c q)


theorem own_Str.lat {Z : State} {h : Heap} {x t : Addr} {cs : List Int32} (F : own_Str Z h x t cs) (hl : ∀ c ∈ cs, ¬ (255 : Int32) < c) : ∃ (kb : ClassId) (N2 : Int32) (vs : List Value), Exa Z h x "java/lang/String" ∧ Fld Z h x "java/lang/String" "value" "[B" (.ref t) ∧ Fld Z h x "java/lang/String" "coder" "B" (.int 0) ∧ Arv Z h t kb .byte N2 vs (.int 0) ∧ StrChars.Road.CodA cs 0 N2 vs := by
  obtain ⟨kb, cd, N2, vs, h1, h2, h3, h4, h5, -⟩ := F
  rcases h5 with ⟨rfl, a, b, c⟩ | ⟨-, -, -, c, hc, q⟩
  · exact ⟨kb, N2, vs, h1, h2, h3, h4, Or.inl ⟨rfl, a, b, c⟩⟩
  · exact absurd q (hl c hc)


theorem own_eqv {v : Option Value} {A : Prop} (h : (v = some (.int 1) ∧ A) ∨ (v = some (.int 0) ∧ ¬ A)) : ∃ r : Int32, v = some (.int r) ∧ ((r = 1 ∧ A) ∨ (r = 0 ∧ ¬ A)) := by
  rcases h with ⟨a, b⟩ | ⟨a, b⟩
  · exact ⟨1, a, Or.inl ⟨rfl, b⟩⟩
  · exact ⟨0, a, Or.inr ⟨rfl, b⟩⟩

theorem own_hws {a0 : Array Value} {Z : State} (hw : ∀ d ∈ tables_1, d.before a0 Z = true) : ∀ d ∈ StrChars.Road.words, d.before a0 Z = true := fun d hd => hw d ((by decide +kernel : ∀ d ∈ StrChars.Road.words, d ∈ tables_1) d hd)

theorem own_wS {a0 : Array Value} {Z : State} (hw : ∀ d ∈ tables_1, d.before a0 Z = true) : ∀ d ∈ Bundle.stringAtoms, d.before a0 Z = true := fun d hd => hw d ((by decide +kernel : ∀ d ∈ Bundle.stringAtoms, d ∈ tables_1) d hd)
theorem own_safeNull {Z : State} {EL : List (String × Nat)} {vm : Vm} {h : Heap} {x : Addr} (hal : Z.vm.Alike vm) (E : Exa Z h x "java/lang/String") (F : Fld Z h x "java/lang/String" "value" "[B" .null) : Safe Z EL vm h x := fun B => by
  obtain ⟨p, -, u, a, -, q, -, G, hx | hx⟩ := B
  · obtain ⟨cS, ⟨S1, -, -⟩, -⟩ := G
    obtain ⟨g1, -, -, ⟨c', k', i', g2, -⟩, -, -, -, g3, -⟩ := S1
    obtain ⟨cell, cf, k, i, f, e1, e2, -, -, -, -, e3⟩ := F
    obtain ⟨k2, g4⟩ := ff_back (U := Wst Z vm h) hal g2
    rw [hx] at e1
    have e4 : cell = q.sC := Option.some.inj (e1.symm.trans g1)
    have e5 : f = q.fSV := by
      have e6 := Option.some.inj (e2.symm.trans g4)
      simp only [Prod.mk.injEq] at e6
      exact e6.2.2.2
    rw [e4, e5, g3] at e3
    cases e3
  · have hd := G.hd
    obtain ⟨cS, -, -, f, -⟩ := G
    obtain ⟨cell, k, e1, e2, -⟩ := E
    rw [hx] at e1
    have e4 : cell = q.SA := Option.some.inj (e1.symm.trans hd)
    have f' : Z.vm.findClass "[B" = some q.SA.cls := by rw [← hal.findClass]; exact f
    rw [e4] at e2
    obtain ⟨k1, q1, q2⟩ := Vm.findClass_spec f'
    obtain ⟨k2, q3, q4⟩ := Vm.findClass_spec e2
    cases q1.symm.trans q3
    exact absurd (q2.symm.trans q4) (by decide)


theorem own_of {i : Nat} (h : i < 2147483648) : (Int32.ofNat i).toInt = i := Int32.toInt_ofNat_small h
theorem own_ofn {i : Nat} (h : i < 2147483648) : (Int32.ofNat i).toNatClampNeg = i := by
  have := own_of h
  simp only [Int32.toNatClampNeg, this]
  omega
theorem own_of0 {i : Nat} (h : i < 2147483648) : ¬ (Int32.ofNat i) < 0 := by
  have := own_of h
  have e0 : (0 : Int32).toInt = 0 := by decide
  rw [Int32.lt_iff_toInt_lt, this, e0]
  omega
theorem own_oflt {i j : Nat} (hi : i < 2147483648) (hj : j < 2147483648) : (Int32.ofNat i) < (Int32.ofNat j) ↔ i < j := by
  rw [Int32.lt_iff_toInt_lt, own_of hi, own_of hj]
  omega
theorem own_ofS {i : Nat} (h : i < 1073741823) : Int32.ofNat i + (1 : Int32) = Int32.ofNat (i + 1) := by
  apply Int32.toInt_inj.mp
  have a := c_iadd (Int32.ofNat i) 1
  have b := own_of (i := i) (by omega)
  have c := own_of (i := i + 1) (by omega)
  have r := rng32 (Int32.ofNat i + 1)
  have e1 : (1 : Int32).toInt = 1 := by decide
  omega
theorem own_getD {cs : List Int32} {i : Nat} (hi : i < cs.length) (hl : cs.length ≤ 4000) (d : Value) : (cs.map Value.int).getD (Int32.ofNat i).toNatClampNeg d = .int (cs.getD i 0) := by
  rw [own_ofn (by omega)]
  simp [List.getD_eq_getElem?_getD, hi]
theorem own_arvAny {Z : State} {h h' : Heap} {a : Addr} {k : ClassId} {ty : FieldType} {n j : Int32} {vs : List Value} {d v : Value} (F : Arv Z h a k ty n vs d) (hv : fits ty v = true) (hj : ¬ j < 0 ∧ j < n) (W : Wr h h' a j.toNatClampNeg v) : ∃ vs', Arv Z h' a k ty n vs' d := by
  have F' := F.pad (pad_rep vs d (j.toNatClampNeg + 1))
  obtain ⟨c, A, q1, S, q3, H, G⟩ := F'
  exact ⟨_, Arv.set A q1 S q3 H G hv W j.toNatClampNeg rfl (by simp only [List.length_append, List.length_replicate]; omega)⟩


theorem own_Str.latF {Z : State} {h : Heap} {x t : Addr} {cs : List Int32} (F : own_Str Z h x t cs) (hl : ∀ c ∈ cs, ¬ (255 : Int32) < c) : ∃ (kb : ClassId), Exa Z h x "java/lang/String" ∧ Fld Z h x "java/lang/String" "value" "[B" (.ref t) ∧ Fld Z h x "java/lang/String" "coder" "B" (.int (0 : Int32)) ∧ Arv Z h t kb .byte (Int32.ofNat cs.length) (cs.map fun c => Value.int (StrChars.lo8 c)) (.int (0 : Int32)) := by
  obtain ⟨kb, N2, vs, h1, h2, h3, h4, h5⟩ := F.lat hl
  rcases h5 with ⟨-, hN, hv, -⟩ | ⟨q, -⟩
  · subst hN hv; exact ⟨kb, h1, h2, h3, h4⟩
  · exact absurd q (by decide)
theorem own_Str.mkL {Z : State} {h : Heap} {x t : Addr} {cs : List Int32} {kb : ClassId} (h1 : Exa Z h x "java/lang/String") (h2 : Fld Z h x "java/lang/String" "value" "[B" (.ref t)) (h3 : Fld Z h x "java/lang/String" "coder" "B" (.int (0 : Int32))) (h4 : Arv Z h t kb .byte (Int32.ofNat cs.length) (cs.map fun c => Value.int (StrChars.lo8 c)) (.int (0 : Int32))) (hl : ∀ c ∈ cs, ¬ c < 0 ∧ ¬ (255 : Int32) < c) (hn : cs.length ≤ 4000) : own_Str Z h x t cs :=
  ⟨kb, 0, _, _, h1, h2, h3, h4, Or.inl ⟨rfl, rfl, rfl, fun c q => (hl c q).2⟩, own_upL hl, hn⟩
theorem own_shl0 (x : Int32) : x <<< ((0 : Int32) &&& 31) = x := by
  apply Int32.toInt_inj.mp
  have a := c_ishl x 0 0 (by decide)
  have r := rng32 x
  have r2 := rng32 (x <<< ((0 : Int32) &&& 31))
  omega
theorem own_shr0 (x : Int32) : x >>> ((0 : Int32) &&& 31) = x := by
  apply Int32.toInt_inj.mp
  have a := c_ishr x 0 0 (by decide)
  omega
theorem own_ofA {i j : Nat} (h : i + j < 1073741823) : Int32.ofNat i + Int32.ofNat j = Int32.ofNat (i + j) := by
  apply Int32.toInt_inj.mp
  have a := c_iadd (Int32.ofNat i) (Int32.ofNat j)
  have b := own_of (i := i) (by omega)
  have c := own_of (i := j) (by omega)
  have d := own_of (i := i + j) (by omega)
  have r := rng32 (Int32.ofNat i + Int32.ofNat j)
  omega
theorem own_ofB {i j : Nat} (h : i < 1073741823) (hj : j ≤ i) : Int32.ofNat i - Int32.ofNat j = Int32.ofNat (i - j) := by
  apply Int32.toInt_inj.mp
  have a := c_isub (Int32.ofNat i) (Int32.ofNat j)
  have b := own_of (i := i) (by omega)
  have c := own_of (i := j) (by omega)
  have d := own_of (i := i - j) (by omega)
  have r := rng32 (Int32.ofNat i - Int32.ofNat j)
  omega
theorem own_ofBle {i j : Nat} (h : i < 1073741823) (hj : j < 1073741823) : (0 : Int32) < Int32.ofNat i - Int32.ofNat j ↔ j < i := by
  have a := c_isub (Int32.ofNat i) (Int32.ofNat j)
  have b := own_of (i := i) (by omega)
  have c := own_of (i := j) (by omega)
  have r := rng32 (Int32.ofNat i - Int32.ofNat j)
  have e0 : (0 : Int32).toInt = 0 := by decide
  rw [Int32.lt_iff_toInt_lt, e0]
  omega
theorem own_ofE {i j : Nat} (hi : i < 2147483648) (hj : j < 2147483648) : Int32.ofNat i = Int32.ofNat j ↔ i = j := ⟨fun q => by
    have q2 := congrArg Int32.toInt q
    rw [own_of hi, own_of hj] at q2
    omega, fun q => by rw [q]⟩
abbrev own_low (cs : List Int32) : List Value := cs.map fun c => Value.int (StrChars.lo8 c)
theorem own_lowG (cs : List Int32) (i : Nat) (d : Value) : (own_low cs).getD i d = if i < cs.length then .int (StrChars.lo8 (cs.getD i 0)) else d := by
  by_cases h : i < cs.length
  · simp [own_low, List.getD_eq_getElem?_getD, h]
  · simp [own_low, List.getD_eq_getElem?_getD, h, List.getElem?_eq_none (Nat.le_of_not_lt h)]
theorem own_appG (cs ds : List Int32) (i : Nat) : (cs ++ ds).getD i 0 = if i < cs.length then cs.getD i 0 else ds.getD (i - cs.length) 0 := by
  by_cases h : i < cs.length
  · rw [if_pos h]; simp [List.getD_eq_getElem?_getD, List.getElem?_append_left h]
  · rw [if_neg h]; simp [List.getD_eq_getElem?_getD, List.getElem?_append_right (Nat.le_of_not_lt h)]
theorem own_us (ds : List Int32) (hn : ds.length < 2147483648) : own_low ds = (List.range (Int32.ofNat ds.length).toNatClampNeg).map fun i => (own_low ds).getD ((0 : Int32).toNatClampNeg + i) (.int (0 : Int32)) := by
  rw [own_ofn hn]
  have e0 : (0 : Int32).toNatClampNeg = 0 := by decide
  rw [e0]
  apply List.ext_getElem
  · simp [own_low]
  · intro i h1 h2
    simp [own_low, List.getD_eq_getElem?_getD] at h1 ⊢
    simp [h1]
theorem own_appV {Z : State} {h : Heap} {a : Addr} {k : ClassId} {n : Int32} {cs ds : List Int32} {m : Nat} (F : Arv Z h a k .byte n (((own_low cs ++ List.replicate m (Value.int (0 : Int32))).take (Int32.ofNat cs.length).toNatClampNeg) ++ own_low ds ++ ((own_low cs ++ List.replicate m (Value.int (0 : Int32))).drop ((Int32.ofNat cs.length).toNatClampNeg + (Int32.ofNat ds.length).toNatClampNeg))) (.int (0 : Int32))) (h1 : cs.length < 100000) (h2 : ds.length < 100000) : Arv Z h a k .byte n (own_low (cs ++ ds)) (.int (0 : Int32)) := by
  refine F.pad (fun i => ?_)
  rw [own_ofn (by omega), own_ofn (by omega)]
  have e1 : (own_low cs ++ List.replicate m (Value.int (0 : Int32))).take cs.length = own_low cs := by
    rw [List.take_append_of_le_length (by simp [own_low]), List.take_of_length_le (by simp [own_low])]
  have e2 : (own_low cs ++ List.replicate m (Value.int (0 : Int32))).drop (cs.length + ds.length) = List.replicate (m - ds.length) (Value.int (0 : Int32)) := by
    rw [List.drop_append, List.drop_of_length_le (by simp [own_low]), List.drop_replicate, List.nil_append]
    congr 1
    simp [own_low]
  rw [e1, e2, show own_low (cs ++ ds) = own_low cs ++ own_low ds by simp [own_low]]
  exact (pad_rep (own_low cs ++ own_low ds) _ _ i).symm
theorem own_latT {cs : List Int32} {i m : Nat} (h : ∀ c ∈ cs, ¬ c < 0 ∧ ¬ (255 : Int32) < c) : ∀ c ∈ (cs.drop i).take m, ¬ c < 0 ∧ ¬ (255 : Int32) < c := fun c hc => h c (List.mem_of_mem_drop (List.mem_of_mem_take hc))
theorem own_latA {a b : List Int32} (h1 : ∀ c ∈ a, ¬ c < 0 ∧ ¬ (255 : Int32) < c) (h2 : ∀ c ∈ b, ¬ c < 0 ∧ ¬ (255 : Int32) < c) : ∀ c ∈ a ++ b, ¬ c < 0 ∧ ¬ (255 : Int32) < c := fun c hc => (List.mem_append.mp hc).elim (h1 c) (h2 c)
theorem own_subl {cs : List Int32} {i m : Nat} (h : i + m ≤ cs.length) : ((cs.drop i).take m).length = m := by simp; omega


theorem own_standW {p : Program} {l : Launch} {e : Env} {R : Room} {s : State} {m : MethodId} {args : Array Value} {below : List Frame} {meth : Method} {c : Code} {T : State} {locs : List Loc} {cells slots c2 s2 : Nat} (X : Stand p l e R s m args below meth c T locs cells slots) (h1 : cells ≤ c2) (h2 : slots ≤ s2) : Stand p l e R s m args below meth c T locs c2 s2 := { X with same := X.same.mono h1 h2 }


theorem own_narB (x : Int32) : nar .byte (x.toInt8.toInt32) = StrChars.lo8 x := by
  show (x.toInt8.toInt32).toInt8.toInt32 = x.toInt8.toInt32
  simp
theorem own_ch255 (x : Int32) : ¬ ((x &&& (255 : Int32)).toUInt32.toUInt16.toUInt32.toInt32) < 0 ∧ ¬ (255 : Int32) < ((x &&& (255 : Int32)).toUInt32.toUInt16.toUInt32.toInt32) := by
  have h1 := c_mask x 255 8 (by decide) (by decide)
  have h4 := c_i2c (x &&& 255)
  have e2 : (255 : Int32).toInt = 255 := by decide
  have e3 : (0 : Int32).toInt = 0 := by decide
  simp only [Int32.lt_iff_toInt_lt, e2, e3]
  omega
def own_All (Z : State) (h : Heap) (xs : List Addr) : Prop := ∀ x ∈ xs, Exa Z h x "java/lang/String"
section OwnAll
variable {Z : State} {h h' : Heap} {xs : List Addr} {a x : Addr} {sl : Nat} {v : Value} {ws : List Addr} {n : Nat}
theorem own_All.ext (F : own_All Z h xs) (E : Ext h h') : own_All Z h' xs := fun x q => (F x q).ext E
theorem own_All.wr (F : own_All Z h xs) (W : Wr h h' a sl v) : own_All Z h' xs := fun x q => (F x q).wr W
theorem own_All.keep (F : own_All Z h xs) (K : Keep h h' ws) : own_All Z h' xs := fun x q => (F x q).keep K
theorem own_All.push (F : own_All Z h xs) (E : Exa Z h x "java/lang/String") : own_All Z h (xs ++ [x]) := fun y q => (List.mem_append.mp q).elim (F y) (fun u => by rw [List.mem_singleton.mp u]; exact E)
theorem own_All.nil : own_All Z h [] := fun _ q => nomatch q
def own_Li (Z : State) (h : Heap) (x : Addr) (n : Nat) : Prop := (Exa Z h x "java/util/ImmutableCollections$List12" ∧ 0 < n) ∨ (∃ (el : Addr) (k : ClassId) (vs : List Value) (d : Value), Exa Z h x "java/util/ImmutableCollections$ListN" ∧ Fld Z h x "java/util/ImmutableCollections$ListN" "elements" "[Ljava/lang/Object;" (.ref el) ∧ Arv Z h el k (.object "java/lang/Object") (Int32.ofNat n) vs d)
theorem own_Li.ext (F : own_Li Z h x n) (E : Ext h h') : own_Li Z h' x n := by
  rcases F with ⟨a, b⟩ | ⟨el, k, vs, d, a, b, c⟩
  · exact Or.inl ⟨a.ext E, b⟩
  · exact Or.inr ⟨el, k, vs, d, a.ext E, b.ext E, c.ext E⟩
theorem own_Li.keep (F : own_Li Z h x n) (K : Keep h h' []) : own_Li Z h' x n := by
  rcases F with ⟨a, b⟩ | ⟨el, k, vs, d, a, b, c⟩
  · exact Or.inl ⟨a.keep K, b⟩
  · exact Or.inr ⟨el, k, vs, d, a.keep K, b.keep K nin0, c.keep K nin0⟩
theorem own_Li.other {a0 : Array Value} {kI : Nat} (F : own_Li Z h x n) (W : Wr h h' a sl v) (E : Exa Z h a "com/example/hinagata/hinagata/DigestComparison") (wi : (Jvm.Cond.instantiable "com/example/hinagata/hinagata/DigestComparison" kI).before a0 Z = true) : own_Li Z h' x n := by
  rcases F with ⟨p, b⟩ | ⟨el, k, vs, d, p, b, c⟩
  · exact Or.inl ⟨p.wr W, b⟩
  · exact Or.inr ⟨el, k, vs, d, p.wr W, b.other W (Or.inl (Exa.ne p E (by decide))), c.other W (Ne.symm (Exa.neArv E c wi))⟩
end OwnAll
theorem own_nsRoot {Z : State} {a0 : Array Value} {O K : String} {n : Nat} (w : (Cond.noSuperclass O).before a0 Z = true) (wk : (Cond.instantiable K n).before a0 Z = true) (hn : O ≠ K) : NS Z O K := by
  obtain ⟨c, k, h1, h2, h3, -, -⟩ := Cond.noSuperclass_spec w
  obtain ⟨t, kt, g1, -⟩ := Cond.instantiable_spec wk
  have ne := ids_ne h1 g1 hn
  refine ⟨c, t, h1, g1, fun fuel => ?_⟩
  cases fuel with
  | zero => rfl
  | succ f => simp [Vm.isSubclassAux, ne, h2, h3]
theorem own_nsNo {Z : State} {a0 : Array Value} {C S K : String} {n : Nat} (w : (Cond.superclass C S).before a0 Z = true) (wk : (Cond.instantiable K n).before a0 Z = true) (u : NS Z C K) (hn : C ≠ K) : ∃ c t, Z.vm.findClass C = some c ∧ Z.vm.findClass K = some t ∧ Z.vm.assignable c t = false := by
  obtain ⟨c, t, h0, g0, n3⟩ := u
  obtain ⟨p, k, kp, h1, h2, h3, h4, h5, -, h7⟩ := Cond.superclass_spec h0 w
  obtain ⟨t', kt, g1, g2, g3, g4, -⟩ := Cond.instantiable_spec wk
  cases g0.symm.trans g1
  have g5 : kt.isInterface = false := by
    cases hi : kt.isInterface with
    | false => rfl
    | true => simp [hi] at g4
  have ne := ids_ne h0 g0 hn
  refine ⟨c, t, h0, g0, ?_⟩
  show Z.vm.assignableAux (255 + 1) c t = false
  simp [Vm.assignableAux, ne, h2, g2, h5, g3, g5, Vm.isSubclass, n3]
theorem own_mvNest {Z s : State} {a0 args : Array Value} {own host : String} {index : Nat} {y : MethodName} (hZ : Z.Warmed39 s.vm) (w : (Cond.methodLinkNest own index y host).before a0 Z = true) : (Cond.methodLinkNest own index y host).before args s = true := (Cond.methodLinkNest_wide hZ w :)
def own_Mir (Z : State) (C : String) (mr : Addr) : Prop := ∃ (c : ClassId) (k : Class), Z.vm.findClass C = some c ∧ Z.vm.classes[c]? = some k ∧ k.mirror = some mr
section OwnMir
variable {p : Program} {l : Launch} {e : Env} {R : Room} {s : State} {m : MethodId} {args : Array Value} {below : List Frame} {meth : Method} {c : Code} {T : State} {locs : List Loc} {cells slots : Nat} {Z : State} {h : Heap} {a : Addr}
theorem own_gcls (X : Stand p l e R s m args below meth c T locs cells slots) (hx : p.tables.exec = Jvm.exec) (hZ : Z.Warmed39 s.vm) {a0 : Array Value} {own C : String} {index : Nat} (hown : s.vm.findClass own = some m.cls)
    (w1 : (Cond.methodLink own index ⟨"java/lang/Object", "getClass", "()Ljava/lang/Class;"⟩).before a0 Z = true) (w2 : (Cond.declares ⟨"java/lang/Object", "getClass", "()Ljava/lang/Class;"⟩).before a0 Z = true) (w3 : (Cond.noSuperclass "java/lang/Object").before a0 Z = true) (w4 : (Cond.selects C ⟨"java/lang/Object", "getClass", "()Ljava/lang/Class;"⟩ ⟨"java/lang/Object", "getClass", "()Ljava/lang/Class;"⟩).before a0 Z = true)
    (w5 : (Cond.instanceMethod ⟨"java/lang/Object", "getClass", "()Ljava/lang/Class;"⟩).before a0 Z = true) (w6 : (Cond.native ⟨"java/lang/Object", "getClass", "()Ljava/lang/Class;"⟩).before a0 Z = true) (eT : T.heap = h) (E : Exa Z h a C) {mr : Addr} (M : own_Mir Z C mr)
    {g : JFrame} (hg : g.method = m) (hsize : g.locals.size = c.maxLocals) {rest : List Value} (hs : g.stack = .ref a :: rest) (hd : decode c.code g.pc = .ok (.invokevirtual index, 3)) (hf : 1 ≤ R.frames) {W : Nat} (hW : 2 * g.monitorRoom + (rest.map fun v => v.category).sum ≤ W) (hl : W + (nativeFrameWords "java/lang/Object" "getClass" 1 + 11) ≤ R.locals) :
    ∃ T', Stand p l e R s m args below meth c T' locs cells slots ∧ T'.heap = h ∧ ∀ target, Steps p.tables e below (T'.setTop { g with pc := g.pc + 3, stack := .ref mr :: rest }) target → Steps p.tables e below (T.setTop g) target := by
  obtain ⟨cB, kB, i1, i2, i3⟩ := isOf hZ eT E
  obtain ⟨cc, kc, m1, m2, m3⟩ := M
  have e1 : cB = cc := by
    have q := i1
    rw [hZ.alike.findClass] at q
    exact Option.some.inj (q.symm.trans m1)
  subst e1
  obtain ⟨k', q, ek⟩ := hZ.alike.2.2 _ _ m2
  obtain ⟨vm', X', st⟩ := X.getClassOf hx hown (mvT hZ w1) (mvT hZ w2) (nf_top (args := #[]) (mvT hZ w3)) (mvT hZ w4) (mvT hZ w5) (mvT hZ w6) i1 i3 q (by rw [ek]; exact m3) hg hsize hs hd hf (by omega)
  exact ⟨_, X', eT, st⟩
theorem own_ldcM (X : Stand p l e R s m args below meth c T locs cells slots) (hx : p.tables.exec = Jvm.exec) (hZ : Z.Warmed39 s.vm) {a0 : Array Value} {own C : String} {index : Nat} (hown : s.vm.findClass own = some m.cls) (w : (Cond.classLink own index C).before a0 Z = true) (eT : T.heap = h) {mr : Addr} (M : own_Mir Z C mr)
    {g : JFrame} (hg : g.method = m) (hd : decode c.code g.pc = .ok (.ldc index, 2)) :
    ∃ T', Stand p l e R s m args below meth c T' locs cells slots ∧ T'.heap = h ∧ ∀ target, Steps p.tables e below (T'.setTop { g with pc := g.pc + 2, stack := .ref mr :: g.stack }) target → Steps p.tables e below (T.setTop g) target := by
  obtain ⟨cc, kc, m1, m2, m3⟩ := M
  obtain ⟨k', q, ek⟩ := hZ.alike.2.2 _ _ m2
  obtain ⟨vm', X', st⟩ := X.ldcMirror hx (args := args) (C := C) (a := mr) hown (mv hZ w) (by
    have f1 : s.vm.findClass C = some cc := by rw [hZ.alike.findClass]; exact m1
    have f2 : k'.mirror = some mr := by rw [ek]; exact m3
    simp [Term.eval, f1, q, f2]) hg hd
  exact ⟨_, X', eT, st⟩
end OwnMir
def own_13 (xs : List Addr) : Prop := (∃ x0, xs = [x0]) ∨ (∃ x0 x1, xs = [x0, x1]) ∨ (∃ x0 x1 x2, xs = [x0, x1, x2])
theorem own_13of {xs : List Addr} (h : 0 < xs.length) (h3 : xs.length ≤ 3) : own_13 xs := by
  match xs, h, h3 with
  | [x], _, _ => exact Or.inl ⟨x, rfl⟩
  | [x, y], _, _ => exact Or.inr (Or.inl ⟨x, y, rfl⟩)
  | [x, y, z], _, _ => exact Or.inr (Or.inr ⟨x, y, z, rfl⟩)
theorem own_StoL {Z : State} {h : Heap} {b : Addr} {k : ClassId} {n : Int32} {vs : List Value} {d : Value} {a0 : Array Value} {xs : List Addr} (F : Arv Z h b k (.object "java/lang/Object") n vs d) (O : Ovr Z k "java/lang/Object") (w : (Cond.castable "java/lang/String" "java/lang/Object").before a0 Z = true) (A : own_All Z h xs) : StoL Z h b (xs.map Value.ref) := by
  obtain ⟨c, Ar, q, -⟩ := F
  subst q
  induction xs with
  | nil => trivial
  | cons x r ih => exact ⟨Sto.of Ar O (Ins.of_exa (A x (by simp)) w), ih (fun y hy => A y (List.mem_cons_of_mem _ hy))⟩
theorem own_usX (xs : List Addr) (hn : xs.length < 100000) : xs.map Value.ref = (List.range (Int32.ofNat xs.length).toNatClampNeg).map fun i => (xs.map Value.ref).getD ((0 : Int32).toNatClampNeg + i) .null := by
  have e0 : (0 : Int32).toNatClampNeg = 0 := by decide
  rw [e0, own_ofn (by omega)]
  apply List.ext_getElem
  · simp
  · intro i h1 h2
    simp [List.getD_eq_getElem?_getD] at h1 ⊢
    simp [h1]
theorem own_cpX {Z : State} {h : Heap} {a : Addr} {k : ClassId} {n : Int32} {ty : FieldType} {us : List Value} {mm : Nat} (F : Arv Z h a k ty n ((List.replicate mm Value.null).take (0 : Int32).toNatClampNeg ++ us ++ (List.replicate mm Value.null).drop ((0 : Int32).toNatClampNeg + (Int32.ofNat mm).toNatClampNeg)) .null) (hm : mm < 100000) : Arv Z h a k ty n us .null := by
  have e0 : (0 : Int32).toNatClampNeg = 0 := by decide
  rw [e0, own_ofn (by omega)] at F
  simpa using F
theorem own_minX {i j : Nat} (hi : i < 100000) (hj : j ≤ i) : (if Int32.ofNat j < Int32.ofNat i then Int32.ofNat j else Int32.ofNat i) = Int32.ofNat j := by
  by_cases q : Int32.ofNat j < Int32.ofNat i
  · rw [if_pos q]
  · rw [if_neg q]
    rw [own_oflt (by omega) (by omega)] at q
    rw [show i = j by omega]
theorem own_pushX {Z : State} {h h' : Heap} {a : Addr} {k : ClassId} {z : Int32} {ty : FieldType} {xs : List Addr} {j : Int32} {x : Addr} (F : Arv Z h a k ty z (xs.map Value.ref) .null) (hf : fits ty (.ref x) = true) (W : Wr h h' a j.toNatClampNeg (.ref x)) (hj : j = Int32.ofNat xs.length) (hl : xs.length < 1000) : Arv Z h' a k ty z ((xs ++ [x]).map Value.ref) .null := by
  have F2 := F.pad (vs' := xs.map Value.ref ++ List.replicate 1 Value.null) (fun i => pad_rep _ _ 1 i)
  obtain ⟨c, A, q1, S, q3, H, G⟩ := F2
  have F3 := Arv.set A q1 S q3 H G hf W xs.length (by rw [hj, own_ofn (by omega)]) (by simp)
  rw [List.set_append_right _ _ (by simp)] at F3
  simpa using F3
def own_St (nl : Int32) (Z : State) (ad : Addr) (lo n0 : Nat) (xs : List Addr) (cap : Nat) (d : Addr) (k : ClassId) : Prop := (nl = 0 ∧ xs.length = 0 ∧ cap = 0 ∧ d = ad) ∨ (¬ nl = 0 ∧ 0 < xs.length ∧ cap = 10 ∧ lo ≤ d ∧ n0 ≤ d ∧ Ovr Z k "java/lang/Object")
theorem own_St.pos {nl : Int32} {Z : State} {ad d : Addr} {xs : List Addr} {lo n0 cap : Nat} {k : ClassId} (h : own_St nl Z ad lo n0 xs cap d k) (q : ¬ nl = 0) : 0 < xs.length ∧ cap = 10 ∧ lo ≤ d ∧ n0 ≤ d ∧ Ovr Z k "java/lang/Object" := h.elim (fun u => absurd u.1 q) (fun u => u.2)
theorem own_St.len {nl : Int32} {Z : State} {ad d : Addr} {xs : List Addr} {lo n0 cap : Nat} {k : ClassId} (h : own_St nl Z ad lo n0 xs cap d k) : (xs.length = 0 ↔ nl = 0) ∧ cap ≤ 10 ∧ (0 < xs.length → cap = 10) := by
  rcases h with ⟨a, b, c, -⟩ | ⟨a, b, c, -⟩
  · exact ⟨⟨fun _ => a, fun _ => b⟩, by omega, fun q => by omega⟩
  · exact ⟨⟨fun q => absurd q (by omega), fun q => absurd q a⟩, by omega, fun _ => c⟩
theorem own_m3 (x : Int32) : x &&& (3 : Int32) = 0 ∨ x &&& (3 : Int32) = 1 ∨ x &&& (3 : Int32) = 2 ∨ x &&& (3 : Int32) = 3 := by
  have h1 := c_mask x 3 2 (by decide) (by decide)
  generalize x &&& (3 : Int32) = y at h1 ⊢
  have e0 : (0 : Int32).toInt = 0 := by decide
  have e1 : (1 : Int32).toInt = 1 := by decide
  have e2 : (2 : Int32).toInt = 2 := by decide
  have e3 : (3 : Int32).toInt = 3 := by decide
  simp only [← Int32.toInt_inj, e0, e1, e2, e3]
  omega
def own_03 (y : Int32) : Prop := y = 0 ∨ y = 1 ∨ y = 2 ∨ y = 3
theorem own_03p {y k : Int32} (h : own_03 y) (hk : k = 0 ∨ k = 1 ∨ k = 2) (q : k < y) : ¬ y = 0 := by
  rcases h with rfl | rfl | rfl | rfl <;> rcases hk with rfl | rfl | rfl <;> revert q <;> decide
theorem own_03z {y : Int32} (h : own_03 y) (q : ¬ (0 : Int32) < y) : y = 0 := by
  rcases h with rfl | rfl | rfl | rfl <;> first | rfl | exact absurd (by decide) q

theorem pn_0 : plainName "java/lang/StringLatin1" = true := by first | (simp [plainName, overriddenIn]; done) | decide +kernel
theorem ef_1 (m : MethodId) (x0 : Int32) : entryFrame m #[(.int x0)] 1 = mkF m 0 #[.val (.int x0)] [] := by first | (simp [entryFrame, mkF, argsToLocals, Value.category]; done) | rfl
theorem dj43_3_0 : decode jdk_43_method_3_code 0 = .ok (.iload_n 0, 1) := by decide +kernel
theorem dj43_3_1 : decode jdk_43_method_3_code 1 = .ok (.sipush 255, 3) := by decide +kernel
theorem dj43_3_4 : decode jdk_43_method_3_code 4 = .ok (.if_icmp .gt 7, 3) := by decide +kernel
theorem dj43_3_7 : decode jdk_43_method_3_code 7 = .ok (.iconst 1, 1) := by decide +kernel
theorem dj43_3_8 : decode jdk_43_method_3_code 8 = .ok (.goto 4, 3) := by decide +kernel
theorem dj43_3_12 : decode jdk_43_method_3_code 12 = .ok (.ireturn, 1) := by decide +kernel
def Q_canEnc (Z : State) (p1 : Int32) (h0 : Heap) (v : Option Value) (h : Heap) (L : List Loc) : Prop := v = some (.int (1 : Int32)) ∧ Fr Z.heap.size L ∧ h = h0
set_option maxRecDepth 65536 in
set_option maxHeartbeats 40000000 in
theorem rm_canEnc (l : Launch) (Z : State) (a0 : Array Value) (hw : ∀ d ∈ tables_1, d.before a0 Z = true) (ws : List Jvm.Cond) (p1 : Int32) (h0 : Heap) (OL : Old Z Z.heap.size h0) (h : ¬ (255 : Int32) < p1) :
    MetFree l mN9 (head1 (Jvm.Cond.code mN9 jdk_43_method_3_code 1 (some .boolean) :: ws) rM0) (fun a U => a = #[(.int p1)] ∧ Z.Warmed39 U.vm ∧ U.heap = h0) (fun _ _ _ _ _ => True) (fun _ U o U' => ∃ v L, o = .returned v ∧ Q_canEnc Z p1 h0 v U'.heap L ∧ FrameEnd U o U' L rM0.cells rM0.slots) := by
  refine MetFree.of_bodySF (plainFor_of_name pn_0) hisR ?_
  intro p e s m args below meth c s₁ Bd hml0 hP hK
  obtain ⟨rfl, hZ, hh⟩ := hP
  have hx := Bd.exec
  have hby := Bd.bytes
  have hml : c.maxLocals = 1 := hml0
  have hown : s.vm.findClass "java/lang/StringLatin1" = some m.cls := findClass_of_methodNamed Bd.named
  have hnm := (name_of_methodNamed Bd.named Bd.method).1
  have X0 : Stand p l e rM0 s m #[(.int p1)] below meth c s₁ [] 0 0 := Stand.of_body Bd
  have e0 : s₁.heap = h0 := by rw [← hh, Bd.state]; rfl
  have N0 := Fr.nil Z.heap.size
  have Z0 : Z.heap.size ≤ h0.size := OL.2.1
  show own_Go p.tables e below (fun o tE => ∃ v L, o = .returned v ∧ Q_canEnc Z p1 h0 v tE.heap L ∧ FrameEnd s o tE L rM0.cells rM0.slots) (s₁.setTop (entryFrame m #[(.int p1)] 1))
  refine own_hd (fun PP hPP => ?_)
  refine own_Go.st (fun t k => castTop (ef_1 m p1) k) ?_
  refine own_Go.st (fun _ k => XS.iloadN X0.here hx rfl (hb hby dj43_3_0) rfl (XS.sipush X0.here hx rfl (hb hby dj43_3_1) k)) ?_
  show own_Go _ _ _ _ (s₁.setTop (mkF m 4 #[.val (.int p1)] [(.int (255 : Int32)), (.int p1)]))
  have hc101 : ¬ ((255 : Int32) < p1) := h
  refine own_Go.st (fun _ k => XS.icmpNo X0.here hx rfl (hb hby dj43_3_4) rfl (flt hc101).2.2.1 k) ?_
  refine own_Go.st (fun _ k => XS.iconst X0.here hx rfl (hb hby dj43_3_7) (XS.goto X0.here hx rfl (pc0 := 8) (pc' := 12) rfl (hb hby dj43_3_8) (by decide) (by decide) k)) ?_
  show own_Go _ _ _ _ (s₁.setTop (mkF m 12 #[.val (.int p1)] [(.int (1 : Int32))]))
  obtain ⟨fs102, hr102, hrun102, hend102, hW102, hsm102⟩ := X0.leave (v := some (.int (nar .boolean (1 : Int32)))) (fun h => by rw [Bd.returns] at h; cases h)
  subst hPP
  refine ⟨_, _, retN X0 hx (t := .boolean) Bd.returns (by simp) (hb hby dj43_3_12) hr102, hrun102, hend102, _, _, rfl, ?_, ⟨_, rfl⟩, hW102, hsm102.mono (by decide) (by decide)⟩
  · show Q_canEnc Z _ h0 _ s₁.heap _
    rw [e0]
    exact ⟨rfl, N0, rfl⟩
theorem dj43_46_0 : decode jdk_43_method_46_code 0 = .ok (.iconst 1, 1) := by decide +kernel
theorem dj43_46_1 : decode jdk_43_method_46_code 1 = .ok (.newarray .byte, 2) := by decide +kernel
theorem dj43_46_3 : decode jdk_43_method_46_code 3 = .ok (.dup, 1) := by decide +kernel
theorem dj43_46_4 : decode jdk_43_method_46_code 4 = .ok (.iconst 0, 1) := by decide +kernel
theorem dj43_46_5 : decode jdk_43_method_46_code 5 = .ok (.iload_n 0, 1) := by decide +kernel
theorem dj43_46_6 : decode jdk_43_method_46_code 6 = .ok (.i2b, 1) := by decide +kernel
theorem dj43_46_7 : decode jdk_43_method_46_code 7 = .ok (.bastore, 1) := by decide +kernel
theorem dj43_46_8 : decode jdk_43_method_46_code 8 = .ok (.areturn, 1) := by decide +kernel
def Q_toBytes1 (Z : State) (p1 : Int32) (h0 : Heap) (v : Option Value) (h : Heap) (L : List Loc) : Prop := ∃ (x : Nat), ∃ (k : ClassId), v = some (.ref x) ∧ Fr Z.heap.size L ∧ Keep h0 h [] ∧ Arv Z h x k .byte (Int32.ofNat ([p1] : List Int32).length) (own_low [p1]) (.int (0 : Int32)) ∧ (h0.size ≤ x)
set_option maxRecDepth 65536 in
set_option maxHeartbeats 40000000 in
theorem rm_toBytes1 (l : Launch) (Z : State) (a0 : Array Value) (hw : ∀ d ∈ tables_1, d.before a0 Z = true) (ws : List Jvm.Cond) (p1 : Int32) (h0 : Heap) (OL : Old Z Z.heap.size h0) :
    MetFree l mN10 (head1 (Jvm.Cond.code mN10 jdk_43_method_46_code 1 (some (.array .byte)) :: ws) rM1) (fun a U => a = #[(.int p1)] ∧ Z.Warmed39 U.vm ∧ U.heap = h0) (fun _ _ _ _ _ => True) (fun _ U o U' => ∃ v L, o = .returned v ∧ Q_toBytes1 Z p1 h0 v U'.heap L ∧ FrameEnd U o U' L rM1.cells rM1.slots) := by
  refine MetFree.of_bodySF (plainFor_of_name pn_0) hisR ?_
  intro p e s m args below meth c s₁ Bd hml0 hP hK
  obtain ⟨rfl, hZ, hh⟩ := hP
  have hx := Bd.exec
  have hby := Bd.bytes
  have hml : c.maxLocals = 1 := hml0
  have hown : s.vm.findClass "java/lang/StringLatin1" = some m.cls := findClass_of_methodNamed Bd.named
  have hnm := (name_of_methodNamed Bd.named Bd.method).1
  have X0 : Stand p l e rM1 s m #[(.int p1)] below meth c s₁ [] 0 0 := Stand.of_body Bd
  have e0 : s₁.heap = h0 := by rw [← hh, Bd.state]; rfl
  have N0 := Fr.nil Z.heap.size
  have Z0 : Z.heap.size ≤ h0.size := OL.2.1
  show own_Go p.tables e below (fun o tE => ∃ v L, o = .returned v ∧ Q_toBytes1 Z p1 h0 v tE.heap L ∧ FrameEnd s o tE L rM1.cells rM1.slots) (s₁.setTop (entryFrame m #[(.int p1)] 1))
  refine own_hd (fun PP hPP => ?_)
  refine own_Go.st (fun t k => castTop (ef_1 m p1) k) ?_
  refine own_Go.st (fun _ k => XS.iconst X0.here hx rfl (hb hby dj43_46_0) k) ?_
  show own_Go _ _ _ _ (s₁.setTop (mkF m 1 #[.val (.int p1)] [(.int (1 : Int32))]))
  obtain ⟨T103, h103, k103, X103, e103, E103, A103, st103⟩ := newP X0 hx hZ (own_w hw 19 rfl) e0 (g := (mkF m 1 #[.val (.int p1)] [(.int (1 : Int32))])) rfl (hb hby dj43_46_1) rfl (by decide) (cap := 1) (by decide) (by decide) (by decide) (by decide)
  obtain ⟨b103, g103⟩ : ∃ z, z = h0.size := ⟨_, rfl⟩
  rw [← g103] at A103 st103
  refine own_Go.st st103 ?_
  have z103 : h0.size ≤ h103.size := E103.1
  have f104 : Arv Z h103 b103 k103 .byte (1 : Int32) [(.int (0 : Int32))] (.int (0 : Int32)) := (Arv.new A103 (by decide)).pad (pad_rep [] (.int (0 : Int32)) 1)
  have lt_b103 : @LT.lt Nat _ b103 h103.size := f104.lt
  refine own_Go.st (fun _ k => XS.dup X103.here hx rfl (hb hby dj43_46_3) rfl rfl (XS.iconst X103.here hx rfl (hb hby dj43_46_4) (XS.iloadN X103.here hx rfl (hb hby dj43_46_5) rfl (XS.i2b X103.here hx rfl (hb hby dj43_46_6) rfl k)))) ?_
  show own_Go _ _ _ _ (T103.setTop (mkF m 7 #[.val (.int p1)] [(.int (p1.toInt8.toInt32)), (.int (0 : Int32)), (.ref b103), (.ref b103)]))
  obtain ⟨c105, Ar105, q105, S105, Nn105, H105, G105⟩ := id f104
  have hin105 : ¬ ((0 : Int32) < 0 ∨ c105.slots.size ≤ ((0 : Int32)).toNatClampNeg) := inb_of S105 ⟨by decide, by decide⟩
  obtain ⟨T105, h105, X105, e105, W105, st105⟩ := stB X103 hx hZ e103 Ar105 (j := (0 : Int32)) hin105 (g := (mkF m 7 #[.val (.int p1)] [(.int (p1.toInt8.toInt32)), (.int (0 : Int32)), (.ref b103), (.ref b103)])) rfl rfl (hb hby dj43_46_7)
  refine own_Go.st st105 ?_
  have N105 := Fr.snoc X105 N0 (by omega)
  have z105 : h103.size ≤ h105.size := Nat.le_of_eq W105.size.symm
  have f106 := Arv.set Ar105 q105 S105 Nn105 H105 G105 (fits_nar_byte _) W105 0 rfl (Nat.le_of_ble_eq_true rfl)
  have f107 : Arv Z h105 b103 k103 .byte (1 : Int32) [(.int (nar .byte (p1.toInt8.toInt32)))] (.int (0 : Int32)) := f106
  show own_Go _ _ _ _ (T105.setTop (mkF m 8 #[.val (.int p1)] [(.ref b103)]))
  obtain ⟨fs108, hr108, hrun108, hend108, hW108, hsm108⟩ := X105.leave (v := some (.ref b103)) (fun h => by rw [Bd.returns] at h; cases h)
  have f109 : Arv Z h105 b103 k103 .byte (Int32.ofNat ([p1] : List Int32).length) (own_low [p1]) (.int (0 : Int32)) := by
    have q := f107
    rw [own_narB] at q
    exact q
  have K110 : Keep h0 h103 [] := (Keep.refl h0 []).ext E103
  have K111 : Keep h0 h105 [] := K110.wr W105 (Or.inr (by omega))
  subst hPP
  refine ⟨_, _, own_retA X105 hx Bd.returns rfl rfl (hb hby dj43_46_8) hr108, hrun108, hend108, _, _, rfl, ?_, ⟨_, rfl⟩, hW108, hsm108.mono (by decide) (by decide)⟩
  · show Q_toBytes1 Z _ h0 _ T105.heap _
    rw [e105]
    exact ⟨b103, k103, rfl, N105, K111, f109, (by omega)⟩
theorem pn_16 : plainName "java/lang/String" = true := by first | (simp [plainName, overriddenIn]; done) | decide +kernel
theorem ef_17 (m : MethodId) (x0 : Nat) (x1 : Nat) (x2 : Int32) : entryFrame m #[(.ref x0), (.ref x1), (.int x2)] 3 = mkF m 0 #[.val (.ref x0), .val (.ref x1), .val (.int x2)] [] := by first | (simp [entryFrame, mkF, argsToLocals, Value.category]; done) | rfl
theorem dj42_151_0 : decode jdk_42_method_151_code 0 = .ok (.aload_n 0, 1) := by decide +kernel
theorem dj42_151_1 : decode jdk_42_method_151_code 1 = .ok (.invokespecial 1, 3) := by decide +kernel
theorem dj42_151_4 : decode jdk_42_method_151_code 4 = .ok (.aload_n 0, 1) := by decide +kernel
theorem dj42_151_5 : decode jdk_42_method_151_code 5 = .ok (.aload_n 1, 1) := by decide +kernel
theorem dj42_151_6 : decode jdk_42_method_151_code 6 = .ok (.putfield 9, 3) := by decide +kernel
theorem dj42_151_9 : decode jdk_42_method_151_code 9 = .ok (.aload_n 0, 1) := by decide +kernel
theorem dj42_151_10 : decode jdk_42_method_151_code 10 = .ok (.iload_n 2, 1) := by decide +kernel
theorem dj42_151_11 : decode jdk_42_method_151_code 11 = .ok (.putfield 15, 3) := by decide +kernel
theorem dj42_151_14 : decode jdk_42_method_151_code 14 = .ok (.return_, 1) := by decide +kernel
def Q_sinitBB (Z : State) (a1 : Nat) (a2 : Nat) (h0 : Heap) (v : Option Value) (h : Heap) (L : List Loc) : Prop := v = none ∧ Fr Z.heap.size L ∧ Keep h0 h [a1] ∧ Exa Z h a1 "java/lang/String" ∧ Fld Z h a1 "java/lang/String" "value" "[B" (.ref a2) ∧ Fld Z h a1 "java/lang/String" "coder" "B" (.int (0 : Int32))
set_option maxRecDepth 65536 in
set_option maxHeartbeats 40000000 in
theorem rm_sinitBB (l : Launch) (Z : State) (a0 : Array Value) (hw : ∀ d ∈ tables_1, d.before a0 Z = true) (ws : List Jvm.Cond) (a1 : Nat) (a2 : Nat) (h0 : Heap) (OL : Old Z Z.heap.size h0) (p0_ : Exa Z h0 a1 "java/lang/String") (p1_ : Fld Z h0 a1 "java/lang/String" "value" "[B" .null) (p2_ : Fld Z h0 a1 "java/lang/String" "coder" "B" (.int (0 : Int32))) (hn0 : Z.heap.size ≤ a1) :
    MetFree l mN5 (head1 (Jvm.Cond.code mN5 jdk_42_method_151_code 3 none :: ws) rM2) (fun a U => a = #[(.ref a1), (.ref a2), (.int (0 : Int32))] ∧ Z.Warmed39 U.vm ∧ U.heap = h0) (fun _ _ _ _ _ => True) (fun _ U o U' => ∃ v L, o = .returned v ∧ Q_sinitBB Z a1 a2 h0 v U'.heap L ∧ FrameEnd U o U' L rM2.cells rM2.slots) := by
  refine MetFree.of_bodySF (plainFor_of_name pn_16) hisR ?_
  intro p e s m args below meth c s₁ Bd hml0 hP hK
  obtain ⟨rfl, hZ, hh⟩ := hP
  have hx := Bd.exec
  have hby := Bd.bytes
  have hml : c.maxLocals = 3 := hml0
  have hown : s.vm.findClass "java/lang/String" = some m.cls := findClass_of_methodNamed Bd.named
  have hnm := (name_of_methodNamed Bd.named Bd.method).1
  have X0 : Stand p l e rM2 s m #[(.ref a1), (.ref a2), (.int (0 : Int32))] below meth c s₁ [] 0 0 := Stand.of_body Bd
  have e0 : s₁.heap = h0 := by rw [← hh, Bd.state]; rfl
  have N0 := Fr.nil Z.heap.size
  have Z0 : Z.heap.size ≤ h0.size := OL.2.1
  have lt_0 : @LT.lt Nat _ a1 h0.size := p0_.lt
  have lt_1 : @LT.lt Nat _ a1 h0.size := p1_.lt
  have lt_2 : @LT.lt Nat _ a1 h0.size := p2_.lt
  show own_Go p.tables e below (fun o tE => ∃ v L, o = .returned v ∧ Q_sinitBB Z a1 a2 h0 v tE.heap L ∧ FrameEnd s o tE L rM2.cells rM2.slots) (s₁.setTop (entryFrame m #[(.ref a1), (.ref a2), (.int (0 : Int32))] 3))
  refine own_hd (fun PP hPP => ?_)
  refine own_Go.st (fun t k => castTop (ef_17 m a1 a2 (0 : Int32)) k) ?_
  refine own_Go.st (fun _ k => XS.aloadN X0.here hx rfl (hb hby dj42_151_0) rfl rfl k) ?_
  show own_Go _ _ _ _ (s₁.setTop (mkF m 1 #[.val (.ref a1), .val (.ref a2), .val (.int (0 : Int32))] [(.ref a1)]))
  obtain ⟨T112, X112, e112, st112⟩ := initO X0 hx hZ hown (own_w hw 11 rfl) (own_w hw 12 rfl) (own_w hw 13 rfl) e0 (g := (mkF m 1 #[.val (.ref a1), .val (.ref a2), .val (.int (0 : Int32))] [(.ref a1)])) rfl (by rw [hml]; rfl) rfl (hb hby dj42_151_1) (by decide) (W := 0) (by show 2 * 0 + _ ≤ _; exact Nat.le_of_eq rfl) (by decide)
  refine own_Go.st st112 ?_
  refine own_Go.st (fun _ k => XS.aloadN X112.here hx rfl (hb hby dj42_151_4) rfl rfl (XS.aloadN X112.here hx rfl (hb hby dj42_151_5) rfl rfl k)) ?_
  show own_Go _ _ _ _ (T112.setTop (mkF m 6 #[.val (.ref a1), .val (.ref a2), .val (.int (0 : Int32))] [(.ref a2), (.ref a1)]))
  obtain ⟨T113, h113, X113, e113, W113, st113⟩ := putF X112 hx hZ hown (host := "") (Or.inl (own_w hw 28 rfl)) Via.refl e112 p1_ p0_ (Or.inr ⟨(own_w hw 29 rfl), rfl, hnm⟩) (own_w hw 1 rfl) (ty := (.array .byte)) (by decide) rfl rfl (g := (mkF m 6 #[.val (.ref a1), .val (.ref a2), .val (.int (0 : Int32))] [(.ref a2), (.ref a1)])) rfl rfl (hb hby dj42_151_6)
  refine own_Go.st st113 ?_
  have N113 := Fr.snoc X113 N0 (by omega)
  have z113 : h0.size ≤ h113.size := Nat.le_of_eq W113.size.symm
  have f114 : Fld Z h113 a1 "java/lang/String" "value" "[B" (.ref a2) := p1_.same W113
  refine own_Go.st (fun _ k => XS.aloadN X113.here hx rfl (hb hby dj42_151_9) rfl rfl (XS.iloadN X113.here hx rfl (hb hby dj42_151_10) rfl k)) ?_
  show own_Go _ _ _ _ (T113.setTop (mkF m 11 #[.val (.ref a1), .val (.ref a2), .val (.int (0 : Int32))] [(.int (0 : Int32)), (.ref a1)]))
  have f115 : Fld Z h113 a1 "java/lang/String" "coder" "B" (.int (0 : Int32)) := p2_.other W113 (Or.inr (slot_ne (Or.inr (own_w hw 27 rfl)) (Or.inr (own_w hw 29 rfl)) (by decide) (t := .byte) (t' := (.array .byte)) (by decide) (by decide)))
  have f116 : Exa Z h113 a1 "java/lang/String" := p0_.wr W113
  obtain ⟨T117, h117, X117, e117, W117, st117⟩ := putF X113 hx hZ hown (host := "") (Or.inl (own_w hw 26 rfl)) Via.refl e113 f115 f116 (Or.inr ⟨(own_w hw 27 rfl), rfl, hnm⟩) (own_w hw 1 rfl) (ty := .byte) (by decide) rfl (by decide) (g := (mkF m 11 #[.val (.ref a1), .val (.ref a2), .val (.int (0 : Int32))] [(.int (0 : Int32)), (.ref a1)])) rfl rfl (hb hby dj42_151_11)
  refine own_Go.st st117 ?_
  have N117 := Fr.snoc X117 N113 (by omega)
  have z117 : h113.size ≤ h117.size := Nat.le_of_eq W117.size.symm
  have f118 : Fld Z h117 a1 "java/lang/String" "coder" "B" (.int (0 : Int32)) := f115.same W117
  show own_Go _ _ _ _ (T117.setTop (mkF m 14 #[.val (.ref a1), .val (.ref a2), .val (.int (0 : Int32))] []))
  obtain ⟨fs119, hr119, hrun119, hend119, hW119, hsm119⟩ := X117.leave (v := none) (fun _ => rfl)
  have K120 : Keep h0 h113 [a1] := (Keep.refl h0 [a1]).wr W113 (Or.inl (List.mem_of_getElem? (i := 0) rfl))
  have K121 : Keep h0 h117 [a1] := K120.wr W117 (Or.inl (List.mem_of_getElem? (i := 0) rfl))
  have f122 : Exa Z h117 a1 "java/lang/String" := f116.wr W117
  have f123 : Fld Z h117 a1 "java/lang/String" "value" "[B" (.ref a2) := f114.other W117 (Or.inr (slot_ne (Or.inr (own_w hw 29 rfl)) (Or.inr (own_w hw 27 rfl)) (by decide) (t := (.array .byte)) (t' := .byte) (by decide) (by decide)))
  subst hPP
  refine ⟨_, _, X117.returnOut hx Bd.returns (hb hby dj42_151_14) hr119, hrun119, hend119, _, _, rfl, ?_, ⟨_, rfl⟩, hW119, hsm119.mono (by decide) (by decide)⟩
  · show Q_sinitBB Z _ _ h0 _ T117.heap _
    rw [e117]
    exact ⟨rfl, N117, K121, f122, f123, f118⟩
theorem dj42_139_0 : decode jdk_42_method_139_code 0 = .ok (.getstatic 38, 3) := by decide +kernel
theorem dj42_139_3 : decode jdk_42_method_139_code 3 = .ok (.ifCond .eq 23, 3) := by decide +kernel
theorem dj42_139_6 : decode jdk_42_method_139_code 6 = .ok (.iload_n 0, 1) := by decide +kernel
theorem pd_30 : parseMethodDescriptor "(C)Z" = some ⟨[.char], some .boolean⟩ := by decide +kernel
theorem dj42_139_7 : decode jdk_42_method_139_code 7 = .ok (.invokestatic 1015, 3) := by decide +kernel
theorem dj42_139_10 : decode jdk_42_method_139_code 10 = .ok (.ifCond .eq 16, 3) := by decide +kernel
theorem dj42_139_13 : decode jdk_42_method_139_code 13 = .ok (.new 10, 3) := by decide +kernel
theorem dj42_139_16 : decode jdk_42_method_139_code 16 = .ok (.dup, 1) := by decide +kernel
theorem dj42_139_17 : decode jdk_42_method_139_code 17 = .ok (.iload_n 0, 1) := by decide +kernel
theorem pd_36 : parseMethodDescriptor "(C)[B" = some ⟨[.char], some (.array .byte)⟩ := by decide +kernel
theorem dj42_139_18 : decode jdk_42_method_139_code 18 = .ok (.invokestatic 1018, 3) := by decide +kernel
theorem dj42_139_21 : decode jdk_42_method_139_code 21 = .ok (.iconst 0, 1) := by decide +kernel
theorem pd_39 : parseMethodDescriptor "([BB)V" = some ⟨[(.array .byte), .byte], none⟩ := by decide +kernel
theorem dj42_139_22 : decode jdk_42_method_139_code 22 = .ok (.invokespecial 209, 3) := by decide +kernel
theorem dj42_139_25 : decode jdk_42_method_139_code 25 = .ok (.areturn, 1) := by decide +kernel
def Q_valueOfC (Z : State) (p1 : Int32) (zc : Int32) (h0 : Heap) (v : Option Value) (h : Heap) (L : List Loc) : Prop := ∃ (x : Nat), v = some (.ref x) ∧ Fr Z.heap.size L ∧ Keep h0 h [] ∧ Exa Z h x "java/lang/String"
set_option maxRecDepth 65536 in
set_option maxHeartbeats 40000000 in
theorem rm_valueOfC (l : Launch) (Z : State) (a0 : Array Value) (hw : ∀ d ∈ tables_1, d.before a0 Z = true) (ws : List Jvm.Cond) (p1 : Int32) (zc : Int32) (h0 : Heap) (OL : Old Z Z.heap.size h0) (st_C : Sta Z Z.heap "java/lang/String" "COMPACT_STRINGS" "Z" (.int zc)) (hzc : ¬ zc = 0) (h : ¬ p1 < 0 ∧ ¬ (255 : Int32) < p1) :
    MetFree l mN8 (head1 (Jvm.Cond.code mN8 jdk_42_method_139_code 1 (some (.object "java/lang/String")) :: ws) rM11) (fun a U => a = #[(.int p1)] ∧ Z.Warmed39 U.vm ∧ U.heap = h0) (fun _ _ _ _ _ => True) (fun _ U o U' => ∃ v L, o = .returned v ∧ Q_valueOfC Z p1 zc h0 v U'.heap L ∧ FrameEnd U o U' L rM11.cells rM11.slots) := by
  refine MetFree.of_bodySF (plainFor_of_name pn_16) hisR ?_
  intro p e s m args below meth c s₁ Bd hml0 hP hK
  obtain ⟨rfl, hZ, hh⟩ := hP
  have hx := Bd.exec
  have hby := Bd.bytes
  have hml : c.maxLocals = 1 := hml0
  have hown : s.vm.findClass "java/lang/String" = some m.cls := findClass_of_methodNamed Bd.named
  have hnm := (name_of_methodNamed Bd.named Bd.method).1
  have X0 : Stand p l e rM11 s m #[(.int p1)] below meth c s₁ [] 0 0 := Stand.of_body Bd
  have e0 : s₁.heap = h0 := by rw [← hh, Bd.state]; rfl
  have N0 := Fr.nil Z.heap.size
  have Z0 : Z.heap.size ≤ h0.size := OL.2.1
  show own_Go p.tables e below (fun o tE => ∃ v L, o = .returned v ∧ Q_valueOfC Z p1 zc h0 v tE.heap L ∧ FrameEnd s o tE L rM11.cells rM11.slots) (s₁.setTop (entryFrame m #[(.int p1)] 1))
  refine own_hd (fun PP hPP => ?_)
  refine own_Go.st (fun t k => castTop (ef_1 m p1) k) ?_
  show own_Go _ _ _ _ (s₁.setTop (mkF m 0 #[.val (.int p1)] []))
  obtain ⟨T124, X124, e124, st124⟩ := getS2 X0 hx hZ hown (host := "") (Or.inl (own_w hw 14 rfl)) Via.refl e0 (st_C.ext OL.2) (g := (mkF m 0 #[.val (.int p1)] [])) rfl (hb hby dj42_139_0)
  refine own_Go.st st124 ?_
  show own_Go _ _ _ _ (T124.setTop (mkF m 3 #[.val (.int p1)] [(.int zc)]))
  have hc125 : ¬ (zc = (0 : Int32)) := hzc
  refine own_Go.st (fun _ k => XS.ifNo X124.here hx rfl (hb hby dj42_139_3) rfl ((if0 _ _).trans (feq hc125).1) k) ?_
  refine own_Go.st (fun _ k => XS.iloadN X124.here hx rfl (hb hby dj42_139_6) rfl k) ?_
  show own_Go _ _ _ _ (T124.setTop (mkF m 7 #[.val (.int p1)] [(.int p1)]))
  obtain ⟨_, _, ⟨T126, L126, k126, n126⟩, -, X126, ⟨Lc126, hQ126, l126, y126, z126⟩, st126⟩ := Jvm.LawKit.callS X124 hx (y := mN9) hown (own_v hZ hw 33 rfl) (own_v hZ hw 34 rfl) (own_v hZ hw 35 rfl) (own_v hZ hw 36 rfl) (by decide) (backOf (W := 0) (rm_canEnc l Z a0 hw [] p1 h0 OL h.2) hZ (own_w hw 36 rfl) (own_w hw 35 rfl) (by decide) (by decide)) (g := (mkF m 7 #[.val (.int p1)] [(.int p1)])) rfl (by rw [hml]; rfl) (argsL := [(.int p1)]) (rest := []) (lenOf pd_30 rfl) rfl (by show 2 * 0 + _ ≤ _; exact Nat.le_of_eq rfl) (hb hby dj42_139_7) (fun _ _ => ⟨rfl, e124, (by decide : 0 + 0 ≤ _), (by decide : 0 + 0 ≤ _)⟩)
  dsimp only [Pt.U, Pt.locs, Pt.cells, Pt.slots] at X126 l126 y126 z126 st126 hQ126
  subst l126 y126 z126
  obtain ⟨rfl, N126q, K126⟩ := hQ126
  have N126 := Fr.app N0 N126q
  refine own_Go.st st126 ?_
  show own_Go _ _ _ _ (T126.setTop (mkF m 10 #[.val (.int p1)] [(.int (1 : Int32))]))
  have hc127 : ¬ ((1 : Int32) = (0 : Int32)) := by decide
  refine own_Go.st (fun _ k => XS.ifNo X126.here hx rfl (hb hby dj42_139_10) rfl ((if0 _ _).trans (feq hc127).1) k) ?_
  show own_Go _ _ _ _ (T126.setTop (mkF m 13 #[.val (.int p1)] []))
  obtain ⟨T128, h128, X128, e128, E128, A128, D128, U128, st128⟩ := newO X126 hx hZ hown (own_w hw 37 rfl) (own_w hw 1 rfl) (own_w hw 2 rfl) K126 (g := (mkF m 13 #[.val (.int p1)] [])) rfl (hb hby dj42_139_13) (by decide) (by decide)
  obtain ⟨b128, g128⟩ : ∃ z, z = h0.size := ⟨_, rfl⟩
  rw [← g128] at A128 D128 U128 st128
  refine own_Go.st st128 ?_
  have z128 : h0.size ≤ h128.size := E128.1
  have lt_b128 : @LT.lt Nat _ b128 h128.size := A128.lt
  have f129 : Fld Z h128 b128 "java/lang/String" "coder" "B" (.int (0 : Int32)) := D128 (Or.inr (own_w hw 27 rfl)) (ty := .byte) (by decide)
  have f130 : Fld Z h128 b128 "java/lang/String" "value" "[B" .null := D128 (Or.inr (own_w hw 29 rfl)) (ty := (.array .byte)) (by decide)
  refine own_Go.st (fun _ k => XS.dup X128.here hx rfl (hb hby dj42_139_16) rfl rfl (XS.iloadN X128.here hx rfl (hb hby dj42_139_17) rfl k)) ?_
  show own_Go _ _ _ _ (T128.setTop (mkF m 18 #[.val (.int p1)] [(.int p1), (.ref b128), (.ref b128)]))
  have f132 : Old Z Z.heap.size h128 := OL.ext E128
  obtain ⟨_, _, ⟨T131, L131, k131, n131⟩, -, X131, ⟨Lc131, hQ131, l131, y131, z131⟩, st131⟩ := Jvm.LawKit.callS X128 hx (y := mN10) hown (own_v hZ hw 38 rfl) (own_v hZ hw 39 rfl) (own_v hZ hw 35 rfl) (own_v hZ hw 40 rfl) (by decide) (backOf (W := 2) (rm_toBytes1 l Z a0 hw [] p1 h128 f132 ) hZ (own_w hw 40 rfl) (own_w hw 35 rfl) (by decide) (by decide)) (g := (mkF m 18 #[.val (.int p1)] [(.int p1), (.ref b128), (.ref b128)])) rfl (by rw [hml]; rfl) (argsL := [(.int p1)]) (rest := [(.ref b128), (.ref b128)]) (lenOf pd_36 rfl) rfl (by show 2 * 0 + _ ≤ _; exact Nat.le_of_eq rfl) (hb hby dj42_139_18) (fun _ _ => ⟨rfl, e128, (by decide : 1 + 1 ≤ _), (by decide : 4 + 1 ≤ _)⟩)
  dsimp only [Pt.U, Pt.locs, Pt.cells, Pt.slots] at X131 l131 y131 z131 st131 hQ131
  subst l131 y131 z131
  obtain ⟨x_131, k_131, rfl, N131q, K131, f131_0, pr131_0⟩ := hQ131
  have N131 := Fr.app N126 N131q
  have z131 : h128.size ≤ T131.heap.size := K131.1
  have lt131_0 : @LT.lt Nat _ x_131 T131.heap.size := f131_0.lt
  refine own_Go.st st131 ?_
  refine own_Go.st (fun _ k => XS.iconst X131.here hx rfl (hb hby dj42_139_21) k) ?_
  show own_Go _ _ _ _ (T131.setTop (mkF m 22 #[.val (.int p1)] [(.int (0 : Int32)), (.ref x_131), (.ref b128), (.ref b128)]))
  have f134 : Exa Z T131.heap b128 "java/lang/String" := A128.keep K131
  have f135 : Fld Z T131.heap b128 "java/lang/String" "value" "[B" .null := f130.keep K131 nin0
  have f136 : Fld Z T131.heap b128 "java/lang/String" "coder" "B" (.int (0 : Int32)) := f129.keep K131 nin0
  have f137 : Old Z Z.heap.size T131.heap := f132.keep K131 all0
  obtain ⟨_, _, ⟨T133, L133, k133, n133⟩, -, X133, ⟨Lc133, hQ133, l133, y133, z133⟩, st133⟩ := X131.specialBack hx (y := mN5) rfl hown (own_v hZ hw 41 rfl) (own_v hZ hw 42 rfl) (own_v hZ hw 43 rfl) (by decide) (backOf (W := 1) (rm_sinitBB l Z a0 hw [] b128 x_131 T131.heap f137 f134 f135 f136 (by omega)) hZ (own_w hw 43 rfl) (own_w hw 2 rfl) (by decide) (by decide)) (g := (mkF m 22 #[.val (.int p1)] [(.int (0 : Int32)), (.ref x_131), (.ref b128), (.ref b128)])) rfl (by rw [hml]; rfl) (Steps.refl _) (a := b128) (argsL := [(.ref x_131), (.int (0 : Int32))]) (rest := [(.ref b128)]) (lenOf pd_39 rfl) rfl (by show 2 * 0 + _ ≤ _; exact Nat.le_of_eq rfl) (hb hby dj42_139_22) (fun _ _ => ⟨rfl, rfl, (by decide : 2 + 0 ≤ _), (by decide : 5 + 0 ≤ _)⟩)
  dsimp only [Pt.U, Pt.locs, Pt.cells, Pt.slots] at X133 l133 y133 z133 st133 hQ133
  subst l133 y133 z133
  obtain ⟨rfl, N133q, K133, f133_0, f133_1, f133_2⟩ := hQ133
  have N133 := Fr.app N131 N133q
  have z133 : T131.heap.size ≤ T133.heap.size := K133.1
  have lt133_0 : @LT.lt Nat _ b128 T133.heap.size := f133_0.lt
  have lt133_1 : @LT.lt Nat _ b128 T133.heap.size := f133_1.lt
  have lt133_2 : @LT.lt Nat _ b128 T133.heap.size := f133_2.lt
  refine own_Go.tr st133 ?_
  show own_Go _ _ _ _ (T133.setTop (mkF m 25 #[.val (.int p1)] [(.ref b128)]))
  obtain ⟨fs138, hr138, hrun138, hend138, hW138, hsm138⟩ := X133.leave (v := some (.ref b128)) (fun h => by rw [Bd.returns] at h; cases h)
  have K139 : Keep h0 h128 [] := (Keep.refl h0 []).ext E128
  have K140 : Keep h0 T131.heap [] := K139.trans K131 all0
  have K141 : Keep h0 T133.heap [] := K140.trans K133 (allS (Or.inr (by omega)) all0)
  subst hPP
  refine ⟨_, _, own_retA X133 hx Bd.returns rfl rfl (hb hby dj42_139_25) hr138, hrun138, hend138, _, _, rfl, ?_, ⟨_, rfl⟩, hW138, hsm138.mono (by decide) (by decide)⟩
  · show Q_valueOfC Z _ _ h0 _ T133.heap _
    exact ⟨b128, rfl, N133, K141, f133_0⟩
theorem ef_42 (m : MethodId) (x0 : Nat) (x1 : Nat) (x2 : Int32) (x3 : Int32) : entryFrame m #[(.ref x0), (.ref x1), (.int x2), (.int x3), .null] 6 = mkF m 0 #[.val (.ref x0), .val (.ref x1), .val (.int x2), .val (.int x3), .val .null, .unset] [] := by first | (simp [entryFrame, mkF, argsToLocals, Value.category]; done) | rfl
theorem dj42_149_0 : decode jdk_42_method_149_code 0 = .ok (.aload_n 0, 1) := by decide +kernel
theorem dj42_149_1 : decode jdk_42_method_149_code 1 = .ok (.invokespecial 1, 3) := by decide +kernel
theorem dj42_149_4 : decode jdk_42_method_149_code 4 = .ok (.iload_n 3, 1) := by decide +kernel
theorem dj42_149_5 : decode jdk_42_method_149_code 5 = .ok (.ifCond .ne 22, 3) := by decide +kernel
theorem dj42_149_8 : decode jdk_42_method_149_code 8 = .ok (.aload_n 0, 1) := by decide +kernel
theorem dj42_149_9 : decode jdk_42_method_149_code 9 = .ok (.ldc 7, 2) := by decide +kernel
theorem dj42_149_11 : decode jdk_42_method_149_code 11 = .ok (.getfield 9, 3) := by decide +kernel
theorem dj42_149_14 : decode jdk_42_method_149_code 14 = .ok (.putfield 9, 3) := by decide +kernel
theorem dj42_149_17 : decode jdk_42_method_149_code 17 = .ok (.aload_n 0, 1) := by decide +kernel
theorem dj42_149_18 : decode jdk_42_method_149_code 18 = .ok (.ldc 7, 2) := by decide +kernel
theorem dj42_149_20 : decode jdk_42_method_149_code 20 = .ok (.getfield 15, 3) := by decide +kernel
theorem dj42_149_23 : decode jdk_42_method_149_code 23 = .ok (.putfield 15, 3) := by decide +kernel
theorem dj42_149_26 : decode jdk_42_method_149_code 26 = .ok (.return_, 1) := by decide +kernel
def Q_init4e (Z : State) (a1 : Nat) (a2 : Nat) (h0 : Heap) (v : Option Value) (h : Heap) (L : List Loc) : Prop := ∃ (t : Nat), v = none ∧ Fr Z.heap.size L ∧ Keep h0 h [a1] ∧ own_Str Z h a1 t []
set_option maxRecDepth 65536 in
set_option maxHeartbeats 40000000 in
theorem rm_init4e (l : Launch) (Z : State) (a0 : Array Value) (hw : ∀ d ∈ tables_1, d.before a0 Z = true) (ws : List Jvm.Cond) (a1 : Nat) (a2 : Nat) (h0 : Heap) (hEL : EW Z a0 consts_1) (OL : Old Z Z.heap.size h0) (p0_ : Exa Z h0 a1 "java/lang/String") (p1_ : Fld Z h0 a1 "java/lang/String" "value" "[B" .null) (p2_ : Fld Z h0 a1 "java/lang/String" "coder" "B" (.int (0 : Int32))) (hn0 : Z.heap.size ≤ a1) :
    MetFree l mN7 (head1 (Jvm.Cond.code mN7 jdk_42_method_149_code 6 none :: ws) rM7) (fun a U => a = #[(.ref a1), (.ref a2), (.int (0 : Int32)), (.int (0 : Int32)), .null] ∧ Z.Warmed39 U.vm ∧ U.heap = h0 ∧ CHv Z consts_1 U.vm h0) (fun _ _ _ _ _ => True) (fun _ U o U' => ∃ v L, o = .returned v ∧ Q_init4e Z a1 a2 h0 v U'.heap L ∧ CHr Z consts_1 U.vm U.heap U'.vm U'.heap ∧ ReturnedEndW U o U' L rM7.cells rM7.slots) := by
  refine MetFree.of_bodySF (plainFor_of_name pn_16) hisR ?_
  intro p e s m args below meth c s₁ Bd hml0 hP hK
  obtain ⟨rfl, hZ, hh, hC0⟩ := hP
  have hx := Bd.exec
  have hby := Bd.bytes
  have hml : c.maxLocals = 6 := hml0
  have hown : s.vm.findClass "java/lang/String" = some m.cls := findClass_of_methodNamed Bd.named
  have hnm := (name_of_methodNamed Bd.named Bd.method).1
  have X0 : Stand p l e rM7 (s.setVm s.vm) m #[(.ref a1), (.ref a2), (.int (0 : Int32)), (.int (0 : Int32)), .null] below meth c s₁ [] 0 0 := Stand.of_body Bd
  have e0 : s₁.heap = h0 := by rw [← hh, Bd.state]; rfl
  have N0 := Fr.nil Z.heap.size
  have Z0 : Z.heap.size ≤ h0.size := OL.2.1
  have hS0 : s.Since s.vm h0.size := (State.WarmedH.refl s).since _
  have wS := own_wS hw
  have R0 : CHr Z consts_1 s.vm h0 s.vm h0 := CHr.refl hC0
  have lt_0 : @LT.lt Nat _ a1 h0.size := p0_.lt
  have lt_1 : @LT.lt Nat _ a1 h0.size := p1_.lt
  have lt_2 : @LT.lt Nat _ a1 h0.size := p2_.lt
  show own_Go p.tables e below (fun o tE => ∃ v L, o = .returned v ∧ Q_init4e Z a1 a2 h0 v tE.heap L ∧ CHr Z consts_1 s.vm s.heap tE.vm tE.heap ∧ ReturnedEndW s o tE L rM7.cells rM7.slots) (s₁.setTop (entryFrame m #[(.ref a1), (.ref a2), (.int (0 : Int32)), (.int (0 : Int32)), .null] 6))
  refine own_hd (fun PP hPP => ?_)
  refine own_Go.st (fun t k => castTop (ef_42 m a1 a2 (0 : Int32) (0 : Int32)) k) ?_
  refine own_Go.st (fun _ k => XS.aloadN X0.here hx rfl (hb hby dj42_149_0) rfl rfl k) ?_
  show own_Go _ _ _ _ (s₁.setTop (mkF m 1 #[.val (.ref a1), .val (.ref a2), .val (.int (0 : Int32)), .val (.int (0 : Int32)), .val .null, .unset] [(.ref a1)]))
  obtain ⟨T142, X142, e142, st142⟩ := initO X0 hx hZ hown (own_w hw 11 rfl) (own_w hw 12 rfl) (own_w hw 13 rfl) e0 (g := (mkF m 1 #[.val (.ref a1), .val (.ref a2), .val (.int (0 : Int32)), .val (.int (0 : Int32)), .val .null, .unset] [(.ref a1)])) rfl (by rw [hml]; rfl) rfl (hb hby dj42_149_1) (by decide) (W := 0) (by show 2 * 0 + _ ≤ _; exact Nat.le_of_eq rfl) (by decide)
  refine own_Go.st st142 ?_
  refine own_Go.st (fun _ k => XS.iloadN X142.here hx rfl (hb hby dj42_149_4) rfl k) ?_
  show own_Go _ _ _ _ (T142.setTop (mkF m 5 #[.val (.ref a1), .val (.ref a2), .val (.int (0 : Int32)), .val (.int (0 : Int32)), .val .null, .unset] [(.int (0 : Int32))]))
  refine own_Go.st (fun _ k => XS.ifNo X142.here hx rfl (hb hby dj42_149_5) rfl ((if0 _ _).trans (teq (rfl : (0 : Int32) = (0 : Int32))).2) k) ?_
  refine own_Go.st (fun _ k => XS.aloadN X142.here hx rfl (hb hby dj42_149_8) rfl rfl k) ?_
  show own_Go _ _ _ _ (T142.setTop (mkF m 9 #[.val (.ref a1), .val (.ref a2), .val (.int (0 : Int32)), .val (.int (0 : Int32)), .val .null, .unset] [(.ref a1)]))
  obtain ⟨a143, T143, h143, kk143, t143, kb143, X143, e143, E143, hS143, hk143, hZ143, hown143, A143, C143, V143, B143, la143, lb143, ch143, Li143, sf143, st143⟩ := ldcCH X142 hx hZ hown (own_w hw 44 rfl) wS e142 hS0 (by omega) hEL (by decide) R0.1 (vs := []) (z := (0 : Int32)) (by decide) (by decide) (by decide) (g := (mkF m 9 #[.val (.ref a1), .val (.ref a2), .val (.int (0 : Int32)), .val (.int (0 : Int32)), .val .null, .unset] [(.ref a1)])) rfl (hb hby dj42_149_9) (n := 0) (by decide) (by decide) (by decide) (by decide)
  refine own_Go.st st143 ?_
  have z143 : h0.size ≤ h143.size := E143.1
  have la143' : @LT.lt Nat _ a143 h143.size := la143
  have lb143' : @LT.lt Nat _ t143 h143.size := lb143
  have R143 : CHr Z consts_1 s.vm h0 T143.vm h143 := R0.trans ch143
  have fT143 : own_Str Z h143 a143 t143 ([] : List Int32) := ⟨kb143, 0, (0 : Int32), [], A143, V143, C143, B143, Or.inl ⟨rfl, rfl, rfl, (by decide)⟩, (by decide), (by decide)⟩
  show own_Go _ _ _ _ (T143.setTop (mkF m 11 #[.val (.ref a1), .val (.ref a2), .val (.int (0 : Int32)), .val (.int (0 : Int32)), .val .null, .unset] [(.ref a143), (.ref a1)]))
  obtain ⟨T144, X144, e144, st144⟩ := getF X143 hx hZ143 hown143 (host := "") (Or.inl (own_w hw 28 rfl)) Via.refl e143 V143 (g := (mkF m 11 #[.val (.ref a1), .val (.ref a2), .val (.int (0 : Int32)), .val (.int (0 : Int32)), .val .null, .unset] [(.ref a143), (.ref a1)])) rfl rfl (hb hby dj42_149_11)
  refine own_Go.st st144 ?_
  show own_Go _ _ _ _ (T144.setTop (mkF m 14 #[.val (.ref a1), .val (.ref a2), .val (.int (0 : Int32)), .val (.int (0 : Int32)), .val .null, .unset] [(.ref t143), (.ref a1)]))
  have f145 : Fld Z h143 a1 "java/lang/String" "value" "[B" .null := p1_.ext E143
  have f146 : Exa Z h143 a1 "java/lang/String" := p0_.ext E143
  obtain ⟨T147, h147, X147, e147, W147, st147⟩ := putF X144 hx hZ143 hown143 (host := "") (Or.inl (own_w hw 28 rfl)) Via.refl e144 f145 f146 (Or.inr ⟨(own_w hw 29 rfl), rfl, hnm⟩) (own_w hw 1 rfl) (ty := (.array .byte)) (by decide) rfl rfl (g := (mkF m 14 #[.val (.ref a1), .val (.ref a2), .val (.int (0 : Int32)), .val (.int (0 : Int32)), .val .null, .unset] [(.ref t143), (.ref a1)])) rfl rfl (hb hby dj42_149_14)
  refine own_Go.st st147 ?_
  have N147 := Fr.snoc X147 N0 (by omega)
  have Sf149 : Safe Z consts_1 T143.vm h143 a1 := own_safeNull hZ143.alike f146 f145
  have z147 : h143.size ≤ h147.size := Nat.le_of_eq W147.size.symm
  have f148 : Fld Z h147 a1 "java/lang/String" "value" "[B" (.ref t143) := f145.same W147
  have R147 : CHr Z consts_1 s.vm h0 T143.vm h147 := R143.trans (CHr.wr W147 Sf149 R143.1)
  have Sf150 : Safe Z consts_1 T143.vm h147 a1 := Safe.wr W147 Sf149 R143.1 Sf149
  refine own_Go.st (fun _ k => XS.aloadN X147.here hx rfl (hb hby dj42_149_17) rfl rfl k) ?_
  show own_Go _ _ _ _ (T147.setTop (mkF m 18 #[.val (.ref a1), .val (.ref a2), .val (.int (0 : Int32)), .val (.int (0 : Int32)), .val .null, .unset] [(.ref a1)]))
  obtain ⟨a151, T151, h151, kk151, t151, kb151, X151, e151, E151, hS151, hk151, hZ151, hown151, A151, C151, V151, B151, la151, lb151, ch151, Li151, sf151, st151⟩ := ldcCH X147 hx hZ143 hown143 (own_w hw 44 rfl) wS e147 hS143 (by omega) hEL (by decide) R147.1 (vs := []) (z := (0 : Int32)) (by decide) (by decide) (by decide) (g := (mkF m 18 #[.val (.ref a1), .val (.ref a2), .val (.int (0 : Int32)), .val (.int (0 : Int32)), .val .null, .unset] [(.ref a1)])) rfl (hb hby dj42_149_18) (n := 0) (by decide) (by decide) (by decide) (by decide)
  refine own_Go.st st151 ?_
  have z151 : h147.size ≤ h151.size := E151.1
  have la151' : @LT.lt Nat _ a151 h151.size := la151
  have lb151' : @LT.lt Nat _ t151 h151.size := lb151
  have R151 : CHr Z consts_1 s.vm h0 T151.vm h151 := R147.trans ch151
  have Sf152 : Safe Z consts_1 T151.vm h151 a1 := ch151.safe (by show @LT.lt Nat _ a1 _; omega) Sf150
  have fT151 : own_Str Z h151 a151 t151 ([] : List Int32) := ⟨kb151, 0, (0 : Int32), [], A151, V151, C151, B151, Or.inl ⟨rfl, rfl, rfl, (by decide)⟩, (by decide), (by decide)⟩
  have nl153 := sf151 a1 Sf152
  have nl153a : @Ne Nat a1 a151 := nl153.1
  have nl153b : @Ne Nat a1 t151 := nl153.2
  show own_Go _ _ _ _ (T151.setTop (mkF m 20 #[.val (.ref a1), .val (.ref a2), .val (.int (0 : Int32)), .val (.int (0 : Int32)), .val .null, .unset] [(.ref a151), (.ref a1)]))
  obtain ⟨T154, X154, e154, st154⟩ := getF X151 hx hZ151 hown151 (host := "") (Or.inl (own_w hw 26 rfl)) Via.refl e151 C151 (g := (mkF m 20 #[.val (.ref a1), .val (.ref a2), .val (.int (0 : Int32)), .val (.int (0 : Int32)), .val .null, .unset] [(.ref a151), (.ref a1)])) rfl rfl (hb hby dj42_149_20)
  refine own_Go.st st154 ?_
  show own_Go _ _ _ _ (T154.setTop (mkF m 23 #[.val (.ref a1), .val (.ref a2), .val (.int (0 : Int32)), .val (.int (0 : Int32)), .val .null, .unset] [(.int 0), (.ref a1)]))
  have f155 : Fld Z h143 a1 "java/lang/String" "coder" "B" (.int (0 : Int32)) := p2_.ext E143
  have f156 : Fld Z h147 a1 "java/lang/String" "coder" "B" (.int (0 : Int32)) := f155.other W147 (Or.inr (slot_ne (Or.inr (own_w hw 27 rfl)) (Or.inr (own_w hw 29 rfl)) (by decide) (t := .byte) (t' := (.array .byte)) (by decide) (by decide)))
  have f157 : Fld Z h151 a1 "java/lang/String" "coder" "B" (.int (0 : Int32)) := f156.ext E151
  have f158 : Exa Z h147 a1 "java/lang/String" := f146.wr W147
  have f159 : Exa Z h151 a1 "java/lang/String" := f158.ext E151
  obtain ⟨T160, h160, X160, e160, W160, st160⟩ := putF X154 hx hZ151 hown151 (host := "") (Or.inl (own_w hw 26 rfl)) Via.refl e154 f157 f159 (Or.inr ⟨(own_w hw 27 rfl), rfl, hnm⟩) (own_w hw 1 rfl) (ty := .byte) (by decide) rfl (by decide) (g := (mkF m 23 #[.val (.ref a1), .val (.ref a2), .val (.int (0 : Int32)), .val (.int (0 : Int32)), .val .null, .unset] [(.int 0), (.ref a1)])) rfl rfl (hb hby dj42_149_23)
  refine own_Go.st st160 ?_
  have N160 := Fr.snoc X160 N147 (by omega)
  have z160 : h151.size ≤ h160.size := Nat.le_of_eq W160.size.symm
  have f161 : Fld Z h160 a1 "java/lang/String" "coder" "B" (.int 0) := f157.same W160
  have R160 : CHr Z consts_1 s.vm h0 T151.vm h160 := R151.trans (CHr.wr W160 Sf152 R151.1)
  have Sf162 : Safe Z consts_1 T151.vm h160 a1 := Safe.wr W160 Sf152 R151.1 Sf152
  show own_Go _ _ _ _ (T160.setTop (mkF m 26 #[.val (.ref a1), .val (.ref a2), .val (.int (0 : Int32)), .val (.int (0 : Int32)), .val .null, .unset] []))
  obtain ⟨fs163, hr163, hrun163, hend163, hret163⟩ := X160.leaveW hS151 (by rw [e160]; exact (by omega)) (v := none) (fun _ => rfl)
  have f164 : Fld Z h151 a1 "java/lang/String" "value" "[B" (.ref t143) := f148.ext E151
  have f165 : Fld Z h160 a1 "java/lang/String" "value" "[B" (.ref t143) := f164.other W160 (Or.inr (slot_ne (Or.inr (own_w hw 29 rfl)) (Or.inr (own_w hw 27 rfl)) (by decide) (t := (.array .byte)) (t' := .byte) (by decide) (by decide)))
  have f166 : Exa Z h160 a1 "java/lang/String" := f159.wr W160
  have ne167 : @Ne Nat a1 t143 := Exa.neArv f146 B143 (own_w hw 1 rfl)
  have f168 : Arv Z h147 t143 kb143 .byte (0 : Int32) [] (.int 0) := B143.other W147 (Ne.symm ne167)
  have f169 : Arv Z h151 t143 kb143 .byte (0 : Int32) [] (.int 0) := f168.ext E151
  have f170 : Arv Z h160 t143 kb143 .byte (0 : Int32) [] (.int 0) := f169.other W160 (Ne.symm ne167)
  have K171 : Keep h0 h143 [a1] := (Keep.refl h0 [a1]).ext E143
  have K172 : Keep h0 h147 [a1] := K171.wr W147 (Or.inl (List.mem_of_getElem? (i := 0) rfl))
  have K173 : Keep h0 h151 [a1] := K172.ext E151
  have K174 : Keep h0 h160 [a1] := K173.wr W160 (Or.inl (List.mem_of_getElem? (i := 0) rfl))
  subst hPP
  refine ⟨_, _, X160.returnOut hx Bd.returns (hb hby dj42_149_26) hr163, hrun163, hend163, _, _, rfl, ?_, ?_, hret163.1, hret163.2.1, hret163.2.2.1, hret163.2.2.2.mono (by decide) (by decide)⟩
  · show Q_init4e Z _ _ h0 _ T160.heap _
    rw [e160]
    exact ⟨t143, rfl, N160, K174, ⟨kb143, 0, 0, [], f166, f165, f161, f170, Or.inl ⟨rfl, rfl, rfl, own_a0⟩, own_a0, by decide⟩⟩
  · have hfin := R160.trans (CHv.at X160 hZ151 hEL R160.1)
    rw [← hh] at hfin
    show CHr Z consts_1 s.vm s.heap T160.vm T160.heap
    rw [e160]
    exact hfin
theorem ef_56 (m : MethodId) (x0 : Nat) (x1 : Nat) : entryFrame m #[(.ref x0), (.ref x1)] 2 = mkF m 0 #[.val (.ref x0), .val (.ref x1)] [] := by first | (simp [entryFrame, mkF, argsToLocals, Value.category]; done) | rfl
theorem dj42_3_0 : decode jdk_42_method_3_code 0 = .ok (.aload_n 0, 1) := by decide +kernel
theorem dj42_3_1 : decode jdk_42_method_3_code 1 = .ok (.aload_n 1, 1) := by decide +kernel
theorem dj42_3_2 : decode jdk_42_method_3_code 2 = .ok (.iconst 0, 1) := by decide +kernel
theorem dj42_3_3 : decode jdk_42_method_3_code 3 = .ok (.aload_n 1, 1) := by decide +kernel
theorem dj42_3_4 : decode jdk_42_method_3_code 4 = .ok (.arraylength, 1) := by decide +kernel
theorem dj42_3_5 : decode jdk_42_method_3_code 5 = .ok (.aconst_null, 1) := by decide +kernel
theorem pd_63 : parseMethodDescriptor "([CIILjava/lang/Void;)V" = some ⟨[(.array .char), .int, .int, (.object "java/lang/Void")], none⟩ := by decide +kernel
theorem dj42_3_6 : decode jdk_42_method_3_code 6 = .ok (.invokespecial 27, 3) := by decide +kernel
theorem dj42_3_9 : decode jdk_42_method_3_code 9 = .ok (.return_, 1) := by decide +kernel
def Q_init1e (Z : State) (a1 : Nat) (a2 : Nat) (k : ClassId) (vs : List Value) (d : Value) (h0 : Heap) (v : Option Value) (h : Heap) (L : List Loc) : Prop := ∃ (t : Nat), v = none ∧ Fr Z.heap.size L ∧ Keep h0 h [a1] ∧ own_Str Z h a1 t []
set_option maxRecDepth 65536 in
set_option maxHeartbeats 40000000 in
theorem rm_init1e (l : Launch) (Z : State) (a0 : Array Value) (hw : ∀ d ∈ tables_1, d.before a0 Z = true) (ws : List Jvm.Cond) (a1 : Nat) (a2 : Nat) (k : ClassId) (vs : List Value) (d : Value) (h0 : Heap) (hEL : EW Z a0 consts_1) (OL : Old Z Z.heap.size h0) (p0_ : Exa Z h0 a1 "java/lang/String") (p1_ : Fld Z h0 a1 "java/lang/String" "value" "[B" .null) (p2_ : Fld Z h0 a1 "java/lang/String" "coder" "B" (.int (0 : Int32))) (p3_ : Arv Z h0 a2 k .char (0 : Int32) vs d) (hn0 : Z.heap.size ≤ a1) :
    MetFree l mN6 (head1 (Jvm.Cond.code mN6 jdk_42_method_3_code 2 none :: ws) rM12) (fun a U => a = #[(.ref a1), (.ref a2)] ∧ Z.Warmed39 U.vm ∧ U.heap = h0 ∧ CHv Z consts_1 U.vm h0) (fun _ _ _ _ _ => True) (fun _ U o U' => ∃ v L, o = .returned v ∧ Q_init1e Z a1 a2 k vs d h0 v U'.heap L ∧ CHr Z consts_1 U.vm U.heap U'.vm U'.heap ∧ ReturnedEndW U o U' L rM12.cells rM12.slots) := by
  refine MetFree.of_bodySF (plainFor_of_name pn_16) hisR ?_
  intro p e s m args below meth c s₁ Bd hml0 hP hK
  obtain ⟨rfl, hZ, hh, hC0⟩ := hP
  have hx := Bd.exec
  have hby := Bd.bytes
  have hml : c.maxLocals = 2 := hml0
  have hown : s.vm.findClass "java/lang/String" = some m.cls := findClass_of_methodNamed Bd.named
  have hnm := (name_of_methodNamed Bd.named Bd.method).1
  have X0 : Stand p l e rM12 (s.setVm s.vm) m #[(.ref a1), (.ref a2)] below meth c s₁ [] 0 0 := Stand.of_body Bd
  have e0 : s₁.heap = h0 := by rw [← hh, Bd.state]; rfl
  have N0 := Fr.nil Z.heap.size
  have Z0 : Z.heap.size ≤ h0.size := OL.2.1
  have hS0 : s.Since s.vm h0.size := (State.WarmedH.refl s).since _
  have wS := own_wS hw
  have R0 : CHr Z consts_1 s.vm h0 s.vm h0 := CHr.refl hC0
  have lt_0 : @LT.lt Nat _ a1 h0.size := p0_.lt
  have lt_1 : @LT.lt Nat _ a1 h0.size := p1_.lt
  have lt_2 : @LT.lt Nat _ a1 h0.size := p2_.lt
  have lt_3 : @LT.lt Nat _ a2 h0.size := p3_.lt
  show own_Go p.tables e below (fun o tE => ∃ v L, o = .returned v ∧ Q_init1e Z a1 a2 k vs d h0 v tE.heap L ∧ CHr Z consts_1 s.vm s.heap tE.vm tE.heap ∧ ReturnedEndW s o tE L rM12.cells rM12.slots) (s₁.setTop (entryFrame m #[(.ref a1), (.ref a2)] 2))
  refine own_hd (fun PP hPP => ?_)
  refine own_Go.st (fun t k => castTop (ef_56 m a1 a2) k) ?_
  refine own_Go.st (fun _ k => XS.aloadN X0.here hx rfl (hb hby dj42_3_0) rfl rfl (XS.aloadN X0.here hx rfl (hb hby dj42_3_1) rfl rfl (XS.iconst X0.here hx rfl (hb hby dj42_3_2) (XS.aloadN X0.here hx rfl (hb hby dj42_3_3) rfl rfl k)))) ?_
  show own_Go _ _ _ _ (s₁.setTop (mkF m 4 #[.val (.ref a1), .val (.ref a2)] [(.ref a2), (.int (0 : Int32)), (.ref a2), (.ref a1)]))
  obtain ⟨c175, Ar175, q175, S175, Nn175, H175, G175⟩ := id p3_
  refine own_Go.st (X0.arraylength hx (own_rwE e0 Ar175.1) (State.isArrayOf_alike hZ.alike Ar175.2.1) (g := (mkF m 4 #[.val (.ref a1), .val (.ref a2)] [(.ref a2), (.int (0 : Int32)), (.ref a2), (.ref a1)])) rfl rfl (hb hby dj42_3_4)) ?_
  rw [len_of S175 Nn175]
  refine own_Go.st (fun _ k => XS.aconstNull X0.here hx rfl (hb hby dj42_3_5) k) ?_
  show own_Go _ _ _ _ (s₁.setTop (mkF m 6 #[.val (.ref a1), .val (.ref a2)] [.null, (.int (0 : Int32)), (.int (0 : Int32)), (.ref a2), (.ref a1)]))
  obtain ⟨_, _, ⟨T176, L176, k176, n176⟩, -, X176, hs176, hg176, ⟨Lc176, hQ176, l176, y176, z176, ch176⟩, st176⟩ := X0.specialBackS hx (y := mN7) rfl hown (own_v hZ hw 7 rfl) (own_v hZ hw 8 rfl) (own_v hZ hw 10 rfl) (by decide) (backOfSH (s := s) (vm0 := s.vm) (W := 0) (rm_init4e l Z a0 hw [] a1 a2 h0 hEL OL p0_ p1_ p2_ hn0) hZ (own_w hw 10 rfl) (own_w hw 2 rfl) (by decide) (by decide) hEL R0.1) (g := (mkF m 6 #[.val (.ref a1), .val (.ref a2)] [.null, (.int (0 : Int32)), (.int (0 : Int32)), (.ref a2), (.ref a1)])) rfl (by rw [hml]; rfl) (Steps.refl _) (a := a1) (argsL := [(.ref a2), (.int (0 : Int32)), (.int (0 : Int32)), .null]) (rest := []) (lenOf pd_63 rfl) rfl (by show 2 * 0 + _ ≤ _; exact Nat.le_of_eq rfl) (hb hby dj42_3_6) (fun _ _ => ⟨rfl, e0, (by decide : 0 + 4 ≤ _), (by decide : 0 + 8 ≤ _)⟩)
  dsimp only [Pt.U, Pt.locs, Pt.cells, Pt.slots] at X176 l176 y176 z176 st176 hQ176 hs176 hg176 ch176
  subst l176 y176 z176
  obtain ⟨t_176, rfl, N176q, K176, f176_0⟩ := hQ176
  have N176 := Fr.app N0 N176q
  obtain ⟨Y176, hS176, hZ176, hown176⟩ := rebS hS0 (n1 := h0.size) (by omega) X176 hs176 (by have := hg176; first | exact this | (rw [← e0]; exact this)) hZ hown
  have z176 : h0.size ≤ T176.heap.size := K176.1
  have R176 : CHr Z consts_1 s.vm h0 T176.vm T176.heap := R0.trans ch176
  have lt176_0 : @LT.lt Nat _ a1 T176.heap.size := f176_0.lt
  have ltv176_0 : @LT.lt Nat _ t_176 T176.heap.size := f176_0.ltv
  refine own_Go.tr st176 ?_
  show own_Go _ _ _ _ (T176.setTop (mkF m 9 #[.val (.ref a1), .val (.ref a2)] []))
  obtain ⟨fs177, hr177, hrun177, hend177, hret177⟩ := Y176.leaveW hS176 (by omega) (v := none) (fun _ => rfl)
  have K178 : Keep h0 T176.heap [a1] := (Keep.refl h0 [a1]).trans K176 (allS (Or.inl (List.mem_of_getElem? (i := 0) rfl)) all0)
  subst hPP
  refine ⟨_, _, Y176.returnOut hx Bd.returns (hb hby dj42_3_9) hr177, hrun177, hend177, _, _, rfl, ?_, ?_, hret177.1, hret177.2.1, hret177.2.2.1, hret177.2.2.2.mono (by decide) (by decide)⟩
  · show Q_init1e Z _ _ _ _ _ h0 _ T176.heap _
    exact ⟨t_176, rfl, N176, K178, f176_0⟩
  · have hfin := R176.trans (CHv.at Y176 hZ176 hEL R176.1)
    rw [← hh] at hfin
    show CHr Z consts_1 s.vm s.heap T176.vm T176.heap
    exact hfin
theorem pn_66 : plainName "java/util/AbstractCollection" = true := by first | (simp [plainName, overriddenIn]; done) | decide +kernel
theorem ef_67 (m : MethodId) (x0 : Nat) : entryFrame m #[(.ref x0)] 1 = mkF m 0 #[.val (.ref x0)] [] := by first | (simp [entryFrame, mkF, argsToLocals, Value.category]; done) | rfl
theorem dj22_1_0 : decode jdk_22_method_1_code 0 = .ok (.aload_n 0, 1) := by decide +kernel
theorem dj22_1_1 : decode jdk_22_method_1_code 1 = .ok (.invokespecial 1, 3) := by decide +kernel
theorem dj22_1_4 : decode jdk_22_method_1_code 4 = .ok (.return_, 1) := by decide +kernel
def Q_acinit (Z : State) (a1 : Nat) (h0 : Heap) (v : Option Value) (h : Heap) (L : List Loc) : Prop := v = none ∧ Fr Z.heap.size L ∧ h = h0
set_option maxRecDepth 65536 in
set_option maxHeartbeats 40000000 in
theorem rm_acinit (l : Launch) (Z : State) (a0 : Array Value) (hw : ∀ d ∈ tables_1, d.before a0 Z = true) (ws : List Jvm.Cond) (a1 : Nat) (h0 : Heap) (OL : Old Z Z.heap.size h0) :
    MetFree l mN11 (head1 (Jvm.Cond.code mN11 jdk_22_method_1_code 1 none :: ws) rM2) (fun a U => a = #[(.ref a1)] ∧ Z.Warmed39 U.vm ∧ U.heap = h0) (fun _ _ _ _ _ => True) (fun _ U o U' => ∃ v L, o = .returned v ∧ Q_acinit Z a1 h0 v U'.heap L ∧ FrameEnd U o U' L rM2.cells rM2.slots) := by
  refine MetFree.of_bodySF (plainFor_of_name pn_66) hisR ?_
  intro p e s m args below meth c s₁ Bd hml0 hP hK
  obtain ⟨rfl, hZ, hh⟩ := hP
  have hx := Bd.exec
  have hby := Bd.bytes
  have hml : c.maxLocals = 1 := hml0
  have hown : s.vm.findClass "java/util/AbstractCollection" = some m.cls := findClass_of_methodNamed Bd.named
  have hnm := (name_of_methodNamed Bd.named Bd.method).1
  have X0 : Stand p l e rM2 s m #[(.ref a1)] below meth c s₁ [] 0 0 := Stand.of_body Bd
  have e0 : s₁.heap = h0 := by rw [← hh, Bd.state]; rfl
  have N0 := Fr.nil Z.heap.size
  have Z0 : Z.heap.size ≤ h0.size := OL.2.1
  show own_Go p.tables e below (fun o tE => ∃ v L, o = .returned v ∧ Q_acinit Z a1 h0 v tE.heap L ∧ FrameEnd s o tE L rM2.cells rM2.slots) (s₁.setTop (entryFrame m #[(.ref a1)] 1))
  refine own_hd (fun PP hPP => ?_)
  refine own_Go.st (fun t k => castTop (ef_67 m a1) k) ?_
  refine own_Go.st (fun _ k => XS.aloadN X0.here hx rfl (hb hby dj22_1_0) rfl rfl k) ?_
  show own_Go _ _ _ _ (s₁.setTop (mkF m 1 #[.val (.ref a1)] [(.ref a1)]))
  obtain ⟨T179, X179, e179, st179⟩ := initO X0 hx hZ hown (own_w hw 65 rfl) (own_w hw 12 rfl) (own_w hw 13 rfl) e0 (g := (mkF m 1 #[.val (.ref a1)] [(.ref a1)])) rfl (by rw [hml]; rfl) rfl (hb hby dj22_1_1) (by decide) (W := 0) (by show 2 * 0 + _ ≤ _; exact Nat.le_of_eq rfl) (by decide)
  refine own_Go.st st179 ?_
  show own_Go _ _ _ _ (T179.setTop (mkF m 4 #[.val (.ref a1)] []))
  obtain ⟨fs180, hr180, hrun180, hend180, hW180, hsm180⟩ := X179.leave (v := none) (fun _ => rfl)
  subst hPP
  refine ⟨_, _, X179.returnOut hx Bd.returns (hb hby dj22_1_4) hr180, hrun180, hend180, _, _, rfl, ?_, ⟨_, rfl⟩, hW180, hsm180.mono (by decide) (by decide)⟩
  · show Q_acinit Z _ h0 _ T179.heap _
    rw [e179]
    exact ⟨rfl, N0, rfl⟩
theorem pn_71 : plainName "java/util/AbstractList" = true := by first | (simp [plainName, overriddenIn]; done) | decide +kernel
theorem dj39_1_0 : decode jdk_39_method_1_code 0 = .ok (.aload_n 0, 1) := by decide +kernel
theorem pd_73 : parseMethodDescriptor "()V" = some ⟨[], none⟩ := by decide +kernel
theorem dj39_1_1 : decode jdk_39_method_1_code 1 = .ok (.invokespecial 1, 3) := by decide +kernel
theorem dj39_1_4 : decode jdk_39_method_1_code 4 = .ok (.aload_n 0, 1) := by decide +kernel
theorem dj39_1_5 : decode jdk_39_method_1_code 5 = .ok (.iconst 0, 1) := by decide +kernel
theorem dj39_1_6 : decode jdk_39_method_1_code 6 = .ok (.putfield 7, 3) := by decide +kernel
theorem dj39_1_9 : decode jdk_39_method_1_code 9 = .ok (.return_, 1) := by decide +kernel
def Q_alinit0 (Z : State) (a1 : Nat) (h0 : Heap) (v : Option Value) (h : Heap) (L : List Loc) : Prop := v = none ∧ Fr Z.heap.size L ∧ Keep h0 h [a1] ∧ Exa Z h a1 "java/util/ArrayList" ∧ Fld Z h a1 "java/util/AbstractList" "modCount" "I" (.int (0 : Int32)) ∧ Fld Z h a1 "java/util/ArrayList" "size" "I" (.int (0 : Int32)) ∧ Fld Z h a1 "java/util/ArrayList" "elementData" "[Ljava/lang/Object;" .null
set_option maxRecDepth 65536 in
set_option maxHeartbeats 40000000 in
theorem rm_alinit0 (l : Launch) (Z : State) (a0 : Array Value) (hw : ∀ d ∈ tables_1, d.before a0 Z = true) (ws : List Jvm.Cond) (a1 : Nat) (h0 : Heap) (OL : Old Z Z.heap.size h0) (p0_ : Exa Z h0 a1 "java/util/ArrayList") (p1_ : Fld Z h0 a1 "java/util/AbstractList" "modCount" "I" (.int (0 : Int32))) (p2_ : Fld Z h0 a1 "java/util/ArrayList" "size" "I" (.int (0 : Int32))) (p3_ : Fld Z h0 a1 "java/util/ArrayList" "elementData" "[Ljava/lang/Object;" .null) (hn0 : Z.heap.size ≤ a1) :
    MetFree l mN12 (head1 (Jvm.Cond.code mN12 jdk_39_method_1_code 1 none :: ws) rM8) (fun a U => a = #[(.ref a1)] ∧ Z.Warmed39 U.vm ∧ U.heap = h0) (fun _ _ _ _ _ => True) (fun _ U o U' => ∃ v L, o = .returned v ∧ Q_alinit0 Z a1 h0 v U'.heap L ∧ FrameEnd U o U' L rM8.cells rM8.slots) := by
  refine MetFree.of_bodySF (plainFor_of_name pn_71) hisR ?_
  intro p e s m args below meth c s₁ Bd hml0 hP hK
  obtain ⟨rfl, hZ, hh⟩ := hP
  have hx := Bd.exec
  have hby := Bd.bytes
  have hml : c.maxLocals = 1 := hml0
  have hown : s.vm.findClass "java/util/AbstractList" = some m.cls := findClass_of_methodNamed Bd.named
  have hnm := (name_of_methodNamed Bd.named Bd.method).1
  have X0 : Stand p l e rM8 s m #[(.ref a1)] below meth c s₁ [] 0 0 := Stand.of_body Bd
  have e0 : s₁.heap = h0 := by rw [← hh, Bd.state]; rfl
  have N0 := Fr.nil Z.heap.size
  have Z0 : Z.heap.size ≤ h0.size := OL.2.1
  have lt_0 : @LT.lt Nat _ a1 h0.size := p0_.lt
  have lt_1 : @LT.lt Nat _ a1 h0.size := p1_.lt
  have lt_2 : @LT.lt Nat _ a1 h0.size := p2_.lt
  have lt_3 : @LT.lt Nat _ a1 h0.size := p3_.lt
  show own_Go p.tables e below (fun o tE => ∃ v L, o = .returned v ∧ Q_alinit0 Z a1 h0 v tE.heap L ∧ FrameEnd s o tE L rM8.cells rM8.slots) (s₁.setTop (entryFrame m #[(.ref a1)] 1))
  refine own_hd (fun PP hPP => ?_)
  refine own_Go.st (fun t k => castTop (ef_67 m a1) k) ?_
  refine own_Go.st (fun _ k => XS.aloadN X0.here hx rfl (hb hby dj39_1_0) rfl rfl k) ?_
  show own_Go _ _ _ _ (s₁.setTop (mkF m 1 #[.val (.ref a1)] [(.ref a1)]))
  obtain ⟨_, _, ⟨T181, L181, k181, n181⟩, -, X181, ⟨Lc181, hQ181, l181, y181, z181⟩, st181⟩ := X0.specialBack hx (y := mN11) rfl hown (own_v hZ hw 59 rfl) (own_v hZ hw 60 rfl) (own_v hZ hw 64 rfl) (by decide) (backOf (W := 0) (rm_acinit l Z a0 hw [] a1 h0 OL ) hZ (own_w hw 64 rfl) (own_w hw 63 rfl) (by decide) (by decide)) (g := (mkF m 1 #[.val (.ref a1)] [(.ref a1)])) rfl (by rw [hml]; rfl) (Steps.refl _) (a := a1) (argsL := []) (rest := []) (lenOf pd_73 rfl) rfl (by show 2 * 0 + _ ≤ _; exact Nat.le_of_eq rfl) (hb hby dj39_1_1) (fun _ _ => ⟨rfl, e0, (by decide : 0 + 0 ≤ _), (by decide : 0 + 0 ≤ _)⟩)
  dsimp only [Pt.U, Pt.locs, Pt.cells, Pt.slots] at X181 l181 y181 z181 st181 hQ181
  subst l181 y181 z181
  obtain ⟨rfl, N181q, K181⟩ := hQ181
  have N181 := Fr.app N0 N181q
  refine own_Go.tr st181 ?_
  refine own_Go.st (fun _ k => XS.aloadN X181.here hx rfl (hb hby dj39_1_4) rfl rfl (XS.iconst X181.here hx rfl (hb hby dj39_1_5) k)) ?_
  show own_Go _ _ _ _ (T181.setTop (mkF m 6 #[.val (.ref a1)] [(.int (0 : Int32)), (.ref a1)]))
  obtain ⟨T182, h182, X182, e182, W182, st182⟩ := putF X181 hx hZ hown (host := "") (Or.inl (own_w hw 66 rfl)) Via.refl K181 p1_ p0_ (Or.inl (own_w hw 67 rfl)) (own_w hw 48 rfl) (ty := .int) (by decide) rfl rfl (g := (mkF m 6 #[.val (.ref a1)] [(.int (0 : Int32)), (.ref a1)])) rfl rfl (hb hby dj39_1_6)
  refine own_Go.st st182 ?_
  have N182 := Fr.snoc X182 N181 (by omega)
  have z182 : h0.size ≤ h182.size := Nat.le_of_eq W182.size.symm
  have f183 : Fld Z h182 a1 "java/util/AbstractList" "modCount" "I" (.int (0 : Int32)) := p1_.same W182
  show own_Go _ _ _ _ (T182.setTop (mkF m 9 #[.val (.ref a1)] []))
  obtain ⟨fs184, hr184, hrun184, hend184, hW184, hsm184⟩ := X182.leave (v := none) (fun _ => rfl)
  have K185 : Keep h0 h182 [a1] := (Keep.refl h0 [a1]).wr W182 (Or.inl (List.mem_of_getElem? (i := 0) rfl))
  have f186 : Exa Z h182 a1 "java/util/ArrayList" := p0_.wr W182
  have f187 : Fld Z h182 a1 "java/util/ArrayList" "size" "I" (.int (0 : Int32)) := p2_.other W182 (Or.inr (slot_ne (Or.inl (own_w hw 79 rfl)) (Or.inl (own_w hw 67 rfl)) (by decide) (t := .int) (t' := .int) (by decide) (by decide)))
  have f188 : Fld Z h182 a1 "java/util/ArrayList" "elementData" "[Ljava/lang/Object;" .null := p3_.other W182 (Or.inr (slot_ne (Or.inl (own_w hw 70 rfl)) (Or.inl (own_w hw 67 rfl)) (by decide) (t := (.array (.object "java/lang/Object"))) (t' := .int) (by decide) (by decide)))
  subst hPP
  refine ⟨_, _, X182.returnOut hx Bd.returns (hb hby dj39_1_9) hr184, hrun184, hend184, _, _, rfl, ?_, ⟨_, rfl⟩, hW184, hsm184.mono (by decide) (by decide)⟩
  · show Q_alinit0 Z _ h0 _ T182.heap _
    rw [e182]
    exact ⟨rfl, N182, K185, f186, f183, f187, f188⟩
theorem pn_79 : plainName "java/util/ArrayList" = true := by first | (simp [plainName, overriddenIn]; done) | decide +kernel
theorem dj38_2_0 : decode jdk_38_method_2_code 0 = .ok (.aload_n 0, 1) := by decide +kernel
theorem dj38_2_1 : decode jdk_38_method_2_code 1 = .ok (.invokespecial 1, 3) := by decide +kernel
theorem dj38_2_4 : decode jdk_38_method_2_code 4 = .ok (.aload_n 0, 1) := by decide +kernel
theorem dj38_2_5 : decode jdk_38_method_2_code 5 = .ok (.getstatic 39, 3) := by decide +kernel
theorem dj38_2_8 : decode jdk_38_method_2_code 8 = .ok (.putfield 9, 3) := by decide +kernel
theorem dj38_2_11 : decode jdk_38_method_2_code 11 = .ok (.return_, 1) := by decide +kernel
def Q_alinit (Z : State) (a1 : Nat) (ad : Nat) (h0 : Heap) (v : Option Value) (h : Heap) (L : List Loc) : Prop := v = none ∧ Fr Z.heap.size L ∧ Keep h0 h [a1] ∧ Exa Z h a1 "java/util/ArrayList" ∧ Fld Z h a1 "java/util/AbstractList" "modCount" "I" (.int (0 : Int32)) ∧ Fld Z h a1 "java/util/ArrayList" "size" "I" (.int (0 : Int32)) ∧ Fld Z h a1 "java/util/ArrayList" "elementData" "[Ljava/lang/Object;" (.ref ad)
set_option maxRecDepth 65536 in
set_option maxHeartbeats 40000000 in
theorem rm_alinit (l : Launch) (Z : State) (a0 : Array Value) (hw : ∀ d ∈ tables_1, d.before a0 Z = true) (ws : List Jvm.Cond) (a1 : Nat) (ad : Nat) (h0 : Heap) (OL : Old Z Z.heap.size h0) (p0_ : Exa Z h0 a1 "java/util/ArrayList") (p1_ : Fld Z h0 a1 "java/util/AbstractList" "modCount" "I" (.int (0 : Int32))) (p2_ : Fld Z h0 a1 "java/util/ArrayList" "size" "I" (.int (0 : Int32))) (p3_ : Fld Z h0 a1 "java/util/ArrayList" "elementData" "[Ljava/lang/Object;" .null) (st_DEFAULTCAPACITY_EMPTY_ELEMENTDATA : Sta Z Z.heap "java/util/ArrayList" "DEFAULTCAPACITY_EMPTY_ELEMENTDATA" "[Ljava/lang/Object;" (.ref ad)) (hn0 : Z.heap.size ≤ a1) :
    MetFree l mN13 (head1 (Jvm.Cond.code mN13 jdk_38_method_2_code 1 none :: ws) rM14) (fun a U => a = #[(.ref a1)] ∧ Z.Warmed39 U.vm ∧ U.heap = h0) (fun _ _ _ _ _ => True) (fun _ U o U' => ∃ v L, o = .returned v ∧ Q_alinit Z a1 ad h0 v U'.heap L ∧ FrameEnd U o U' L rM14.cells rM14.slots) := by
  refine MetFree.of_bodySF (plainFor_of_name pn_79) hisR ?_
  intro p e s m args below meth c s₁ Bd hml0 hP hK
  obtain ⟨rfl, hZ, hh⟩ := hP
  have hx := Bd.exec
  have hby := Bd.bytes
  have hml : c.maxLocals = 1 := hml0
  have hown : s.vm.findClass "java/util/ArrayList" = some m.cls := findClass_of_methodNamed Bd.named
  have hnm := (name_of_methodNamed Bd.named Bd.method).1
  have X0 : Stand p l e rM14 s m #[(.ref a1)] below meth c s₁ [] 0 0 := Stand.of_body Bd
  have e0 : s₁.heap = h0 := by rw [← hh, Bd.state]; rfl
  have N0 := Fr.nil Z.heap.size
  have Z0 : Z.heap.size ≤ h0.size := OL.2.1
  have lt_0 : @LT.lt Nat _ a1 h0.size := p0_.lt
  have lt_1 : @LT.lt Nat _ a1 h0.size := p1_.lt
  have lt_2 : @LT.lt Nat _ a1 h0.size := p2_.lt
  have lt_3 : @LT.lt Nat _ a1 h0.size := p3_.lt
  show own_Go p.tables e below (fun o tE => ∃ v L, o = .returned v ∧ Q_alinit Z a1 ad h0 v tE.heap L ∧ FrameEnd s o tE L rM14.cells rM14.slots) (s₁.setTop (entryFrame m #[(.ref a1)] 1))
  refine own_hd (fun PP hPP => ?_)
  refine own_Go.st (fun t k => castTop (ef_67 m a1) k) ?_
  refine own_Go.st (fun _ k => XS.aloadN X0.here hx rfl (hb hby dj38_2_0) rfl rfl k) ?_
  show own_Go _ _ _ _ (s₁.setTop (mkF m 1 #[.val (.ref a1)] [(.ref a1)]))
  obtain ⟨_, _, ⟨T189, L189, k189, n189⟩, -, X189, ⟨Lc189, hQ189, l189, y189, z189⟩, st189⟩ := X0.specialBack hx (y := mN12) rfl hown (own_v hZ hw 53 rfl) (own_v hZ hw 54 rfl) (own_v hZ hw 58 rfl) (by decide) (backOf (W := 0) (rm_alinit0 l Z a0 hw [] a1 h0 OL p0_ p1_ p2_ p3_ hn0) hZ (own_w hw 58 rfl) (own_w hw 57 rfl) (by decide) (by decide)) (g := (mkF m 1 #[.val (.ref a1)] [(.ref a1)])) rfl (by rw [hml]; rfl) (Steps.refl _) (a := a1) (argsL := []) (rest := []) (lenOf pd_73 rfl) rfl (by show 2 * 0 + _ ≤ _; exact Nat.le_of_eq rfl) (hb hby dj38_2_1) (fun _ _ => ⟨rfl, e0, (by decide : 0 + 0 ≤ _), (by decide : 0 + 0 ≤ _)⟩)
  dsimp only [Pt.U, Pt.locs, Pt.cells, Pt.slots] at X189 l189 y189 z189 st189 hQ189
  subst l189 y189 z189
  obtain ⟨rfl, N189q, K189, f189_0, f189_1, f189_2, f189_3⟩ := hQ189
  have N189 := Fr.app N0 N189q
  have z189 : h0.size ≤ T189.heap.size := K189.1
  have lt189_0 : @LT.lt Nat _ a1 T189.heap.size := f189_0.lt
  have lt189_1 : @LT.lt Nat _ a1 T189.heap.size := f189_1.lt
  have lt189_2 : @LT.lt Nat _ a1 T189.heap.size := f189_2.lt
  have lt189_3 : @LT.lt Nat _ a1 T189.heap.size := f189_3.lt
  refine own_Go.tr st189 ?_
  refine own_Go.st (fun _ k => XS.aloadN X189.here hx rfl (hb hby dj38_2_4) rfl rfl k) ?_
  show own_Go _ _ _ _ (T189.setTop (mkF m 5 #[.val (.ref a1)] [(.ref a1)]))
  have f190 : Old Z Z.heap.size T189.heap := OL.keep K189 (allS (by omega) all0)
  obtain ⟨T191, X191, e191, st191⟩ := getS2 X189 hx hZ hown (host := "") (Or.inl (own_w hw 68 rfl)) Via.refl rfl (st_DEFAULTCAPACITY_EMPTY_ELEMENTDATA.ext f190.2) (g := (mkF m 5 #[.val (.ref a1)] [(.ref a1)])) rfl (hb hby dj38_2_5)
  refine own_Go.st st191 ?_
  show own_Go _ _ _ _ (T191.setTop (mkF m 8 #[.val (.ref a1)] [(.ref ad), (.ref a1)]))
  obtain ⟨T192, h192, X192, e192, W192, st192⟩ := putF X191 hx hZ hown (host := "") (Or.inl (own_w hw 69 rfl)) Via.refl e191 f189_3 f189_0 (Or.inl (own_w hw 70 rfl)) (own_w hw 48 rfl) (ty := (.array (.object "java/lang/Object"))) (by decide) rfl rfl (g := (mkF m 8 #[.val (.ref a1)] [(.ref ad), (.ref a1)])) rfl rfl (hb hby dj38_2_8)
  refine own_Go.st st192 ?_
  have N192 := Fr.snoc X192 N189 (by omega)
  have z192 : T189.heap.size ≤ h192.size := Nat.le_of_eq W192.size.symm
  have f193 : Fld Z h192 a1 "java/util/ArrayList" "elementData" "[Ljava/lang/Object;" (.ref ad) := f189_3.same W192
  show own_Go _ _ _ _ (T192.setTop (mkF m 11 #[.val (.ref a1)] []))
  obtain ⟨fs194, hr194, hrun194, hend194, hW194, hsm194⟩ := X192.leave (v := none) (fun _ => rfl)
  have K195 : Keep h0 T189.heap [a1] := (Keep.refl h0 [a1]).trans K189 (allS (Or.inl (List.mem_of_getElem? (i := 0) rfl)) all0)
  have K196 : Keep h0 h192 [a1] := K195.wr W192 (Or.inl (List.mem_of_getElem? (i := 0) rfl))
  have f197 : Exa Z h192 a1 "java/util/ArrayList" := f189_0.wr W192
  have f198 : Fld Z h192 a1 "java/util/AbstractList" "modCount" "I" (.int (0 : Int32)) := f189_1.other W192 (Or.inr (slot_ne (Or.inl (own_w hw 67 rfl)) (Or.inl (own_w hw 70 rfl)) (by decide) (t := .int) (t' := (.array (.object "java/lang/Object"))) (by decide) (by decide)))
  have f199 : Fld Z h192 a1 "java/util/ArrayList" "size" "I" (.int (0 : Int32)) := f189_2.other W192 (Or.inr (slot_ne (Or.inl (own_w hw 79 rfl)) (Or.inl (own_w hw 70 rfl)) (by decide) (t := .int) (t' := (.array (.object "java/lang/Object"))) (by decide) (by decide)))
  subst hPP
  refine ⟨_, _, X192.returnOut hx Bd.returns (hb hby dj38_2_11) hr194, hrun194, hend194, _, _, rfl, ?_, ⟨_, rfl⟩, hW194, hsm194.mono (by decide) (by decide)⟩
  · show Q_alinit Z _ _ h0 _ T192.heap _
    rw [e192]
    exact ⟨rfl, N192, K196, f197, f198, f199, f193⟩
theorem ef_86 (m : MethodId) (x0 : Int32) (x1 : Int32) : entryFrame m #[(.int x0), (.int x1)] 2 = mkF m 0 #[.val (.int x0), .val (.int x1)] [] := by first | (simp [entryFrame, mkF, argsToLocals, Value.category]; done) | rfl
theorem dj29_65_0 : decode jdk_29_method_65_code 0 = .ok (.iload_n 0, 1) := by decide +kernel
theorem dj29_65_1 : decode jdk_29_method_65_code 1 = .ok (.iload_n 1, 1) := by decide +kernel
theorem dj29_65_2 : decode jdk_29_method_65_code 2 = .ok (.if_icmp .lt 7, 3) := by decide +kernel
theorem dj29_65_9 : decode jdk_29_method_65_code 9 = .ok (.iload_n 1, 1) := by decide +kernel
theorem dj29_65_10 : decode jdk_29_method_65_code 10 = .ok (.ireturn, 1) := by decide +kernel
theorem dj29_65_5 : decode jdk_29_method_65_code 5 = .ok (.iload_n 0, 1) := by decide +kernel
theorem dj29_65_6 : decode jdk_29_method_65_code 6 = .ok (.goto 4, 3) := by decide +kernel
def Q_mmax (Z : State) (p1 : Int32) (p2 : Int32) (h0 : Heap) (v : Option Value) (h : Heap) (L : List Loc) : Prop := v = some (.int (if p1 < p2 then p2 else p1)) ∧ Fr Z.heap.size L ∧ h = h0
set_option maxRecDepth 65536 in
set_option maxHeartbeats 40000000 in
theorem rm_mmax (l : Launch) (Z : State) (a0 : Array Value) (hw : ∀ d ∈ tables_1, d.before a0 Z = true) (ws : List Jvm.Cond) (p1 : Int32) (p2 : Int32) (h0 : Heap) (OL : Old Z Z.heap.size h0) :
    MetFree l mN2 (head1 (Jvm.Cond.code mN2 jdk_29_method_65_code 2 (some .int) :: ws) rM0) (fun a U => a = #[(.int p1), (.int p2)] ∧ Z.Warmed39 U.vm ∧ U.heap = h0) (fun _ _ _ _ _ => True) (fun _ U o U' => ∃ v L, o = .returned v ∧ Q_mmax Z p1 p2 h0 v U'.heap L ∧ FrameEnd U o U' L rM0.cells rM0.slots) := by
  refine MetFree.of_bodySF (by decide +kernel) hisR ?_
  intro p e s m args below meth c s₁ Bd hml0 hP hK
  obtain ⟨rfl, hZ, hh⟩ := hP
  have hx := Bd.exec
  have hby := Bd.bytes
  have hml : c.maxLocals = 2 := hml0
  have hown : s.vm.findClass "java/lang/Math" = some m.cls := findClass_of_methodNamed Bd.named
  have hnm := (name_of_methodNamed Bd.named Bd.method).1
  have X0 : Stand p l e rM0 s m #[(.int p1), (.int p2)] below meth c s₁ [] 0 0 := Stand.of_body Bd
  have e0 : s₁.heap = h0 := by rw [← hh, Bd.state]; rfl
  have N0 := Fr.nil Z.heap.size
  have Z0 : Z.heap.size ≤ h0.size := OL.2.1
  show own_Go p.tables e below (fun o tE => ∃ v L, o = .returned v ∧ Q_mmax Z p1 p2 h0 v tE.heap L ∧ FrameEnd s o tE L rM0.cells rM0.slots) (s₁.setTop (entryFrame m #[(.int p1), (.int p2)] 2))
  refine own_hd (fun PP hPP => ?_)
  refine own_Go.st (fun t k => castTop (ef_86 m p1 p2) k) ?_
  refine own_Go.st (fun _ k => XS.iloadN X0.here hx rfl (hb hby dj29_65_0) rfl (XS.iloadN X0.here hx rfl (hb hby dj29_65_1) rfl k)) ?_
  show own_Go _ _ _ _ (s₁.setTop (mkF m 2 #[.val (.int p1), .val (.int p2)] [(.int p2), (.int p1)]))
  by_cases hc200 : p1 < p2
  ·
    refine own_Go.st (fun _ k => XS.icmpYes X0.here hx rfl (pc0 := 2) (pc' := 9) rfl (hb hby dj29_65_2) rfl (tlt hc200).1 (by decide) (by decide) k) ?_
    refine own_Go.st (fun _ k => XS.iloadN X0.here hx rfl (hb hby dj29_65_9) rfl k) ?_
    show own_Go _ _ _ _ (s₁.setTop (mkF m 10 #[.val (.int p1), .val (.int p2)] [(.int p2)]))
    obtain ⟨fs201, hr201, hrun201, hend201, hW201, hsm201⟩ := X0.leave (v := some (.int p2)) (fun h => by rw [Bd.returns] at h; cases h)
    subst hPP
    refine ⟨_, _, own_retI X0 hx Bd.returns (hb hby dj29_65_10) hr201, hrun201, hend201, _, _, rfl, ?_, ⟨_, rfl⟩, hW201, hsm201.mono (by decide) (by decide)⟩
    · show Q_mmax Z _ _ h0 _ s₁.heap _
      rw [e0]
      exact ⟨(by rw [if_pos hc200]), N0, rfl⟩
  ·
    refine own_Go.st (fun _ k => XS.icmpNo X0.here hx rfl (hb hby dj29_65_2) rfl (flt hc200).1 k) ?_
    refine own_Go.st (fun _ k => XS.iloadN X0.here hx rfl (hb hby dj29_65_5) rfl (XS.goto X0.here hx rfl (pc0 := 6) (pc' := 10) rfl (hb hby dj29_65_6) (by decide) (by decide) k)) ?_
    show own_Go _ _ _ _ (s₁.setTop (mkF m 10 #[.val (.int p1), .val (.int p2)] [(.int p1)]))
    obtain ⟨fs202, hr202, hrun202, hend202, hW202, hsm202⟩ := X0.leave (v := some (.int p1)) (fun h => by rw [Bd.returns] at h; cases h)
    subst hPP
    refine ⟨_, _, own_retI X0 hx Bd.returns (hb hby dj29_65_10) hr202, hrun202, hend202, _, _, rfl, ?_, ⟨_, rfl⟩, hW202, hsm202.mono (by decide) (by decide)⟩
    · show Q_mmax Z _ _ h0 _ s₁.heap _
      rw [e0]
      exact ⟨(by rw [if_neg hc200]), N0, rfl⟩
theorem dj29_69_0 : decode jdk_29_method_69_code 0 = .ok (.iload_n 0, 1) := by decide +kernel
theorem dj29_69_1 : decode jdk_29_method_69_code 1 = .ok (.iload_n 1, 1) := by decide +kernel
theorem dj29_69_2 : decode jdk_29_method_69_code 2 = .ok (.if_icmp .gt 7, 3) := by decide +kernel
theorem dj29_69_9 : decode jdk_29_method_69_code 9 = .ok (.iload_n 1, 1) := by decide +kernel
theorem dj29_69_10 : decode jdk_29_method_69_code 10 = .ok (.ireturn, 1) := by decide +kernel
theorem dj29_69_5 : decode jdk_29_method_69_code 5 = .ok (.iload_n 0, 1) := by decide +kernel
theorem dj29_69_6 : decode jdk_29_method_69_code 6 = .ok (.goto 4, 3) := by decide +kernel
def Q_mmin (Z : State) (p1 : Int32) (p2 : Int32) (h0 : Heap) (v : Option Value) (h : Heap) (L : List Loc) : Prop := v = some (.int (if p2 < p1 then p2 else p1)) ∧ Fr Z.heap.size L ∧ h = h0
set_option maxRecDepth 65536 in
set_option maxHeartbeats 40000000 in
theorem rm_mmin (l : Launch) (Z : State) (a0 : Array Value) (hw : ∀ d ∈ tables_1, d.before a0 Z = true) (ws : List Jvm.Cond) (p1 : Int32) (p2 : Int32) (h0 : Heap) (OL : Old Z Z.heap.size h0) :
    MetFree l mN3 (head1 (Jvm.Cond.code mN3 jdk_29_method_69_code 2 (some .int) :: ws) rM0) (fun a U => a = #[(.int p1), (.int p2)] ∧ Z.Warmed39 U.vm ∧ U.heap = h0) (fun _ _ _ _ _ => True) (fun _ U o U' => ∃ v L, o = .returned v ∧ Q_mmin Z p1 p2 h0 v U'.heap L ∧ FrameEnd U o U' L rM0.cells rM0.slots) := by
  refine MetFree.of_bodySF (by decide +kernel) hisR ?_
  intro p e s m args below meth c s₁ Bd hml0 hP hK
  obtain ⟨rfl, hZ, hh⟩ := hP
  have hx := Bd.exec
  have hby := Bd.bytes
  have hml : c.maxLocals = 2 := hml0
  have hown : s.vm.findClass "java/lang/Math" = some m.cls := findClass_of_methodNamed Bd.named
  have hnm := (name_of_methodNamed Bd.named Bd.method).1
  have X0 : Stand p l e rM0 s m #[(.int p1), (.int p2)] below meth c s₁ [] 0 0 := Stand.of_body Bd
  have e0 : s₁.heap = h0 := by rw [← hh, Bd.state]; rfl
  have N0 := Fr.nil Z.heap.size
  have Z0 : Z.heap.size ≤ h0.size := OL.2.1
  show own_Go p.tables e below (fun o tE => ∃ v L, o = .returned v ∧ Q_mmin Z p1 p2 h0 v tE.heap L ∧ FrameEnd s o tE L rM0.cells rM0.slots) (s₁.setTop (entryFrame m #[(.int p1), (.int p2)] 2))
  refine own_hd (fun PP hPP => ?_)
  refine own_Go.st (fun t k => castTop (ef_86 m p1 p2) k) ?_
  refine own_Go.st (fun _ k => XS.iloadN X0.here hx rfl (hb hby dj29_69_0) rfl (XS.iloadN X0.here hx rfl (hb hby dj29_69_1) rfl k)) ?_
  show own_Go _ _ _ _ (s₁.setTop (mkF m 2 #[.val (.int p1), .val (.int p2)] [(.int p2), (.int p1)]))
  by_cases hc203 : p2 < p1
  ·
    refine own_Go.st (fun _ k => XS.icmpYes X0.here hx rfl (pc0 := 2) (pc' := 9) rfl (hb hby dj29_69_2) rfl (tlt hc203).2.2.1 (by decide) (by decide) k) ?_
    refine own_Go.st (fun _ k => XS.iloadN X0.here hx rfl (hb hby dj29_69_9) rfl k) ?_
    show own_Go _ _ _ _ (s₁.setTop (mkF m 10 #[.val (.int p1), .val (.int p2)] [(.int p2)]))
    obtain ⟨fs204, hr204, hrun204, hend204, hW204, hsm204⟩ := X0.leave (v := some (.int p2)) (fun h => by rw [Bd.returns] at h; cases h)
    subst hPP
    refine ⟨_, _, own_retI X0 hx Bd.returns (hb hby dj29_69_10) hr204, hrun204, hend204, _, _, rfl, ?_, ⟨_, rfl⟩, hW204, hsm204.mono (by decide) (by decide)⟩
    · show Q_mmin Z _ _ h0 _ s₁.heap _
      rw [e0]
      exact ⟨(by rw [if_pos hc203]), N0, rfl⟩
  ·
    refine own_Go.st (fun _ k => XS.icmpNo X0.here hx rfl (hb hby dj29_69_2) rfl (flt hc203).2.2.1 k) ?_
    refine own_Go.st (fun _ k => XS.iloadN X0.here hx rfl (hb hby dj29_69_5) rfl (XS.goto X0.here hx rfl (pc0 := 6) (pc' := 10) rfl (hb hby dj29_69_6) (by decide) (by decide) k)) ?_
    show own_Go _ _ _ _ (s₁.setTop (mkF m 10 #[.val (.int p1), .val (.int p2)] [(.int p1)]))
    obtain ⟨fs205, hr205, hrun205, hend205, hW205, hsm205⟩ := X0.leave (v := some (.int p1)) (fun h => by rw [Bd.returns] at h; cases h)
    subst hPP
    refine ⟨_, _, own_retI X0 hx Bd.returns (hb hby dj29_69_10) hr205, hrun205, hend205, _, _, rfl, ?_, ⟨_, rfl⟩, hW205, hsm205.mono (by decide) (by decide)⟩
    · show Q_mmin Z _ _ h0 _ s₁.heap _
      rw [e0]
      exact ⟨(by rw [if_neg hc203]), N0, rfl⟩
theorem ef_101 (m : MethodId) (x0 : Nat) (x1 : Int32) : entryFrame m #[(.ref x0), (.int x1)] 4 = mkF m 0 #[.val (.ref x0), .val (.int x1), .unset, .unset] [] := by first | (simp [entryFrame, mkF, argsToLocals, Value.category]; done) | rfl
theorem dj38_6_0 : decode jdk_38_method_6_code 0 = .ok (.aload_n 0, 1) := by decide +kernel
theorem dj38_6_1 : decode jdk_38_method_6_code 1 = .ok (.getfield 9, 3) := by decide +kernel
theorem dj38_6_4 : decode jdk_38_method_6_code 4 = .ok (.arraylength, 1) := by decide +kernel
theorem dj38_6_5 : decode jdk_38_method_6_code 5 = .ok (.istore_n 2, 1) := by decide +kernel
theorem dj38_6_6 : decode jdk_38_method_6_code 6 = .ok (.iload_n 2, 1) := by decide +kernel
theorem dj38_6_7 : decode jdk_38_method_6_code 7 = .ok (.ifCond .gt 13, 3) := by decide +kernel
theorem dj38_6_10 : decode jdk_38_method_6_code 10 = .ok (.aload_n 0, 1) := by decide +kernel
theorem dj38_6_11 : decode jdk_38_method_6_code 11 = .ok (.getfield 9, 3) := by decide +kernel
theorem dj38_6_14 : decode jdk_38_method_6_code 14 = .ok (.getstatic 39, 3) := by decide +kernel
theorem dj38_6_17 : decode jdk_38_method_6_code 17 = .ok (.if_acmp .eq 28, 3) := by decide +kernel
theorem dj38_6_45 : decode jdk_38_method_6_code 45 = .ok (.aload_n 0, 1) := by decide +kernel
theorem dj38_6_46 : decode jdk_38_method_6_code 46 = .ok (.bipush 10, 2) := by decide +kernel
theorem dj38_6_48 : decode jdk_38_method_6_code 48 = .ok (.iload_n 1, 1) := by decide +kernel
theorem pd_115 : parseMethodDescriptor "(II)I" = some ⟨[.int, .int], some .int⟩ := by decide +kernel
theorem dj38_6_49 : decode jdk_38_method_6_code 49 = .ok (.invokestatic 79, 3) := by decide +kernel
theorem dj38_6_52 : decode jdk_38_method_6_code 52 = .ok (.anewarray 7, 3) := by decide +kernel
theorem dj38_6_55 : decode jdk_38_method_6_code 55 = .ok (.dup_x1, 1) := by decide +kernel
theorem dj38_6_56 : decode jdk_38_method_6_code 56 = .ok (.putfield 9, 3) := by decide +kernel
theorem dj38_6_59 : decode jdk_38_method_6_code 59 = .ok (.areturn, 1) := by decide +kernel
def Q_growI (Z : State) (a1 : Nat) (ad : Nat) (ka : ClassId) (mc : Int32) (h0 : Heap) (v : Option Value) (h : Heap) (L : List Loc) : Prop := ∃ (x : Nat), ∃ (k : ClassId), v = some (.ref x) ∧ Fr Z.heap.size L ∧ Keep h0 h [a1] ∧ Exa Z h a1 "java/util/ArrayList" ∧ Fld Z h a1 "java/util/ArrayList" "elementData" "[Ljava/lang/Object;" (.ref x) ∧ Fld Z h a1 "java/util/ArrayList" "size" "I" (.int (0 : Int32)) ∧ Arv Z h x k (.object "java/lang/Object") (10 : Int32) (([] : List Addr).map Value.ref) .null ∧ Exa Z h x "[Ljava/lang/Object;" ∧ Fld Z h a1 "java/util/AbstractList" "modCount" "I" (.int mc) ∧ (h0.size ≤ x) ∧ (Ovr Z k "java/lang/Object")
set_option maxRecDepth 65536 in
set_option maxHeartbeats 40000000 in
theorem rm_growI (l : Launch) (Z : State) (a0 : Array Value) (hw : ∀ d ∈ tables_1, d.before a0 Z = true) (ws : List Jvm.Cond) (a1 : Nat) (ad : Nat) (ka : ClassId) (mc : Int32) (h0 : Heap) (OL : Old Z Z.heap.size h0) (p0_ : Exa Z h0 a1 "java/util/ArrayList") (p1_ : Fld Z h0 a1 "java/util/ArrayList" "elementData" "[Ljava/lang/Object;" (.ref ad)) (p2_ : Fld Z h0 a1 "java/util/ArrayList" "size" "I" (.int (0 : Int32))) (p3_ : Arv Z h0 ad ka (.object "java/lang/Object") (0 : Int32) [] .null) (p4_ : Fld Z h0 a1 "java/util/AbstractList" "modCount" "I" (.int mc)) (st_DEFAULTCAPACITY_EMPTY_ELEMENTDATA : Sta Z Z.heap "java/util/ArrayList" "DEFAULTCAPACITY_EMPTY_ELEMENTDATA" "[Ljava/lang/Object;" (.ref ad)) (hn0 : Z.heap.size ≤ a1) :
    MetFree l mN17 (head1 (Jvm.Cond.code mN17 jdk_38_method_6_code 4 (some (.array (.object "java/lang/Object"))) :: ws) rM5) (fun a U => a = #[(.ref a1), (.int (1 : Int32))] ∧ Z.Warmed39 U.vm ∧ U.heap = h0) (fun _ _ _ _ _ => True) (fun _ U o U' => ∃ v L, o = .returned v ∧ Q_growI Z a1 ad ka mc h0 v U'.heap L ∧ FrameEnd U o U' L rM5.cells rM5.slots) := by
  refine MetFree.of_bodySF (plainFor_of_name pn_79) hisR ?_
  intro p e s m args below meth c s₁ Bd hml0 hP hK
  obtain ⟨rfl, hZ, hh⟩ := hP
  have hx := Bd.exec
  have hby := Bd.bytes
  have hml : c.maxLocals = 4 := hml0
  have hown : s.vm.findClass "java/util/ArrayList" = some m.cls := findClass_of_methodNamed Bd.named
  have hnm := (name_of_methodNamed Bd.named Bd.method).1
  have X0 : Stand p l e rM5 s m #[(.ref a1), (.int (1 : Int32))] below meth c s₁ [] 0 0 := Stand.of_body Bd
  have e0 : s₁.heap = h0 := by rw [← hh, Bd.state]; rfl
  have N0 := Fr.nil Z.heap.size
  have Z0 : Z.heap.size ≤ h0.size := OL.2.1
  have lt_0 : @LT.lt Nat _ a1 h0.size := p0_.lt
  have lt_1 : @LT.lt Nat _ a1 h0.size := p1_.lt
  have lt_2 : @LT.lt Nat _ a1 h0.size := p2_.lt
  have lt_3 : @LT.lt Nat _ ad h0.size := p3_.lt
  have lt_4 : @LT.lt Nat _ a1 h0.size := p4_.lt
  show own_Go p.tables e below (fun o tE => ∃ v L, o = .returned v ∧ Q_growI Z a1 ad ka mc h0 v tE.heap L ∧ FrameEnd s o tE L rM5.cells rM5.slots) (s₁.setTop (entryFrame m #[(.ref a1), (.int (1 : Int32))] 4))
  refine own_hd (fun PP hPP => ?_)
  refine own_Go.st (fun t k => castTop (ef_101 m a1 (1 : Int32)) k) ?_
  refine own_Go.st (fun _ k => XS.aloadN X0.here hx rfl (hb hby dj38_6_0) rfl rfl k) ?_
  show own_Go _ _ _ _ (s₁.setTop (mkF m 1 #[.val (.ref a1), .val (.int (1 : Int32)), .unset, .unset] [(.ref a1)]))
  obtain ⟨T206, X206, e206, st206⟩ := getF X0 hx hZ hown (host := "") (Or.inl (own_w hw 69 rfl)) Via.refl e0 p1_ (g := (mkF m 1 #[.val (.ref a1), .val (.int (1 : Int32)), .unset, .unset] [(.ref a1)])) rfl rfl (hb hby dj38_6_1)
  refine own_Go.st st206 ?_
  show own_Go _ _ _ _ (T206.setTop (mkF m 4 #[.val (.ref a1), .val (.int (1 : Int32)), .unset, .unset] [(.ref ad)]))
  obtain ⟨c207, Ar207, q207, S207, Nn207, H207, G207⟩ := id p3_
  refine own_Go.st (X206.arraylength hx (own_rwE e206 Ar207.1) (State.isArrayOf_alike hZ.alike Ar207.2.1) (g := (mkF m 4 #[.val (.ref a1), .val (.int (1 : Int32)), .unset, .unset] [(.ref ad)])) rfl rfl (hb hby dj38_6_4)) ?_
  rw [len_of S207 Nn207]
  refine own_Go.st (fun _ k => XS.istoreN X206.here hx rfl (hb hby dj38_6_5) rfl (l' := #[.val (.ref a1), .val (.int (1 : Int32)), .val (.int (0 : Int32)), .unset]) rfl (XS.iloadN X206.here hx rfl (hb hby dj38_6_6) rfl k)) ?_
  show own_Go _ _ _ _ (T206.setTop (mkF m 7 #[.val (.ref a1), .val (.int (1 : Int32)), .val (.int (0 : Int32)), .unset] [(.int (0 : Int32))]))
  refine own_Go.st (fun _ k => XS.ifNo X206.here hx rfl (hb hby dj38_6_7) rfl ((if0 _ _).trans (flt (by decide : ¬ ((0 : Int32) < (0 : Int32)))).2.2.1) k) ?_
  refine own_Go.st (fun _ k => XS.aloadN X206.here hx rfl (hb hby dj38_6_10) rfl rfl k) ?_
  show own_Go _ _ _ _ (T206.setTop (mkF m 11 #[.val (.ref a1), .val (.int (1 : Int32)), .val (.int (0 : Int32)), .unset] [(.ref a1)]))
  obtain ⟨T208, X208, e208, st208⟩ := getF X206 hx hZ hown (host := "") (Or.inl (own_w hw 69 rfl)) Via.refl e206 p1_ (g := (mkF m 11 #[.val (.ref a1), .val (.int (1 : Int32)), .val (.int (0 : Int32)), .unset] [(.ref a1)])) rfl rfl (hb hby dj38_6_11)
  refine own_Go.st st208 ?_
  show own_Go _ _ _ _ (T208.setTop (mkF m 14 #[.val (.ref a1), .val (.int (1 : Int32)), .val (.int (0 : Int32)), .unset] [(.ref ad)]))
  obtain ⟨T209, X209, e209, st209⟩ := getS2 X208 hx hZ hown (host := "") (Or.inl (own_w hw 68 rfl)) Via.refl e208 (st_DEFAULTCAPACITY_EMPTY_ELEMENTDATA.ext OL.2) (g := (mkF m 14 #[.val (.ref a1), .val (.int (1 : Int32)), .val (.int (0 : Int32)), .unset] [(.ref ad)])) rfl (hb hby dj38_6_14)
  refine own_Go.st st209 ?_
  show own_Go _ _ _ _ (T209.setTop (mkF m 17 #[.val (.ref a1), .val (.int (1 : Int32)), .val (.int (0 : Int32)), .unset] [(.ref ad), (.ref ad)]))
  refine own_Go.st (fun _ k => Jvm.RoadKit.acmp (g := (mkF m 17 #[.val (.ref a1), .val (.int (1 : Int32)), .val (.int (0 : Int32)), .unset] [(.ref ad), (.ref ad)])) X209 hx rfl rfl rfl (pc0 := 17) (pc' := 45) (same := true) rfl (hb hby dj38_6_17) rfl (decide_eq_true rfl) (by decide) (by decide) k) ?_
  refine own_Go.st (fun _ k => XS.aloadN X209.here hx rfl (hb hby dj38_6_45) rfl rfl (XS.bipush X209.here hx rfl (hb hby dj38_6_46) (XS.iloadN X209.here hx rfl (hb hby dj38_6_48) rfl k))) ?_
  show own_Go _ _ _ _ (T209.setTop (mkF m 49 #[.val (.ref a1), .val (.int (1 : Int32)), .val (.int (0 : Int32)), .unset] [(.int (1 : Int32)), (.int (10 : Int32)), (.ref a1)]))
  obtain ⟨_, _, ⟨T210, L210, k210, n210⟩, -, X210, ⟨Lc210, hQ210, l210, y210, z210⟩, st210⟩ := Jvm.LawKit.callS X209 hx (y := mN2) hown (own_v hZ hw 95 rfl) (own_v hZ hw 96 rfl) (own_v hZ hw 97 rfl) (own_v hZ hw 98 rfl) (by decide) (backOf (W := 1) (rm_mmax l Z a0 hw [] (10 : Int32) (1 : Int32) h0 OL ) hZ (own_w hw 98 rfl) (own_w hw 97 rfl) (by decide) (by decide)) (g := (mkF m 49 #[.val (.ref a1), .val (.int (1 : Int32)), .val (.int (0 : Int32)), .unset] [(.int (1 : Int32)), (.int (10 : Int32)), (.ref a1)])) rfl (by rw [hml]; rfl) (argsL := [(.int (10 : Int32)), (.int (1 : Int32))]) (rest := [(.ref a1)]) (lenOf pd_115 rfl) rfl (by show 2 * 0 + _ ≤ _; exact Nat.le_of_eq rfl) (hb hby dj38_6_49) (fun _ _ => ⟨rfl, e209, (by decide : 0 + 0 ≤ _), (by decide : 0 + 0 ≤ _)⟩)
  dsimp only [Pt.U, Pt.locs, Pt.cells, Pt.slots] at X210 l210 y210 z210 st210 hQ210
  subst l210 y210 z210
  obtain ⟨rfl, N210q, K210⟩ := hQ210
  have N210 := Fr.app N0 N210q
  refine own_Go.st st210 ?_
  show own_Go _ _ _ _ (T210.setTop (mkF m 52 #[.val (.ref a1), .val (.int (1 : Int32)), .val (.int (0 : Int32)), .unset] [(.int (if (10 : Int32) < (1 : Int32) then (1 : Int32) else (10 : Int32))), (.ref a1)]))
  rw [show (if (10 : Int32) < (1 : Int32) then (1 : Int32) else (10 : Int32)) = (10 : Int32) from by decide]
  show own_Go _ _ _ _ (T210.setTop (mkF m 52 #[.val (.ref a1), .val (.int (1 : Int32)), .val (.int (0 : Int32)), .unset] [(.int (10 : Int32)), (.ref a1)]))
  obtain ⟨T211, h211, k211, X211, e211, E211, A211, Q211, O211, st211⟩ := newRE X210 hx hZ hown (own_w hw 99 rfl) (own_w hw 100 rfl) K210 (g := (mkF m 52 #[.val (.ref a1), .val (.int (1 : Int32)), .val (.int (0 : Int32)), .unset] [(.int (10 : Int32)), (.ref a1)])) rfl (hb hby dj38_6_52) rfl (by decide) (cap := 10) (by decide) (by decide) (by decide) (by decide) (ad := "[Ljava/lang/Object;") (by decide)
  obtain ⟨b211, g211⟩ : ∃ z, z = h0.size := ⟨_, rfl⟩
  rw [← g211] at A211 Q211 st211
  refine own_Go.st st211 ?_
  have z211 : h0.size ≤ h211.size := E211.1
  have f212 : Arv Z h211 b211 k211 (.object "java/lang/Object") (10 : Int32) [.null, .null, .null, .null, .null, .null, .null, .null, .null, .null] .null := (Arv.new A211 (by decide)).pad (pad_rep [] .null 10)
  have lt_b211 : @LT.lt Nat _ b211 h211.size := f212.lt
  refine own_Go.st (fun _ k => XS.dupX1 X211.here hx rfl (hb hby dj38_6_55) rfl rfl rfl k) ?_
  show own_Go _ _ _ _ (T211.setTop (mkF m 56 #[.val (.ref a1), .val (.int (1 : Int32)), .val (.int (0 : Int32)), .unset] [(.ref b211), (.ref a1), (.ref b211)]))
  have f213 : Fld Z h211 a1 "java/util/ArrayList" "elementData" "[Ljava/lang/Object;" (.ref ad) := p1_.ext E211
  have f214 : Exa Z h211 a1 "java/util/ArrayList" := p0_.ext E211
  obtain ⟨T215, h215, X215, e215, W215, st215⟩ := putF X211 hx hZ hown (host := "") (Or.inl (own_w hw 69 rfl)) Via.refl e211 f213 f214 (Or.inl (own_w hw 70 rfl)) (own_w hw 48 rfl) (ty := (.array (.object "java/lang/Object"))) (by decide) rfl rfl (g := (mkF m 56 #[.val (.ref a1), .val (.int (1 : Int32)), .val (.int (0 : Int32)), .unset] [(.ref b211), (.ref a1), (.ref b211)])) rfl rfl (hb hby dj38_6_56)
  refine own_Go.st st215 ?_
  have N215 := Fr.snoc X215 N210 (by omega)
  have z215 : h211.size ≤ h215.size := Nat.le_of_eq W215.size.symm
  have f216 : Fld Z h215 a1 "java/util/ArrayList" "elementData" "[Ljava/lang/Object;" (.ref b211) := f213.same W215
  show own_Go _ _ _ _ (T215.setTop (mkF m 59 #[.val (.ref a1), .val (.int (1 : Int32)), .val (.int (0 : Int32)), .unset] [(.ref b211)]))
  obtain ⟨fs217, hr217, hrun217, hend217, hW217, hsm217⟩ := X215.leave (v := some (.ref b211)) (fun h => by rw [Bd.returns] at h; cases h)
  have ne218 : @Ne Nat b211 a1 := Exa.ne Q211 f214 (by decide)
  have f219 : Arv Z h215 b211 k211 (.object "java/lang/Object") (10 : Int32) [.null, .null, .null, .null, .null, .null, .null, .null, .null, .null] .null := f212.other W215 ne218
  have f220 : Arv Z h215 b211 k211 (.object "java/lang/Object") (10 : Int32) (([] : List Addr).map Value.ref) .null := Arv.pad f219 (fun i => (pad_rep [] .null 10 i).symm)
  have f221 : Exa Z h215 a1 "java/util/ArrayList" := f214.wr W215
  have f222 : Fld Z h211 a1 "java/util/ArrayList" "size" "I" (.int (0 : Int32)) := p2_.ext E211
  have f223 : Fld Z h215 a1 "java/util/ArrayList" "size" "I" (.int (0 : Int32)) := f222.other W215 (Or.inr (slot_ne (Or.inl (own_w hw 79 rfl)) (Or.inl (own_w hw 70 rfl)) (by decide) (t := .int) (t' := (.array (.object "java/lang/Object"))) (by decide) (by decide)))
  have f224 : Exa Z h215 b211 "[Ljava/lang/Object;" := Q211.wr W215
  have f225 : Fld Z h211 a1 "java/util/AbstractList" "modCount" "I" (.int mc) := p4_.ext E211
  have f226 : Fld Z h215 a1 "java/util/AbstractList" "modCount" "I" (.int mc) := f225.other W215 (Or.inr (slot_ne (Or.inl (own_w hw 67 rfl)) (Or.inl (own_w hw 70 rfl)) (by decide) (t := .int) (t' := (.array (.object "java/lang/Object"))) (by decide) (by decide)))
  have K227 : Keep h0 h211 [a1] := (Keep.refl h0 [a1]).ext E211
  have K228 : Keep h0 h215 [a1] := K227.wr W215 (Or.inl (List.mem_of_getElem? (i := 0) rfl))
  subst hPP
  refine ⟨_, _, own_retA X215 hx Bd.returns rfl rfl (hb hby dj38_6_59) hr217, hrun217, hend217, _, _, rfl, ?_, ⟨_, rfl⟩, hW217, hsm217.mono (by decide) (by decide)⟩
  · show Q_growI Z _ _ _ _ h0 _ T215.heap _
    rw [e215]
    exact ⟨b211, k211, rfl, N215, K228, f221, f216, f223, f220, f224, f226, (by omega), O211⟩
theorem dj38_7_0 : decode jdk_38_method_7_code 0 = .ok (.aload_n 0, 1) := by decide +kernel
theorem dj38_7_1 : decode jdk_38_method_7_code 1 = .ok (.aload_n 0, 1) := by decide +kernel
theorem dj38_7_2 : decode jdk_38_method_7_code 2 = .ok (.getfield 48, 3) := by decide +kernel
theorem dj38_7_5 : decode jdk_38_method_7_code 5 = .ok (.iconst 1, 1) := by decide +kernel
theorem dj38_7_6 : decode jdk_38_method_7_code 6 = .ok (.iadd, 1) := by decide +kernel
theorem pd_126 : parseMethodDescriptor "(I)[Ljava/lang/Object;" = some ⟨[.int], some (.array (.object "java/lang/Object"))⟩ := by decide +kernel
theorem dj38_7_7 : decode jdk_38_method_7_code 7 = .ok (.invokevirtual 69, 3) := by decide +kernel
theorem dj38_7_10 : decode jdk_38_method_7_code 10 = .ok (.areturn, 1) := by decide +kernel
def Q_grow (Z : State) (a1 : Nat) (ad : Nat) (ka : ClassId) (mc : Int32) (h0 : Heap) (v : Option Value) (h : Heap) (L : List Loc) : Prop := ∃ (x : Nat), ∃ (k : ClassId), v = some (.ref x) ∧ Fr Z.heap.size L ∧ Keep h0 h [a1] ∧ Exa Z h a1 "java/util/ArrayList" ∧ Fld Z h a1 "java/util/ArrayList" "elementData" "[Ljava/lang/Object;" (.ref x) ∧ Fld Z h a1 "java/util/ArrayList" "size" "I" (.int (0 : Int32)) ∧ Arv Z h x k (.object "java/lang/Object") (10 : Int32) (([] : List Addr).map Value.ref) .null ∧ Exa Z h x "[Ljava/lang/Object;" ∧ Fld Z h a1 "java/util/AbstractList" "modCount" "I" (.int mc) ∧ (h0.size ≤ x) ∧ (Ovr Z k "java/lang/Object")
set_option maxRecDepth 65536 in
set_option maxHeartbeats 40000000 in
theorem rm_grow (l : Launch) (Z : State) (a0 : Array Value) (hw : ∀ d ∈ tables_1, d.before a0 Z = true) (ws : List Jvm.Cond) (a1 : Nat) (ad : Nat) (ka : ClassId) (mc : Int32) (h0 : Heap) (OL : Old Z Z.heap.size h0) (p0_ : Exa Z h0 a1 "java/util/ArrayList") (p1_ : Fld Z h0 a1 "java/util/ArrayList" "elementData" "[Ljava/lang/Object;" (.ref ad)) (p2_ : Fld Z h0 a1 "java/util/ArrayList" "size" "I" (.int (0 : Int32))) (p3_ : Arv Z h0 ad ka (.object "java/lang/Object") (0 : Int32) [] .null) (p4_ : Fld Z h0 a1 "java/util/AbstractList" "modCount" "I" (.int mc)) (st_DEFAULTCAPACITY_EMPTY_ELEMENTDATA : Sta Z Z.heap "java/util/ArrayList" "DEFAULTCAPACITY_EMPTY_ELEMENTDATA" "[Ljava/lang/Object;" (.ref ad)) (hn0 : Z.heap.size ≤ a1) :
    MetFree l mN16 (head1 (Jvm.Cond.code mN16 jdk_38_method_7_code 1 (some (.array (.object "java/lang/Object"))) :: ws) rM9) (fun a U => a = #[(.ref a1)] ∧ Z.Warmed39 U.vm ∧ U.heap = h0) (fun _ _ _ _ _ => True) (fun _ U o U' => ∃ v L, o = .returned v ∧ Q_grow Z a1 ad ka mc h0 v U'.heap L ∧ FrameEnd U o U' L rM9.cells rM9.slots) := by
  refine MetFree.of_bodySF (plainFor_of_name pn_79) hisR ?_
  intro p e s m args below meth c s₁ Bd hml0 hP hK
  obtain ⟨rfl, hZ, hh⟩ := hP
  have hx := Bd.exec
  have hby := Bd.bytes
  have hml : c.maxLocals = 1 := hml0
  have hown : s.vm.findClass "java/util/ArrayList" = some m.cls := findClass_of_methodNamed Bd.named
  have hnm := (name_of_methodNamed Bd.named Bd.method).1
  have X0 : Stand p l e rM9 s m #[(.ref a1)] below meth c s₁ [] 0 0 := Stand.of_body Bd
  have e0 : s₁.heap = h0 := by rw [← hh, Bd.state]; rfl
  have N0 := Fr.nil Z.heap.size
  have Z0 : Z.heap.size ≤ h0.size := OL.2.1
  have lt_0 : @LT.lt Nat _ a1 h0.size := p0_.lt
  have lt_1 : @LT.lt Nat _ a1 h0.size := p1_.lt
  have lt_2 : @LT.lt Nat _ a1 h0.size := p2_.lt
  have lt_3 : @LT.lt Nat _ ad h0.size := p3_.lt
  have lt_4 : @LT.lt Nat _ a1 h0.size := p4_.lt
  show own_Go p.tables e below (fun o tE => ∃ v L, o = .returned v ∧ Q_grow Z a1 ad ka mc h0 v tE.heap L ∧ FrameEnd s o tE L rM9.cells rM9.slots) (s₁.setTop (entryFrame m #[(.ref a1)] 1))
  refine own_hd (fun PP hPP => ?_)
  refine own_Go.st (fun t k => castTop (ef_67 m a1) k) ?_
  refine own_Go.st (fun _ k => XS.aloadN X0.here hx rfl (hb hby dj38_7_0) rfl rfl (XS.aloadN X0.here hx rfl (hb hby dj38_7_1) rfl rfl k)) ?_
  show own_Go _ _ _ _ (s₁.setTop (mkF m 2 #[.val (.ref a1)] [(.ref a1), (.ref a1)]))
  obtain ⟨T229, X229, e229, st229⟩ := getF X0 hx hZ hown (host := "") (Or.inl (own_w hw 78 rfl)) Via.refl e0 p2_ (g := (mkF m 2 #[.val (.ref a1)] [(.ref a1), (.ref a1)])) rfl rfl (hb hby dj38_7_2)
  refine own_Go.st st229 ?_
  refine own_Go.st (fun _ k => XS.iconst X229.here hx rfl (hb hby dj38_7_5) (XS.iadd X229.here hx rfl (hb hby dj38_7_6) rfl k)) ?_
  show own_Go _ _ _ _ (T229.setTop (mkF m 7 #[.val (.ref a1)] [(.int (1 : Int32)), (.ref a1)]))
  obtain ⟨cq230, q230, q230'⟩ := p0_.cell
  obtain ⟨_, _, ⟨T230, L230, k230, n230⟩, -, X230, ⟨Lc230, hQ230, l230, y230, z230⟩, st230⟩ := X229.privateBack hx (y := mN17) hown (own_v hZ hw 90 rfl) (own_v hZ hw 91 rfl) (own_v hZ hw 93 rfl) (Cond.privateMethod_at (mvP hZ (own_w hw 92 rfl) (args := #[]))) (own_v hZ hw 94 rfl) (by decide) (backOf (W := 0) (rm_growI l Z a0 hw [] a1 ad ka mc h0 OL p0_ p1_ p2_ p3_ p4_ st_DEFAULTCAPACITY_EMPTY_ELEMENTDATA hn0) hZ (own_w hw 94 rfl) (own_w hw 49 rfl) (by decide) (by decide)) (g := (mkF m 7 #[.val (.ref a1)] [(.int (1 : Int32)), (.ref a1)])) rfl (by rw [hml]; rfl) (Steps.refl _) (a := a1) (own_rwE e229 q230) q230' (argsL := [(.int (1 : Int32))]) (rest := []) (lenOf pd_126 rfl) rfl (by show 2 * 0 + _ ≤ _; exact Nat.le_of_eq rfl) (hb hby dj38_7_7) (fun _ _ => ⟨rfl, e229, (by decide : 0 + 1 ≤ _), (by decide : 0 + 10 ≤ _)⟩)
  dsimp only [Pt.U, Pt.locs, Pt.cells, Pt.slots] at X230 l230 y230 z230 st230 hQ230
  subst l230 y230 z230
  obtain ⟨x_230, k_230, rfl, N230q, K230, f230_0, f230_1, f230_2, f230_3, f230_4, f230_5, pr230_0, pr230_1⟩ := hQ230
  have N230 := Fr.app N0 N230q
  have z230 : h0.size ≤ T230.heap.size := K230.1
  have lt230_0 : @LT.lt Nat _ a1 T230.heap.size := f230_0.lt
  have lt230_1 : @LT.lt Nat _ a1 T230.heap.size := f230_1.lt
  have lt230_2 : @LT.lt Nat _ a1 T230.heap.size := f230_2.lt
  have lt230_3 : @LT.lt Nat _ x_230 T230.heap.size := f230_3.lt
  have lt230_4 : @LT.lt Nat _ x_230 T230.heap.size := f230_4.lt
  have lt230_5 : @LT.lt Nat _ a1 T230.heap.size := f230_5.lt
  refine own_Go.tr st230 ?_
  show own_Go _ _ _ _ (T230.setTop (mkF m 10 #[.val (.ref a1)] [(.ref x_230)]))
  obtain ⟨fs231, hr231, hrun231, hend231, hW231, hsm231⟩ := X230.leave (v := some (.ref x_230)) (fun h => by rw [Bd.returns] at h; cases h)
  have K233 : Keep h0 T230.heap [a1] := (Keep.refl h0 [a1]).trans K230 (allS (Or.inl (List.mem_of_getElem? (i := 0) rfl)) all0)
  subst hPP
  refine ⟨_, _, own_retA X230 hx Bd.returns rfl rfl (hb hby dj38_7_10) hr231, hrun231, hend231, _, _, rfl, ?_, ⟨_, rfl⟩, hW231, hsm231.mono (by decide) (by decide)⟩
  · show Q_grow Z _ _ _ _ h0 _ T230.heap _
    exact ⟨x_230, k_230, rfl, N230, K233, f230_0, f230_1, f230_2, f230_3, f230_4, f230_5, (by omega), pr230_1⟩
theorem ef_129 (m : MethodId) (x0 : Nat) (x1 : Nat) (x2 : Nat) (x3 : Int32) : entryFrame m #[(.ref x0), (.ref x1), (.ref x2), (.int x3)] 4 = mkF m 0 #[.val (.ref x0), .val (.ref x1), .val (.ref x2), .val (.int x3)] [] := by first | (simp [entryFrame, mkF, argsToLocals, Value.category]; done) | rfl
theorem dj38_24_0 : decode jdk_38_method_24_code 0 = .ok (.iload_n 3, 1) := by decide +kernel
theorem dj38_24_1 : decode jdk_38_method_24_code 1 = .ok (.aload_n 2, 1) := by decide +kernel
theorem dj38_24_2 : decode jdk_38_method_24_code 2 = .ok (.arraylength, 1) := by decide +kernel
theorem dj38_24_3 : decode jdk_38_method_24_code 3 = .ok (.if_icmp .ne 8, 3) := by decide +kernel
theorem dj38_24_6 : decode jdk_38_method_24_code 6 = .ok (.aload_n 0, 1) := by decide +kernel
theorem pd_135 : parseMethodDescriptor "()[Ljava/lang/Object;" = some ⟨[], some (.array (.object "java/lang/Object"))⟩ := by decide +kernel
theorem dj38_24_7 : decode jdk_38_method_24_code 7 = .ok (.invokevirtual 129, 3) := by decide +kernel
theorem dj38_24_10 : decode jdk_38_method_24_code 10 = .ok (.astore_n 2, 1) := by decide +kernel
theorem dj38_24_11 : decode jdk_38_method_24_code 11 = .ok (.aload_n 2, 1) := by decide +kernel
theorem dj38_24_12 : decode jdk_38_method_24_code 12 = .ok (.iload_n 3, 1) := by decide +kernel
theorem dj38_24_13 : decode jdk_38_method_24_code 13 = .ok (.aload_n 1, 1) := by decide +kernel
theorem dj38_24_14 : decode jdk_38_method_24_code 14 = .ok (.aastore, 1) := by decide +kernel
theorem dj38_24_15 : decode jdk_38_method_24_code 15 = .ok (.aload_n 0, 1) := by decide +kernel
theorem dj38_24_16 : decode jdk_38_method_24_code 16 = .ok (.iload_n 3, 1) := by decide +kernel
theorem dj38_24_17 : decode jdk_38_method_24_code 17 = .ok (.iconst 1, 1) := by decide +kernel
theorem dj38_24_18 : decode jdk_38_method_24_code 18 = .ok (.iadd, 1) := by decide +kernel
theorem dj38_24_19 : decode jdk_38_method_24_code 19 = .ok (.putfield 48, 3) := by decide +kernel
theorem dj38_24_22 : decode jdk_38_method_24_code 22 = .ok (.return_, 1) := by decide +kernel
def Q_addG3 (Z : State) (a1 : Nat) (a2 : Nat) (ad : Nat) (ka : ClassId) (mc : Int32) (h0 : Heap) (v : Option Value) (h : Heap) (L : List Loc) : Prop := ∃ (x : Nat), ∃ (k : ClassId), v = none ∧ Fr Z.heap.size L ∧ Keep h0 h [a1] ∧ Exa Z h a1 "java/util/ArrayList" ∧ Fld Z h a1 "java/util/ArrayList" "elementData" "[Ljava/lang/Object;" (.ref x) ∧ Arv Z h x k (.object "java/lang/Object") (10 : Int32) (([] ++ [a2] : List Addr).map Value.ref) .null ∧ Exa Z h x "[Ljava/lang/Object;" ∧ Fld Z h a1 "java/util/ArrayList" "size" "I" (.int (1 : Int32)) ∧ Fld Z h a1 "java/util/AbstractList" "modCount" "I" (.int mc) ∧ (h0.size ≤ x) ∧ (Ovr Z k "java/lang/Object")
set_option maxRecDepth 65536 in
set_option maxHeartbeats 40000000 in
theorem rm_addG3 (l : Launch) (Z : State) (a0 : Array Value) (hw : ∀ d ∈ tables_1, d.before a0 Z = true) (ws : List Jvm.Cond) (a1 : Nat) (a2 : Nat) (ad : Nat) (ka : ClassId) (mc : Int32) (h0 : Heap) (OL : Old Z Z.heap.size h0) (p0_ : Exa Z h0 a1 "java/util/ArrayList") (p1_ : Fld Z h0 a1 "java/util/ArrayList" "elementData" "[Ljava/lang/Object;" (.ref ad)) (p2_ : Fld Z h0 a1 "java/util/ArrayList" "size" "I" (.int (0 : Int32))) (p3_ : Arv Z h0 ad ka (.object "java/lang/Object") (0 : Int32) [] .null) (p4_ : Exa Z h0 a2 "java/lang/String") (p5_ : Fld Z h0 a1 "java/util/AbstractList" "modCount" "I" (.int mc)) (st_DEFAULTCAPACITY_EMPTY_ELEMENTDATA : Sta Z Z.heap "java/util/ArrayList" "DEFAULTCAPACITY_EMPTY_ELEMENTDATA" "[Ljava/lang/Object;" (.ref ad)) (hn0 : Z.heap.size ≤ a1) :
    MetFree l mN15 (head1 (Jvm.Cond.code mN15 jdk_38_method_24_code 4 none :: ws) rM15) (fun a U => a = #[(.ref a1), (.ref a2), (.ref ad), (.int (0 : Int32))] ∧ Z.Warmed39 U.vm ∧ U.heap = h0) (fun _ _ _ _ _ => True) (fun _ U o U' => ∃ v L, o = .returned v ∧ Q_addG3 Z a1 a2 ad ka mc h0 v U'.heap L ∧ FrameEnd U o U' L rM15.cells rM15.slots) := by
  refine MetFree.of_bodySF (plainFor_of_name pn_79) hisR ?_
  intro p e s m args below meth c s₁ Bd hml0 hP hK
  obtain ⟨rfl, hZ, hh⟩ := hP
  have hx := Bd.exec
  have hby := Bd.bytes
  have hml : c.maxLocals = 4 := hml0
  have hown : s.vm.findClass "java/util/ArrayList" = some m.cls := findClass_of_methodNamed Bd.named
  have hnm := (name_of_methodNamed Bd.named Bd.method).1
  have X0 : Stand p l e rM15 s m #[(.ref a1), (.ref a2), (.ref ad), (.int (0 : Int32))] below meth c s₁ [] 0 0 := Stand.of_body Bd
  have e0 : s₁.heap = h0 := by rw [← hh, Bd.state]; rfl
  have N0 := Fr.nil Z.heap.size
  have Z0 : Z.heap.size ≤ h0.size := OL.2.1
  have lt_0 : @LT.lt Nat _ a1 h0.size := p0_.lt
  have lt_1 : @LT.lt Nat _ a1 h0.size := p1_.lt
  have lt_2 : @LT.lt Nat _ a1 h0.size := p2_.lt
  have lt_3 : @LT.lt Nat _ ad h0.size := p3_.lt
  have lt_4 : @LT.lt Nat _ a2 h0.size := p4_.lt
  have lt_5 : @LT.lt Nat _ a1 h0.size := p5_.lt
  show own_Go p.tables e below (fun o tE => ∃ v L, o = .returned v ∧ Q_addG3 Z a1 a2 ad ka mc h0 v tE.heap L ∧ FrameEnd s o tE L rM15.cells rM15.slots) (s₁.setTop (entryFrame m #[(.ref a1), (.ref a2), (.ref ad), (.int (0 : Int32))] 4))
  refine own_hd (fun PP hPP => ?_)
  refine own_Go.st (fun t k => castTop (ef_129 m a1 a2 ad (0 : Int32)) k) ?_
  refine own_Go.st (fun _ k => XS.iloadN X0.here hx rfl (hb hby dj38_24_0) rfl (XS.aloadN X0.here hx rfl (hb hby dj38_24_1) rfl rfl k)) ?_
  show own_Go _ _ _ _ (s₁.setTop (mkF m 2 #[.val (.ref a1), .val (.ref a2), .val (.ref ad), .val (.int (0 : Int32))] [(.ref ad), (.int (0 : Int32))]))
  obtain ⟨c234, Ar234, q234, S234, Nn234, H234, G234⟩ := id p3_
  refine own_Go.st (X0.arraylength hx (own_rwE e0 Ar234.1) (State.isArrayOf_alike hZ.alike Ar234.2.1) (g := (mkF m 2 #[.val (.ref a1), .val (.ref a2), .val (.ref ad), .val (.int (0 : Int32))] [(.ref ad), (.int (0 : Int32))])) rfl rfl (hb hby dj38_24_2)) ?_
  rw [len_of S234 Nn234]
  show own_Go _ _ _ _ (s₁.setTop (mkF m 3 #[.val (.ref a1), .val (.ref a2), .val (.ref ad), .val (.int (0 : Int32))] [(.int (0 : Int32)), (.int (0 : Int32))]))
  refine own_Go.st (fun _ k => XS.icmpNo X0.here hx rfl (hb hby dj38_24_3) rfl (teq (rfl : (0 : Int32) = (0 : Int32))).2 k) ?_
  refine own_Go.st (fun _ k => XS.aloadN X0.here hx rfl (hb hby dj38_24_6) rfl rfl k) ?_
  show own_Go _ _ _ _ (s₁.setTop (mkF m 7 #[.val (.ref a1), .val (.ref a2), .val (.ref ad), .val (.int (0 : Int32))] [(.ref a1)]))
  obtain ⟨cq235, q235, q235'⟩ := p0_.cell
  obtain ⟨_, _, ⟨T235, L235, k235, n235⟩, -, X235, ⟨Lc235, hQ235, l235, y235, z235⟩, st235⟩ := X0.privateBack hx (y := mN16) hown (own_v hZ hw 85 rfl) (own_v hZ hw 86 rfl) (own_v hZ hw 88 rfl) (Cond.privateMethod_at (mvP hZ (own_w hw 87 rfl) (args := #[]))) (own_v hZ hw 89 rfl) (by decide) (backOf (W := 0) (rm_grow l Z a0 hw [] a1 ad ka mc h0 OL p0_ p1_ p2_ p3_ p5_ st_DEFAULTCAPACITY_EMPTY_ELEMENTDATA hn0) hZ (own_w hw 89 rfl) (own_w hw 49 rfl) (by decide) (by decide)) (g := (mkF m 7 #[.val (.ref a1), .val (.ref a2), .val (.ref ad), .val (.int (0 : Int32))] [(.ref a1)])) rfl (by rw [hml]; rfl) (Steps.refl _) (a := a1) (own_rwE e0 q235) q235' (argsL := []) (rest := []) (lenOf pd_135 rfl) rfl (by show 2 * 0 + _ ≤ _; exact Nat.le_of_eq rfl) (hb hby dj38_24_7) (fun _ _ => ⟨rfl, e0, (by decide : 0 + 1 ≤ _), (by decide : 0 + 10 ≤ _)⟩)
  dsimp only [Pt.U, Pt.locs, Pt.cells, Pt.slots] at X235 l235 y235 z235 st235 hQ235
  subst l235 y235 z235
  obtain ⟨x_235, k_235, rfl, N235q, K235, f235_0, f235_1, f235_2, f235_3, f235_4, f235_5, pr235_0, pr235_1⟩ := hQ235
  have N235 := Fr.app N0 N235q
  have z235 : h0.size ≤ T235.heap.size := K235.1
  have lt235_0 : @LT.lt Nat _ a1 T235.heap.size := f235_0.lt
  have lt235_1 : @LT.lt Nat _ a1 T235.heap.size := f235_1.lt
  have lt235_2 : @LT.lt Nat _ a1 T235.heap.size := f235_2.lt
  have lt235_3 : @LT.lt Nat _ x_235 T235.heap.size := f235_3.lt
  have lt235_4 : @LT.lt Nat _ x_235 T235.heap.size := f235_4.lt
  have lt235_5 : @LT.lt Nat _ a1 T235.heap.size := f235_5.lt
  refine own_Go.tr st235 ?_
  refine own_Go.st (fun _ k => XS.astoreN X235.here hx rfl (hb hby dj38_24_10) rfl rfl (l' := #[.val (.ref a1), .val (.ref a2), .val (.ref x_235), .val (.int (0 : Int32))]) rfl (XS.aloadN X235.here hx rfl (hb hby dj38_24_11) rfl rfl (XS.iloadN X235.here hx rfl (hb hby dj38_24_12) rfl (XS.aloadN X235.here hx rfl (hb hby dj38_24_13) rfl rfl k)))) ?_
  show own_Go _ _ _ _ (T235.setTop (mkF m 14 #[.val (.ref a1), .val (.ref a2), .val (.ref x_235), .val (.int (0 : Int32))] [(.ref a2), (.int (0 : Int32)), (.ref x_235)]))
  have f236 : Exa Z T235.heap a2 "java/lang/String" := p4_.keep K235
  obtain ⟨c237, Ar237, q237, S237, Nn237, H237, G237⟩ := id f235_3
  have hin237 : ¬ ((0 : Int32) < 0 ∨ c237.slots.size ≤ ((0 : Int32)).toNatClampNeg) := inb_of S237 ⟨by decide, by decide⟩
  obtain ⟨T237, h237, X237, e237, W237, st237⟩ := stR X235 hx hZ rfl Ar237 (j := (0 : Int32)) hin237 rfl (Sto.of Ar237 (by rw [q237]; exact pr235_1) (Ins.of_exa f236 (own_w hw 101 rfl))) (g := (mkF m 14 #[.val (.ref a1), .val (.ref a2), .val (.ref x_235), .val (.int (0 : Int32))] [(.ref a2), (.int (0 : Int32)), (.ref x_235)])) rfl rfl (hb hby dj38_24_14)
  refine own_Go.st st237 ?_
  have N237 := Fr.snoc X237 N235 (by omega)
  have z237 : T235.heap.size ≤ h237.size := Nat.le_of_eq W237.size.symm
  have f238 : Arv Z h237 x_235 k_235 (.object "java/lang/Object") (10 : Int32) ((([] : List Addr) ++ [a2]).map Value.ref) .null := own_pushX f235_3 rfl W237 rfl (by first | omega | simp)
  refine own_Go.st (fun _ k => XS.aloadN X237.here hx rfl (hb hby dj38_24_15) rfl rfl (XS.iloadN X237.here hx rfl (hb hby dj38_24_16) rfl (XS.iconst X237.here hx rfl (hb hby dj38_24_17) (XS.iadd X237.here hx rfl (hb hby dj38_24_18) rfl k)))) ?_
  show own_Go _ _ _ _ (T237.setTop (mkF m 19 #[.val (.ref a1), .val (.ref a2), .val (.ref x_235), .val (.int (0 : Int32))] [(.int (1 : Int32)), (.ref a1)]))
  have ne239 : @Ne Nat a1 x_235 := Exa.ne f235_0 f235_4 (by decide)
  have f240 : Fld Z h237 a1 "java/util/ArrayList" "size" "I" (.int (0 : Int32)) := f235_2.other W237 (Or.inl ne239)
  have f241 : Exa Z h237 a1 "java/util/ArrayList" := f235_0.wr W237
  obtain ⟨T242, h242, X242, e242, W242, st242⟩ := putF X237 hx hZ hown (host := "") (Or.inl (own_w hw 78 rfl)) Via.refl e237 f240 f241 (Or.inl (own_w hw 79 rfl)) (own_w hw 48 rfl) (ty := .int) (by decide) rfl rfl (g := (mkF m 19 #[.val (.ref a1), .val (.ref a2), .val (.ref x_235), .val (.int (0 : Int32))] [(.int (1 : Int32)), (.ref a1)])) rfl rfl (hb hby dj38_24_19)
  refine own_Go.st st242 ?_
  have N242 := Fr.snoc X242 N237 (by omega)
  have z242 : h237.size ≤ h242.size := Nat.le_of_eq W242.size.symm
  have f243 : Fld Z h242 a1 "java/util/ArrayList" "size" "I" (.int (1 : Int32)) := f240.same W242
  show own_Go _ _ _ _ (T242.setTop (mkF m 22 #[.val (.ref a1), .val (.ref a2), .val (.ref x_235), .val (.int (0 : Int32))] []))
  obtain ⟨fs244, hr244, hrun244, hend244, hW244, hsm244⟩ := X242.leave (v := none) (fun _ => rfl)
  have f245 : Exa Z h242 a1 "java/util/ArrayList" := f241.wr W242
  have f246 : Fld Z h237 a1 "java/util/ArrayList" "elementData" "[Ljava/lang/Object;" (.ref x_235) := f235_1.other W237 (Or.inl ne239)
  have f247 : Fld Z h242 a1 "java/util/ArrayList" "elementData" "[Ljava/lang/Object;" (.ref x_235) := f246.other W242 (Or.inr (slot_ne (Or.inl (own_w hw 70 rfl)) (Or.inl (own_w hw 79 rfl)) (by decide) (t := (.array (.object "java/lang/Object"))) (t' := .int) (by decide) (by decide)))
  have f248 : Arv Z h242 x_235 k_235 (.object "java/lang/Object") (10 : Int32) ((([] : List Addr) ++ [a2]).map Value.ref) .null := f238.other W242 (Ne.symm ne239)
  have f249 : Exa Z h237 x_235 "[Ljava/lang/Object;" := f235_4.wr W237
  have f250 : Exa Z h242 x_235 "[Ljava/lang/Object;" := f249.wr W242
  have f251 : Fld Z h237 a1 "java/util/AbstractList" "modCount" "I" (.int mc) := f235_5.other W237 (Or.inl ne239)
  have f252 : Fld Z h242 a1 "java/util/AbstractList" "modCount" "I" (.int mc) := f251.other W242 (Or.inr (slot_ne (Or.inl (own_w hw 67 rfl)) (Or.inl (own_w hw 79 rfl)) (by decide) (t := .int) (t' := .int) (by decide) (by decide)))
  have K253 : Keep h0 T235.heap [a1] := (Keep.refl h0 [a1]).trans K235 (allS (Or.inl (List.mem_of_getElem? (i := 0) rfl)) all0)
  have K254 : Keep h0 h237 [a1] := K253.wr W237 (Or.inr (by omega))
  have K255 : Keep h0 h242 [a1] := K254.wr W242 (Or.inl (List.mem_of_getElem? (i := 0) rfl))
  subst hPP
  refine ⟨_, _, X242.returnOut hx Bd.returns (hb hby dj38_24_22) hr244, hrun244, hend244, _, _, rfl, ?_, ⟨_, rfl⟩, hW244, hsm244.mono (by decide) (by decide)⟩
  · show Q_addG3 Z _ _ _ _ _ h0 _ T242.heap _
    rw [e242]
    exact ⟨x_235, k_235, rfl, N242, K255, f245, f247, f248, f250, f243, f252, (by omega), pr235_1⟩
def Q_addN3 (Z : State) (a1 : Nat) (a2 : Nat) (dd : Nat) (p4 : Int32) (xs : List Addr) (k : ClassId) (mc : Int32) (h0 : Heap) (v : Option Value) (h : Heap) (L : List Loc) : Prop := v = none ∧ Fr Z.heap.size L ∧ Keep h0 h [a1, dd] ∧ Exa Z h a1 "java/util/ArrayList" ∧ Arv Z h dd k (.object "java/lang/Object") (10 : Int32) ((xs ++ [a2]).map Value.ref) .null ∧ Fld Z h a1 "java/util/ArrayList" "size" "I" (.int (Int32.ofNat (xs ++ [a2]).length)) ∧ Fld Z h a1 "java/util/ArrayList" "elementData" "[Ljava/lang/Object;" (.ref dd) ∧ Fld Z h a1 "java/util/AbstractList" "modCount" "I" (.int mc)
set_option maxRecDepth 65536 in
set_option maxHeartbeats 40000000 in
theorem rm_addN3 (l : Launch) (Z : State) (a0 : Array Value) (hw : ∀ d ∈ tables_1, d.before a0 Z = true) (ws : List Jvm.Cond) (a1 : Nat) (a2 : Nat) (dd : Nat) (p4 : Int32) (xs : List Addr) (k : ClassId) (mc : Int32) (h0 : Heap) (OL : Old Z Z.heap.size h0) (p0_ : Exa Z h0 a1 "java/util/ArrayList") (p1_ : Fld Z h0 a1 "java/util/ArrayList" "size" "I" (.int p4)) (p2_ : Exa Z h0 a2 "java/lang/String") (p3_ : Arv Z h0 dd k (.object "java/lang/Object") (10 : Int32) (xs.map Value.ref) .null) (p4_ : Fld Z h0 a1 "java/util/ArrayList" "elementData" "[Ljava/lang/Object;" (.ref dd)) (p5_ : Fld Z h0 a1 "java/util/AbstractList" "modCount" "I" (.int mc)) (hn0 : Z.heap.size ≤ a1) (hnd : Z.heap.size ≤ dd) (hov : Ovr Z k "java/lang/Object") (hlx : xs.length ≤ 2) (hp4 : p4 = Int32.ofNat xs.length) :
    MetFree l mN15 (head1 (Jvm.Cond.code mN15 jdk_38_method_24_code 4 none :: ws) rM0) (fun a U => a = #[(.ref a1), (.ref a2), (.ref dd), (.int p4)] ∧ Z.Warmed39 U.vm ∧ U.heap = h0) (fun _ _ _ _ _ => True) (fun _ U o U' => ∃ v L, o = .returned v ∧ Q_addN3 Z a1 a2 dd p4 xs k mc h0 v U'.heap L ∧ FrameEnd U o U' L rM0.cells rM0.slots) := by
  refine MetFree.of_bodySF (plainFor_of_name pn_79) hisR ?_
  intro p e s m args below meth c s₁ Bd hml0 hP hK
  obtain ⟨rfl, hZ, hh⟩ := hP
  have hx := Bd.exec
  have hby := Bd.bytes
  have hml : c.maxLocals = 4 := hml0
  have hown : s.vm.findClass "java/util/ArrayList" = some m.cls := findClass_of_methodNamed Bd.named
  have hnm := (name_of_methodNamed Bd.named Bd.method).1
  have X0 : Stand p l e rM0 s m #[(.ref a1), (.ref a2), (.ref dd), (.int p4)] below meth c s₁ [] 0 0 := Stand.of_body Bd
  have e0 : s₁.heap = h0 := by rw [← hh, Bd.state]; rfl
  have N0 := Fr.nil Z.heap.size
  have Z0 : Z.heap.size ≤ h0.size := OL.2.1
  have lt_0 : @LT.lt Nat _ a1 h0.size := p0_.lt
  have lt_1 : @LT.lt Nat _ a1 h0.size := p1_.lt
  have lt_2 : @LT.lt Nat _ a2 h0.size := p2_.lt
  have lt_3 : @LT.lt Nat _ dd h0.size := p3_.lt
  have lt_4 : @LT.lt Nat _ a1 h0.size := p4_.lt
  have lt_5 : @LT.lt Nat _ a1 h0.size := p5_.lt
  show own_Go p.tables e below (fun o tE => ∃ v L, o = .returned v ∧ Q_addN3 Z a1 a2 dd p4 xs k mc h0 v tE.heap L ∧ FrameEnd s o tE L rM0.cells rM0.slots) (s₁.setTop (entryFrame m #[(.ref a1), (.ref a2), (.ref dd), (.int p4)] 4))
  refine own_hd (fun PP hPP => ?_)
  refine own_Go.st (fun t k => castTop (ef_129 m a1 a2 dd p4) k) ?_
  subst hp4
  refine own_Go.st (fun _ k => XS.iloadN X0.here hx rfl (hb hby dj38_24_0) rfl (XS.aloadN X0.here hx rfl (hb hby dj38_24_1) rfl rfl k)) ?_
  show own_Go _ _ _ _ (s₁.setTop (mkF m 2 #[.val (.ref a1), .val (.ref a2), .val (.ref dd), .val (.int (Int32.ofNat xs.length))] [(.ref dd), (.int (Int32.ofNat xs.length))]))
  obtain ⟨c256, Ar256, q256, S256, Nn256, H256, G256⟩ := id p3_
  refine own_Go.st (X0.arraylength hx (own_rwE e0 Ar256.1) (State.isArrayOf_alike hZ.alike Ar256.2.1) (g := (mkF m 2 #[.val (.ref a1), .val (.ref a2), .val (.ref dd), .val (.int (Int32.ofNat xs.length))] [(.ref dd), (.int (Int32.ofNat xs.length))])) rfl rfl (hb hby dj38_24_2)) ?_
  rw [len_of S256 Nn256]
  show own_Go _ _ _ _ (s₁.setTop (mkF m 3 #[.val (.ref a1), .val (.ref a2), .val (.ref dd), .val (.int (Int32.ofNat xs.length))] [(.int (10 : Int32)), (.int (Int32.ofNat xs.length))]))
  have hc257 : ¬ ((Int32.ofNat xs.length) = (10 : Int32)) := fun q => absurd ((own_ofE (j := 10) (by omega) (by omega)).mp q) (by omega)
  refine own_Go.st (fun _ k => XS.icmpYes X0.here hx rfl (pc0 := 3) (pc' := 11) rfl (hb hby dj38_24_3) rfl (feq hc257).2 (by decide) (by decide) k) ?_
  refine own_Go.st (fun _ k => XS.aloadN X0.here hx rfl (hb hby dj38_24_11) rfl rfl (XS.iloadN X0.here hx rfl (hb hby dj38_24_12) rfl (XS.aloadN X0.here hx rfl (hb hby dj38_24_13) rfl rfl k))) ?_
  show own_Go _ _ _ _ (s₁.setTop (mkF m 14 #[.val (.ref a1), .val (.ref a2), .val (.ref dd), .val (.int (Int32.ofNat xs.length))] [(.ref a2), (.int (Int32.ofNat xs.length)), (.ref dd)]))
  obtain ⟨c258, Ar258, q258, S258, Nn258, H258, G258⟩ := id p3_
  have hin258 : ¬ ((Int32.ofNat xs.length) < 0 ∨ c258.slots.size ≤ ((Int32.ofNat xs.length)).toNatClampNeg) := inb_of S258 ⟨own_of0 (by omega), (own_oflt (j := 10) (by omega) (by omega)).mpr (by omega)⟩
  obtain ⟨T258, h258, X258, e258, W258, st258⟩ := stR X0 hx hZ e0 Ar258 (j := (Int32.ofNat xs.length)) hin258 rfl (Sto.of Ar258 (by rw [q258]; exact hov) (Ins.of_exa p2_ (own_w hw 101 rfl))) (g := (mkF m 14 #[.val (.ref a1), .val (.ref a2), .val (.ref dd), .val (.int (Int32.ofNat xs.length))] [(.ref a2), (.int (Int32.ofNat xs.length)), (.ref dd)])) rfl rfl (hb hby dj38_24_14)
  refine own_Go.st st258 ?_
  have N258 := Fr.snoc X258 N0 (by omega)
  have z258 : h0.size ≤ h258.size := Nat.le_of_eq W258.size.symm
  have f259 : Arv Z h258 dd k (.object "java/lang/Object") (10 : Int32) ((xs ++ [a2]).map Value.ref) .null := own_pushX p3_ rfl W258 rfl (by first | omega | simp)
  refine own_Go.st (fun _ k => XS.aloadN X258.here hx rfl (hb hby dj38_24_15) rfl rfl (XS.iloadN X258.here hx rfl (hb hby dj38_24_16) rfl (XS.iconst X258.here hx rfl (hb hby dj38_24_17) (XS.iadd X258.here hx rfl (hb hby dj38_24_18) rfl k)))) ?_
  show own_Go _ _ _ _ (T258.setTop (mkF m 19 #[.val (.ref a1), .val (.ref a2), .val (.ref dd), .val (.int (Int32.ofNat xs.length))] [(.int ((Int32.ofNat xs.length) + (1 : Int32))), (.ref a1)]))
  rw [show Int32.ofNat xs.length + (1 : Int32) = Int32.ofNat (xs ++ [a2]).length from (own_ofS (by omega)).trans (congrArg Int32.ofNat (by simp))]
  show own_Go _ _ _ _ (T258.setTop (mkF m 19 #[.val (.ref a1), .val (.ref a2), .val (.ref dd), .val (.int (Int32.ofNat xs.length))] [(.int (Int32.ofNat (xs ++ [a2]).length)), (.ref a1)]))
  have f260 : Fld Z h258 a1 "java/util/ArrayList" "size" "I" (.int (Int32.ofNat xs.length)) := p1_.other W258 (Or.inl (Exa.neArv p0_ p3_ (own_w hw 48 rfl)))
  have f261 : Exa Z h258 a1 "java/util/ArrayList" := p0_.wr W258
  obtain ⟨T262, h262, X262, e262, W262, st262⟩ := putF X258 hx hZ hown (host := "") (Or.inl (own_w hw 78 rfl)) Via.refl e258 f260 f261 (Or.inl (own_w hw 79 rfl)) (own_w hw 48 rfl) (ty := .int) (by decide) rfl rfl (g := (mkF m 19 #[.val (.ref a1), .val (.ref a2), .val (.ref dd), .val (.int (Int32.ofNat xs.length))] [(.int (Int32.ofNat (xs ++ [a2]).length)), (.ref a1)])) rfl rfl (hb hby dj38_24_19)
  refine own_Go.st st262 ?_
  have N262 := Fr.snoc X262 N258 (by omega)
  have z262 : h258.size ≤ h262.size := Nat.le_of_eq W262.size.symm
  have f263 : Fld Z h262 a1 "java/util/ArrayList" "size" "I" (.int (Int32.ofNat (xs ++ [a2]).length)) := f260.same W262
  show own_Go _ _ _ _ (T262.setTop (mkF m 22 #[.val (.ref a1), .val (.ref a2), .val (.ref dd), .val (.int (Int32.ofNat xs.length))] []))
  obtain ⟨fs264, hr264, hrun264, hend264, hW264, hsm264⟩ := X262.leave (v := none) (fun _ => rfl)
  have K265 : Keep h0 h258 [a1, dd] := (Keep.refl h0 [a1, dd]).wr W258 (Or.inl (List.mem_of_getElem? (i := 1) rfl))
  have K266 : Keep h0 h262 [a1, dd] := K265.wr W262 (Or.inl (List.mem_of_getElem? (i := 0) rfl))
  have f267 : Exa Z h262 a1 "java/util/ArrayList" := f261.wr W262
  have f268 : Arv Z h262 dd k (.object "java/lang/Object") (10 : Int32) ((xs ++ [a2]).map Value.ref) .null := f259.other W262 (Ne.symm (Exa.neArv p0_ p3_ (own_w hw 48 rfl)))
  have f269 : Fld Z h258 a1 "java/util/ArrayList" "elementData" "[Ljava/lang/Object;" (.ref dd) := p4_.other W258 (Or.inl (Exa.neArv p0_ p3_ (own_w hw 48 rfl)))
  have f270 : Fld Z h262 a1 "java/util/ArrayList" "elementData" "[Ljava/lang/Object;" (.ref dd) := f269.other W262 (Or.inr (slot_ne (Or.inl (own_w hw 70 rfl)) (Or.inl (own_w hw 79 rfl)) (by decide) (t := (.array (.object "java/lang/Object"))) (t' := .int) (by decide) (by decide)))
  have f271 : Fld Z h258 a1 "java/util/AbstractList" "modCount" "I" (.int mc) := p5_.other W258 (Or.inl (Exa.neArv p0_ p3_ (own_w hw 48 rfl)))
  have f272 : Fld Z h262 a1 "java/util/AbstractList" "modCount" "I" (.int mc) := f271.other W262 (Or.inr (slot_ne (Or.inl (own_w hw 67 rfl)) (Or.inl (own_w hw 79 rfl)) (by decide) (t := .int) (t' := .int) (by decide) (by decide)))
  subst hPP
  refine ⟨_, _, X262.returnOut hx Bd.returns (hb hby dj38_24_22) hr264, hrun264, hend264, _, _, rfl, ?_, ⟨_, rfl⟩, hW264, hsm264.mono (by decide) (by decide)⟩
  · show Q_addN3 Z _ _ _ _ _ _ _ h0 _ T262.heap _
    rw [e262]
    exact ⟨rfl, N262, K266, f267, f268, f263, f270, f272⟩
theorem dj38_25_0 : decode jdk_38_method_25_code 0 = .ok (.aload_n 0, 1) := by decide +kernel
theorem dj38_25_1 : decode jdk_38_method_25_code 1 = .ok (.dup, 1) := by decide +kernel
theorem dj38_25_2 : decode jdk_38_method_25_code 2 = .ok (.getfield 63, 3) := by decide +kernel
theorem dj38_25_5 : decode jdk_38_method_25_code 5 = .ok (.iconst 1, 1) := by decide +kernel
theorem dj38_25_6 : decode jdk_38_method_25_code 6 = .ok (.iadd, 1) := by decide +kernel
theorem dj38_25_7 : decode jdk_38_method_25_code 7 = .ok (.putfield 63, 3) := by decide +kernel
theorem dj38_25_10 : decode jdk_38_method_25_code 10 = .ok (.aload_n 0, 1) := by decide +kernel
theorem dj38_25_11 : decode jdk_38_method_25_code 11 = .ok (.aload_n 1, 1) := by decide +kernel
theorem dj38_25_12 : decode jdk_38_method_25_code 12 = .ok (.aload_n 0, 1) := by decide +kernel
theorem dj38_25_13 : decode jdk_38_method_25_code 13 = .ok (.getfield 9, 3) := by decide +kernel
theorem dj38_25_16 : decode jdk_38_method_25_code 16 = .ok (.aload_n 0, 1) := by decide +kernel
theorem dj38_25_17 : decode jdk_38_method_25_code 17 = .ok (.getfield 48, 3) := by decide +kernel
theorem pd_160 : parseMethodDescriptor "(Ljava/lang/Object;[Ljava/lang/Object;I)V" = some ⟨[(.object "java/lang/Object"), (.array (.object "java/lang/Object")), .int], none⟩ := by decide +kernel
theorem dj38_25_20 : decode jdk_38_method_25_code 20 = .ok (.invokevirtual 131, 3) := by decide +kernel
theorem dj38_25_23 : decode jdk_38_method_25_code 23 = .ok (.iconst 1, 1) := by decide +kernel
theorem dj38_25_24 : decode jdk_38_method_25_code 24 = .ok (.ireturn, 1) := by decide +kernel
def Q_addG (Z : State) (a1 : Nat) (a2 : Nat) (ad : Nat) (ka : ClassId) (mc : Int32) (h0 : Heap) (v : Option Value) (h : Heap) (L : List Loc) : Prop := ∃ (x : Nat), ∃ (k : ClassId), ∃ (mc2 : Int32), v = some (.int (1 : Int32)) ∧ Fr Z.heap.size L ∧ Keep h0 h [a1] ∧ Exa Z h a1 "java/util/ArrayList" ∧ Fld Z h a1 "java/util/ArrayList" "elementData" "[Ljava/lang/Object;" (.ref x) ∧ Arv Z h x k (.object "java/lang/Object") (10 : Int32) (([] ++ [a2] : List Addr).map Value.ref) .null ∧ Exa Z h x "[Ljava/lang/Object;" ∧ Fld Z h a1 "java/util/ArrayList" "size" "I" (.int (1 : Int32)) ∧ Fld Z h a1 "java/util/AbstractList" "modCount" "I" (.int mc2) ∧ (h0.size ≤ x) ∧ (Ovr Z k "java/lang/Object")
set_option maxRecDepth 65536 in
set_option maxHeartbeats 40000000 in
theorem rm_addG (l : Launch) (Z : State) (a0 : Array Value) (hw : ∀ d ∈ tables_1, d.before a0 Z = true) (ws : List Jvm.Cond) (a1 : Nat) (a2 : Nat) (ad : Nat) (ka : ClassId) (mc : Int32) (h0 : Heap) (OL : Old Z Z.heap.size h0) (p0_ : Exa Z h0 a1 "java/util/ArrayList") (p1_ : Fld Z h0 a1 "java/util/ArrayList" "elementData" "[Ljava/lang/Object;" (.ref ad)) (p2_ : Fld Z h0 a1 "java/util/ArrayList" "size" "I" (.int (0 : Int32))) (p3_ : Arv Z h0 ad ka (.object "java/lang/Object") (0 : Int32) [] .null) (p4_ : Exa Z h0 a2 "java/lang/String") (p5_ : Fld Z h0 a1 "java/util/AbstractList" "modCount" "I" (.int mc)) (st_DEFAULTCAPACITY_EMPTY_ELEMENTDATA : Sta Z Z.heap "java/util/ArrayList" "DEFAULTCAPACITY_EMPTY_ELEMENTDATA" "[Ljava/lang/Object;" (.ref ad)) (hn0 : Z.heap.size ≤ a1) :
    MetFree l mN14 (head1 (Jvm.Cond.code mN14 jdk_38_method_25_code 2 (some .boolean) :: ws) rM19) (fun a U => a = #[(.ref a1), (.ref a2)] ∧ Z.Warmed39 U.vm ∧ U.heap = h0) (fun _ _ _ _ _ => True) (fun _ U o U' => ∃ v L, o = .returned v ∧ Q_addG Z a1 a2 ad ka mc h0 v U'.heap L ∧ FrameEnd U o U' L rM19.cells rM19.slots) := by
  refine MetFree.of_bodySF (plainFor_of_name pn_79) hisR ?_
  intro p e s m args below meth c s₁ Bd hml0 hP hK
  obtain ⟨rfl, hZ, hh⟩ := hP
  have hx := Bd.exec
  have hby := Bd.bytes
  have hml : c.maxLocals = 2 := hml0
  have hown : s.vm.findClass "java/util/ArrayList" = some m.cls := findClass_of_methodNamed Bd.named
  have hnm := (name_of_methodNamed Bd.named Bd.method).1
  have X0 : Stand p l e rM19 s m #[(.ref a1), (.ref a2)] below meth c s₁ [] 0 0 := Stand.of_body Bd
  have e0 : s₁.heap = h0 := by rw [← hh, Bd.state]; rfl
  have N0 := Fr.nil Z.heap.size
  have Z0 : Z.heap.size ≤ h0.size := OL.2.1
  have lt_0 : @LT.lt Nat _ a1 h0.size := p0_.lt
  have lt_1 : @LT.lt Nat _ a1 h0.size := p1_.lt
  have lt_2 : @LT.lt Nat _ a1 h0.size := p2_.lt
  have lt_3 : @LT.lt Nat _ ad h0.size := p3_.lt
  have lt_4 : @LT.lt Nat _ a2 h0.size := p4_.lt
  have lt_5 : @LT.lt Nat _ a1 h0.size := p5_.lt
  show own_Go p.tables e below (fun o tE => ∃ v L, o = .returned v ∧ Q_addG Z a1 a2 ad ka mc h0 v tE.heap L ∧ FrameEnd s o tE L rM19.cells rM19.slots) (s₁.setTop (entryFrame m #[(.ref a1), (.ref a2)] 2))
  refine own_hd (fun PP hPP => ?_)
  refine own_Go.st (fun t k => castTop (ef_56 m a1 a2) k) ?_
  refine own_Go.st (fun _ k => XS.aloadN X0.here hx rfl (hb hby dj38_25_0) rfl rfl (XS.dup X0.here hx rfl (hb hby dj38_25_1) rfl rfl k)) ?_
  show own_Go _ _ _ _ (s₁.setTop (mkF m 2 #[.val (.ref a1), .val (.ref a2)] [(.ref a1), (.ref a1)]))
  obtain ⟨T273, X273, e273, st273⟩ := getF X0 hx hZ hown (host := "") (Or.inl (own_w hw 76 rfl)) (Via.of (own_w hw 77 rfl)) e0 p5_ (g := (mkF m 2 #[.val (.ref a1), .val (.ref a2)] [(.ref a1), (.ref a1)])) rfl rfl (hb hby dj38_25_2)
  refine own_Go.st st273 ?_
  refine own_Go.st (fun _ k => XS.iconst X273.here hx rfl (hb hby dj38_25_5) (XS.iadd X273.here hx rfl (hb hby dj38_25_6) rfl k)) ?_
  show own_Go _ _ _ _ (T273.setTop (mkF m 7 #[.val (.ref a1), .val (.ref a2)] [(.int (mc + (1 : Int32))), (.ref a1)]))
  obtain ⟨T274, h274, X274, e274, W274, st274⟩ := putF X273 hx hZ hown (host := "") (Or.inl (own_w hw 76 rfl)) (Via.of (own_w hw 77 rfl)) e273 p5_ p0_ (Or.inl (own_w hw 67 rfl)) (own_w hw 48 rfl) (ty := .int) (by decide) rfl rfl (g := (mkF m 7 #[.val (.ref a1), .val (.ref a2)] [(.int (mc + (1 : Int32))), (.ref a1)])) rfl rfl (hb hby dj38_25_7)
  refine own_Go.st st274 ?_
  have N274 := Fr.snoc X274 N0 (by omega)
  have z274 : h0.size ≤ h274.size := Nat.le_of_eq W274.size.symm
  have f275 : Fld Z h274 a1 "java/util/AbstractList" "modCount" "I" (.int (mc + (1 : Int32))) := p5_.same W274
  refine own_Go.st (fun _ k => XS.aloadN X274.here hx rfl (hb hby dj38_25_10) rfl rfl (XS.aloadN X274.here hx rfl (hb hby dj38_25_11) rfl rfl (XS.aloadN X274.here hx rfl (hb hby dj38_25_12) rfl rfl k))) ?_
  show own_Go _ _ _ _ (T274.setTop (mkF m 13 #[.val (.ref a1), .val (.ref a2)] [(.ref a1), (.ref a2), (.ref a1)]))
  have f276 : Fld Z h274 a1 "java/util/ArrayList" "elementData" "[Ljava/lang/Object;" (.ref ad) := p1_.other W274 (Or.inr (slot_ne (Or.inl (own_w hw 70 rfl)) (Or.inl (own_w hw 67 rfl)) (by decide) (t := (.array (.object "java/lang/Object"))) (t' := .int) (by decide) (by decide)))
  obtain ⟨T277, X277, e277, st277⟩ := getF X274 hx hZ hown (host := "") (Or.inl (own_w hw 69 rfl)) Via.refl e274 f276 (g := (mkF m 13 #[.val (.ref a1), .val (.ref a2)] [(.ref a1), (.ref a2), (.ref a1)])) rfl rfl (hb hby dj38_25_13)
  refine own_Go.st st277 ?_
  refine own_Go.st (fun _ k => XS.aloadN X277.here hx rfl (hb hby dj38_25_16) rfl rfl k) ?_
  show own_Go _ _ _ _ (T277.setTop (mkF m 17 #[.val (.ref a1), .val (.ref a2)] [(.ref a1), (.ref ad), (.ref a2), (.ref a1)]))
  have f278 : Fld Z h274 a1 "java/util/ArrayList" "size" "I" (.int (0 : Int32)) := p2_.other W274 (Or.inr (slot_ne (Or.inl (own_w hw 79 rfl)) (Or.inl (own_w hw 67 rfl)) (by decide) (t := .int) (t' := .int) (by decide) (by decide)))
  obtain ⟨T279, X279, e279, st279⟩ := getF X277 hx hZ hown (host := "") (Or.inl (own_w hw 78 rfl)) Via.refl e277 f278 (g := (mkF m 17 #[.val (.ref a1), .val (.ref a2)] [(.ref a1), (.ref ad), (.ref a2), (.ref a1)])) rfl rfl (hb hby dj38_25_17)
  refine own_Go.st st279 ?_
  show own_Go _ _ _ _ (T279.setTop (mkF m 20 #[.val (.ref a1), .val (.ref a2)] [(.int (0 : Int32)), (.ref ad), (.ref a2), (.ref a1)]))
  have f281 : Exa Z h274 a1 "java/util/ArrayList" := p0_.wr W274
  have ne282 : @Ne Nat a1 ad := Exa.neArv p0_ p3_ (own_w hw 48 rfl)
  have f283 : Arv Z h274 ad ka (.object "java/lang/Object") (0 : Int32) [] .null := p3_.other W274 (Ne.symm ne282)
  have f284 : Exa Z h274 a2 "java/lang/String" := p4_.wr W274
  have f285 : Old Z Z.heap.size h274 := OL.wr W274 (by omega)
  obtain ⟨cq280, q280, q280'⟩ := f281.cell
  obtain ⟨_, _, ⟨T280, L280, k280, n280⟩, -, X280, ⟨Lc280, hQ280, l280, y280, z280⟩, st280⟩ := X279.privateBack hx (y := mN15) hown (own_v hZ hw 80 rfl) (own_v hZ hw 81 rfl) (own_v hZ hw 83 rfl) (Cond.privateMethod_at (mvP hZ (own_w hw 82 rfl) (args := #[]))) (own_v hZ hw 84 rfl) (by decide) (backOf (W := 0) (rm_addG3 l Z a0 hw [] a1 a2 ad ka (mc + (1 : Int32)) h274 f285 f281 f276 f278 f283 f284 f275 st_DEFAULTCAPACITY_EMPTY_ELEMENTDATA hn0) hZ (own_w hw 84 rfl) (own_w hw 49 rfl) (by decide) (by decide)) (g := (mkF m 20 #[.val (.ref a1), .val (.ref a2)] [(.int (0 : Int32)), (.ref ad), (.ref a2), (.ref a1)])) rfl (by rw [hml]; rfl) (Steps.refl _) (a := a1) (own_rwE e279 q280) q280' (argsL := [(.ref a2), (.ref ad), (.int (0 : Int32))]) (rest := []) (lenOf pd_160 rfl) rfl (by show 2 * 0 + _ ≤ _; exact Nat.le_of_eq rfl) (hb hby dj38_25_20) (fun _ _ => ⟨rfl, e279, (by decide : 0 + 1 ≤ _), (by decide : 0 + 10 ≤ _)⟩)
  dsimp only [Pt.U, Pt.locs, Pt.cells, Pt.slots] at X280 l280 y280 z280 st280 hQ280
  subst l280 y280 z280
  obtain ⟨x_280, k_280, rfl, N280q, K280, f280_0, f280_1, f280_2, f280_3, f280_4, f280_5, pr280_0, pr280_1⟩ := hQ280
  have N280 := Fr.app N274 N280q
  have z280 : h274.size ≤ T280.heap.size := K280.1
  have lt280_0 : @LT.lt Nat _ a1 T280.heap.size := f280_0.lt
  have lt280_1 : @LT.lt Nat _ a1 T280.heap.size := f280_1.lt
  have lt280_2 : @LT.lt Nat _ x_280 T280.heap.size := f280_2.lt
  have lt280_3 : @LT.lt Nat _ x_280 T280.heap.size := f280_3.lt
  have lt280_4 : @LT.lt Nat _ a1 T280.heap.size := f280_4.lt
  have lt280_5 : @LT.lt Nat _ a1 T280.heap.size := f280_5.lt
  refine own_Go.tr st280 ?_
  refine own_Go.st (fun _ k => XS.iconst X280.here hx rfl (hb hby dj38_25_23) k) ?_
  show own_Go _ _ _ _ (T280.setTop (mkF m 24 #[.val (.ref a1), .val (.ref a2)] [(.int (1 : Int32))]))
  obtain ⟨fs286, hr286, hrun286, hend286, hW286, hsm286⟩ := X280.leave (v := some (.int (nar .boolean (1 : Int32)))) (fun h => by rw [Bd.returns] at h; cases h)
  have K287 : Keep h0 h274 [a1] := (Keep.refl h0 [a1]).wr W274 (Or.inl (List.mem_of_getElem? (i := 0) rfl))
  have K288 : Keep h0 T280.heap [a1] := K287.trans K280 (allS (Or.inl (List.mem_of_getElem? (i := 0) rfl)) all0)
  subst hPP
  refine ⟨_, _, retN X280 hx (t := .boolean) Bd.returns (by simp) (hb hby dj38_25_24) hr286, hrun286, hend286, _, _, rfl, ?_, ⟨_, rfl⟩, hW286, hsm286.mono (by decide) (by decide)⟩
  · show Q_addG Z _ _ _ _ _ h0 _ T280.heap _
    exact ⟨x_280, k_280, (mc + (1 : Int32)), rfl, N280, K288, f280_0, f280_1, f280_2, f280_3, f280_4, f280_5, (by omega), pr280_1⟩
def Q_addN (Z : State) (a1 : Nat) (a2 : Nat) (dd : Nat) (xs : List Addr) (k : ClassId) (mc : Int32) (h0 : Heap) (v : Option Value) (h : Heap) (L : List Loc) : Prop := ∃ (mc2 : Int32), v = some (.int (1 : Int32)) ∧ Fr Z.heap.size L ∧ Keep h0 h [a1, dd] ∧ Exa Z h a1 "java/util/ArrayList" ∧ Fld Z h a1 "java/util/ArrayList" "elementData" "[Ljava/lang/Object;" (.ref dd) ∧ Arv Z h dd k (.object "java/lang/Object") (10 : Int32) ((xs ++ [a2]).map Value.ref) .null ∧ Fld Z h a1 "java/util/ArrayList" "size" "I" (.int (Int32.ofNat (xs ++ [a2]).length)) ∧ Fld Z h a1 "java/util/AbstractList" "modCount" "I" (.int mc2)
set_option maxRecDepth 65536 in
set_option maxHeartbeats 40000000 in
theorem rm_addN (l : Launch) (Z : State) (a0 : Array Value) (hw : ∀ d ∈ tables_1, d.before a0 Z = true) (ws : List Jvm.Cond) (a1 : Nat) (a2 : Nat) (dd : Nat) (xs : List Addr) (k : ClassId) (mc : Int32) (h0 : Heap) (OL : Old Z Z.heap.size h0) (p0_ : Exa Z h0 a1 "java/util/ArrayList") (p1_ : Fld Z h0 a1 "java/util/ArrayList" "elementData" "[Ljava/lang/Object;" (.ref dd)) (p2_ : Fld Z h0 a1 "java/util/ArrayList" "size" "I" (.int (Int32.ofNat xs.length))) (p3_ : Exa Z h0 a2 "java/lang/String") (p4_ : Arv Z h0 dd k (.object "java/lang/Object") (10 : Int32) (xs.map Value.ref) .null) (p5_ : Fld Z h0 a1 "java/util/AbstractList" "modCount" "I" (.int mc)) (hn0 : Z.heap.size ≤ a1) (hnd : Z.heap.size ≤ dd) (hov : Ovr Z k "java/lang/Object") (hlx : xs.length ≤ 2) :
    MetFree l mN14 (head1 (Jvm.Cond.code mN14 jdk_38_method_25_code 2 (some .boolean) :: ws) rM4) (fun a U => a = #[(.ref a1), (.ref a2)] ∧ Z.Warmed39 U.vm ∧ U.heap = h0) (fun _ _ _ _ _ => True) (fun _ U o U' => ∃ v L, o = .returned v ∧ Q_addN Z a1 a2 dd xs k mc h0 v U'.heap L ∧ FrameEnd U o U' L rM4.cells rM4.slots) := by
  refine MetFree.of_bodySF (plainFor_of_name pn_79) hisR ?_
  intro p e s m args below meth c s₁ Bd hml0 hP hK
  obtain ⟨rfl, hZ, hh⟩ := hP
  have hx := Bd.exec
  have hby := Bd.bytes
  have hml : c.maxLocals = 2 := hml0
  have hown : s.vm.findClass "java/util/ArrayList" = some m.cls := findClass_of_methodNamed Bd.named
  have hnm := (name_of_methodNamed Bd.named Bd.method).1
  have X0 : Stand p l e rM4 s m #[(.ref a1), (.ref a2)] below meth c s₁ [] 0 0 := Stand.of_body Bd
  have e0 : s₁.heap = h0 := by rw [← hh, Bd.state]; rfl
  have N0 := Fr.nil Z.heap.size
  have Z0 : Z.heap.size ≤ h0.size := OL.2.1
  have lt_0 : @LT.lt Nat _ a1 h0.size := p0_.lt
  have lt_1 : @LT.lt Nat _ a1 h0.size := p1_.lt
  have lt_2 : @LT.lt Nat _ a1 h0.size := p2_.lt
  have lt_3 : @LT.lt Nat _ a2 h0.size := p3_.lt
  have lt_4 : @LT.lt Nat _ dd h0.size := p4_.lt
  have lt_5 : @LT.lt Nat _ a1 h0.size := p5_.lt
  show own_Go p.tables e below (fun o tE => ∃ v L, o = .returned v ∧ Q_addN Z a1 a2 dd xs k mc h0 v tE.heap L ∧ FrameEnd s o tE L rM4.cells rM4.slots) (s₁.setTop (entryFrame m #[(.ref a1), (.ref a2)] 2))
  refine own_hd (fun PP hPP => ?_)
  refine own_Go.st (fun t k => castTop (ef_56 m a1 a2) k) ?_
  refine own_Go.st (fun _ k => XS.aloadN X0.here hx rfl (hb hby dj38_25_0) rfl rfl (XS.dup X0.here hx rfl (hb hby dj38_25_1) rfl rfl k)) ?_
  show own_Go _ _ _ _ (s₁.setTop (mkF m 2 #[.val (.ref a1), .val (.ref a2)] [(.ref a1), (.ref a1)]))
  obtain ⟨T289, X289, e289, st289⟩ := getF X0 hx hZ hown (host := "") (Or.inl (own_w hw 76 rfl)) (Via.of (own_w hw 77 rfl)) e0 p5_ (g := (mkF m 2 #[.val (.ref a1), .val (.ref a2)] [(.ref a1), (.ref a1)])) rfl rfl (hb hby dj38_25_2)
  refine own_Go.st st289 ?_
  refine own_Go.st (fun _ k => XS.iconst X289.here hx rfl (hb hby dj38_25_5) (XS.iadd X289.here hx rfl (hb hby dj38_25_6) rfl k)) ?_
  show own_Go _ _ _ _ (T289.setTop (mkF m 7 #[.val (.ref a1), .val (.ref a2)] [(.int (mc + (1 : Int32))), (.ref a1)]))
  obtain ⟨T290, h290, X290, e290, W290, st290⟩ := putF X289 hx hZ hown (host := "") (Or.inl (own_w hw 76 rfl)) (Via.of (own_w hw 77 rfl)) e289 p5_ p0_ (Or.inl (own_w hw 67 rfl)) (own_w hw 48 rfl) (ty := .int) (by decide) rfl rfl (g := (mkF m 7 #[.val (.ref a1), .val (.ref a2)] [(.int (mc + (1 : Int32))), (.ref a1)])) rfl rfl (hb hby dj38_25_7)
  refine own_Go.st st290 ?_
  have N290 := Fr.snoc X290 N0 (by omega)
  have z290 : h0.size ≤ h290.size := Nat.le_of_eq W290.size.symm
  have f291 : Fld Z h290 a1 "java/util/AbstractList" "modCount" "I" (.int (mc + (1 : Int32))) := p5_.same W290
  refine own_Go.st (fun _ k => XS.aloadN X290.here hx rfl (hb hby dj38_25_10) rfl rfl (XS.aloadN X290.here hx rfl (hb hby dj38_25_11) rfl rfl (XS.aloadN X290.here hx rfl (hb hby dj38_25_12) rfl rfl k))) ?_
  show own_Go _ _ _ _ (T290.setTop (mkF m 13 #[.val (.ref a1), .val (.ref a2)] [(.ref a1), (.ref a2), (.ref a1)]))
  have f292 : Fld Z h290 a1 "java/util/ArrayList" "elementData" "[Ljava/lang/Object;" (.ref dd) := p1_.other W290 (Or.inr (slot_ne (Or.inl (own_w hw 70 rfl)) (Or.inl (own_w hw 67 rfl)) (by decide) (t := (.array (.object "java/lang/Object"))) (t' := .int) (by decide) (by decide)))
  obtain ⟨T293, X293, e293, st293⟩ := getF X290 hx hZ hown (host := "") (Or.inl (own_w hw 69 rfl)) Via.refl e290 f292 (g := (mkF m 13 #[.val (.ref a1), .val (.ref a2)] [(.ref a1), (.ref a2), (.ref a1)])) rfl rfl (hb hby dj38_25_13)
  refine own_Go.st st293 ?_
  refine own_Go.st (fun _ k => XS.aloadN X293.here hx rfl (hb hby dj38_25_16) rfl rfl k) ?_
  show own_Go _ _ _ _ (T293.setTop (mkF m 17 #[.val (.ref a1), .val (.ref a2)] [(.ref a1), (.ref dd), (.ref a2), (.ref a1)]))
  have f294 : Fld Z h290 a1 "java/util/ArrayList" "size" "I" (.int (Int32.ofNat xs.length)) := p2_.other W290 (Or.inr (slot_ne (Or.inl (own_w hw 79 rfl)) (Or.inl (own_w hw 67 rfl)) (by decide) (t := .int) (t' := .int) (by decide) (by decide)))
  obtain ⟨T295, X295, e295, st295⟩ := getF X293 hx hZ hown (host := "") (Or.inl (own_w hw 78 rfl)) Via.refl e293 f294 (g := (mkF m 17 #[.val (.ref a1), .val (.ref a2)] [(.ref a1), (.ref dd), (.ref a2), (.ref a1)])) rfl rfl (hb hby dj38_25_17)
  refine own_Go.st st295 ?_
  show own_Go _ _ _ _ (T295.setTop (mkF m 20 #[.val (.ref a1), .val (.ref a2)] [(.int (Int32.ofNat xs.length)), (.ref dd), (.ref a2), (.ref a1)]))
  have f297 : Exa Z h290 a1 "java/util/ArrayList" := p0_.wr W290
  have f298 : Exa Z h290 a2 "java/lang/String" := p3_.wr W290
  have f299 : Arv Z h290 dd k (.object "java/lang/Object") (10 : Int32) (xs.map Value.ref) .null := p4_.other W290 (Ne.symm (Exa.neArv p0_ p4_ (own_w hw 48 rfl)))
  have f300 : Old Z Z.heap.size h290 := OL.wr W290 (by omega)
  obtain ⟨cq296, q296, q296'⟩ := f297.cell
  obtain ⟨_, _, ⟨T296, L296, k296, n296⟩, -, X296, ⟨Lc296, hQ296, l296, y296, z296⟩, st296⟩ := X295.privateBack hx (y := mN15) hown (own_v hZ hw 80 rfl) (own_v hZ hw 81 rfl) (own_v hZ hw 83 rfl) (Cond.privateMethod_at (mvP hZ (own_w hw 82 rfl) (args := #[]))) (own_v hZ hw 84 rfl) (by decide) (backOf (W := 0) (rm_addN3 l Z a0 hw [] a1 a2 dd (Int32.ofNat xs.length) xs k (mc + (1 : Int32)) h290 f300 f297 f294 f298 f299 f292 f291 hn0 hnd hov hlx rfl) hZ (own_w hw 84 rfl) (own_w hw 49 rfl) (by decide) (by decide)) (g := (mkF m 20 #[.val (.ref a1), .val (.ref a2)] [(.int (Int32.ofNat xs.length)), (.ref dd), (.ref a2), (.ref a1)])) rfl (by rw [hml]; rfl) (Steps.refl _) (a := a1) (own_rwE e295 q296) q296' (argsL := [(.ref a2), (.ref dd), (.int (Int32.ofNat xs.length))]) (rest := []) (lenOf pd_160 rfl) rfl (by show 2 * 0 + _ ≤ _; exact Nat.le_of_eq rfl) (hb hby dj38_25_20) (fun _ _ => ⟨rfl, e295, (by decide : 0 + 0 ≤ _), (by decide : 0 + 0 ≤ _)⟩)
  dsimp only [Pt.U, Pt.locs, Pt.cells, Pt.slots] at X296 l296 y296 z296 st296 hQ296
  subst l296 y296 z296
  obtain ⟨rfl, N296q, K296, f296_0, f296_1, f296_2, f296_3, f296_4⟩ := hQ296
  have N296 := Fr.app N290 N296q
  have z296 : h290.size ≤ T296.heap.size := K296.1
  have lt296_0 : @LT.lt Nat _ a1 T296.heap.size := f296_0.lt
  have lt296_1 : @LT.lt Nat _ dd T296.heap.size := f296_1.lt
  have lt296_2 : @LT.lt Nat _ a1 T296.heap.size := f296_2.lt
  have lt296_3 : @LT.lt Nat _ a1 T296.heap.size := f296_3.lt
  have lt296_4 : @LT.lt Nat _ a1 T296.heap.size := f296_4.lt
  refine own_Go.tr st296 ?_
  refine own_Go.st (fun _ k => XS.iconst X296.here hx rfl (hb hby dj38_25_23) k) ?_
  show own_Go _ _ _ _ (T296.setTop (mkF m 24 #[.val (.ref a1), .val (.ref a2)] [(.int (1 : Int32))]))
  obtain ⟨fs301, hr301, hrun301, hend301, hW301, hsm301⟩ := X296.leave (v := some (.int (nar .boolean (1 : Int32)))) (fun h => by rw [Bd.returns] at h; cases h)
  have K302 : Keep h0 h290 [a1, dd] := (Keep.refl h0 [a1, dd]).wr W290 (Or.inl (List.mem_of_getElem? (i := 0) rfl))
  have K303 : Keep h0 T296.heap [a1, dd] := K302.trans K296 (allS (Or.inl (List.mem_of_getElem? (i := 0) rfl)) (allS (Or.inl (List.mem_of_getElem? (i := 1) rfl)) all0))
  subst hPP
  refine ⟨_, _, retN X296 hx (t := .boolean) Bd.returns (by simp) (hb hby dj38_25_24) hr301, hrun301, hend301, _, _, rfl, ?_, ⟨_, rfl⟩, hW301, hsm301.mono (by decide) (by decide)⟩
  · show Q_addN Z _ _ _ _ _ _ h0 _ T296.heap _
    exact ⟨(mc + (1 : Int32)), rfl, N296, K303, f296_0, f296_3, f296_1, f296_2, f296_4⟩
theorem dj38_9_0 : decode jdk_38_method_9_code 0 = .ok (.aload_n 0, 1) := by decide +kernel
theorem dj38_9_1 : decode jdk_38_method_9_code 1 = .ok (.getfield 48, 3) := by decide +kernel
theorem dj38_9_4 : decode jdk_38_method_9_code 4 = .ok (.ifCond .ne 7, 3) := by decide +kernel
theorem dj38_9_7 : decode jdk_38_method_9_code 7 = .ok (.iconst 1, 1) := by decide +kernel
theorem dj38_9_8 : decode jdk_38_method_9_code 8 = .ok (.goto 4, 3) := by decide +kernel
theorem dj38_9_12 : decode jdk_38_method_9_code 12 = .ok (.ireturn, 1) := by decide +kernel
theorem dj38_9_11 : decode jdk_38_method_9_code 11 = .ok (.iconst 0, 1) := by decide +kernel
def Q_alempty (Z : State) (a1 : Nat) (xs : List Addr) (h0 : Heap) (v : Option Value) (h : Heap) (L : List Loc) : Prop := v = some (.int (if xs.length = 0 then (1 : Int32) else 0)) ∧ Fr Z.heap.size L ∧ h = h0
set_option maxRecDepth 65536 in
set_option maxHeartbeats 40000000 in
theorem rm_alempty (l : Launch) (Z : State) (a0 : Array Value) (hw : ∀ d ∈ tables_1, d.before a0 Z = true) (ws : List Jvm.Cond) (a1 : Nat) (xs : List Addr) (h0 : Heap) (OL : Old Z Z.heap.size h0) (p0_ : Fld Z h0 a1 "java/util/ArrayList" "size" "I" (.int (Int32.ofNat xs.length))) (hlx : xs.length ≤ 3) :
    MetFree l mN18 (head1 (Jvm.Cond.code mN18 jdk_38_method_9_code 1 (some .boolean) :: ws) rM0) (fun a U => a = #[(.ref a1)] ∧ Z.Warmed39 U.vm ∧ U.heap = h0) (fun _ _ _ _ _ => True) (fun _ U o U' => ∃ v L, o = .returned v ∧ Q_alempty Z a1 xs h0 v U'.heap L ∧ FrameEnd U o U' L rM0.cells rM0.slots) := by
  refine MetFree.of_bodySF (plainFor_of_name pn_79) hisR ?_
  intro p e s m args below meth c s₁ Bd hml0 hP hK
  obtain ⟨rfl, hZ, hh⟩ := hP
  have hx := Bd.exec
  have hby := Bd.bytes
  have hml : c.maxLocals = 1 := hml0
  have hown : s.vm.findClass "java/util/ArrayList" = some m.cls := findClass_of_methodNamed Bd.named
  have hnm := (name_of_methodNamed Bd.named Bd.method).1
  have X0 : Stand p l e rM0 s m #[(.ref a1)] below meth c s₁ [] 0 0 := Stand.of_body Bd
  have e0 : s₁.heap = h0 := by rw [← hh, Bd.state]; rfl
  have N0 := Fr.nil Z.heap.size
  have Z0 : Z.heap.size ≤ h0.size := OL.2.1
  have lt_0 : @LT.lt Nat _ a1 h0.size := p0_.lt
  show own_Go p.tables e below (fun o tE => ∃ v L, o = .returned v ∧ Q_alempty Z a1 xs h0 v tE.heap L ∧ FrameEnd s o tE L rM0.cells rM0.slots) (s₁.setTop (entryFrame m #[(.ref a1)] 1))
  refine own_hd (fun PP hPP => ?_)
  refine own_Go.st (fun t k => castTop (ef_67 m a1) k) ?_
  refine own_Go.st (fun _ k => XS.aloadN X0.here hx rfl (hb hby dj38_9_0) rfl rfl k) ?_
  show own_Go _ _ _ _ (s₁.setTop (mkF m 1 #[.val (.ref a1)] [(.ref a1)]))
  obtain ⟨T304, X304, e304, st304⟩ := getF X0 hx hZ hown (host := "") (Or.inl (own_w hw 78 rfl)) Via.refl e0 p0_ (g := (mkF m 1 #[.val (.ref a1)] [(.ref a1)])) rfl rfl (hb hby dj38_9_1)
  refine own_Go.st st304 ?_
  show own_Go _ _ _ _ (T304.setTop (mkF m 4 #[.val (.ref a1)] [(.int (Int32.ofNat xs.length))]))
  by_cases h4 : (Int32.ofNat xs.length) = (0 : Int32)
  ·
    refine own_Go.st (fun _ k => XS.ifNo X304.here hx rfl (hb hby dj38_9_4) rfl ((if0 _ _).trans (teq h4).2) k) ?_
    have hq : xs.length = 0 := (own_ofE (j := 0) (by omega) (by omega)).mp h4
    refine own_Go.st (fun _ k => XS.iconst X304.here hx rfl (hb hby dj38_9_7) (XS.goto X304.here hx rfl (pc0 := 8) (pc' := 12) rfl (hb hby dj38_9_8) (by decide) (by decide) k)) ?_
    show own_Go _ _ _ _ (T304.setTop (mkF m 12 #[.val (.ref a1)] [(.int (1 : Int32))]))
    obtain ⟨fs305, hr305, hrun305, hend305, hW305, hsm305⟩ := X304.leave (v := some (.int (nar .boolean (1 : Int32)))) (fun h => by rw [Bd.returns] at h; cases h)
    subst hPP
    refine ⟨_, _, retN X304 hx (t := .boolean) Bd.returns (by simp) (hb hby dj38_9_12) hr305, hrun305, hend305, _, _, rfl, ?_, ⟨_, rfl⟩, hW305, hsm305.mono (by decide) (by decide)⟩
    · show Q_alempty Z _ _ h0 _ T304.heap _
      rw [e304]
      exact ⟨(by rw [if_pos hq]; rfl), N0, rfl⟩
  ·
    refine own_Go.st (fun _ k => XS.ifYes X304.here hx rfl (pc0 := 4) (pc' := 11) rfl (hb hby dj38_9_4) rfl ((if0 _ _).trans (feq h4).2) (by decide) (by decide) k) ?_
    have hq : ¬ xs.length = 0 := fun q => h4 (by rw [q]; rfl)
    refine own_Go.st (fun _ k => XS.iconst X304.here hx rfl (hb hby dj38_9_11) k) ?_
    show own_Go _ _ _ _ (T304.setTop (mkF m 12 #[.val (.ref a1)] [(.int (0 : Int32))]))
    obtain ⟨fs306, hr306, hrun306, hend306, hW306, hsm306⟩ := X304.leave (v := some (.int (nar .boolean (0 : Int32)))) (fun h => by rw [Bd.returns] at h; cases h)
    subst hPP
    refine ⟨_, _, retN X304 hx (t := .boolean) Bd.returns (by simp) (hb hby dj38_9_12) hr306, hrun306, hend306, _, _, rfl, ?_, ⟨_, rfl⟩, hW306, hsm306.mono (by decide) (by decide)⟩
    · show Q_alempty Z _ _ h0 _ T304.heap _
      rw [e304]
      exact ⟨(by rw [if_neg hq]; rfl), N0, rfl⟩
theorem pn_171 : plainName "java/util/Arrays" = true := by first | (simp [plainName, overriddenIn]; done) | decide +kernel
theorem ef_172 (m : MethodId) (x0 : Nat) (x1 : Int32) (x2 : Nat) : entryFrame m #[(.ref x0), (.int x1), (.ref x2)] 4 = mkF m 0 #[.val (.ref x0), .val (.int x1), .val (.ref x2), .unset] [] := by first | (simp [entryFrame, mkF, argsToLocals, Value.category]; done) | rfl
theorem dj65_120_0 : decode jdk_65_method_120_code 0 = .ok (.aload_n 2, 1) := by decide +kernel
theorem dj65_120_1 : decode jdk_65_method_120_code 1 = .ok (.ldc 110, 2) := by decide +kernel
theorem dj65_120_3 : decode jdk_65_method_120_code 3 = .ok (.if_acmp .ne 10, 3) := by decide +kernel
theorem dj65_120_6 : decode jdk_65_method_120_code 6 = .ok (.iload_n 1, 1) := by decide +kernel
theorem dj65_120_7 : decode jdk_65_method_120_code 7 = .ok (.anewarray 2, 3) := by decide +kernel
theorem dj65_120_10 : decode jdk_65_method_120_code 10 = .ok (.goto 14, 3) := by decide +kernel
theorem dj65_120_24 : decode jdk_65_method_120_code 24 = .ok (.astore_n 3, 1) := by decide +kernel
theorem dj65_120_25 : decode jdk_65_method_120_code 25 = .ok (.aload_n 0, 1) := by decide +kernel
theorem dj65_120_26 : decode jdk_65_method_120_code 26 = .ok (.iconst 0, 1) := by decide +kernel
theorem dj65_120_27 : decode jdk_65_method_120_code 27 = .ok (.aload_n 3, 1) := by decide +kernel
theorem dj65_120_28 : decode jdk_65_method_120_code 28 = .ok (.iconst 0, 1) := by decide +kernel
theorem dj65_120_29 : decode jdk_65_method_120_code 29 = .ok (.aload_n 0, 1) := by decide +kernel
theorem dj65_120_30 : decode jdk_65_method_120_code 30 = .ok (.arraylength, 1) := by decide +kernel
theorem dj65_120_31 : decode jdk_65_method_120_code 31 = .ok (.iload_n 1, 1) := by decide +kernel
theorem dj65_120_32 : decode jdk_65_method_120_code 32 = .ok (.invokestatic 304, 3) := by decide +kernel
theorem dj65_120_35 : decode jdk_65_method_120_code 35 = .ok (.invokestatic 150, 3) := by decide +kernel
theorem dj65_120_38 : decode jdk_65_method_120_code 38 = .ok (.aload_n 3, 1) := by decide +kernel
theorem dj65_120_39 : decode jdk_65_method_120_code 39 = .ok (.areturn, 1) := by decide +kernel
def Q_acopy3 (Z : State) (a1 : Nat) (p2 : Int32) (mr : Nat) (xs : List Addr) (cap : Nat) (k : ClassId) (h0 : Heap) (v : Option Value) (h : Heap) (L : List Loc) : Prop := ∃ (x : Nat), ∃ (kx : ClassId), v = some (.ref x) ∧ Fr Z.heap.size L ∧ Keep h0 h [] ∧ Arv Z h x kx (.object "java/lang/Object") (Int32.ofNat xs.length) (xs.map Value.ref) .null ∧ (h0.size ≤ x)
set_option maxRecDepth 65536 in
set_option maxHeartbeats 40000000 in
theorem rm_acopy3 (l : Launch) (Z : State) (a0 : Array Value) (hw : ∀ d ∈ tables_1, d.before a0 Z = true) (ws : List Jvm.Cond) (a1 : Nat) (p2 : Int32) (mr : Nat) (xs : List Addr) (cap : Nat) (k : ClassId) (h0 : Heap) (OL : Old Z Z.heap.size h0) (p0_ : Arv Z h0 a1 k (.object "java/lang/Object") (Int32.ofNat cap) (xs.map Value.ref) .null) (p1_ : own_All Z h0 xs) (hp2 : p2 = Int32.ofNat xs.length) (hlx : xs.length ≤ 3) (hcx : xs.length ≤ cap ∧ cap ≤ 10) (hmir : own_Mir Z "[Ljava/lang/Object;" mr) :
    MetFree l mN21 (head1 (Jvm.Cond.code mN21 jdk_65_method_120_code 4 (some (.array (.object "java/lang/Object"))) :: ws) rM6) (fun a U => a = #[(.ref a1), (.int p2), (.ref mr)] ∧ Z.Warmed39 U.vm ∧ U.heap = h0) (fun _ _ _ _ _ => True) (fun _ U o U' => ∃ v L, o = .returned v ∧ Q_acopy3 Z a1 p2 mr xs cap k h0 v U'.heap L ∧ FrameEnd U o U' L rM6.cells rM6.slots) := by
  refine MetFree.of_bodySF (plainFor_of_name pn_171) hisR ?_
  intro p e s m args below meth c s₁ Bd hml0 hP hK
  obtain ⟨rfl, hZ, hh⟩ := hP
  have hx := Bd.exec
  have hby := Bd.bytes
  have hml : c.maxLocals = 4 := hml0
  have hown : s.vm.findClass "java/util/Arrays" = some m.cls := findClass_of_methodNamed Bd.named
  have hnm := (name_of_methodNamed Bd.named Bd.method).1
  have X0 : Stand p l e rM6 s m #[(.ref a1), (.int p2), (.ref mr)] below meth c s₁ [] 0 0 := Stand.of_body Bd
  have e0 : s₁.heap = h0 := by rw [← hh, Bd.state]; rfl
  have N0 := Fr.nil Z.heap.size
  have Z0 : Z.heap.size ≤ h0.size := OL.2.1
  have lt_0 : @LT.lt Nat _ a1 h0.size := p0_.lt
  show own_Go p.tables e below (fun o tE => ∃ v L, o = .returned v ∧ Q_acopy3 Z a1 p2 mr xs cap k h0 v tE.heap L ∧ FrameEnd s o tE L rM6.cells rM6.slots) (s₁.setTop (entryFrame m #[(.ref a1), (.int p2), (.ref mr)] 4))
  refine own_hd (fun PP hPP => ?_)
  refine own_Go.st (fun t k => castTop (ef_172 m a1 p2 mr) k) ?_
  subst hp2
  refine own_Go.st (fun _ k => XS.aloadN X0.here hx rfl (hb hby dj65_120_0) rfl rfl k) ?_
  show own_Go _ _ _ _ (s₁.setTop (mkF m 1 #[.val (.ref a1), .val (.int (Int32.ofNat xs.length)), .val (.ref mr), .unset] [(.ref mr)]))
  obtain ⟨T307, X307, e307, st307⟩ := own_ldcM X0 hx hZ hown (own_w hw 162 rfl) e0 hmir (g := (mkF m 1 #[.val (.ref a1), .val (.int (Int32.ofNat xs.length)), .val (.ref mr), .unset] [(.ref mr)])) rfl (hb hby dj65_120_1)
  refine own_Go.st st307 ?_
  show own_Go _ _ _ _ (T307.setTop (mkF m 3 #[.val (.ref a1), .val (.int (Int32.ofNat xs.length)), .val (.ref mr), .unset] [(.ref mr), (.ref mr)]))
  refine own_Go.st (fun _ k => Jvm.RoadKit.acmp (g := (mkF m 3 #[.val (.ref a1), .val (.int (Int32.ofNat xs.length)), .val (.ref mr), .unset] [(.ref mr), (.ref mr)])) X307 hx rfl rfl rfl (pc0 := 3) (pc' := 6) (same := true) rfl (hb hby dj65_120_3) rfl (decide_eq_true rfl) (by decide) (by decide) k) ?_
  refine own_Go.st (fun _ k => XS.iloadN X307.here hx rfl (hb hby dj65_120_6) rfl k) ?_
  show own_Go _ _ _ _ (T307.setTop (mkF m 7 #[.val (.ref a1), .val (.int (Int32.ofNat xs.length)), .val (.ref mr), .unset] [(.int (Int32.ofNat xs.length))]))
  obtain ⟨T308, h308, k308, X308, e308, E308, A308, Q308, O308, st308⟩ := newRE X307 hx hZ hown (own_w hw 163 rfl) (own_w hw 100 rfl) e307 (g := (mkF m 7 #[.val (.ref a1), .val (.int (Int32.ofNat xs.length)), .val (.ref mr), .unset] [(.int (Int32.ofNat xs.length))])) rfl (hb hby dj65_120_7) rfl (own_of0 (by omega)) (cap := 3) (by rw [own_ofn (by omega)]; exact hlx) (by decide) (by decide) (by decide) (ad := "[Ljava/lang/Object;") (by decide)
  obtain ⟨b308, g308⟩ : ∃ z, z = h0.size := ⟨_, rfl⟩
  rw [← g308] at A308 Q308 st308
  refine own_Go.st st308 ?_
  have z308 : h0.size ≤ h308.size := E308.1
  have f309 : Arv Z h308 b308 k308 (.object "java/lang/Object") (Int32.ofNat xs.length) [] .null := Arv.new A308 (own_of0 (by omega))
  have lt_b308 : @LT.lt Nat _ b308 h308.size := f309.lt
  refine own_Go.st (fun _ k => XS.goto X308.here hx rfl (pc0 := 10) (pc' := 24) rfl (hb hby dj65_120_10) (by decide) (by decide) (XS.astoreN X308.here hx rfl (hb hby dj65_120_24) rfl rfl (l' := #[.val (.ref a1), .val (.int (Int32.ofNat xs.length)), .val (.ref mr), .val (.ref b308)]) rfl (XS.aloadN X308.here hx rfl (hb hby dj65_120_25) rfl rfl (XS.iconst X308.here hx rfl (hb hby dj65_120_26) (XS.aloadN X308.here hx rfl (hb hby dj65_120_27) rfl rfl k))))) ?_
  show own_Go _ _ _ _ (T308.setTop (mkF m 28 #[.val (.ref a1), .val (.int (Int32.ofNat xs.length)), .val (.ref mr), .val (.ref b308)] [(.ref b308), (.int (0 : Int32)), (.ref a1)]))
  refine own_Go.st (fun _ k => XS.iconst X308.here hx rfl (hb hby dj65_120_28) (XS.aloadN X308.here hx rfl (hb hby dj65_120_29) rfl rfl k)) ?_
  show own_Go _ _ _ _ (T308.setTop (mkF m 30 #[.val (.ref a1), .val (.int (Int32.ofNat xs.length)), .val (.ref mr), .val (.ref b308)] [(.ref a1), (.int (0 : Int32)), (.ref b308), (.int (0 : Int32)), (.ref a1)]))
  have f310 : Arv Z h308 a1 k (.object "java/lang/Object") (Int32.ofNat cap) (xs.map Value.ref) .null := p0_.ext E308
  obtain ⟨c311, Ar311, q311, S311, Nn311, H311, G311⟩ := id f310
  refine own_Go.st (X308.arraylength hx (own_rwE e308 Ar311.1) (State.isArrayOf_alike hZ.alike Ar311.2.1) (g := (mkF m 30 #[.val (.ref a1), .val (.int (Int32.ofNat xs.length)), .val (.ref mr), .val (.ref b308)] [(.ref a1), (.int (0 : Int32)), (.ref b308), (.int (0 : Int32)), (.ref a1)])) rfl rfl (hb hby dj65_120_30)) ?_
  rw [len_of S311 Nn311]
  refine own_Go.st (fun _ k => XS.iloadN X308.here hx rfl (hb hby dj65_120_31) rfl k) ?_
  show own_Go _ _ _ _ (T308.setTop (mkF m 32 #[.val (.ref a1), .val (.int (Int32.ofNat xs.length)), .val (.ref mr), .val (.ref b308)] [(.int (Int32.ofNat xs.length)), (.int (Int32.ofNat cap)), (.int (0 : Int32)), (.ref b308), (.int (0 : Int32)), (.ref a1)]))
  have f313 : Old Z Z.heap.size h308 := OL.ext E308
  obtain ⟨_, _, ⟨T312, L312, k312, n312⟩, -, X312, ⟨Lc312, hQ312, l312, y312, z312⟩, st312⟩ := Jvm.LawKit.callS X308 hx (y := mN3) hown (own_v hZ hw 164 rfl) (own_v hZ hw 165 rfl) (own_v hZ hw 97 rfl) (own_v hZ hw 166 rfl) (by decide) (backOf (W := 4) (rm_mmin l Z a0 hw [] (Int32.ofNat cap) (Int32.ofNat xs.length) h308 f313 ) hZ (own_w hw 166 rfl) (own_w hw 97 rfl) (by decide) (by decide)) (g := (mkF m 32 #[.val (.ref a1), .val (.int (Int32.ofNat xs.length)), .val (.ref mr), .val (.ref b308)] [(.int (Int32.ofNat xs.length)), (.int (Int32.ofNat cap)), (.int (0 : Int32)), (.ref b308), (.int (0 : Int32)), (.ref a1)])) rfl (by rw [hml]; rfl) (argsL := [(.int (Int32.ofNat cap)), (.int (Int32.ofNat xs.length))]) (rest := [(.int (0 : Int32)), (.ref b308), (.int (0 : Int32)), (.ref a1)]) (lenOf pd_115 rfl) rfl (by show 2 * 0 + _ ≤ _; exact Nat.le_of_eq rfl) (hb hby dj65_120_32) (fun _ _ => ⟨rfl, e308, (by decide : 1 + 0 ≤ _), (by decide : 3 + 0 ≤ _)⟩)
  dsimp only [Pt.U, Pt.locs, Pt.cells, Pt.slots] at X312 l312 y312 z312 st312 hQ312
  subst l312 y312 z312
  obtain ⟨rfl, N312q, K312⟩ := hQ312
  have N312 := Fr.app N0 N312q
  refine own_Go.st st312 ?_
  show own_Go _ _ _ _ (T312.setTop (mkF m 35 #[.val (.ref a1), .val (.int (Int32.ofNat xs.length)), .val (.ref mr), .val (.ref b308)] [(.int (if (Int32.ofNat xs.length) < (Int32.ofNat cap) then (Int32.ofNat xs.length) else (Int32.ofNat cap))), (.int (0 : Int32)), (.ref b308), (.int (0 : Int32)), (.ref a1)]))
  rw [own_minX (by omega) hcx.1]
  show own_Go _ _ _ _ (T312.setTop (mkF m 35 #[.val (.ref a1), .val (.int (Int32.ofNat xs.length)), .val (.ref mr), .val (.ref b308)] [(.int (Int32.ofNat xs.length)), (.int (0 : Int32)), (.ref b308), (.int (0 : Int32)), (.ref a1)]))
  have f314 : own_All Z h308 xs := p1_.ext E308
  have f315 : Arv Z h308 b308 k308 (.object "java/lang/Object") (Int32.ofNat xs.length) (List.replicate xs.length Value.null) .null := f309.pad (pad_rep [] _ _)
  obtain ⟨T316, h316, L316, X316, e316, N316, K316, V316, st316⟩ := cpA (us := (xs.map Value.ref)) X312 hx hZ hown (own_w hw 167 rfl) (own_w hw 170 rfl) (own_w hw 168 rfl) (own_w hw 169 rfl) K312 f310 f315 (Or.inr ⟨rfl, rfl, own_StoL f309 O308 (own_w hw 101 rfl) f314⟩) (by decide) (by decide) (own_of0 (by omega)) (by rw [own_ofn (by omega), own_ofn (by omega)]; have : (0 : Int32).toNatClampNeg = 0 := (by decide); omega) (by rw [own_ofn (by omega)]; have : (0 : Int32).toNatClampNeg = 0 := (by decide); omega) (own_usX xs (by omega)) (by rw [own_ofn (by omega), List.length_replicate]; have : (0 : Int32).toNatClampNeg = 0 := (by decide); omega) N312 (by omega) (g := (mkF m 35 #[.val (.ref a1), .val (.int (Int32.ofNat xs.length)), .val (.ref mr), .val (.ref b308)] [(.int (Int32.ofNat xs.length)), (.int (0 : Int32)), (.ref b308), (.int (0 : Int32)), (.ref a1)])) rfl (by rw [hml]; rfl) rfl (hb hby dj65_120_35) (by decide) (W := 0) (by show 2 * 0 + _ ≤ _; exact Nat.le_of_eq rfl) (by decide)
  refine own_Go.st st316 ?_
  have z316 : h308.size ≤ h316.size := K316.1
  have f317 : Arv Z h316 b308 k308 (.object "java/lang/Object") (Int32.ofNat xs.length) (xs.map Value.ref) .null := own_cpX V316 (by omega)
  refine own_Go.st (fun _ k => XS.aloadN X316.here hx rfl (hb hby dj65_120_38) rfl rfl k) ?_
  show own_Go _ _ _ _ (T316.setTop (mkF m 39 #[.val (.ref a1), .val (.int (Int32.ofNat xs.length)), .val (.ref mr), .val (.ref b308)] [(.ref b308)]))
  obtain ⟨fs318, hr318, hrun318, hend318, hW318, hsm318⟩ := X316.leave (v := some (.ref b308)) (fun h => by rw [Bd.returns] at h; cases h)
  have K319 : Keep h0 h308 [] := (Keep.refl h0 []).ext E308
  have K320 : Keep h0 h316 [] := K319.trans K316 (allS (Or.inr (by omega)) all0)
  subst hPP
  refine ⟨_, _, own_retA X316 hx Bd.returns rfl rfl (hb hby dj65_120_39) hr318, hrun318, hend318, _, _, rfl, ?_, ⟨_, rfl⟩, hW318, hsm318.mono (by decide) (by decide)⟩
  · show Q_acopy3 Z _ _ _ _ _ _ h0 _ T316.heap _
    rw [e316]
    exact ⟨b308, k308, rfl, N316, K320, f317, (by omega)⟩
theorem ef_191 (m : MethodId) (x0 : Nat) (x1 : Int32) : entryFrame m #[(.ref x0), (.int x1)] 2 = mkF m 0 #[.val (.ref x0), .val (.int x1)] [] := by first | (simp [entryFrame, mkF, argsToLocals, Value.category]; done) | rfl
theorem dj65_119_0 : decode jdk_65_method_119_code 0 = .ok (.aload_n 0, 1) := by decide +kernel
theorem dj65_119_1 : decode jdk_65_method_119_code 1 = .ok (.iload_n 1, 1) := by decide +kernel
theorem dj65_119_2 : decode jdk_65_method_119_code 2 = .ok (.aload_n 0, 1) := by decide +kernel
theorem dj65_119_3 : decode jdk_65_method_119_code 3 = .ok (.invokevirtual 86, 3) := by decide +kernel
theorem pd_196 : parseMethodDescriptor "([Ljava/lang/Object;ILjava/lang/Class;)[Ljava/lang/Object;" = some ⟨[(.array (.object "java/lang/Object")), .int, (.object "java/lang/Class")], some (.array (.object "java/lang/Object"))⟩ := by decide +kernel
theorem dj65_119_6 : decode jdk_65_method_119_code 6 = .ok (.invokestatic 300, 3) := by decide +kernel
theorem dj65_119_9 : decode jdk_65_method_119_code 9 = .ok (.areturn, 1) := by decide +kernel
def Q_acopy2 (Z : State) (a1 : Nat) (p2 : Int32) (mr : Nat) (xs : List Addr) (cap : Nat) (k : ClassId) (h0 : Heap) (v : Option Value) (h : Heap) (L : List Loc) : Prop := ∃ (x : Nat), ∃ (kx : ClassId), v = some (.ref x) ∧ Fr Z.heap.size L ∧ Keep h0 h [] ∧ Arv Z h x kx (.object "java/lang/Object") (Int32.ofNat xs.length) (xs.map Value.ref) .null ∧ (h0.size ≤ x)
set_option maxRecDepth 65536 in
set_option maxHeartbeats 40000000 in
theorem rm_acopy2 (l : Launch) (Z : State) (a0 : Array Value) (hw : ∀ d ∈ tables_1, d.before a0 Z = true) (ws : List Jvm.Cond) (a1 : Nat) (p2 : Int32) (mr : Nat) (xs : List Addr) (cap : Nat) (k : ClassId) (h0 : Heap) (OL : Old Z Z.heap.size h0) (p0_ : Arv Z h0 a1 k (.object "java/lang/Object") (Int32.ofNat cap) (xs.map Value.ref) .null) (p1_ : Exa Z h0 a1 "[Ljava/lang/Object;") (p2_ : own_All Z h0 xs) (hp2 : p2 = Int32.ofNat xs.length) (hlx : xs.length ≤ 3) (hcx : xs.length ≤ cap ∧ cap ≤ 10) (hmir : own_Mir Z "[Ljava/lang/Object;" mr) :
    MetFree l mN20 (head1 (Jvm.Cond.code mN20 jdk_65_method_119_code 2 (some (.array (.object "java/lang/Object"))) :: ws) rM10) (fun a U => a = #[(.ref a1), (.int p2)] ∧ Z.Warmed39 U.vm ∧ U.heap = h0) (fun _ _ _ _ _ => True) (fun _ U o U' => ∃ v L, o = .returned v ∧ Q_acopy2 Z a1 p2 mr xs cap k h0 v U'.heap L ∧ FrameEnd U o U' L rM10.cells rM10.slots) := by
  refine MetFree.of_bodySF (plainFor_of_name pn_171) hisR ?_
  intro p e s m args below meth c s₁ Bd hml0 hP hK
  obtain ⟨rfl, hZ, hh⟩ := hP
  have hx := Bd.exec
  have hby := Bd.bytes
  have hml : c.maxLocals = 2 := hml0
  have hown : s.vm.findClass "java/util/Arrays" = some m.cls := findClass_of_methodNamed Bd.named
  have hnm := (name_of_methodNamed Bd.named Bd.method).1
  have X0 : Stand p l e rM10 s m #[(.ref a1), (.int p2)] below meth c s₁ [] 0 0 := Stand.of_body Bd
  have e0 : s₁.heap = h0 := by rw [← hh, Bd.state]; rfl
  have N0 := Fr.nil Z.heap.size
  have Z0 : Z.heap.size ≤ h0.size := OL.2.1
  have lt_0 : @LT.lt Nat _ a1 h0.size := p0_.lt
  have lt_1 : @LT.lt Nat _ a1 h0.size := p1_.lt
  show own_Go p.tables e below (fun o tE => ∃ v L, o = .returned v ∧ Q_acopy2 Z a1 p2 mr xs cap k h0 v tE.heap L ∧ FrameEnd s o tE L rM10.cells rM10.slots) (s₁.setTop (entryFrame m #[(.ref a1), (.int p2)] 2))
  refine own_hd (fun PP hPP => ?_)
  refine own_Go.st (fun t k => castTop (ef_191 m a1 p2) k) ?_
  refine own_Go.st (fun _ k => XS.aloadN X0.here hx rfl (hb hby dj65_119_0) rfl rfl (XS.iloadN X0.here hx rfl (hb hby dj65_119_1) rfl (XS.aloadN X0.here hx rfl (hb hby dj65_119_2) rfl rfl k))) ?_
  show own_Go _ _ _ _ (s₁.setTop (mkF m 3 #[.val (.ref a1), .val (.int p2)] [(.ref a1), (.int p2), (.ref a1)]))
  obtain ⟨T321, X321, e321, st321⟩ := own_gcls X0 hx hZ hown (own_w hw 153 rfl) (own_w hw 154 rfl) (own_w hw 126 rfl) (own_w hw 156 rfl) (own_w hw 155 rfl) (own_w hw 157 rfl) e0 p1_ hmir (g := (mkF m 3 #[.val (.ref a1), .val (.int p2)] [(.ref a1), (.int p2), (.ref a1)])) rfl (by rw [hml]; rfl) rfl (hb hby dj65_119_3) (by decide) (W := 2) (by show 2 * 0 + _ ≤ _; exact Nat.le_of_eq rfl) (by decide)
  refine own_Go.st st321 ?_
  show own_Go _ _ _ _ (T321.setTop (mkF m 6 #[.val (.ref a1), .val (.int p2)] [(.ref mr), (.int p2), (.ref a1)]))
  obtain ⟨_, _, ⟨T322, L322, k322, n322⟩, -, X322, ⟨Lc322, hQ322, l322, y322, z322⟩, st322⟩ := Jvm.LawKit.callS X321 hx (y := mN21) hown (own_v hZ hw 159 rfl) (own_v hZ hw 160 rfl) (own_v hZ hw 151 rfl) (own_v hZ hw 161 rfl) (by decide) (backOf (W := 0) (rm_acopy3 l Z a0 hw [] a1 p2 mr xs cap k h0 OL p0_ p2_ hp2 hlx hcx hmir) hZ (own_w hw 161 rfl) (own_w hw 151 rfl) (by decide) (by decide)) (g := (mkF m 6 #[.val (.ref a1), .val (.int p2)] [(.ref mr), (.int p2), (.ref a1)])) rfl (by rw [hml]; rfl) (argsL := [(.ref a1), (.int p2), (.ref mr)]) (rest := []) (lenOf pd_196 rfl) rfl (by show 2 * 0 + _ ≤ _; exact Nat.le_of_eq rfl) (hb hby dj65_119_6) (fun _ _ => ⟨rfl, e321, (by decide : 0 + 1 ≤ _), (by decide : 0 + 3 ≤ _)⟩)
  dsimp only [Pt.U, Pt.locs, Pt.cells, Pt.slots] at X322 l322 y322 z322 st322 hQ322
  subst l322 y322 z322
  obtain ⟨x_322, kx_322, rfl, N322q, K322, f322_0, pr322_0⟩ := hQ322
  have N322 := Fr.app N0 N322q
  have z322 : h0.size ≤ T322.heap.size := K322.1
  have lt322_0 : @LT.lt Nat _ x_322 T322.heap.size := f322_0.lt
  refine own_Go.st st322 ?_
  show own_Go _ _ _ _ (T322.setTop (mkF m 9 #[.val (.ref a1), .val (.int p2)] [(.ref x_322)]))
  obtain ⟨fs323, hr323, hrun323, hend323, hW323, hsm323⟩ := X322.leave (v := some (.ref x_322)) (fun h => by rw [Bd.returns] at h; cases h)
  have K324 : Keep h0 T322.heap [] := (Keep.refl h0 []).trans K322 all0
  subst hPP
  refine ⟨_, _, own_retA X322 hx Bd.returns rfl rfl (hb hby dj65_119_9) hr323, hrun323, hend323, _, _, rfl, ?_, ⟨_, rfl⟩, hW323, hsm323.mono (by decide) (by decide)⟩
  · show Q_acopy2 Z _ _ _ _ _ _ h0 _ T322.heap _
    exact ⟨x_322, kx_322, rfl, N322, K324, f322_0, (by omega)⟩
theorem dj38_16_0 : decode jdk_38_method_16_code 0 = .ok (.aload_n 0, 1) := by decide +kernel
theorem dj38_16_1 : decode jdk_38_method_16_code 1 = .ok (.getfield 9, 3) := by decide +kernel
theorem dj38_16_4 : decode jdk_38_method_16_code 4 = .ok (.aload_n 0, 1) := by decide +kernel
theorem dj38_16_5 : decode jdk_38_method_16_code 5 = .ok (.getfield 48, 3) := by decide +kernel
theorem pd_203 : parseMethodDescriptor "([Ljava/lang/Object;I)[Ljava/lang/Object;" = some ⟨[(.array (.object "java/lang/Object")), .int], some (.array (.object "java/lang/Object"))⟩ := by decide +kernel
theorem dj38_16_8 : decode jdk_38_method_16_code 8 = .ok (.invokestatic 66, 3) := by decide +kernel
theorem dj38_16_11 : decode jdk_38_method_16_code 11 = .ok (.areturn, 1) := by decide +kernel
def Q_toArray (Z : State) (a1 : Nat) (mr : Nat) (dd : Nat) (xs : List Addr) (cap : Nat) (k : ClassId) (h0 : Heap) (v : Option Value) (h : Heap) (L : List Loc) : Prop := ∃ (x : Nat), ∃ (kx : ClassId), v = some (.ref x) ∧ Fr Z.heap.size L ∧ Keep h0 h [] ∧ Arv Z h x kx (.object "java/lang/Object") (Int32.ofNat xs.length) (xs.map Value.ref) .null ∧ (h0.size ≤ x)
set_option maxRecDepth 65536 in
set_option maxHeartbeats 40000000 in
theorem rm_toArray (l : Launch) (Z : State) (a0 : Array Value) (hw : ∀ d ∈ tables_1, d.before a0 Z = true) (ws : List Jvm.Cond) (a1 : Nat) (mr : Nat) (dd : Nat) (xs : List Addr) (cap : Nat) (k : ClassId) (h0 : Heap) (OL : Old Z Z.heap.size h0) (p0_ : Exa Z h0 a1 "java/util/ArrayList") (p1_ : Fld Z h0 a1 "java/util/ArrayList" "elementData" "[Ljava/lang/Object;" (.ref dd)) (p2_ : Fld Z h0 a1 "java/util/ArrayList" "size" "I" (.int (Int32.ofNat xs.length))) (p3_ : Arv Z h0 dd k (.object "java/lang/Object") (Int32.ofNat cap) (xs.map Value.ref) .null) (p4_ : Exa Z h0 dd "[Ljava/lang/Object;") (p5_ : own_All Z h0 xs) (hlx : xs.length ≤ 3) (hcx : xs.length ≤ cap ∧ cap ≤ 10) (hmir : own_Mir Z "[Ljava/lang/Object;" mr) :
    MetFree l mN19 (head1 (Jvm.Cond.code mN19 jdk_38_method_16_code 1 (some (.array (.object "java/lang/Object"))) :: ws) rM16) (fun a U => a = #[(.ref a1)] ∧ Z.Warmed39 U.vm ∧ U.heap = h0) (fun _ _ _ _ _ => True) (fun _ U o U' => ∃ v L, o = .returned v ∧ Q_toArray Z a1 mr dd xs cap k h0 v U'.heap L ∧ FrameEnd U o U' L rM16.cells rM16.slots) := by
  refine MetFree.of_bodySF (plainFor_of_name pn_79) hisR ?_
  intro p e s m args below meth c s₁ Bd hml0 hP hK
  obtain ⟨rfl, hZ, hh⟩ := hP
  have hx := Bd.exec
  have hby := Bd.bytes
  have hml : c.maxLocals = 1 := hml0
  have hown : s.vm.findClass "java/util/ArrayList" = some m.cls := findClass_of_methodNamed Bd.named
  have hnm := (name_of_methodNamed Bd.named Bd.method).1
  have X0 : Stand p l e rM16 s m #[(.ref a1)] below meth c s₁ [] 0 0 := Stand.of_body Bd
  have e0 : s₁.heap = h0 := by rw [← hh, Bd.state]; rfl
  have N0 := Fr.nil Z.heap.size
  have Z0 : Z.heap.size ≤ h0.size := OL.2.1
  have lt_0 : @LT.lt Nat _ a1 h0.size := p0_.lt
  have lt_1 : @LT.lt Nat _ a1 h0.size := p1_.lt
  have lt_2 : @LT.lt Nat _ a1 h0.size := p2_.lt
  have lt_3 : @LT.lt Nat _ dd h0.size := p3_.lt
  have lt_4 : @LT.lt Nat _ dd h0.size := p4_.lt
  show own_Go p.tables e below (fun o tE => ∃ v L, o = .returned v ∧ Q_toArray Z a1 mr dd xs cap k h0 v tE.heap L ∧ FrameEnd s o tE L rM16.cells rM16.slots) (s₁.setTop (entryFrame m #[(.ref a1)] 1))
  refine own_hd (fun PP hPP => ?_)
  refine own_Go.st (fun t k => castTop (ef_67 m a1) k) ?_
  refine own_Go.st (fun _ k => XS.aloadN X0.here hx rfl (hb hby dj38_16_0) rfl rfl k) ?_
  show own_Go _ _ _ _ (s₁.setTop (mkF m 1 #[.val (.ref a1)] [(.ref a1)]))
  obtain ⟨T325, X325, e325, st325⟩ := getF X0 hx hZ hown (host := "") (Or.inl (own_w hw 69 rfl)) Via.refl e0 p1_ (g := (mkF m 1 #[.val (.ref a1)] [(.ref a1)])) rfl rfl (hb hby dj38_16_1)
  refine own_Go.st st325 ?_
  refine own_Go.st (fun _ k => XS.aloadN X325.here hx rfl (hb hby dj38_16_4) rfl rfl k) ?_
  show own_Go _ _ _ _ (T325.setTop (mkF m 5 #[.val (.ref a1)] [(.ref a1), (.ref dd)]))
  obtain ⟨T326, X326, e326, st326⟩ := getF X325 hx hZ hown (host := "") (Or.inl (own_w hw 78 rfl)) Via.refl e325 p2_ (g := (mkF m 5 #[.val (.ref a1)] [(.ref a1), (.ref dd)])) rfl rfl (hb hby dj38_16_5)
  refine own_Go.st st326 ?_
  show own_Go _ _ _ _ (T326.setTop (mkF m 8 #[.val (.ref a1)] [(.int (Int32.ofNat xs.length)), (.ref dd)]))
  obtain ⟨_, _, ⟨T327, L327, k327, n327⟩, -, X327, ⟨Lc327, hQ327, l327, y327, z327⟩, st327⟩ := Jvm.LawKit.callS X326 hx (y := mN20) hown (own_v hZ hw 149 rfl) (own_v hZ hw 150 rfl) (own_v hZ hw 151 rfl) (own_v hZ hw 152 rfl) (by decide) (backOf (W := 0) (rm_acopy2 l Z a0 hw [] dd (Int32.ofNat xs.length) mr xs cap k h0 OL p3_ p4_ p5_ rfl hlx hcx hmir) hZ (own_w hw 152 rfl) (own_w hw 151 rfl) (by decide) (by decide)) (g := (mkF m 8 #[.val (.ref a1)] [(.int (Int32.ofNat xs.length)), (.ref dd)])) rfl (by rw [hml]; rfl) (argsL := [(.ref dd), (.int (Int32.ofNat xs.length))]) (rest := []) (lenOf pd_203 rfl) rfl (by show 2 * 0 + _ ≤ _; exact Nat.le_of_eq rfl) (hb hby dj38_16_8) (fun _ _ => ⟨rfl, e326, (by decide : 0 + 1 ≤ _), (by decide : 0 + 3 ≤ _)⟩)
  dsimp only [Pt.U, Pt.locs, Pt.cells, Pt.slots] at X327 l327 y327 z327 st327 hQ327
  subst l327 y327 z327
  obtain ⟨x_327, kx_327, rfl, N327q, K327, f327_0, pr327_0⟩ := hQ327
  have N327 := Fr.app N0 N327q
  have z327 : h0.size ≤ T327.heap.size := K327.1
  have lt327_0 : @LT.lt Nat _ x_327 T327.heap.size := f327_0.lt
  refine own_Go.st st327 ?_
  show own_Go _ _ _ _ (T327.setTop (mkF m 11 #[.val (.ref a1)] [(.ref x_327)]))
  obtain ⟨fs328, hr328, hrun328, hend328, hW328, hsm328⟩ := X327.leave (v := some (.ref x_327)) (fun h => by rw [Bd.returns] at h; cases h)
  have K329 : Keep h0 T327.heap [] := (Keep.refl h0 []).trans K327 all0
  subst hPP
  refine ⟨_, _, own_retA X327 hx Bd.returns rfl rfl (hb hby dj38_16_11) hr328, hrun328, hend328, _, _, rfl, ?_, ⟨_, rfl⟩, hW328, hsm328.mono (by decide) (by decide)⟩
  · show Q_toArray Z _ _ _ _ _ _ h0 _ T327.heap _
    exact ⟨x_327, kx_327, rfl, N327, K329, f327_0, (by omega)⟩
theorem pn_206 : plainName "java/util/Objects" = true := by first | (simp [plainName, overriddenIn]; done) | decide +kernel
theorem dj31_10_0 : decode jdk_31_method_10_code 0 = .ok (.aload_n 0, 1) := by decide +kernel
theorem dj31_10_1 : decode jdk_31_method_10_code 1 = .ok (.ifnonnull 11, 3) := by decide +kernel
theorem dj31_10_12 : decode jdk_31_method_10_code 12 = .ok (.aload_n 0, 1) := by decide +kernel
theorem dj31_10_13 : decode jdk_31_method_10_code 13 = .ok (.areturn, 1) := by decide +kernel
def Q_reqNN (Z : State) (a1 : Nat) (h0 : Heap) (v : Option Value) (h : Heap) (L : List Loc) : Prop := v = some (.ref a1) ∧ Fr Z.heap.size L ∧ h = h0
set_option maxRecDepth 65536 in
set_option maxHeartbeats 40000000 in
theorem rm_reqNN (l : Launch) (Z : State) (a0 : Array Value) (hw : ∀ d ∈ tables_1, d.before a0 Z = true) (ws : List Jvm.Cond) (a1 : Nat) (h0 : Heap) (OL : Old Z Z.heap.size h0) :
    MetFree l mN35 (head1 (Jvm.Cond.code mN35 jdk_31_method_10_code 1 (some (.object "java/lang/Object")) :: ws) rM0) (fun a U => a = #[(.ref a1)] ∧ Z.Warmed39 U.vm ∧ U.heap = h0) (fun _ _ _ _ _ => True) (fun _ U o U' => ∃ v L, o = .returned v ∧ Q_reqNN Z a1 h0 v U'.heap L ∧ FrameEnd U o U' L rM0.cells rM0.slots) := by
  refine MetFree.of_bodySF (plainFor_of_name pn_206) hisR ?_
  intro p e s m args below meth c s₁ Bd hml0 hP hK
  obtain ⟨rfl, hZ, hh⟩ := hP
  have hx := Bd.exec
  have hby := Bd.bytes
  have hml : c.maxLocals = 1 := hml0
  have hown : s.vm.findClass "java/util/Objects" = some m.cls := findClass_of_methodNamed Bd.named
  have hnm := (name_of_methodNamed Bd.named Bd.method).1
  have X0 : Stand p l e rM0 s m #[(.ref a1)] below meth c s₁ [] 0 0 := Stand.of_body Bd
  have e0 : s₁.heap = h0 := by rw [← hh, Bd.state]; rfl
  have N0 := Fr.nil Z.heap.size
  have Z0 : Z.heap.size ≤ h0.size := OL.2.1
  show own_Go p.tables e below (fun o tE => ∃ v L, o = .returned v ∧ Q_reqNN Z a1 h0 v tE.heap L ∧ FrameEnd s o tE L rM0.cells rM0.slots) (s₁.setTop (entryFrame m #[(.ref a1)] 1))
  refine own_hd (fun PP hPP => ?_)
  refine own_Go.st (fun t k => castTop (ef_67 m a1) k) ?_
  refine own_Go.st (fun _ k => XS.aloadN X0.here hx rfl (hb hby dj31_10_0) rfl rfl k) ?_
  show own_Go _ _ _ _ (s₁.setTop (mkF m 1 #[.val (.ref a1)] [(.ref a1)]))
  refine own_Go.st (fun _ k => XS.ifnonnullYes X0.here hx rfl (pc0 := 1) (pc' := 12) rfl (hb hby dj31_10_1) rfl (by decide) (by decide) k) ?_
  refine own_Go.st (fun _ k => XS.aloadN X0.here hx rfl (hb hby dj31_10_12) rfl rfl k) ?_
  show own_Go _ _ _ _ (s₁.setTop (mkF m 13 #[.val (.ref a1)] [(.ref a1)]))
  obtain ⟨fs330, hr330, hrun330, hend330, hW330, hsm330⟩ := X0.leave (v := some (.ref a1)) (fun h => by rw [Bd.returns] at h; cases h)
  subst hPP
  refine ⟨_, _, own_retA X0 hx Bd.returns rfl rfl (hb hby dj31_10_13) hr330, hrun330, hend330, _, _, rfl, ?_, ⟨_, rfl⟩, hW330, hsm330.mono (by decide) (by decide)⟩
  · show Q_reqNN Z _ h0 _ s₁.heap _
    rw [e0]
    exact ⟨rfl, N0, rfl⟩
theorem pn_211 : plainName "java/util/ImmutableCollections$AbstractImmutableCollection" = true := by first | (simp [plainName, overriddenIn]; done) | decide +kernel
theorem dj47_1_0 : decode jdk_47_method_1_code 0 = .ok (.aload_n 0, 1) := by decide +kernel
theorem dj47_1_1 : decode jdk_47_method_1_code 1 = .ok (.invokespecial 1, 3) := by decide +kernel
theorem dj47_1_4 : decode jdk_47_method_1_code 4 = .ok (.return_, 1) := by decide +kernel
def Q_aicinit (Z : State) (a1 : Nat) (h0 : Heap) (v : Option Value) (h : Heap) (L : List Loc) : Prop := v = none ∧ Fr Z.heap.size L ∧ h = h0
set_option maxRecDepth 65536 in
set_option maxHeartbeats 40000000 in
theorem rm_aicinit (l : Launch) (Z : State) (a0 : Array Value) (hw : ∀ d ∈ tables_1, d.before a0 Z = true) (ws : List Jvm.Cond) (a1 : Nat) (h0 : Heap) (OL : Old Z Z.heap.size h0) :
    MetFree l mN24 (head1 (Jvm.Cond.code mN24 jdk_47_method_1_code 1 none :: ws) rM8) (fun a U => a = #[(.ref a1)] ∧ Z.Warmed39 U.vm ∧ U.heap = h0) (fun _ _ _ _ _ => True) (fun _ U o U' => ∃ v L, o = .returned v ∧ Q_aicinit Z a1 h0 v U'.heap L ∧ FrameEnd U o U' L rM8.cells rM8.slots) := by
  refine MetFree.of_bodySF (plainFor_of_name pn_211) hisR ?_
  intro p e s m args below meth c s₁ Bd hml0 hP hK
  obtain ⟨rfl, hZ, hh⟩ := hP
  have hx := Bd.exec
  have hby := Bd.bytes
  have hml : c.maxLocals = 1 := hml0
  have hown : s.vm.findClass "java/util/ImmutableCollections$AbstractImmutableCollection" = some m.cls := findClass_of_methodNamed Bd.named
  have hnm := (name_of_methodNamed Bd.named Bd.method).1
  have X0 : Stand p l e rM8 s m #[(.ref a1)] below meth c s₁ [] 0 0 := Stand.of_body Bd
  have e0 : s₁.heap = h0 := by rw [← hh, Bd.state]; rfl
  have N0 := Fr.nil Z.heap.size
  have Z0 : Z.heap.size ≤ h0.size := OL.2.1
  show own_Go p.tables e below (fun o tE => ∃ v L, o = .returned v ∧ Q_aicinit Z a1 h0 v tE.heap L ∧ FrameEnd s o tE L rM8.cells rM8.slots) (s₁.setTop (entryFrame m #[(.ref a1)] 1))
  refine own_hd (fun PP hPP => ?_)
  refine own_Go.st (fun t k => castTop (ef_67 m a1) k) ?_
  refine own_Go.st (fun _ k => XS.aloadN X0.here hx rfl (hb hby dj47_1_0) rfl rfl k) ?_
  show own_Go _ _ _ _ (s₁.setTop (mkF m 1 #[.val (.ref a1)] [(.ref a1)]))
  obtain ⟨_, _, ⟨T331, L331, k331, n331⟩, -, X331, ⟨Lc331, hQ331, l331, y331, z331⟩, st331⟩ := X0.specialBack hx (y := mN11) rfl hown (own_v hZ hw 200 rfl) (own_v hZ hw 60 rfl) (own_v hZ hw 64 rfl) (by decide) (backOf (W := 0) (rm_acinit l Z a0 hw [] a1 h0 OL ) hZ (own_w hw 64 rfl) (own_w hw 63 rfl) (by decide) (by decide)) (g := (mkF m 1 #[.val (.ref a1)] [(.ref a1)])) rfl (by rw [hml]; rfl) (Steps.refl _) (a := a1) (argsL := []) (rest := []) (lenOf pd_73 rfl) rfl (by show 2 * 0 + _ ≤ _; exact Nat.le_of_eq rfl) (hb hby dj47_1_1) (fun _ _ => ⟨rfl, e0, (by decide : 0 + 0 ≤ _), (by decide : 0 + 0 ≤ _)⟩)
  dsimp only [Pt.U, Pt.locs, Pt.cells, Pt.slots] at X331 l331 y331 z331 st331 hQ331
  subst l331 y331 z331
  obtain ⟨rfl, N331q, K331⟩ := hQ331
  have N331 := Fr.app N0 N331q
  refine own_Go.tr st331 ?_
  show own_Go _ _ _ _ (T331.setTop (mkF m 4 #[.val (.ref a1)] []))
  obtain ⟨fs332, hr332, hrun332, hend332, hW332, hsm332⟩ := X331.leave (v := none) (fun _ => rfl)
  subst hPP
  refine ⟨_, _, X331.returnOut hx Bd.returns (hb hby dj47_1_4) hr332, hrun332, hend332, _, _, rfl, ?_, ⟨_, rfl⟩, hW332, hsm332.mono (by decide) (by decide)⟩
  · show Q_aicinit Z _ h0 _ T331.heap _
    rw [K331]
    exact ⟨rfl, N331, rfl⟩
theorem pn_215 : plainName "java/util/ImmutableCollections$AbstractImmutableList" = true := by first | (simp [plainName, overriddenIn]; done) | decide +kernel
theorem dj46_1_0 : decode jdk_46_method_1_code 0 = .ok (.aload_n 0, 1) := by decide +kernel
theorem dj46_1_1 : decode jdk_46_method_1_code 1 = .ok (.invokespecial 1, 3) := by decide +kernel
theorem dj46_1_4 : decode jdk_46_method_1_code 4 = .ok (.return_, 1) := by decide +kernel
def Q_ailinit (Z : State) (a1 : Nat) (h0 : Heap) (v : Option Value) (h : Heap) (L : List Loc) : Prop := v = none ∧ Fr Z.heap.size L ∧ h = h0
set_option maxRecDepth 65536 in
set_option maxHeartbeats 40000000 in
theorem rm_ailinit (l : Launch) (Z : State) (a0 : Array Value) (hw : ∀ d ∈ tables_1, d.before a0 Z = true) (ws : List Jvm.Cond) (a1 : Nat) (h0 : Heap) (OL : Old Z Z.heap.size h0) :
    MetFree l mN25 (head1 (Jvm.Cond.code mN25 jdk_46_method_1_code 1 none :: ws) rM13) (fun a U => a = #[(.ref a1)] ∧ Z.Warmed39 U.vm ∧ U.heap = h0) (fun _ _ _ _ _ => True) (fun _ U o U' => ∃ v L, o = .returned v ∧ Q_ailinit Z a1 h0 v U'.heap L ∧ FrameEnd U o U' L rM13.cells rM13.slots) := by
  refine MetFree.of_bodySF (plainFor_of_name pn_215) hisR ?_
  intro p e s m args below meth c s₁ Bd hml0 hP hK
  obtain ⟨rfl, hZ, hh⟩ := hP
  have hx := Bd.exec
  have hby := Bd.bytes
  have hml : c.maxLocals = 1 := hml0
  have hown : s.vm.findClass "java/util/ImmutableCollections$AbstractImmutableList" = some m.cls := findClass_of_methodNamed Bd.named
  have hnm := (name_of_methodNamed Bd.named Bd.method).1
  have X0 : Stand p l e rM13 s m #[(.ref a1)] below meth c s₁ [] 0 0 := Stand.of_body Bd
  have e0 : s₁.heap = h0 := by rw [← hh, Bd.state]; rfl
  have N0 := Fr.nil Z.heap.size
  have Z0 : Z.heap.size ≤ h0.size := OL.2.1
  show own_Go p.tables e below (fun o tE => ∃ v L, o = .returned v ∧ Q_ailinit Z a1 h0 v tE.heap L ∧ FrameEnd s o tE L rM13.cells rM13.slots) (s₁.setTop (entryFrame m #[(.ref a1)] 1))
  refine own_hd (fun PP hPP => ?_)
  refine own_Go.st (fun t k => castTop (ef_67 m a1) k) ?_
  refine own_Go.st (fun _ k => XS.aloadN X0.here hx rfl (hb hby dj46_1_0) rfl rfl k) ?_
  show own_Go _ _ _ _ (s₁.setTop (mkF m 1 #[.val (.ref a1)] [(.ref a1)]))
  obtain ⟨_, _, ⟨T333, L333, k333, n333⟩, -, X333, ⟨Lc333, hQ333, l333, y333, z333⟩, st333⟩ := X0.specialBack hx (y := mN24) rfl hown (own_v hZ hw 194 rfl) (own_v hZ hw 195 rfl) (own_v hZ hw 199 rfl) (by decide) (backOf (W := 0) (rm_aicinit l Z a0 hw [] a1 h0 OL ) hZ (own_w hw 199 rfl) (own_w hw 198 rfl) (by decide) (by decide)) (g := (mkF m 1 #[.val (.ref a1)] [(.ref a1)])) rfl (by rw [hml]; rfl) (Steps.refl _) (a := a1) (argsL := []) (rest := []) (lenOf pd_73 rfl) rfl (by show 2 * 0 + _ ≤ _; exact Nat.le_of_eq rfl) (hb hby dj46_1_1) (fun _ _ => ⟨rfl, e0, (by decide : 0 + 0 ≤ _), (by decide : 0 + 0 ≤ _)⟩)
  dsimp only [Pt.U, Pt.locs, Pt.cells, Pt.slots] at X333 l333 y333 z333 st333 hQ333
  subst l333 y333 z333
  obtain ⟨rfl, N333q, K333⟩ := hQ333
  have N333 := Fr.app N0 N333q
  refine own_Go.tr st333 ?_
  show own_Go _ _ _ _ (T333.setTop (mkF m 4 #[.val (.ref a1)] []))
  obtain ⟨fs334, hr334, hrun334, hend334, hW334, hsm334⟩ := X333.leave (v := none) (fun _ => rfl)
  subst hPP
  refine ⟨_, _, X333.returnOut hx Bd.returns (hb hby dj46_1_4) hr334, hrun334, hend334, _, _, rfl, ?_, ⟨_, rfl⟩, hW334, hsm334.mono (by decide) (by decide)⟩
  · show Q_ailinit Z _ h0 _ T333.heap _
    rw [K333]
    exact ⟨rfl, N333, rfl⟩
theorem pn_219 : plainName "java/util/ImmutableCollections$List12" = true := by first | (simp [plainName, overriddenIn]; done) | decide +kernel
theorem dj44_1_0 : decode jdk_44_method_1_code 0 = .ok (.aload_n 0, 1) := by decide +kernel
theorem dj44_1_1 : decode jdk_44_method_1_code 1 = .ok (.invokespecial 1, 3) := by decide +kernel
theorem dj44_1_4 : decode jdk_44_method_1_code 4 = .ok (.aload_n 0, 1) := by decide +kernel
theorem dj44_1_5 : decode jdk_44_method_1_code 5 = .ok (.aload_n 1, 1) := by decide +kernel
theorem pd_224 : parseMethodDescriptor "(Ljava/lang/Object;)Ljava/lang/Object;" = some ⟨[(.object "java/lang/Object")], some (.object "java/lang/Object")⟩ := by decide +kernel
theorem dj44_1_6 : decode jdk_44_method_1_code 6 = .ok (.invokestatic 7, 3) := by decide +kernel
theorem dj44_1_9 : decode jdk_44_method_1_code 9 = .ok (.putfield 13, 3) := by decide +kernel
theorem dj44_1_12 : decode jdk_44_method_1_code 12 = .ok (.aload_n 0, 1) := by decide +kernel
theorem dj44_1_13 : decode jdk_44_method_1_code 13 = .ok (.getstatic 19, 3) := by decide +kernel
theorem dj44_1_16 : decode jdk_44_method_1_code 16 = .ok (.putfield 24, 3) := by decide +kernel
theorem dj44_1_19 : decode jdk_44_method_1_code 19 = .ok (.return_, 1) := by decide +kernel
def Q_l12a (Z : State) (a1 : Nat) (a2 : Nat) (em : Nat) (h0 : Heap) (v : Option Value) (h : Heap) (L : List Loc) : Prop := v = none ∧ Fr Z.heap.size L ∧ Keep h0 h [a1] ∧ Exa Z h a1 "java/util/ImmutableCollections$List12"
set_option maxRecDepth 65536 in
set_option maxHeartbeats 40000000 in
theorem rm_l12a (l : Launch) (Z : State) (a0 : Array Value) (hw : ∀ d ∈ tables_1, d.before a0 Z = true) (ws : List Jvm.Cond) (a1 : Nat) (a2 : Nat) (em : Nat) (h0 : Heap) (OL : Old Z Z.heap.size h0) (p0_ : Exa Z h0 a1 "java/util/ImmutableCollections$List12") (p1_ : Fld Z h0 a1 "java/util/ImmutableCollections$List12" "e0" "Ljava/lang/Object;" .null) (p2_ : Fld Z h0 a1 "java/util/ImmutableCollections$List12" "e1" "Ljava/lang/Object;" .null) (st_EMPTY : Sta Z Z.heap "java/util/ImmutableCollections" "EMPTY" "Ljava/lang/Object;" (.ref em)) (hn0 : Z.heap.size ≤ a1) :
    MetFree l mN26 (head1 (Jvm.Cond.code mN26 jdk_44_method_1_code 2 none :: ws) rM17) (fun a U => a = #[(.ref a1), (.ref a2)] ∧ Z.Warmed39 U.vm ∧ U.heap = h0) (fun _ _ _ _ _ => True) (fun _ U o U' => ∃ v L, o = .returned v ∧ Q_l12a Z a1 a2 em h0 v U'.heap L ∧ FrameEnd U o U' L rM17.cells rM17.slots) := by
  refine MetFree.of_bodySF (plainFor_of_name pn_219) hisR ?_
  intro p e s m args below meth c s₁ Bd hml0 hP hK
  obtain ⟨rfl, hZ, hh⟩ := hP
  have hx := Bd.exec
  have hby := Bd.bytes
  have hml : c.maxLocals = 2 := hml0
  have hown : s.vm.findClass "java/util/ImmutableCollections$List12" = some m.cls := findClass_of_methodNamed Bd.named
  have hnm := (name_of_methodNamed Bd.named Bd.method).1
  have X0 : Stand p l e rM17 s m #[(.ref a1), (.ref a2)] below meth c s₁ [] 0 0 := Stand.of_body Bd
  have e0 : s₁.heap = h0 := by rw [← hh, Bd.state]; rfl
  have N0 := Fr.nil Z.heap.size
  have Z0 : Z.heap.size ≤ h0.size := OL.2.1
  have lt_0 : @LT.lt Nat _ a1 h0.size := p0_.lt
  have lt_1 : @LT.lt Nat _ a1 h0.size := p1_.lt
  have lt_2 : @LT.lt Nat _ a1 h0.size := p2_.lt
  show own_Go p.tables e below (fun o tE => ∃ v L, o = .returned v ∧ Q_l12a Z a1 a2 em h0 v tE.heap L ∧ FrameEnd s o tE L rM17.cells rM17.slots) (s₁.setTop (entryFrame m #[(.ref a1), (.ref a2)] 2))
  refine own_hd (fun PP hPP => ?_)
  refine own_Go.st (fun t k => castTop (ef_56 m a1 a2) k) ?_
  refine own_Go.st (fun _ k => XS.aloadN X0.here hx rfl (hb hby dj44_1_0) rfl rfl k) ?_
  show own_Go _ _ _ _ (s₁.setTop (mkF m 1 #[.val (.ref a1), .val (.ref a2)] [(.ref a1)]))
  obtain ⟨_, _, ⟨T335, L335, k335, n335⟩, -, X335, ⟨Lc335, hQ335, l335, y335, z335⟩, st335⟩ := X0.specialBack hx (y := mN25) rfl hown (own_v hZ hw 231 rfl) (own_v hZ hw 189 rfl) (own_v hZ hw 193 rfl) (by decide) (backOf (W := 0) (rm_ailinit l Z a0 hw [] a1 h0 OL ) hZ (own_w hw 193 rfl) (own_w hw 192 rfl) (by decide) (by decide)) (g := (mkF m 1 #[.val (.ref a1), .val (.ref a2)] [(.ref a1)])) rfl (by rw [hml]; rfl) (Steps.refl _) (a := a1) (argsL := []) (rest := []) (lenOf pd_73 rfl) rfl (by show 2 * 0 + _ ≤ _; exact Nat.le_of_eq rfl) (hb hby dj44_1_1) (fun _ _ => ⟨rfl, e0, (by decide : 0 + 0 ≤ _), (by decide : 0 + 0 ≤ _)⟩)
  dsimp only [Pt.U, Pt.locs, Pt.cells, Pt.slots] at X335 l335 y335 z335 st335 hQ335
  subst l335 y335 z335
  obtain ⟨rfl, N335q, K335⟩ := hQ335
  have N335 := Fr.app N0 N335q
  refine own_Go.tr st335 ?_
  refine own_Go.st (fun _ k => XS.aloadN X335.here hx rfl (hb hby dj44_1_4) rfl rfl (XS.aloadN X335.here hx rfl (hb hby dj44_1_5) rfl rfl k)) ?_
  show own_Go _ _ _ _ (T335.setTop (mkF m 6 #[.val (.ref a1), .val (.ref a2)] [(.ref a2), (.ref a1)]))
  obtain ⟨_, _, ⟨T336, L336, k336, n336⟩, -, X336, ⟨Lc336, hQ336, l336, y336, z336⟩, st336⟩ := Jvm.LawKit.callS X335 hx (y := mN35) hown (own_v hZ hw 235 rfl) (own_v hZ hw 179 rfl) (own_v hZ hw 180 rfl) (own_v hZ hw 181 rfl) (by decide) (backOf (W := 1) (rm_reqNN l Z a0 hw [] a2 h0 OL ) hZ (own_w hw 181 rfl) (own_w hw 180 rfl) (by decide) (by decide)) (g := (mkF m 6 #[.val (.ref a1), .val (.ref a2)] [(.ref a2), (.ref a1)])) rfl (by rw [hml]; rfl) (argsL := [(.ref a2)]) (rest := [(.ref a1)]) (lenOf pd_224 rfl) rfl (by show 2 * 0 + _ ≤ _; exact Nat.le_of_eq rfl) (hb hby dj44_1_6) (fun _ _ => ⟨rfl, K335, (by decide : 0 + 0 ≤ _), (by decide : 0 + 0 ≤ _)⟩)
  dsimp only [Pt.U, Pt.locs, Pt.cells, Pt.slots] at X336 l336 y336 z336 st336 hQ336
  subst l336 y336 z336
  obtain ⟨rfl, N336q, K336⟩ := hQ336
  have N336 := Fr.app N335 N336q
  refine own_Go.st st336 ?_
  show own_Go _ _ _ _ (T336.setTop (mkF m 9 #[.val (.ref a1), .val (.ref a2)] [(.ref a2), (.ref a1)]))
  obtain ⟨T337, h337, X337, e337, W337, st337⟩ := putF X336 hx hZ hown (host := "") (Or.inl (own_w hw 236 rfl)) Via.refl K336 p1_ p0_ (Or.inr ⟨(own_w hw 237 rfl), rfl, hnm⟩) (own_w hw 225 rfl) (ty := (.object "java/lang/Object")) (by decide) rfl rfl (g := (mkF m 9 #[.val (.ref a1), .val (.ref a2)] [(.ref a2), (.ref a1)])) rfl rfl (hb hby dj44_1_9)
  refine own_Go.st st337 ?_
  have N337 := Fr.snoc X337 N336 (by omega)
  have z337 : h0.size ≤ h337.size := Nat.le_of_eq W337.size.symm
  have f338 : Fld Z h337 a1 "java/util/ImmutableCollections$List12" "e0" "Ljava/lang/Object;" (.ref a2) := p1_.same W337
  refine own_Go.st (fun _ k => XS.aloadN X337.here hx rfl (hb hby dj44_1_12) rfl rfl k) ?_
  show own_Go _ _ _ _ (T337.setTop (mkF m 13 #[.val (.ref a1), .val (.ref a2)] [(.ref a1)]))
  have f339 : Old Z Z.heap.size h337 := OL.wr W337 (by omega)
  obtain ⟨T340, X340, e340, st340⟩ := getS2 X337 hx hZ hown (Or.inr (own_w hw 249 rfl)) Via.refl e337 (st_EMPTY.ext f339.2) (g := (mkF m 13 #[.val (.ref a1), .val (.ref a2)] [(.ref a1)])) rfl (hb hby dj44_1_13)
  refine own_Go.st st340 ?_
  show own_Go _ _ _ _ (T340.setTop (mkF m 16 #[.val (.ref a1), .val (.ref a2)] [(.ref em), (.ref a1)]))
  have f341 : Fld Z h337 a1 "java/util/ImmutableCollections$List12" "e1" "Ljava/lang/Object;" .null := p2_.other W337 (Or.inr (slot_ne (Or.inr (own_w hw 239 rfl)) (Or.inr (own_w hw 237 rfl)) (by decide) (t := (.object "java/lang/Object")) (t' := (.object "java/lang/Object")) (by decide) (by decide)))
  have f342 : Exa Z h337 a1 "java/util/ImmutableCollections$List12" := p0_.wr W337
  obtain ⟨T343, h343, X343, e343, W343, st343⟩ := putF X340 hx hZ hown (host := "") (Or.inl (own_w hw 238 rfl)) Via.refl e340 f341 f342 (Or.inr ⟨(own_w hw 239 rfl), rfl, hnm⟩) (own_w hw 225 rfl) (ty := (.object "java/lang/Object")) (by decide) rfl rfl (g := (mkF m 16 #[.val (.ref a1), .val (.ref a2)] [(.ref em), (.ref a1)])) rfl rfl (hb hby dj44_1_16)
  refine own_Go.st st343 ?_
  have N343 := Fr.snoc X343 N337 (by omega)
  have z343 : h337.size ≤ h343.size := Nat.le_of_eq W343.size.symm
  have f344 : Fld Z h343 a1 "java/util/ImmutableCollections$List12" "e1" "Ljava/lang/Object;" (.ref em) := f341.same W343
  show own_Go _ _ _ _ (T343.setTop (mkF m 19 #[.val (.ref a1), .val (.ref a2)] []))
  obtain ⟨fs345, hr345, hrun345, hend345, hW345, hsm345⟩ := X343.leave (v := none) (fun _ => rfl)
  have K346 : Keep h0 h337 [a1] := (Keep.refl h0 [a1]).wr W337 (Or.inl (List.mem_of_getElem? (i := 0) rfl))
  have K347 : Keep h0 h343 [a1] := K346.wr W343 (Or.inl (List.mem_of_getElem? (i := 0) rfl))
  have f348 : Exa Z h343 a1 "java/util/ImmutableCollections$List12" := f342.wr W343
  subst hPP
  refine ⟨_, _, X343.returnOut hx Bd.returns (hb hby dj44_1_19) hr345, hrun345, hend345, _, _, rfl, ?_, ⟨_, rfl⟩, hW345, hsm345.mono (by decide) (by decide)⟩
  · show Q_l12a Z _ _ _ h0 _ T343.heap _
    rw [e343]
    exact ⟨rfl, N343, K347, f348⟩
theorem ef_231 (m : MethodId) (x0 : Nat) (x1 : Nat) (x2 : Nat) : entryFrame m #[(.ref x0), (.ref x1), (.ref x2)] 3 = mkF m 0 #[.val (.ref x0), .val (.ref x1), .val (.ref x2)] [] := by first | (simp [entryFrame, mkF, argsToLocals, Value.category]; done) | rfl
theorem dj44_2_0 : decode jdk_44_method_2_code 0 = .ok (.aload_n 0, 1) := by decide +kernel
theorem dj44_2_1 : decode jdk_44_method_2_code 1 = .ok (.invokespecial 1, 3) := by decide +kernel
theorem dj44_2_4 : decode jdk_44_method_2_code 4 = .ok (.aload_n 0, 1) := by decide +kernel
theorem dj44_2_5 : decode jdk_44_method_2_code 5 = .ok (.aload_n 1, 1) := by decide +kernel
theorem dj44_2_6 : decode jdk_44_method_2_code 6 = .ok (.invokestatic 7, 3) := by decide +kernel
theorem dj44_2_9 : decode jdk_44_method_2_code 9 = .ok (.putfield 13, 3) := by decide +kernel
theorem dj44_2_12 : decode jdk_44_method_2_code 12 = .ok (.aload_n 0, 1) := by decide +kernel
theorem dj44_2_13 : decode jdk_44_method_2_code 13 = .ok (.aload_n 2, 1) := by decide +kernel
theorem dj44_2_14 : decode jdk_44_method_2_code 14 = .ok (.invokestatic 7, 3) := by decide +kernel
theorem dj44_2_17 : decode jdk_44_method_2_code 17 = .ok (.putfield 24, 3) := by decide +kernel
theorem dj44_2_20 : decode jdk_44_method_2_code 20 = .ok (.return_, 1) := by decide +kernel
def Q_l12b (Z : State) (a1 : Nat) (a2 : Nat) (a3 : Nat) (h0 : Heap) (v : Option Value) (h : Heap) (L : List Loc) : Prop := v = none ∧ Fr Z.heap.size L ∧ Keep h0 h [a1] ∧ Exa Z h a1 "java/util/ImmutableCollections$List12"
set_option maxRecDepth 65536 in
set_option maxHeartbeats 40000000 in
theorem rm_l12b (l : Launch) (Z : State) (a0 : Array Value) (hw : ∀ d ∈ tables_1, d.before a0 Z = true) (ws : List Jvm.Cond) (a1 : Nat) (a2 : Nat) (a3 : Nat) (h0 : Heap) (OL : Old Z Z.heap.size h0) (p0_ : Exa Z h0 a1 "java/util/ImmutableCollections$List12") (p1_ : Fld Z h0 a1 "java/util/ImmutableCollections$List12" "e0" "Ljava/lang/Object;" .null) (p2_ : Fld Z h0 a1 "java/util/ImmutableCollections$List12" "e1" "Ljava/lang/Object;" .null) (hn0 : Z.heap.size ≤ a1) :
    MetFree l mN27 (head1 (Jvm.Cond.code mN27 jdk_44_method_2_code 3 none :: ws) rM18) (fun a U => a = #[(.ref a1), (.ref a2), (.ref a3)] ∧ Z.Warmed39 U.vm ∧ U.heap = h0) (fun _ _ _ _ _ => True) (fun _ U o U' => ∃ v L, o = .returned v ∧ Q_l12b Z a1 a2 a3 h0 v U'.heap L ∧ FrameEnd U o U' L rM18.cells rM18.slots) := by
  refine MetFree.of_bodySF (plainFor_of_name pn_219) hisR ?_
  intro p e s m args below meth c s₁ Bd hml0 hP hK
  obtain ⟨rfl, hZ, hh⟩ := hP
  have hx := Bd.exec
  have hby := Bd.bytes
  have hml : c.maxLocals = 3 := hml0
  have hown : s.vm.findClass "java/util/ImmutableCollections$List12" = some m.cls := findClass_of_methodNamed Bd.named
  have hnm := (name_of_methodNamed Bd.named Bd.method).1
  have X0 : Stand p l e rM18 s m #[(.ref a1), (.ref a2), (.ref a3)] below meth c s₁ [] 0 0 := Stand.of_body Bd
  have e0 : s₁.heap = h0 := by rw [← hh, Bd.state]; rfl
  have N0 := Fr.nil Z.heap.size
  have Z0 : Z.heap.size ≤ h0.size := OL.2.1
  have lt_0 : @LT.lt Nat _ a1 h0.size := p0_.lt
  have lt_1 : @LT.lt Nat _ a1 h0.size := p1_.lt
  have lt_2 : @LT.lt Nat _ a1 h0.size := p2_.lt
  show own_Go p.tables e below (fun o tE => ∃ v L, o = .returned v ∧ Q_l12b Z a1 a2 a3 h0 v tE.heap L ∧ FrameEnd s o tE L rM18.cells rM18.slots) (s₁.setTop (entryFrame m #[(.ref a1), (.ref a2), (.ref a3)] 3))
  refine own_hd (fun PP hPP => ?_)
  refine own_Go.st (fun t k => castTop (ef_231 m a1 a2 a3) k) ?_
  refine own_Go.st (fun _ k => XS.aloadN X0.here hx rfl (hb hby dj44_2_0) rfl rfl k) ?_
  show own_Go _ _ _ _ (s₁.setTop (mkF m 1 #[.val (.ref a1), .val (.ref a2), .val (.ref a3)] [(.ref a1)]))
  obtain ⟨_, _, ⟨T349, L349, k349, n349⟩, -, X349, ⟨Lc349, hQ349, l349, y349, z349⟩, st349⟩ := X0.specialBack hx (y := mN25) rfl hown (own_v hZ hw 231 rfl) (own_v hZ hw 189 rfl) (own_v hZ hw 193 rfl) (by decide) (backOf (W := 0) (rm_ailinit l Z a0 hw [] a1 h0 OL ) hZ (own_w hw 193 rfl) (own_w hw 192 rfl) (by decide) (by decide)) (g := (mkF m 1 #[.val (.ref a1), .val (.ref a2), .val (.ref a3)] [(.ref a1)])) rfl (by rw [hml]; rfl) (Steps.refl _) (a := a1) (argsL := []) (rest := []) (lenOf pd_73 rfl) rfl (by show 2 * 0 + _ ≤ _; exact Nat.le_of_eq rfl) (hb hby dj44_2_1) (fun _ _ => ⟨rfl, e0, (by decide : 0 + 0 ≤ _), (by decide : 0 + 0 ≤ _)⟩)
  dsimp only [Pt.U, Pt.locs, Pt.cells, Pt.slots] at X349 l349 y349 z349 st349 hQ349
  subst l349 y349 z349
  obtain ⟨rfl, N349q, K349⟩ := hQ349
  have N349 := Fr.app N0 N349q
  refine own_Go.tr st349 ?_
  refine own_Go.st (fun _ k => XS.aloadN X349.here hx rfl (hb hby dj44_2_4) rfl rfl (XS.aloadN X349.here hx rfl (hb hby dj44_2_5) rfl rfl k)) ?_
  show own_Go _ _ _ _ (T349.setTop (mkF m 6 #[.val (.ref a1), .val (.ref a2), .val (.ref a3)] [(.ref a2), (.ref a1)]))
  obtain ⟨_, _, ⟨T350, L350, k350, n350⟩, -, X350, ⟨Lc350, hQ350, l350, y350, z350⟩, st350⟩ := Jvm.LawKit.callS X349 hx (y := mN35) hown (own_v hZ hw 235 rfl) (own_v hZ hw 179 rfl) (own_v hZ hw 180 rfl) (own_v hZ hw 181 rfl) (by decide) (backOf (W := 1) (rm_reqNN l Z a0 hw [] a2 h0 OL ) hZ (own_w hw 181 rfl) (own_w hw 180 rfl) (by decide) (by decide)) (g := (mkF m 6 #[.val (.ref a1), .val (.ref a2), .val (.ref a3)] [(.ref a2), (.ref a1)])) rfl (by rw [hml]; rfl) (argsL := [(.ref a2)]) (rest := [(.ref a1)]) (lenOf pd_224 rfl) rfl (by show 2 * 0 + _ ≤ _; exact Nat.le_of_eq rfl) (hb hby dj44_2_6) (fun _ _ => ⟨rfl, K349, (by decide : 0 + 0 ≤ _), (by decide : 0 + 0 ≤ _)⟩)
  dsimp only [Pt.U, Pt.locs, Pt.cells, Pt.slots] at X350 l350 y350 z350 st350 hQ350
  subst l350 y350 z350
  obtain ⟨rfl, N350q, K350⟩ := hQ350
  have N350 := Fr.app N349 N350q
  refine own_Go.st st350 ?_
  show own_Go _ _ _ _ (T350.setTop (mkF m 9 #[.val (.ref a1), .val (.ref a2), .val (.ref a3)] [(.ref a2), (.ref a1)]))
  obtain ⟨T351, h351, X351, e351, W351, st351⟩ := putF X350 hx hZ hown (host := "") (Or.inl (own_w hw 236 rfl)) Via.refl K350 p1_ p0_ (Or.inr ⟨(own_w hw 237 rfl), rfl, hnm⟩) (own_w hw 225 rfl) (ty := (.object "java/lang/Object")) (by decide) rfl rfl (g := (mkF m 9 #[.val (.ref a1), .val (.ref a2), .val (.ref a3)] [(.ref a2), (.ref a1)])) rfl rfl (hb hby dj44_2_9)
  refine own_Go.st st351 ?_
  have N351 := Fr.snoc X351 N350 (by omega)
  have z351 : h0.size ≤ h351.size := Nat.le_of_eq W351.size.symm
  have f352 : Fld Z h351 a1 "java/util/ImmutableCollections$List12" "e0" "Ljava/lang/Object;" (.ref a2) := p1_.same W351
  refine own_Go.st (fun _ k => XS.aloadN X351.here hx rfl (hb hby dj44_2_12) rfl rfl (XS.aloadN X351.here hx rfl (hb hby dj44_2_13) rfl rfl k)) ?_
  show own_Go _ _ _ _ (T351.setTop (mkF m 14 #[.val (.ref a1), .val (.ref a2), .val (.ref a3)] [(.ref a3), (.ref a1)]))
  have f354 : Old Z Z.heap.size h351 := OL.wr W351 (by omega)
  obtain ⟨_, _, ⟨T353, L353, k353, n353⟩, -, X353, ⟨Lc353, hQ353, l353, y353, z353⟩, st353⟩ := Jvm.LawKit.callS X351 hx (y := mN35) hown (own_v hZ hw 235 rfl) (own_v hZ hw 179 rfl) (own_v hZ hw 180 rfl) (own_v hZ hw 181 rfl) (by decide) (backOf (W := 1) (rm_reqNN l Z a0 hw [] a3 h351 f354 ) hZ (own_w hw 181 rfl) (own_w hw 180 rfl) (by decide) (by decide)) (g := (mkF m 14 #[.val (.ref a1), .val (.ref a2), .val (.ref a3)] [(.ref a3), (.ref a1)])) rfl (by rw [hml]; rfl) (argsL := [(.ref a3)]) (rest := [(.ref a1)]) (lenOf pd_224 rfl) rfl (by show 2 * 0 + _ ≤ _; exact Nat.le_of_eq rfl) (hb hby dj44_2_14) (fun _ _ => ⟨rfl, e351, (by decide : 0 + 0 ≤ _), (by decide : 0 + 0 ≤ _)⟩)
  dsimp only [Pt.U, Pt.locs, Pt.cells, Pt.slots] at X353 l353 y353 z353 st353 hQ353
  subst l353 y353 z353
  obtain ⟨rfl, N353q, K353⟩ := hQ353
  have N353 := Fr.app N351 N353q
  refine own_Go.st st353 ?_
  show own_Go _ _ _ _ (T353.setTop (mkF m 17 #[.val (.ref a1), .val (.ref a2), .val (.ref a3)] [(.ref a3), (.ref a1)]))
  have f355 : Fld Z h351 a1 "java/util/ImmutableCollections$List12" "e1" "Ljava/lang/Object;" .null := p2_.other W351 (Or.inr (slot_ne (Or.inr (own_w hw 239 rfl)) (Or.inr (own_w hw 237 rfl)) (by decide) (t := (.object "java/lang/Object")) (t' := (.object "java/lang/Object")) (by decide) (by decide)))
  have f356 : Exa Z h351 a1 "java/util/ImmutableCollections$List12" := p0_.wr W351
  obtain ⟨T357, h357, X357, e357, W357, st357⟩ := putF X353 hx hZ hown (host := "") (Or.inl (own_w hw 238 rfl)) Via.refl K353 f355 f356 (Or.inr ⟨(own_w hw 239 rfl), rfl, hnm⟩) (own_w hw 225 rfl) (ty := (.object "java/lang/Object")) (by decide) rfl rfl (g := (mkF m 17 #[.val (.ref a1), .val (.ref a2), .val (.ref a3)] [(.ref a3), (.ref a1)])) rfl rfl (hb hby dj44_2_17)
  refine own_Go.st st357 ?_
  have N357 := Fr.snoc X357 N353 (by omega)
  have z357 : h351.size ≤ h357.size := Nat.le_of_eq W357.size.symm
  have f358 : Fld Z h357 a1 "java/util/ImmutableCollections$List12" "e1" "Ljava/lang/Object;" (.ref a3) := f355.same W357
  show own_Go _ _ _ _ (T357.setTop (mkF m 20 #[.val (.ref a1), .val (.ref a2), .val (.ref a3)] []))
  obtain ⟨fs359, hr359, hrun359, hend359, hW359, hsm359⟩ := X357.leave (v := none) (fun _ => rfl)
  have K360 : Keep h0 h351 [a1] := (Keep.refl h0 [a1]).wr W351 (Or.inl (List.mem_of_getElem? (i := 0) rfl))
  have K361 : Keep h0 h357 [a1] := K360.wr W357 (Or.inl (List.mem_of_getElem? (i := 0) rfl))
  have f362 : Exa Z h357 a1 "java/util/ImmutableCollections$List12" := f356.wr W357
  subst hPP
  refine ⟨_, _, X357.returnOut hx Bd.returns (hb hby dj44_2_20) hr359, hrun359, hend359, _, _, rfl, ?_, ⟨_, rfl⟩, hW359, hsm359.mono (by decide) (by decide)⟩
  · show Q_l12b Z _ _ _ h0 _ T357.heap _
    rw [e357]
    exact ⟨rfl, N357, K361, f362⟩
theorem pn_243 : plainName "java/util/ImmutableCollections$ListN" = true := by first | (simp [plainName, overriddenIn]; done) | decide +kernel
theorem dj45_1_0 : decode jdk_45_method_1_code 0 = .ok (.aload_n 0, 1) := by decide +kernel
theorem dj45_1_1 : decode jdk_45_method_1_code 1 = .ok (.invokespecial 1, 3) := by decide +kernel
theorem dj45_1_4 : decode jdk_45_method_1_code 4 = .ok (.aload_n 0, 1) := by decide +kernel
theorem dj45_1_5 : decode jdk_45_method_1_code 5 = .ok (.aload_n 1, 1) := by decide +kernel
theorem dj45_1_6 : decode jdk_45_method_1_code 6 = .ok (.putfield 7, 3) := by decide +kernel
theorem dj45_1_9 : decode jdk_45_method_1_code 9 = .ok (.aload_n 0, 1) := by decide +kernel
theorem dj45_1_10 : decode jdk_45_method_1_code 10 = .ok (.iload_n 2, 1) := by decide +kernel
theorem dj45_1_11 : decode jdk_45_method_1_code 11 = .ok (.putfield 13, 3) := by decide +kernel
theorem dj45_1_14 : decode jdk_45_method_1_code 14 = .ok (.return_, 1) := by decide +kernel
def Q_lninit (Z : State) (a1 : Nat) (a2 : Nat) (h0 : Heap) (v : Option Value) (h : Heap) (L : List Loc) : Prop := v = none ∧ Fr Z.heap.size L ∧ Keep h0 h [a1] ∧ Exa Z h a1 "java/util/ImmutableCollections$ListN" ∧ Fld Z h a1 "java/util/ImmutableCollections$ListN" "elements" "[Ljava/lang/Object;" (.ref a2)
set_option maxRecDepth 65536 in
set_option maxHeartbeats 40000000 in
theorem rm_lninit (l : Launch) (Z : State) (a0 : Array Value) (hw : ∀ d ∈ tables_1, d.before a0 Z = true) (ws : List Jvm.Cond) (a1 : Nat) (a2 : Nat) (h0 : Heap) (OL : Old Z Z.heap.size h0) (p0_ : Exa Z h0 a1 "java/util/ImmutableCollections$ListN") (p1_ : Fld Z h0 a1 "java/util/ImmutableCollections$ListN" "elements" "[Ljava/lang/Object;" .null) (p2_ : Fld Z h0 a1 "java/util/ImmutableCollections$ListN" "allowNulls" "Z" (.int (0 : Int32))) (hn0 : Z.heap.size ≤ a1) :
    MetFree l mN29 (head1 (Jvm.Cond.code mN29 jdk_45_method_1_code 3 none :: ws) rM18) (fun a U => a = #[(.ref a1), (.ref a2), (.int (0 : Int32))] ∧ Z.Warmed39 U.vm ∧ U.heap = h0) (fun _ _ _ _ _ => True) (fun _ U o U' => ∃ v L, o = .returned v ∧ Q_lninit Z a1 a2 h0 v U'.heap L ∧ FrameEnd U o U' L rM18.cells rM18.slots) := by
  refine MetFree.of_bodySF (plainFor_of_name pn_243) hisR ?_
  intro p e s m args below meth c s₁ Bd hml0 hP hK
  obtain ⟨rfl, hZ, hh⟩ := hP
  have hx := Bd.exec
  have hby := Bd.bytes
  have hml : c.maxLocals = 3 := hml0
  have hown : s.vm.findClass "java/util/ImmutableCollections$ListN" = some m.cls := findClass_of_methodNamed Bd.named
  have hnm := (name_of_methodNamed Bd.named Bd.method).1
  have X0 : Stand p l e rM18 s m #[(.ref a1), (.ref a2), (.int (0 : Int32))] below meth c s₁ [] 0 0 := Stand.of_body Bd
  have e0 : s₁.heap = h0 := by rw [← hh, Bd.state]; rfl
  have N0 := Fr.nil Z.heap.size
  have Z0 : Z.heap.size ≤ h0.size := OL.2.1
  have lt_0 : @LT.lt Nat _ a1 h0.size := p0_.lt
  have lt_1 : @LT.lt Nat _ a1 h0.size := p1_.lt
  have lt_2 : @LT.lt Nat _ a1 h0.size := p2_.lt
  show own_Go p.tables e below (fun o tE => ∃ v L, o = .returned v ∧ Q_lninit Z a1 a2 h0 v tE.heap L ∧ FrameEnd s o tE L rM18.cells rM18.slots) (s₁.setTop (entryFrame m #[(.ref a1), (.ref a2), (.int (0 : Int32))] 3))
  refine own_hd (fun PP hPP => ?_)
  refine own_Go.st (fun t k => castTop (ef_17 m a1 a2 (0 : Int32)) k) ?_
  refine own_Go.st (fun _ k => XS.aloadN X0.here hx rfl (hb hby dj45_1_0) rfl rfl k) ?_
  show own_Go _ _ _ _ (s₁.setTop (mkF m 1 #[.val (.ref a1), .val (.ref a2), .val (.int (0 : Int32))] [(.ref a1)]))
  obtain ⟨_, _, ⟨T363, L363, k363, n363⟩, -, X363, ⟨Lc363, hQ363, l363, y363, z363⟩, st363⟩ := X0.specialBack hx (y := mN25) rfl hown (own_v hZ hw 188 rfl) (own_v hZ hw 189 rfl) (own_v hZ hw 193 rfl) (by decide) (backOf (W := 0) (rm_ailinit l Z a0 hw [] a1 h0 OL ) hZ (own_w hw 193 rfl) (own_w hw 192 rfl) (by decide) (by decide)) (g := (mkF m 1 #[.val (.ref a1), .val (.ref a2), .val (.int (0 : Int32))] [(.ref a1)])) rfl (by rw [hml]; rfl) (Steps.refl _) (a := a1) (argsL := []) (rest := []) (lenOf pd_73 rfl) rfl (by show 2 * 0 + _ ≤ _; exact Nat.le_of_eq rfl) (hb hby dj45_1_1) (fun _ _ => ⟨rfl, e0, (by decide : 0 + 0 ≤ _), (by decide : 0 + 0 ≤ _)⟩)
  dsimp only [Pt.U, Pt.locs, Pt.cells, Pt.slots] at X363 l363 y363 z363 st363 hQ363
  subst l363 y363 z363
  obtain ⟨rfl, N363q, K363⟩ := hQ363
  have N363 := Fr.app N0 N363q
  refine own_Go.tr st363 ?_
  refine own_Go.st (fun _ k => XS.aloadN X363.here hx rfl (hb hby dj45_1_4) rfl rfl (XS.aloadN X363.here hx rfl (hb hby dj45_1_5) rfl rfl k)) ?_
  show own_Go _ _ _ _ (T363.setTop (mkF m 6 #[.val (.ref a1), .val (.ref a2), .val (.int (0 : Int32))] [(.ref a2), (.ref a1)]))
  obtain ⟨T364, h364, X364, e364, W364, st364⟩ := putF X363 hx hZ hown (host := "") (Or.inl (own_w hw 202 rfl)) Via.refl K363 p1_ p0_ (Or.inr ⟨(own_w hw 203 rfl), rfl, hnm⟩) (own_w hw 182 rfl) (ty := (.array (.object "java/lang/Object"))) (by decide) rfl rfl (g := (mkF m 6 #[.val (.ref a1), .val (.ref a2), .val (.int (0 : Int32))] [(.ref a2), (.ref a1)])) rfl rfl (hb hby dj45_1_6)
  refine own_Go.st st364 ?_
  have N364 := Fr.snoc X364 N363 (by omega)
  have z364 : h0.size ≤ h364.size := Nat.le_of_eq W364.size.symm
  have f365 : Fld Z h364 a1 "java/util/ImmutableCollections$ListN" "elements" "[Ljava/lang/Object;" (.ref a2) := p1_.same W364
  refine own_Go.st (fun _ k => XS.aloadN X364.here hx rfl (hb hby dj45_1_9) rfl rfl (XS.iloadN X364.here hx rfl (hb hby dj45_1_10) rfl k)) ?_
  show own_Go _ _ _ _ (T364.setTop (mkF m 11 #[.val (.ref a1), .val (.ref a2), .val (.int (0 : Int32))] [(.int (0 : Int32)), (.ref a1)]))
  have f366 : Fld Z h364 a1 "java/util/ImmutableCollections$ListN" "allowNulls" "Z" (.int (0 : Int32)) := p2_.other W364 (Or.inr (slot_ne (Or.inr (own_w hw 205 rfl)) (Or.inr (own_w hw 203 rfl)) (by decide) (t := .boolean) (t' := (.array (.object "java/lang/Object"))) (by decide) (by decide)))
  have f367 : Exa Z h364 a1 "java/util/ImmutableCollections$ListN" := p0_.wr W364
  obtain ⟨T368, h368, X368, e368, W368, st368⟩ := putF X364 hx hZ hown (host := "") (Or.inl (own_w hw 204 rfl)) Via.refl e364 f366 f367 (Or.inr ⟨(own_w hw 205 rfl), rfl, hnm⟩) (own_w hw 182 rfl) (ty := .boolean) (by decide) rfl (by decide) (g := (mkF m 11 #[.val (.ref a1), .val (.ref a2), .val (.int (0 : Int32))] [(.int (0 : Int32)), (.ref a1)])) rfl rfl (hb hby dj45_1_11)
  refine own_Go.st st368 ?_
  have N368 := Fr.snoc X368 N364 (by omega)
  have z368 : h364.size ≤ h368.size := Nat.le_of_eq W368.size.symm
  have f369 : Fld Z h368 a1 "java/util/ImmutableCollections$ListN" "allowNulls" "Z" (.int (0 : Int32)) := f366.same W368
  show own_Go _ _ _ _ (T368.setTop (mkF m 14 #[.val (.ref a1), .val (.ref a2), .val (.int (0 : Int32))] []))
  obtain ⟨fs370, hr370, hrun370, hend370, hW370, hsm370⟩ := X368.leave (v := none) (fun _ => rfl)
  have K371 : Keep h0 h364 [a1] := (Keep.refl h0 [a1]).wr W364 (Or.inl (List.mem_of_getElem? (i := 0) rfl))
  have K372 : Keep h0 h368 [a1] := K371.wr W368 (Or.inl (List.mem_of_getElem? (i := 0) rfl))
  have f373 : Exa Z h368 a1 "java/util/ImmutableCollections$ListN" := f367.wr W368
  have f374 : Fld Z h368 a1 "java/util/ImmutableCollections$ListN" "elements" "[Ljava/lang/Object;" (.ref a2) := f365.other W368 (Or.inr (slot_ne (Or.inr (own_w hw 203 rfl)) (Or.inr (own_w hw 205 rfl)) (by decide) (t := (.array (.object "java/lang/Object"))) (t' := .boolean) (by decide) (by decide)))
  subst hPP
  refine ⟨_, _, X368.returnOut hx Bd.returns (hb hby dj45_1_14) hr370, hrun370, hend370, _, _, rfl, ?_, ⟨_, rfl⟩, hW370, hsm370.mono (by decide) (by decide)⟩
  · show Q_lninit Z _ _ h0 _ T368.heap _
    rw [e368]
    exact ⟨rfl, N368, K372, f373, f374⟩
theorem pn_253 : plainName "java/util/ImmutableCollections" = true := by first | (simp [plainName, overriddenIn]; done) | decide +kernel
theorem ef_254 (m : MethodId) (x0 : Nat) : entryFrame m #[(.ref x0)] 3 = mkF m 0 #[.val (.ref x0), .unset, .unset] [] := by first | (simp [entryFrame, mkF, argsToLocals, Value.category]; done) | rfl
theorem dj56_4_0 : decode jdk_56_method_4_code 0 = .ok (.aload_n 0, 1) := by decide +kernel
theorem dj56_4_1 : decode jdk_56_method_4_code 1 = .ok (.arraylength, 1) := by decide +kernel
theorem dj56_4_2 : decode jdk_56_method_4_code 2 = .ok (.anewarray 2, 3) := by decide +kernel
theorem dj56_4_5 : decode jdk_56_method_4_code 5 = .ok (.astore_n 1, 1) := by decide +kernel
theorem dj56_4_6 : decode jdk_56_method_4_code 6 = .ok (.iconst 0, 1) := by decide +kernel
theorem dj56_4_7 : decode jdk_56_method_4_code 7 = .ok (.istore_n 2, 1) := by decide +kernel
theorem dj56_4_8 : decode jdk_56_method_4_code 8 = .ok (.iload_n 2, 1) := by decide +kernel
theorem dj56_4_9 : decode jdk_56_method_4_code 9 = .ok (.aload_n 0, 1) := by decide +kernel
theorem dj56_4_10 : decode jdk_56_method_4_code 10 = .ok (.arraylength, 1) := by decide +kernel
theorem dj56_4_11 : decode jdk_56_method_4_code 11 = .ok (.if_icmp .ge 18, 3) := by decide +kernel
theorem dj56_4_14 : decode jdk_56_method_4_code 14 = .ok (.aload_n 1, 1) := by decide +kernel
theorem dj56_4_15 : decode jdk_56_method_4_code 15 = .ok (.iload_n 2, 1) := by decide +kernel
theorem dj56_4_16 : decode jdk_56_method_4_code 16 = .ok (.aload_n 0, 1) := by decide +kernel
theorem dj56_4_17 : decode jdk_56_method_4_code 17 = .ok (.iload_n 2, 1) := by decide +kernel
theorem dj56_4_18 : decode jdk_56_method_4_code 18 = .ok (.aaload, 1) := by decide +kernel
theorem dj56_4_19 : decode jdk_56_method_4_code 19 = .ok (.invokestatic 37, 3) := by decide +kernel
theorem dj56_4_22 : decode jdk_56_method_4_code 22 = .ok (.aastore, 1) := by decide +kernel
theorem dj56_4_23 : decode jdk_56_method_4_code 23 = .ok (.iinc 2 1, 3) := by decide +kernel
theorem dj56_4_26 : decode jdk_56_method_4_code 26 = .ok (.goto (-18), 3) := by decide +kernel
theorem dj56_4_29 : decode jdk_56_method_4_code 29 = .ok (.new 12, 3) := by decide +kernel
theorem dj56_4_32 : decode jdk_56_method_4_code 32 = .ok (.dup, 1) := by decide +kernel
theorem dj56_4_33 : decode jdk_56_method_4_code 33 = .ok (.aload_n 1, 1) := by decide +kernel
theorem dj56_4_34 : decode jdk_56_method_4_code 34 = .ok (.iconst 0, 1) := by decide +kernel
theorem pd_278 : parseMethodDescriptor "([Ljava/lang/Object;Z)V" = some ⟨[(.array (.object "java/lang/Object")), .boolean], none⟩ := by decide +kernel
theorem dj56_4_35 : decode jdk_56_method_4_code 35 = .ok (.invokespecial 43, 3) := by decide +kernel
theorem dj56_4_38 : decode jdk_56_method_4_code 38 = .ok (.areturn, 1) := by decide +kernel
def Q_lfa (Z : State) (a1 : Nat) (x0 : Nat) (x1 : Nat) (x2 : Nat) (k : ClassId) (h0 : Heap) (v : Option Value) (h : Heap) (L : List Loc) : Prop := ∃ (x : Nat), v = some (.ref x) ∧ Fr Z.heap.size L ∧ Keep h0 h [] ∧ own_Li Z h x 3
set_option maxRecDepth 65536 in
set_option maxHeartbeats 40000000 in
theorem rm_lfa (l : Launch) (Z : State) (a0 : Array Value) (hw : ∀ d ∈ tables_1, d.before a0 Z = true) (ws : List Jvm.Cond) (a1 : Nat) (x0 : Nat) (x1 : Nat) (x2 : Nat) (k : ClassId) (h0 : Heap) (OL : Old Z Z.heap.size h0) (p0_ : Arv Z h0 a1 k (.object "java/lang/Object") (3 : Int32) [(.ref x0), (.ref x1), (.ref x2)] .null) (p1_ : Exa Z h0 x0 "java/lang/String") (p2_ : Exa Z h0 x1 "java/lang/String") (p3_ : Exa Z h0 x2 "java/lang/String") :
    MetFree l mN23 (head1 (Jvm.Cond.code mN23 jdk_56_method_4_code 3 (some (.object "java/util/List")) :: ws) rM20) (fun a U => a = #[(.ref a1)] ∧ Z.Warmed39 U.vm ∧ U.heap = h0) (fun _ _ _ _ _ => True) (fun _ U o U' => ∃ v L, o = .returned v ∧ Q_lfa Z a1 x0 x1 x2 k h0 v U'.heap L ∧ FrameEnd U o U' L rM20.cells rM20.slots) := by
  refine MetFree.of_bodySF (plainFor_of_name pn_253) hisR ?_
  intro p e s m args below meth c s₁ Bd hml0 hP hK
  obtain ⟨rfl, hZ, hh⟩ := hP
  have hx := Bd.exec
  have hby := Bd.bytes
  have hml : c.maxLocals = 3 := hml0
  have hown : s.vm.findClass "java/util/ImmutableCollections" = some m.cls := findClass_of_methodNamed Bd.named
  have hnm := (name_of_methodNamed Bd.named Bd.method).1
  have X0 : Stand p l e rM20 s m #[(.ref a1)] below meth c s₁ [] 0 0 := Stand.of_body Bd
  have e0 : s₁.heap = h0 := by rw [← hh, Bd.state]; rfl
  have N0 := Fr.nil Z.heap.size
  have Z0 : Z.heap.size ≤ h0.size := OL.2.1
  have lt_0 : @LT.lt Nat _ a1 h0.size := p0_.lt
  have lt_1 : @LT.lt Nat _ x0 h0.size := p1_.lt
  have lt_2 : @LT.lt Nat _ x1 h0.size := p2_.lt
  have lt_3 : @LT.lt Nat _ x2 h0.size := p3_.lt
  show own_Go p.tables e below (fun o tE => ∃ v L, o = .returned v ∧ Q_lfa Z a1 x0 x1 x2 k h0 v tE.heap L ∧ FrameEnd s o tE L rM20.cells rM20.slots) (s₁.setTop (entryFrame m #[(.ref a1)] 3))
  refine own_hd (fun PP hPP => ?_)
  refine own_Go.st (fun t k => castTop (ef_254 m a1) k) ?_
  refine own_Go.st (fun _ k => XS.aloadN X0.here hx rfl (hb hby dj56_4_0) rfl rfl k) ?_
  show own_Go _ _ _ _ (s₁.setTop (mkF m 1 #[.val (.ref a1), .unset, .unset] [(.ref a1)]))
  obtain ⟨c375, Ar375, q375, S375, Nn375, H375, G375⟩ := id p0_
  refine own_Go.st (X0.arraylength hx (own_rwE e0 Ar375.1) (State.isArrayOf_alike hZ.alike Ar375.2.1) (g := (mkF m 1 #[.val (.ref a1), .unset, .unset] [(.ref a1)])) rfl rfl (hb hby dj56_4_1)) ?_
  rw [len_of S375 Nn375]
  show own_Go _ _ _ _ (s₁.setTop (mkF m 2 #[.val (.ref a1), .unset, .unset] [(.int (3 : Int32))]))
  obtain ⟨T376, h376, k376, X376, e376, E376, A376, Q376, O376, st376⟩ := newRE X0 hx hZ hown (own_w hw 177 rfl) (own_w hw 100 rfl) e0 (g := (mkF m 2 #[.val (.ref a1), .unset, .unset] [(.int (3 : Int32))])) rfl (hb hby dj56_4_2) rfl (by decide) (cap := 3) (by decide) (by decide) (by decide) (by decide) (ad := "[Ljava/lang/Object;") (by decide)
  obtain ⟨b376, g376⟩ : ∃ z, z = h0.size := ⟨_, rfl⟩
  rw [← g376] at A376 Q376 st376
  refine own_Go.st st376 ?_
  have z376 : h0.size ≤ h376.size := E376.1
  have f377 : Arv Z h376 b376 k376 (.object "java/lang/Object") (3 : Int32) [.null, .null, .null] .null := (Arv.new A376 (by decide)).pad (pad_rep [] .null 3)
  have lt_b376 : @LT.lt Nat _ b376 h376.size := f377.lt
  refine own_Go.st (fun _ k => XS.astoreN X376.here hx rfl (hb hby dj56_4_5) rfl rfl (l' := #[.val (.ref a1), .val (.ref b376), .unset]) rfl (XS.iconst X376.here hx rfl (hb hby dj56_4_6) (XS.istoreN X376.here hx rfl (hb hby dj56_4_7) rfl (l' := #[.val (.ref a1), .val (.ref b376), .val (.int (0 : Int32))]) rfl (XS.iloadN X376.here hx rfl (hb hby dj56_4_8) rfl (XS.aloadN X376.here hx rfl (hb hby dj56_4_9) rfl rfl k))))) ?_
  show own_Go _ _ _ _ (T376.setTop (mkF m 10 #[.val (.ref a1), .val (.ref b376), .val (.int (0 : Int32))] [(.ref a1), (.int (0 : Int32))]))
  have f378 : Arv Z h376 a1 k (.object "java/lang/Object") (3 : Int32) [(.ref x0), (.ref x1), (.ref x2)] .null := p0_.ext E376
  obtain ⟨c379, Ar379, q379, S379, Nn379, H379, G379⟩ := id f378
  refine own_Go.st (X376.arraylength hx (own_rwE e376 Ar379.1) (State.isArrayOf_alike hZ.alike Ar379.2.1) (g := (mkF m 10 #[.val (.ref a1), .val (.ref b376), .val (.int (0 : Int32))] [(.ref a1), (.int (0 : Int32))])) rfl rfl (hb hby dj56_4_10)) ?_
  rw [len_of S379 Nn379]
  show own_Go _ _ _ _ (T376.setTop (mkF m 11 #[.val (.ref a1), .val (.ref b376), .val (.int (0 : Int32))] [(.int (3 : Int32)), (.int (0 : Int32))]))
  refine own_Go.st (fun _ k => XS.icmpNo X376.here hx rfl (hb hby dj56_4_11) rfl (tlt (by decide : (0 : Int32) < (3 : Int32))).2.1 k) ?_
  refine own_Go.st (fun _ k => XS.aloadN X376.here hx rfl (hb hby dj56_4_14) rfl rfl (XS.iloadN X376.here hx rfl (hb hby dj56_4_15) rfl (XS.aloadN X376.here hx rfl (hb hby dj56_4_16) rfl rfl (XS.iloadN X376.here hx rfl (hb hby dj56_4_17) rfl k)))) ?_
  show own_Go _ _ _ _ (T376.setTop (mkF m 18 #[.val (.ref a1), .val (.ref b376), .val (.int (0 : Int32))] [(.int (0 : Int32)), (.ref a1), (.int (0 : Int32)), (.ref b376)]))
  obtain ⟨c380, Ar380, q380, S380, Nn380, H380, G380⟩ := id f378
  have hin380 : ¬ ((0 : Int32) < 0 ∨ c380.slots.size ≤ ((0 : Int32)).toNatClampNeg) := inb_of S380 ⟨by decide, by decide⟩
  have hat380 : c380.slots[((0 : Int32)).toNatClampNeg]? = some (.ref x0) := H380.at hin380 rfl
  refine own_Go.st (X376.aaload hx (j := (0 : Int32)) (v := (.ref x0)) (own_rwE e376 Ar380.1) (State.isArrayOf_alike hZ.alike Ar380.2.1) rfl Ar380.2.2 hin380 hat380 (g := (mkF m 18 #[.val (.ref a1), .val (.ref b376), .val (.int (0 : Int32))] [(.int (0 : Int32)), (.ref a1), (.int (0 : Int32)), (.ref b376)])) rfl rfl (hb hby dj56_4_18)) ?_
  show own_Go _ _ _ _ (T376.setTop (mkF m 19 #[.val (.ref a1), .val (.ref b376), .val (.int (0 : Int32))] [(.ref x0), (.int (0 : Int32)), (.ref b376)]))
  have f382 : Old Z Z.heap.size h376 := OL.ext E376
  obtain ⟨_, _, ⟨T381, L381, k381, n381⟩, -, X381, ⟨Lc381, hQ381, l381, y381, z381⟩, st381⟩ := Jvm.LawKit.callS X376 hx (y := mN35) hown (own_v hZ hw 178 rfl) (own_v hZ hw 179 rfl) (own_v hZ hw 180 rfl) (own_v hZ hw 181 rfl) (by decide) (backOf (W := 2) (rm_reqNN l Z a0 hw [] x0 h376 f382 ) hZ (own_w hw 181 rfl) (own_w hw 180 rfl) (by decide) (by decide)) (g := (mkF m 19 #[.val (.ref a1), .val (.ref b376), .val (.int (0 : Int32))] [(.ref x0), (.int (0 : Int32)), (.ref b376)])) rfl (by rw [hml]; rfl) (argsL := [(.ref x0)]) (rest := [(.int (0 : Int32)), (.ref b376)]) (lenOf pd_224 rfl) rfl (by show 2 * 0 + _ ≤ _; exact Nat.le_of_eq rfl) (hb hby dj56_4_19) (fun _ _ => ⟨rfl, e376, (by decide : 1 + 0 ≤ _), (by decide : 3 + 0 ≤ _)⟩)
  dsimp only [Pt.U, Pt.locs, Pt.cells, Pt.slots] at X381 l381 y381 z381 st381 hQ381
  subst l381 y381 z381
  obtain ⟨rfl, N381q, K381⟩ := hQ381
  have N381 := Fr.app N0 N381q
  refine own_Go.st st381 ?_
  show own_Go _ _ _ _ (T381.setTop (mkF m 22 #[.val (.ref a1), .val (.ref b376), .val (.int (0 : Int32))] [(.ref x0), (.int (0 : Int32)), (.ref b376)]))
  have f383 : Exa Z h376 x0 "java/lang/String" := p1_.ext E376
  obtain ⟨c384, Ar384, q384, S384, Nn384, H384, G384⟩ := id f377
  have hin384 : ¬ ((0 : Int32) < 0 ∨ c384.slots.size ≤ ((0 : Int32)).toNatClampNeg) := inb_of S384 ⟨by decide, by decide⟩
  obtain ⟨T384, h384, X384, e384, W384, st384⟩ := stR X381 hx hZ K381 Ar384 (j := (0 : Int32)) hin384 rfl (Sto.of Ar384 (by rw [q384]; exact O376) (Ins.of_exa f383 (own_w hw 101 rfl))) (g := (mkF m 22 #[.val (.ref a1), .val (.ref b376), .val (.int (0 : Int32))] [(.ref x0), (.int (0 : Int32)), (.ref b376)])) rfl rfl (hb hby dj56_4_22)
  refine own_Go.st st384 ?_
  have N384 := Fr.snoc X384 N381 (by omega)
  have z384 : h376.size ≤ h384.size := Nat.le_of_eq W384.size.symm
  have f385 : Arv Z h384 b376 k376 (.object "java/lang/Object") (3 : Int32) [(.ref x0), .null, .null] .null := Arv.set Ar384 q384 S384 Nn384 H384 G384 rfl W384 0 rfl (Nat.le_of_ble_eq_true rfl)
  refine own_Go.st (fun _ k => XS.iinc X384.here hx rfl (hb hby dj56_4_23) rfl (l' := #[.val (.ref a1), .val (.ref b376), .val (.int (1 : Int32))]) rfl (XS.goto X384.here hx rfl (pc0 := 26) (pc' := 8) rfl (hb hby dj56_4_26) (by decide) (by decide) (XS.iloadN X384.here hx rfl (hb hby dj56_4_8) rfl (XS.aloadN X384.here hx rfl (hb hby dj56_4_9) rfl rfl k)))) ?_
  show own_Go _ _ _ _ (T384.setTop (mkF m 10 #[.val (.ref a1), .val (.ref b376), .val (.int (1 : Int32))] [(.ref a1), (.int (1 : Int32))]))
  have f387 : Arv Z h384 a1 k (.object "java/lang/Object") (3 : Int32) [(.ref x0), (.ref x1), (.ref x2)] .null := f378.other W384 (by show @Ne Nat a1 b376; omega)
  obtain ⟨c388, Ar388, q388, S388, Nn388, H388, G388⟩ := id f387
  refine own_Go.st (X384.arraylength hx (own_rwE e384 Ar388.1) (State.isArrayOf_alike hZ.alike Ar388.2.1) (g := (mkF m 10 #[.val (.ref a1), .val (.ref b376), .val (.int (1 : Int32))] [(.ref a1), (.int (1 : Int32))])) rfl rfl (hb hby dj56_4_10)) ?_
  rw [len_of S388 Nn388]
  show own_Go _ _ _ _ (T384.setTop (mkF m 11 #[.val (.ref a1), .val (.ref b376), .val (.int (1 : Int32))] [(.int (3 : Int32)), (.int (1 : Int32))]))
  refine own_Go.st (fun _ k => XS.icmpNo X384.here hx rfl (hb hby dj56_4_11) rfl (tlt (by decide : (1 : Int32) < (3 : Int32))).2.1 k) ?_
  refine own_Go.st (fun _ k => XS.aloadN X384.here hx rfl (hb hby dj56_4_14) rfl rfl (XS.iloadN X384.here hx rfl (hb hby dj56_4_15) rfl (XS.aloadN X384.here hx rfl (hb hby dj56_4_16) rfl rfl (XS.iloadN X384.here hx rfl (hb hby dj56_4_17) rfl k)))) ?_
  show own_Go _ _ _ _ (T384.setTop (mkF m 18 #[.val (.ref a1), .val (.ref b376), .val (.int (1 : Int32))] [(.int (1 : Int32)), (.ref a1), (.int (1 : Int32)), (.ref b376)]))
  obtain ⟨c389, Ar389, q389, S389, Nn389, H389, G389⟩ := id f387
  have hin389 : ¬ ((1 : Int32) < 0 ∨ c389.slots.size ≤ ((1 : Int32)).toNatClampNeg) := inb_of S389 ⟨by decide, by decide⟩
  have hat389 : c389.slots[((1 : Int32)).toNatClampNeg]? = some (.ref x1) := H389.at hin389 rfl
  refine own_Go.st (X384.aaload hx (j := (1 : Int32)) (v := (.ref x1)) (own_rwE e384 Ar389.1) (State.isArrayOf_alike hZ.alike Ar389.2.1) rfl Ar389.2.2 hin389 hat389 (g := (mkF m 18 #[.val (.ref a1), .val (.ref b376), .val (.int (1 : Int32))] [(.int (1 : Int32)), (.ref a1), (.int (1 : Int32)), (.ref b376)])) rfl rfl (hb hby dj56_4_18)) ?_
  show own_Go _ _ _ _ (T384.setTop (mkF m 19 #[.val (.ref a1), .val (.ref b376), .val (.int (1 : Int32))] [(.ref x1), (.int (1 : Int32)), (.ref b376)]))
  have f391 : Old Z Z.heap.size h384 := f382.wr W384 (by omega)
  obtain ⟨_, _, ⟨T390, L390, k390, n390⟩, -, X390, ⟨Lc390, hQ390, l390, y390, z390⟩, st390⟩ := Jvm.LawKit.callS X384 hx (y := mN35) hown (own_v hZ hw 178 rfl) (own_v hZ hw 179 rfl) (own_v hZ hw 180 rfl) (own_v hZ hw 181 rfl) (by decide) (backOf (W := 2) (rm_reqNN l Z a0 hw [] x1 h384 f391 ) hZ (own_w hw 181 rfl) (own_w hw 180 rfl) (by decide) (by decide)) (g := (mkF m 19 #[.val (.ref a1), .val (.ref b376), .val (.int (1 : Int32))] [(.ref x1), (.int (1 : Int32)), (.ref b376)])) rfl (by rw [hml]; rfl) (argsL := [(.ref x1)]) (rest := [(.int (1 : Int32)), (.ref b376)]) (lenOf pd_224 rfl) rfl (by show 2 * 0 + _ ≤ _; exact Nat.le_of_eq rfl) (hb hby dj56_4_19) (fun _ _ => ⟨rfl, e384, (by decide : 1 + 0 ≤ _), (by decide : 3 + 0 ≤ _)⟩)
  dsimp only [Pt.U, Pt.locs, Pt.cells, Pt.slots] at X390 l390 y390 z390 st390 hQ390
  subst l390 y390 z390
  obtain ⟨rfl, N390q, K390⟩ := hQ390
  have N390 := Fr.app N384 N390q
  refine own_Go.st st390 ?_
  show own_Go _ _ _ _ (T390.setTop (mkF m 22 #[.val (.ref a1), .val (.ref b376), .val (.int (1 : Int32))] [(.ref x1), (.int (1 : Int32)), (.ref b376)]))
  have f392 : Exa Z h376 x1 "java/lang/String" := p2_.ext E376
  have f393 : Exa Z h384 x1 "java/lang/String" := f392.wr W384
  obtain ⟨c394, Ar394, q394, S394, Nn394, H394, G394⟩ := id f385
  have hin394 : ¬ ((1 : Int32) < 0 ∨ c394.slots.size ≤ ((1 : Int32)).toNatClampNeg) := inb_of S394 ⟨by decide, by decide⟩
  obtain ⟨T394, h394, X394, e394, W394, st394⟩ := stR X390 hx hZ K390 Ar394 (j := (1 : Int32)) hin394 rfl (Sto.of Ar394 (by rw [q394]; exact O376) (Ins.of_exa f393 (own_w hw 101 rfl))) (g := (mkF m 22 #[.val (.ref a1), .val (.ref b376), .val (.int (1 : Int32))] [(.ref x1), (.int (1 : Int32)), (.ref b376)])) rfl rfl (hb hby dj56_4_22)
  refine own_Go.st st394 ?_
  have N394 := Fr.snoc X394 N390 (by omega)
  have z394 : h384.size ≤ h394.size := Nat.le_of_eq W394.size.symm
  have f395 : Arv Z h394 b376 k376 (.object "java/lang/Object") (3 : Int32) [(.ref x0), (.ref x1), .null] .null := Arv.set Ar394 q394 S394 Nn394 H394 G394 rfl W394 1 rfl (Nat.le_of_ble_eq_true rfl)
  refine own_Go.st (fun _ k => XS.iinc X394.here hx rfl (hb hby dj56_4_23) rfl (l' := #[.val (.ref a1), .val (.ref b376), .val (.int (2 : Int32))]) rfl (XS.goto X394.here hx rfl (pc0 := 26) (pc' := 8) rfl (hb hby dj56_4_26) (by decide) (by decide) (XS.iloadN X394.here hx rfl (hb hby dj56_4_8) rfl (XS.aloadN X394.here hx rfl (hb hby dj56_4_9) rfl rfl k)))) ?_
  show own_Go _ _ _ _ (T394.setTop (mkF m 10 #[.val (.ref a1), .val (.ref b376), .val (.int (2 : Int32))] [(.ref a1), (.int (2 : Int32))]))
  have f397 : Arv Z h394 a1 k (.object "java/lang/Object") (3 : Int32) [(.ref x0), (.ref x1), (.ref x2)] .null := f387.other W394 (by show @Ne Nat a1 b376; omega)
  obtain ⟨c398, Ar398, q398, S398, Nn398, H398, G398⟩ := id f397
  refine own_Go.st (X394.arraylength hx (own_rwE e394 Ar398.1) (State.isArrayOf_alike hZ.alike Ar398.2.1) (g := (mkF m 10 #[.val (.ref a1), .val (.ref b376), .val (.int (2 : Int32))] [(.ref a1), (.int (2 : Int32))])) rfl rfl (hb hby dj56_4_10)) ?_
  rw [len_of S398 Nn398]
  show own_Go _ _ _ _ (T394.setTop (mkF m 11 #[.val (.ref a1), .val (.ref b376), .val (.int (2 : Int32))] [(.int (3 : Int32)), (.int (2 : Int32))]))
  refine own_Go.st (fun _ k => XS.icmpNo X394.here hx rfl (hb hby dj56_4_11) rfl (tlt (by decide : (2 : Int32) < (3 : Int32))).2.1 k) ?_
  refine own_Go.st (fun _ k => XS.aloadN X394.here hx rfl (hb hby dj56_4_14) rfl rfl (XS.iloadN X394.here hx rfl (hb hby dj56_4_15) rfl (XS.aloadN X394.here hx rfl (hb hby dj56_4_16) rfl rfl (XS.iloadN X394.here hx rfl (hb hby dj56_4_17) rfl k)))) ?_
  show own_Go _ _ _ _ (T394.setTop (mkF m 18 #[.val (.ref a1), .val (.ref b376), .val (.int (2 : Int32))] [(.int (2 : Int32)), (.ref a1), (.int (2 : Int32)), (.ref b376)]))
  obtain ⟨c399, Ar399, q399, S399, Nn399, H399, G399⟩ := id f397
  have hin399 : ¬ ((2 : Int32) < 0 ∨ c399.slots.size ≤ ((2 : Int32)).toNatClampNeg) := inb_of S399 ⟨by decide, by decide⟩
  have hat399 : c399.slots[((2 : Int32)).toNatClampNeg]? = some (.ref x2) := H399.at hin399 rfl
  refine own_Go.st (X394.aaload hx (j := (2 : Int32)) (v := (.ref x2)) (own_rwE e394 Ar399.1) (State.isArrayOf_alike hZ.alike Ar399.2.1) rfl Ar399.2.2 hin399 hat399 (g := (mkF m 18 #[.val (.ref a1), .val (.ref b376), .val (.int (2 : Int32))] [(.int (2 : Int32)), (.ref a1), (.int (2 : Int32)), (.ref b376)])) rfl rfl (hb hby dj56_4_18)) ?_
  show own_Go _ _ _ _ (T394.setTop (mkF m 19 #[.val (.ref a1), .val (.ref b376), .val (.int (2 : Int32))] [(.ref x2), (.int (2 : Int32)), (.ref b376)]))
  have f401 : Old Z Z.heap.size h394 := f391.wr W394 (by omega)
  obtain ⟨_, _, ⟨T400, L400, k400, n400⟩, -, X400, ⟨Lc400, hQ400, l400, y400, z400⟩, st400⟩ := Jvm.LawKit.callS X394 hx (y := mN35) hown (own_v hZ hw 178 rfl) (own_v hZ hw 179 rfl) (own_v hZ hw 180 rfl) (own_v hZ hw 181 rfl) (by decide) (backOf (W := 2) (rm_reqNN l Z a0 hw [] x2 h394 f401 ) hZ (own_w hw 181 rfl) (own_w hw 180 rfl) (by decide) (by decide)) (g := (mkF m 19 #[.val (.ref a1), .val (.ref b376), .val (.int (2 : Int32))] [(.ref x2), (.int (2 : Int32)), (.ref b376)])) rfl (by rw [hml]; rfl) (argsL := [(.ref x2)]) (rest := [(.int (2 : Int32)), (.ref b376)]) (lenOf pd_224 rfl) rfl (by show 2 * 0 + _ ≤ _; exact Nat.le_of_eq rfl) (hb hby dj56_4_19) (fun _ _ => ⟨rfl, e394, (by decide : 1 + 0 ≤ _), (by decide : 3 + 0 ≤ _)⟩)
  dsimp only [Pt.U, Pt.locs, Pt.cells, Pt.slots] at X400 l400 y400 z400 st400 hQ400
  subst l400 y400 z400
  obtain ⟨rfl, N400q, K400⟩ := hQ400
  have N400 := Fr.app N394 N400q
  refine own_Go.st st400 ?_
  show own_Go _ _ _ _ (T400.setTop (mkF m 22 #[.val (.ref a1), .val (.ref b376), .val (.int (2 : Int32))] [(.ref x2), (.int (2 : Int32)), (.ref b376)]))
  have f402 : Exa Z h376 x2 "java/lang/String" := p3_.ext E376
  have f403 : Exa Z h384 x2 "java/lang/String" := f402.wr W384
  have f404 : Exa Z h394 x2 "java/lang/String" := f403.wr W394
  obtain ⟨c405, Ar405, q405, S405, Nn405, H405, G405⟩ := id f395
  have hin405 : ¬ ((2 : Int32) < 0 ∨ c405.slots.size ≤ ((2 : Int32)).toNatClampNeg) := inb_of S405 ⟨by decide, by decide⟩
  obtain ⟨T405, h405, X405, e405, W405, st405⟩ := stR X400 hx hZ K400 Ar405 (j := (2 : Int32)) hin405 rfl (Sto.of Ar405 (by rw [q405]; exact O376) (Ins.of_exa f404 (own_w hw 101 rfl))) (g := (mkF m 22 #[.val (.ref a1), .val (.ref b376), .val (.int (2 : Int32))] [(.ref x2), (.int (2 : Int32)), (.ref b376)])) rfl rfl (hb hby dj56_4_22)
  refine own_Go.st st405 ?_
  have N405 := Fr.snoc X405 N400 (by omega)
  have z405 : h394.size ≤ h405.size := Nat.le_of_eq W405.size.symm
  have f406 : Arv Z h405 b376 k376 (.object "java/lang/Object") (3 : Int32) [(.ref x0), (.ref x1), (.ref x2)] .null := Arv.set Ar405 q405 S405 Nn405 H405 G405 rfl W405 2 rfl (Nat.le_of_ble_eq_true rfl)
  refine own_Go.st (fun _ k => XS.iinc X405.here hx rfl (hb hby dj56_4_23) rfl (l' := #[.val (.ref a1), .val (.ref b376), .val (.int (3 : Int32))]) rfl (XS.goto X405.here hx rfl (pc0 := 26) (pc' := 8) rfl (hb hby dj56_4_26) (by decide) (by decide) (XS.iloadN X405.here hx rfl (hb hby dj56_4_8) rfl (XS.aloadN X405.here hx rfl (hb hby dj56_4_9) rfl rfl k)))) ?_
  show own_Go _ _ _ _ (T405.setTop (mkF m 10 #[.val (.ref a1), .val (.ref b376), .val (.int (3 : Int32))] [(.ref a1), (.int (3 : Int32))]))
  have f408 : Arv Z h405 a1 k (.object "java/lang/Object") (3 : Int32) [(.ref x0), (.ref x1), (.ref x2)] .null := f397.other W405 (by show @Ne Nat a1 b376; omega)
  obtain ⟨c409, Ar409, q409, S409, Nn409, H409, G409⟩ := id f408
  refine own_Go.st (X405.arraylength hx (own_rwE e405 Ar409.1) (State.isArrayOf_alike hZ.alike Ar409.2.1) (g := (mkF m 10 #[.val (.ref a1), .val (.ref b376), .val (.int (3 : Int32))] [(.ref a1), (.int (3 : Int32))])) rfl rfl (hb hby dj56_4_10)) ?_
  rw [len_of S409 Nn409]
  show own_Go _ _ _ _ (T405.setTop (mkF m 11 #[.val (.ref a1), .val (.ref b376), .val (.int (3 : Int32))] [(.int (3 : Int32)), (.int (3 : Int32))]))
  refine own_Go.st (fun _ k => XS.icmpYes X405.here hx rfl (pc0 := 11) (pc' := 29) rfl (hb hby dj56_4_11) rfl (flt (by decide : ¬ ((3 : Int32) < (3 : Int32)))).2.1 (by decide) (by decide) k) ?_
  show own_Go _ _ _ _ (T405.setTop (mkF m 29 #[.val (.ref a1), .val (.ref b376), .val (.int (3 : Int32))] []))
  obtain ⟨T410, h410, X410, e410, E410, A410, D410, U410, st410⟩ := newO X405 hx hZ hown (own_w hw 127 rfl) (own_w hw 182 rfl) (own_w hw 183 rfl) e405 (g := (mkF m 29 #[.val (.ref a1), .val (.ref b376), .val (.int (3 : Int32))] [])) rfl (hb hby dj56_4_29) (by decide) (by decide)
  obtain ⟨b410, g410⟩ : ∃ z, z = h405.size := ⟨_, rfl⟩
  rw [← g410] at A410 D410 U410 st410
  refine own_Go.st st410 ?_
  have z410 : h405.size ≤ h410.size := E410.1
  have lt_b410 : @LT.lt Nat _ b410 h410.size := A410.lt
  have f411 : Fld Z h410 b410 "java/util/ImmutableCollections$ListN" "elements" "[Ljava/lang/Object;" .null := D410 (Or.inr (own_w hw 203 rfl)) (ty := (.array (.object "java/lang/Object"))) (by decide)
  have f412 : Fld Z h410 b410 "java/util/ImmutableCollections$ListN" "allowNulls" "Z" (.int (0 : Int32)) := D410 (Or.inr (own_w hw 205 rfl)) (ty := .boolean) (by decide)
  refine own_Go.st (fun _ k => XS.dup X410.here hx rfl (hb hby dj56_4_32) rfl rfl (XS.aloadN X410.here hx rfl (hb hby dj56_4_33) rfl rfl (XS.iconst X410.here hx rfl (hb hby dj56_4_34) k))) ?_
  show own_Go _ _ _ _ (T410.setTop (mkF m 35 #[.val (.ref a1), .val (.ref b376), .val (.int (3 : Int32))] [(.int (0 : Int32)), (.ref b376), (.ref b410), (.ref b410)]))
  have f414 : Old Z Z.heap.size h405 := f401.wr W405 (by omega)
  have f415 : Old Z Z.heap.size h410 := f414.ext E410
  obtain ⟨_, _, ⟨T413, L413, k413, n413⟩, -, X413, ⟨Lc413, hQ413, l413, y413, z413⟩, st413⟩ := X410.specialBackNest hx (y := mN29) rfl hown (own_mvNest hZ (own_w hw 184 rfl)) (own_v hZ hw 185 rfl) (own_v hZ hw 187 rfl) (by decide) (backOf (W := 1) (rm_lninit l Z a0 hw [] b410 b376 h410 f415 A410 f411 f412 (by omega)) hZ (own_w hw 187 rfl) (own_w hw 183 rfl) (by decide) (by decide)) (g := (mkF m 35 #[.val (.ref a1), .val (.ref b376), .val (.int (3 : Int32))] [(.int (0 : Int32)), (.ref b376), (.ref b410), (.ref b410)])) rfl (by rw [hml]; rfl) (Steps.refl _) (a := b410) (argsL := [(.ref b376), (.int (0 : Int32))]) (rest := [(.ref b410)]) (lenOf pd_278 rfl) rfl (by show 2 * 0 + _ ≤ _; exact Nat.le_of_eq rfl) (hb hby dj56_4_35) (fun _ _ => ⟨rfl, e410, (by decide : 2 + 0 ≤ _), (by decide : 5 + 0 ≤ _)⟩)
  dsimp only [Pt.U, Pt.locs, Pt.cells, Pt.slots] at X413 l413 y413 z413 st413 hQ413
  subst l413 y413 z413
  obtain ⟨rfl, N413q, K413, f413_0, f413_1⟩ := hQ413
  have N413 := Fr.app N405 N413q
  have z413 : h410.size ≤ T413.heap.size := K413.1
  have lt413_0 : @LT.lt Nat _ b410 T413.heap.size := f413_0.lt
  have lt413_1 : @LT.lt Nat _ b410 T413.heap.size := f413_1.lt
  refine own_Go.tr st413 ?_
  show own_Go _ _ _ _ (T413.setTop (mkF m 38 #[.val (.ref a1), .val (.ref b376), .val (.int (3 : Int32))] [(.ref b410)]))
  obtain ⟨fs416, hr416, hrun416, hend416, hW416, hsm416⟩ := X413.leave (v := some (.ref b410)) (fun h => by rw [Bd.returns] at h; cases h)
  have f417 : Arv Z h410 b376 k376 (.object "java/lang/Object") (3 : Int32) [(.ref x0), (.ref x1), (.ref x2)] .null := f406.ext E410
  have f418 : Arv Z T413.heap b376 k376 (.object "java/lang/Object") (3 : Int32) [(.ref x0), (.ref x1), (.ref x2)] .null := f417.keep K413 (ninS (by show @Ne Nat b376 b410; omega) nin0)
  have K419 : Keep h0 h376 [] := (Keep.refl h0 []).ext E376
  have K420 : Keep h0 h384 [] := K419.wr W384 (Or.inr (by omega))
  have K421 : Keep h0 h394 [] := K420.wr W394 (Or.inr (by omega))
  have K422 : Keep h0 h405 [] := K421.wr W405 (Or.inr (by omega))
  have K423 : Keep h0 h410 [] := K422.ext E410
  have K424 : Keep h0 T413.heap [] := K423.trans K413 (allS (Or.inr (by omega)) all0)
  subst hPP
  refine ⟨_, _, own_retA X413 hx Bd.returns rfl rfl (hb hby dj56_4_38) hr416, hrun416, hend416, _, _, rfl, ?_, ⟨_, rfl⟩, hW416, hsm416.mono (by decide) (by decide)⟩
  · show Q_lfa Z _ _ _ _ _ h0 _ T413.heap _
    exact ⟨b410, rfl, N413, K424, (Or.inr ⟨b376, _, _, _, f413_0, f413_1, f418⟩)⟩
theorem pn_281 : plainName "java/util/List" = true := by first | (simp [plainName, overriddenIn]; done) | decide +kernel
theorem ef_282 (m : MethodId) (x0 : Nat) : entryFrame m #[(.ref x0)] 2 = mkF m 0 #[.val (.ref x0), .unset] [] := by first | (simp [entryFrame, mkF, argsToLocals, Value.category]; done) | rfl
theorem dj40_47_0 : decode jdk_40_method_47_code 0 = .ok (.aload_n 0, 1) := by decide +kernel
theorem dj40_47_1 : decode jdk_40_method_47_code 1 = .ok (.arraylength, 1) := by decide +kernel
theorem dj40_47_2 : decode jdk_40_method_47_code 2 = .ok (.tableswitch 57 0 2 #[26, 32, 43], 26) := by decide +kernel
theorem dj40_47_34 : decode jdk_40_method_47_code 34 = .ok (.new 96, 3) := by decide +kernel
theorem dj40_47_37 : decode jdk_40_method_47_code 37 = .ok (.dup, 1) := by decide +kernel
theorem dj40_47_38 : decode jdk_40_method_47_code 38 = .ok (.aload_n 0, 1) := by decide +kernel
theorem dj40_47_39 : decode jdk_40_method_47_code 39 = .ok (.iconst 0, 1) := by decide +kernel
theorem dj40_47_40 : decode jdk_40_method_47_code 40 = .ok (.aaload, 1) := by decide +kernel
theorem pd_291 : parseMethodDescriptor "(Ljava/lang/Object;)V" = some ⟨[(.object "java/lang/Object")], none⟩ := by decide +kernel
theorem dj40_47_41 : decode jdk_40_method_47_code 41 = .ok (.invokespecial 98, 3) := by decide +kernel
theorem dj40_47_44 : decode jdk_40_method_47_code 44 = .ok (.areturn, 1) := by decide +kernel
theorem dj40_47_45 : decode jdk_40_method_47_code 45 = .ok (.new 96, 3) := by decide +kernel
theorem dj40_47_48 : decode jdk_40_method_47_code 48 = .ok (.dup, 1) := by decide +kernel
theorem dj40_47_49 : decode jdk_40_method_47_code 49 = .ok (.aload_n 0, 1) := by decide +kernel
theorem dj40_47_50 : decode jdk_40_method_47_code 50 = .ok (.iconst 0, 1) := by decide +kernel
theorem dj40_47_51 : decode jdk_40_method_47_code 51 = .ok (.aaload, 1) := by decide +kernel
theorem dj40_47_52 : decode jdk_40_method_47_code 52 = .ok (.aload_n 0, 1) := by decide +kernel
theorem dj40_47_53 : decode jdk_40_method_47_code 53 = .ok (.iconst 1, 1) := by decide +kernel
theorem dj40_47_54 : decode jdk_40_method_47_code 54 = .ok (.aaload, 1) := by decide +kernel
theorem pd_302 : parseMethodDescriptor "(Ljava/lang/Object;Ljava/lang/Object;)V" = some ⟨[(.object "java/lang/Object"), (.object "java/lang/Object")], none⟩ := by decide +kernel
theorem dj40_47_55 : decode jdk_40_method_47_code 55 = .ok (.invokespecial 100, 3) := by decide +kernel
theorem dj40_47_58 : decode jdk_40_method_47_code 58 = .ok (.areturn, 1) := by decide +kernel
theorem dj40_47_59 : decode jdk_40_method_47_code 59 = .ok (.aload_n 0, 1) := by decide +kernel
theorem pd_306 : parseMethodDescriptor "([Ljava/lang/Object;)Ljava/util/List;" = some ⟨[(.array (.object "java/lang/Object"))], some (.object "java/util/List")⟩ := by decide +kernel
theorem dj40_47_60 : decode jdk_40_method_47_code 60 = .ok (.invokestatic 109, 3) := by decide +kernel
theorem dj40_47_63 : decode jdk_40_method_47_code 63 = .ok (.areturn, 1) := by decide +kernel
def Q_listOf (Z : State) (a1 : Nat) (xs : List Addr) (k : ClassId) (em : Nat) (h0 : Heap) (v : Option Value) (h : Heap) (L : List Loc) : Prop := ∃ (x : Nat), v = some (.ref x) ∧ Fr Z.heap.size L ∧ Keep h0 h [] ∧ own_Li Z h x xs.length
set_option maxRecDepth 65536 in
set_option maxHeartbeats 40000000 in
theorem rm_listOf (l : Launch) (Z : State) (a0 : Array Value) (hw : ∀ d ∈ tables_1, d.before a0 Z = true) (ws : List Jvm.Cond) (a1 : Nat) (xs : List Addr) (k : ClassId) (em : Nat) (h0 : Heap) (OL : Old Z Z.heap.size h0) (p0_ : Arv Z h0 a1 k (.object "java/lang/Object") (Int32.ofNat xs.length) (xs.map Value.ref) .null) (p1_ : own_All Z h0 xs) (st_EMPTY : Sta Z Z.heap "java/util/ImmutableCollections" "EMPTY" "Ljava/lang/Object;" (.ref em)) (h13 : own_13 xs) :
    MetFree l mN34 (head1 (Jvm.Cond.code mN34 jdk_40_method_47_code 2 (some (.object "java/util/List")) :: ws) rM21) (fun a U => a = #[(.ref a1)] ∧ Z.Warmed39 U.vm ∧ U.heap = h0) (fun _ _ _ _ _ => True) (fun _ U o U' => ∃ v L, o = .returned v ∧ Q_listOf Z a1 xs k em h0 v U'.heap L ∧ FrameEnd U o U' L rM21.cells rM21.slots) := by
  refine MetFree.of_bodySF (plainFor_of_name pn_281) hisR ?_
  intro p e s m args below meth c s₁ Bd hml0 hP hK
  obtain ⟨rfl, hZ, hh⟩ := hP
  have hx := Bd.exec
  have hby := Bd.bytes
  have hml : c.maxLocals = 2 := hml0
  have hown : s.vm.findClass "java/util/List" = some m.cls := findClass_of_methodNamed Bd.named
  have hnm := (name_of_methodNamed Bd.named Bd.method).1
  have X0 : Stand p l e rM21 s m #[(.ref a1)] below meth c s₁ [] 0 0 := Stand.of_body Bd
  have e0 : s₁.heap = h0 := by rw [← hh, Bd.state]; rfl
  have N0 := Fr.nil Z.heap.size
  have Z0 : Z.heap.size ≤ h0.size := OL.2.1
  have lt_0 : @LT.lt Nat _ a1 h0.size := p0_.lt
  show own_Go p.tables e below (fun o tE => ∃ v L, o = .returned v ∧ Q_listOf Z a1 xs k em h0 v tE.heap L ∧ FrameEnd s o tE L rM21.cells rM21.slots) (s₁.setTop (entryFrame m #[(.ref a1)] 2))
  refine own_hd (fun PP hPP => ?_)
  refine own_Go.st (fun t k => castTop (ef_282 m a1) k) ?_
  show own_Go _ _ _ _ (s₁.setTop (mkF m 0 #[.val (.ref a1), .unset] []))
  rcases h13 with ⟨x0, rfl⟩ | ⟨x0, x1, rfl⟩ | ⟨x0, x1, x2, rfl⟩
  ·
    have pv_ : Arv Z h0 a1 k (.object "java/lang/Object") (1 : Int32) [(.ref x0)] .null := p0_
    have px0 : Exa Z h0 x0 "java/lang/String" := p1_ x0 (by simp)
    have plt0 : @LT.lt Nat _ x0 h0.size := px0.lt
    show own_Go _ _ _ _ (s₁.setTop (mkF m 0 #[.val (.ref a1), .unset] []))
    refine own_Go.st (fun _ k => XS.aloadN X0.here hx rfl (hb hby dj40_47_0) rfl rfl k) ?_
    show own_Go _ _ _ _ (s₁.setTop (mkF m 1 #[.val (.ref a1), .unset] [(.ref a1)]))
    obtain ⟨c425, Ar425, q425, S425, Nn425, H425, G425⟩ := id pv_
    refine own_Go.st (X0.arraylength hx (own_rwE e0 Ar425.1) (State.isArrayOf_alike hZ.alike Ar425.2.1) (g := (mkF m 1 #[.val (.ref a1), .unset] [(.ref a1)])) rfl rfl (hb hby dj40_47_1)) ?_
    rw [len_of S425 Nn425]
    show own_Go _ _ _ _ (s₁.setTop (mkF m 2 #[.val (.ref a1), .unset] [(.int (1 : Int32))]))
    refine own_Go.st (fun _ k => XS.tswIn X0.here hx rfl (pc0 := 2) (pc' := 34) (o := 32) rfl (hb hby dj40_47_2) rfl (by decide) (by decide) (by decide) (by decide) k) ?_
    show own_Go _ _ _ _ (s₁.setTop (mkF m 34 #[.val (.ref a1), .unset] []))
    obtain ⟨T426, h426, X426, e426, E426, A426, D426, U426, st426⟩ := newO X0 hx hZ hown (own_w hw 224 rfl) (own_w hw 225 rfl) (own_w hw 226 rfl) e0 (g := (mkF m 34 #[.val (.ref a1), .unset] [])) rfl (hb hby dj40_47_34) (by decide) (by decide)
    obtain ⟨b426, g426⟩ : ∃ z, z = h0.size := ⟨_, rfl⟩
    rw [← g426] at A426 D426 U426 st426
    refine own_Go.st st426 ?_
    have z426 : h0.size ≤ h426.size := E426.1
    have lt_b426 : @LT.lt Nat _ b426 h426.size := A426.lt
    have f427 : Fld Z h426 b426 "java/util/ImmutableCollections$List12" "e0" "Ljava/lang/Object;" .null := D426 (Or.inr (own_w hw 237 rfl)) (ty := (.object "java/lang/Object")) (by decide)
    have f428 : Fld Z h426 b426 "java/util/ImmutableCollections$List12" "e1" "Ljava/lang/Object;" .null := D426 (Or.inr (own_w hw 239 rfl)) (ty := (.object "java/lang/Object")) (by decide)
    refine own_Go.st (fun _ k => XS.dup X426.here hx rfl (hb hby dj40_47_37) rfl rfl (XS.aloadN X426.here hx rfl (hb hby dj40_47_38) rfl rfl (XS.iconst X426.here hx rfl (hb hby dj40_47_39) k))) ?_
    show own_Go _ _ _ _ (T426.setTop (mkF m 40 #[.val (.ref a1), .unset] [(.int (0 : Int32)), (.ref a1), (.ref b426), (.ref b426)]))
    have f429 : Arv Z h426 a1 k (.object "java/lang/Object") (1 : Int32) [(.ref x0)] .null := pv_.ext E426
    obtain ⟨c430, Ar430, q430, S430, Nn430, H430, G430⟩ := id f429
    have hin430 : ¬ ((0 : Int32) < 0 ∨ c430.slots.size ≤ ((0 : Int32)).toNatClampNeg) := inb_of S430 ⟨by decide, by decide⟩
    have hat430 : c430.slots[((0 : Int32)).toNatClampNeg]? = some (.ref x0) := H430.at hin430 rfl
    refine own_Go.st (X426.aaload hx (j := (0 : Int32)) (v := (.ref x0)) (own_rwE e426 Ar430.1) (State.isArrayOf_alike hZ.alike Ar430.2.1) rfl Ar430.2.2 hin430 hat430 (g := (mkF m 40 #[.val (.ref a1), .unset] [(.int (0 : Int32)), (.ref a1), (.ref b426), (.ref b426)])) rfl rfl (hb hby dj40_47_40)) ?_
    show own_Go _ _ _ _ (T426.setTop (mkF m 41 #[.val (.ref a1), .unset] [(.ref x0), (.ref b426), (.ref b426)]))
    have f432 : Old Z Z.heap.size h426 := OL.ext E426
    obtain ⟨_, _, ⟨T431, L431, k431, n431⟩, -, X431, ⟨Lc431, hQ431, l431, y431, z431⟩, st431⟩ := X426.specialBack hx (y := mN26) rfl hown (own_v hZ hw 246 rfl) (own_v hZ hw 247 rfl) (own_v hZ hw 248 rfl) (by decide) (backOf (W := 1) (rm_l12a l Z a0 hw [] b426 x0 em h426 f432 A426 f427 f428 st_EMPTY (by omega)) hZ (own_w hw 248 rfl) (own_w hw 226 rfl) (by decide) (by decide)) (g := (mkF m 41 #[.val (.ref a1), .unset] [(.ref x0), (.ref b426), (.ref b426)])) rfl (by rw [hml]; rfl) (Steps.refl _) (a := b426) (argsL := [(.ref x0)]) (rest := [(.ref b426)]) (lenOf pd_291 rfl) rfl (by show 2 * 0 + _ ≤ _; exact Nat.le_of_eq rfl) (hb hby dj40_47_41) (fun _ _ => ⟨rfl, e426, (by decide : 1 + 0 ≤ _), (by decide : 2 + 0 ≤ _)⟩)
    dsimp only [Pt.U, Pt.locs, Pt.cells, Pt.slots] at X431 l431 y431 z431 st431 hQ431
    subst l431 y431 z431
    obtain ⟨rfl, N431q, K431, f431_0⟩ := hQ431
    have N431 := Fr.app N0 N431q
    have z431 : h426.size ≤ T431.heap.size := K431.1
    have lt431_0 : @LT.lt Nat _ b426 T431.heap.size := f431_0.lt
    refine own_Go.tr st431 ?_
    show own_Go _ _ _ _ (T431.setTop (mkF m 44 #[.val (.ref a1), .unset] [(.ref b426)]))
    obtain ⟨fs433, hr433, hrun433, hend433, hW433, hsm433⟩ := X431.leave (v := some (.ref b426)) (fun h => by rw [Bd.returns] at h; cases h)
    have K434 : Keep h0 h426 [] := (Keep.refl h0 []).ext E426
    have K435 : Keep h0 T431.heap [] := K434.trans K431 (allS (Or.inr (by omega)) all0)
    subst hPP
    refine ⟨_, _, own_retA X431 hx Bd.returns rfl rfl (hb hby dj40_47_44) hr433, hrun433, hend433, _, _, rfl, ?_, ⟨_, rfl⟩, hW433, hsm433.mono (by decide) (by decide)⟩
    · show Q_listOf Z _ _ _ _ h0 _ T431.heap _
      exact ⟨b426, rfl, N431, K435, (Or.inl ⟨f431_0, Nat.le_of_ble_eq_true rfl⟩)⟩
  ·
    have pv_ : Arv Z h0 a1 k (.object "java/lang/Object") (2 : Int32) [(.ref x0), (.ref x1)] .null := p0_
    have px0 : Exa Z h0 x0 "java/lang/String" := p1_ x0 (by simp)
    have plt0 : @LT.lt Nat _ x0 h0.size := px0.lt
    have px1 : Exa Z h0 x1 "java/lang/String" := p1_ x1 (by simp)
    have plt1 : @LT.lt Nat _ x1 h0.size := px1.lt
    show own_Go _ _ _ _ (s₁.setTop (mkF m 0 #[.val (.ref a1), .unset] []))
    refine own_Go.st (fun _ k => XS.aloadN X0.here hx rfl (hb hby dj40_47_0) rfl rfl k) ?_
    show own_Go _ _ _ _ (s₁.setTop (mkF m 1 #[.val (.ref a1), .unset] [(.ref a1)]))
    obtain ⟨c436, Ar436, q436, S436, Nn436, H436, G436⟩ := id pv_
    refine own_Go.st (X0.arraylength hx (own_rwE e0 Ar436.1) (State.isArrayOf_alike hZ.alike Ar436.2.1) (g := (mkF m 1 #[.val (.ref a1), .unset] [(.ref a1)])) rfl rfl (hb hby dj40_47_1)) ?_
    rw [len_of S436 Nn436]
    show own_Go _ _ _ _ (s₁.setTop (mkF m 2 #[.val (.ref a1), .unset] [(.int (2 : Int32))]))
    refine own_Go.st (fun _ k => XS.tswIn X0.here hx rfl (pc0 := 2) (pc' := 45) (o := 43) rfl (hb hby dj40_47_2) rfl (by decide) (by decide) (by decide) (by decide) k) ?_
    show own_Go _ _ _ _ (s₁.setTop (mkF m 45 #[.val (.ref a1), .unset] []))
    obtain ⟨T437, h437, X437, e437, E437, A437, D437, U437, st437⟩ := newO X0 hx hZ hown (own_w hw 224 rfl) (own_w hw 225 rfl) (own_w hw 226 rfl) e0 (g := (mkF m 45 #[.val (.ref a1), .unset] [])) rfl (hb hby dj40_47_45) (by decide) (by decide)
    obtain ⟨b437, g437⟩ : ∃ z, z = h0.size := ⟨_, rfl⟩
    rw [← g437] at A437 D437 U437 st437
    refine own_Go.st st437 ?_
    have z437 : h0.size ≤ h437.size := E437.1
    have lt_b437 : @LT.lt Nat _ b437 h437.size := A437.lt
    have f438 : Fld Z h437 b437 "java/util/ImmutableCollections$List12" "e0" "Ljava/lang/Object;" .null := D437 (Or.inr (own_w hw 237 rfl)) (ty := (.object "java/lang/Object")) (by decide)
    have f439 : Fld Z h437 b437 "java/util/ImmutableCollections$List12" "e1" "Ljava/lang/Object;" .null := D437 (Or.inr (own_w hw 239 rfl)) (ty := (.object "java/lang/Object")) (by decide)
    refine own_Go.st (fun _ k => XS.dup X437.here hx rfl (hb hby dj40_47_48) rfl rfl (XS.aloadN X437.here hx rfl (hb hby dj40_47_49) rfl rfl (XS.iconst X437.here hx rfl (hb hby dj40_47_50) k))) ?_
    show own_Go _ _ _ _ (T437.setTop (mkF m 51 #[.val (.ref a1), .unset] [(.int (0 : Int32)), (.ref a1), (.ref b437), (.ref b437)]))
    have f440 : Arv Z h437 a1 k (.object "java/lang/Object") (2 : Int32) [(.ref x0), (.ref x1)] .null := pv_.ext E437
    obtain ⟨c441, Ar441, q441, S441, Nn441, H441, G441⟩ := id f440
    have hin441 : ¬ ((0 : Int32) < 0 ∨ c441.slots.size ≤ ((0 : Int32)).toNatClampNeg) := inb_of S441 ⟨by decide, by decide⟩
    have hat441 : c441.slots[((0 : Int32)).toNatClampNeg]? = some (.ref x0) := H441.at hin441 rfl
    refine own_Go.st (X437.aaload hx (j := (0 : Int32)) (v := (.ref x0)) (own_rwE e437 Ar441.1) (State.isArrayOf_alike hZ.alike Ar441.2.1) rfl Ar441.2.2 hin441 hat441 (g := (mkF m 51 #[.val (.ref a1), .unset] [(.int (0 : Int32)), (.ref a1), (.ref b437), (.ref b437)])) rfl rfl (hb hby dj40_47_51)) ?_
    refine own_Go.st (fun _ k => XS.aloadN X437.here hx rfl (hb hby dj40_47_52) rfl rfl (XS.iconst X437.here hx rfl (hb hby dj40_47_53) k)) ?_
    show own_Go _ _ _ _ (T437.setTop (mkF m 54 #[.val (.ref a1), .unset] [(.int (1 : Int32)), (.ref a1), (.ref x0), (.ref b437), (.ref b437)]))
    obtain ⟨c442, Ar442, q442, S442, Nn442, H442, G442⟩ := id f440
    have hin442 : ¬ ((1 : Int32) < 0 ∨ c442.slots.size ≤ ((1 : Int32)).toNatClampNeg) := inb_of S442 ⟨by decide, by decide⟩
    have hat442 : c442.slots[((1 : Int32)).toNatClampNeg]? = some (.ref x1) := H442.at hin442 rfl
    refine own_Go.st (X437.aaload hx (j := (1 : Int32)) (v := (.ref x1)) (own_rwE e437 Ar442.1) (State.isArrayOf_alike hZ.alike Ar442.2.1) rfl Ar442.2.2 hin442 hat442 (g := (mkF m 54 #[.val (.ref a1), .unset] [(.int (1 : Int32)), (.ref a1), (.ref x0), (.ref b437), (.ref b437)])) rfl rfl (hb hby dj40_47_54)) ?_
    show own_Go _ _ _ _ (T437.setTop (mkF m 55 #[.val (.ref a1), .unset] [(.ref x1), (.ref x0), (.ref b437), (.ref b437)]))
    have f444 : Old Z Z.heap.size h437 := OL.ext E437
    obtain ⟨_, _, ⟨T443, L443, k443, n443⟩, -, X443, ⟨Lc443, hQ443, l443, y443, z443⟩, st443⟩ := X437.specialBack hx (y := mN27) rfl hown (own_v hZ hw 227 rfl) (own_v hZ hw 228 rfl) (own_v hZ hw 230 rfl) (by decide) (backOf (W := 1) (rm_l12b l Z a0 hw [] b437 x0 x1 h437 f444 A437 f438 f439 (by omega)) hZ (own_w hw 230 rfl) (own_w hw 226 rfl) (by decide) (by decide)) (g := (mkF m 55 #[.val (.ref a1), .unset] [(.ref x1), (.ref x0), (.ref b437), (.ref b437)])) rfl (by rw [hml]; rfl) (Steps.refl _) (a := b437) (argsL := [(.ref x0), (.ref x1)]) (rest := [(.ref b437)]) (lenOf pd_302 rfl) rfl (by show 2 * 0 + _ ≤ _; exact Nat.le_of_eq rfl) (hb hby dj40_47_55) (fun _ _ => ⟨rfl, e437, (by decide : 1 + 0 ≤ _), (by decide : 2 + 0 ≤ _)⟩)
    dsimp only [Pt.U, Pt.locs, Pt.cells, Pt.slots] at X443 l443 y443 z443 st443 hQ443
    subst l443 y443 z443
    obtain ⟨rfl, N443q, K443, f443_0⟩ := hQ443
    have N443 := Fr.app N0 N443q
    have z443 : h437.size ≤ T443.heap.size := K443.1
    have lt443_0 : @LT.lt Nat _ b437 T443.heap.size := f443_0.lt
    refine own_Go.tr st443 ?_
    show own_Go _ _ _ _ (T443.setTop (mkF m 58 #[.val (.ref a1), .unset] [(.ref b437)]))
    obtain ⟨fs445, hr445, hrun445, hend445, hW445, hsm445⟩ := X443.leave (v := some (.ref b437)) (fun h => by rw [Bd.returns] at h; cases h)
    have K446 : Keep h0 h437 [] := (Keep.refl h0 []).ext E437
    have K447 : Keep h0 T443.heap [] := K446.trans K443 (allS (Or.inr (by omega)) all0)
    subst hPP
    refine ⟨_, _, own_retA X443 hx Bd.returns rfl rfl (hb hby dj40_47_58) hr445, hrun445, hend445, _, _, rfl, ?_, ⟨_, rfl⟩, hW445, hsm445.mono (by decide) (by decide)⟩
    · show Q_listOf Z _ _ _ _ h0 _ T443.heap _
      exact ⟨b437, rfl, N443, K447, (Or.inl ⟨f443_0, Nat.le_of_ble_eq_true rfl⟩)⟩
  ·
    have pv_ : Arv Z h0 a1 k (.object "java/lang/Object") (3 : Int32) [(.ref x0), (.ref x1), (.ref x2)] .null := p0_
    have px0 : Exa Z h0 x0 "java/lang/String" := p1_ x0 (by simp)
    have plt0 : @LT.lt Nat _ x0 h0.size := px0.lt
    have px1 : Exa Z h0 x1 "java/lang/String" := p1_ x1 (by simp)
    have plt1 : @LT.lt Nat _ x1 h0.size := px1.lt
    have px2 : Exa Z h0 x2 "java/lang/String" := p1_ x2 (by simp)
    have plt2 : @LT.lt Nat _ x2 h0.size := px2.lt
    show own_Go _ _ _ _ (s₁.setTop (mkF m 0 #[.val (.ref a1), .unset] []))
    refine own_Go.st (fun _ k => XS.aloadN X0.here hx rfl (hb hby dj40_47_0) rfl rfl k) ?_
    show own_Go _ _ _ _ (s₁.setTop (mkF m 1 #[.val (.ref a1), .unset] [(.ref a1)]))
    obtain ⟨c448, Ar448, q448, S448, Nn448, H448, G448⟩ := id pv_
    refine own_Go.st (X0.arraylength hx (own_rwE e0 Ar448.1) (State.isArrayOf_alike hZ.alike Ar448.2.1) (g := (mkF m 1 #[.val (.ref a1), .unset] [(.ref a1)])) rfl rfl (hb hby dj40_47_1)) ?_
    rw [len_of S448 Nn448]
    show own_Go _ _ _ _ (s₁.setTop (mkF m 2 #[.val (.ref a1), .unset] [(.int (3 : Int32))]))
    refine own_Go.st (fun _ k => XS.tswOut X0.here hx rfl (pc0 := 2) (pc' := 59) rfl (hb hby dj40_47_2) rfl (by decide) (by decide) (by decide) k) ?_
    refine own_Go.st (fun _ k => XS.aloadN X0.here hx rfl (hb hby dj40_47_59) rfl rfl k) ?_
    show own_Go _ _ _ _ (s₁.setTop (mkF m 60 #[.val (.ref a1), .unset] [(.ref a1)]))
    obtain ⟨_, _, ⟨T449, L449, k449, n449⟩, -, X449, ⟨Lc449, hQ449, l449, y449, z449⟩, st449⟩ := Jvm.LawKit.callS X0 hx (y := mN23) hown (own_v hZ hw 174 rfl) (own_v hZ hw 175 rfl) (own_v hZ hw 120 rfl) (own_v hZ hw 176 rfl) (by decide) (backOf (W := 0) (rm_lfa l Z a0 hw [] a1 x0 x1 x2 k h0 OL pv_ px0 px1 px2) hZ (own_w hw 176 rfl) (own_w hw 120 rfl) (by decide) (by decide)) (g := (mkF m 60 #[.val (.ref a1), .unset] [(.ref a1)])) rfl (by rw [hml]; rfl) (argsL := [(.ref a1)]) (rest := []) (lenOf pd_306 rfl) rfl (by show 2 * 0 + _ ≤ _; exact Nat.le_of_eq rfl) (hb hby dj40_47_60) (fun _ _ => ⟨rfl, e0, (by decide : 0 + 2 ≤ _), (by decide : 0 + 5 ≤ _)⟩)
    dsimp only [Pt.U, Pt.locs, Pt.cells, Pt.slots] at X449 l449 y449 z449 st449 hQ449
    subst l449 y449 z449
    obtain ⟨x_449, rfl, N449q, K449, f449_0⟩ := hQ449
    have N449 := Fr.app N0 N449q
    have z449 : h0.size ≤ T449.heap.size := K449.1
    refine own_Go.st st449 ?_
    show own_Go _ _ _ _ (T449.setTop (mkF m 63 #[.val (.ref a1), .unset] [(.ref x_449)]))
    obtain ⟨fs450, hr450, hrun450, hend450, hW450, hsm450⟩ := X449.leave (v := some (.ref x_449)) (fun h => by rw [Bd.returns] at h; cases h)
    have K451 : Keep h0 T449.heap [] := (Keep.refl h0 []).trans K449 all0
    subst hPP
    refine ⟨_, _, own_retA X449 hx Bd.returns rfl rfl (hb hby dj40_47_63) hr450, hrun450, hend450, _, _, rfl, ?_, ⟨_, rfl⟩, hW450, hsm450.mono (by decide) (by decide)⟩
    · show Q_listOf Z _ _ _ _ h0 _ T449.heap _
      exact ⟨x_449, rfl, N449, K451, f449_0⟩
theorem ef_309 (m : MethodId)  : entryFrame m #[] 0 = mkF m 0 #[] [] := by first | (simp [entryFrame, mkF, argsToLocals, Value.category]; done) | rfl
theorem dj40_36_0 : decode jdk_40_method_36_code 0 = .ok (.getstatic 90, 3) := by decide +kernel
theorem dj40_36_3 : decode jdk_40_method_36_code 3 = .ok (.areturn, 1) := by decide +kernel
def Q_listOf0 (Z : State) (el : Nat) (h0 : Heap) (v : Option Value) (h : Heap) (L : List Loc) : Prop := v = some (.ref el) ∧ Fr Z.heap.size L ∧ h = h0
set_option maxRecDepth 65536 in
set_option maxHeartbeats 40000000 in
theorem rm_listOf0 (l : Launch) (Z : State) (a0 : Array Value) (hw : ∀ d ∈ tables_1, d.before a0 Z = true) (ws : List Jvm.Cond) (el : Nat) (h0 : Heap) (OL : Old Z Z.heap.size h0) (st_EMPTY_LIST : Sta Z Z.heap "java/util/ImmutableCollections" "EMPTY_LIST" "Ljava/util/ImmutableCollections$ListN;" (.ref el)) :
    MetFree l mN33 (head1 (Jvm.Cond.code mN33 jdk_40_method_36_code 0 (some (.object "java/util/List")) :: ws) rM0) (fun a U => a = #[] ∧ Z.Warmed39 U.vm ∧ U.heap = h0) (fun _ _ _ _ _ => True) (fun _ U o U' => ∃ v L, o = .returned v ∧ Q_listOf0 Z el h0 v U'.heap L ∧ FrameEnd U o U' L rM0.cells rM0.slots) := by
  refine MetFree.of_bodySF (plainFor_of_name pn_281) hisR ?_
  intro p e s m args below meth c s₁ Bd hml0 hP hK
  obtain ⟨rfl, hZ, hh⟩ := hP
  have hx := Bd.exec
  have hby := Bd.bytes
  have hml : c.maxLocals = 0 := hml0
  have hown : s.vm.findClass "java/util/List" = some m.cls := findClass_of_methodNamed Bd.named
  have hnm := (name_of_methodNamed Bd.named Bd.method).1
  have X0 : Stand p l e rM0 s m #[] below meth c s₁ [] 0 0 := Stand.of_body Bd
  have e0 : s₁.heap = h0 := by rw [← hh, Bd.state]; rfl
  have N0 := Fr.nil Z.heap.size
  have Z0 : Z.heap.size ≤ h0.size := OL.2.1
  show own_Go p.tables e below (fun o tE => ∃ v L, o = .returned v ∧ Q_listOf0 Z el h0 v tE.heap L ∧ FrameEnd s o tE L rM0.cells rM0.slots) (s₁.setTop (entryFrame m #[] 0))
  refine own_hd (fun PP hPP => ?_)
  refine own_Go.st (fun t k => castTop (ef_309 m ) k) ?_
  show own_Go _ _ _ _ (s₁.setTop (mkF m 0 #[] []))
  obtain ⟨T452, X452, e452, st452⟩ := getS2 X0 hx hZ hown (host := "") (Or.inl (own_w hw 140 rfl)) Via.refl e0 (st_EMPTY_LIST.ext OL.2) (g := (mkF m 0 #[] [])) rfl (hb hby dj40_36_0)
  refine own_Go.st st452 ?_
  show own_Go _ _ _ _ (T452.setTop (mkF m 3 #[] [(.ref el)]))
  obtain ⟨fs453, hr453, hrun453, hend453, hW453, hsm453⟩ := X452.leave (v := some (.ref el)) (fun h => by rw [Bd.returns] at h; cases h)
  subst hPP
  refine ⟨_, _, own_retA X452 hx Bd.returns rfl rfl (hb hby dj40_36_3) hr453, hrun453, hend453, _, _, rfl, ?_, ⟨_, rfl⟩, hW453, hsm453.mono (by decide) (by decide)⟩
  · show Q_listOf0 Z _ h0 _ T452.heap _
    rw [e452]
    exact ⟨rfl, N0, rfl⟩
theorem own_no12 {a0 : Array Value} {Z : State} (hw : ∀ d ∈ tables_1, d.before a0 Z = true) : ∃ c t, Z.vm.findClass "java/util/ArrayList" = some c ∧ Z.vm.findClass "java/util/ImmutableCollections$List12" = some t ∧ Z.vm.assignable c t = false := own_nsNo (own_w hw 123 rfl) (own_w hw 225 rfl) (NS.step (own_w hw 123 rfl) (NS.step (own_w hw 124 rfl) (NS.step (own_w hw 125 rfl) (own_nsRoot (own_w hw 126 rfl) (own_w hw 225 rfl) (by decide)) (by decide)) (by decide)) (by decide)) (by decide)
theorem own_noN {a0 : Array Value} {Z : State} (hw : ∀ d ∈ tables_1, d.before a0 Z = true) : ∃ c t, Z.vm.findClass "java/util/ArrayList" = some c ∧ Z.vm.findClass "java/util/ImmutableCollections$ListN" = some t ∧ Z.vm.assignable c t = false := own_nsNo (own_w hw 123 rfl) (own_w hw 182 rfl) (NS.step (own_w hw 123 rfl) (NS.step (own_w hw 124 rfl) (NS.step (own_w hw 125 rfl) (own_nsRoot (own_w hw 126 rfl) (own_w hw 182 rfl) (by decide)) (by decide)) (by decide)) (by decide)) (by decide)
theorem dj56_3_0 : decode jdk_56_method_3_code 0 = .ok (.aload_n 0, 1) := by decide +kernel
theorem dj56_3_1 : decode jdk_56_method_3_code 1 = .ok (.instanceof 10, 3) := by decide +kernel
theorem dj56_3_4 : decode jdk_56_method_3_code 4 = .ok (.ifCond .ne 22, 3) := by decide +kernel
theorem dj56_3_7 : decode jdk_56_method_3_code 7 = .ok (.aload_n 0, 1) := by decide +kernel
theorem dj56_3_8 : decode jdk_56_method_3_code 8 = .ok (.instanceof 12, 3) := by decide +kernel
theorem dj56_3_11 : decode jdk_56_method_3_code 11 = .ok (.ifCond .eq 20, 3) := by decide +kernel
theorem dj56_3_31 : decode jdk_56_method_3_code 31 = .ok (.aload_n 0, 1) := by decide +kernel
theorem pd_319 : parseMethodDescriptor "()Z" = some ⟨[], some .boolean⟩ := by decide +kernel
theorem dj56_3_32 : decode jdk_56_method_3_code 32 = .ok (.invokeinterface 20 1, 5) := by decide +kernel
theorem dj56_3_37 : decode jdk_56_method_3_code 37 = .ok (.ifCond .eq 7, 3) := by decide +kernel
theorem dj56_3_44 : decode jdk_56_method_3_code 44 = .ok (.aload_n 0, 1) := by decide +kernel
theorem dj56_3_45 : decode jdk_56_method_3_code 45 = .ok (.invokeinterface 30 1, 5) := by decide +kernel
theorem dj56_3_50 : decode jdk_56_method_3_code 50 = .ok (.invokestatic 34, 3) := by decide +kernel
theorem dj56_3_53 : decode jdk_56_method_3_code 53 = .ok (.areturn, 1) := by decide +kernel
theorem pd_326 : parseMethodDescriptor "()Ljava/util/List;" = some ⟨[], some (.object "java/util/List")⟩ := by decide +kernel
theorem dj56_3_40 : decode jdk_56_method_3_code 40 = .ok (.invokestatic 26, 3) := by decide +kernel
theorem dj56_3_43 : decode jdk_56_method_3_code 43 = .ok (.areturn, 1) := by decide +kernel
def Q_listCopy (Z : State) (a1 : Nat) (mr : Nat) (em : Nat) (el : Nat) (dd : Nat) (xs : List Addr) (cap : Nat) (k : ClassId) (h0 : Heap) (v : Option Value) (h : Heap) (L : List Loc) : Prop := ∃ (x : Nat), v = some (.ref x) ∧ Fr Z.heap.size L ∧ Keep h0 h [] ∧ own_Li Z h x xs.length
set_option maxRecDepth 65536 in
set_option maxHeartbeats 40000000 in
theorem rm_listCopy (l : Launch) (Z : State) (a0 : Array Value) (hw : ∀ d ∈ tables_1, d.before a0 Z = true) (ws : List Jvm.Cond) (a1 : Nat) (mr : Nat) (em : Nat) (el : Nat) (dd : Nat) (xs : List Addr) (cap : Nat) (k : ClassId) (h0 : Heap) (OL : Old Z Z.heap.size h0) (p0_ : Exa Z h0 a1 "java/util/ArrayList") (p1_ : Fld Z h0 a1 "java/util/ArrayList" "elementData" "[Ljava/lang/Object;" (.ref dd)) (p2_ : Fld Z h0 a1 "java/util/ArrayList" "size" "I" (.int (Int32.ofNat xs.length))) (p3_ : Arv Z h0 dd k (.object "java/lang/Object") (Int32.ofNat cap) (xs.map Value.ref) .null) (p4_ : Exa Z h0 dd "[Ljava/lang/Object;") (p5_ : own_All Z h0 xs) (st_EMPTY : Sta Z Z.heap "java/util/ImmutableCollections" "EMPTY" "Ljava/lang/Object;" (.ref em)) (st_EMPTY_LIST : Sta Z Z.heap "java/util/ImmutableCollections" "EMPTY_LIST" "Ljava/util/ImmutableCollections$ListN;" (.ref el)) (hlx : xs.length ≤ 3) (hcx : xs.length ≤ cap ∧ cap ≤ 10) (hmir : own_Mir Z "[Ljava/lang/Object;" mr) (hel : own_Li Z Z.heap el 0) :
    MetFree l mN22 (head1 (Jvm.Cond.code mN22 jdk_56_method_3_code 2 (some (.object "java/util/List")) :: ws) rM22) (fun a U => a = #[(.ref a1)] ∧ Z.Warmed39 U.vm ∧ U.heap = h0) (fun _ _ _ _ _ => True) (fun _ U o U' => ∃ v L, o = .returned v ∧ Q_listCopy Z a1 mr em el dd xs cap k h0 v U'.heap L ∧ FrameEnd U o U' L rM22.cells rM22.slots) := by
  refine MetFree.of_bodySF (plainFor_of_name pn_253) hisR ?_
  intro p e s m args below meth c s₁ Bd hml0 hP hK
  obtain ⟨rfl, hZ, hh⟩ := hP
  have hx := Bd.exec
  have hby := Bd.bytes
  have hml : c.maxLocals = 2 := hml0
  have hown : s.vm.findClass "java/util/ImmutableCollections" = some m.cls := findClass_of_methodNamed Bd.named
  have hnm := (name_of_methodNamed Bd.named Bd.method).1
  have X0 : Stand p l e rM22 s m #[(.ref a1)] below meth c s₁ [] 0 0 := Stand.of_body Bd
  have e0 : s₁.heap = h0 := by rw [← hh, Bd.state]; rfl
  have N0 := Fr.nil Z.heap.size
  have Z0 : Z.heap.size ≤ h0.size := OL.2.1
  have lt_0 : @LT.lt Nat _ a1 h0.size := p0_.lt
  have lt_1 : @LT.lt Nat _ a1 h0.size := p1_.lt
  have lt_2 : @LT.lt Nat _ a1 h0.size := p2_.lt
  have lt_3 : @LT.lt Nat _ dd h0.size := p3_.lt
  have lt_4 : @LT.lt Nat _ dd h0.size := p4_.lt
  show own_Go p.tables e below (fun o tE => ∃ v L, o = .returned v ∧ Q_listCopy Z a1 mr em el dd xs cap k h0 v tE.heap L ∧ FrameEnd s o tE L rM22.cells rM22.slots) (s₁.setTop (entryFrame m #[(.ref a1)] 2))
  refine own_hd (fun PP hPP => ?_)
  refine own_Go.st (fun t k => castTop (ef_282 m a1) k) ?_
  refine own_Go.st (fun _ k => XS.aloadN X0.here hx rfl (hb hby dj56_3_0) rfl rfl k) ?_
  show own_Go _ _ _ _ (s₁.setTop (mkF m 1 #[.val (.ref a1), .unset] [(.ref a1)]))
  obtain ⟨T454, X454, e454, st454⟩ := instNo X0 hx hZ hown (own_w hw 122 rfl) e0 p0_ (own_no12 hw) (g := (mkF m 1 #[.val (.ref a1), .unset] [(.ref a1)])) rfl rfl (hb hby dj56_3_1)
  refine own_Go.st st454 ?_
  show own_Go _ _ _ _ (T454.setTop (mkF m 4 #[.val (.ref a1), .unset] [(.int (0 : Int32))]))
  refine own_Go.st (fun _ k => XS.ifNo X454.here hx rfl (hb hby dj56_3_4) rfl ((if0 _ _).trans (teq (rfl : (0 : Int32) = (0 : Int32))).2) k) ?_
  refine own_Go.st (fun _ k => XS.aloadN X454.here hx rfl (hb hby dj56_3_7) rfl rfl k) ?_
  show own_Go _ _ _ _ (T454.setTop (mkF m 8 #[.val (.ref a1), .unset] [(.ref a1)]))
  obtain ⟨T455, X455, e455, st455⟩ := instNo X454 hx hZ hown (own_w hw 127 rfl) e454 p0_ (own_noN hw) (g := (mkF m 8 #[.val (.ref a1), .unset] [(.ref a1)])) rfl rfl (hb hby dj56_3_8)
  refine own_Go.st st455 ?_
  show own_Go _ _ _ _ (T455.setTop (mkF m 11 #[.val (.ref a1), .unset] [(.int (0 : Int32))]))
  refine own_Go.st (fun _ k => XS.ifYes X455.here hx rfl (pc0 := 11) (pc' := 31) rfl (hb hby dj56_3_11) rfl ((if0 _ _).trans (teq (rfl : (0 : Int32) = (0 : Int32))).1) (by decide) (by decide) k) ?_
  refine own_Go.st (fun _ k => XS.aloadN X455.here hx rfl (hb hby dj56_3_31) rfl rfl k) ?_
  show own_Go _ _ _ _ (T455.setTop (mkF m 32 #[.val (.ref a1), .unset] [(.ref a1)]))
  obtain ⟨cq456, kq456, q456a, q456b, q456c⟩ := isOf hZ e455 p0_
  obtain ⟨_, _, ⟨T456, L456, k456, n456⟩, -, X456, ⟨Lc456, hQ456, l456, y456, z456⟩, st456⟩ := X455.interfaceBack hx (xi := (⟨"java/util/Collection", "isEmpty", "()Z"⟩ : MethodName)) (y := mN18) hown (own_v hZ hw 128 rfl) (own_v hZ hw 129 rfl) (own_v hZ hw 130 rfl) (own_v hZ hw 131 rfl) (own_v hZ hw 132 rfl) (own_v hZ hw 133 rfl) (own_v hZ hw 134 rfl) (own_v hZ hw 135 rfl) (by decide) (backOf (W := 0) (rm_alempty l Z a0 hw [] a1 xs h0 OL p2_ hlx) hZ (own_w hw 136 rfl) (own_w hw 49 rfl) (by decide) (by decide)) q456a q456b q456c (g := (mkF m 32 #[.val (.ref a1), .unset] [(.ref a1)])) rfl (by rw [hml]; rfl) (Steps.refl _) (argsL := []) (rest := []) (lenOf pd_319 rfl) rfl (by show 2 * 0 + _ ≤ _; exact Nat.le_of_eq rfl) (hb hby dj56_3_32) (fun _ _ => ⟨rfl, e455, (by decide : 0 + 0 ≤ _), (by decide : 0 + 0 ≤ _)⟩)
  dsimp only [Pt.U, Pt.locs, Pt.cells, Pt.slots] at X456 l456 y456 z456 st456 hQ456
  subst l456 y456 z456
  obtain ⟨rfl, N456q, K456⟩ := hQ456
  have N456 := Fr.app N0 N456q
  refine own_Go.tr st456 ?_
  show own_Go _ _ _ _ (T456.setTop (mkF m 37 #[.val (.ref a1), .unset] [(.int (if xs.length = 0 then (1 : Int32) else 0))]))
  by_cases h37 : (if xs.length = 0 then (1 : Int32) else 0) = (0 : Int32)
  ·
    refine own_Go.st (fun _ k => XS.ifYes X456.here hx rfl (pc0 := 37) (pc' := 44) rfl (hb hby dj56_3_37) rfl ((if0 _ _).trans (teq h37).1) (by decide) (by decide) k) ?_
    have hq : 0 < xs.length := by
      by_cases q : xs.length = 0
      · rw [if_pos q] at h37; exact absurd h37 (by decide)
      · omega
    refine own_Go.st (fun _ k => XS.aloadN X456.here hx rfl (hb hby dj56_3_44) rfl rfl k) ?_
    show own_Go _ _ _ _ (T456.setTop (mkF m 45 #[.val (.ref a1), .unset] [(.ref a1)]))
    obtain ⟨cq457, kq457, q457a, q457b, q457c⟩ := isOf hZ K456 p0_
    obtain ⟨_, _, ⟨T457, L457, k457, n457⟩, -, X457, ⟨Lc457, hQ457, l457, y457, z457⟩, st457⟩ := X456.interfaceBack hx (xi := (⟨"java/util/Collection", "toArray", "()[Ljava/lang/Object;"⟩ : MethodName)) (y := mN19) hown (own_v hZ hw 141 rfl) (own_v hZ hw 142 rfl) (own_v hZ hw 143 rfl) (own_v hZ hw 144 rfl) (own_v hZ hw 145 rfl) (own_v hZ hw 146 rfl) (own_v hZ hw 147 rfl) (own_v hZ hw 135 rfl) (by decide) (backOf (W := 0) (rm_toArray l Z a0 hw [] a1 mr dd xs cap k h0 OL p0_ p1_ p2_ p3_ p4_ p5_ hlx hcx hmir) hZ (own_w hw 148 rfl) (own_w hw 49 rfl) (by decide) (by decide)) q457a q457b q457c (g := (mkF m 45 #[.val (.ref a1), .unset] [(.ref a1)])) rfl (by rw [hml]; rfl) (Steps.refl _) (argsL := []) (rest := []) (lenOf pd_135 rfl) rfl (by show 2 * 0 + _ ≤ _; exact Nat.le_of_eq rfl) (hb hby dj56_3_45) (fun _ _ => ⟨rfl, K456, (by decide : 0 + 1 ≤ _), (by decide : 0 + 3 ≤ _)⟩)
    dsimp only [Pt.U, Pt.locs, Pt.cells, Pt.slots] at X457 l457 y457 z457 st457 hQ457
    subst l457 y457 z457
    obtain ⟨x_457, kx_457, rfl, N457q, K457, f457_0, pr457_0⟩ := hQ457
    have N457 := Fr.app N456 N457q
    have z457 : h0.size ≤ T457.heap.size := K457.1
    have lt457_0 : @LT.lt Nat _ x_457 T457.heap.size := f457_0.lt
    have f458 : own_All Z T457.heap xs := p5_.keep K457
    refine own_Go.tr st457 ?_
    show own_Go _ _ _ _ (T457.setTop (mkF m 50 #[.val (.ref a1), .unset] [(.ref x_457)]))
    have f460 : Old Z Z.heap.size T457.heap := OL.keep K457 all0
    obtain ⟨_, _, ⟨T459, L459, k459, n459⟩, -, X459, ⟨Lc459, hQ459, l459, y459, z459⟩, st459⟩ := Jvm.LawKit.callS X457 hx (y := mN34) hown (own_v hZ hw 171 rfl) (own_v hZ hw 172 rfl) (own_v hZ hw 116 rfl) (own_v hZ hw 173 rfl) (by decide) (backOf (W := 0) (rm_listOf l Z a0 hw [] x_457 xs kx_457 em T457.heap f460 f457_0 f458 st_EMPTY (own_13of hq hlx)) hZ (own_w hw 173 rfl) (own_w hw 116 rfl) (by decide) (by decide)) (g := (mkF m 50 #[.val (.ref a1), .unset] [(.ref x_457)])) rfl (by rw [hml]; rfl) (argsL := [(.ref x_457)]) (rest := []) (lenOf pd_306 rfl) rfl (by show 2 * 0 + _ ≤ _; exact Nat.le_of_eq rfl) (hb hby dj56_3_50) (fun _ _ => ⟨rfl, rfl, (by decide : 1 + 2 ≤ _), (by decide : 3 + 5 ≤ _)⟩)
    dsimp only [Pt.U, Pt.locs, Pt.cells, Pt.slots] at X459 l459 y459 z459 st459 hQ459
    subst l459 y459 z459
    obtain ⟨x_459, rfl, N459q, K459, f459_0⟩ := hQ459
    have N459 := Fr.app N457 N459q
    have z459 : T457.heap.size ≤ T459.heap.size := K459.1
    refine own_Go.st st459 ?_
    show own_Go _ _ _ _ (T459.setTop (mkF m 53 #[.val (.ref a1), .unset] [(.ref x_459)]))
    obtain ⟨fs461, hr461, hrun461, hend461, hW461, hsm461⟩ := X459.leave (v := some (.ref x_459)) (fun h => by rw [Bd.returns] at h; cases h)
    have K462 : Keep h0 T457.heap [] := (Keep.refl h0 []).trans K457 all0
    have K463 : Keep h0 T459.heap [] := K462.trans K459 all0
    subst hPP
    refine ⟨_, _, own_retA X459 hx Bd.returns rfl rfl (hb hby dj56_3_53) hr461, hrun461, hend461, _, _, rfl, ?_, ⟨_, rfl⟩, hW461, hsm461.mono (by decide) (by decide)⟩
    · show Q_listCopy Z _ _ _ _ _ _ _ _ h0 _ T459.heap _
      exact ⟨x_459, rfl, N459, K463, f459_0⟩
  ·
    refine own_Go.st (fun _ k => XS.ifNo X456.here hx rfl (hb hby dj56_3_37) rfl ((if0 _ _).trans (feq h37).1) k) ?_
    have hq : xs.length = 0 := Classical.byContradiction fun q => h37 (if_neg q)
    show own_Go _ _ _ _ (T456.setTop (mkF m 40 #[.val (.ref a1), .unset] []))
    obtain ⟨_, _, ⟨T464, L464, k464, n464⟩, -, X464, ⟨Lc464, hQ464, l464, y464, z464⟩, st464⟩ := Jvm.LawKit.callS X456 hx (y := mN33) hown (own_v hZ hw 137 rfl) (own_v hZ hw 138 rfl) (own_v hZ hw 116 rfl) (own_v hZ hw 139 rfl) (by decide) (backOf (W := 0) (rm_listOf0 l Z a0 hw [] el h0 OL st_EMPTY_LIST) hZ (own_w hw 139 rfl) (own_w hw 116 rfl) (by decide) (by decide)) (g := (mkF m 40 #[.val (.ref a1), .unset] [])) rfl (by rw [hml]; rfl) (argsL := []) (rest := []) (lenOf pd_326 rfl) rfl (by show 2 * 0 + _ ≤ _; exact Nat.le_of_eq rfl) (hb hby dj56_3_40) (fun _ _ => ⟨rfl, K456, (by decide : 0 + 0 ≤ _), (by decide : 0 + 0 ≤ _)⟩)
    dsimp only [Pt.U, Pt.locs, Pt.cells, Pt.slots] at X464 l464 y464 z464 st464 hQ464
    subst l464 y464 z464
    obtain ⟨rfl, N464q, K464⟩ := hQ464
    have N464 := Fr.app N456 N464q
    refine own_Go.st st464 ?_
    show own_Go _ _ _ _ (T464.setTop (mkF m 43 #[.val (.ref a1), .unset] [(.ref el)]))
    obtain ⟨fs465, hr465, hrun465, hend465, hW465, hsm465⟩ := X464.leave (v := some (.ref el)) (fun h => by rw [Bd.returns] at h; cases h)
    subst hPP
    refine ⟨_, _, own_retA X464 hx Bd.returns rfl rfl (hb hby dj56_3_43) hr465, hrun465, hend465, _, _, rfl, ?_, ⟨_, rfl⟩, hW465, hsm465.mono (by decide) (by decide)⟩
    · show Q_listCopy Z _ _ _ _ _ _ _ _ h0 _ T464.heap _
      rw [K464]
      exact ⟨el, rfl, N464, (Keep.refl h0 []), (by rw [hq]; exact hel.ext OL.2)⟩
theorem dj40_48_0 : decode jdk_40_method_48_code 0 = .ok (.aload_n 0, 1) := by decide +kernel
theorem pd_330 : parseMethodDescriptor "(Ljava/util/Collection;)Ljava/util/List;" = some ⟨[(.object "java/util/Collection")], some (.object "java/util/List")⟩ := by decide +kernel
theorem dj40_48_1 : decode jdk_40_method_48_code 1 = .ok (.invokestatic 112, 3) := by decide +kernel
theorem dj40_48_4 : decode jdk_40_method_48_code 4 = .ok (.areturn, 1) := by decide +kernel
def Q_lcopyOf (Z : State) (a1 : Nat) (mr : Nat) (em : Nat) (el : Nat) (dd : Nat) (xs : List Addr) (cap : Nat) (k : ClassId) (h0 : Heap) (v : Option Value) (h : Heap) (L : List Loc) : Prop := ∃ (x : Nat), v = some (.ref x) ∧ Fr Z.heap.size L ∧ Keep h0 h [] ∧ own_Li Z h x xs.length
set_option maxRecDepth 65536 in
set_option maxHeartbeats 40000000 in
theorem rm_lcopyOf (l : Launch) (Z : State) (a0 : Array Value) (hw : ∀ d ∈ tables_1, d.before a0 Z = true) (ws : List Jvm.Cond) (a1 : Nat) (mr : Nat) (em : Nat) (el : Nat) (dd : Nat) (xs : List Addr) (cap : Nat) (k : ClassId) (h0 : Heap) (OL : Old Z Z.heap.size h0) (p0_ : Exa Z h0 a1 "java/util/ArrayList") (p1_ : Fld Z h0 a1 "java/util/ArrayList" "elementData" "[Ljava/lang/Object;" (.ref dd)) (p2_ : Fld Z h0 a1 "java/util/ArrayList" "size" "I" (.int (Int32.ofNat xs.length))) (p3_ : Arv Z h0 dd k (.object "java/lang/Object") (Int32.ofNat cap) (xs.map Value.ref) .null) (p4_ : Exa Z h0 dd "[Ljava/lang/Object;") (p5_ : own_All Z h0 xs) (st_EMPTY : Sta Z Z.heap "java/util/ImmutableCollections" "EMPTY" "Ljava/lang/Object;" (.ref em)) (st_EMPTY_LIST : Sta Z Z.heap "java/util/ImmutableCollections" "EMPTY_LIST" "Ljava/util/ImmutableCollections$ListN;" (.ref el)) (hlx : xs.length ≤ 3) (hcx : xs.length ≤ cap ∧ cap ≤ 10) (hmir : own_Mir Z "[Ljava/lang/Object;" mr) (hel : own_Li Z Z.heap el 0) :
    MetFree l mN31 (head1 (Jvm.Cond.code mN31 jdk_40_method_48_code 1 (some (.object "java/util/List")) :: ws) rM23) (fun a U => a = #[(.ref a1)] ∧ Z.Warmed39 U.vm ∧ U.heap = h0) (fun _ _ _ _ _ => True) (fun _ U o U' => ∃ v L, o = .returned v ∧ Q_lcopyOf Z a1 mr em el dd xs cap k h0 v U'.heap L ∧ FrameEnd U o U' L rM23.cells rM23.slots) := by
  refine MetFree.of_bodySF (plainFor_of_name pn_281) hisR ?_
  intro p e s m args below meth c s₁ Bd hml0 hP hK
  obtain ⟨rfl, hZ, hh⟩ := hP
  have hx := Bd.exec
  have hby := Bd.bytes
  have hml : c.maxLocals = 1 := hml0
  have hown : s.vm.findClass "java/util/List" = some m.cls := findClass_of_methodNamed Bd.named
  have hnm := (name_of_methodNamed Bd.named Bd.method).1
  have X0 : Stand p l e rM23 s m #[(.ref a1)] below meth c s₁ [] 0 0 := Stand.of_body Bd
  have e0 : s₁.heap = h0 := by rw [← hh, Bd.state]; rfl
  have N0 := Fr.nil Z.heap.size
  have Z0 : Z.heap.size ≤ h0.size := OL.2.1
  have lt_0 : @LT.lt Nat _ a1 h0.size := p0_.lt
  have lt_1 : @LT.lt Nat _ a1 h0.size := p1_.lt
  have lt_2 : @LT.lt Nat _ a1 h0.size := p2_.lt
  have lt_3 : @LT.lt Nat _ dd h0.size := p3_.lt
  have lt_4 : @LT.lt Nat _ dd h0.size := p4_.lt
  show own_Go p.tables e below (fun o tE => ∃ v L, o = .returned v ∧ Q_lcopyOf Z a1 mr em el dd xs cap k h0 v tE.heap L ∧ FrameEnd s o tE L rM23.cells rM23.slots) (s₁.setTop (entryFrame m #[(.ref a1)] 1))
  refine own_hd (fun PP hPP => ?_)
  refine own_Go.st (fun t k => castTop (ef_67 m a1) k) ?_
  refine own_Go.st (fun _ k => XS.aloadN X0.here hx rfl (hb hby dj40_48_0) rfl rfl k) ?_
  show own_Go _ _ _ _ (s₁.setTop (mkF m 1 #[.val (.ref a1)] [(.ref a1)]))
  obtain ⟨_, _, ⟨T466, L466, k466, n466⟩, -, X466, ⟨Lc466, hQ466, l466, y466, z466⟩, st466⟩ := Jvm.LawKit.callS X0 hx (y := mN22) hown (own_v hZ hw 118 rfl) (own_v hZ hw 119 rfl) (own_v hZ hw 120 rfl) (own_v hZ hw 121 rfl) (by decide) (backOf (W := 0) (rm_listCopy l Z a0 hw [] a1 mr em el dd xs cap k h0 OL p0_ p1_ p2_ p3_ p4_ p5_ st_EMPTY st_EMPTY_LIST hlx hcx hmir hel) hZ (own_w hw 121 rfl) (own_w hw 120 rfl) (by decide) (by decide)) (g := (mkF m 1 #[.val (.ref a1)] [(.ref a1)])) rfl (by rw [hml]; rfl) (argsL := [(.ref a1)]) (rest := []) (lenOf pd_330 rfl) rfl (by show 2 * 0 + _ ≤ _; exact Nat.le_of_eq rfl) (hb hby dj40_48_1) (fun _ _ => ⟨rfl, e0, (by decide : 0 + 3 ≤ _), (by decide : 0 + 8 ≤ _)⟩)
  dsimp only [Pt.U, Pt.locs, Pt.cells, Pt.slots] at X466 l466 y466 z466 st466 hQ466
  subst l466 y466 z466
  obtain ⟨x_466, rfl, N466q, K466, f466_0⟩ := hQ466
  have N466 := Fr.app N0 N466q
  have z466 : h0.size ≤ T466.heap.size := K466.1
  refine own_Go.st st466 ?_
  show own_Go _ _ _ _ (T466.setTop (mkF m 4 #[.val (.ref a1)] [(.ref x_466)]))
  obtain ⟨fs467, hr467, hrun467, hend467, hW467, hsm467⟩ := X466.leave (v := some (.ref x_466)) (fun h => by rw [Bd.returns] at h; cases h)
  have K468 : Keep h0 T466.heap [] := (Keep.refl h0 []).trans K466 all0
  subst hPP
  refine ⟨_, _, own_retA X466 hx Bd.returns rfl rfl (hb hby dj40_48_4) hr467, hrun467, hend467, _, _, rfl, ?_, ⟨_, rfl⟩, hW467, hsm467.mono (by decide) (by decide)⟩
  · show Q_lcopyOf Z _ _ _ _ _ _ _ _ h0 _ T466.heap _
    exact ⟨x_466, rfl, N466, K468, f466_0⟩
theorem pn_333 : plainName "java/lang/Record" = true := by first | (simp [plainName, overriddenIn]; done) | decide +kernel
theorem dj30_1_0 : decode jdk_30_method_1_code 0 = .ok (.aload_n 0, 1) := by decide +kernel
theorem dj30_1_1 : decode jdk_30_method_1_code 1 = .ok (.invokespecial 1, 3) := by decide +kernel
theorem dj30_1_4 : decode jdk_30_method_1_code 4 = .ok (.return_, 1) := by decide +kernel
def Q_recinit (Z : State) (a1 : Nat) (h0 : Heap) (v : Option Value) (h : Heap) (L : List Loc) : Prop := v = none ∧ Fr Z.heap.size L ∧ h = h0
set_option maxRecDepth 65536 in
set_option maxHeartbeats 40000000 in
theorem rm_recinit (l : Launch) (Z : State) (a0 : Array Value) (hw : ∀ d ∈ tables_1, d.before a0 Z = true) (ws : List Jvm.Cond) (a1 : Nat) (h0 : Heap) (OL : Old Z Z.heap.size h0) :
    MetFree l mN4 (head1 (Jvm.Cond.code mN4 jdk_30_method_1_code 1 none :: ws) rM2) (fun a U => a = #[(.ref a1)] ∧ Z.Warmed39 U.vm ∧ U.heap = h0) (fun _ _ _ _ _ => True) (fun _ U o U' => ∃ v L, o = .returned v ∧ Q_recinit Z a1 h0 v U'.heap L ∧ FrameEnd U o U' L rM2.cells rM2.slots) := by
  refine MetFree.of_bodySF (plainFor_of_name pn_333) hisR ?_
  intro p e s m args below meth c s₁ Bd hml0 hP hK
  obtain ⟨rfl, hZ, hh⟩ := hP
  have hx := Bd.exec
  have hby := Bd.bytes
  have hml : c.maxLocals = 1 := hml0
  have hown : s.vm.findClass "java/lang/Record" = some m.cls := findClass_of_methodNamed Bd.named
  have hnm := (name_of_methodNamed Bd.named Bd.method).1
  have X0 : Stand p l e rM2 s m #[(.ref a1)] below meth c s₁ [] 0 0 := Stand.of_body Bd
  have e0 : s₁.heap = h0 := by rw [← hh, Bd.state]; rfl
  have N0 := Fr.nil Z.heap.size
  have Z0 : Z.heap.size ≤ h0.size := OL.2.1
  show own_Go p.tables e below (fun o tE => ∃ v L, o = .returned v ∧ Q_recinit Z a1 h0 v tE.heap L ∧ FrameEnd s o tE L rM2.cells rM2.slots) (s₁.setTop (entryFrame m #[(.ref a1)] 1))
  refine own_hd (fun PP hPP => ?_)
  refine own_Go.st (fun t k => castTop (ef_67 m a1) k) ?_
  refine own_Go.st (fun _ k => XS.aloadN X0.here hx rfl (hb hby dj30_1_0) rfl rfl k) ?_
  show own_Go _ _ _ _ (s₁.setTop (mkF m 1 #[.val (.ref a1)] [(.ref a1)]))
  obtain ⟨T469, X469, e469, st469⟩ := initO X0 hx hZ hown (own_w hw 113 rfl) (own_w hw 12 rfl) (own_w hw 13 rfl) e0 (g := (mkF m 1 #[.val (.ref a1)] [(.ref a1)])) rfl (by rw [hml]; rfl) rfl (hb hby dj30_1_1) (by decide) (W := 0) (by show 2 * 0 + _ ≤ _; exact Nat.le_of_eq rfl) (by decide)
  refine own_Go.st st469 ?_
  show own_Go _ _ _ _ (T469.setTop (mkF m 4 #[.val (.ref a1)] []))
  obtain ⟨fs470, hr470, hrun470, hend470, hW470, hsm470⟩ := X469.leave (v := none) (fun _ => rfl)
  subst hPP
  refine ⟨_, _, X469.returnOut hx Bd.returns (hb hby dj30_1_4) hr470, hrun470, hend470, _, _, rfl, ?_, ⟨_, rfl⟩, hW470, hsm470.mono (by decide) (by decide)⟩
  · show Q_recinit Z _ h0 _ T469.heap _
    rw [e469]
    exact ⟨rfl, N0, rfl⟩
theorem pn_337 : plainName "com/example/hinagata/hinagata/DigestComparison" = true := by first | (simp [plainName, overriddenIn]; done) | decide +kernel
theorem dp5_1_0 : decode prog_5_method_1_code 0 = .ok (.aload_n 0, 1) := by decide +kernel
theorem dp5_1_1 : decode prog_5_method_1_code 1 = .ok (.invokespecial 1, 3) := by decide +kernel
theorem dp5_1_4 : decode prog_5_method_1_code 4 = .ok (.aload_n 1, 1) := by decide +kernel
theorem dp5_1_5 : decode prog_5_method_1_code 5 = .ok (.invokestatic 7, 3) := by decide +kernel
theorem dp5_1_8 : decode prog_5_method_1_code 8 = .ok (.astore_n 1, 1) := by decide +kernel
theorem dp5_1_9 : decode prog_5_method_1_code 9 = .ok (.aload_n 2, 1) := by decide +kernel
theorem dp5_1_10 : decode prog_5_method_1_code 10 = .ok (.invokestatic 7, 3) := by decide +kernel
theorem dp5_1_13 : decode prog_5_method_1_code 13 = .ok (.astore_n 2, 1) := by decide +kernel
theorem dp5_1_14 : decode prog_5_method_1_code 14 = .ok (.aload_n 0, 1) := by decide +kernel
theorem dp5_1_15 : decode prog_5_method_1_code 15 = .ok (.aload_n 1, 1) := by decide +kernel
theorem dp5_1_16 : decode prog_5_method_1_code 16 = .ok (.putfield 13, 3) := by decide +kernel
theorem dp5_1_19 : decode prog_5_method_1_code 19 = .ok (.aload_n 0, 1) := by decide +kernel
theorem dp5_1_20 : decode prog_5_method_1_code 20 = .ok (.aload_n 2, 1) := by decide +kernel
theorem dp5_1_21 : decode prog_5_method_1_code 21 = .ok (.putfield 19, 3) := by decide +kernel
theorem dp5_1_24 : decode prog_5_method_1_code 24 = .ok (.return_, 1) := by decide +kernel
def Q_dcinit (Z : State) (a1 : Nat) (a2 : Nat) (a3 : Nat) (mr : Nat) (em : Nat) (el : Nat) (dy : Nat) (xsy : List Addr) (capy : Nat) (ky : ClassId) (dz : Nat) (xsz : List Addr) (capz : Nat) (kz : ClassId) (h0 : Heap) (v : Option Value) (h : Heap) (L : List Loc) : Prop := ∃ (x1 : Nat), ∃ (x2 : Nat), v = none ∧ Fr Z.heap.size L ∧ Keep h0 h [a1] ∧ Exa Z h a1 "com/example/hinagata/hinagata/DigestComparison" ∧ Fld Z h a1 "com/example/hinagata/hinagata/DigestComparison" "missingLocal" "Ljava/util/List;" (.ref x1) ∧ Fld Z h a1 "com/example/hinagata/hinagata/DigestComparison" "missingRemote" "Ljava/util/List;" (.ref x2) ∧ own_Li Z h x1 xsy.length ∧ own_Li Z h x2 xsz.length
set_option maxRecDepth 65536 in
set_option maxHeartbeats 40000000 in
theorem rm_dcinit (l : Launch) (Z : State) (a0 : Array Value) (hw : ∀ d ∈ tables_1, d.before a0 Z = true) (ws : List Jvm.Cond) (a1 : Nat) (a2 : Nat) (a3 : Nat) (mr : Nat) (em : Nat) (el : Nat) (dy : Nat) (xsy : List Addr) (capy : Nat) (ky : ClassId) (dz : Nat) (xsz : List Addr) (capz : Nat) (kz : ClassId) (h0 : Heap) (OL : Old Z Z.heap.size h0) (p0_ : Exa Z h0 a1 "com/example/hinagata/hinagata/DigestComparison") (p1_ : Fld Z h0 a1 "com/example/hinagata/hinagata/DigestComparison" "missingLocal" "Ljava/util/List;" .null) (p2_ : Fld Z h0 a1 "com/example/hinagata/hinagata/DigestComparison" "missingRemote" "Ljava/util/List;" .null) (p3_ : Exa Z h0 a2 "java/util/ArrayList") (p4_ : Fld Z h0 a2 "java/util/ArrayList" "elementData" "[Ljava/lang/Object;" (.ref dy)) (p5_ : Fld Z h0 a2 "java/util/ArrayList" "size" "I" (.int (Int32.ofNat xsy.length))) (p6_ : Arv Z h0 dy ky (.object "java/lang/Object") (Int32.ofNat capy) (xsy.map Value.ref) .null) (p7_ : Exa Z h0 dy "[Ljava/lang/Object;") (p8_ : own_All Z h0 xsy) (p9_ : Exa Z h0 a3 "java/util/ArrayList") (p10_ : Fld Z h0 a3 "java/util/ArrayList" "elementData" "[Ljava/lang/Object;" (.ref dz)) (p11_ : Fld Z h0 a3 "java/util/ArrayList" "size" "I" (.int (Int32.ofNat xsz.length))) (p12_ : Arv Z h0 dz kz (.object "java/lang/Object") (Int32.ofNat capz) (xsz.map Value.ref) .null) (p13_ : Exa Z h0 dz "[Ljava/lang/Object;") (p14_ : own_All Z h0 xsz) (st_EMPTY : Sta Z Z.heap "java/util/ImmutableCollections" "EMPTY" "Ljava/lang/Object;" (.ref em)) (st_EMPTY_LIST : Sta Z Z.heap "java/util/ImmutableCollections" "EMPTY_LIST" "Ljava/util/ImmutableCollections$ListN;" (.ref el)) (hlxy : xsy.length ≤ 3) (hcxy : xsy.length ≤ capy ∧ capy ≤ 10) (hlxz : xsz.length ≤ 3) (hcxz : xsz.length ≤ capz ∧ capz ≤ 10) (hmir : own_Mir Z "[Ljava/lang/Object;" mr) (hel : own_Li Z Z.heap el 0) (hn0 : Z.heap.size ≤ a1) :
    MetFree l mN0 (head1 (Jvm.Cond.code mN0 prog_5_method_1_code 3 none :: ws) rM24) (fun a U => a = #[(.ref a1), (.ref a2), (.ref a3)] ∧ Z.Warmed39 U.vm ∧ U.heap = h0) (fun _ _ _ _ _ => True) (fun _ U o U' => ∃ v L, o = .returned v ∧ Q_dcinit Z a1 a2 a3 mr em el dy xsy capy ky dz xsz capz kz h0 v U'.heap L ∧ FrameEnd U o U' L rM24.cells rM24.slots) := by
  refine MetFree.of_bodySF (plainFor_of_name pn_337) hisR ?_
  intro p e s m args below meth c s₁ Bd hml0 hP hK
  obtain ⟨rfl, hZ, hh⟩ := hP
  have hx := Bd.exec
  have hby := Bd.bytes
  have hml : c.maxLocals = 3 := hml0
  have hown : s.vm.findClass "com/example/hinagata/hinagata/DigestComparison" = some m.cls := findClass_of_methodNamed Bd.named
  have hnm := (name_of_methodNamed Bd.named Bd.method).1
  have X0 : Stand p l e rM24 s m #[(.ref a1), (.ref a2), (.ref a3)] below meth c s₁ [] 0 0 := Stand.of_body Bd
  have e0 : s₁.heap = h0 := by rw [← hh, Bd.state]; rfl
  have N0 := Fr.nil Z.heap.size
  have Z0 : Z.heap.size ≤ h0.size := OL.2.1
  have lt_0 : @LT.lt Nat _ a1 h0.size := p0_.lt
  have lt_1 : @LT.lt Nat _ a1 h0.size := p1_.lt
  have lt_2 : @LT.lt Nat _ a1 h0.size := p2_.lt
  have lt_3 : @LT.lt Nat _ a2 h0.size := p3_.lt
  have lt_4 : @LT.lt Nat _ a2 h0.size := p4_.lt
  have lt_5 : @LT.lt Nat _ a2 h0.size := p5_.lt
  have lt_6 : @LT.lt Nat _ dy h0.size := p6_.lt
  have lt_7 : @LT.lt Nat _ dy h0.size := p7_.lt
  have lt_9 : @LT.lt Nat _ a3 h0.size := p9_.lt
  have lt_10 : @LT.lt Nat _ a3 h0.size := p10_.lt
  have lt_11 : @LT.lt Nat _ a3 h0.size := p11_.lt
  have lt_12 : @LT.lt Nat _ dz h0.size := p12_.lt
  have lt_13 : @LT.lt Nat _ dz h0.size := p13_.lt
  show own_Go p.tables e below (fun o tE => ∃ v L, o = .returned v ∧ Q_dcinit Z a1 a2 a3 mr em el dy xsy capy ky dz xsz capz kz h0 v tE.heap L ∧ FrameEnd s o tE L rM24.cells rM24.slots) (s₁.setTop (entryFrame m #[(.ref a1), (.ref a2), (.ref a3)] 3))
  refine own_hd (fun PP hPP => ?_)
  refine own_Go.st (fun t k => castTop (ef_231 m a1 a2 a3) k) ?_
  refine own_Go.st (fun _ k => XS.aloadN X0.here hx rfl (hb hby dp5_1_0) rfl rfl k) ?_
  show own_Go _ _ _ _ (s₁.setTop (mkF m 1 #[.val (.ref a1), .val (.ref a2), .val (.ref a3)] [(.ref a1)]))
  obtain ⟨_, _, ⟨T471, L471, k471, n471⟩, -, X471, ⟨Lc471, hQ471, l471, y471, z471⟩, st471⟩ := X0.specialBack hx (y := mN4) rfl hown (own_v hZ hw 108 rfl) (own_v hZ hw 109 rfl) (own_v hZ hw 112 rfl) (by decide) (backOf (W := 0) (rm_recinit l Z a0 hw [] a1 h0 OL ) hZ (own_w hw 112 rfl) (own_w hw 111 rfl) (by decide) (by decide)) (g := (mkF m 1 #[.val (.ref a1), .val (.ref a2), .val (.ref a3)] [(.ref a1)])) rfl (by rw [hml]; rfl) (Steps.refl _) (a := a1) (argsL := []) (rest := []) (lenOf pd_73 rfl) rfl (by show 2 * 0 + _ ≤ _; exact Nat.le_of_eq rfl) (hb hby dp5_1_1) (fun _ _ => ⟨rfl, e0, (by decide : 0 + 0 ≤ _), (by decide : 0 + 0 ≤ _)⟩)
  dsimp only [Pt.U, Pt.locs, Pt.cells, Pt.slots] at X471 l471 y471 z471 st471 hQ471
  subst l471 y471 z471
  obtain ⟨rfl, N471q, K471⟩ := hQ471
  have N471 := Fr.app N0 N471q
  refine own_Go.tr st471 ?_
  refine own_Go.st (fun _ k => XS.aloadN X471.here hx rfl (hb hby dp5_1_4) rfl rfl k) ?_
  show own_Go _ _ _ _ (T471.setTop (mkF m 5 #[.val (.ref a1), .val (.ref a2), .val (.ref a3)] [(.ref a2)]))
  obtain ⟨_, _, ⟨T472, L472, k472, n472⟩, -, X472, ⟨Lc472, hQ472, l472, y472, z472⟩, st472⟩ := Jvm.LawKit.callS X471 hx (y := mN31) hown (own_v hZ hw 114 rfl) (own_v hZ hw 115 rfl) (own_v hZ hw 116 rfl) (own_v hZ hw 117 rfl) (by decide) (backOf (W := 0) (rm_lcopyOf l Z a0 hw [] a2 mr em el dy xsy capy ky h0 OL p3_ p4_ p5_ p6_ p7_ p8_ st_EMPTY st_EMPTY_LIST hlxy hcxy hmir hel) hZ (own_w hw 117 rfl) (own_w hw 116 rfl) (by decide) (by decide)) (g := (mkF m 5 #[.val (.ref a1), .val (.ref a2), .val (.ref a3)] [(.ref a2)])) rfl (by rw [hml]; rfl) (argsL := [(.ref a2)]) (rest := []) (lenOf pd_330 rfl) rfl (by show 2 * 0 + _ ≤ _; exact Nat.le_of_eq rfl) (hb hby dp5_1_5) (fun _ _ => ⟨rfl, K471, (by decide : 0 + 3 ≤ _), (by decide : 0 + 8 ≤ _)⟩)
  dsimp only [Pt.U, Pt.locs, Pt.cells, Pt.slots] at X472 l472 y472 z472 st472 hQ472
  subst l472 y472 z472
  obtain ⟨x_472, rfl, N472q, K472, f472_0⟩ := hQ472
  have N472 := Fr.app N471 N472q
  have z472 : h0.size ≤ T472.heap.size := K472.1
  refine own_Go.st st472 ?_
  refine own_Go.st (fun _ k => XS.astoreN X472.here hx rfl (hb hby dp5_1_8) rfl rfl (l' := #[.val (.ref a1), .val (.ref x_472), .val (.ref a3)]) rfl (XS.aloadN X472.here hx rfl (hb hby dp5_1_9) rfl rfl k)) ?_
  show own_Go _ _ _ _ (T472.setTop (mkF m 10 #[.val (.ref a1), .val (.ref x_472), .val (.ref a3)] [(.ref a3)]))
  have f474 : Exa Z T472.heap a3 "java/util/ArrayList" := p9_.keep K472
  have f475 : Fld Z T472.heap a3 "java/util/ArrayList" "elementData" "[Ljava/lang/Object;" (.ref dz) := p10_.keep K472 nin0
  have f476 : Fld Z T472.heap a3 "java/util/ArrayList" "size" "I" (.int (Int32.ofNat xsz.length)) := p11_.keep K472 nin0
  have f477 : Arv Z T472.heap dz kz (.object "java/lang/Object") (Int32.ofNat capz) (xsz.map Value.ref) .null := p12_.keep K472 nin0
  have f478 : Exa Z T472.heap dz "[Ljava/lang/Object;" := p13_.keep K472
  have f479 : own_All Z T472.heap xsz := p14_.keep K472
  have f480 : Old Z Z.heap.size T472.heap := OL.keep K472 all0
  obtain ⟨_, _, ⟨T473, L473, k473, n473⟩, -, X473, ⟨Lc473, hQ473, l473, y473, z473⟩, st473⟩ := Jvm.LawKit.callS X472 hx (y := mN31) hown (own_v hZ hw 114 rfl) (own_v hZ hw 115 rfl) (own_v hZ hw 116 rfl) (own_v hZ hw 117 rfl) (by decide) (backOf (W := 0) (rm_lcopyOf l Z a0 hw [] a3 mr em el dz xsz capz kz T472.heap f480 f474 f475 f476 f477 f478 f479 st_EMPTY st_EMPTY_LIST hlxz hcxz hmir hel) hZ (own_w hw 117 rfl) (own_w hw 116 rfl) (by decide) (by decide)) (g := (mkF m 10 #[.val (.ref a1), .val (.ref x_472), .val (.ref a3)] [(.ref a3)])) rfl (by rw [hml]; rfl) (argsL := [(.ref a3)]) (rest := []) (lenOf pd_330 rfl) rfl (by show 2 * 0 + _ ≤ _; exact Nat.le_of_eq rfl) (hb hby dp5_1_10) (fun _ _ => ⟨rfl, rfl, (by decide : 3 + 3 ≤ _), (by decide : 8 + 8 ≤ _)⟩)
  dsimp only [Pt.U, Pt.locs, Pt.cells, Pt.slots] at X473 l473 y473 z473 st473 hQ473
  subst l473 y473 z473
  obtain ⟨x_473, rfl, N473q, K473, f473_0⟩ := hQ473
  have N473 := Fr.app N472 N473q
  have z473 : T472.heap.size ≤ T473.heap.size := K473.1
  refine own_Go.st st473 ?_
  refine own_Go.st (fun _ k => XS.astoreN X473.here hx rfl (hb hby dp5_1_13) rfl rfl (l' := #[.val (.ref a1), .val (.ref x_472), .val (.ref x_473)]) rfl (XS.aloadN X473.here hx rfl (hb hby dp5_1_14) rfl rfl (XS.aloadN X473.here hx rfl (hb hby dp5_1_15) rfl rfl k))) ?_
  show own_Go _ _ _ _ (T473.setTop (mkF m 16 #[.val (.ref a1), .val (.ref x_472), .val (.ref x_473)] [(.ref x_472), (.ref a1)]))
  have f481 : Fld Z T472.heap a1 "com/example/hinagata/hinagata/DigestComparison" "missingLocal" "Ljava/util/List;" .null := p1_.keep K472 nin0
  have f482 : Fld Z T473.heap a1 "com/example/hinagata/hinagata/DigestComparison" "missingLocal" "Ljava/util/List;" .null := f481.keep K473 nin0
  have f483 : Exa Z T472.heap a1 "com/example/hinagata/hinagata/DigestComparison" := p0_.keep K472
  have f484 : Exa Z T473.heap a1 "com/example/hinagata/hinagata/DigestComparison" := f483.keep K473
  obtain ⟨T485, h485, X485, e485, W485, st485⟩ := putF X473 hx hZ hown (host := "") (Or.inl (own_w hw 206 rfl)) Via.refl rfl f482 f484 (Or.inr ⟨(own_w hw 207 rfl), rfl, hnm⟩) (own_w hw 103 rfl) (ty := (.object "java/util/List")) (by decide) rfl rfl (g := (mkF m 16 #[.val (.ref a1), .val (.ref x_472), .val (.ref x_473)] [(.ref x_472), (.ref a1)])) rfl rfl (hb hby dp5_1_16)
  refine own_Go.st st485 ?_
  have N485 := Fr.snoc X485 N473 (by omega)
  have z485 : T473.heap.size ≤ h485.size := Nat.le_of_eq W485.size.symm
  have f486 : Fld Z h485 a1 "com/example/hinagata/hinagata/DigestComparison" "missingLocal" "Ljava/util/List;" (.ref x_472) := f482.same W485
  refine own_Go.st (fun _ k => XS.aloadN X485.here hx rfl (hb hby dp5_1_19) rfl rfl (XS.aloadN X485.here hx rfl (hb hby dp5_1_20) rfl rfl k)) ?_
  show own_Go _ _ _ _ (T485.setTop (mkF m 21 #[.val (.ref a1), .val (.ref x_472), .val (.ref x_473)] [(.ref x_473), (.ref a1)]))
  have f487 : Fld Z T472.heap a1 "com/example/hinagata/hinagata/DigestComparison" "missingRemote" "Ljava/util/List;" .null := p2_.keep K472 nin0
  have f488 : Fld Z T473.heap a1 "com/example/hinagata/hinagata/DigestComparison" "missingRemote" "Ljava/util/List;" .null := f487.keep K473 nin0
  have f489 : Fld Z h485 a1 "com/example/hinagata/hinagata/DigestComparison" "missingRemote" "Ljava/util/List;" .null := f488.other W485 (Or.inr (slot_ne (Or.inr (own_w hw 209 rfl)) (Or.inr (own_w hw 207 rfl)) (by decide) (t := (.object "java/util/List")) (t' := (.object "java/util/List")) (by decide) (by decide)))
  have f490 : Exa Z h485 a1 "com/example/hinagata/hinagata/DigestComparison" := f484.wr W485
  obtain ⟨T491, h491, X491, e491, W491, st491⟩ := putF X485 hx hZ hown (host := "") (Or.inl (own_w hw 208 rfl)) Via.refl e485 f489 f490 (Or.inr ⟨(own_w hw 209 rfl), rfl, hnm⟩) (own_w hw 103 rfl) (ty := (.object "java/util/List")) (by decide) rfl rfl (g := (mkF m 21 #[.val (.ref a1), .val (.ref x_472), .val (.ref x_473)] [(.ref x_473), (.ref a1)])) rfl rfl (hb hby dp5_1_21)
  refine own_Go.st st491 ?_
  have N491 := Fr.snoc X491 N485 (by omega)
  have z491 : h485.size ≤ h491.size := Nat.le_of_eq W491.size.symm
  have f492 : Fld Z h491 a1 "com/example/hinagata/hinagata/DigestComparison" "missingRemote" "Ljava/util/List;" (.ref x_473) := f489.same W491
  show own_Go _ _ _ _ (T491.setTop (mkF m 24 #[.val (.ref a1), .val (.ref x_472), .val (.ref x_473)] []))
  obtain ⟨fs493, hr493, hrun493, hend493, hW493, hsm493⟩ := X491.leave (v := none) (fun _ => rfl)
  have K494 : Keep h0 T472.heap [a1] := (Keep.refl h0 [a1]).trans K472 all0
  have K495 : Keep h0 T473.heap [a1] := K494.trans K473 all0
  have K496 : Keep h0 h485 [a1] := K495.wr W485 (Or.inl (List.mem_of_getElem? (i := 0) rfl))
  have K497 : Keep h0 h491 [a1] := K496.wr W491 (Or.inl (List.mem_of_getElem? (i := 0) rfl))
  have f498 : Exa Z h491 a1 "com/example/hinagata/hinagata/DigestComparison" := f490.wr W491
  have f499 : Fld Z h491 a1 "com/example/hinagata/hinagata/DigestComparison" "missingLocal" "Ljava/util/List;" (.ref x_472) := f486.other W491 (Or.inr (slot_ne (Or.inr (own_w hw 207 rfl)) (Or.inr (own_w hw 209 rfl)) (by decide) (t := (.object "java/util/List")) (t' := (.object "java/util/List")) (by decide) (by decide)))
  have f500 : own_Li Z T473.heap x_472 xsy.length := f472_0.keep K473
  have f501 : own_Li Z h485 x_472 xsy.length := f500.other W485 f484 (own_w hw 103 rfl)
  have f502 : own_Li Z h491 x_472 xsy.length := f501.other W491 f490 (own_w hw 103 rfl)
  have f503 : own_Li Z h485 x_473 xsz.length := f473_0.other W485 f484 (own_w hw 103 rfl)
  have f504 : own_Li Z h491 x_473 xsz.length := f503.other W491 f490 (own_w hw 103 rfl)
  subst hPP
  refine ⟨_, _, X491.returnOut hx Bd.returns (hb hby dp5_1_24) hr493, hrun493, hend493, _, _, rfl, ?_, ⟨_, rfl⟩, hW493, hsm493.mono (by decide) (by decide)⟩
  · show Q_dcinit Z _ _ _ _ _ _ _ _ _ _ _ _ _ _ h0 _ T491.heap _
    rw [e491]
    exact ⟨x_472, x_473, rfl, N491, K497, f498, f499, f492, f502, f504⟩
theorem dj44_4_0 : decode jdk_44_method_4_code 0 = .ok (.iconst 0, 1) := by decide +kernel
theorem dj44_4_1 : decode jdk_44_method_4_code 1 = .ok (.ireturn, 1) := by decide +kernel
def Q_emp12 (Z : State) (a1 : Nat) (h0 : Heap) (v : Option Value) (h : Heap) (L : List Loc) : Prop := v = some (.int (0 : Int32)) ∧ Fr Z.heap.size L ∧ h = h0
set_option maxRecDepth 65536 in
set_option maxHeartbeats 40000000 in
theorem rm_emp12 (l : Launch) (Z : State) (a0 : Array Value) (hw : ∀ d ∈ tables_1, d.before a0 Z = true) (ws : List Jvm.Cond) (a1 : Nat) (h0 : Heap) (OL : Old Z Z.heap.size h0) :
    MetFree l mN28 (head1 (Jvm.Cond.code mN28 jdk_44_method_4_code 1 (some .boolean) :: ws) rM0) (fun a U => a = #[(.ref a1)] ∧ Z.Warmed39 U.vm ∧ U.heap = h0) (fun _ _ _ _ _ => True) (fun _ U o U' => ∃ v L, o = .returned v ∧ Q_emp12 Z a1 h0 v U'.heap L ∧ FrameEnd U o U' L rM0.cells rM0.slots) := by
  refine MetFree.of_bodySF (plainFor_of_name pn_219) hisR ?_
  intro p e s m args below meth c s₁ Bd hml0 hP hK
  obtain ⟨rfl, hZ, hh⟩ := hP
  have hx := Bd.exec
  have hby := Bd.bytes
  have hml : c.maxLocals = 1 := hml0
  have hown : s.vm.findClass "java/util/ImmutableCollections$List12" = some m.cls := findClass_of_methodNamed Bd.named
  have hnm := (name_of_methodNamed Bd.named Bd.method).1
  have X0 : Stand p l e rM0 s m #[(.ref a1)] below meth c s₁ [] 0 0 := Stand.of_body Bd
  have e0 : s₁.heap = h0 := by rw [← hh, Bd.state]; rfl
  have N0 := Fr.nil Z.heap.size
  have Z0 : Z.heap.size ≤ h0.size := OL.2.1
  show own_Go p.tables e below (fun o tE => ∃ v L, o = .returned v ∧ Q_emp12 Z a1 h0 v tE.heap L ∧ FrameEnd s o tE L rM0.cells rM0.slots) (s₁.setTop (entryFrame m #[(.ref a1)] 1))
  refine own_hd (fun PP hPP => ?_)
  refine own_Go.st (fun t k => castTop (ef_67 m a1) k) ?_
  refine own_Go.st (fun _ k => XS.iconst X0.here hx rfl (hb hby dj44_4_0) k) ?_
  show own_Go _ _ _ _ (s₁.setTop (mkF m 1 #[.val (.ref a1)] [(.int (0 : Int32))]))
  obtain ⟨fs505, hr505, hrun505, hend505, hW505, hsm505⟩ := X0.leave (v := some (.int (nar .boolean (0 : Int32)))) (fun h => by rw [Bd.returns] at h; cases h)
  subst hPP
  refine ⟨_, _, retN X0 hx (t := .boolean) Bd.returns (by simp) (hb hby dj44_4_1) hr505, hrun505, hend505, _, _, rfl, ?_, ⟨_, rfl⟩, hW505, hsm505.mono (by decide) (by decide)⟩
  · show Q_emp12 Z _ h0 _ s₁.heap _
    rw [e0]
    exact ⟨rfl, N0, rfl⟩
theorem dj45_2_0 : decode jdk_45_method_2_code 0 = .ok (.aload_n 0, 1) := by decide +kernel
theorem dj45_2_1 : decode jdk_45_method_2_code 1 = .ok (.getfield 7, 3) := by decide +kernel
theorem dj45_2_4 : decode jdk_45_method_2_code 4 = .ok (.arraylength, 1) := by decide +kernel
theorem dj45_2_5 : decode jdk_45_method_2_code 5 = .ok (.ifCond .ne 7, 3) := by decide +kernel
theorem dj45_2_8 : decode jdk_45_method_2_code 8 = .ok (.iconst 1, 1) := by decide +kernel
theorem dj45_2_9 : decode jdk_45_method_2_code 9 = .ok (.goto 4, 3) := by decide +kernel
theorem dj45_2_13 : decode jdk_45_method_2_code 13 = .ok (.ireturn, 1) := by decide +kernel
theorem dj45_2_12 : decode jdk_45_method_2_code 12 = .ok (.iconst 0, 1) := by decide +kernel
def Q_empN (Z : State) (a1 : Nat) (e1 : Nat) (n1 : Nat) (k : ClassId) (vs : List Value) (d : Value) (h0 : Heap) (v : Option Value) (h : Heap) (L : List Loc) : Prop := v = some (.int (if n1 = 0 then (1 : Int32) else 0)) ∧ Fr Z.heap.size L ∧ h = h0
set_option maxRecDepth 65536 in
set_option maxHeartbeats 40000000 in
theorem rm_empN (l : Launch) (Z : State) (a0 : Array Value) (hw : ∀ d ∈ tables_1, d.before a0 Z = true) (ws : List Jvm.Cond) (a1 : Nat) (e1 : Nat) (n1 : Nat) (k : ClassId) (vs : List Value) (d : Value) (h0 : Heap) (OL : Old Z Z.heap.size h0) (p0_ : Fld Z h0 a1 "java/util/ImmutableCollections$ListN" "elements" "[Ljava/lang/Object;" (.ref e1)) (p1_ : Arv Z h0 e1 k (.object "java/lang/Object") (Int32.ofNat n1) vs d) (hn3 : n1 ≤ 3) :
    MetFree l mN30 (head1 (Jvm.Cond.code mN30 jdk_45_method_2_code 1 (some .boolean) :: ws) rM0) (fun a U => a = #[(.ref a1)] ∧ Z.Warmed39 U.vm ∧ U.heap = h0) (fun _ _ _ _ _ => True) (fun _ U o U' => ∃ v L, o = .returned v ∧ Q_empN Z a1 e1 n1 k vs d h0 v U'.heap L ∧ FrameEnd U o U' L rM0.cells rM0.slots) := by
  refine MetFree.of_bodySF (plainFor_of_name pn_243) hisR ?_
  intro p e s m args below meth c s₁ Bd hml0 hP hK
  obtain ⟨rfl, hZ, hh⟩ := hP
  have hx := Bd.exec
  have hby := Bd.bytes
  have hml : c.maxLocals = 1 := hml0
  have hown : s.vm.findClass "java/util/ImmutableCollections$ListN" = some m.cls := findClass_of_methodNamed Bd.named
  have hnm := (name_of_methodNamed Bd.named Bd.method).1
  have X0 : Stand p l e rM0 s m #[(.ref a1)] below meth c s₁ [] 0 0 := Stand.of_body Bd
  have e0 : s₁.heap = h0 := by rw [← hh, Bd.state]; rfl
  have N0 := Fr.nil Z.heap.size
  have Z0 : Z.heap.size ≤ h0.size := OL.2.1
  have lt_0 : @LT.lt Nat _ a1 h0.size := p0_.lt
  have lt_1 : @LT.lt Nat _ e1 h0.size := p1_.lt
  show own_Go p.tables e below (fun o tE => ∃ v L, o = .returned v ∧ Q_empN Z a1 e1 n1 k vs d h0 v tE.heap L ∧ FrameEnd s o tE L rM0.cells rM0.slots) (s₁.setTop (entryFrame m #[(.ref a1)] 1))
  refine own_hd (fun PP hPP => ?_)
  refine own_Go.st (fun t k => castTop (ef_67 m a1) k) ?_
  refine own_Go.st (fun _ k => XS.aloadN X0.here hx rfl (hb hby dj45_2_0) rfl rfl k) ?_
  show own_Go _ _ _ _ (s₁.setTop (mkF m 1 #[.val (.ref a1)] [(.ref a1)]))
  obtain ⟨T506, X506, e506, st506⟩ := getF X0 hx hZ hown (host := "") (Or.inl (own_w hw 202 rfl)) Via.refl e0 p0_ (g := (mkF m 1 #[.val (.ref a1)] [(.ref a1)])) rfl rfl (hb hby dj45_2_1)
  refine own_Go.st st506 ?_
  show own_Go _ _ _ _ (T506.setTop (mkF m 4 #[.val (.ref a1)] [(.ref e1)]))
  obtain ⟨c507, Ar507, q507, S507, Nn507, H507, G507⟩ := id p1_
  refine own_Go.st (X506.arraylength hx (own_rwE e506 Ar507.1) (State.isArrayOf_alike hZ.alike Ar507.2.1) (g := (mkF m 4 #[.val (.ref a1)] [(.ref e1)])) rfl rfl (hb hby dj45_2_4)) ?_
  rw [len_of S507 Nn507]
  show own_Go _ _ _ _ (T506.setTop (mkF m 5 #[.val (.ref a1)] [(.int (Int32.ofNat n1))]))
  by_cases h5 : (Int32.ofNat n1) = (0 : Int32)
  ·
    refine own_Go.st (fun _ k => XS.ifNo X506.here hx rfl (hb hby dj45_2_5) rfl ((if0 _ _).trans (teq h5).2) k) ?_
    have hq : n1 = 0 := (own_ofE (j := 0) (by omega) (by omega)).mp h5
    refine own_Go.st (fun _ k => XS.iconst X506.here hx rfl (hb hby dj45_2_8) (XS.goto X506.here hx rfl (pc0 := 9) (pc' := 13) rfl (hb hby dj45_2_9) (by decide) (by decide) k)) ?_
    show own_Go _ _ _ _ (T506.setTop (mkF m 13 #[.val (.ref a1)] [(.int (1 : Int32))]))
    obtain ⟨fs508, hr508, hrun508, hend508, hW508, hsm508⟩ := X506.leave (v := some (.int (nar .boolean (1 : Int32)))) (fun h => by rw [Bd.returns] at h; cases h)
    subst hPP
    refine ⟨_, _, retN X506 hx (t := .boolean) Bd.returns (by simp) (hb hby dj45_2_13) hr508, hrun508, hend508, _, _, rfl, ?_, ⟨_, rfl⟩, hW508, hsm508.mono (by decide) (by decide)⟩
    · show Q_empN Z _ _ _ _ _ _ h0 _ T506.heap _
      rw [e506]
      exact ⟨(by rw [if_pos hq]; rfl), N0, rfl⟩
  ·
    refine own_Go.st (fun _ k => XS.ifYes X506.here hx rfl (pc0 := 5) (pc' := 12) rfl (hb hby dj45_2_5) rfl ((if0 _ _).trans (feq h5).2) (by decide) (by decide) k) ?_
    have hq : ¬ n1 = 0 := fun q => h5 (by rw [q]; rfl)
    refine own_Go.st (fun _ k => XS.iconst X506.here hx rfl (hb hby dj45_2_12) k) ?_
    show own_Go _ _ _ _ (T506.setTop (mkF m 13 #[.val (.ref a1)] [(.int (0 : Int32))]))
    obtain ⟨fs509, hr509, hrun509, hend509, hW509, hsm509⟩ := X506.leave (v := some (.int (nar .boolean (0 : Int32)))) (fun h => by rw [Bd.returns] at h; cases h)
    subst hPP
    refine ⟨_, _, retN X506 hx (t := .boolean) Bd.returns (by simp) (hb hby dj45_2_13) hr509, hrun509, hend509, _, _, rfl, ?_, ⟨_, rfl⟩, hW509, hsm509.mono (by decide) (by decide)⟩
    · show Q_empN Z _ _ _ _ _ _ h0 _ T506.heap _
      rw [e506]
      exact ⟨(by rw [if_neg hq]; rfl), N0, rfl⟩

theorem own_if1 {P : Prop} [Decidable P] (h : ¬ (if P then (1 : Int32) else 0) = (0 : Int32)) : P := Classical.byContradiction fun q => h (if_neg q)
theorem own_if0 {P : Prop} [Decidable P] (h : (if P then (1 : Int32) else 0) = (0 : Int32)) (q : P) : False := by rw [if_pos q] at h; exact absurd h (by decide)

theorem dp5_3_0 : decode prog_5_method_3_code 0 = .ok (.aload_n 0, 1) := by decide +kernel
theorem dp5_3_1 : decode prog_5_method_3_code 1 = .ok (.getfield 13, 3) := by decide +kernel
theorem dp5_3_4 : decode prog_5_method_3_code 4 = .ok (.invokeinterface 29 1, 5) := by decide +kernel
theorem dp5_3_9 : decode prog_5_method_3_code 9 = .ok (.ifCond .eq 19, 3) := by decide +kernel
theorem dp5_3_28 : decode prog_5_method_3_code 28 = .ok (.iconst 0, 1) := by decide +kernel
theorem dp5_3_29 : decode prog_5_method_3_code 29 = .ok (.ireturn, 1) := by decide +kernel
theorem dp5_3_12 : decode prog_5_method_3_code 12 = .ok (.aload_n 0, 1) := by decide +kernel
theorem dp5_3_13 : decode prog_5_method_3_code 13 = .ok (.getfield 19, 3) := by decide +kernel
theorem dp5_3_16 : decode prog_5_method_3_code 16 = .ok (.invokeinterface 29 1, 5) := by decide +kernel
theorem dp5_3_21 : decode prog_5_method_3_code 21 = .ok (.ifCond .eq 7, 3) := by decide +kernel
theorem dp5_3_24 : decode prog_5_method_3_code 24 = .ok (.iconst 1, 1) := by decide +kernel
theorem dp5_3_25 : decode prog_5_method_3_code 25 = .ok (.goto 4, 3) := by decide +kernel
def Q_matches (Z : State) (a1 : Nat) (x1 : Nat) (x2 : Nat) (n1 : Nat) (n2 : Nat) (h0 : Heap) (v : Option Value) (h : Heap) (L : List Loc) : Prop := v = some (.int (if n1 = 0 ∧ n2 = 0 then (1 : Int32) else 0)) ∧ Fr Z.heap.size L ∧ h = h0
set_option maxRecDepth 65536 in
set_option maxHeartbeats 40000000 in
theorem rm_matches (l : Launch) (Z : State) (a0 : Array Value) (hw : ∀ d ∈ tables_1, d.before a0 Z = true) (ws : List Jvm.Cond) (a1 : Nat) (x1 : Nat) (x2 : Nat) (n1 : Nat) (n2 : Nat) (h0 : Heap) (OL : Old Z Z.heap.size h0) (p0_ : Exa Z h0 a1 "com/example/hinagata/hinagata/DigestComparison") (p1_ : Fld Z h0 a1 "com/example/hinagata/hinagata/DigestComparison" "missingLocal" "Ljava/util/List;" (.ref x1)) (p2_ : Fld Z h0 a1 "com/example/hinagata/hinagata/DigestComparison" "missingRemote" "Ljava/util/List;" (.ref x2)) (p3_ : own_Li Z h0 x1 n1) (p4_ : own_Li Z h0 x2 n2) (hn1 : n1 ≤ 3) (hn2 : n2 ≤ 3) :
    MetFree l mN1 (head1 (Jvm.Cond.code mN1 prog_5_method_3_code 1 (some .boolean) :: ws) rM3) (fun a U => a = #[(.ref a1)] ∧ Z.Warmed39 U.vm ∧ U.heap = h0) (fun _ _ _ _ _ => True) (fun _ U o U' => ∃ v L, o = .returned v ∧ Q_matches Z a1 x1 x2 n1 n2 h0 v U'.heap L ∧ FrameEnd U o U' L rM3.cells rM3.slots) := by
  refine MetFree.of_bodySF (plainFor_of_name pn_337) hisR ?_
  intro p e s m args below meth c s₁ Bd hml0 hP hK
  obtain ⟨rfl, hZ, hh⟩ := hP
  have hx := Bd.exec
  have hby := Bd.bytes
  have hml : c.maxLocals = 1 := hml0
  have hown : s.vm.findClass "com/example/hinagata/hinagata/DigestComparison" = some m.cls := findClass_of_methodNamed Bd.named
  have hnm := (name_of_methodNamed Bd.named Bd.method).1
  have X0 : Stand p l e rM3 s m #[(.ref a1)] below meth c s₁ [] 0 0 := Stand.of_body Bd
  have e0 : s₁.heap = h0 := by rw [← hh, Bd.state]; rfl
  have N0 := Fr.nil Z.heap.size
  have Z0 : Z.heap.size ≤ h0.size := OL.2.1
  have lt_0 : @LT.lt Nat _ a1 h0.size := p0_.lt
  have lt_1 : @LT.lt Nat _ a1 h0.size := p1_.lt
  have lt_2 : @LT.lt Nat _ a1 h0.size := p2_.lt
  show own_Go p.tables e below (fun o tE => ∃ v L, o = .returned v ∧ Q_matches Z a1 x1 x2 n1 n2 h0 v tE.heap L ∧ FrameEnd s o tE L rM3.cells rM3.slots) (s₁.setTop (entryFrame m #[(.ref a1)] 1))
  refine own_hd (fun PP hPP => ?_)
  refine own_Go.st (fun t k => castTop (ef_67 m a1) k) ?_
  refine own_Go.st (fun _ k => XS.aloadN X0.here hx rfl (hb hby dp5_3_0) rfl rfl k) ?_
  show own_Go _ _ _ _ (s₁.setTop (mkF m 1 #[.val (.ref a1)] [(.ref a1)]))
  obtain ⟨T510, X510, e510, st510⟩ := getF X0 hx hZ hown (host := "") (Or.inl (own_w hw 206 rfl)) Via.refl e0 p1_ (g := (mkF m 1 #[.val (.ref a1)] [(.ref a1)])) rfl rfl (hb hby dp5_3_1)
  refine own_Go.st st510 ?_
  show own_Go _ _ _ _ (T510.setTop (mkF m 4 #[.val (.ref a1)] [(.ref x1)]))
  rcases p3_ with ⟨y11, y21⟩ | ⟨el1, kl1, vl1, dl1, y11, y21, y31⟩
  ·
    obtain ⟨cq511, kq511, q511a, q511b, q511c⟩ := isOf hZ e510 y11
    obtain ⟨_, _, ⟨T511, L511, k511, n511⟩, -, X511, ⟨Lc511, hQ511, l511, y511, z511⟩, st511⟩ := X510.interfaceBack hx (xi := mN32) (y := mN28) hown (own_v hZ hw 215 rfl) (own_v hZ hw 216 rfl) (own_v hZ hw 217 rfl) (own_v hZ hw 240 rfl) (own_v hZ hw 241 rfl) (own_v hZ hw 242 rfl) (own_v hZ hw 243 rfl) (own_v hZ hw 244 rfl) (by decide) (backOf (W := 0) (rm_emp12 l Z a0 hw [] x1 h0 OL ) hZ (own_w hw 245 rfl) (own_w hw 226 rfl) (by decide) (by decide)) q511a q511b q511c (g := (mkF m 4 #[.val (.ref a1)] [(.ref x1)])) rfl (by rw [hml]; rfl) (Steps.refl _) (argsL := []) (rest := []) (lenOf pd_319 rfl) rfl (by show 2 * 0 + _ ≤ _; exact Nat.le_of_eq rfl) (hb hby dp5_3_4) (fun _ _ => ⟨rfl, e510, (by decide : 0 + 0 ≤ _), (by decide : 0 + 0 ≤ _)⟩)
    dsimp only [Pt.U, Pt.locs, Pt.cells, Pt.slots] at X511 l511 y511 z511 st511 hQ511
    subst l511 y511 z511
    obtain ⟨rfl, N511q, K511⟩ := hQ511
    have N511 := Fr.app N0 N511q
    refine own_Go.tr st511 ?_
    show own_Go _ _ _ _ (T511.setTop (mkF m 9 #[.val (.ref a1)] [(.int (0 : Int32))]))
    refine own_Go.st (fun _ k => XS.ifYes X511.here hx rfl (pc0 := 9) (pc' := 28) rfl (hb hby dp5_3_9) rfl ((if0 _ _).trans (teq (rfl : (0 : Int32) = (0 : Int32))).1) (by decide) (by decide) k) ?_
    refine own_Go.st (fun _ k => XS.iconst X511.here hx rfl (hb hby dp5_3_28) k) ?_
    show own_Go _ _ _ _ (T511.setTop (mkF m 29 #[.val (.ref a1)] [(.int (0 : Int32))]))
    obtain ⟨fs512, hr512, hrun512, hend512, hW512, hsm512⟩ := X511.leave (v := some (.int (nar .boolean (0 : Int32)))) (fun h => by rw [Bd.returns] at h; cases h)
    subst hPP
    refine ⟨_, _, retN X511 hx (t := .boolean) Bd.returns (by simp) (hb hby dp5_3_29) hr512, hrun512, hend512, _, _, rfl, ?_, ⟨_, rfl⟩, hW512, hsm512.mono (by decide) (by decide)⟩
    · show Q_matches Z _ _ _ _ _ h0 _ T511.heap _
      rw [K511]
      exact ⟨(by rw [if_neg (fun q => absurd q.1 (by omega))]; rfl), N511, rfl⟩
  ·
    obtain ⟨cq513, kq513, q513a, q513b, q513c⟩ := isOf hZ e510 y11
    obtain ⟨_, _, ⟨T513, L513, k513, n513⟩, -, X513, ⟨Lc513, hQ513, l513, y513, z513⟩, st513⟩ := X510.interfaceBack hx (xi := mN32) (y := mN30) hown (own_v hZ hw 215 rfl) (own_v hZ hw 216 rfl) (own_v hZ hw 217 rfl) (own_v hZ hw 218 rfl) (own_v hZ hw 219 rfl) (own_v hZ hw 220 rfl) (own_v hZ hw 221 rfl) (own_v hZ hw 222 rfl) (by decide) (backOf (W := 0) (rm_empN l Z a0 hw [] x1 el1 n1 kl1 vl1 dl1 h0 OL y21 y31 hn1) hZ (own_w hw 223 rfl) (own_w hw 183 rfl) (by decide) (by decide)) q513a q513b q513c (g := (mkF m 4 #[.val (.ref a1)] [(.ref x1)])) rfl (by rw [hml]; rfl) (Steps.refl _) (argsL := []) (rest := []) (lenOf pd_319 rfl) rfl (by show 2 * 0 + _ ≤ _; exact Nat.le_of_eq rfl) (hb hby dp5_3_4) (fun _ _ => ⟨rfl, e510, (by decide : 0 + 0 ≤ _), (by decide : 0 + 0 ≤ _)⟩)
    dsimp only [Pt.U, Pt.locs, Pt.cells, Pt.slots] at X513 l513 y513 z513 st513 hQ513
    subst l513 y513 z513
    obtain ⟨rfl, N513q, K513⟩ := hQ513
    have N513 := Fr.app N0 N513q
    refine own_Go.tr st513 ?_
    show own_Go _ _ _ _ (T513.setTop (mkF m 9 #[.val (.ref a1)] [(.int (if n1 = 0 then (1 : Int32) else 0))]))
    by_cases hc514 : (if n1 = 0 then (1 : Int32) else 0) = (0 : Int32)
    ·
      refine own_Go.st (fun _ k => XS.ifYes X513.here hx rfl (pc0 := 9) (pc' := 28) rfl (hb hby dp5_3_9) rfl ((if0 _ _).trans (teq hc514).1) (by decide) (by decide) k) ?_
      refine own_Go.st (fun _ k => XS.iconst X513.here hx rfl (hb hby dp5_3_28) k) ?_
      show own_Go _ _ _ _ (T513.setTop (mkF m 29 #[.val (.ref a1)] [(.int (0 : Int32))]))
      obtain ⟨fs515, hr515, hrun515, hend515, hW515, hsm515⟩ := X513.leave (v := some (.int (nar .boolean (0 : Int32)))) (fun h => by rw [Bd.returns] at h; cases h)
      subst hPP
      refine ⟨_, _, retN X513 hx (t := .boolean) Bd.returns (by simp) (hb hby dp5_3_29) hr515, hrun515, hend515, _, _, rfl, ?_, ⟨_, rfl⟩, hW515, hsm515.mono (by decide) (by decide)⟩
      · show Q_matches Z _ _ _ _ _ h0 _ T513.heap _
        rw [K513]
        exact ⟨(by rw [if_neg (fun q => own_if0 hc514 q.1)]; rfl), N513, rfl⟩
    ·
      refine own_Go.st (fun _ k => XS.ifNo X513.here hx rfl (hb hby dp5_3_9) rfl ((if0 _ _).trans (feq hc514).1) k) ?_
      refine own_Go.st (fun _ k => XS.aloadN X513.here hx rfl (hb hby dp5_3_12) rfl rfl k) ?_
      show own_Go _ _ _ _ (T513.setTop (mkF m 13 #[.val (.ref a1)] [(.ref a1)]))
      obtain ⟨T516, X516, e516, st516⟩ := getF X513 hx hZ hown (host := "") (Or.inl (own_w hw 208 rfl)) Via.refl K513 p2_ (g := (mkF m 13 #[.val (.ref a1)] [(.ref a1)])) rfl rfl (hb hby dp5_3_13)
      refine own_Go.st st516 ?_
      show own_Go _ _ _ _ (T516.setTop (mkF m 16 #[.val (.ref a1)] [(.ref x2)]))
      rcases p4_ with ⟨y12, y22⟩ | ⟨el2, kl2, vl2, dl2, y12, y22, y32⟩
      ·
        obtain ⟨cq517, kq517, q517a, q517b, q517c⟩ := isOf hZ e516 y12
        obtain ⟨_, _, ⟨T517, L517, k517, n517⟩, -, X517, ⟨Lc517, hQ517, l517, y517, z517⟩, st517⟩ := X516.interfaceBack hx (xi := mN32) (y := mN28) hown (own_v hZ hw 215 rfl) (own_v hZ hw 216 rfl) (own_v hZ hw 217 rfl) (own_v hZ hw 240 rfl) (own_v hZ hw 241 rfl) (own_v hZ hw 242 rfl) (own_v hZ hw 243 rfl) (own_v hZ hw 244 rfl) (by decide) (backOf (W := 0) (rm_emp12 l Z a0 hw [] x2 h0 OL ) hZ (own_w hw 245 rfl) (own_w hw 226 rfl) (by decide) (by decide)) q517a q517b q517c (g := (mkF m 16 #[.val (.ref a1)] [(.ref x2)])) rfl (by rw [hml]; rfl) (Steps.refl _) (argsL := []) (rest := []) (lenOf pd_319 rfl) rfl (by show 2 * 0 + _ ≤ _; exact Nat.le_of_eq rfl) (hb hby dp5_3_16) (fun _ _ => ⟨rfl, e516, (by decide : 0 + 0 ≤ _), (by decide : 0 + 0 ≤ _)⟩)
        dsimp only [Pt.U, Pt.locs, Pt.cells, Pt.slots] at X517 l517 y517 z517 st517 hQ517
        subst l517 y517 z517
        obtain ⟨rfl, N517q, K517⟩ := hQ517
        have N517 := Fr.app N513 N517q
        refine own_Go.tr st517 ?_
        show own_Go _ _ _ _ (T517.setTop (mkF m 21 #[.val (.ref a1)] [(.int (0 : Int32))]))
        refine own_Go.st (fun _ k => XS.ifYes X517.here hx rfl (pc0 := 21) (pc' := 28) rfl (hb hby dp5_3_21) rfl ((if0 _ _).trans (teq (rfl : (0 : Int32) = (0 : Int32))).1) (by decide) (by decide) k) ?_
        refine own_Go.st (fun _ k => XS.iconst X517.here hx rfl (hb hby dp5_3_28) k) ?_
        show own_Go _ _ _ _ (T517.setTop (mkF m 29 #[.val (.ref a1)] [(.int (0 : Int32))]))
        obtain ⟨fs518, hr518, hrun518, hend518, hW518, hsm518⟩ := X517.leave (v := some (.int (nar .boolean (0 : Int32)))) (fun h => by rw [Bd.returns] at h; cases h)
        subst hPP
        refine ⟨_, _, retN X517 hx (t := .boolean) Bd.returns (by simp) (hb hby dp5_3_29) hr518, hrun518, hend518, _, _, rfl, ?_, ⟨_, rfl⟩, hW518, hsm518.mono (by decide) (by decide)⟩
        · show Q_matches Z _ _ _ _ _ h0 _ T517.heap _
          rw [K517]
          exact ⟨(by rw [if_neg (fun q => absurd q.2 (by omega))]; rfl), N517, rfl⟩
      ·
        obtain ⟨cq519, kq519, q519a, q519b, q519c⟩ := isOf hZ e516 y12
        obtain ⟨_, _, ⟨T519, L519, k519, n519⟩, -, X519, ⟨Lc519, hQ519, l519, y519, z519⟩, st519⟩ := X516.interfaceBack hx (xi := mN32) (y := mN30) hown (own_v hZ hw 215 rfl) (own_v hZ hw 216 rfl) (own_v hZ hw 217 rfl) (own_v hZ hw 218 rfl) (own_v hZ hw 219 rfl) (own_v hZ hw 220 rfl) (own_v hZ hw 221 rfl) (own_v hZ hw 222 rfl) (by decide) (backOf (W := 0) (rm_empN l Z a0 hw [] x2 el2 n2 kl2 vl2 dl2 h0 OL y22 y32 hn2) hZ (own_w hw 223 rfl) (own_w hw 183 rfl) (by decide) (by decide)) q519a q519b q519c (g := (mkF m 16 #[.val (.ref a1)] [(.ref x2)])) rfl (by rw [hml]; rfl) (Steps.refl _) (argsL := []) (rest := []) (lenOf pd_319 rfl) rfl (by show 2 * 0 + _ ≤ _; exact Nat.le_of_eq rfl) (hb hby dp5_3_16) (fun _ _ => ⟨rfl, e516, (by decide : 0 + 0 ≤ _), (by decide : 0 + 0 ≤ _)⟩)
        dsimp only [Pt.U, Pt.locs, Pt.cells, Pt.slots] at X519 l519 y519 z519 st519 hQ519
        subst l519 y519 z519
        obtain ⟨rfl, N519q, K519⟩ := hQ519
        have N519 := Fr.app N513 N519q
        refine own_Go.tr st519 ?_
        show own_Go _ _ _ _ (T519.setTop (mkF m 21 #[.val (.ref a1)] [(.int (if n2 = 0 then (1 : Int32) else 0))]))
        by_cases hc520 : (if n2 = 0 then (1 : Int32) else 0) = (0 : Int32)
        ·
          refine own_Go.st (fun _ k => XS.ifYes X519.here hx rfl (pc0 := 21) (pc' := 28) rfl (hb hby dp5_3_21) rfl ((if0 _ _).trans (teq hc520).1) (by decide) (by decide) k) ?_
          refine own_Go.st (fun _ k => XS.iconst X519.here hx rfl (hb hby dp5_3_28) k) ?_
          show own_Go _ _ _ _ (T519.setTop (mkF m 29 #[.val (.ref a1)] [(.int (0 : Int32))]))
          obtain ⟨fs521, hr521, hrun521, hend521, hW521, hsm521⟩ := X519.leave (v := some (.int (nar .boolean (0 : Int32)))) (fun h => by rw [Bd.returns] at h; cases h)
          subst hPP
          refine ⟨_, _, retN X519 hx (t := .boolean) Bd.returns (by simp) (hb hby dp5_3_29) hr521, hrun521, hend521, _, _, rfl, ?_, ⟨_, rfl⟩, hW521, hsm521.mono (by decide) (by decide)⟩
          · show Q_matches Z _ _ _ _ _ h0 _ T519.heap _
            rw [K519]
            exact ⟨(by rw [if_neg (fun q => own_if0 hc520 q.2)]; rfl), N519, rfl⟩
        ·
          refine own_Go.st (fun _ k => XS.ifNo X519.here hx rfl (hb hby dp5_3_21) rfl ((if0 _ _).trans (feq hc520).1) k) ?_
          refine own_Go.st (fun _ k => XS.iconst X519.here hx rfl (hb hby dp5_3_24) (XS.goto X519.here hx rfl (pc0 := 25) (pc' := 29) rfl (hb hby dp5_3_25) (by decide) (by decide) k)) ?_
          show own_Go _ _ _ _ (T519.setTop (mkF m 29 #[.val (.ref a1)] [(.int (1 : Int32))]))
          obtain ⟨fs522, hr522, hrun522, hend522, hW522, hsm522⟩ := X519.leave (v := some (.int (nar .boolean (1 : Int32)))) (fun h => by rw [Bd.returns] at h; cases h)
          subst hPP
          refine ⟨_, _, retN X519 hx (t := .boolean) Bd.returns (by simp) (hb hby dp5_3_29) hr522, hrun522, hend522, _, _, rfl, ?_, ⟨_, rfl⟩, hW522, hsm522.mono (by decide) (by decide)⟩
          · show Q_matches Z _ _ _ _ _ h0 _ T519.heap _
            rw [K519]
            exact ⟨(by rw [if_pos ⟨own_if1 hc514, own_if1 hc520⟩]; rfl), N519, rfl⟩
theorem pn_375 : plainName "com/example/hinagata/hinagata/DigestComparisonMatchesPinLaw" = true := by first | (simp [plainName, overriddenIn]; done) | decide +kernel
theorem ef_376 (m : MethodId) (x0 : Int32) (x1 : Int32) (x2 : Int32) (x3 : Int32) : entryFrame m #[(.int x0), (.int x1), (.int x2), (.int x3)] maxLocals = mkF m 0 #[.val (.int x0), .val (.int x1), .val (.int x2), .val (.int x3), .unset, .unset, .unset, .unset, .unset, .unset, .unset, .unset, .unset, .unset] [] := by first | (simp [entryFrame, mkF, argsToLocals, Value.category, maxLocals]; done) | rfl
theorem pd_377 : parseMethodDescriptor "([C)V" = some ⟨[(.array .char)], none⟩ := by decide +kernel
theorem pd_378 : parseMethodDescriptor "(C)Ljava/lang/String;" = some ⟨[.char], some (.object "java/lang/String")⟩ := by decide +kernel
theorem pd_379 : parseMethodDescriptor "(Ljava/util/List;Ljava/util/List;)V" = some ⟨[(.object "java/util/List"), (.object "java/util/List")], none⟩ := by decide +kernel
theorem pd_380 : parseMethodDescriptor "(Ljava/lang/Object;)Z" = some ⟨[(.object "java/lang/Object")], some .boolean⟩ := by decide +kernel
def Q_law (Z : State) (p1 : Int32) (p2 : Int32) (p3 : Int32) (p4 : Int32) (mr : Nat) (em : Nat) (el : Nat) (ad : Nat) (ka : ClassId) (zc : Int32) (h0 : Heap) (v : Option Value) (h : Heap) (L : List Loc) : Prop := v = some (.int (1 : Int32)) ∧ Fr Z.heap.size L ∧ Keep h0 h []
set_option maxRecDepth 65536 in
set_option maxHeartbeats 40000000 in
theorem rm_law (l : Launch) (Z : State) (a0 : Array Value) (hw : ∀ d ∈ tables_1, d.before a0 Z = true) (ws : List Jvm.Cond) (p1 : Int32) (p2 : Int32) (p3 : Int32) (p4 : Int32) (mr : Nat) (em : Nat) (el : Nat) (ad : Nat) (ka : ClassId) (zc : Int32) (h0 : Heap) (hEL : EW Z a0 consts_1) (OL : Old Z Z.heap.size h0) (p0_ : Arv Z h0 ad ka (.object "java/lang/Object") (0 : Int32) [] .null) (p1_ : Exa Z h0 ad "[Ljava/lang/Object;") (st_C : Sta Z Z.heap "java/lang/String" "COMPACT_STRINGS" "Z" (.int zc)) (st_DEFAULTCAPACITY_EMPTY_ELEMENTDATA : Sta Z Z.heap "java/util/ArrayList" "DEFAULTCAPACITY_EMPTY_ELEMENTDATA" "[Ljava/lang/Object;" (.ref ad)) (st_EMPTY : Sta Z Z.heap "java/util/ImmutableCollections" "EMPTY" "Ljava/lang/Object;" (.ref em)) (st_EMPTY_LIST : Sta Z Z.heap "java/util/ImmutableCollections" "EMPTY_LIST" "Ljava/util/ImmutableCollections$ListN;" (.ref el)) (hzc : ¬ zc = 0) (hmir : own_Mir Z "[Ljava/lang/Object;" mr) (hel : own_Li Z Z.heap el 0) (had : @LT.lt Nat _ ad Z.heap.size) :
    MetFree l x (head1 (Jvm.Cond.code x code maxLocals ret :: ws) room_1) (fun a U => a = #[(.int p1), (.int p2), (.int p3), (.int p4)] ∧ Z.Warmed39 U.vm ∧ U.heap = h0 ∧ CHv Z consts_1 U.vm h0) (fun _ _ _ _ _ => True) (fun _ U o U' => ∃ v L, o = .returned v ∧ Q_law Z p1 p2 p3 p4 mr em el ad ka zc h0 v U'.heap L ∧ CHr Z consts_1 U.vm U.heap U'.vm U'.heap ∧ ReturnedEndW U o U' L 56 1280) := by
  refine MetFree.of_bodySF (plainFor_of_name pn_375) hisR ?_
  intro p e s m args below meth c s₁ Bd hml0 hP hK
  obtain ⟨rfl, hZ, hh, hC0⟩ := hP
  have hx := Bd.exec
  have hby := Bd.bytes
  have hml : c.maxLocals = 14 := hml0
  have hown : s.vm.findClass "com/example/hinagata/hinagata/DigestComparisonMatchesPinLaw" = some m.cls := findClass_of_methodNamed Bd.named
  have hnm := (name_of_methodNamed Bd.named Bd.method).1
  have X0 : Stand p l e room_1 (s.setVm s.vm) m #[(.int p1), (.int p2), (.int p3), (.int p4)] below meth c s₁ [] 0 0 := Stand.of_body Bd
  have e0 : s₁.heap = h0 := by rw [← hh, Bd.state]; rfl
  have N0 := Fr.nil Z.heap.size
  have Z0 : Z.heap.size ≤ h0.size := OL.2.1
  have hS0 : s.Since s.vm h0.size := (State.WarmedH.refl s).since _
  have wS := own_wS hw
  have R0 : CHr Z consts_1 s.vm h0 s.vm h0 := CHr.refl hC0
  have lt_0 : @LT.lt Nat _ ad h0.size := p0_.lt
  have lt_1 : @LT.lt Nat _ ad h0.size := p1_.lt
  show own_Go p.tables e below (fun o tE => ∃ v L, o = .returned v ∧ Q_law Z p1 p2 p3 p4 mr em el ad ka zc h0 v tE.heap L ∧ CHr Z consts_1 s.vm s.heap tE.vm tE.heap ∧ ReturnedEndW s o tE L 56 1280) (s₁.setTop (entryFrame m #[(.int p1), (.int p2), (.int p3), (.int p4)] maxLocals))
  refine own_hd (fun PP hPP => ?_)
  refine own_Go.st (fun t k => castTop (ef_376 m p1 p2 p3 p4) k) ?_
  refine own_Go.st (fun _ k => XS.iloadN X0.here hx rfl (hb hby at_0) rfl (XS.iconst X0.here hx rfl (hb hby at_1) (XS.iand X0.here hx rfl (hb hby at_2) rfl (XS.istore X0.here hx rfl (hb hby at_3) rfl (l' := #[.val (.int p1), .val (.int p2), .val (.int p3), .val (.int p4), .val (.int (p1 &&& (3 : Int32))), .unset, .unset, .unset, .unset, .unset, .unset, .unset, .unset, .unset]) rfl (XS.iloadN X0.here hx rfl (hb hby at_5) rfl k))))) ?_
  show own_Go _ _ _ _ (s₁.setTop (mkF m 6 #[.val (.int p1), .val (.int p2), .val (.int p3), .val (.int p4), .val (.int (p1 &&& (3 : Int32))), .unset, .unset, .unset, .unset, .unset, .unset, .unset, .unset, .unset] [(.int p2)]))
  refine own_Go.st (fun _ k => XS.iconst X0.here hx rfl (hb hby at_6) (XS.iand X0.here hx rfl (hb hby at_7) rfl (XS.istore X0.here hx rfl (hb hby at_8) rfl (l' := #[.val (.int p1), .val (.int p2), .val (.int p3), .val (.int p4), .val (.int (p1 &&& (3 : Int32))), .val (.int (p2 &&& (3 : Int32))), .unset, .unset, .unset, .unset, .unset, .unset, .unset, .unset]) rfl k))) ?_
  show own_Go _ _ _ _ (s₁.setTop (mkF m 10 #[.val (.int p1), .val (.int p2), .val (.int p3), .val (.int p4), .val (.int (p1 &&& (3 : Int32))), .val (.int (p2 &&& (3 : Int32))), .unset, .unset, .unset, .unset, .unset, .unset, .unset, .unset] []))
  have hnl := own_m3 p1
  change own_03 (p1 &&& (3 : Int32)) at hnl
  generalize (p1 &&& (3 : Int32)) = nl at hnl ⊢
  have hnr := own_m3 p2
  change own_03 (p2 &&& (3 : Int32)) at hnr
  generalize (p2 &&& (3 : Int32)) = nr at hnr ⊢
  show own_Go _ _ _ _ (s₁.setTop (mkF m 10 #[.val (.int p1), .val (.int p2), .val (.int p3), .val (.int p4), .val (.int nl), .val (.int nr), .unset, .unset, .unset, .unset, .unset, .unset, .unset, .unset] []))
  obtain ⟨T523, h523, X523, e523, E523, A523, D523, U523, st523⟩ := newO X0 hx hZ hown (own_w hw 0 rfl) (own_w hw 1 rfl) (own_w hw 2 rfl) e0 (g := (mkF m 10 #[.val (.int p1), .val (.int p2), .val (.int p3), .val (.int p4), .val (.int nl), .val (.int nr), .unset, .unset, .unset, .unset, .unset, .unset, .unset, .unset] [])) rfl (hb hby at_10) (by decide) (by decide)
  obtain ⟨b523, g523⟩ : ∃ z, z = h0.size := ⟨_, rfl⟩
  rw [← g523] at A523 D523 U523 st523
  refine own_Go.st st523 ?_
  have z523 : h0.size ≤ h523.size := E523.1
  have lt_b523 : @LT.lt Nat _ b523 h523.size := A523.lt
  have f524 : Fld Z h523 b523 "java/lang/String" "coder" "B" (.int (0 : Int32)) := D523 (Or.inr (own_w hw 27 rfl)) (ty := .byte) (by decide)
  have f525 : Fld Z h523 b523 "java/lang/String" "value" "[B" .null := D523 (Or.inr (own_w hw 29 rfl)) (ty := (.array .byte)) (by decide)
  have R523 : CHr Z consts_1 s.vm h0 s.vm h523 := R0.trans (CHr.ext E523 R0.1)
  have Sf523 : Safe Z consts_1 s.vm h523 b523 := (Safe.new (Nat.le_of_eq g523.symm)).ext E523 R0.1
  refine own_Go.st (fun _ k => XS.dup X523.here hx rfl (hb hby at_13) rfl rfl (XS.iconst X523.here hx rfl (hb hby at_14) k)) ?_
  show own_Go _ _ _ _ (T523.setTop (mkF m 15 #[.val (.int p1), .val (.int p2), .val (.int p3), .val (.int p4), .val (.int nl), .val (.int nr), .unset, .unset, .unset, .unset, .unset, .unset, .unset, .unset] [(.int (1 : Int32)), (.ref b523), (.ref b523)]))
  obtain ⟨T526, h526, k526, X526, e526, E526, A526, st526⟩ := newP X523 hx hZ (own_w hw 3 rfl) e523 (g := (mkF m 15 #[.val (.int p1), .val (.int p2), .val (.int p3), .val (.int p4), .val (.int nl), .val (.int nr), .unset, .unset, .unset, .unset, .unset, .unset, .unset, .unset] [(.int (1 : Int32)), (.ref b523), (.ref b523)])) rfl (hb hby at_15) rfl (by decide) (cap := 1) (by decide) (by decide) (by decide) (by decide)
  obtain ⟨b526, g526⟩ : ∃ z, z = h523.size := ⟨_, rfl⟩
  rw [← g526] at A526 st526
  refine own_Go.st st526 ?_
  have z526 : h523.size ≤ h526.size := E526.1
  have f527 : Arv Z h526 b526 k526 .char (1 : Int32) [(.int (0 : Int32))] (.int (0 : Int32)) := (Arv.new A526 (by decide)).pad (pad_rep [] (.int (0 : Int32)) 1)
  have lt_b526 : @LT.lt Nat _ b526 h526.size := f527.lt
  have R526 : CHr Z consts_1 s.vm h0 s.vm h526 := R523.trans (CHr.ext E526 R523.1)
  have Sf528 : Safe Z consts_1 s.vm h526 b523 := Safe.ext E526 R523.1 Sf523
  refine own_Go.st (fun _ k => XS.dup X526.here hx rfl (hb hby at_17) rfl rfl (XS.iconst X526.here hx rfl (hb hby at_18) (XS.iloadN X526.here hx rfl (hb hby at_19) rfl (XS.sipush X526.here hx rfl (hb hby at_20) (XS.iand X526.here hx rfl (hb hby at_23) rfl k))))) ?_
  show own_Go _ _ _ _ (T526.setTop (mkF m 24 #[.val (.int p1), .val (.int p2), .val (.int p3), .val (.int p4), .val (.int nl), .val (.int nr), .unset, .unset, .unset, .unset, .unset, .unset, .unset, .unset] [(.int (p3 &&& (255 : Int32))), (.int (0 : Int32)), (.ref b526), (.ref b526), (.ref b523), (.ref b523)]))
  refine own_Go.st (fun _ k => XS.i2c X526.here hx rfl (hb hby at_24) rfl k) ?_
  show own_Go _ _ _ _ (T526.setTop (mkF m 25 #[.val (.int p1), .val (.int p2), .val (.int p3), .val (.int p4), .val (.int nl), .val (.int nr), .unset, .unset, .unset, .unset, .unset, .unset, .unset, .unset] [(.int ((p3 &&& (255 : Int32)).toUInt32.toUInt16.toUInt32.toInt32)), (.int (0 : Int32)), (.ref b526), (.ref b526), (.ref b523), (.ref b523)]))
  obtain ⟨c529, Ar529, q529, S529, Nn529, H529, G529⟩ := id f527
  have hin529 : ¬ ((0 : Int32) < 0 ∨ c529.slots.size ≤ ((0 : Int32)).toNatClampNeg) := inb_of S529 ⟨by decide, by decide⟩
  obtain ⟨T529, h529, X529, e529, W529, st529⟩ := stC X526 hx hZ e526 Ar529 (j := (0 : Int32)) hin529 (g := (mkF m 25 #[.val (.int p1), .val (.int p2), .val (.int p3), .val (.int p4), .val (.int nl), .val (.int nr), .unset, .unset, .unset, .unset, .unset, .unset, .unset, .unset] [(.int ((p3 &&& (255 : Int32)).toUInt32.toUInt16.toUInt32.toInt32)), (.int (0 : Int32)), (.ref b526), (.ref b526), (.ref b523), (.ref b523)])) rfl rfl (hb hby at_25)
  refine own_Go.st st529 ?_
  have N529 := Fr.snoc X529 N0 (by omega)
  have Sf531 : Safe Z consts_1 s.vm h526 b526 := Safe.arv hZ.alike f527 (by decide)
  have z529 : h526.size ≤ h529.size := Nat.le_of_eq W529.size.symm
  have f530 := Arv.set Ar529 q529 S529 Nn529 H529 G529 (fits_nar_char _) W529 0 rfl (Nat.le_of_ble_eq_true rfl)
  rw [own_nar (own_up (own_ch255 p3))] at f530
  have f532 : Arv Z h529 b526 k526 .char (1 : Int32) [(.int ((p3 &&& (255 : Int32)).toUInt32.toUInt16.toUInt32.toInt32))] (.int (0 : Int32)) := f530
  have R529 : CHr Z consts_1 s.vm h0 s.vm h529 := R526.trans (CHr.wr W529 Sf531 R526.1)
  have Sf533 : Safe Z consts_1 s.vm h529 b523 := Safe.wr W529 Sf531 R526.1 Sf528
  show own_Go _ _ _ _ (T529.setTop (mkF m 26 #[.val (.int p1), .val (.int p2), .val (.int p3), .val (.int p4), .val (.int nl), .val (.int nr), .unset, .unset, .unset, .unset, .unset, .unset, .unset, .unset] [(.ref b526), (.ref b523), (.ref b523)]))
  have f535 : Exa Z h526 b523 "java/lang/String" := A523.ext E526
  have f536 : Exa Z h529 b523 "java/lang/String" := f535.wr W529
  have f537 : Fld Z h526 b523 "java/lang/String" "value" "[B" .null := f525.ext E526
  have f538 : Fld Z h529 b523 "java/lang/String" "value" "[B" .null := f537.other W529 (Or.inl (by show @Ne Nat b523 b526; omega))
  have f539 : Fld Z h526 b523 "java/lang/String" "coder" "B" (.int (0 : Int32)) := f524.ext E526
  have f540 : Fld Z h529 b523 "java/lang/String" "coder" "B" (.int (0 : Int32)) := f539.other W529 (Or.inl (by show @Ne Nat b523 b526; omega))
  have f541 : Old Z Z.heap.size h523 := OL.ext E523
  have f542 : Old Z Z.heap.size h526 := f541.ext E526
  have f543 : Old Z Z.heap.size h529 := f542.wr W529 (by omega)
  have hp534 : ∀ c ∈ ([((p3 &&& (255 : Int32)).toUInt32.toUInt16.toUInt32.toInt32)] : List Int32), ¬ c < 0 ∧ ¬ (255 : Int32) < c := (own_aS (own_ch255 p3) own_a0)
  obtain ⟨_, _, ⟨T534, L534, k534, n534⟩, -, X534, ⟨Lc534, hQ534, l534, y534, z534⟩, st534⟩ := X529.specialBack hx (y := mN6) rfl hown (own_v hZ hw 4 rfl) (own_v hZ hw 5 rfl) (own_v hZ hw 6 rfl) (by decide) (StrChars.Road.backV (W := 1) hZ (own_hws hw) (kI := 4) (own_w hw 1 rfl) (cs := ([((p3 &&& (255 : Int32)).toUInt32.toUInt16.toUInt32.toInt32)] : List Int32)) (bs := (([((p3 &&& (255 : Int32)).toUInt32.toUInt16.toUInt32.toInt32)] : List Int32)).map (fun c => c.toInt8.toInt32)) (n := 1) (n0 := Z.heap.size) (by omega) (by omega) f536 f538 f540 f532 (st_C.ext f543.2) hzc rfl rfl (by decide) (by decide) hp534 rfl (by decide) (by decide)) (g := (mkF m 26 #[.val (.int p1), .val (.int p2), .val (.int p3), .val (.int p4), .val (.int nl), .val (.int nr), .unset, .unset, .unset, .unset, .unset, .unset, .unset, .unset] [(.ref b526), (.ref b523), (.ref b523)])) rfl (by rw [hml]; rfl) (Steps.refl _) (a := b523) (argsL := [(.ref b526)]) (rest := [(.ref b523)]) (lenOf pd_377 rfl) rfl (by show 2 * 0 + _ ≤ _; exact Nat.le_of_eq rfl) (hb hby at_26) (fun _ _ => ⟨rfl, e529, (by decide : 2 + 1 ≤ _), (by decide : 5 + 1 ≤ _)⟩)
  dsimp only [Pt.U, Pt.locs, Pt.cells, Pt.slots] at X534 l534 y534 z534 st534 hQ534
  subst l534 y534 z534
  obtain ⟨rfl, N534q, K534, Ex534, Cd534, t534, kb534, u534, v534, w534, Vl534, Ar534⟩ := hQ534
  have N534 := Fr.app N529 N534q
  have z534 : h529.size ≤ T534.heap.size := K534.1
  have R534 : CHr Z consts_1 s.vm h0 s.vm T534.heap := R529.trans (CHr.keep K534 (sfS Sf533 sf0) R529.1)
  have Sf544 : Safe Z consts_1 s.vm T534.heap b523 := Safe.keep K534 (sfS Sf533 sf0) R529.1 Sf533
  have fT534 : own_Str Z T534.heap b523 t534 ([((p3 &&& (255 : Int32)).toUInt32.toUInt16.toUInt32.toInt32)] : List Int32) := ⟨kb534, 0, (1 : Int32), _, Ex534, Vl534, Cd534, Ar534, StrChars.Road.codOf rfl (fun c q => (hp534 c q).2), own_upL hp534, (Nat.le_of_ble_eq_true rfl)⟩
  have lt534 : @LT.lt Nat _ t534 T534.heap.size := fT534.ltv
  refine own_Go.tr st534 ?_
  refine own_Go.st (fun _ k => XS.astore X534.here hx rfl (hb hby at_29) rfl rfl (l' := #[.val (.int p1), .val (.int p2), .val (.int p3), .val (.int p4), .val (.int nl), .val (.int nr), .val (.ref b523), .unset, .unset, .unset, .unset, .unset, .unset, .unset]) rfl k) ?_
  show own_Go _ _ _ _ (T534.setTop (mkF m 31 #[.val (.int p1), .val (.int p2), .val (.int p3), .val (.int p4), .val (.int nl), .val (.int nr), .val (.ref b523), .unset, .unset, .unset, .unset, .unset, .unset, .unset] []))
  obtain ⟨T545, h545, X545, e545, E545, A545, D545, U545, st545⟩ := newO X534 hx hZ hown (own_w hw 0 rfl) (own_w hw 1 rfl) (own_w hw 2 rfl) rfl (g := (mkF m 31 #[.val (.int p1), .val (.int p2), .val (.int p3), .val (.int p4), .val (.int nl), .val (.int nr), .val (.ref b523), .unset, .unset, .unset, .unset, .unset, .unset, .unset] [])) rfl (hb hby at_31) (by decide) (by decide)
  obtain ⟨b545, g545⟩ : ∃ z, z = T534.heap.size := ⟨_, rfl⟩
  rw [← g545] at A545 D545 U545 st545
  refine own_Go.st st545 ?_
  have z545 : T534.heap.size ≤ h545.size := E545.1
  have lt_b545 : @LT.lt Nat _ b545 h545.size := A545.lt
  have f546 : Fld Z h545 b545 "java/lang/String" "coder" "B" (.int (0 : Int32)) := D545 (Or.inr (own_w hw 27 rfl)) (ty := .byte) (by decide)
  have f547 : Fld Z h545 b545 "java/lang/String" "value" "[B" .null := D545 (Or.inr (own_w hw 29 rfl)) (ty := (.array .byte)) (by decide)
  have R545 : CHr Z consts_1 s.vm h0 s.vm h545 := R534.trans (CHr.ext E545 R534.1)
  have Sf545 : Safe Z consts_1 s.vm h545 b545 := (Safe.new (Nat.le_of_eq g545.symm)).ext E545 R534.1
  have Sf548 : Safe Z consts_1 s.vm h545 b523 := Safe.ext E545 R534.1 Sf544
  refine own_Go.st (fun _ k => XS.dup X545.here hx rfl (hb hby at_34) rfl rfl (XS.iconst X545.here hx rfl (hb hby at_35) k)) ?_
  show own_Go _ _ _ _ (T545.setTop (mkF m 36 #[.val (.int p1), .val (.int p2), .val (.int p3), .val (.int p4), .val (.int nl), .val (.int nr), .val (.ref b523), .unset, .unset, .unset, .unset, .unset, .unset, .unset] [(.int (2 : Int32)), (.ref b545), (.ref b545)]))
  obtain ⟨T549, h549, k549, X549, e549, E549, A549, st549⟩ := newP X545 hx hZ (own_w hw 3 rfl) e545 (g := (mkF m 36 #[.val (.int p1), .val (.int p2), .val (.int p3), .val (.int p4), .val (.int nl), .val (.int nr), .val (.ref b523), .unset, .unset, .unset, .unset, .unset, .unset, .unset] [(.int (2 : Int32)), (.ref b545), (.ref b545)])) rfl (hb hby at_36) rfl (by decide) (cap := 2) (by decide) (by decide) (by decide) (by decide)
  obtain ⟨b549, g549⟩ : ∃ z, z = h545.size := ⟨_, rfl⟩
  rw [← g549] at A549 st549
  refine own_Go.st st549 ?_
  have z549 : h545.size ≤ h549.size := E549.1
  have f550 : Arv Z h549 b549 k549 .char (2 : Int32) [(.int (0 : Int32)), (.int (0 : Int32))] (.int (0 : Int32)) := (Arv.new A549 (by decide)).pad (pad_rep [] (.int (0 : Int32)) 2)
  have lt_b549 : @LT.lt Nat _ b549 h549.size := f550.lt
  have R549 : CHr Z consts_1 s.vm h0 s.vm h549 := R545.trans (CHr.ext E549 R545.1)
  have Sf551 : Safe Z consts_1 s.vm h549 b523 := Safe.ext E549 R545.1 Sf548
  have Sf552 : Safe Z consts_1 s.vm h549 b545 := Safe.ext E549 R545.1 Sf545
  refine own_Go.st (fun _ k => XS.dup X549.here hx rfl (hb hby at_38) rfl rfl (XS.iconst X549.here hx rfl (hb hby at_39) (XS.iloadN X549.here hx rfl (hb hby at_40) rfl (XS.bipush X549.here hx rfl (hb hby at_41) (XS.iushr X549.here hx rfl (hb hby at_43) rfl k))))) ?_
  show own_Go _ _ _ _ (T549.setTop (mkF m 44 #[.val (.int p1), .val (.int p2), .val (.int p3), .val (.int p4), .val (.int nl), .val (.int nr), .val (.ref b523), .unset, .unset, .unset, .unset, .unset, .unset, .unset] [(.int ((p3.toUInt32 >>> ((8 : Int32) &&& 31).toUInt32).toInt32)), (.int (0 : Int32)), (.ref b549), (.ref b549), (.ref b545), (.ref b545)]))
  refine own_Go.st (fun _ k => XS.sipush X549.here hx rfl (hb hby at_44) (XS.iand X549.here hx rfl (hb hby at_47) rfl (XS.i2c X549.here hx rfl (hb hby at_48) rfl k))) ?_
  show own_Go _ _ _ _ (T549.setTop (mkF m 49 #[.val (.int p1), .val (.int p2), .val (.int p3), .val (.int p4), .val (.int nl), .val (.int nr), .val (.ref b523), .unset, .unset, .unset, .unset, .unset, .unset, .unset] [(.int ((((p3.toUInt32 >>> ((8 : Int32) &&& 31).toUInt32).toInt32) &&& (255 : Int32)).toUInt32.toUInt16.toUInt32.toInt32)), (.int (0 : Int32)), (.ref b549), (.ref b549), (.ref b545), (.ref b545)]))
  obtain ⟨c553, Ar553, q553, S553, Nn553, H553, G553⟩ := id f550
  have hin553 : ¬ ((0 : Int32) < 0 ∨ c553.slots.size ≤ ((0 : Int32)).toNatClampNeg) := inb_of S553 ⟨by decide, by decide⟩
  obtain ⟨T553, h553, X553, e553, W553, st553⟩ := stC X549 hx hZ e549 Ar553 (j := (0 : Int32)) hin553 (g := (mkF m 49 #[.val (.int p1), .val (.int p2), .val (.int p3), .val (.int p4), .val (.int nl), .val (.int nr), .val (.ref b523), .unset, .unset, .unset, .unset, .unset, .unset, .unset] [(.int ((((p3.toUInt32 >>> ((8 : Int32) &&& 31).toUInt32).toInt32) &&& (255 : Int32)).toUInt32.toUInt16.toUInt32.toInt32)), (.int (0 : Int32)), (.ref b549), (.ref b549), (.ref b545), (.ref b545)])) rfl rfl (hb hby at_49)
  refine own_Go.st st553 ?_
  have N553 := Fr.snoc X553 N534 (by omega)
  have Sf555 : Safe Z consts_1 s.vm h549 b549 := Safe.arv hZ.alike f550 (by decide)
  have z553 : h549.size ≤ h553.size := Nat.le_of_eq W553.size.symm
  have f554 := Arv.set Ar553 q553 S553 Nn553 H553 G553 (fits_nar_char _) W553 0 rfl (Nat.le_of_ble_eq_true rfl)
  rw [own_nar (own_up (own_ch255 ((p3.toUInt32 >>> ((8 : Int32) &&& 31).toUInt32).toInt32)))] at f554
  have f556 : Arv Z h553 b549 k549 .char (2 : Int32) [(.int ((((p3.toUInt32 >>> ((8 : Int32) &&& 31).toUInt32).toInt32) &&& (255 : Int32)).toUInt32.toUInt16.toUInt32.toInt32)), (.int (0 : Int32))] (.int (0 : Int32)) := f554
  have R553 : CHr Z consts_1 s.vm h0 s.vm h553 := R549.trans (CHr.wr W553 Sf555 R549.1)
  have Sf557 : Safe Z consts_1 s.vm h553 b523 := Safe.wr W553 Sf555 R549.1 Sf551
  have Sf558 : Safe Z consts_1 s.vm h553 b545 := Safe.wr W553 Sf555 R549.1 Sf552
  refine own_Go.st (fun _ k => XS.dup X553.here hx rfl (hb hby at_50) rfl rfl (XS.iconst X553.here hx rfl (hb hby at_51) (XS.iloadN X553.here hx rfl (hb hby at_52) rfl (XS.bipush X553.here hx rfl (hb hby at_53) (XS.iushr X553.here hx rfl (hb hby at_55) rfl k))))) ?_
  show own_Go _ _ _ _ (T553.setTop (mkF m 56 #[.val (.int p1), .val (.int p2), .val (.int p3), .val (.int p4), .val (.int nl), .val (.int nr), .val (.ref b523), .unset, .unset, .unset, .unset, .unset, .unset, .unset] [(.int ((p3.toUInt32 >>> ((16 : Int32) &&& 31).toUInt32).toInt32)), (.int (1 : Int32)), (.ref b549), (.ref b549), (.ref b545), (.ref b545)]))
  refine own_Go.st (fun _ k => XS.sipush X553.here hx rfl (hb hby at_56) (XS.iand X553.here hx rfl (hb hby at_59) rfl (XS.i2c X553.here hx rfl (hb hby at_60) rfl k))) ?_
  show own_Go _ _ _ _ (T553.setTop (mkF m 61 #[.val (.int p1), .val (.int p2), .val (.int p3), .val (.int p4), .val (.int nl), .val (.int nr), .val (.ref b523), .unset, .unset, .unset, .unset, .unset, .unset, .unset] [(.int ((((p3.toUInt32 >>> ((16 : Int32) &&& 31).toUInt32).toInt32) &&& (255 : Int32)).toUInt32.toUInt16.toUInt32.toInt32)), (.int (1 : Int32)), (.ref b549), (.ref b549), (.ref b545), (.ref b545)]))
  obtain ⟨c559, Ar559, q559, S559, Nn559, H559, G559⟩ := id f556
  have hin559 : ¬ ((1 : Int32) < 0 ∨ c559.slots.size ≤ ((1 : Int32)).toNatClampNeg) := inb_of S559 ⟨by decide, by decide⟩
  obtain ⟨T559, h559, X559, e559, W559, st559⟩ := stC X553 hx hZ e553 Ar559 (j := (1 : Int32)) hin559 (g := (mkF m 61 #[.val (.int p1), .val (.int p2), .val (.int p3), .val (.int p4), .val (.int nl), .val (.int nr), .val (.ref b523), .unset, .unset, .unset, .unset, .unset, .unset, .unset] [(.int ((((p3.toUInt32 >>> ((16 : Int32) &&& 31).toUInt32).toInt32) &&& (255 : Int32)).toUInt32.toUInt16.toUInt32.toInt32)), (.int (1 : Int32)), (.ref b549), (.ref b549), (.ref b545), (.ref b545)])) rfl rfl (hb hby at_61)
  refine own_Go.st st559 ?_
  have N559 := Fr.snoc X559 N553 (by omega)
  have Sf561 : Safe Z consts_1 s.vm h553 b549 := Safe.arv hZ.alike f556 (by decide)
  have z559 : h553.size ≤ h559.size := Nat.le_of_eq W559.size.symm
  have f560 := Arv.set Ar559 q559 S559 Nn559 H559 G559 (fits_nar_char _) W559 1 rfl (Nat.le_of_ble_eq_true rfl)
  rw [own_nar (own_up (own_ch255 ((p3.toUInt32 >>> ((16 : Int32) &&& 31).toUInt32).toInt32)))] at f560
  have f562 : Arv Z h559 b549 k549 .char (2 : Int32) [(.int ((((p3.toUInt32 >>> ((8 : Int32) &&& 31).toUInt32).toInt32) &&& (255 : Int32)).toUInt32.toUInt16.toUInt32.toInt32)), (.int ((((p3.toUInt32 >>> ((16 : Int32) &&& 31).toUInt32).toInt32) &&& (255 : Int32)).toUInt32.toUInt16.toUInt32.toInt32))] (.int (0 : Int32)) := f560
  have R559 : CHr Z consts_1 s.vm h0 s.vm h559 := R553.trans (CHr.wr W559 Sf561 R553.1)
  have Sf563 : Safe Z consts_1 s.vm h559 b523 := Safe.wr W559 Sf561 R553.1 Sf557
  have Sf564 : Safe Z consts_1 s.vm h559 b545 := Safe.wr W559 Sf561 R553.1 Sf558
  show own_Go _ _ _ _ (T559.setTop (mkF m 62 #[.val (.int p1), .val (.int p2), .val (.int p3), .val (.int p4), .val (.int nl), .val (.int nr), .val (.ref b523), .unset, .unset, .unset, .unset, .unset, .unset, .unset] [(.ref b549), (.ref b545), (.ref b545)]))
  have f566 : Exa Z h549 b545 "java/lang/String" := A545.ext E549
  have f567 : Exa Z h553 b545 "java/lang/String" := f566.wr W553
  have f568 : Exa Z h559 b545 "java/lang/String" := f567.wr W559
  have f569 : Fld Z h549 b545 "java/lang/String" "value" "[B" .null := f547.ext E549
  have f570 : Fld Z h553 b545 "java/lang/String" "value" "[B" .null := f569.other W553 (Or.inl (by show @Ne Nat b545 b549; omega))
  have f571 : Fld Z h559 b545 "java/lang/String" "value" "[B" .null := f570.other W559 (Or.inl (by show @Ne Nat b545 b549; omega))
  have f572 : Fld Z h549 b545 "java/lang/String" "coder" "B" (.int (0 : Int32)) := f546.ext E549
  have f573 : Fld Z h553 b545 "java/lang/String" "coder" "B" (.int (0 : Int32)) := f572.other W553 (Or.inl (by show @Ne Nat b545 b549; omega))
  have f574 : Fld Z h559 b545 "java/lang/String" "coder" "B" (.int (0 : Int32)) := f573.other W559 (Or.inl (by show @Ne Nat b545 b549; omega))
  have f575 : Old Z Z.heap.size T534.heap := f543.keep K534 (allS (by omega) all0)
  have f576 : Old Z Z.heap.size h545 := f575.ext E545
  have f577 : Old Z Z.heap.size h549 := f576.ext E549
  have f578 : Old Z Z.heap.size h553 := f577.wr W553 (by omega)
  have f579 : Old Z Z.heap.size h559 := f578.wr W559 (by omega)
  have hp565 : ∀ c ∈ ([((((p3.toUInt32 >>> ((8 : Int32) &&& 31).toUInt32).toInt32) &&& (255 : Int32)).toUInt32.toUInt16.toUInt32.toInt32), ((((p3.toUInt32 >>> ((16 : Int32) &&& 31).toUInt32).toInt32) &&& (255 : Int32)).toUInt32.toUInt16.toUInt32.toInt32)] : List Int32), ¬ c < 0 ∧ ¬ (255 : Int32) < c := (own_aS (own_ch255 ((p3.toUInt32 >>> ((8 : Int32) &&& 31).toUInt32).toInt32)) (own_aS (own_ch255 ((p3.toUInt32 >>> ((16 : Int32) &&& 31).toUInt32).toInt32)) own_a0))
  obtain ⟨_, _, ⟨T565, L565, k565, n565⟩, -, X565, ⟨Lc565, hQ565, l565, y565, z565⟩, st565⟩ := X559.specialBack hx (y := mN6) rfl hown (own_v hZ hw 4 rfl) (own_v hZ hw 5 rfl) (own_v hZ hw 6 rfl) (by decide) (StrChars.Road.backV (W := 1) hZ (own_hws hw) (kI := 4) (own_w hw 1 rfl) (cs := ([((((p3.toUInt32 >>> ((8 : Int32) &&& 31).toUInt32).toInt32) &&& (255 : Int32)).toUInt32.toUInt16.toUInt32.toInt32), ((((p3.toUInt32 >>> ((16 : Int32) &&& 31).toUInt32).toInt32) &&& (255 : Int32)).toUInt32.toUInt16.toUInt32.toInt32)] : List Int32)) (bs := (([((((p3.toUInt32 >>> ((8 : Int32) &&& 31).toUInt32).toInt32) &&& (255 : Int32)).toUInt32.toUInt16.toUInt32.toInt32), ((((p3.toUInt32 >>> ((16 : Int32) &&& 31).toUInt32).toInt32) &&& (255 : Int32)).toUInt32.toUInt16.toUInt32.toInt32)] : List Int32)).map (fun c => c.toInt8.toInt32)) (n := 2) (n0 := Z.heap.size) (by omega) (by omega) f568 f571 f574 f562 (st_C.ext f579.2) hzc rfl rfl (by decide) (by decide) hp565 rfl (by decide) (by decide)) (g := (mkF m 62 #[.val (.int p1), .val (.int p2), .val (.int p3), .val (.int p4), .val (.int nl), .val (.int nr), .val (.ref b523), .unset, .unset, .unset, .unset, .unset, .unset, .unset] [(.ref b549), (.ref b545), (.ref b545)])) rfl (by rw [hml]; rfl) (Steps.refl _) (a := b545) (argsL := [(.ref b549)]) (rest := [(.ref b545)]) (lenOf pd_377 rfl) rfl (by show 2 * 0 + _ ≤ _; exact Nat.le_of_eq rfl) (hb hby at_62) (fun _ _ => ⟨rfl, e559, (by decide : 5 + 1 ≤ _), (by decide : 12 + 2 ≤ _)⟩)
  dsimp only [Pt.U, Pt.locs, Pt.cells, Pt.slots] at X565 l565 y565 z565 st565 hQ565
  subst l565 y565 z565
  obtain ⟨rfl, N565q, K565, Ex565, Cd565, t565, kb565, u565, v565, w565, Vl565, Ar565⟩ := hQ565
  have N565 := Fr.app N559 N565q
  have z565 : h559.size ≤ T565.heap.size := K565.1
  have R565 : CHr Z consts_1 s.vm h0 s.vm T565.heap := R559.trans (CHr.keep K565 (sfS Sf564 sf0) R559.1)
  have Sf580 : Safe Z consts_1 s.vm T565.heap b523 := Safe.keep K565 (sfS Sf564 sf0) R559.1 Sf563
  have Sf581 : Safe Z consts_1 s.vm T565.heap b545 := Safe.keep K565 (sfS Sf564 sf0) R559.1 Sf564
  have fT565 : own_Str Z T565.heap b545 t565 ([((((p3.toUInt32 >>> ((8 : Int32) &&& 31).toUInt32).toInt32) &&& (255 : Int32)).toUInt32.toUInt16.toUInt32.toInt32), ((((p3.toUInt32 >>> ((16 : Int32) &&& 31).toUInt32).toInt32) &&& (255 : Int32)).toUInt32.toUInt16.toUInt32.toInt32)] : List Int32) := ⟨kb565, 0, (2 : Int32), _, Ex565, Vl565, Cd565, Ar565, StrChars.Road.codOf rfl (fun c q => (hp565 c q).2), own_upL hp565, (Nat.le_of_ble_eq_true rfl)⟩
  have lt565 : @LT.lt Nat _ t565 T565.heap.size := fT565.ltv
  refine own_Go.tr st565 ?_
  refine own_Go.st (fun _ k => XS.astore X565.here hx rfl (hb hby at_65) rfl rfl (l' := #[.val (.int p1), .val (.int p2), .val (.int p3), .val (.int p4), .val (.int nl), .val (.int nr), .val (.ref b523), .val (.ref b545), .unset, .unset, .unset, .unset, .unset, .unset]) rfl (XS.iloadN X565.here hx rfl (hb hby at_67) rfl (XS.sipush X565.here hx rfl (hb hby at_68) (XS.iand X565.here hx rfl (hb hby at_71) rfl (XS.i2c X565.here hx rfl (hb hby at_72) rfl k))))) ?_
  show own_Go _ _ _ _ (T565.setTop (mkF m 73 #[.val (.int p1), .val (.int p2), .val (.int p3), .val (.int p4), .val (.int nl), .val (.int nr), .val (.ref b523), .val (.ref b545), .unset, .unset, .unset, .unset, .unset, .unset] [(.int ((p4 &&& (255 : Int32)).toUInt32.toUInt16.toUInt32.toInt32))]))
  have f583 : Old Z Z.heap.size T565.heap := f579.keep K565 (allS (by omega) all0)
  obtain ⟨_, _, ⟨T582, L582, k582, n582⟩, -, X582, ⟨Lc582, hQ582, l582, y582, z582⟩, st582⟩ := Jvm.LawKit.callS X565 hx (y := mN8) hown (own_v hZ hw 30 rfl) (own_v hZ hw 31 rfl) (own_v hZ hw 2 rfl) (own_v hZ hw 32 rfl) (by decide) (backOf (W := 0) (rm_valueOfC l Z a0 hw [] ((p4 &&& (255 : Int32)).toUInt32.toUInt16.toUInt32.toInt32) zc T565.heap f583 st_C hzc (own_ch255 p4)) hZ (own_w hw 32 rfl) (own_w hw 2 rfl) (by decide) (by decide)) (g := (mkF m 73 #[.val (.int p1), .val (.int p2), .val (.int p3), .val (.int p4), .val (.int nl), .val (.int nr), .val (.ref b523), .val (.ref b545), .unset, .unset, .unset, .unset, .unset, .unset] [(.int ((p4 &&& (255 : Int32)).toUInt32.toUInt16.toUInt32.toInt32))])) rfl (by rw [hml]; rfl) (argsL := [(.int ((p4 &&& (255 : Int32)).toUInt32.toUInt16.toUInt32.toInt32))]) (rest := []) (lenOf pd_378 rfl) rfl (by show 2 * 0 + _ ≤ _; exact Nat.le_of_eq rfl) (hb hby at_73) (fun _ _ => ⟨rfl, rfl, (by decide : 6 + 2 ≤ _), (by decide : 14 + 5 ≤ _)⟩)
  dsimp only [Pt.U, Pt.locs, Pt.cells, Pt.slots] at X582 l582 y582 z582 st582 hQ582
  subst l582 y582 z582
  obtain ⟨x_582, rfl, N582q, K582, f582_0⟩ := hQ582
  have N582 := Fr.app N565 N582q
  have z582 : T565.heap.size ≤ T582.heap.size := K582.1
  have R582 : CHr Z consts_1 s.vm h0 s.vm T582.heap := R565.trans (CHr.keep K582 sf0 R565.1)
  have Sf584 : Safe Z consts_1 s.vm T582.heap b523 := Safe.keep K582 sf0 R565.1 Sf580
  have Sf585 : Safe Z consts_1 s.vm T582.heap b545 := Safe.keep K582 sf0 R565.1 Sf581
  have lt582_0 : @LT.lt Nat _ x_582 T582.heap.size := f582_0.lt
  refine own_Go.st st582 ?_
  refine own_Go.st (fun _ k => XS.astore X582.here hx rfl (hb hby at_76) rfl rfl (l' := #[.val (.int p1), .val (.int p2), .val (.int p3), .val (.int p4), .val (.int nl), .val (.int nr), .val (.ref b523), .val (.ref b545), .val (.ref x_582), .unset, .unset, .unset, .unset, .unset]) rfl k) ?_
  show own_Go _ _ _ _ (T582.setTop (mkF m 78 #[.val (.int p1), .val (.int p2), .val (.int p3), .val (.int p4), .val (.int nl), .val (.int nr), .val (.ref b523), .val (.ref b545), .val (.ref x_582), .unset, .unset, .unset, .unset, .unset] []))
  obtain ⟨T586, h586, X586, e586, E586, A586, D586, U586, st586⟩ := newO X582 hx hZ hown (own_w hw 0 rfl) (own_w hw 1 rfl) (own_w hw 2 rfl) rfl (g := (mkF m 78 #[.val (.int p1), .val (.int p2), .val (.int p3), .val (.int p4), .val (.int nl), .val (.int nr), .val (.ref b523), .val (.ref b545), .val (.ref x_582), .unset, .unset, .unset, .unset, .unset] [])) rfl (hb hby at_78) (by decide) (by decide)
  obtain ⟨b586, g586⟩ : ∃ z, z = T582.heap.size := ⟨_, rfl⟩
  rw [← g586] at A586 D586 U586 st586
  refine own_Go.st st586 ?_
  have z586 : T582.heap.size ≤ h586.size := E586.1
  have lt_b586 : @LT.lt Nat _ b586 h586.size := A586.lt
  have f587 : Fld Z h586 b586 "java/lang/String" "coder" "B" (.int (0 : Int32)) := D586 (Or.inr (own_w hw 27 rfl)) (ty := .byte) (by decide)
  have f588 : Fld Z h586 b586 "java/lang/String" "value" "[B" .null := D586 (Or.inr (own_w hw 29 rfl)) (ty := (.array .byte)) (by decide)
  have R586 : CHr Z consts_1 s.vm h0 s.vm h586 := R582.trans (CHr.ext E586 R582.1)
  have Sf586 : Safe Z consts_1 s.vm h586 b586 := (Safe.new (Nat.le_of_eq g586.symm)).ext E586 R582.1
  have Sf589 : Safe Z consts_1 s.vm h586 b523 := Safe.ext E586 R582.1 Sf584
  have Sf590 : Safe Z consts_1 s.vm h586 b545 := Safe.ext E586 R582.1 Sf585
  refine own_Go.st (fun _ k => XS.dup X586.here hx rfl (hb hby at_81) rfl rfl (XS.iconst X586.here hx rfl (hb hby at_82) k)) ?_
  show own_Go _ _ _ _ (T586.setTop (mkF m 83 #[.val (.int p1), .val (.int p2), .val (.int p3), .val (.int p4), .val (.int nl), .val (.int nr), .val (.ref b523), .val (.ref b545), .val (.ref x_582), .unset, .unset, .unset, .unset, .unset] [(.int (0 : Int32)), (.ref b586), (.ref b586)]))
  obtain ⟨T591, h591, k591, X591, e591, E591, A591, st591⟩ := newP X586 hx hZ (own_w hw 3 rfl) e586 (g := (mkF m 83 #[.val (.int p1), .val (.int p2), .val (.int p3), .val (.int p4), .val (.int nl), .val (.int nr), .val (.ref b523), .val (.ref b545), .val (.ref x_582), .unset, .unset, .unset, .unset, .unset] [(.int (0 : Int32)), (.ref b586), (.ref b586)])) rfl (hb hby at_83) rfl (by decide) (cap := 0) (by decide) (by decide) (by decide) (by decide)
  obtain ⟨b591, g591⟩ : ∃ z, z = h586.size := ⟨_, rfl⟩
  rw [← g591] at A591 st591
  refine own_Go.st st591 ?_
  have z591 : h586.size ≤ h591.size := E591.1
  have f592 : Arv Z h591 b591 k591 .char (0 : Int32) [] (.int (0 : Int32)) := (Arv.new A591 (by decide)).pad (pad_rep [] (.int (0 : Int32)) 0)
  have lt_b591 : @LT.lt Nat _ b591 h591.size := f592.lt
  have R591 : CHr Z consts_1 s.vm h0 s.vm h591 := R586.trans (CHr.ext E591 R586.1)
  have Sf593 : Safe Z consts_1 s.vm h591 b523 := Safe.ext E591 R586.1 Sf589
  have Sf594 : Safe Z consts_1 s.vm h591 b545 := Safe.ext E591 R586.1 Sf590
  have Sf595 : Safe Z consts_1 s.vm h591 b586 := Safe.ext E591 R586.1 Sf586
  show own_Go _ _ _ _ (T591.setTop (mkF m 85 #[.val (.int p1), .val (.int p2), .val (.int p3), .val (.int p4), .val (.int nl), .val (.int nr), .val (.ref b523), .val (.ref b545), .val (.ref x_582), .unset, .unset, .unset, .unset, .unset] [(.ref b591), (.ref b586), (.ref b586)]))
  have f597 : Exa Z h591 b586 "java/lang/String" := A586.ext E591
  have f598 : Fld Z h591 b586 "java/lang/String" "value" "[B" .null := f588.ext E591
  have f599 : Fld Z h591 b586 "java/lang/String" "coder" "B" (.int (0 : Int32)) := f587.ext E591
  have f600 : Old Z Z.heap.size T582.heap := f583.keep K582 all0
  have f601 : Old Z Z.heap.size h586 := f600.ext E586
  have f602 : Old Z Z.heap.size h591 := f601.ext E591
  obtain ⟨_, _, ⟨T596, L596, k596, n596⟩, -, X596, hs596, hg596, ⟨Lc596, hQ596, l596, y596, z596, ch596⟩, st596⟩ := X591.specialBackS hx (y := mN6) rfl hown (own_v hZ hw 4 rfl) (own_v hZ hw 5 rfl) (own_v hZ hw 6 rfl) (by decide) (backOfSH (s := s) (vm0 := s.vm) (W := 1) (rm_init1e l Z a0 hw [] b586 b591 k591 [] (.int (0 : Int32)) h591 hEL f602 f597 f598 f599 f592 (by omega)) hZ (own_w hw 6 rfl) (own_w hw 2 rfl) (by decide) (by decide) hEL R591.1) (g := (mkF m 85 #[.val (.int p1), .val (.int p2), .val (.int p3), .val (.int p4), .val (.int nl), .val (.int nr), .val (.ref b523), .val (.ref b545), .val (.ref x_582), .unset, .unset, .unset, .unset, .unset] [(.ref b591), (.ref b586), (.ref b586)])) rfl (by rw [hml]; rfl) (Steps.refl _) (a := b586) (argsL := [(.ref b591)]) (rest := [(.ref b586)]) (lenOf pd_377 rfl) rfl (by show 2 * 0 + _ ≤ _; exact Nat.le_of_eq rfl) (hb hby at_85) (fun _ _ => ⟨rfl, e591, (by decide : 10 + 4 ≤ _), (by decide : 23 + 8 ≤ _)⟩)
  dsimp only [Pt.U, Pt.locs, Pt.cells, Pt.slots] at X596 l596 y596 z596 st596 hQ596 hs596 hg596 ch596
  subst l596 y596 z596
  obtain ⟨t_596, rfl, N596q, K596, f596_0⟩ := hQ596
  have N596 := Fr.app N582 N596q
  obtain ⟨Y596, hS596, hZ596, hown596⟩ := rebS hS0 (n1 := h591.size) (by omega) X596 hs596 (by have := hg596; first | exact this | (rw [← e591]; exact this)) hZ hown
  have z596 : h591.size ≤ T596.heap.size := K596.1
  have R596 : CHr Z consts_1 s.vm h0 T596.vm T596.heap := R591.trans ch596
  have Sf603 : Safe Z consts_1 T596.vm T596.heap b523 := ch596.safe (by show @LT.lt Nat _ b523 _; omega) Sf593
  have Sf604 : Safe Z consts_1 T596.vm T596.heap b545 := ch596.safe (by show @LT.lt Nat _ b545 _; omega) Sf594
  have Sf605 : Safe Z consts_1 T596.vm T596.heap b586 := ch596.safe (by show @LT.lt Nat _ b586 _; omega) Sf595
  have lt596_0 : @LT.lt Nat _ b586 T596.heap.size := f596_0.lt
  have ltv596_0 : @LT.lt Nat _ t_596 T596.heap.size := f596_0.ltv
  refine own_Go.tr st596 ?_
  refine own_Go.st (fun _ k => XS.astore Y596.here hx rfl (hb hby at_88) rfl rfl (l' := #[.val (.int p1), .val (.int p2), .val (.int p3), .val (.int p4), .val (.int nl), .val (.int nr), .val (.ref b523), .val (.ref b545), .val (.ref x_582), .val (.ref b586), .unset, .unset, .unset, .unset]) rfl k) ?_
  show own_Go _ _ _ _ (T596.setTop (mkF m 90 #[.val (.int p1), .val (.int p2), .val (.int p3), .val (.int p4), .val (.int nl), .val (.int nr), .val (.ref b523), .val (.ref b545), .val (.ref x_582), .val (.ref b586), .unset, .unset, .unset, .unset] []))
  have J606 : ∀ (x3 : Nat), (Exa Z T596.heap x3 "java/lang/String") → own_Go p.tables e below PP (T596.setTop (mkF m 103 #[.val (.int p1), .val (.int p2), .val (.int p3), .val (.int p4), .val (.int nl), .val (.int nr), .val (.ref b523), .val (.ref b545), .val (.ref x3), .val (.ref b586), .unset, .unset, .unset, .unset] [])) := by
    intro x3 hJ606
    have ltx3 : @LT.lt Nat _ x3 T596.heap.size := hJ606.lt
    obtain ⟨T607, h607, X607, e607, E607, A607, D607, U607, st607⟩ := newO Y596 hx hZ596 hown596 (own_w hw 47 rfl) (own_w hw 48 rfl) (own_w hw 49 rfl) rfl (g := (mkF m 103 #[.val (.int p1), .val (.int p2), .val (.int p3), .val (.int p4), .val (.int nl), .val (.int nr), .val (.ref b523), .val (.ref b545), .val (.ref x3), .val (.ref b586), .unset, .unset, .unset, .unset] [])) rfl (hb hby at_103) (by decide) (by decide)
    obtain ⟨b607, g607⟩ : ∃ z, z = T596.heap.size := ⟨_, rfl⟩
    rw [← g607] at A607 D607 U607 st607
    refine own_Go.st st607 ?_
    have z607 : T596.heap.size ≤ h607.size := E607.1
    have lt_b607 : @LT.lt Nat _ b607 h607.size := A607.lt
    have f608 : Fld Z h607 b607 "java/util/AbstractList" "modCount" "I" (.int (0 : Int32)) := D607 (Or.inl (own_w hw 67 rfl)) (ty := .int) (by decide)
    have f609 : Fld Z h607 b607 "java/util/ArrayList" "elementData" "[Ljava/lang/Object;" .null := D607 (Or.inl (own_w hw 70 rfl)) (ty := (.array (.object "java/lang/Object"))) (by decide)
    have f610 : Fld Z h607 b607 "java/util/ArrayList" "size" "I" (.int (0 : Int32)) := D607 (Or.inl (own_w hw 79 rfl)) (ty := .int) (by decide)
    have R607 : CHr Z consts_1 s.vm h0 T596.vm h607 := R596.trans (CHr.ext E607 R596.1)
    have Sf611 : Safe Z consts_1 T596.vm h607 b523 := Safe.ext E607 R596.1 Sf603
    have Sf612 : Safe Z consts_1 T596.vm h607 b545 := Safe.ext E607 R596.1 Sf604
    have Sf613 : Safe Z consts_1 T596.vm h607 b586 := Safe.ext E607 R596.1 Sf605
    refine own_Go.st (fun _ k => XS.dup X607.here hx rfl (hb hby at_106) rfl rfl k) ?_
    show own_Go _ _ _ _ (T607.setTop (mkF m 107 #[.val (.int p1), .val (.int p2), .val (.int p3), .val (.int p4), .val (.int nl), .val (.int nr), .val (.ref b523), .val (.ref b545), .val (.ref x3), .val (.ref b586), .unset, .unset, .unset, .unset] [(.ref b607), (.ref b607)]))
    have f615 : Old Z Z.heap.size T596.heap := f602.keep K596 (allS (by omega) all0)
    have f616 : Old Z Z.heap.size h607 := f615.ext E607
    obtain ⟨_, _, ⟨T614, L614, k614, n614⟩, -, X614, ⟨Lc614, hQ614, l614, y614, z614⟩, st614⟩ := X607.specialBack hx (y := mN13) rfl hown596 (own_v hZ596 hw 50 rfl) (own_v hZ596 hw 51 rfl) (own_v hZ596 hw 52 rfl) (by decide) (backOf (W := 1) (rm_alinit l Z a0 hw [] b607 ad h607 f616 A607 f608 f610 f609 st_DEFAULTCAPACITY_EMPTY_ELEMENTDATA (by omega)) hZ596 (own_w hw 52 rfl) (own_w hw 49 rfl) (by decide) (by decide)) (g := (mkF m 107 #[.val (.int p1), .val (.int p2), .val (.int p3), .val (.int p4), .val (.int nl), .val (.int nr), .val (.ref b523), .val (.ref b545), .val (.ref x3), .val (.ref b586), .unset, .unset, .unset, .unset] [(.ref b607), (.ref b607)])) rfl (by rw [hml]; rfl) (Steps.refl _) (a := b607) (argsL := []) (rest := [(.ref b607)]) (lenOf pd_73 rfl) rfl (by show 2 * 0 + _ ≤ _; exact Nat.le_of_eq rfl) (hb hby at_107) (fun _ _ => ⟨rfl, e607, (by decide : 15 + 0 ≤ _), (by decide : 34 + 0 ≤ _)⟩)
    dsimp only [Pt.U, Pt.locs, Pt.cells, Pt.slots] at X614 l614 y614 z614 st614 hQ614
    subst l614 y614 z614
    obtain ⟨rfl, N614q, K614, f614_0, f614_1, f614_2, f614_3⟩ := hQ614
    have N614 := Fr.app N596 N614q
    have Sf617 : Safe Z consts_1 T596.vm h607 b607 := Safe.exa hZ596.alike A607 (by decide) (by decide)
    have z614 : h607.size ≤ T614.heap.size := K614.1
    have R614 : CHr Z consts_1 s.vm h0 T596.vm T614.heap := R607.trans (CHr.keep K614 (sfS Sf617 sf0) R607.1)
    have Sf618 : Safe Z consts_1 T596.vm T614.heap b523 := Safe.keep K614 (sfS Sf617 sf0) R607.1 Sf611
    have Sf619 : Safe Z consts_1 T596.vm T614.heap b545 := Safe.keep K614 (sfS Sf617 sf0) R607.1 Sf612
    have Sf620 : Safe Z consts_1 T596.vm T614.heap b586 := Safe.keep K614 (sfS Sf617 sf0) R607.1 Sf613
    have lt614_0 : @LT.lt Nat _ b607 T614.heap.size := f614_0.lt
    have lt614_1 : @LT.lt Nat _ b607 T614.heap.size := f614_1.lt
    have lt614_2 : @LT.lt Nat _ b607 T614.heap.size := f614_2.lt
    have lt614_3 : @LT.lt Nat _ b607 T614.heap.size := f614_3.lt
    refine own_Go.tr st614 ?_
    refine own_Go.st (fun _ k => XS.astore X614.here hx rfl (hb hby at_110) rfl rfl (l' := #[.val (.int p1), .val (.int p2), .val (.int p3), .val (.int p4), .val (.int nl), .val (.int nr), .val (.ref b523), .val (.ref b545), .val (.ref x3), .val (.ref b586), .val (.ref b607), .unset, .unset, .unset]) rfl k) ?_
    show own_Go _ _ _ _ (T614.setTop (mkF m 112 #[.val (.int p1), .val (.int p2), .val (.int p3), .val (.int p4), .val (.int nl), .val (.int nr), .val (.ref b523), .val (.ref b545), .val (.ref x3), .val (.ref b586), .val (.ref b607), .unset, .unset, .unset] []))
    obtain ⟨T621, h621, X621, e621, E621, A621, D621, U621, st621⟩ := newO X614 hx hZ596 hown596 (own_w hw 47 rfl) (own_w hw 48 rfl) (own_w hw 49 rfl) rfl (g := (mkF m 112 #[.val (.int p1), .val (.int p2), .val (.int p3), .val (.int p4), .val (.int nl), .val (.int nr), .val (.ref b523), .val (.ref b545), .val (.ref x3), .val (.ref b586), .val (.ref b607), .unset, .unset, .unset] [])) rfl (hb hby at_112) (by decide) (by decide)
    obtain ⟨b621, g621⟩ : ∃ z, z = T614.heap.size := ⟨_, rfl⟩
    rw [← g621] at A621 D621 U621 st621
    refine own_Go.st st621 ?_
    have z621 : T614.heap.size ≤ h621.size := E621.1
    have lt_b621 : @LT.lt Nat _ b621 h621.size := A621.lt
    have f622 : Fld Z h621 b621 "java/util/AbstractList" "modCount" "I" (.int (0 : Int32)) := D621 (Or.inl (own_w hw 67 rfl)) (ty := .int) (by decide)
    have f623 : Fld Z h621 b621 "java/util/ArrayList" "elementData" "[Ljava/lang/Object;" .null := D621 (Or.inl (own_w hw 70 rfl)) (ty := (.array (.object "java/lang/Object"))) (by decide)
    have f624 : Fld Z h621 b621 "java/util/ArrayList" "size" "I" (.int (0 : Int32)) := D621 (Or.inl (own_w hw 79 rfl)) (ty := .int) (by decide)
    have R621 : CHr Z consts_1 s.vm h0 T596.vm h621 := R614.trans (CHr.ext E621 R614.1)
    have Sf625 : Safe Z consts_1 T596.vm h621 b523 := Safe.ext E621 R614.1 Sf618
    have Sf626 : Safe Z consts_1 T596.vm h621 b545 := Safe.ext E621 R614.1 Sf619
    have Sf627 : Safe Z consts_1 T596.vm h621 b586 := Safe.ext E621 R614.1 Sf620
    refine own_Go.st (fun _ k => XS.dup X621.here hx rfl (hb hby at_115) rfl rfl k) ?_
    show own_Go _ _ _ _ (T621.setTop (mkF m 116 #[.val (.int p1), .val (.int p2), .val (.int p3), .val (.int p4), .val (.int nl), .val (.int nr), .val (.ref b523), .val (.ref b545), .val (.ref x3), .val (.ref b586), .val (.ref b607), .unset, .unset, .unset] [(.ref b621), (.ref b621)]))
    have f629 : Old Z Z.heap.size T614.heap := f616.keep K614 (allS (by omega) all0)
    have f630 : Old Z Z.heap.size h621 := f629.ext E621
    obtain ⟨_, _, ⟨T628, L628, k628, n628⟩, -, X628, ⟨Lc628, hQ628, l628, y628, z628⟩, st628⟩ := X621.specialBack hx (y := mN13) rfl hown596 (own_v hZ596 hw 50 rfl) (own_v hZ596 hw 51 rfl) (own_v hZ596 hw 52 rfl) (by decide) (backOf (W := 1) (rm_alinit l Z a0 hw [] b621 ad h621 f630 A621 f622 f624 f623 st_DEFAULTCAPACITY_EMPTY_ELEMENTDATA (by omega)) hZ596 (own_w hw 52 rfl) (own_w hw 49 rfl) (by decide) (by decide)) (g := (mkF m 116 #[.val (.int p1), .val (.int p2), .val (.int p3), .val (.int p4), .val (.int nl), .val (.int nr), .val (.ref b523), .val (.ref b545), .val (.ref x3), .val (.ref b586), .val (.ref b607), .unset, .unset, .unset] [(.ref b621), (.ref b621)])) rfl (by rw [hml]; rfl) (Steps.refl _) (a := b621) (argsL := []) (rest := [(.ref b621)]) (lenOf pd_73 rfl) rfl (by show 2 * 0 + _ ≤ _; exact Nat.le_of_eq rfl) (hb hby at_116) (fun _ _ => ⟨rfl, e621, (by decide : 16 + 0 ≤ _), (by decide : 37 + 0 ≤ _)⟩)
    dsimp only [Pt.U, Pt.locs, Pt.cells, Pt.slots] at X628 l628 y628 z628 st628 hQ628
    subst l628 y628 z628
    obtain ⟨rfl, N628q, K628, f628_0, f628_1, f628_2, f628_3⟩ := hQ628
    have N628 := Fr.app N614 N628q
    have Sf631 : Safe Z consts_1 T596.vm h621 b621 := Safe.exa hZ596.alike A621 (by decide) (by decide)
    have z628 : h621.size ≤ T628.heap.size := K628.1
    have R628 : CHr Z consts_1 s.vm h0 T596.vm T628.heap := R621.trans (CHr.keep K628 (sfS Sf631 sf0) R621.1)
    have Sf632 : Safe Z consts_1 T596.vm T628.heap b523 := Safe.keep K628 (sfS Sf631 sf0) R621.1 Sf625
    have Sf633 : Safe Z consts_1 T596.vm T628.heap b545 := Safe.keep K628 (sfS Sf631 sf0) R621.1 Sf626
    have Sf634 : Safe Z consts_1 T596.vm T628.heap b586 := Safe.keep K628 (sfS Sf631 sf0) R621.1 Sf627
    have lt628_0 : @LT.lt Nat _ b621 T628.heap.size := f628_0.lt
    have lt628_1 : @LT.lt Nat _ b621 T628.heap.size := f628_1.lt
    have lt628_2 : @LT.lt Nat _ b621 T628.heap.size := f628_2.lt
    have lt628_3 : @LT.lt Nat _ b621 T628.heap.size := f628_3.lt
    refine own_Go.tr st628 ?_
    refine own_Go.st (fun _ k => XS.astore X628.here hx rfl (hb hby at_119) rfl rfl (l' := #[.val (.int p1), .val (.int p2), .val (.int p3), .val (.int p4), .val (.int nl), .val (.int nr), .val (.ref b523), .val (.ref b545), .val (.ref x3), .val (.ref b586), .val (.ref b607), .val (.ref b621), .unset, .unset]) rfl k) ?_
    show own_Go _ _ _ _ (T628.setTop (mkF m 121 #[.val (.int p1), .val (.int p2), .val (.int p3), .val (.int p4), .val (.int nl), .val (.int nr), .val (.ref b523), .val (.ref b545), .val (.ref x3), .val (.ref b586), .val (.ref b607), .val (.ref b621), .unset, .unset] []))
    have HJ635 : ∀ (dq1 : Nat) (xsq1 : List Addr) (capq1 : Nat) (kq1 : ClassId) (mcq1 : Int32) (TJ635 : State) (hJ635 : Heap) (lJ635 : List Loc), (own_St nl Z ad 0 h0.size xsq1 capq1 dq1 kq1) → (xsq1.length ≤ 1) → (Stand p l e room_1 (s.setVm T596.vm) m #[(.int p1), (.int p2), (.int p3), (.int p4)] below meth c TJ635 lJ635 17 47) → (TJ635.heap = hJ635) → (Fr Z.heap.size lJ635) → (Keep h0 hJ635 []) → (Old Z Z.heap.size hJ635) → (T628.heap.size ≤ hJ635.size) → (CHr Z consts_1 s.vm h0 T596.vm hJ635) → (Exa Z hJ635 b607 "java/util/ArrayList") → (Fld Z hJ635 b607 "java/util/ArrayList" "elementData" "[Ljava/lang/Object;" (.ref dq1)) → (Fld Z hJ635 b607 "java/util/ArrayList" "size" "I" (.int (Int32.ofNat xsq1.length))) → (Fld Z hJ635 b607 "java/util/AbstractList" "modCount" "I" (.int mcq1)) → (Arv Z hJ635 dq1 kq1 (.object "java/lang/Object") (Int32.ofNat capq1) (xsq1.map Value.ref) .null) → (Exa Z hJ635 dq1 "[Ljava/lang/Object;") → (own_All Z hJ635 xsq1) → (Exa Z hJ635 b621 "java/util/ArrayList") → (Fld Z hJ635 b621 "java/util/ArrayList" "elementData" "[Ljava/lang/Object;" (.ref ad)) → (Fld Z hJ635 b621 "java/util/ArrayList" "size" "I" (.int (0 : Int32))) → (Fld Z hJ635 b621 "java/util/AbstractList" "modCount" "I" (.int (0 : Int32))) → (Exa Z hJ635 b523 "java/lang/String") → (Exa Z hJ635 b545 "java/lang/String") → (Exa Z hJ635 x3 "java/lang/String") → (Arv Z hJ635 ad ka (.object "java/lang/Object") (0 : Int32) [] .null) → (Exa Z hJ635 ad "[Ljava/lang/Object;") → own_Go p.tables e below PP (TJ635.setTop (mkF m 134 #[.val (.int p1), .val (.int p2), .val (.int p3), .val (.int p4), .val (.int nl), .val (.int nr), .val (.ref b523), .val (.ref b545), .val (.ref x3), .val (.ref b586), .val (.ref b607), .val (.ref b621), .unset, .unset] [])) := by
      intro dq1 xsq1 capq1 kq1 mcq1 TJ635 hJ635 lJ635 hsq1 hlq1 XJ635 eJ635 NJ635 KJ635 OJ635 zJ635 RJ635 fJ635_0 fJ635_1 fJ635_2 fJ635_3 fJ635_4 fJ635_5 fJ635_6 fJ635_7 fJ635_8 fJ635_9 fJ635_10 fJ635_11 fJ635_12 fJ635_13 fJ635_14 fJ635_15
      have zK635 : h0.size ≤ hJ635.size := KJ635.1
      have ltJ635_0 : @LT.lt Nat _ b607 hJ635.size := fJ635_0.lt
      have ltJ635_1 : @LT.lt Nat _ b607 hJ635.size := fJ635_1.lt
      have ltJ635_2 : @LT.lt Nat _ b607 hJ635.size := fJ635_2.lt
      have ltJ635_3 : @LT.lt Nat _ b607 hJ635.size := fJ635_3.lt
      have ltJ635_4 : @LT.lt Nat _ dq1 hJ635.size := fJ635_4.lt
      have ltJ635_5 : @LT.lt Nat _ dq1 hJ635.size := fJ635_5.lt
      have ltJ635_7 : @LT.lt Nat _ b621 hJ635.size := fJ635_7.lt
      have ltJ635_8 : @LT.lt Nat _ b621 hJ635.size := fJ635_8.lt
      have ltJ635_9 : @LT.lt Nat _ b621 hJ635.size := fJ635_9.lt
      have ltJ635_10 : @LT.lt Nat _ b621 hJ635.size := fJ635_10.lt
      have ltJ635_11 : @LT.lt Nat _ b523 hJ635.size := fJ635_11.lt
      have ltJ635_12 : @LT.lt Nat _ b545 hJ635.size := fJ635_12.lt
      have ltJ635_13 : @LT.lt Nat _ x3 hJ635.size := fJ635_13.lt
      have ltJ635_14 : @LT.lt Nat _ ad hJ635.size := fJ635_14.lt
      have ltJ635_15 : @LT.lt Nat _ ad hJ635.size := fJ635_15.lt
      show own_Go _ _ _ _ (TJ635.setTop (mkF m 134 #[.val (.int p1), .val (.int p2), .val (.int p3), .val (.int p4), .val (.int nl), .val (.int nr), .val (.ref b523), .val (.ref b545), .val (.ref x3), .val (.ref b586), .val (.ref b607), .val (.ref b621), .unset, .unset] []))
      have HJ636 : ∀ (dq2 : Nat) (xsq2 : List Addr) (capq2 : Nat) (kq2 : ClassId) (mcq2 : Int32) (TJ636 : State) (hJ636 : Heap) (lJ636 : List Loc), (own_St nl Z ad 0 h0.size xsq2 capq2 dq2 kq2) → (xsq2.length ≤ 2) → (Stand p l e room_1 (s.setVm T596.vm) m #[(.int p1), (.int p2), (.int p3), (.int p4)] below meth c TJ636 lJ636 17 47) → (TJ636.heap = hJ636) → (Fr Z.heap.size lJ636) → (Keep h0 hJ636 []) → (Old Z Z.heap.size hJ636) → (hJ635.size ≤ hJ636.size) → (CHr Z consts_1 s.vm h0 T596.vm hJ636) → (Exa Z hJ636 b607 "java/util/ArrayList") → (Fld Z hJ636 b607 "java/util/ArrayList" "elementData" "[Ljava/lang/Object;" (.ref dq2)) → (Fld Z hJ636 b607 "java/util/ArrayList" "size" "I" (.int (Int32.ofNat xsq2.length))) → (Fld Z hJ636 b607 "java/util/AbstractList" "modCount" "I" (.int mcq2)) → (Arv Z hJ636 dq2 kq2 (.object "java/lang/Object") (Int32.ofNat capq2) (xsq2.map Value.ref) .null) → (Exa Z hJ636 dq2 "[Ljava/lang/Object;") → (own_All Z hJ636 xsq2) → (Exa Z hJ636 b621 "java/util/ArrayList") → (Fld Z hJ636 b621 "java/util/ArrayList" "elementData" "[Ljava/lang/Object;" (.ref ad)) → (Fld Z hJ636 b621 "java/util/ArrayList" "size" "I" (.int (0 : Int32))) → (Fld Z hJ636 b621 "java/util/AbstractList" "modCount" "I" (.int (0 : Int32))) → (Exa Z hJ636 b523 "java/lang/String") → (Exa Z hJ636 b545 "java/lang/String") → (Exa Z hJ636 x3 "java/lang/String") → (Arv Z hJ636 ad ka (.object "java/lang/Object") (0 : Int32) [] .null) → (Exa Z hJ636 ad "[Ljava/lang/Object;") → own_Go p.tables e below PP (TJ636.setTop (mkF m 148 #[.val (.int p1), .val (.int p2), .val (.int p3), .val (.int p4), .val (.int nl), .val (.int nr), .val (.ref b523), .val (.ref b545), .val (.ref x3), .val (.ref b586), .val (.ref b607), .val (.ref b621), .unset, .unset] [])) := by
        intro dq2 xsq2 capq2 kq2 mcq2 TJ636 hJ636 lJ636 hsq2 hlq2 XJ636 eJ636 NJ636 KJ636 OJ636 zJ636 RJ636 fJ636_0 fJ636_1 fJ636_2 fJ636_3 fJ636_4 fJ636_5 fJ636_6 fJ636_7 fJ636_8 fJ636_9 fJ636_10 fJ636_11 fJ636_12 fJ636_13 fJ636_14 fJ636_15
        have zK636 : h0.size ≤ hJ636.size := KJ636.1
        have ltJ636_0 : @LT.lt Nat _ b607 hJ636.size := fJ636_0.lt
        have ltJ636_1 : @LT.lt Nat _ b607 hJ636.size := fJ636_1.lt
        have ltJ636_2 : @LT.lt Nat _ b607 hJ636.size := fJ636_2.lt
        have ltJ636_3 : @LT.lt Nat _ b607 hJ636.size := fJ636_3.lt
        have ltJ636_4 : @LT.lt Nat _ dq2 hJ636.size := fJ636_4.lt
        have ltJ636_5 : @LT.lt Nat _ dq2 hJ636.size := fJ636_5.lt
        have ltJ636_7 : @LT.lt Nat _ b621 hJ636.size := fJ636_7.lt
        have ltJ636_8 : @LT.lt Nat _ b621 hJ636.size := fJ636_8.lt
        have ltJ636_9 : @LT.lt Nat _ b621 hJ636.size := fJ636_9.lt
        have ltJ636_10 : @LT.lt Nat _ b621 hJ636.size := fJ636_10.lt
        have ltJ636_11 : @LT.lt Nat _ b523 hJ636.size := fJ636_11.lt
        have ltJ636_12 : @LT.lt Nat _ b545 hJ636.size := fJ636_12.lt
        have ltJ636_13 : @LT.lt Nat _ x3 hJ636.size := fJ636_13.lt
        have ltJ636_14 : @LT.lt Nat _ ad hJ636.size := fJ636_14.lt
        have ltJ636_15 : @LT.lt Nat _ ad hJ636.size := fJ636_15.lt
        show own_Go _ _ _ _ (TJ636.setTop (mkF m 148 #[.val (.int p1), .val (.int p2), .val (.int p3), .val (.int p4), .val (.int nl), .val (.int nr), .val (.ref b523), .val (.ref b545), .val (.ref x3), .val (.ref b586), .val (.ref b607), .val (.ref b621), .unset, .unset] []))
        have HJ637 : ∀ (dq3 : Nat) (xsq3 : List Addr) (capq3 : Nat) (kq3 : ClassId) (mcq3 : Int32) (TJ637 : State) (hJ637 : Heap) (lJ637 : List Loc), (own_St nl Z ad 0 h0.size xsq3 capq3 dq3 kq3) → (xsq3.length ≤ 3) → (Stand p l e room_1 (s.setVm T596.vm) m #[(.int p1), (.int p2), (.int p3), (.int p4)] below meth c TJ637 lJ637 17 47) → (TJ637.heap = hJ637) → (Fr Z.heap.size lJ637) → (Keep h0 hJ637 []) → (Old Z Z.heap.size hJ637) → (hJ636.size ≤ hJ637.size) → (CHr Z consts_1 s.vm h0 T596.vm hJ637) → (Exa Z hJ637 b607 "java/util/ArrayList") → (Fld Z hJ637 b607 "java/util/ArrayList" "elementData" "[Ljava/lang/Object;" (.ref dq3)) → (Fld Z hJ637 b607 "java/util/ArrayList" "size" "I" (.int (Int32.ofNat xsq3.length))) → (Fld Z hJ637 b607 "java/util/AbstractList" "modCount" "I" (.int mcq3)) → (Arv Z hJ637 dq3 kq3 (.object "java/lang/Object") (Int32.ofNat capq3) (xsq3.map Value.ref) .null) → (Exa Z hJ637 dq3 "[Ljava/lang/Object;") → (own_All Z hJ637 xsq3) → (Exa Z hJ637 b621 "java/util/ArrayList") → (Fld Z hJ637 b621 "java/util/ArrayList" "elementData" "[Ljava/lang/Object;" (.ref ad)) → (Fld Z hJ637 b621 "java/util/ArrayList" "size" "I" (.int (0 : Int32))) → (Fld Z hJ637 b621 "java/util/AbstractList" "modCount" "I" (.int (0 : Int32))) → (Exa Z hJ637 b523 "java/lang/String") → (Exa Z hJ637 b545 "java/lang/String") → (Exa Z hJ637 x3 "java/lang/String") → (Arv Z hJ637 ad ka (.object "java/lang/Object") (0 : Int32) [] .null) → (Exa Z hJ637 ad "[Ljava/lang/Object;") → own_Go p.tables e below PP (TJ637.setTop (mkF m 162 #[.val (.int p1), .val (.int p2), .val (.int p3), .val (.int p4), .val (.int nl), .val (.int nr), .val (.ref b523), .val (.ref b545), .val (.ref x3), .val (.ref b586), .val (.ref b607), .val (.ref b621), .unset, .unset] [])) := by
          intro dq3 xsq3 capq3 kq3 mcq3 TJ637 hJ637 lJ637 hsq3 hlq3 XJ637 eJ637 NJ637 KJ637 OJ637 zJ637 RJ637 fJ637_0 fJ637_1 fJ637_2 fJ637_3 fJ637_4 fJ637_5 fJ637_6 fJ637_7 fJ637_8 fJ637_9 fJ637_10 fJ637_11 fJ637_12 fJ637_13 fJ637_14 fJ637_15
          have zK637 : h0.size ≤ hJ637.size := KJ637.1
          have ltJ637_0 : @LT.lt Nat _ b607 hJ637.size := fJ637_0.lt
          have ltJ637_1 : @LT.lt Nat _ b607 hJ637.size := fJ637_1.lt
          have ltJ637_2 : @LT.lt Nat _ b607 hJ637.size := fJ637_2.lt
          have ltJ637_3 : @LT.lt Nat _ b607 hJ637.size := fJ637_3.lt
          have ltJ637_4 : @LT.lt Nat _ dq3 hJ637.size := fJ637_4.lt
          have ltJ637_5 : @LT.lt Nat _ dq3 hJ637.size := fJ637_5.lt
          have ltJ637_7 : @LT.lt Nat _ b621 hJ637.size := fJ637_7.lt
          have ltJ637_8 : @LT.lt Nat _ b621 hJ637.size := fJ637_8.lt
          have ltJ637_9 : @LT.lt Nat _ b621 hJ637.size := fJ637_9.lt
          have ltJ637_10 : @LT.lt Nat _ b621 hJ637.size := fJ637_10.lt
          have ltJ637_11 : @LT.lt Nat _ b523 hJ637.size := fJ637_11.lt
          have ltJ637_12 : @LT.lt Nat _ b545 hJ637.size := fJ637_12.lt
          have ltJ637_13 : @LT.lt Nat _ x3 hJ637.size := fJ637_13.lt
          have ltJ637_14 : @LT.lt Nat _ ad hJ637.size := fJ637_14.lt
          have ltJ637_15 : @LT.lt Nat _ ad hJ637.size := fJ637_15.lt
          show own_Go _ _ _ _ (TJ637.setTop (mkF m 162 #[.val (.int p1), .val (.int p2), .val (.int p3), .val (.int p4), .val (.int nl), .val (.int nr), .val (.ref b523), .val (.ref b545), .val (.ref x3), .val (.ref b586), .val (.ref b607), .val (.ref b621), .unset, .unset] []))
          have HJ638 : ∀ (dq4 : Nat) (xsq4 : List Addr) (capq4 : Nat) (kq4 : ClassId) (mcq4 : Int32) (TJ638 : State) (hJ638 : Heap) (lJ638 : List Loc), (own_St nr Z ad (dq3 + 1) h0.size xsq4 capq4 dq4 kq4) → (xsq4.length ≤ 1) → (Stand p l e room_1 (s.setVm T596.vm) m #[(.int p1), (.int p2), (.int p3), (.int p4)] below meth c TJ638 lJ638 18 57) → (TJ638.heap = hJ638) → (Fr Z.heap.size lJ638) → (Keep h0 hJ638 []) → (Old Z Z.heap.size hJ638) → (hJ637.size ≤ hJ638.size) → (CHr Z consts_1 s.vm h0 T596.vm hJ638) → (Exa Z hJ638 b621 "java/util/ArrayList") → (Fld Z hJ638 b621 "java/util/ArrayList" "elementData" "[Ljava/lang/Object;" (.ref dq4)) → (Fld Z hJ638 b621 "java/util/ArrayList" "size" "I" (.int (Int32.ofNat xsq4.length))) → (Fld Z hJ638 b621 "java/util/AbstractList" "modCount" "I" (.int mcq4)) → (Arv Z hJ638 dq4 kq4 (.object "java/lang/Object") (Int32.ofNat capq4) (xsq4.map Value.ref) .null) → (Exa Z hJ638 dq4 "[Ljava/lang/Object;") → (own_All Z hJ638 xsq4) → (Exa Z hJ638 b607 "java/util/ArrayList") → (Fld Z hJ638 b607 "java/util/ArrayList" "elementData" "[Ljava/lang/Object;" (.ref dq3)) → (Fld Z hJ638 b607 "java/util/ArrayList" "size" "I" (.int (Int32.ofNat xsq3.length))) → (Fld Z hJ638 b607 "java/util/AbstractList" "modCount" "I" (.int mcq3)) → (Arv Z hJ638 dq3 kq3 (.object "java/lang/Object") (Int32.ofNat capq3) (xsq3.map Value.ref) .null) → (Exa Z hJ638 dq3 "[Ljava/lang/Object;") → (own_All Z hJ638 xsq3) → (Exa Z hJ638 b523 "java/lang/String") → (Exa Z hJ638 b545 "java/lang/String") → (Exa Z hJ638 x3 "java/lang/String") → (Arv Z hJ638 ad ka (.object "java/lang/Object") (0 : Int32) [] .null) → (Exa Z hJ638 ad "[Ljava/lang/Object;") → own_Go p.tables e below PP (TJ638.setTop (mkF m 175 #[.val (.int p1), .val (.int p2), .val (.int p3), .val (.int p4), .val (.int nl), .val (.int nr), .val (.ref b523), .val (.ref b545), .val (.ref x3), .val (.ref b586), .val (.ref b607), .val (.ref b621), .unset, .unset] [])) := by
            intro dq4 xsq4 capq4 kq4 mcq4 TJ638 hJ638 lJ638 hsq4 hlq4 XJ638 eJ638 NJ638 KJ638 OJ638 zJ638 RJ638 fJ638_0 fJ638_1 fJ638_2 fJ638_3 fJ638_4 fJ638_5 fJ638_6 fJ638_7 fJ638_8 fJ638_9 fJ638_10 fJ638_11 fJ638_12 fJ638_13 fJ638_14 fJ638_15 fJ638_16 fJ638_17 fJ638_18
            have zK638 : h0.size ≤ hJ638.size := KJ638.1
            have ltJ638_0 : @LT.lt Nat _ b621 hJ638.size := fJ638_0.lt
            have ltJ638_1 : @LT.lt Nat _ b621 hJ638.size := fJ638_1.lt
            have ltJ638_2 : @LT.lt Nat _ b621 hJ638.size := fJ638_2.lt
            have ltJ638_3 : @LT.lt Nat _ b621 hJ638.size := fJ638_3.lt
            have ltJ638_4 : @LT.lt Nat _ dq4 hJ638.size := fJ638_4.lt
            have ltJ638_5 : @LT.lt Nat _ dq4 hJ638.size := fJ638_5.lt
            have ltJ638_7 : @LT.lt Nat _ b607 hJ638.size := fJ638_7.lt
            have ltJ638_8 : @LT.lt Nat _ b607 hJ638.size := fJ638_8.lt
            have ltJ638_9 : @LT.lt Nat _ b607 hJ638.size := fJ638_9.lt
            have ltJ638_10 : @LT.lt Nat _ b607 hJ638.size := fJ638_10.lt
            have ltJ638_11 : @LT.lt Nat _ dq3 hJ638.size := fJ638_11.lt
            have ltJ638_12 : @LT.lt Nat _ dq3 hJ638.size := fJ638_12.lt
            have ltJ638_14 : @LT.lt Nat _ b523 hJ638.size := fJ638_14.lt
            have ltJ638_15 : @LT.lt Nat _ b545 hJ638.size := fJ638_15.lt
            have ltJ638_16 : @LT.lt Nat _ x3 hJ638.size := fJ638_16.lt
            have ltJ638_17 : @LT.lt Nat _ ad hJ638.size := fJ638_17.lt
            have ltJ638_18 : @LT.lt Nat _ ad hJ638.size := fJ638_18.lt
            show own_Go _ _ _ _ (TJ638.setTop (mkF m 175 #[.val (.int p1), .val (.int p2), .val (.int p3), .val (.int p4), .val (.int nl), .val (.int nr), .val (.ref b523), .val (.ref b545), .val (.ref x3), .val (.ref b586), .val (.ref b607), .val (.ref b621), .unset, .unset] []))
            have HJ639 : ∀ (dq5 : Nat) (xsq5 : List Addr) (capq5 : Nat) (kq5 : ClassId) (mcq5 : Int32) (TJ639 : State) (hJ639 : Heap) (lJ639 : List Loc), (own_St nr Z ad (dq3 + 1) h0.size xsq5 capq5 dq5 kq5) → (xsq5.length ≤ 2) → (Stand p l e room_1 (s.setVm T596.vm) m #[(.int p1), (.int p2), (.int p3), (.int p4)] below meth c TJ639 lJ639 18 57) → (TJ639.heap = hJ639) → (Fr Z.heap.size lJ639) → (Keep h0 hJ639 []) → (Old Z Z.heap.size hJ639) → (hJ638.size ≤ hJ639.size) → (CHr Z consts_1 s.vm h0 T596.vm hJ639) → (Exa Z hJ639 b621 "java/util/ArrayList") → (Fld Z hJ639 b621 "java/util/ArrayList" "elementData" "[Ljava/lang/Object;" (.ref dq5)) → (Fld Z hJ639 b621 "java/util/ArrayList" "size" "I" (.int (Int32.ofNat xsq5.length))) → (Fld Z hJ639 b621 "java/util/AbstractList" "modCount" "I" (.int mcq5)) → (Arv Z hJ639 dq5 kq5 (.object "java/lang/Object") (Int32.ofNat capq5) (xsq5.map Value.ref) .null) → (Exa Z hJ639 dq5 "[Ljava/lang/Object;") → (own_All Z hJ639 xsq5) → (Exa Z hJ639 b607 "java/util/ArrayList") → (Fld Z hJ639 b607 "java/util/ArrayList" "elementData" "[Ljava/lang/Object;" (.ref dq3)) → (Fld Z hJ639 b607 "java/util/ArrayList" "size" "I" (.int (Int32.ofNat xsq3.length))) → (Fld Z hJ639 b607 "java/util/AbstractList" "modCount" "I" (.int mcq3)) → (Arv Z hJ639 dq3 kq3 (.object "java/lang/Object") (Int32.ofNat capq3) (xsq3.map Value.ref) .null) → (Exa Z hJ639 dq3 "[Ljava/lang/Object;") → (own_All Z hJ639 xsq3) → (Exa Z hJ639 b523 "java/lang/String") → (Exa Z hJ639 b545 "java/lang/String") → (Exa Z hJ639 x3 "java/lang/String") → (Arv Z hJ639 ad ka (.object "java/lang/Object") (0 : Int32) [] .null) → (Exa Z hJ639 ad "[Ljava/lang/Object;") → own_Go p.tables e below PP (TJ639.setTop (mkF m 189 #[.val (.int p1), .val (.int p2), .val (.int p3), .val (.int p4), .val (.int nl), .val (.int nr), .val (.ref b523), .val (.ref b545), .val (.ref x3), .val (.ref b586), .val (.ref b607), .val (.ref b621), .unset, .unset] [])) := by
              intro dq5 xsq5 capq5 kq5 mcq5 TJ639 hJ639 lJ639 hsq5 hlq5 XJ639 eJ639 NJ639 KJ639 OJ639 zJ639 RJ639 fJ639_0 fJ639_1 fJ639_2 fJ639_3 fJ639_4 fJ639_5 fJ639_6 fJ639_7 fJ639_8 fJ639_9 fJ639_10 fJ639_11 fJ639_12 fJ639_13 fJ639_14 fJ639_15 fJ639_16 fJ639_17 fJ639_18
              have zK639 : h0.size ≤ hJ639.size := KJ639.1
              have ltJ639_0 : @LT.lt Nat _ b621 hJ639.size := fJ639_0.lt
              have ltJ639_1 : @LT.lt Nat _ b621 hJ639.size := fJ639_1.lt
              have ltJ639_2 : @LT.lt Nat _ b621 hJ639.size := fJ639_2.lt
              have ltJ639_3 : @LT.lt Nat _ b621 hJ639.size := fJ639_3.lt
              have ltJ639_4 : @LT.lt Nat _ dq5 hJ639.size := fJ639_4.lt
              have ltJ639_5 : @LT.lt Nat _ dq5 hJ639.size := fJ639_5.lt
              have ltJ639_7 : @LT.lt Nat _ b607 hJ639.size := fJ639_7.lt
              have ltJ639_8 : @LT.lt Nat _ b607 hJ639.size := fJ639_8.lt
              have ltJ639_9 : @LT.lt Nat _ b607 hJ639.size := fJ639_9.lt
              have ltJ639_10 : @LT.lt Nat _ b607 hJ639.size := fJ639_10.lt
              have ltJ639_11 : @LT.lt Nat _ dq3 hJ639.size := fJ639_11.lt
              have ltJ639_12 : @LT.lt Nat _ dq3 hJ639.size := fJ639_12.lt
              have ltJ639_14 : @LT.lt Nat _ b523 hJ639.size := fJ639_14.lt
              have ltJ639_15 : @LT.lt Nat _ b545 hJ639.size := fJ639_15.lt
              have ltJ639_16 : @LT.lt Nat _ x3 hJ639.size := fJ639_16.lt
              have ltJ639_17 : @LT.lt Nat _ ad hJ639.size := fJ639_17.lt
              have ltJ639_18 : @LT.lt Nat _ ad hJ639.size := fJ639_18.lt
              show own_Go _ _ _ _ (TJ639.setTop (mkF m 189 #[.val (.int p1), .val (.int p2), .val (.int p3), .val (.int p4), .val (.int nl), .val (.int nr), .val (.ref b523), .val (.ref b545), .val (.ref x3), .val (.ref b586), .val (.ref b607), .val (.ref b621), .unset, .unset] []))
              have HJ640 : ∀ (dq6 : Nat) (xsq6 : List Addr) (capq6 : Nat) (kq6 : ClassId) (mcq6 : Int32) (TJ640 : State) (hJ640 : Heap) (lJ640 : List Loc), (own_St nr Z ad (dq3 + 1) h0.size xsq6 capq6 dq6 kq6) → (xsq6.length ≤ 3) → (Stand p l e room_1 (s.setVm T596.vm) m #[(.int p1), (.int p2), (.int p3), (.int p4)] below meth c TJ640 lJ640 18 57) → (TJ640.heap = hJ640) → (Fr Z.heap.size lJ640) → (Keep h0 hJ640 []) → (Old Z Z.heap.size hJ640) → (hJ639.size ≤ hJ640.size) → (CHr Z consts_1 s.vm h0 T596.vm hJ640) → (Exa Z hJ640 b621 "java/util/ArrayList") → (Fld Z hJ640 b621 "java/util/ArrayList" "elementData" "[Ljava/lang/Object;" (.ref dq6)) → (Fld Z hJ640 b621 "java/util/ArrayList" "size" "I" (.int (Int32.ofNat xsq6.length))) → (Fld Z hJ640 b621 "java/util/AbstractList" "modCount" "I" (.int mcq6)) → (Arv Z hJ640 dq6 kq6 (.object "java/lang/Object") (Int32.ofNat capq6) (xsq6.map Value.ref) .null) → (Exa Z hJ640 dq6 "[Ljava/lang/Object;") → (own_All Z hJ640 xsq6) → (Exa Z hJ640 b607 "java/util/ArrayList") → (Fld Z hJ640 b607 "java/util/ArrayList" "elementData" "[Ljava/lang/Object;" (.ref dq3)) → (Fld Z hJ640 b607 "java/util/ArrayList" "size" "I" (.int (Int32.ofNat xsq3.length))) → (Fld Z hJ640 b607 "java/util/AbstractList" "modCount" "I" (.int mcq3)) → (Arv Z hJ640 dq3 kq3 (.object "java/lang/Object") (Int32.ofNat capq3) (xsq3.map Value.ref) .null) → (Exa Z hJ640 dq3 "[Ljava/lang/Object;") → (own_All Z hJ640 xsq3) → (Exa Z hJ640 b523 "java/lang/String") → (Exa Z hJ640 b545 "java/lang/String") → (Exa Z hJ640 x3 "java/lang/String") → (Arv Z hJ640 ad ka (.object "java/lang/Object") (0 : Int32) [] .null) → (Exa Z hJ640 ad "[Ljava/lang/Object;") → own_Go p.tables e below PP (TJ640.setTop (mkF m 203 #[.val (.int p1), .val (.int p2), .val (.int p3), .val (.int p4), .val (.int nl), .val (.int nr), .val (.ref b523), .val (.ref b545), .val (.ref x3), .val (.ref b586), .val (.ref b607), .val (.ref b621), .unset, .unset] [])) := by
                intro dq6 xsq6 capq6 kq6 mcq6 TJ640 hJ640 lJ640 hsq6 hlq6 XJ640 eJ640 NJ640 KJ640 OJ640 zJ640 RJ640 fJ640_0 fJ640_1 fJ640_2 fJ640_3 fJ640_4 fJ640_5 fJ640_6 fJ640_7 fJ640_8 fJ640_9 fJ640_10 fJ640_11 fJ640_12 fJ640_13 fJ640_14 fJ640_15 fJ640_16 fJ640_17 fJ640_18
                have zK640 : h0.size ≤ hJ640.size := KJ640.1
                have ltJ640_0 : @LT.lt Nat _ b621 hJ640.size := fJ640_0.lt
                have ltJ640_1 : @LT.lt Nat _ b621 hJ640.size := fJ640_1.lt
                have ltJ640_2 : @LT.lt Nat _ b621 hJ640.size := fJ640_2.lt
                have ltJ640_3 : @LT.lt Nat _ b621 hJ640.size := fJ640_3.lt
                have ltJ640_4 : @LT.lt Nat _ dq6 hJ640.size := fJ640_4.lt
                have ltJ640_5 : @LT.lt Nat _ dq6 hJ640.size := fJ640_5.lt
                have ltJ640_7 : @LT.lt Nat _ b607 hJ640.size := fJ640_7.lt
                have ltJ640_8 : @LT.lt Nat _ b607 hJ640.size := fJ640_8.lt
                have ltJ640_9 : @LT.lt Nat _ b607 hJ640.size := fJ640_9.lt
                have ltJ640_10 : @LT.lt Nat _ b607 hJ640.size := fJ640_10.lt
                have ltJ640_11 : @LT.lt Nat _ dq3 hJ640.size := fJ640_11.lt
                have ltJ640_12 : @LT.lt Nat _ dq3 hJ640.size := fJ640_12.lt
                have ltJ640_14 : @LT.lt Nat _ b523 hJ640.size := fJ640_14.lt
                have ltJ640_15 : @LT.lt Nat _ b545 hJ640.size := fJ640_15.lt
                have ltJ640_16 : @LT.lt Nat _ x3 hJ640.size := fJ640_16.lt
                have ltJ640_17 : @LT.lt Nat _ ad hJ640.size := fJ640_17.lt
                have ltJ640_18 : @LT.lt Nat _ ad hJ640.size := fJ640_18.lt
                show own_Go _ _ _ _ (TJ640.setTop (mkF m 203 #[.val (.int p1), .val (.int p2), .val (.int p3), .val (.int p4), .val (.int nl), .val (.int nr), .val (.ref b523), .val (.ref b545), .val (.ref x3), .val (.ref b586), .val (.ref b607), .val (.ref b621), .unset, .unset] []))
                obtain ⟨T641, h641, X641, e641, E641, A641, D641, U641, st641⟩ := newO XJ640 hx hZ596 hown596 (own_w hw 102 rfl) (own_w hw 103 rfl) (own_w hw 104 rfl) eJ640 (g := (mkF m 203 #[.val (.int p1), .val (.int p2), .val (.int p3), .val (.int p4), .val (.int nl), .val (.int nr), .val (.ref b523), .val (.ref b545), .val (.ref x3), .val (.ref b586), .val (.ref b607), .val (.ref b621), .unset, .unset] [])) rfl (hb hby at_203) (by decide) (by decide)
                obtain ⟨b641, g641⟩ : ∃ z, z = hJ640.size := ⟨_, rfl⟩
                rw [← g641] at A641 D641 U641 st641
                refine own_Go.st st641 ?_
                have z641 : hJ640.size ≤ h641.size := E641.1
                have lt_b641 : @LT.lt Nat _ b641 h641.size := A641.lt
                have f642 : Fld Z h641 b641 "com/example/hinagata/hinagata/DigestComparison" "missingLocal" "Ljava/util/List;" .null := D641 (Or.inr (own_w hw 207 rfl)) (ty := (.object "java/util/List")) (by decide)
                have f643 : Fld Z h641 b641 "com/example/hinagata/hinagata/DigestComparison" "missingRemote" "Ljava/util/List;" .null := D641 (Or.inr (own_w hw 209 rfl)) (ty := (.object "java/util/List")) (by decide)
                have R641 : CHr Z consts_1 s.vm h0 T596.vm h641 := RJ640.trans (CHr.ext E641 RJ640.1)
                refine own_Go.st (fun _ k => XS.dup X641.here hx rfl (hb hby at_206) rfl rfl (XS.aload X641.here hx rfl (hb hby at_207) rfl rfl (XS.aload X641.here hx rfl (hb hby at_209) rfl rfl k))) ?_
                show own_Go _ _ _ _ (T641.setTop (mkF m 211 #[.val (.int p1), .val (.int p2), .val (.int p3), .val (.int p4), .val (.int nl), .val (.int nr), .val (.ref b523), .val (.ref b545), .val (.ref x3), .val (.ref b586), .val (.ref b607), .val (.ref b621), .unset, .unset] [(.ref b621), (.ref b607), (.ref b641), (.ref b641)]))
                have f645 : Exa Z h641 b607 "java/util/ArrayList" := fJ640_7.ext E641
                have f646 : Fld Z h641 b607 "java/util/ArrayList" "elementData" "[Ljava/lang/Object;" (.ref dq3) := fJ640_8.ext E641
                have f647 : Fld Z h641 b607 "java/util/ArrayList" "size" "I" (.int (Int32.ofNat xsq3.length)) := fJ640_9.ext E641
                have f648 : Arv Z h641 dq3 kq3 (.object "java/lang/Object") (Int32.ofNat capq3) (xsq3.map Value.ref) .null := fJ640_11.ext E641
                have f649 : Exa Z h641 dq3 "[Ljava/lang/Object;" := fJ640_12.ext E641
                have f650 : own_All Z h641 xsq3 := fJ640_13.ext E641
                have f651 : Exa Z h641 b621 "java/util/ArrayList" := fJ640_0.ext E641
                have f652 : Fld Z h641 b621 "java/util/ArrayList" "elementData" "[Ljava/lang/Object;" (.ref dq6) := fJ640_1.ext E641
                have f653 : Fld Z h641 b621 "java/util/ArrayList" "size" "I" (.int (Int32.ofNat xsq6.length)) := fJ640_2.ext E641
                have f654 : Arv Z h641 dq6 kq6 (.object "java/lang/Object") (Int32.ofNat capq6) (xsq6.map Value.ref) .null := fJ640_4.ext E641
                have f655 : Exa Z h641 dq6 "[Ljava/lang/Object;" := fJ640_5.ext E641
                have f656 : own_All Z h641 xsq6 := fJ640_6.ext E641
                have f657 : Old Z Z.heap.size h641 := OJ640.ext E641
                obtain ⟨_, _, ⟨T644, L644, k644, n644⟩, -, X644, ⟨Lc644, hQ644, l644, y644, z644⟩, st644⟩ := X641.specialBack hx (y := mN0) rfl hown596 (own_v hZ596 hw 105 rfl) (own_v hZ596 hw 106 rfl) (own_v hZ596 hw 107 rfl) (by decide) (backOf (W := 1) (rm_dcinit l Z a0 hw [] b641 b607 b621 mr em el dq3 xsq3 capq3 kq3 dq6 xsq6 capq6 kq6 h641 f657 A641 f642 f643 f645 f646 f647 f648 f649 f650 f651 f652 f653 f654 f655 f656 st_EMPTY st_EMPTY_LIST hlq3 (by have q := hsq3.len; omega) hlq6 (by have q := hsq6.len; omega) hmir hel (by omega)) hZ596 (own_w hw 107 rfl) (own_w hw 104 rfl) (by decide) (by decide)) (g := (mkF m 211 #[.val (.int p1), .val (.int p2), .val (.int p3), .val (.int p4), .val (.int nl), .val (.int nr), .val (.ref b523), .val (.ref b545), .val (.ref x3), .val (.ref b586), .val (.ref b607), .val (.ref b621), .unset, .unset] [(.ref b621), (.ref b607), (.ref b641), (.ref b641)])) rfl (by rw [hml]; rfl) (Steps.refl _) (a := b641) (argsL := [(.ref b607), (.ref b621)]) (rest := [(.ref b641)]) (lenOf pd_379 rfl) rfl (by show 2 * 0 + _ ≤ _; exact Nat.le_of_eq rfl) (hb hby at_211) (fun _ _ => ⟨rfl, e641, (by decide : 19 + 6 ≤ _), (by decide : 59 + 16 ≤ _)⟩)
                dsimp only [Pt.U, Pt.locs, Pt.cells, Pt.slots] at X644 l644 y644 z644 st644 hQ644
                subst l644 y644 z644
                obtain ⟨x1_644, x2_644, rfl, N644q, K644, f644_0, f644_1, f644_2, f644_3, f644_4⟩ := hQ644
                have N644 := Fr.app NJ640 N644q
                have Sf658 : Safe Z consts_1 T596.vm h641 b641 := Safe.exa hZ596.alike A641 (by decide) (by decide)
                have z644 : h641.size ≤ T644.heap.size := K644.1
                have R644 : CHr Z consts_1 s.vm h0 T596.vm T644.heap := R641.trans (CHr.keep K644 (sfS Sf658 sf0) R641.1)
                have lt644_0 : @LT.lt Nat _ b641 T644.heap.size := f644_0.lt
                have lt644_1 : @LT.lt Nat _ b641 T644.heap.size := f644_1.lt
                have lt644_2 : @LT.lt Nat _ b641 T644.heap.size := f644_2.lt
                refine own_Go.tr st644 ?_
                refine own_Go.st (fun _ k => XS.astore X644.here hx rfl (hb hby at_214) rfl rfl (l' := #[.val (.int p1), .val (.int p2), .val (.int p3), .val (.int p4), .val (.int nl), .val (.int nr), .val (.ref b523), .val (.ref b545), .val (.ref x3), .val (.ref b586), .val (.ref b607), .val (.ref b621), .val (.ref b641), .unset]) rfl (XS.iload X644.here hx rfl (hb hby at_216) rfl k)) ?_
                show own_Go _ _ _ _ (T644.setTop (mkF m 218 #[.val (.int p1), .val (.int p2), .val (.int p3), .val (.int p4), .val (.int nl), .val (.int nr), .val (.ref b523), .val (.ref b545), .val (.ref x3), .val (.ref b586), .val (.ref b607), .val (.ref b621), .val (.ref b641), .unset] [(.int nl)]))
                by_cases h218 : nl = (0 : Int32)
                ·
                  refine own_Go.st (fun _ k => XS.ifNo X644.here hx rfl (hb hby at_218) rfl ((if0 _ _).trans (teq h218).2) k) ?_
                  refine own_Go.st (fun _ k => XS.iload X644.here hx rfl (hb hby at_221) rfl k) ?_
                  show own_Go _ _ _ _ (T644.setTop (mkF m 223 #[.val (.int p1), .val (.int p2), .val (.int p3), .val (.int p4), .val (.int nl), .val (.int nr), .val (.ref b523), .val (.ref b545), .val (.ref x3), .val (.ref b586), .val (.ref b607), .val (.ref b621), .val (.ref b641), .unset] [(.int nr)]))
                  by_cases h223 : nr = (0 : Int32)
                  ·
                    refine own_Go.st (fun _ k => XS.ifNo X644.here hx rfl (hb hby at_223) rfl ((if0 _ _).trans (teq h223).2) k) ?_
                    refine own_Go.st (fun _ k => XS.iconst X644.here hx rfl (hb hby at_226) (XS.goto X644.here hx rfl (pc0 := 227) (pc' := 231) rfl (hb hby at_227) (by decide) (by decide) (XS.istore X644.here hx rfl (hb hby at_231) rfl (l' := #[.val (.int p1), .val (.int p2), .val (.int p3), .val (.int p4), .val (.int nl), .val (.int nr), .val (.ref b523), .val (.ref b545), .val (.ref x3), .val (.ref b586), .val (.ref b607), .val (.ref b621), .val (.ref b641), .val (.int (1 : Int32))]) rfl (XS.aload X644.here hx rfl (hb hby at_233) rfl rfl k)))) ?_
                    show own_Go _ _ _ _ (T644.setTop (mkF m 235 #[.val (.int p1), .val (.int p2), .val (.int p3), .val (.int p4), .val (.int nl), .val (.int nr), .val (.ref b523), .val (.ref b545), .val (.ref x3), .val (.ref b586), .val (.ref b607), .val (.ref b621), .val (.ref b641), .val (.int (1 : Int32))] [(.ref b641)]))
                    have f660 : Old Z Z.heap.size T644.heap := f657.keep K644 (allS (by omega) all0)
                    obtain ⟨cq659, kq659, q659a, q659b, q659c⟩ := isOf hZ596 rfl f644_0
                    obtain ⟨_, _, ⟨T659, L659, k659, n659⟩, -, X659, ⟨Lc659, hQ659, l659, y659, z659⟩, st659⟩ := X644.virtualBack hx (y := mN1) (z := mN1) hown596 (own_v hZ596 hw 210 rfl) (own_v hZ596 hw 211 rfl) (notFace_of_selects (args := #[]) (own_v hZ596 hw 213 rfl)) (own_v hZ596 hw 213 rfl) (own_v hZ596 hw 212 rfl) (by decide) (backOf (W := 0) (rm_matches l Z a0 hw [] b641 x1_644 x2_644 xsq3.length xsq6.length T644.heap f660 f644_0 f644_1 f644_2 f644_3 f644_4 hlq3 hlq6) hZ596 (own_w hw 214 rfl) (own_w hw 104 rfl) (by decide) (by decide)) q659a q659c (g := (mkF m 235 #[.val (.int p1), .val (.int p2), .val (.int p3), .val (.int p4), .val (.int nl), .val (.int nr), .val (.ref b523), .val (.ref b545), .val (.ref x3), .val (.ref b586), .val (.ref b607), .val (.ref b621), .val (.ref b641), .val (.int (1 : Int32))] [(.ref b641)])) rfl (by rw [hml]; rfl) (Steps.refl _) (argsL := []) (rest := []) (lenOf pd_319 rfl) rfl (by show 2 * 0 + _ ≤ _; exact Nat.le_of_eq rfl) (hb hby at_235) (fun _ _ => ⟨rfl, rfl, (by decide : 25 + 0 ≤ _), (by decide : 75 + 0 ≤ _)⟩)
                    dsimp only [Pt.U, Pt.locs, Pt.cells, Pt.slots] at X659 l659 y659 z659 st659 hQ659
                    subst l659 y659 z659
                    obtain ⟨rfl, N659q, K659⟩ := hQ659
                    have N659 := Fr.app N644 N659q
                    refine own_Go.tr st659 ?_
                    refine own_Go.st (fun _ k => XS.iload X659.here hx rfl (hb hby at_238) rfl k) ?_
                    show own_Go _ _ _ _ (T659.setTop (mkF m 240 #[.val (.int p1), .val (.int p2), .val (.int p3), .val (.int p4), .val (.int nl), .val (.int nr), .val (.ref b523), .val (.ref b545), .val (.ref x3), .val (.ref b586), .val (.ref b607), .val (.ref b621), .val (.ref b641), .val (.int (1 : Int32))] [(.int (1 : Int32)), (.int (if xsq3.length = 0 ∧ xsq6.length = 0 then (1 : Int32) else 0))]))
                    have hc661 : (if xsq3.length = 0 ∧ xsq6.length = 0 then (1 : Int32) else 0) = (1 : Int32) := if_pos ⟨hsq3.len.1.mpr h218, hsq6.len.1.mpr h223⟩
                    refine own_Go.st (fun _ k => XS.icmpNo X659.here hx rfl (hb hby at_240) rfl (teq hc661).2 k) ?_
                    refine own_Go.st (fun _ k => XS.iconst X659.here hx rfl (hb hby at_243) (XS.goto X659.here hx rfl (pc0 := 244) (pc' := 248) rfl (hb hby at_244) (by decide) (by decide) k)) ?_
                    show own_Go _ _ _ _ (T659.setTop (mkF m 248 #[.val (.int p1), .val (.int p2), .val (.int p3), .val (.int p4), .val (.int nl), .val (.int nr), .val (.ref b523), .val (.ref b545), .val (.ref x3), .val (.ref b586), .val (.ref b607), .val (.ref b621), .val (.ref b641), .val (.int (1 : Int32))] [(.int (1 : Int32))]))
                    obtain ⟨fs662, hr662, hrun662, hend662, hret662⟩ := X659.leaveW hS596 (by rw [K659]; exact (by omega)) (v := some (.int (nar .boolean (1 : Int32)))) (fun h => by rw [Bd.returns] at h; cases h)
                    have K663 : Keep h0 h641 [] := KJ640.ext E641
                    have K664 : Keep h0 T644.heap [] := K663.trans K644 (allS (Or.inr (by omega)) all0)
                    subst hPP
                    refine ⟨_, _, retN X659 hx (t := .boolean) Bd.returns (by simp) (hb hby at_248) hr662, hrun662, hend662, _, _, rfl, ?_, ?_, hret662.1, hret662.2.1, hret662.2.2.1, hret662.2.2.2.mono (by decide) (by decide)⟩
                    · show Q_law Z _ _ _ _ _ _ _ _ _ _ h0 _ T659.heap _
                      rw [K659]
                      exact ⟨rfl, N659, K664⟩
                    · have hfin := R644.trans (CHv.at X659 hZ596 hEL R644.1)
                      rw [← hh] at hfin
                      show CHr Z consts_1 s.vm s.heap T659.vm T659.heap
                      rw [K659]
                      exact hfin
                  ·
                    refine own_Go.st (fun _ k => XS.ifYes X644.here hx rfl (pc0 := 223) (pc' := 230) rfl (hb hby at_223) rfl ((if0 _ _).trans (feq h223).2) (by decide) (by decide) k) ?_
                    refine own_Go.st (fun _ k => XS.iconst X644.here hx rfl (hb hby at_230) (XS.istore X644.here hx rfl (hb hby at_231) rfl (l' := #[.val (.int p1), .val (.int p2), .val (.int p3), .val (.int p4), .val (.int nl), .val (.int nr), .val (.ref b523), .val (.ref b545), .val (.ref x3), .val (.ref b586), .val (.ref b607), .val (.ref b621), .val (.ref b641), .val (.int (0 : Int32))]) rfl (XS.aload X644.here hx rfl (hb hby at_233) rfl rfl k))) ?_
                    show own_Go _ _ _ _ (T644.setTop (mkF m 235 #[.val (.int p1), .val (.int p2), .val (.int p3), .val (.int p4), .val (.int nl), .val (.int nr), .val (.ref b523), .val (.ref b545), .val (.ref x3), .val (.ref b586), .val (.ref b607), .val (.ref b621), .val (.ref b641), .val (.int (0 : Int32))] [(.ref b641)]))
                    have f666 : Old Z Z.heap.size T644.heap := f657.keep K644 (allS (by omega) all0)
                    obtain ⟨cq665, kq665, q665a, q665b, q665c⟩ := isOf hZ596 rfl f644_0
                    obtain ⟨_, _, ⟨T665, L665, k665, n665⟩, -, X665, ⟨Lc665, hQ665, l665, y665, z665⟩, st665⟩ := X644.virtualBack hx (y := mN1) (z := mN1) hown596 (own_v hZ596 hw 210 rfl) (own_v hZ596 hw 211 rfl) (notFace_of_selects (args := #[]) (own_v hZ596 hw 213 rfl)) (own_v hZ596 hw 213 rfl) (own_v hZ596 hw 212 rfl) (by decide) (backOf (W := 0) (rm_matches l Z a0 hw [] b641 x1_644 x2_644 xsq3.length xsq6.length T644.heap f666 f644_0 f644_1 f644_2 f644_3 f644_4 hlq3 hlq6) hZ596 (own_w hw 214 rfl) (own_w hw 104 rfl) (by decide) (by decide)) q665a q665c (g := (mkF m 235 #[.val (.int p1), .val (.int p2), .val (.int p3), .val (.int p4), .val (.int nl), .val (.int nr), .val (.ref b523), .val (.ref b545), .val (.ref x3), .val (.ref b586), .val (.ref b607), .val (.ref b621), .val (.ref b641), .val (.int (0 : Int32))] [(.ref b641)])) rfl (by rw [hml]; rfl) (Steps.refl _) (argsL := []) (rest := []) (lenOf pd_319 rfl) rfl (by show 2 * 0 + _ ≤ _; exact Nat.le_of_eq rfl) (hb hby at_235) (fun _ _ => ⟨rfl, rfl, (by decide : 25 + 0 ≤ _), (by decide : 75 + 0 ≤ _)⟩)
                    dsimp only [Pt.U, Pt.locs, Pt.cells, Pt.slots] at X665 l665 y665 z665 st665 hQ665
                    subst l665 y665 z665
                    obtain ⟨rfl, N665q, K665⟩ := hQ665
                    have N665 := Fr.app N644 N665q
                    refine own_Go.tr st665 ?_
                    refine own_Go.st (fun _ k => XS.iload X665.here hx rfl (hb hby at_238) rfl k) ?_
                    show own_Go _ _ _ _ (T665.setTop (mkF m 240 #[.val (.int p1), .val (.int p2), .val (.int p3), .val (.int p4), .val (.int nl), .val (.int nr), .val (.ref b523), .val (.ref b545), .val (.ref x3), .val (.ref b586), .val (.ref b607), .val (.ref b621), .val (.ref b641), .val (.int (0 : Int32))] [(.int (0 : Int32)), (.int (if xsq3.length = 0 ∧ xsq6.length = 0 then (1 : Int32) else 0))]))
                    have hc667 : (if xsq3.length = 0 ∧ xsq6.length = 0 then (1 : Int32) else 0) = (0 : Int32) := if_neg (fun q => h223 (hsq6.len.1.mp q.2))
                    refine own_Go.st (fun _ k => XS.icmpNo X665.here hx rfl (hb hby at_240) rfl (teq hc667).2 k) ?_
                    refine own_Go.st (fun _ k => XS.iconst X665.here hx rfl (hb hby at_243) (XS.goto X665.here hx rfl (pc0 := 244) (pc' := 248) rfl (hb hby at_244) (by decide) (by decide) k)) ?_
                    show own_Go _ _ _ _ (T665.setTop (mkF m 248 #[.val (.int p1), .val (.int p2), .val (.int p3), .val (.int p4), .val (.int nl), .val (.int nr), .val (.ref b523), .val (.ref b545), .val (.ref x3), .val (.ref b586), .val (.ref b607), .val (.ref b621), .val (.ref b641), .val (.int (0 : Int32))] [(.int (1 : Int32))]))
                    obtain ⟨fs668, hr668, hrun668, hend668, hret668⟩ := X665.leaveW hS596 (by rw [K665]; exact (by omega)) (v := some (.int (nar .boolean (1 : Int32)))) (fun h => by rw [Bd.returns] at h; cases h)
                    have K669 : Keep h0 h641 [] := KJ640.ext E641
                    have K670 : Keep h0 T644.heap [] := K669.trans K644 (allS (Or.inr (by omega)) all0)
                    subst hPP
                    refine ⟨_, _, retN X665 hx (t := .boolean) Bd.returns (by simp) (hb hby at_248) hr668, hrun668, hend668, _, _, rfl, ?_, ?_, hret668.1, hret668.2.1, hret668.2.2.1, hret668.2.2.2.mono (by decide) (by decide)⟩
                    · show Q_law Z _ _ _ _ _ _ _ _ _ _ h0 _ T665.heap _
                      rw [K665]
                      exact ⟨rfl, N665, K670⟩
                    · have hfin := R644.trans (CHv.at X665 hZ596 hEL R644.1)
                      rw [← hh] at hfin
                      show CHr Z consts_1 s.vm s.heap T665.vm T665.heap
                      rw [K665]
                      exact hfin
                ·
                  refine own_Go.st (fun _ k => XS.ifYes X644.here hx rfl (pc0 := 218) (pc' := 230) rfl (hb hby at_218) rfl ((if0 _ _).trans (feq h218).2) (by decide) (by decide) k) ?_
                  refine own_Go.st (fun _ k => XS.iconst X644.here hx rfl (hb hby at_230) (XS.istore X644.here hx rfl (hb hby at_231) rfl (l' := #[.val (.int p1), .val (.int p2), .val (.int p3), .val (.int p4), .val (.int nl), .val (.int nr), .val (.ref b523), .val (.ref b545), .val (.ref x3), .val (.ref b586), .val (.ref b607), .val (.ref b621), .val (.ref b641), .val (.int (0 : Int32))]) rfl (XS.aload X644.here hx rfl (hb hby at_233) rfl rfl k))) ?_
                  show own_Go _ _ _ _ (T644.setTop (mkF m 235 #[.val (.int p1), .val (.int p2), .val (.int p3), .val (.int p4), .val (.int nl), .val (.int nr), .val (.ref b523), .val (.ref b545), .val (.ref x3), .val (.ref b586), .val (.ref b607), .val (.ref b621), .val (.ref b641), .val (.int (0 : Int32))] [(.ref b641)]))
                  have f672 : Old Z Z.heap.size T644.heap := f657.keep K644 (allS (by omega) all0)
                  obtain ⟨cq671, kq671, q671a, q671b, q671c⟩ := isOf hZ596 rfl f644_0
                  obtain ⟨_, _, ⟨T671, L671, k671, n671⟩, -, X671, ⟨Lc671, hQ671, l671, y671, z671⟩, st671⟩ := X644.virtualBack hx (y := mN1) (z := mN1) hown596 (own_v hZ596 hw 210 rfl) (own_v hZ596 hw 211 rfl) (notFace_of_selects (args := #[]) (own_v hZ596 hw 213 rfl)) (own_v hZ596 hw 213 rfl) (own_v hZ596 hw 212 rfl) (by decide) (backOf (W := 0) (rm_matches l Z a0 hw [] b641 x1_644 x2_644 xsq3.length xsq6.length T644.heap f672 f644_0 f644_1 f644_2 f644_3 f644_4 hlq3 hlq6) hZ596 (own_w hw 214 rfl) (own_w hw 104 rfl) (by decide) (by decide)) q671a q671c (g := (mkF m 235 #[.val (.int p1), .val (.int p2), .val (.int p3), .val (.int p4), .val (.int nl), .val (.int nr), .val (.ref b523), .val (.ref b545), .val (.ref x3), .val (.ref b586), .val (.ref b607), .val (.ref b621), .val (.ref b641), .val (.int (0 : Int32))] [(.ref b641)])) rfl (by rw [hml]; rfl) (Steps.refl _) (argsL := []) (rest := []) (lenOf pd_319 rfl) rfl (by show 2 * 0 + _ ≤ _; exact Nat.le_of_eq rfl) (hb hby at_235) (fun _ _ => ⟨rfl, rfl, (by decide : 25 + 0 ≤ _), (by decide : 75 + 0 ≤ _)⟩)
                  dsimp only [Pt.U, Pt.locs, Pt.cells, Pt.slots] at X671 l671 y671 z671 st671 hQ671
                  subst l671 y671 z671
                  obtain ⟨rfl, N671q, K671⟩ := hQ671
                  have N671 := Fr.app N644 N671q
                  refine own_Go.tr st671 ?_
                  refine own_Go.st (fun _ k => XS.iload X671.here hx rfl (hb hby at_238) rfl k) ?_
                  show own_Go _ _ _ _ (T671.setTop (mkF m 240 #[.val (.int p1), .val (.int p2), .val (.int p3), .val (.int p4), .val (.int nl), .val (.int nr), .val (.ref b523), .val (.ref b545), .val (.ref x3), .val (.ref b586), .val (.ref b607), .val (.ref b621), .val (.ref b641), .val (.int (0 : Int32))] [(.int (0 : Int32)), (.int (if xsq3.length = 0 ∧ xsq6.length = 0 then (1 : Int32) else 0))]))
                  have hc673 : (if xsq3.length = 0 ∧ xsq6.length = 0 then (1 : Int32) else 0) = (0 : Int32) := if_neg (fun q => h218 (hsq3.len.1.mp q.1))
                  refine own_Go.st (fun _ k => XS.icmpNo X671.here hx rfl (hb hby at_240) rfl (teq hc673).2 k) ?_
                  refine own_Go.st (fun _ k => XS.iconst X671.here hx rfl (hb hby at_243) (XS.goto X671.here hx rfl (pc0 := 244) (pc' := 248) rfl (hb hby at_244) (by decide) (by decide) k)) ?_
                  show own_Go _ _ _ _ (T671.setTop (mkF m 248 #[.val (.int p1), .val (.int p2), .val (.int p3), .val (.int p4), .val (.int nl), .val (.int nr), .val (.ref b523), .val (.ref b545), .val (.ref x3), .val (.ref b586), .val (.ref b607), .val (.ref b621), .val (.ref b641), .val (.int (0 : Int32))] [(.int (1 : Int32))]))
                  obtain ⟨fs674, hr674, hrun674, hend674, hret674⟩ := X671.leaveW hS596 (by rw [K671]; exact (by omega)) (v := some (.int (nar .boolean (1 : Int32)))) (fun h => by rw [Bd.returns] at h; cases h)
                  have K675 : Keep h0 h641 [] := KJ640.ext E641
                  have K676 : Keep h0 T644.heap [] := K675.trans K644 (allS (Or.inr (by omega)) all0)
                  subst hPP
                  refine ⟨_, _, retN X671 hx (t := .boolean) Bd.returns (by simp) (hb hby at_248) hr674, hrun674, hend674, _, _, rfl, ?_, ?_, hret674.1, hret674.2.1, hret674.2.2.1, hret674.2.2.2.mono (by decide) (by decide)⟩
                  · show Q_law Z _ _ _ _ _ _ _ _ _ _ h0 _ T671.heap _
                    rw [K671]
                    exact ⟨rfl, N671, K676⟩
                  · have hfin := R644.trans (CHv.at X671 hZ596 hEL R644.1)
                    rw [← hh] at hfin
                    show CHr Z consts_1 s.vm s.heap T671.vm T671.heap
                    rw [K671]
                    exact hfin
              refine own_Go.st (fun _ k => XS.iload XJ639.here hx rfl (hb hby at_189) rfl (XS.iconst XJ639.here hx rfl (hb hby at_191) k)) ?_
              show own_Go _ _ _ _ (TJ639.setTop (mkF m 192 #[.val (.int p1), .val (.int p2), .val (.int p3), .val (.int p4), .val (.int nl), .val (.int nr), .val (.ref b523), .val (.ref b545), .val (.ref x3), .val (.ref b586), .val (.ref b607), .val (.ref b621), .unset, .unset] [(.int (2 : Int32)), (.int nr)]))
              by_cases h203q : (2 : Int32) < nr
              ·
                refine own_Go.st (fun _ k => XS.icmpNo XJ639.here hx rfl (hb hby at_192) rfl (tlt h203q).2.2.2 k) ?_
                have hzq6 : ¬ nr = 0 := own_03p hnr (Or.inr (Or.inr rfl)) h203q
                have hpq6 := hsq5.pos hzq6
                obtain ⟨hpq61, rfl, hpq63, hpq64, hpq65⟩ := hpq6
                refine own_Go.st (fun _ k => XS.aload XJ639.here hx rfl (hb hby at_195) rfl rfl (XS.aload XJ639.here hx rfl (hb hby at_197) rfl rfl k)) ?_
                show own_Go _ _ _ _ (TJ639.setTop (mkF m 199 #[.val (.int p1), .val (.int p2), .val (.int p3), .val (.int p4), .val (.int nl), .val (.int nr), .val (.ref b523), .val (.ref b545), .val (.ref x3), .val (.ref b586), .val (.ref b607), .val (.ref b621), .unset, .unset] [(.ref b545), (.ref b621)]))
                obtain ⟨cq677, kq677, q677a, q677b, q677c⟩ := isOf hZ596 eJ639 fJ639_0
                obtain ⟨_, _, ⟨T677, L677, k677, n677⟩, -, X677, ⟨Lc677, hQ677, l677, y677, z677⟩, st677⟩ := XJ639.virtualBack hx (y := mN14) (z := mN14) hown596 (own_v hZ596 hw 71 rfl) (own_v hZ596 hw 72 rfl) (notFace_of_selects (args := #[]) (own_v hZ596 hw 74 rfl)) (own_v hZ596 hw 74 rfl) (own_v hZ596 hw 73 rfl) (by decide) (backOf (W := 0) (rm_addN l Z a0 hw [] b621 b545 dq5 xsq5 kq5 mcq5 hJ639 OJ639 fJ639_0 fJ639_1 fJ639_2 fJ639_15 fJ639_4 fJ639_3 (by omega) (by omega) hpq65 (by omega)) hZ596 (own_w hw 75 rfl) (own_w hw 49 rfl) (by decide) (by decide)) q677a q677c (g := (mkF m 199 #[.val (.int p1), .val (.int p2), .val (.int p3), .val (.int p4), .val (.int nl), .val (.int nr), .val (.ref b523), .val (.ref b545), .val (.ref x3), .val (.ref b586), .val (.ref b607), .val (.ref b621), .unset, .unset] [(.ref b545), (.ref b621)])) rfl (by rw [hml]; rfl) (Steps.refl _) (argsL := [(.ref b545)]) (rest := []) (lenOf pd_380 rfl) rfl (by show 2 * 0 + _ ≤ _; exact Nat.le_of_eq rfl) (hb hby at_199) (fun _ _ => ⟨rfl, eJ639, (by decide : 18 + 0 ≤ _), (by decide : 57 + 0 ≤ _)⟩)
                dsimp only [Pt.U, Pt.locs, Pt.cells, Pt.slots] at X677 l677 y677 z677 st677 hQ677
                subst l677 y677 z677
                obtain ⟨mc2_677, rfl, N677q, K677, f677_0, f677_1, f677_2, f677_3, f677_4⟩ := hQ677
                have N677 := Fr.app NJ639 N677q
                have Sf678 : Safe Z consts_1 T596.vm hJ639 b621 := Safe.exa hZ596.alike fJ639_0 (by decide) (by decide)
                have Sf679 : Safe Z consts_1 T596.vm hJ639 dq5 := Safe.arv hZ596.alike fJ639_4 (by decide)
                have z677 : hJ639.size ≤ T677.heap.size := K677.1
                have R677 : CHr Z consts_1 s.vm h0 T596.vm T677.heap := RJ639.trans (CHr.keep K677 (sfS Sf678 (sfS Sf679 sf0)) RJ639.1)
                have lt677_0 : @LT.lt Nat _ b621 T677.heap.size := f677_0.lt
                have lt677_1 : @LT.lt Nat _ b621 T677.heap.size := f677_1.lt
                have lt677_2 : @LT.lt Nat _ dq5 T677.heap.size := f677_2.lt
                have lt677_3 : @LT.lt Nat _ b621 T677.heap.size := f677_3.lt
                have lt677_4 : @LT.lt Nat _ b621 T677.heap.size := f677_4.lt
                have f680 : own_All Z T677.heap xsq5 := fJ639_6.keep K677
                have f681 : Exa Z T677.heap b545 "java/lang/String" := fJ639_15.keep K677
                have hA677 := own_All.push f680 f681
                refine own_Go.tr st677 ?_
                refine own_Go.st (fun _ k => XS.pop X677.here hx rfl (hb hby at_202) rfl rfl k) ?_
                show own_Go _ _ _ _ (T677.setTop (mkF m 203 #[.val (.int p1), .val (.int p2), .val (.int p3), .val (.int p4), .val (.int nl), .val (.int nr), .val (.ref b523), .val (.ref b545), .val (.ref x3), .val (.ref b586), .val (.ref b607), .val (.ref b621), .unset, .unset] []))
                have f682 : Exa Z T677.heap dq5 "[Ljava/lang/Object;" := fJ639_5.keep K677
                have f683 : Exa Z T677.heap b607 "java/util/ArrayList" := fJ639_7.keep K677
                have ne684 : @Ne Nat b607 dq5 := Exa.ne f683 f682 (by decide)
                have f685 : Fld Z T677.heap b607 "java/util/ArrayList" "elementData" "[Ljava/lang/Object;" (.ref dq3) := fJ639_8.keep K677 (ninS (by show @Ne Nat b607 b621; omega) (ninS ne684 nin0))
                have f686 : Fld Z T677.heap b607 "java/util/ArrayList" "size" "I" (.int (Int32.ofNat xsq3.length)) := fJ639_9.keep K677 (ninS (by show @Ne Nat b607 b621; omega) (ninS ne684 nin0))
                have f687 : Fld Z T677.heap b607 "java/util/AbstractList" "modCount" "I" (.int mcq3) := fJ639_10.keep K677 (ninS (by show @Ne Nat b607 b621; omega) (ninS ne684 nin0))
                have ne688 : @Ne Nat dq3 b621 := Exa.ne fJ639_12 fJ639_0 (by decide)
                have f689 : Arv Z T677.heap dq3 kq3 (.object "java/lang/Object") (Int32.ofNat capq3) (xsq3.map Value.ref) .null := fJ639_11.keep K677 (ninS ne688 (ninS (by show @Ne Nat dq3 dq5; omega) nin0))
                have f690 : Exa Z T677.heap dq3 "[Ljava/lang/Object;" := fJ639_12.keep K677
                have f691 : own_All Z T677.heap xsq3 := fJ639_13.keep K677
                have f692 : Exa Z T677.heap b523 "java/lang/String" := fJ639_14.keep K677
                have f693 : Exa Z T677.heap x3 "java/lang/String" := fJ639_16.keep K677
                have ne694 : @Ne Nat ad b621 := Exa.ne fJ639_18 fJ639_0 (by decide)
                have f695 : Arv Z T677.heap ad ka (.object "java/lang/Object") (0 : Int32) [] .null := fJ639_17.keep K677 (ninS ne694 (ninS (by show @Ne Nat ad dq5; omega) nin0))
                have f696 : Exa Z T677.heap ad "[Ljava/lang/Object;" := fJ639_18.keep K677
                have K697 : Keep h0 T677.heap [] := KJ639.trans K677 (allS (Or.inr (by omega)) (allS (Or.inr (by omega)) all0))
                have f698 : Old Z Z.heap.size T677.heap := OJ639.keep K677 (allS (by omega) (allS (by omega) all0))
                exact HJ640 dq5 (xsq5 ++ [b545]) 10 kq5 mc2_677 T677 T677.heap _ (Or.inr ⟨hzq6, by simp, rfl, hpq63, hpq64, hpq65⟩) (by simp only [List.length_append, List.length_cons, List.length_nil]; omega) (own_standW X677 (by decide) (by decide)) rfl N677 K697 f698 (by omega) R677 f677_0 f677_1 f677_3 f677_4 f677_2 f682 hA677 f683 f685 f686 f687 f689 f690 f691 f692 f681 f693 f695 f696
              ·
                refine own_Go.st (fun _ k => XS.icmpYes XJ639.here hx rfl (pc0 := 192) (pc' := 203) rfl (hb hby at_192) rfl (flt h203q).2.2.2 (by decide) (by decide) k) ?_
                show own_Go _ _ _ _ (TJ639.setTop (mkF m 203 #[.val (.int p1), .val (.int p2), .val (.int p3), .val (.int p4), .val (.int nl), .val (.int nr), .val (.ref b523), .val (.ref b545), .val (.ref x3), .val (.ref b586), .val (.ref b607), .val (.ref b621), .unset, .unset] []))
                exact HJ640 dq5 xsq5 capq5 kq5 mcq5 TJ639 hJ639 _ hsq5 (by omega) (own_standW XJ639 (by decide) (by decide)) eJ639 NJ639 KJ639 OJ639 (by omega) RJ639 fJ639_0 fJ639_1 fJ639_2 fJ639_3 fJ639_4 fJ639_5 fJ639_6 fJ639_7 fJ639_8 fJ639_9 fJ639_10 fJ639_11 fJ639_12 fJ639_13 fJ639_14 fJ639_15 fJ639_16 fJ639_17 fJ639_18
            refine own_Go.st (fun _ k => XS.iload XJ638.here hx rfl (hb hby at_175) rfl (XS.iconst XJ638.here hx rfl (hb hby at_177) k)) ?_
            show own_Go _ _ _ _ (TJ638.setTop (mkF m 178 #[.val (.int p1), .val (.int p2), .val (.int p3), .val (.int p4), .val (.int nl), .val (.int nr), .val (.ref b523), .val (.ref b545), .val (.ref x3), .val (.ref b586), .val (.ref b607), .val (.ref b621), .unset, .unset] [(.int (1 : Int32)), (.int nr)]))
            by_cases h189q : (1 : Int32) < nr
            ·
              refine own_Go.st (fun _ k => XS.icmpNo XJ638.here hx rfl (hb hby at_178) rfl (tlt h189q).2.2.2 k) ?_
              have hzq5 : ¬ nr = 0 := own_03p hnr (Or.inr (Or.inl rfl)) h189q
              have hpq5 := hsq4.pos hzq5
              obtain ⟨hpq51, rfl, hpq53, hpq54, hpq55⟩ := hpq5
              refine own_Go.st (fun _ k => XS.aload XJ638.here hx rfl (hb hby at_181) rfl rfl (XS.aload XJ638.here hx rfl (hb hby at_183) rfl rfl k)) ?_
              show own_Go _ _ _ _ (TJ638.setTop (mkF m 185 #[.val (.int p1), .val (.int p2), .val (.int p3), .val (.int p4), .val (.int nl), .val (.int nr), .val (.ref b523), .val (.ref b545), .val (.ref x3), .val (.ref b586), .val (.ref b607), .val (.ref b621), .unset, .unset] [(.ref b523), (.ref b621)]))
              obtain ⟨cq699, kq699, q699a, q699b, q699c⟩ := isOf hZ596 eJ638 fJ638_0
              obtain ⟨_, _, ⟨T699, L699, k699, n699⟩, -, X699, ⟨Lc699, hQ699, l699, y699, z699⟩, st699⟩ := XJ638.virtualBack hx (y := mN14) (z := mN14) hown596 (own_v hZ596 hw 71 rfl) (own_v hZ596 hw 72 rfl) (notFace_of_selects (args := #[]) (own_v hZ596 hw 74 rfl)) (own_v hZ596 hw 74 rfl) (own_v hZ596 hw 73 rfl) (by decide) (backOf (W := 0) (rm_addN l Z a0 hw [] b621 b523 dq4 xsq4 kq4 mcq4 hJ638 OJ638 fJ638_0 fJ638_1 fJ638_2 fJ638_14 fJ638_4 fJ638_3 (by omega) (by omega) hpq55 (by omega)) hZ596 (own_w hw 75 rfl) (own_w hw 49 rfl) (by decide) (by decide)) q699a q699c (g := (mkF m 185 #[.val (.int p1), .val (.int p2), .val (.int p3), .val (.int p4), .val (.int nl), .val (.int nr), .val (.ref b523), .val (.ref b545), .val (.ref x3), .val (.ref b586), .val (.ref b607), .val (.ref b621), .unset, .unset] [(.ref b523), (.ref b621)])) rfl (by rw [hml]; rfl) (Steps.refl _) (argsL := [(.ref b523)]) (rest := []) (lenOf pd_380 rfl) rfl (by show 2 * 0 + _ ≤ _; exact Nat.le_of_eq rfl) (hb hby at_185) (fun _ _ => ⟨rfl, eJ638, (by decide : 18 + 0 ≤ _), (by decide : 57 + 0 ≤ _)⟩)
              dsimp only [Pt.U, Pt.locs, Pt.cells, Pt.slots] at X699 l699 y699 z699 st699 hQ699
              subst l699 y699 z699
              obtain ⟨mc2_699, rfl, N699q, K699, f699_0, f699_1, f699_2, f699_3, f699_4⟩ := hQ699
              have N699 := Fr.app NJ638 N699q
              have Sf700 : Safe Z consts_1 T596.vm hJ638 b621 := Safe.exa hZ596.alike fJ638_0 (by decide) (by decide)
              have Sf701 : Safe Z consts_1 T596.vm hJ638 dq4 := Safe.arv hZ596.alike fJ638_4 (by decide)
              have z699 : hJ638.size ≤ T699.heap.size := K699.1
              have R699 : CHr Z consts_1 s.vm h0 T596.vm T699.heap := RJ638.trans (CHr.keep K699 (sfS Sf700 (sfS Sf701 sf0)) RJ638.1)
              have lt699_0 : @LT.lt Nat _ b621 T699.heap.size := f699_0.lt
              have lt699_1 : @LT.lt Nat _ b621 T699.heap.size := f699_1.lt
              have lt699_2 : @LT.lt Nat _ dq4 T699.heap.size := f699_2.lt
              have lt699_3 : @LT.lt Nat _ b621 T699.heap.size := f699_3.lt
              have lt699_4 : @LT.lt Nat _ b621 T699.heap.size := f699_4.lt
              have f702 : own_All Z T699.heap xsq4 := fJ638_6.keep K699
              have f703 : Exa Z T699.heap b523 "java/lang/String" := fJ638_14.keep K699
              have hA699 := own_All.push f702 f703
              refine own_Go.tr st699 ?_
              refine own_Go.st (fun _ k => XS.pop X699.here hx rfl (hb hby at_188) rfl rfl k) ?_
              show own_Go _ _ _ _ (T699.setTop (mkF m 189 #[.val (.int p1), .val (.int p2), .val (.int p3), .val (.int p4), .val (.int nl), .val (.int nr), .val (.ref b523), .val (.ref b545), .val (.ref x3), .val (.ref b586), .val (.ref b607), .val (.ref b621), .unset, .unset] []))
              have f704 : Exa Z T699.heap dq4 "[Ljava/lang/Object;" := fJ638_5.keep K699
              have f705 : Exa Z T699.heap b607 "java/util/ArrayList" := fJ638_7.keep K699
              have ne706 : @Ne Nat b607 dq4 := Exa.ne f705 f704 (by decide)
              have f707 : Fld Z T699.heap b607 "java/util/ArrayList" "elementData" "[Ljava/lang/Object;" (.ref dq3) := fJ638_8.keep K699 (ninS (by show @Ne Nat b607 b621; omega) (ninS ne706 nin0))
              have f708 : Fld Z T699.heap b607 "java/util/ArrayList" "size" "I" (.int (Int32.ofNat xsq3.length)) := fJ638_9.keep K699 (ninS (by show @Ne Nat b607 b621; omega) (ninS ne706 nin0))
              have f709 : Fld Z T699.heap b607 "java/util/AbstractList" "modCount" "I" (.int mcq3) := fJ638_10.keep K699 (ninS (by show @Ne Nat b607 b621; omega) (ninS ne706 nin0))
              have ne710 : @Ne Nat dq3 b621 := Exa.ne fJ638_12 fJ638_0 (by decide)
              have f711 : Arv Z T699.heap dq3 kq3 (.object "java/lang/Object") (Int32.ofNat capq3) (xsq3.map Value.ref) .null := fJ638_11.keep K699 (ninS ne710 (ninS (by show @Ne Nat dq3 dq4; omega) nin0))
              have f712 : Exa Z T699.heap dq3 "[Ljava/lang/Object;" := fJ638_12.keep K699
              have f713 : own_All Z T699.heap xsq3 := fJ638_13.keep K699
              have f714 : Exa Z T699.heap b545 "java/lang/String" := fJ638_15.keep K699
              have f715 : Exa Z T699.heap x3 "java/lang/String" := fJ638_16.keep K699
              have ne716 : @Ne Nat ad b621 := Exa.ne fJ638_18 fJ638_0 (by decide)
              have f717 : Arv Z T699.heap ad ka (.object "java/lang/Object") (0 : Int32) [] .null := fJ638_17.keep K699 (ninS ne716 (ninS (by show @Ne Nat ad dq4; omega) nin0))
              have f718 : Exa Z T699.heap ad "[Ljava/lang/Object;" := fJ638_18.keep K699
              have K719 : Keep h0 T699.heap [] := KJ638.trans K699 (allS (Or.inr (by omega)) (allS (Or.inr (by omega)) all0))
              have f720 : Old Z Z.heap.size T699.heap := OJ638.keep K699 (allS (by omega) (allS (by omega) all0))
              exact HJ639 dq4 (xsq4 ++ [b523]) 10 kq4 mc2_699 T699 T699.heap _ (Or.inr ⟨hzq5, by simp, rfl, hpq53, hpq54, hpq55⟩) (by simp only [List.length_append, List.length_cons, List.length_nil]; omega) (own_standW X699 (by decide) (by decide)) rfl N699 K719 f720 (by omega) R699 f699_0 f699_1 f699_3 f699_4 f699_2 f704 hA699 f705 f707 f708 f709 f711 f712 f713 f703 f714 f715 f717 f718
            ·
              refine own_Go.st (fun _ k => XS.icmpYes XJ638.here hx rfl (pc0 := 178) (pc' := 189) rfl (hb hby at_178) rfl (flt h189q).2.2.2 (by decide) (by decide) k) ?_
              show own_Go _ _ _ _ (TJ638.setTop (mkF m 189 #[.val (.int p1), .val (.int p2), .val (.int p3), .val (.int p4), .val (.int nl), .val (.int nr), .val (.ref b523), .val (.ref b545), .val (.ref x3), .val (.ref b586), .val (.ref b607), .val (.ref b621), .unset, .unset] []))
              exact HJ639 dq4 xsq4 capq4 kq4 mcq4 TJ638 hJ638 _ hsq4 (by omega) (own_standW XJ638 (by decide) (by decide)) eJ638 NJ638 KJ638 OJ638 (by omega) RJ638 fJ638_0 fJ638_1 fJ638_2 fJ638_3 fJ638_4 fJ638_5 fJ638_6 fJ638_7 fJ638_8 fJ638_9 fJ638_10 fJ638_11 fJ638_12 fJ638_13 fJ638_14 fJ638_15 fJ638_16 fJ638_17 fJ638_18
          refine own_Go.st (fun _ k => XS.iload XJ637.here hx rfl (hb hby at_162) rfl k) ?_
          show own_Go _ _ _ _ (TJ637.setTop (mkF m 164 #[.val (.int p1), .val (.int p2), .val (.int p3), .val (.int p4), .val (.int nl), .val (.int nr), .val (.ref b523), .val (.ref b545), .val (.ref x3), .val (.ref b586), .val (.ref b607), .val (.ref b621), .unset, .unset] [(.int nr)]))
          by_cases h175q : (0 : Int32) < nr
          ·
            refine own_Go.st (fun _ k => XS.ifNo XJ637.here hx rfl (hb hby at_164) rfl ((if0 _ _).trans (tlt h175q).2.2.2) k) ?_
            have hzq4 : ¬ nr = 0 := own_03p hnr (Or.inl rfl) h175q
            refine own_Go.st (fun _ k => XS.aload XJ637.here hx rfl (hb hby at_167) rfl rfl (XS.aload XJ637.here hx rfl (hb hby at_169) rfl rfl k)) ?_
            show own_Go _ _ _ _ (TJ637.setTop (mkF m 171 #[.val (.int p1), .val (.int p2), .val (.int p3), .val (.int p4), .val (.int nl), .val (.int nr), .val (.ref b523), .val (.ref b545), .val (.ref x3), .val (.ref b586), .val (.ref b607), .val (.ref b621), .unset, .unset] [(.ref x3), (.ref b621)]))
            obtain ⟨cq721, kq721, q721a, q721b, q721c⟩ := isOf hZ596 eJ637 fJ637_7
            obtain ⟨_, _, ⟨T721, L721, k721, n721⟩, -, X721, ⟨Lc721, hQ721, l721, y721, z721⟩, st721⟩ := XJ637.virtualBack hx (y := mN14) (z := mN14) hown596 (own_v hZ596 hw 71 rfl) (own_v hZ596 hw 72 rfl) (notFace_of_selects (args := #[]) (own_v hZ596 hw 74 rfl)) (own_v hZ596 hw 74 rfl) (own_v hZ596 hw 73 rfl) (by decide) (backOf (W := 0) (rm_addG l Z a0 hw [] b621 x3 ad ka (0 : Int32) hJ637 OJ637 fJ637_7 fJ637_8 fJ637_9 fJ637_14 fJ637_13 fJ637_10 st_DEFAULTCAPACITY_EMPTY_ELEMENTDATA (by omega)) hZ596 (own_w hw 75 rfl) (own_w hw 49 rfl) (by decide) (by decide)) q721a q721c (g := (mkF m 171 #[.val (.int p1), .val (.int p2), .val (.int p3), .val (.int p4), .val (.int nl), .val (.int nr), .val (.ref b523), .val (.ref b545), .val (.ref x3), .val (.ref b586), .val (.ref b607), .val (.ref b621), .unset, .unset] [(.ref x3), (.ref b621)])) rfl (by rw [hml]; rfl) (Steps.refl _) (argsL := [(.ref x3)]) (rest := []) (lenOf pd_380 rfl) rfl (by show 2 * 0 + _ ≤ _; exact Nat.le_of_eq rfl) (hb hby at_171) (fun _ _ => ⟨rfl, eJ637, (by decide : 17 + 1 ≤ _), (by decide : 47 + 10 ≤ _)⟩)
            dsimp only [Pt.U, Pt.locs, Pt.cells, Pt.slots] at X721 l721 y721 z721 st721 hQ721
            subst l721 y721 z721
            obtain ⟨x_721, k_721, mc2_721, rfl, N721q, K721, f721_0, f721_1, f721_2, f721_3, f721_4, f721_5, pr721_0, pr721_1⟩ := hQ721
            have N721 := Fr.app NJ637 N721q
            have Sf722 : Safe Z consts_1 T596.vm hJ637 b621 := Safe.exa hZ596.alike fJ637_7 (by decide) (by decide)
            have z721 : hJ637.size ≤ T721.heap.size := K721.1
            have R721 : CHr Z consts_1 s.vm h0 T596.vm T721.heap := RJ637.trans (CHr.keep K721 (sfS Sf722 sf0) RJ637.1)
            have lt721_0 : @LT.lt Nat _ b621 T721.heap.size := f721_0.lt
            have lt721_1 : @LT.lt Nat _ b621 T721.heap.size := f721_1.lt
            have lt721_2 : @LT.lt Nat _ x_721 T721.heap.size := f721_2.lt
            have lt721_3 : @LT.lt Nat _ x_721 T721.heap.size := f721_3.lt
            have lt721_4 : @LT.lt Nat _ b621 T721.heap.size := f721_4.lt
            have lt721_5 : @LT.lt Nat _ b621 T721.heap.size := f721_5.lt
            have f723 : Exa Z T721.heap x3 "java/lang/String" := fJ637_13.keep K721
            have hA721 : own_All Z T721.heap ([] ++ [x3] : List Addr) := own_All.push own_All.nil f723
            have f724 : Fld Z T721.heap b621 "java/util/ArrayList" "size" "I" (.int (Int32.ofNat ([] ++ [x3] : List Addr).length)) := f721_4
            refine own_Go.tr st721 ?_
            refine own_Go.st (fun _ k => XS.pop X721.here hx rfl (hb hby at_174) rfl rfl k) ?_
            show own_Go _ _ _ _ (T721.setTop (mkF m 175 #[.val (.int p1), .val (.int p2), .val (.int p3), .val (.int p4), .val (.int nl), .val (.int nr), .val (.ref b523), .val (.ref b545), .val (.ref x3), .val (.ref b586), .val (.ref b607), .val (.ref b621), .unset, .unset] []))
            have f725 : Exa Z T721.heap b607 "java/util/ArrayList" := fJ637_0.keep K721
            have f726 : Fld Z T721.heap b607 "java/util/ArrayList" "elementData" "[Ljava/lang/Object;" (.ref dq3) := fJ637_1.keep K721 (ninS (by show @Ne Nat b607 b621; omega) nin0)
            have f727 : Fld Z T721.heap b607 "java/util/ArrayList" "size" "I" (.int (Int32.ofNat xsq3.length)) := fJ637_2.keep K721 (ninS (by show @Ne Nat b607 b621; omega) nin0)
            have f728 : Fld Z T721.heap b607 "java/util/AbstractList" "modCount" "I" (.int mcq3) := fJ637_3.keep K721 (ninS (by show @Ne Nat b607 b621; omega) nin0)
            have ne729 : @Ne Nat dq3 b621 := Exa.ne fJ637_5 fJ637_7 (by decide)
            have f730 : Arv Z T721.heap dq3 kq3 (.object "java/lang/Object") (Int32.ofNat capq3) (xsq3.map Value.ref) .null := fJ637_4.keep K721 (ninS ne729 nin0)
            have f731 : Exa Z T721.heap dq3 "[Ljava/lang/Object;" := fJ637_5.keep K721
            have f732 : own_All Z T721.heap xsq3 := fJ637_6.keep K721
            have f733 : Exa Z T721.heap b523 "java/lang/String" := fJ637_11.keep K721
            have f734 : Exa Z T721.heap b545 "java/lang/String" := fJ637_12.keep K721
            have ne735 : @Ne Nat ad b621 := Exa.ne fJ637_15 fJ637_7 (by decide)
            have f736 : Arv Z T721.heap ad ka (.object "java/lang/Object") (0 : Int32) [] .null := fJ637_14.keep K721 (ninS ne735 nin0)
            have f737 : Exa Z T721.heap ad "[Ljava/lang/Object;" := fJ637_15.keep K721
            have K738 : Keep h0 T721.heap [] := KJ637.trans K721 (allS (Or.inr (by omega)) all0)
            have f739 : Old Z Z.heap.size T721.heap := OJ637.keep K721 (allS (by omega) all0)
            exact HJ638 x_721 ([] ++ [x3] : List Addr) 10 k_721 mc2_721 T721 T721.heap _ (Or.inr ⟨hzq4, Nat.le_of_ble_eq_true rfl, rfl, by omega, by omega, pr721_1⟩) (Nat.le_of_ble_eq_true rfl) (own_standW X721 (by decide) (by decide)) rfl N721 K738 f739 (by omega) R721 f721_0 f721_1 f724 f721_5 f721_2 f721_3 hA721 f725 f726 f727 f728 f730 f731 f732 f733 f734 f723 f736 f737
          ·
            refine own_Go.st (fun _ k => XS.ifYes XJ637.here hx rfl (pc0 := 164) (pc' := 175) rfl (hb hby at_164) rfl ((if0 _ _).trans (flt h175q).2.2.2) (by decide) (by decide) k) ?_
            have hzq4 := own_03z hnr h175q
            show own_Go _ _ _ _ (TJ637.setTop (mkF m 175 #[.val (.int p1), .val (.int p2), .val (.int p3), .val (.int p4), .val (.int nl), .val (.int nr), .val (.ref b523), .val (.ref b545), .val (.ref x3), .val (.ref b586), .val (.ref b607), .val (.ref b621), .unset, .unset] []))
            have f740 : Arv Z hJ637 ad ka (.object "java/lang/Object") (Int32.ofNat 0) (([] : List Addr).map Value.ref) .null := fJ637_14
            exact HJ638 ad ([] : List Addr) 0 ka (0 : Int32) TJ637 hJ637 _ (Or.inl ⟨hzq4, rfl, rfl, rfl⟩) (Nat.zero_le _) (own_standW XJ637 (by decide) (by decide)) eJ637 NJ637 KJ637 OJ637 (by omega) RJ637 fJ637_7 fJ637_8 fJ637_9 fJ637_10 f740 fJ637_15 own_All.nil fJ637_0 fJ637_1 fJ637_2 fJ637_3 fJ637_4 fJ637_5 fJ637_6 fJ637_11 fJ637_12 fJ637_13 fJ637_14 fJ637_15
        refine own_Go.st (fun _ k => XS.iload XJ636.here hx rfl (hb hby at_148) rfl (XS.iconst XJ636.here hx rfl (hb hby at_150) k)) ?_
        show own_Go _ _ _ _ (TJ636.setTop (mkF m 151 #[.val (.int p1), .val (.int p2), .val (.int p3), .val (.int p4), .val (.int nl), .val (.int nr), .val (.ref b523), .val (.ref b545), .val (.ref x3), .val (.ref b586), .val (.ref b607), .val (.ref b621), .unset, .unset] [(.int (2 : Int32)), (.int nl)]))
        by_cases h162q : (2 : Int32) < nl
        ·
          refine own_Go.st (fun _ k => XS.icmpNo XJ636.here hx rfl (hb hby at_151) rfl (tlt h162q).2.2.2 k) ?_
          have hzq3 : ¬ nl = 0 := own_03p hnl (Or.inr (Or.inr rfl)) h162q
          have hpq3 := hsq2.pos hzq3
          obtain ⟨hpq31, rfl, hpq33, hpq34, hpq35⟩ := hpq3
          refine own_Go.st (fun _ k => XS.aload XJ636.here hx rfl (hb hby at_154) rfl rfl (XS.aload XJ636.here hx rfl (hb hby at_156) rfl rfl k)) ?_
          show own_Go _ _ _ _ (TJ636.setTop (mkF m 158 #[.val (.int p1), .val (.int p2), .val (.int p3), .val (.int p4), .val (.int nl), .val (.int nr), .val (.ref b523), .val (.ref b545), .val (.ref x3), .val (.ref b586), .val (.ref b607), .val (.ref b621), .unset, .unset] [(.ref x3), (.ref b607)]))
          obtain ⟨cq741, kq741, q741a, q741b, q741c⟩ := isOf hZ596 eJ636 fJ636_0
          obtain ⟨_, _, ⟨T741, L741, k741, n741⟩, -, X741, ⟨Lc741, hQ741, l741, y741, z741⟩, st741⟩ := XJ636.virtualBack hx (y := mN14) (z := mN14) hown596 (own_v hZ596 hw 71 rfl) (own_v hZ596 hw 72 rfl) (notFace_of_selects (args := #[]) (own_v hZ596 hw 74 rfl)) (own_v hZ596 hw 74 rfl) (own_v hZ596 hw 73 rfl) (by decide) (backOf (W := 0) (rm_addN l Z a0 hw [] b607 x3 dq2 xsq2 kq2 mcq2 hJ636 OJ636 fJ636_0 fJ636_1 fJ636_2 fJ636_13 fJ636_4 fJ636_3 (by omega) (by omega) hpq35 (by omega)) hZ596 (own_w hw 75 rfl) (own_w hw 49 rfl) (by decide) (by decide)) q741a q741c (g := (mkF m 158 #[.val (.int p1), .val (.int p2), .val (.int p3), .val (.int p4), .val (.int nl), .val (.int nr), .val (.ref b523), .val (.ref b545), .val (.ref x3), .val (.ref b586), .val (.ref b607), .val (.ref b621), .unset, .unset] [(.ref x3), (.ref b607)])) rfl (by rw [hml]; rfl) (Steps.refl _) (argsL := [(.ref x3)]) (rest := []) (lenOf pd_380 rfl) rfl (by show 2 * 0 + _ ≤ _; exact Nat.le_of_eq rfl) (hb hby at_158) (fun _ _ => ⟨rfl, eJ636, (by decide : 17 + 0 ≤ _), (by decide : 47 + 0 ≤ _)⟩)
          dsimp only [Pt.U, Pt.locs, Pt.cells, Pt.slots] at X741 l741 y741 z741 st741 hQ741
          subst l741 y741 z741
          obtain ⟨mc2_741, rfl, N741q, K741, f741_0, f741_1, f741_2, f741_3, f741_4⟩ := hQ741
          have N741 := Fr.app NJ636 N741q
          have Sf742 : Safe Z consts_1 T596.vm hJ636 b607 := Safe.exa hZ596.alike fJ636_0 (by decide) (by decide)
          have Sf743 : Safe Z consts_1 T596.vm hJ636 dq2 := Safe.arv hZ596.alike fJ636_4 (by decide)
          have z741 : hJ636.size ≤ T741.heap.size := K741.1
          have R741 : CHr Z consts_1 s.vm h0 T596.vm T741.heap := RJ636.trans (CHr.keep K741 (sfS Sf742 (sfS Sf743 sf0)) RJ636.1)
          have lt741_0 : @LT.lt Nat _ b607 T741.heap.size := f741_0.lt
          have lt741_1 : @LT.lt Nat _ b607 T741.heap.size := f741_1.lt
          have lt741_2 : @LT.lt Nat _ dq2 T741.heap.size := f741_2.lt
          have lt741_3 : @LT.lt Nat _ b607 T741.heap.size := f741_3.lt
          have lt741_4 : @LT.lt Nat _ b607 T741.heap.size := f741_4.lt
          have f744 : own_All Z T741.heap xsq2 := fJ636_6.keep K741
          have f745 : Exa Z T741.heap x3 "java/lang/String" := fJ636_13.keep K741
          have hA741 := own_All.push f744 f745
          refine own_Go.tr st741 ?_
          refine own_Go.st (fun _ k => XS.pop X741.here hx rfl (hb hby at_161) rfl rfl k) ?_
          show own_Go _ _ _ _ (T741.setTop (mkF m 162 #[.val (.int p1), .val (.int p2), .val (.int p3), .val (.int p4), .val (.int nl), .val (.int nr), .val (.ref b523), .val (.ref b545), .val (.ref x3), .val (.ref b586), .val (.ref b607), .val (.ref b621), .unset, .unset] []))
          have f746 : Exa Z T741.heap dq2 "[Ljava/lang/Object;" := fJ636_5.keep K741
          have f747 : Exa Z T741.heap b621 "java/util/ArrayList" := fJ636_7.keep K741
          have ne748 : @Ne Nat b621 dq2 := Exa.ne f747 f746 (by decide)
          have f749 : Fld Z T741.heap b621 "java/util/ArrayList" "elementData" "[Ljava/lang/Object;" (.ref ad) := fJ636_8.keep K741 (ninS (by show @Ne Nat b621 b607; omega) (ninS ne748 nin0))
          have f750 : Fld Z T741.heap b621 "java/util/ArrayList" "size" "I" (.int (0 : Int32)) := fJ636_9.keep K741 (ninS (by show @Ne Nat b621 b607; omega) (ninS ne748 nin0))
          have f751 : Fld Z T741.heap b621 "java/util/AbstractList" "modCount" "I" (.int (0 : Int32)) := fJ636_10.keep K741 (ninS (by show @Ne Nat b621 b607; omega) (ninS ne748 nin0))
          have f752 : Exa Z T741.heap b523 "java/lang/String" := fJ636_11.keep K741
          have f753 : Exa Z T741.heap b545 "java/lang/String" := fJ636_12.keep K741
          have ne754 : @Ne Nat ad b607 := Exa.ne fJ636_15 fJ636_0 (by decide)
          have f755 : Arv Z T741.heap ad ka (.object "java/lang/Object") (0 : Int32) [] .null := fJ636_14.keep K741 (ninS ne754 (ninS (by show @Ne Nat ad dq2; omega) nin0))
          have f756 : Exa Z T741.heap ad "[Ljava/lang/Object;" := fJ636_15.keep K741
          have K757 : Keep h0 T741.heap [] := KJ636.trans K741 (allS (Or.inr (by omega)) (allS (Or.inr (by omega)) all0))
          have f758 : Old Z Z.heap.size T741.heap := OJ636.keep K741 (allS (by omega) (allS (by omega) all0))
          exact HJ637 dq2 (xsq2 ++ [x3]) 10 kq2 mc2_741 T741 T741.heap _ (Or.inr ⟨hzq3, by simp, rfl, hpq33, hpq34, hpq35⟩) (by simp only [List.length_append, List.length_cons, List.length_nil]; omega) (own_standW X741 (by decide) (by decide)) rfl N741 K757 f758 (by omega) R741 f741_0 f741_1 f741_3 f741_4 f741_2 f746 hA741 f747 f749 f750 f751 f752 f753 f745 f755 f756
        ·
          refine own_Go.st (fun _ k => XS.icmpYes XJ636.here hx rfl (pc0 := 151) (pc' := 162) rfl (hb hby at_151) rfl (flt h162q).2.2.2 (by decide) (by decide) k) ?_
          show own_Go _ _ _ _ (TJ636.setTop (mkF m 162 #[.val (.int p1), .val (.int p2), .val (.int p3), .val (.int p4), .val (.int nl), .val (.int nr), .val (.ref b523), .val (.ref b545), .val (.ref x3), .val (.ref b586), .val (.ref b607), .val (.ref b621), .unset, .unset] []))
          exact HJ637 dq2 xsq2 capq2 kq2 mcq2 TJ636 hJ636 _ hsq2 (by omega) (own_standW XJ636 (by decide) (by decide)) eJ636 NJ636 KJ636 OJ636 (by omega) RJ636 fJ636_0 fJ636_1 fJ636_2 fJ636_3 fJ636_4 fJ636_5 fJ636_6 fJ636_7 fJ636_8 fJ636_9 fJ636_10 fJ636_11 fJ636_12 fJ636_13 fJ636_14 fJ636_15
      refine own_Go.st (fun _ k => XS.iload XJ635.here hx rfl (hb hby at_134) rfl (XS.iconst XJ635.here hx rfl (hb hby at_136) k)) ?_
      show own_Go _ _ _ _ (TJ635.setTop (mkF m 137 #[.val (.int p1), .val (.int p2), .val (.int p3), .val (.int p4), .val (.int nl), .val (.int nr), .val (.ref b523), .val (.ref b545), .val (.ref x3), .val (.ref b586), .val (.ref b607), .val (.ref b621), .unset, .unset] [(.int (1 : Int32)), (.int nl)]))
      by_cases h148q : (1 : Int32) < nl
      ·
        refine own_Go.st (fun _ k => XS.icmpNo XJ635.here hx rfl (hb hby at_137) rfl (tlt h148q).2.2.2 k) ?_
        have hzq2 : ¬ nl = 0 := own_03p hnl (Or.inr (Or.inl rfl)) h148q
        have hpq2 := hsq1.pos hzq2
        obtain ⟨hpq21, rfl, hpq23, hpq24, hpq25⟩ := hpq2
        refine own_Go.st (fun _ k => XS.aload XJ635.here hx rfl (hb hby at_140) rfl rfl (XS.aload XJ635.here hx rfl (hb hby at_142) rfl rfl k)) ?_
        show own_Go _ _ _ _ (TJ635.setTop (mkF m 144 #[.val (.int p1), .val (.int p2), .val (.int p3), .val (.int p4), .val (.int nl), .val (.int nr), .val (.ref b523), .val (.ref b545), .val (.ref x3), .val (.ref b586), .val (.ref b607), .val (.ref b621), .unset, .unset] [(.ref b545), (.ref b607)]))
        obtain ⟨cq759, kq759, q759a, q759b, q759c⟩ := isOf hZ596 eJ635 fJ635_0
        obtain ⟨_, _, ⟨T759, L759, k759, n759⟩, -, X759, ⟨Lc759, hQ759, l759, y759, z759⟩, st759⟩ := XJ635.virtualBack hx (y := mN14) (z := mN14) hown596 (own_v hZ596 hw 71 rfl) (own_v hZ596 hw 72 rfl) (notFace_of_selects (args := #[]) (own_v hZ596 hw 74 rfl)) (own_v hZ596 hw 74 rfl) (own_v hZ596 hw 73 rfl) (by decide) (backOf (W := 0) (rm_addN l Z a0 hw [] b607 b545 dq1 xsq1 kq1 mcq1 hJ635 OJ635 fJ635_0 fJ635_1 fJ635_2 fJ635_12 fJ635_4 fJ635_3 (by omega) (by omega) hpq25 (by omega)) hZ596 (own_w hw 75 rfl) (own_w hw 49 rfl) (by decide) (by decide)) q759a q759c (g := (mkF m 144 #[.val (.int p1), .val (.int p2), .val (.int p3), .val (.int p4), .val (.int nl), .val (.int nr), .val (.ref b523), .val (.ref b545), .val (.ref x3), .val (.ref b586), .val (.ref b607), .val (.ref b621), .unset, .unset] [(.ref b545), (.ref b607)])) rfl (by rw [hml]; rfl) (Steps.refl _) (argsL := [(.ref b545)]) (rest := []) (lenOf pd_380 rfl) rfl (by show 2 * 0 + _ ≤ _; exact Nat.le_of_eq rfl) (hb hby at_144) (fun _ _ => ⟨rfl, eJ635, (by decide : 17 + 0 ≤ _), (by decide : 47 + 0 ≤ _)⟩)
        dsimp only [Pt.U, Pt.locs, Pt.cells, Pt.slots] at X759 l759 y759 z759 st759 hQ759
        subst l759 y759 z759
        obtain ⟨mc2_759, rfl, N759q, K759, f759_0, f759_1, f759_2, f759_3, f759_4⟩ := hQ759
        have N759 := Fr.app NJ635 N759q
        have Sf760 : Safe Z consts_1 T596.vm hJ635 b607 := Safe.exa hZ596.alike fJ635_0 (by decide) (by decide)
        have Sf761 : Safe Z consts_1 T596.vm hJ635 dq1 := Safe.arv hZ596.alike fJ635_4 (by decide)
        have z759 : hJ635.size ≤ T759.heap.size := K759.1
        have R759 : CHr Z consts_1 s.vm h0 T596.vm T759.heap := RJ635.trans (CHr.keep K759 (sfS Sf760 (sfS Sf761 sf0)) RJ635.1)
        have lt759_0 : @LT.lt Nat _ b607 T759.heap.size := f759_0.lt
        have lt759_1 : @LT.lt Nat _ b607 T759.heap.size := f759_1.lt
        have lt759_2 : @LT.lt Nat _ dq1 T759.heap.size := f759_2.lt
        have lt759_3 : @LT.lt Nat _ b607 T759.heap.size := f759_3.lt
        have lt759_4 : @LT.lt Nat _ b607 T759.heap.size := f759_4.lt
        have f762 : own_All Z T759.heap xsq1 := fJ635_6.keep K759
        have f763 : Exa Z T759.heap b545 "java/lang/String" := fJ635_12.keep K759
        have hA759 := own_All.push f762 f763
        refine own_Go.tr st759 ?_
        refine own_Go.st (fun _ k => XS.pop X759.here hx rfl (hb hby at_147) rfl rfl k) ?_
        show own_Go _ _ _ _ (T759.setTop (mkF m 148 #[.val (.int p1), .val (.int p2), .val (.int p3), .val (.int p4), .val (.int nl), .val (.int nr), .val (.ref b523), .val (.ref b545), .val (.ref x3), .val (.ref b586), .val (.ref b607), .val (.ref b621), .unset, .unset] []))
        have f764 : Exa Z T759.heap dq1 "[Ljava/lang/Object;" := fJ635_5.keep K759
        have f765 : Exa Z T759.heap b621 "java/util/ArrayList" := fJ635_7.keep K759
        have ne766 : @Ne Nat b621 dq1 := Exa.ne f765 f764 (by decide)
        have f767 : Fld Z T759.heap b621 "java/util/ArrayList" "elementData" "[Ljava/lang/Object;" (.ref ad) := fJ635_8.keep K759 (ninS (by show @Ne Nat b621 b607; omega) (ninS ne766 nin0))
        have f768 : Fld Z T759.heap b621 "java/util/ArrayList" "size" "I" (.int (0 : Int32)) := fJ635_9.keep K759 (ninS (by show @Ne Nat b621 b607; omega) (ninS ne766 nin0))
        have f769 : Fld Z T759.heap b621 "java/util/AbstractList" "modCount" "I" (.int (0 : Int32)) := fJ635_10.keep K759 (ninS (by show @Ne Nat b621 b607; omega) (ninS ne766 nin0))
        have f770 : Exa Z T759.heap b523 "java/lang/String" := fJ635_11.keep K759
        have f771 : Exa Z T759.heap x3 "java/lang/String" := fJ635_13.keep K759
        have ne772 : @Ne Nat ad b607 := Exa.ne fJ635_15 fJ635_0 (by decide)
        have f773 : Arv Z T759.heap ad ka (.object "java/lang/Object") (0 : Int32) [] .null := fJ635_14.keep K759 (ninS ne772 (ninS (by show @Ne Nat ad dq1; omega) nin0))
        have f774 : Exa Z T759.heap ad "[Ljava/lang/Object;" := fJ635_15.keep K759
        have K775 : Keep h0 T759.heap [] := KJ635.trans K759 (allS (Or.inr (by omega)) (allS (Or.inr (by omega)) all0))
        have f776 : Old Z Z.heap.size T759.heap := OJ635.keep K759 (allS (by omega) (allS (by omega) all0))
        exact HJ636 dq1 (xsq1 ++ [b545]) 10 kq1 mc2_759 T759 T759.heap _ (Or.inr ⟨hzq2, by simp, rfl, hpq23, hpq24, hpq25⟩) (by simp only [List.length_append, List.length_cons, List.length_nil]; omega) (own_standW X759 (by decide) (by decide)) rfl N759 K775 f776 (by omega) R759 f759_0 f759_1 f759_3 f759_4 f759_2 f764 hA759 f765 f767 f768 f769 f770 f763 f771 f773 f774
      ·
        refine own_Go.st (fun _ k => XS.icmpYes XJ635.here hx rfl (pc0 := 137) (pc' := 148) rfl (hb hby at_137) rfl (flt h148q).2.2.2 (by decide) (by decide) k) ?_
        show own_Go _ _ _ _ (TJ635.setTop (mkF m 148 #[.val (.int p1), .val (.int p2), .val (.int p3), .val (.int p4), .val (.int nl), .val (.int nr), .val (.ref b523), .val (.ref b545), .val (.ref x3), .val (.ref b586), .val (.ref b607), .val (.ref b621), .unset, .unset] []))
        exact HJ636 dq1 xsq1 capq1 kq1 mcq1 TJ635 hJ635 _ hsq1 (by omega) (own_standW XJ635 (by decide) (by decide)) eJ635 NJ635 KJ635 OJ635 (by omega) RJ635 fJ635_0 fJ635_1 fJ635_2 fJ635_3 fJ635_4 fJ635_5 fJ635_6 fJ635_7 fJ635_8 fJ635_9 fJ635_10 fJ635_11 fJ635_12 fJ635_13 fJ635_14 fJ635_15
    refine own_Go.st (fun _ k => XS.iload X628.here hx rfl (hb hby at_121) rfl k) ?_
    show own_Go _ _ _ _ (T628.setTop (mkF m 123 #[.val (.int p1), .val (.int p2), .val (.int p3), .val (.int p4), .val (.int nl), .val (.int nr), .val (.ref b523), .val (.ref b545), .val (.ref x3), .val (.ref b586), .val (.ref b607), .val (.ref b621), .unset, .unset] [(.int nl)]))
    by_cases h134q : (0 : Int32) < nl
    ·
      refine own_Go.st (fun _ k => XS.ifNo X628.here hx rfl (hb hby at_123) rfl ((if0 _ _).trans (tlt h134q).2.2.2) k) ?_
      have hzq1 : ¬ nl = 0 := own_03p hnl (Or.inl rfl) h134q
      refine own_Go.st (fun _ k => XS.aload X628.here hx rfl (hb hby at_126) rfl rfl (XS.aload X628.here hx rfl (hb hby at_128) rfl rfl k)) ?_
      show own_Go _ _ _ _ (T628.setTop (mkF m 130 #[.val (.int p1), .val (.int p2), .val (.int p3), .val (.int p4), .val (.int nl), .val (.int nr), .val (.ref b523), .val (.ref b545), .val (.ref x3), .val (.ref b586), .val (.ref b607), .val (.ref b621), .unset, .unset] [(.ref b523), (.ref b607)]))
      have f778 : Exa Z h621 b607 "java/util/ArrayList" := f614_0.ext E621
      have f779 : Exa Z T628.heap b607 "java/util/ArrayList" := f778.keep K628
      have f780 : Fld Z h621 b607 "java/util/ArrayList" "elementData" "[Ljava/lang/Object;" (.ref ad) := f614_3.ext E621
      have f781 : Fld Z T628.heap b607 "java/util/ArrayList" "elementData" "[Ljava/lang/Object;" (.ref ad) := f780.keep K628 (ninS (by show @Ne Nat b607 b621; omega) nin0)
      have f782 : Fld Z h621 b607 "java/util/ArrayList" "size" "I" (.int (0 : Int32)) := f614_2.ext E621
      have f783 : Fld Z T628.heap b607 "java/util/ArrayList" "size" "I" (.int (0 : Int32)) := f782.keep K628 (ninS (by show @Ne Nat b607 b621; omega) nin0)
      have f784 : Arv Z h523 ad ka (.object "java/lang/Object") (0 : Int32) [] .null := p0_.ext E523
      have f785 : Arv Z h526 ad ka (.object "java/lang/Object") (0 : Int32) [] .null := f784.ext E526
      have f786 : Exa Z h523 ad "[Ljava/lang/Object;" := p1_.ext E523
      have f787 : Exa Z h526 ad "[Ljava/lang/Object;" := f786.ext E526
      have f789 : Arv Z h529 ad ka (.object "java/lang/Object") (0 : Int32) [] .null := f785.other W529 (by show @Ne Nat ad b526; omega)
      have ne790 : @Ne Nat ad b523 := Exa.ne f787 f535 (by decide)
      have f791 : Arv Z T534.heap ad ka (.object "java/lang/Object") (0 : Int32) [] .null := f789.keep K534 (ninS ne790 nin0)
      have f792 : Arv Z h545 ad ka (.object "java/lang/Object") (0 : Int32) [] .null := f791.ext E545
      have f793 : Arv Z h549 ad ka (.object "java/lang/Object") (0 : Int32) [] .null := f792.ext E549
      have f794 : Exa Z h529 ad "[Ljava/lang/Object;" := f787.wr W529
      have f795 : Exa Z T534.heap ad "[Ljava/lang/Object;" := f794.keep K534
      have f796 : Exa Z h545 ad "[Ljava/lang/Object;" := f795.ext E545
      have f797 : Exa Z h549 ad "[Ljava/lang/Object;" := f796.ext E549
      have f799 : Arv Z h553 ad ka (.object "java/lang/Object") (0 : Int32) [] .null := f793.other W553 (by show @Ne Nat ad b549; omega)
      have f801 : Arv Z h559 ad ka (.object "java/lang/Object") (0 : Int32) [] .null := f799.other W559 (by show @Ne Nat ad b549; omega)
      have ne802 : @Ne Nat ad b545 := Exa.ne f797 f566 (by decide)
      have f803 : Arv Z T565.heap ad ka (.object "java/lang/Object") (0 : Int32) [] .null := f801.keep K565 (ninS ne802 nin0)
      have f804 : Arv Z T582.heap ad ka (.object "java/lang/Object") (0 : Int32) [] .null := f803.keep K582 nin0
      have f805 : Arv Z h586 ad ka (.object "java/lang/Object") (0 : Int32) [] .null := f804.ext E586
      have f806 : Arv Z h591 ad ka (.object "java/lang/Object") (0 : Int32) [] .null := f805.ext E591
      have f807 : Exa Z h553 ad "[Ljava/lang/Object;" := f797.wr W553
      have f808 : Exa Z h559 ad "[Ljava/lang/Object;" := f807.wr W559
      have f809 : Exa Z T565.heap ad "[Ljava/lang/Object;" := f808.keep K565
      have f810 : Exa Z T582.heap ad "[Ljava/lang/Object;" := f809.keep K582
      have f811 : Exa Z h586 ad "[Ljava/lang/Object;" := f810.ext E586
      have ne812 : @Ne Nat ad b586 := Exa.ne f811 A586 (by decide)
      have f813 : Arv Z T596.heap ad ka (.object "java/lang/Object") (0 : Int32) [] .null := f806.keep K596 (ninS ne812 nin0)
      have f814 : Arv Z h607 ad ka (.object "java/lang/Object") (0 : Int32) [] .null := f813.ext E607
      have f815 : Exa Z h591 ad "[Ljava/lang/Object;" := f811.ext E591
      have f816 : Exa Z T596.heap ad "[Ljava/lang/Object;" := f815.keep K596
      have f817 : Exa Z h607 ad "[Ljava/lang/Object;" := f816.ext E607
      have ne818 : @Ne Nat ad b607 := Exa.ne f817 A607 (by decide)
      have f819 : Arv Z T614.heap ad ka (.object "java/lang/Object") (0 : Int32) [] .null := f814.keep K614 (ninS ne818 nin0)
      have f820 : Arv Z h621 ad ka (.object "java/lang/Object") (0 : Int32) [] .null := f819.ext E621
      have f821 : Exa Z T614.heap ad "[Ljava/lang/Object;" := f817.keep K614
      have f822 : Exa Z h621 ad "[Ljava/lang/Object;" := f821.ext E621
      have ne823 : @Ne Nat ad b621 := Exa.ne f822 A621 (by decide)
      have f824 : Arv Z T628.heap ad ka (.object "java/lang/Object") (0 : Int32) [] .null := f820.keep K628 (ninS ne823 nin0)
      have f825 : Exa Z h545 b523 "java/lang/String" := Ex534.ext E545
      have f826 : Exa Z h549 b523 "java/lang/String" := f825.ext E549
      have f827 : Exa Z h553 b523 "java/lang/String" := f826.wr W553
      have f828 : Exa Z h559 b523 "java/lang/String" := f827.wr W559
      have f829 : Exa Z T565.heap b523 "java/lang/String" := f828.keep K565
      have f830 : Exa Z T582.heap b523 "java/lang/String" := f829.keep K582
      have f831 : Exa Z h586 b523 "java/lang/String" := f830.ext E586
      have f832 : Exa Z h591 b523 "java/lang/String" := f831.ext E591
      have f833 : Exa Z T596.heap b523 "java/lang/String" := f832.keep K596
      have f834 : Exa Z h607 b523 "java/lang/String" := f833.ext E607
      have f835 : Exa Z T614.heap b523 "java/lang/String" := f834.keep K614
      have f836 : Exa Z h621 b523 "java/lang/String" := f835.ext E621
      have f837 : Exa Z T628.heap b523 "java/lang/String" := f836.keep K628
      have f838 : Fld Z h621 b607 "java/util/AbstractList" "modCount" "I" (.int (0 : Int32)) := f614_1.ext E621
      have f839 : Fld Z T628.heap b607 "java/util/AbstractList" "modCount" "I" (.int (0 : Int32)) := f838.keep K628 (ninS (by show @Ne Nat b607 b621; omega) nin0)
      have f840 : Old Z Z.heap.size T628.heap := f630.keep K628 (allS (by omega) all0)
      obtain ⟨cq777, kq777, q777a, q777b, q777c⟩ := isOf hZ596 rfl f779
      obtain ⟨_, _, ⟨T777, L777, k777, n777⟩, -, X777, ⟨Lc777, hQ777, l777, y777, z777⟩, st777⟩ := X628.virtualBack hx (y := mN14) (z := mN14) hown596 (own_v hZ596 hw 71 rfl) (own_v hZ596 hw 72 rfl) (notFace_of_selects (args := #[]) (own_v hZ596 hw 74 rfl)) (own_v hZ596 hw 74 rfl) (own_v hZ596 hw 73 rfl) (by decide) (backOf (W := 0) (rm_addG l Z a0 hw [] b607 b523 ad ka (0 : Int32) T628.heap f840 f779 f781 f783 f824 f837 f839 st_DEFAULTCAPACITY_EMPTY_ELEMENTDATA (by omega)) hZ596 (own_w hw 75 rfl) (own_w hw 49 rfl) (by decide) (by decide)) q777a q777c (g := (mkF m 130 #[.val (.int p1), .val (.int p2), .val (.int p3), .val (.int p4), .val (.int nl), .val (.int nr), .val (.ref b523), .val (.ref b545), .val (.ref x3), .val (.ref b586), .val (.ref b607), .val (.ref b621), .unset, .unset] [(.ref b523), (.ref b607)])) rfl (by rw [hml]; rfl) (Steps.refl _) (argsL := [(.ref b523)]) (rest := []) (lenOf pd_380 rfl) rfl (by show 2 * 0 + _ ≤ _; exact Nat.le_of_eq rfl) (hb hby at_130) (fun _ _ => ⟨rfl, rfl, (by decide : 16 + 1 ≤ _), (by decide : 37 + 10 ≤ _)⟩)
      dsimp only [Pt.U, Pt.locs, Pt.cells, Pt.slots] at X777 l777 y777 z777 st777 hQ777
      subst l777 y777 z777
      obtain ⟨x_777, k_777, mc2_777, rfl, N777q, K777, f777_0, f777_1, f777_2, f777_3, f777_4, f777_5, pr777_0, pr777_1⟩ := hQ777
      have N777 := Fr.app N628 N777q
      have Sf841 : Safe Z consts_1 T596.vm T628.heap b607 := Safe.exa hZ596.alike f779 (by decide) (by decide)
      have z777 : T628.heap.size ≤ T777.heap.size := K777.1
      have R777 : CHr Z consts_1 s.vm h0 T596.vm T777.heap := R628.trans (CHr.keep K777 (sfS Sf841 sf0) R628.1)
      have Sf842 : Safe Z consts_1 T596.vm T777.heap b523 := Safe.keep K777 (sfS Sf841 sf0) R628.1 Sf632
      have Sf843 : Safe Z consts_1 T596.vm T777.heap b545 := Safe.keep K777 (sfS Sf841 sf0) R628.1 Sf633
      have Sf844 : Safe Z consts_1 T596.vm T777.heap b586 := Safe.keep K777 (sfS Sf841 sf0) R628.1 Sf634
      have lt777_0 : @LT.lt Nat _ b607 T777.heap.size := f777_0.lt
      have lt777_1 : @LT.lt Nat _ b607 T777.heap.size := f777_1.lt
      have lt777_2 : @LT.lt Nat _ x_777 T777.heap.size := f777_2.lt
      have lt777_3 : @LT.lt Nat _ x_777 T777.heap.size := f777_3.lt
      have lt777_4 : @LT.lt Nat _ b607 T777.heap.size := f777_4.lt
      have lt777_5 : @LT.lt Nat _ b607 T777.heap.size := f777_5.lt
      have f845 : Exa Z T777.heap b523 "java/lang/String" := f837.keep K777
      have hA777 : own_All Z T777.heap ([] ++ [b523] : List Addr) := own_All.push own_All.nil f845
      have f846 : Fld Z T777.heap b607 "java/util/ArrayList" "size" "I" (.int (Int32.ofNat ([] ++ [b523] : List Addr).length)) := f777_4
      refine own_Go.tr st777 ?_
      refine own_Go.st (fun _ k => XS.pop X777.here hx rfl (hb hby at_133) rfl rfl k) ?_
      show own_Go _ _ _ _ (T777.setTop (mkF m 134 #[.val (.int p1), .val (.int p2), .val (.int p3), .val (.int p4), .val (.int nl), .val (.int nr), .val (.ref b523), .val (.ref b545), .val (.ref x3), .val (.ref b586), .val (.ref b607), .val (.ref b621), .unset, .unset] []))
      have f847 : Exa Z T777.heap b621 "java/util/ArrayList" := f628_0.keep K777
      have f848 : Fld Z T777.heap b621 "java/util/ArrayList" "elementData" "[Ljava/lang/Object;" (.ref ad) := f628_3.keep K777 (ninS (by show @Ne Nat b621 b607; omega) nin0)
      have f849 : Fld Z T777.heap b621 "java/util/ArrayList" "size" "I" (.int (0 : Int32)) := f628_2.keep K777 (ninS (by show @Ne Nat b621 b607; omega) nin0)
      have f850 : Fld Z T777.heap b621 "java/util/AbstractList" "modCount" "I" (.int (0 : Int32)) := f628_1.keep K777 (ninS (by show @Ne Nat b621 b607; omega) nin0)
      have f851 : Exa Z T582.heap b545 "java/lang/String" := Ex565.keep K582
      have f852 : Exa Z h586 b545 "java/lang/String" := f851.ext E586
      have f853 : Exa Z h591 b545 "java/lang/String" := f852.ext E591
      have f854 : Exa Z T596.heap b545 "java/lang/String" := f853.keep K596
      have f855 : Exa Z h607 b545 "java/lang/String" := f854.ext E607
      have f856 : Exa Z T614.heap b545 "java/lang/String" := f855.keep K614
      have f857 : Exa Z h621 b545 "java/lang/String" := f856.ext E621
      have f858 : Exa Z T628.heap b545 "java/lang/String" := f857.keep K628
      have f859 : Exa Z T777.heap b545 "java/lang/String" := f858.keep K777
      have f860 : Exa Z h607 x3 "java/lang/String" := hJ606.ext E607
      have f861 : Exa Z T614.heap x3 "java/lang/String" := f860.keep K614
      have f862 : Exa Z h621 x3 "java/lang/String" := f861.ext E621
      have f863 : Exa Z T628.heap x3 "java/lang/String" := f862.keep K628
      have f864 : Exa Z T777.heap x3 "java/lang/String" := f863.keep K777
      have f865 : Arv Z T777.heap ad ka (.object "java/lang/Object") (0 : Int32) [] .null := f824.keep K777 (ninS ne818 nin0)
      have f866 : Exa Z h523 ad "[Ljava/lang/Object;" := p1_.ext E523
      have f867 : Exa Z h526 ad "[Ljava/lang/Object;" := f866.ext E526
      have f868 : Exa Z h529 ad "[Ljava/lang/Object;" := f867.wr W529
      have f869 : Exa Z T534.heap ad "[Ljava/lang/Object;" := f868.keep K534
      have f870 : Exa Z h545 ad "[Ljava/lang/Object;" := f869.ext E545
      have f871 : Exa Z h549 ad "[Ljava/lang/Object;" := f870.ext E549
      have f872 : Exa Z h553 ad "[Ljava/lang/Object;" := f871.wr W553
      have f873 : Exa Z h559 ad "[Ljava/lang/Object;" := f872.wr W559
      have f874 : Exa Z T565.heap ad "[Ljava/lang/Object;" := f873.keep K565
      have f875 : Exa Z T582.heap ad "[Ljava/lang/Object;" := f874.keep K582
      have f876 : Exa Z h586 ad "[Ljava/lang/Object;" := f875.ext E586
      have f877 : Exa Z h591 ad "[Ljava/lang/Object;" := f876.ext E591
      have f878 : Exa Z T596.heap ad "[Ljava/lang/Object;" := f877.keep K596
      have f879 : Exa Z h607 ad "[Ljava/lang/Object;" := f878.ext E607
      have f880 : Exa Z T614.heap ad "[Ljava/lang/Object;" := f879.keep K614
      have f881 : Exa Z h621 ad "[Ljava/lang/Object;" := f880.ext E621
      have f882 : Exa Z T628.heap ad "[Ljava/lang/Object;" := f881.keep K628
      have f883 : Exa Z T777.heap ad "[Ljava/lang/Object;" := f882.keep K777
      have K884 : Keep h0 h523 [] := (Keep.refl h0 []).ext E523
      have K885 : Keep h0 h526 [] := K884.ext E526
      have K886 : Keep h0 h529 [] := K885.wr W529 (Or.inr (by omega))
      have K887 : Keep h0 T534.heap [] := K886.trans K534 (allS (Or.inr (by omega)) all0)
      have K888 : Keep h0 h545 [] := K887.ext E545
      have K889 : Keep h0 h549 [] := K888.ext E549
      have K890 : Keep h0 h553 [] := K889.wr W553 (Or.inr (by omega))
      have K891 : Keep h0 h559 [] := K890.wr W559 (Or.inr (by omega))
      have K892 : Keep h0 T565.heap [] := K891.trans K565 (allS (Or.inr (by omega)) all0)
      have K893 : Keep h0 T582.heap [] := K892.trans K582 all0
      have K894 : Keep h0 h586 [] := K893.ext E586
      have K895 : Keep h0 h591 [] := K894.ext E591
      have K896 : Keep h0 T596.heap [] := K895.trans K596 (allS (Or.inr (by omega)) all0)
      have K897 : Keep h0 h607 [] := K896.ext E607
      have K898 : Keep h0 T614.heap [] := K897.trans K614 (allS (Or.inr (by omega)) all0)
      have K899 : Keep h0 h621 [] := K898.ext E621
      have K900 : Keep h0 T628.heap [] := K899.trans K628 (allS (Or.inr (by omega)) all0)
      have K901 : Keep h0 T777.heap [] := K900.trans K777 (allS (Or.inr (by omega)) all0)
      have f902 : Old Z Z.heap.size T777.heap := f840.keep K777 (allS (by omega) all0)
      exact HJ635 x_777 ([] ++ [b523] : List Addr) 10 k_777 mc2_777 T777 T777.heap _ (Or.inr ⟨hzq1, Nat.le_of_ble_eq_true rfl, rfl, by omega, by omega, pr777_1⟩) (Nat.le_of_ble_eq_true rfl) (own_standW X777 (by decide) (by decide)) rfl N777 K901 f902 (by omega) R777 f777_0 f777_1 f846 f777_5 f777_2 f777_3 hA777 f847 f848 f849 f850 f845 f859 f864 f865 f883
    ·
      refine own_Go.st (fun _ k => XS.ifYes X628.here hx rfl (pc0 := 123) (pc' := 134) rfl (hb hby at_123) rfl ((if0 _ _).trans (flt h134q).2.2.2) (by decide) (by decide) k) ?_
      have hzq1 := own_03z hnl h134q
      show own_Go _ _ _ _ (T628.setTop (mkF m 134 #[.val (.int p1), .val (.int p2), .val (.int p3), .val (.int p4), .val (.int nl), .val (.int nr), .val (.ref b523), .val (.ref b545), .val (.ref x3), .val (.ref b586), .val (.ref b607), .val (.ref b621), .unset, .unset] []))
      have f903 : Exa Z h621 b607 "java/util/ArrayList" := f614_0.ext E621
      have f904 : Exa Z T628.heap b607 "java/util/ArrayList" := f903.keep K628
      have f905 : Fld Z h621 b607 "java/util/ArrayList" "elementData" "[Ljava/lang/Object;" (.ref ad) := f614_3.ext E621
      have f906 : Fld Z T628.heap b607 "java/util/ArrayList" "elementData" "[Ljava/lang/Object;" (.ref ad) := f905.keep K628 (ninS (by show @Ne Nat b607 b621; omega) nin0)
      have f907 : Fld Z h621 b607 "java/util/ArrayList" "size" "I" (.int (0 : Int32)) := f614_2.ext E621
      have f908 : Fld Z T628.heap b607 "java/util/ArrayList" "size" "I" (.int (0 : Int32)) := f907.keep K628 (ninS (by show @Ne Nat b607 b621; omega) nin0)
      have f909 : Fld Z h621 b607 "java/util/AbstractList" "modCount" "I" (.int (0 : Int32)) := f614_1.ext E621
      have f910 : Fld Z T628.heap b607 "java/util/AbstractList" "modCount" "I" (.int (0 : Int32)) := f909.keep K628 (ninS (by show @Ne Nat b607 b621; omega) nin0)
      have f912 : Arv Z h523 ad ka (.object "java/lang/Object") (0 : Int32) [] .null := p0_.ext E523
      have f913 : Arv Z h526 ad ka (.object "java/lang/Object") (0 : Int32) [] .null := f912.ext E526
      have f914 : Exa Z h523 ad "[Ljava/lang/Object;" := p1_.ext E523
      have f915 : Exa Z h526 ad "[Ljava/lang/Object;" := f914.ext E526
      have f917 : Arv Z h529 ad ka (.object "java/lang/Object") (0 : Int32) [] .null := f913.other W529 (by show @Ne Nat ad b526; omega)
      have ne918 : @Ne Nat ad b523 := Exa.ne f915 f535 (by decide)
      have f919 : Arv Z T534.heap ad ka (.object "java/lang/Object") (0 : Int32) [] .null := f917.keep K534 (ninS ne918 nin0)
      have f920 : Arv Z h545 ad ka (.object "java/lang/Object") (0 : Int32) [] .null := f919.ext E545
      have f921 : Arv Z h549 ad ka (.object "java/lang/Object") (0 : Int32) [] .null := f920.ext E549
      have f922 : Exa Z h529 ad "[Ljava/lang/Object;" := f915.wr W529
      have f923 : Exa Z T534.heap ad "[Ljava/lang/Object;" := f922.keep K534
      have f924 : Exa Z h545 ad "[Ljava/lang/Object;" := f923.ext E545
      have f925 : Exa Z h549 ad "[Ljava/lang/Object;" := f924.ext E549
      have f927 : Arv Z h553 ad ka (.object "java/lang/Object") (0 : Int32) [] .null := f921.other W553 (by show @Ne Nat ad b549; omega)
      have f929 : Arv Z h559 ad ka (.object "java/lang/Object") (0 : Int32) [] .null := f927.other W559 (by show @Ne Nat ad b549; omega)
      have ne930 : @Ne Nat ad b545 := Exa.ne f925 f566 (by decide)
      have f931 : Arv Z T565.heap ad ka (.object "java/lang/Object") (0 : Int32) [] .null := f929.keep K565 (ninS ne930 nin0)
      have f932 : Arv Z T582.heap ad ka (.object "java/lang/Object") (0 : Int32) [] .null := f931.keep K582 nin0
      have f933 : Arv Z h586 ad ka (.object "java/lang/Object") (0 : Int32) [] .null := f932.ext E586
      have f934 : Arv Z h591 ad ka (.object "java/lang/Object") (0 : Int32) [] .null := f933.ext E591
      have f935 : Exa Z h553 ad "[Ljava/lang/Object;" := f925.wr W553
      have f936 : Exa Z h559 ad "[Ljava/lang/Object;" := f935.wr W559
      have f937 : Exa Z T565.heap ad "[Ljava/lang/Object;" := f936.keep K565
      have f938 : Exa Z T582.heap ad "[Ljava/lang/Object;" := f937.keep K582
      have f939 : Exa Z h586 ad "[Ljava/lang/Object;" := f938.ext E586
      have ne940 : @Ne Nat ad b586 := Exa.ne f939 A586 (by decide)
      have f941 : Arv Z T596.heap ad ka (.object "java/lang/Object") (0 : Int32) [] .null := f934.keep K596 (ninS ne940 nin0)
      have f942 : Arv Z h607 ad ka (.object "java/lang/Object") (0 : Int32) [] .null := f941.ext E607
      have f943 : Exa Z h591 ad "[Ljava/lang/Object;" := f939.ext E591
      have f944 : Exa Z T596.heap ad "[Ljava/lang/Object;" := f943.keep K596
      have f945 : Exa Z h607 ad "[Ljava/lang/Object;" := f944.ext E607
      have ne946 : @Ne Nat ad b607 := Exa.ne f945 A607 (by decide)
      have f947 : Arv Z T614.heap ad ka (.object "java/lang/Object") (0 : Int32) [] .null := f942.keep K614 (ninS ne946 nin0)
      have f948 : Arv Z h621 ad ka (.object "java/lang/Object") (0 : Int32) [] .null := f947.ext E621
      have f949 : Exa Z T614.heap ad "[Ljava/lang/Object;" := f945.keep K614
      have f950 : Exa Z h621 ad "[Ljava/lang/Object;" := f949.ext E621
      have ne951 : @Ne Nat ad b621 := Exa.ne f950 A621 (by decide)
      have f952 : Arv Z T628.heap ad ka (.object "java/lang/Object") (0 : Int32) [] .null := f948.keep K628 (ninS ne951 nin0)
      have f911 : Arv Z T628.heap ad ka (.object "java/lang/Object") (Int32.ofNat 0) (([] : List Addr).map Value.ref) .null := f952
      have f953 : Exa Z h523 ad "[Ljava/lang/Object;" := p1_.ext E523
      have f954 : Exa Z h526 ad "[Ljava/lang/Object;" := f953.ext E526
      have f955 : Exa Z h529 ad "[Ljava/lang/Object;" := f954.wr W529
      have f956 : Exa Z T534.heap ad "[Ljava/lang/Object;" := f955.keep K534
      have f957 : Exa Z h545 ad "[Ljava/lang/Object;" := f956.ext E545
      have f958 : Exa Z h549 ad "[Ljava/lang/Object;" := f957.ext E549
      have f959 : Exa Z h553 ad "[Ljava/lang/Object;" := f958.wr W553
      have f960 : Exa Z h559 ad "[Ljava/lang/Object;" := f959.wr W559
      have f961 : Exa Z T565.heap ad "[Ljava/lang/Object;" := f960.keep K565
      have f962 : Exa Z T582.heap ad "[Ljava/lang/Object;" := f961.keep K582
      have f963 : Exa Z h586 ad "[Ljava/lang/Object;" := f962.ext E586
      have f964 : Exa Z h591 ad "[Ljava/lang/Object;" := f963.ext E591
      have f965 : Exa Z T596.heap ad "[Ljava/lang/Object;" := f964.keep K596
      have f966 : Exa Z h607 ad "[Ljava/lang/Object;" := f965.ext E607
      have f967 : Exa Z T614.heap ad "[Ljava/lang/Object;" := f966.keep K614
      have f968 : Exa Z h621 ad "[Ljava/lang/Object;" := f967.ext E621
      have f969 : Exa Z T628.heap ad "[Ljava/lang/Object;" := f968.keep K628
      have f970 : Exa Z h545 b523 "java/lang/String" := Ex534.ext E545
      have f971 : Exa Z h549 b523 "java/lang/String" := f970.ext E549
      have f972 : Exa Z h553 b523 "java/lang/String" := f971.wr W553
      have f973 : Exa Z h559 b523 "java/lang/String" := f972.wr W559
      have f974 : Exa Z T565.heap b523 "java/lang/String" := f973.keep K565
      have f975 : Exa Z T582.heap b523 "java/lang/String" := f974.keep K582
      have f976 : Exa Z h586 b523 "java/lang/String" := f975.ext E586
      have f977 : Exa Z h591 b523 "java/lang/String" := f976.ext E591
      have f978 : Exa Z T596.heap b523 "java/lang/String" := f977.keep K596
      have f979 : Exa Z h607 b523 "java/lang/String" := f978.ext E607
      have f980 : Exa Z T614.heap b523 "java/lang/String" := f979.keep K614
      have f981 : Exa Z h621 b523 "java/lang/String" := f980.ext E621
      have f982 : Exa Z T628.heap b523 "java/lang/String" := f981.keep K628
      have f983 : Exa Z T582.heap b545 "java/lang/String" := Ex565.keep K582
      have f984 : Exa Z h586 b545 "java/lang/String" := f983.ext E586
      have f985 : Exa Z h591 b545 "java/lang/String" := f984.ext E591
      have f986 : Exa Z T596.heap b545 "java/lang/String" := f985.keep K596
      have f987 : Exa Z h607 b545 "java/lang/String" := f986.ext E607
      have f988 : Exa Z T614.heap b545 "java/lang/String" := f987.keep K614
      have f989 : Exa Z h621 b545 "java/lang/String" := f988.ext E621
      have f990 : Exa Z T628.heap b545 "java/lang/String" := f989.keep K628
      have f991 : Exa Z h607 x3 "java/lang/String" := hJ606.ext E607
      have f992 : Exa Z T614.heap x3 "java/lang/String" := f991.keep K614
      have f993 : Exa Z h621 x3 "java/lang/String" := f992.ext E621
      have f994 : Exa Z T628.heap x3 "java/lang/String" := f993.keep K628
      have K995 : Keep h0 h523 [] := (Keep.refl h0 []).ext E523
      have K996 : Keep h0 h526 [] := K995.ext E526
      have K997 : Keep h0 h529 [] := K996.wr W529 (Or.inr (by omega))
      have K998 : Keep h0 T534.heap [] := K997.trans K534 (allS (Or.inr (by omega)) all0)
      have K999 : Keep h0 h545 [] := K998.ext E545
      have K1000 : Keep h0 h549 [] := K999.ext E549
      have K1001 : Keep h0 h553 [] := K1000.wr W553 (Or.inr (by omega))
      have K1002 : Keep h0 h559 [] := K1001.wr W559 (Or.inr (by omega))
      have K1003 : Keep h0 T565.heap [] := K1002.trans K565 (allS (Or.inr (by omega)) all0)
      have K1004 : Keep h0 T582.heap [] := K1003.trans K582 all0
      have K1005 : Keep h0 h586 [] := K1004.ext E586
      have K1006 : Keep h0 h591 [] := K1005.ext E591
      have K1007 : Keep h0 T596.heap [] := K1006.trans K596 (allS (Or.inr (by omega)) all0)
      have K1008 : Keep h0 h607 [] := K1007.ext E607
      have K1009 : Keep h0 T614.heap [] := K1008.trans K614 (allS (Or.inr (by omega)) all0)
      have K1010 : Keep h0 h621 [] := K1009.ext E621
      have K1011 : Keep h0 T628.heap [] := K1010.trans K628 (allS (Or.inr (by omega)) all0)
      have f1012 : Old Z Z.heap.size T628.heap := f630.keep K628 (allS (by omega) all0)
      exact HJ635 ad ([] : List Addr) 0 ka (0 : Int32) T628 T628.heap _ (Or.inl ⟨hzq1, rfl, rfl, rfl⟩) (Nat.zero_le _) (own_standW X628 (by decide) (by decide)) rfl N628 K1011 f1012 (by omega) R628 f904 f906 f908 f910 f911 f969 own_All.nil f628_0 f628_3 f628_2 f628_1 f982 f990 f994 f952 f969
  refine own_Go.st (fun _ k => XS.iloadN Y596.here hx rfl (hb hby at_90) rfl (XS.bipush Y596.here hx rfl (hb hby at_91) (XS.iushr Y596.here hx rfl (hb hby at_93) rfl (XS.iconst Y596.here hx rfl (hb hby at_94) (XS.iand Y596.here hx rfl (hb hby at_95) rfl k))))) ?_
  show own_Go _ _ _ _ (T596.setTop (mkF m 96 #[.val (.int p1), .val (.int p2), .val (.int p3), .val (.int p4), .val (.int nl), .val (.int nr), .val (.ref b523), .val (.ref b545), .val (.ref x_582), .val (.ref b586), .unset, .unset, .unset, .unset] [(.int (((p4.toUInt32 >>> ((8 : Int32) &&& 31).toUInt32).toInt32) &&& (1 : Int32)))]))
  by_cases hc1013 : (((p4.toUInt32 >>> ((8 : Int32) &&& 31).toUInt32).toInt32) &&& (1 : Int32)) = (0 : Int32)
  ·
    refine own_Go.st (fun _ k => XS.ifYes Y596.here hx rfl (pc0 := 96) (pc' := 103) rfl (hb hby at_96) rfl ((if0 _ _).trans (teq hc1013).1) (by decide) (by decide) k) ?_
    show own_Go _ _ _ _ (T596.setTop (mkF m 103 #[.val (.int p1), .val (.int p2), .val (.int p3), .val (.int p4), .val (.int nl), .val (.int nr), .val (.ref b523), .val (.ref b545), .val (.ref x_582), .val (.ref b586), .unset, .unset, .unset, .unset] []))
    have f1014 : Exa Z h586 x_582 "java/lang/String" := f582_0.ext E586
    have f1015 : Exa Z h591 x_582 "java/lang/String" := f1014.ext E591
    have f1016 : Exa Z T596.heap x_582 "java/lang/String" := f1015.keep K596
    exact J606 x_582 f1016
  ·
    refine own_Go.st (fun _ k => XS.ifNo Y596.here hx rfl (hb hby at_96) rfl ((if0 _ _).trans (feq hc1013).1) k) ?_
    refine own_Go.st (fun _ k => XS.aload Y596.here hx rfl (hb hby at_99) rfl rfl (XS.astore Y596.here hx rfl (hb hby at_101) rfl rfl (l' := #[.val (.int p1), .val (.int p2), .val (.int p3), .val (.int p4), .val (.int nl), .val (.int nr), .val (.ref b523), .val (.ref b545), .val (.ref b586), .val (.ref b586), .unset, .unset, .unset, .unset]) rfl k)) ?_
    show own_Go _ _ _ _ (T596.setTop (mkF m 103 #[.val (.int p1), .val (.int p2), .val (.int p3), .val (.int p4), .val (.int nl), .val (.int nr), .val (.ref b523), .val (.ref b545), .val (.ref b586), .val (.ref b586), .unset, .unset, .unset, .unset] []))
    have f1017 : Exa Z T596.heap b586 "java/lang/String" := f597.keep K596
    exact J606 b586 f1017

theorem own_arr0 {s : State} {args : Array Value} {T : Term} {n : Int32} (hf : Fit s) (w : (Cond.arrayOf T (.object "java/lang/Object")).before args s = true) (wl : (Cond.eq (.length T) (.int 0)).before args s = true) : ∃ (ad : Addr) (ka : ClassId), T.eval args s none [] s = some (.ref ad) ∧ Arv s s.heap ad ka (.object "java/lang/Object") (0 : Int32) [] .null := by
  obtain ⟨ad, e5⟩ := arr_v (Cond.before_iff.mp w)
  obtain ⟨a, cl, q1, q2, q3, q4⟩ := Jvm.Free.IntBox.arrayOf_fwd w e5
  cases q1
  obtain ⟨z1, z2⟩ := Jvm.Free.IntBox.length_fwd wl e5 q2 q3 q4
  exact ⟨ad, cl.cls, e5, Arv.start hf ⟨q2, q3, q4⟩ z1 z2 (by decide) (by decide) trivial⟩

set_option maxRecDepth 65536 in
set_option maxHeartbeats 40000000 in
theorem comes_1 {Post : Tables → Env → Array Value → State → Outcome → State → Prop} (hpost : ∀ tb e args s v u, (limb_1_1.after args s (.returned v) u = true ∧ limb_1_2.after args s (.returned v) u = true ∧ True) → ReturnedEndW s (.returned v) u (Jvm.fieldLocs frame_1_writes args s ++ Jvm.arrayLocs frame_1_arrays args s ++ Jvm.staticLocs frame_1_statics s) 56 1280 → Post tb e args s (.returned v) u) :
    ArmFor flags0 classFile x code maxLocals ret World_1 tables_1 room_1 Calls_1 rest_1 Pre_1 Post := by
  intro l hfl _ _ p e ha hc hk s m args below hf hA hF happ hP
  obtain ⟨hcalls, hrest, hpre⟩ := hP
  obtain ⟨-, -, -, hnamed, -, -, -, hat⟩ := (Spec.applies_iff hf).mp happ
  obtain ⟨hg, hn⟩ := and_e (Cond.before_iff.mp (show (Jvm.Cond.and given_1 narrow_1).before args s = true from hpre))
  obtain ⟨g0, r0⟩ := and_e hg
  obtain ⟨g1, r1⟩ := and_e r0
  obtain ⟨g2, r2⟩ := and_e r1
  obtain ⟨g3, r3⟩ := and_e r2
  obtain ⟨w0, w1, w2, w3, rfl⟩ : ∃ w0 w1 w2 w3 : Value, args = #[w0, w1, w2, w3] := by
    have hs : args.size = 4 := by simpa [Cond.value, given_1] using g0
    obtain ⟨L⟩ := args
    match L, hs with
    | [w0, w1, w2, w3], _ => exact ⟨w0, w1, w2, w3, rfl⟩
  have hw := fun d (hd : d ∈ tables_1) => atoms_spec (ws := Jvm.Cond.code x code maxLocals ret :: tables_1) hat d (List.mem_cons_of_mem _ hd)
  obtain ⟨hsets, hown0⟩ := atoms_of _ (rest_1_c_eq ▸ (show rest_1_c.before _ s = true from hrest))
  have hfit : Fit s := fun {y c} hc i hi => by
    obtain ⟨ha, rfl⟩ := Array.getElem?_eq_some_iff.mp hc
    have q := List.all_eq_true.mp ((Array.all_eq_true_iff_forall_mem.mp hF) _ (Array.getElem_mem ha)) i (List.mem_range.mpr hi)
    simpa [Array.getElem?_eq_getElem hi] using q
  obtain ⟨i0, e0⟩ := is_v g1
  obtain rfl : w0 = (.int i0) := Option.some.inj e0
  obtain ⟨i1, e1⟩ := is_v g2
  obtain rfl : w1 = (.int i1) := Option.some.inj e1
  obtain ⟨i2, e2⟩ := is_v g3
  obtain rfl : w2 = (.int i2) := Option.some.inj e2
  obtain ⟨i3, e3⟩ := is_v r3
  obtain rfl : w3 = (.int i3) := Option.some.inj e3
  obtain ⟨zc, ez⟩ := is_v (Cond.before_iff.mp (hsets _ (List.mem_of_getElem? (i := 1) rfl)))
  have st_zc : Sta s s.heap "java/lang/String" "COMPACT_STRINGS" "Z" (.int zc) := Sta.start ez (Or.inl (hsets _ (List.mem_of_getElem? (i := 0) rfl)))
  have hzc : ¬ (zc = (0 : Int32)) := gotF (Cond.eq_ints ez (Term.int_eval (0))) (not_v (Cond.before_iff.mp (hsets _ (List.mem_of_getElem? (i := 2) rfl))))
  have hEL : EW s _ consts_1 := (EW.cons (own_w hw 44 rfl) (by decide) EW.nil)
  have hC0 : CHv s consts_1 s.vm s.heap := CHv.start hEL (fun p hp => hcalls.2.1 p hp) (hsets _ (List.mem_of_getElem? (i := 2) rfl)) (own_w hw 19 rfl) (own_w hw 1 rfl)
  obtain ⟨ad, ka, ead, fAD⟩ := own_arr0 (n := 0) hfit (hsets _ (List.mem_of_getElem? (i := 15) rfl)) (hsets _ (List.mem_of_getElem? (i := 17) rfl))
  have st_DEFAULTCAPACITY_EMPTY_ELEMENTDATA : Sta s s.heap "java/util/ArrayList" "DEFAULTCAPACITY_EMPTY_ELEMENTDATA" "[Ljava/lang/Object;" (.ref ad) := Sta.start ead (Or.inr ⟨(own_w hw 49 rfl), (hsets _ (List.mem_of_getElem? (i := 11) rfl))⟩)
  have eAD : Exa s s.heap ad "[Ljava/lang/Object;" := exa_at ead (Cond.before_iff.mp (hsets _ (List.mem_of_getElem? (i := 16) rfl)))
  have had : @LT.lt Nat _ ad s.heap.size := fAD.lt
  obtain ⟨em, eem⟩ := exa_v (Cond.before_iff.mp (hsets _ (List.mem_of_getElem? (i := 27) rfl)))
  have st_EMPTY : Sta s s.heap "java/util/ImmutableCollections" "EMPTY" "Ljava/lang/Object;" (.ref em) := Sta.start eem (Or.inl (hsets _ (List.mem_of_getElem? (i := 26) rfl)))
  obtain ⟨el, eel⟩ := exa_v (Cond.before_iff.mp (hsets _ (List.mem_of_getElem? (i := 20) rfl)))
  have st_EMPTY_LIST : Sta s s.heap "java/util/ImmutableCollections" "EMPTY_LIST" "Ljava/util/ImmutableCollections$ListN;" (.ref el) := Sta.start eel (Or.inl (hsets _ (List.mem_of_getElem? (i := 19) rfl)))
  obtain ⟨ea, kea, eea, fea⟩ := own_arr0 (n := 0) hfit (hsets _ (List.mem_of_getElem? (i := 21) rfl)) (hsets _ (List.mem_of_getElem? (i := 23) rfl))
  have fld0 := fld_at (C := "java/util/ImmutableCollections$ListN") (n := "elements") (dd := "[Ljava/lang/Object;") eel
  rw [eea] at fld0
  have hel : own_Li s s.heap el 0 := Or.inr ⟨ea, kea, _, _, exa_at eel (Cond.before_iff.mp (hsets _ (List.mem_of_getElem? (i := 20) rfl))), Fld.start fld0.symm, fea⟩
  obtain ⟨cM, kM, mr, hM1, hM2, hM3, -⟩ := hcalls.1
  have hmir : own_Mir s "[Ljava/lang/Object;" mr := ⟨cM, kM, hM1, hM2, hM3⟩
  obtain ⟨n, o, h1, h2, h3, _, L, rfl, ⟨rfl, N, -⟩, -, hq⟩ := rm_law l s _ hw tables_1 i0 i1 i2 i3 mr em el ad ka zc s.heap hEL (Old.start s) fAD eAD st_zc st_DEFAULTCAPACITY_EMPTY_ELEMENTDATA st_EMPTY st_EMPTY_LIST hzc hmir hel had p e ha hc hk s m _ below hf ((Spec.applies_iff_loose hf).mp happ).1 ⟨rfl, State.Warmed39.refl s, rfl, hC0⟩ trivial
  refine ⟨n, _, h1, h2, h3, hpost _ _ _ _ _ _ ⟨Cond.after_iff.mpr rfl, Cond.after_iff.mpr (eq_i res_at (Term.int_eval (1)) rfl), trivial⟩ ⟨hq.1, hq.2.1, hq.2.2.1, (hq.2.2.2.sift fun y hy => Or.inr (N y hy)).mono (by decide) (by decide)⟩⟩
theorem main_1_1 : Claimed_1_1 := comes_1 fun _ _ _ _ _ _ h hF => ⟨h.1, hF⟩
theorem main_1_2 : Claimed_1_2 := comes_1 fun _ _ _ _ _ _ h hF => ⟨h.2.1, hF⟩
end Jvm.Pilot.@@N@@
namespace Jvm.Pilot.@@N@@
open Jvm Jvm.ClassFile Sem Op Lib Jvm.Free Jvm.Stand Jvm.Pilot.@@N@@.Jvm.D
/-! MADE BY PROGRAM (witnessworld.py) out of the Statement's table words and the real class files: 40 classes; the members and pool entries that the words name. The judged class is class 1, her method 1. -/
namespace start1
open Jvm.ClassFile
def u (s : String) : CpInfo := .utf8 (stringToUtf16 s)
/-- a pool by its gaps: so many unusable entries, then the entry; so many at the end -/
def gap : Nat → List CpInfo → List CpInfo
  | 0, r => r
  | n + 1, r => .unusable :: gap n r
def poolList (es : List (Nat × CpInfo)) (last : Nat) : List CpInfo := es.foldr (fun e r => gap e.1 (e.2 :: r)) (gap last [])
def pool (es : List (Nat × CpInfo)) (last : Nat) : Array CpInfo := ⟨poolList es last⟩
def fileOf (pool : Array CpInfo) (this : Nat) (attrs : Array Attribute := #[]) (ms : Array MethodInfo := #[]) (fl : Nat := 33) (sup : Nat := 0) (ifs : Array Nat := #[]) (fds : Array FieldInfo := #[]) : ClassFile where
  minorVersion := 0
  majorVersion := 65
  constantPool := pool
  accessFlags := fl
  thisClass := this
  superClass := sup
  interfaces := ifs
  fields := fds
  methods := ms
  attributes := attrs
def plain (name : String) (sup : Option ClassId) : Class where
  name := name
  kind := .ordinary
  loader := none
  accessFlags := 33
  super := sup
  interfaces := #[]
  cf := none
  fields := #[]
  methods := #[]
  instanceTypes := #[]
  staticTypes := #[]
  resolved := #[]
  callSites := []
  init := .initialized
  statics := none
  mirror := none

def pool0 : Array CpInfo := pool [(5, u "<init>"), (0, u "()V"), (1, .class_ 10), (1, u "java/lang/Object"), (0, u "getClass"), (0, u "()Ljava/lang/Class;")] 111

def k0c0 : Code := { maxStack := 0, maxLocals := 1, code := object_method_1_code, exceptionTable := #[], attributes := #[] }
def k0m0 : Method := { name := "<init>", desc := "()V", sig := { parameters := [], returnType := none }, accessFlags := 1, code := some k0c0 }
def k0m1 : Method := { name := "getClass", desc := "()Ljava/lang/Class;", sig := { parameters := [], returnType := some (.object "java/lang/Class") }, accessFlags := 273, code := none }
/-- java/lang/Object -/
def k0 : Class := { plain "java/lang/Object" none with
  accessFlags := 33
  interfaces := #[]
  cf := some (fileOf pool0 8 #[] #[{ accessFlags := 1, nameIndex := 5, descriptorIndex := 6, attributes := #[] }, { accessFlags := 273, nameIndex := 11, descriptorIndex := 12, attributes := #[] }] 33 0 #[] #[])
  fields := #[]
  methods := #[k0m0, k0m1]
  instanceTypes := #[]
  staticTypes := #[]
  resolved := Array.replicate 124 none
  statics := none }

def pool1 : Array CpInfo := pool [(2, .class_ 4), (0, .nameAndType 5 6), (0, u "java/lang/Object"), (0, u "<init>"), (0, u "()V"), (0, .class_ 8), (0, u "java/lang/String"), (0, .methodref 7 10), (0, .nameAndType 5 11), (0, u "([C)V"), (0, .methodref 7 13), (0, .nameAndType 14 15), (0, u "valueOf"), (0, u "(C)Ljava/lang/String;"), (0, .class_ 17), (0, u "java/util/ArrayList"), (0, .methodref 16 3), (0, .methodref 16 20), (0, .nameAndType 21 22), (0, u "add"), (0, u "(Ljava/lang/Object;)Z"), (0, .class_ 24), (0, u "com/example/hinagata/hinagata/DigestComparison"), (0, .methodref 23 26), (0, .nameAndType 5 27), (0, u "(Ljava/util/List;Ljava/util/List;)V"), (0, .methodref 23 29), (0, .nameAndType 30 31), (0, u "matches"), (0, u "()Z"), (0, .class_ 33), (0, u "com/example/hinagata/hinagata/DigestComparisonMatchesPinLaw"), (2, u "law"), (0, u "(IIII)Z")] 3

def k1m0 : Method := { name := "<init>", desc := "()V", sig := { parameters := [], returnType := none }, accessFlags := 1, code := none }
def k1c1 : Code := { maxStack := 7, maxLocals := 14, code := code, exceptionTable := #[], attributes := #[] }
def k1m1 : Method := { name := "law", desc := "(IIII)Z", sig := { parameters := [.int, .int, .int, .int], returnType := some .boolean }, accessFlags := 9, code := some k1c1 }
/-- com/example/hinagata/hinagata/DigestComparisonMatchesPinLaw -/
def k1 : Class := { plain "com/example/hinagata/hinagata/DigestComparisonMatchesPinLaw" (some 0) with
  accessFlags := 49
  interfaces := #[]
  cf := some (fileOf pool1 32 #[] #[{ accessFlags := 1, nameIndex := 5, descriptorIndex := 6, attributes := #[] }, { accessFlags := 9, nameIndex := 36, descriptorIndex := 37, attributes := #[] }] 49 2 #[] #[])
  fields := #[]
  methods := #[k1m0, k1m1]
  instanceTypes := #[]
  staticTypes := #[]
  resolved := Array.replicate 41 none
  statics := none }

def pool2 : Array CpInfo := pool [(1, .class_ 2), (0, u "java/io/Serializable"), (0, .class_ 4), (0, u "java/lang/Object")] 2

/-- java/io/Serializable -/
def k2 : Class := { plain "java/io/Serializable" (some 0) with
  accessFlags := 1537
  interfaces := #[]
  cf := some (fileOf pool2 1 #[] #[] 1537 3 #[] #[])
  fields := #[]
  methods := #[]
  instanceTypes := #[]
  staticTypes := #[]
  resolved := Array.replicate 7 none
  statics := none }

def pool3 : Array CpInfo := pool [(1, .class_ 2), (0, u "java/lang/Comparable"), (0, .class_ 4), (0, u "java/lang/Object")] 7

/-- java/lang/Comparable -/
def k3 : Class := { plain "java/lang/Comparable" (some 0) with
  accessFlags := 1537
  interfaces := #[]
  cf := some (fileOf pool3 1 #[] #[] 1537 3 #[] #[])
  fields := #[]
  methods := #[]
  instanceTypes := #[]
  staticTypes := #[]
  resolved := Array.replicate 12 none
  statics := none }

def pool4 : Array CpInfo := pool [(2, .class_ 4), (1, u "java/lang/CharSequence"), (42, .class_ 48), (0, u "java/lang/CharSequence$1CodePointIterator"), (10, .class_ 60), (0, u "java/lang/CharSequence$1CharIterator"), (5, .class_ 67), (0, u "java/lang/Object")] 63

/-- java/lang/CharSequence -/
def k4 : Class := { plain "java/lang/CharSequence" (some 0) with
  accessFlags := 1537
  interfaces := #[]
  cf := some (fileOf pool4 2 #[.nestMembers #[47, 59]] #[] 1537 66 #[] #[])
  fields := #[]
  methods := #[]
  instanceTypes := #[]
  staticTypes := #[]
  resolved := Array.replicate 131 none
  statics := none }

def pool5 : Array CpInfo := pool [(1, .class_ 2), (0, u "java/lang/constant/Constable"), (0, .class_ 4), (0, u "java/lang/Object")] 6

/-- java/lang/constant/Constable -/
def k5 : Class := { plain "java/lang/constant/Constable" (some 0) with
  accessFlags := 1537
  interfaces := #[]
  cf := some (fileOf pool5 1 #[] #[] 1537 3 #[] #[])
  fields := #[]
  methods := #[]
  instanceTypes := #[]
  staticTypes := #[]
  resolved := Array.replicate 11 none
  statics := none }

def pool6 : Array CpInfo := pool [(1, .class_ 2), (0, u "java/lang/constant/ConstantDesc"), (0, .class_ 4), (0, u "java/lang/Object")] 32

/-- java/lang/constant/ConstantDesc -/
def k6 : Class := { plain "java/lang/constant/ConstantDesc" (some 0) with
  accessFlags := 1537
  interfaces := #[]
  cf := some (fileOf pool6 1 #[] #[] 1537 3 #[] #[])
  fields := #[]
  methods := #[]
  instanceTypes := #[]
  staticTypes := #[]
  resolved := Array.replicate 37 none
  statics := none }

def pool7 : Array CpInfo := pool [(1, .methodref 2 3), (0, .class_ 4), (0, .nameAndType 5 6), (0, u "java/lang/Object"), (0, u "<init>"), (0, u "()V"), (0, .string 8), (0, u ""), (0, .fieldref 10 11), (0, .class_ 12), (0, .nameAndType 13 14), (0, u "java/lang/String"), (0, u "value"), (0, u "[B"), (0, .fieldref 10 16), (0, .nameAndType 17 18), (0, u "coder"), (0, u "B"), (2, u "hash"), (0, u "I"), (2, u "hashIsZero"), (0, u "Z"), (0, .methodref 10 28), (0, .nameAndType 5 29), (0, u "([CIILjava/lang/Void;)V"), (8, .fieldref 10 39), (0, .nameAndType 40 26), (0, u "COMPACT_STRINGS"), (1, .class_ 44), (1, u "java/lang/StringUTF16"), (0, u "compress"), (1, .methodref 42 48), (0, .nameAndType 49 50), (0, u "coderFromArrayLen"), (0, u "([BI)B"), (2, u "toBytes"), (53, .class_ 109), (1, u "java/lang/StringLatin1"), (67, .methodref 42 178), (0, .nameAndType 45 179), (0, u "([CII)[B"), (29, .methodref 10 210), (0, .nameAndType 5 211), (0, u "([BB)V"), (157, u "(C)Z"), (205, .class_ 576), (0, u "java/lang/CharSequence"), (22, u "CASE_INSENSITIVE_ORDER"), (0, u "Ljava/util/Comparator;"), (181, u "valueOf"), (0, u "(C)Ljava/lang/String;"), (226, u "([C)V"), (4, .methodref 107 1016), (0, .nameAndType 1017 369), (0, u "canEncode"), (0, .methodref 107 1019), (0, .nameAndType 53 1020), (0, u "(C)[B"), (80, u "serialPersistentFields"), (0, u "[Ljava/io/ObjectStreamField;"), (0, .class_ 1104), (0, u "java/lang/String$CaseInsensitiveComparator"), (1, .class_ 1107), (0, u "java/io/Serializable"), (0, .class_ 1109), (0, u "java/lang/Comparable"), (0, .class_ 1111), (0, u "java/lang/constant/Constable"), (0, .class_ 1113), (0, u "java/lang/constant/ConstantDesc"), (2, u "serialVersionUID"), (0, u "J"), (3, u "REPL"), (0, u "C"), (2, u "LATIN1"), (1, u "UTF16")] 323

def k7m0 : Method := { name := "<init>", desc := "()V", sig := { parameters := [], returnType := none }, accessFlags := 1, code := none }
def k7c1 : Code := { maxStack := 5, maxLocals := 2, code := jdk_42_method_3_code, exceptionTable := #[], attributes := #[] }
def k7m1 : Method := { name := "<init>", desc := "([C)V", sig := { parameters := [(.array .char)], returnType := none }, accessFlags := 1, code := some k7c1 }
def k7c2 : Code := { maxStack := 4, maxLocals := 1, code := jdk_42_method_139_code, exceptionTable := #[], attributes := #[] }
def k7m2 : Method := { name := "valueOf", desc := "(C)Ljava/lang/String;", sig := { parameters := [.char], returnType := some (.object "java/lang/String") }, accessFlags := 9, code := some k7c2 }
def k7c3 : Code := { maxStack := 4, maxLocals := 6, code := jdk_42_method_149_code, exceptionTable := #[], attributes := #[] }
def k7m3 : Method := { name := "<init>", desc := "([CIILjava/lang/Void;)V", sig := { parameters := [(.array .char), .int, .int, (.object "java/lang/Void")], returnType := none }, accessFlags := 2, code := some k7c3 }
def k7c4 : Code := { maxStack := 2, maxLocals := 3, code := jdk_42_method_151_code, exceptionTable := #[], attributes := #[] }
def k7m4 : Method := { name := "<init>", desc := "([BB)V", sig := { parameters := [(.array .byte), .byte], returnType := none }, accessFlags := 0, code := some k7c4 }
/-- java/lang/String -/
def k7 : Class := { plain "java/lang/String" (some 0) with
  accessFlags := 49
  interfaces := #[2, 3, 4, 5, 6]
  cf := some (fileOf pool7 10 #[.nestMembers #[1103]] #[{ accessFlags := 1, nameIndex := 5, descriptorIndex := 6, attributes := #[] }, { accessFlags := 1, nameIndex := 5, descriptorIndex := 1010, attributes := #[] }, { accessFlags := 9, nameIndex := 782, descriptorIndex := 783, attributes := #[] }, { accessFlags := 2, nameIndex := 5, descriptorIndex := 29, attributes := #[] }, { accessFlags := 0, nameIndex := 5, descriptorIndex := 211, attributes := #[] }] 49 2 #[1106, 1108, 575, 1110, 1112] #[{ accessFlags := 18, nameIndex := 13, descriptorIndex := 14, attributes := #[] }, { accessFlags := 18, nameIndex := 17, descriptorIndex := 18, attributes := #[] }, { accessFlags := 2, nameIndex := 21, descriptorIndex := 22, attributes := #[] }, { accessFlags := 2, nameIndex := 25, descriptorIndex := 26, attributes := #[] }, { accessFlags := 26, nameIndex := 1116, descriptorIndex := 1117, attributes := #[] }, { accessFlags := 24, nameIndex := 40, descriptorIndex := 26, attributes := #[] }, { accessFlags := 26, nameIndex := 1101, descriptorIndex := 1102, attributes := #[] }, { accessFlags := 26, nameIndex := 1121, descriptorIndex := 1122, attributes := #[] }, { accessFlags := 25, nameIndex := 599, descriptorIndex := 600, attributes := #[] }, { accessFlags := 24, nameIndex := 1125, descriptorIndex := 18, attributes := #[] }, { accessFlags := 24, nameIndex := 1127, descriptorIndex := 18, attributes := #[] }])
  fields := #[{ name := "value", type := (.array .byte), accessFlags := 18, slot := 0, constantValue := 0 }, { name := "coder", type := .byte, accessFlags := 18, slot := 1, constantValue := 0 }, { name := "hash", type := .int, accessFlags := 2, slot := 2, constantValue := 0 }, { name := "hashIsZero", type := .boolean, accessFlags := 2, slot := 3, constantValue := 0 }, { name := "serialVersionUID", type := .long, accessFlags := 26, slot := 0, constantValue := 0 }, { name := "COMPACT_STRINGS", type := .boolean, accessFlags := 24, slot := 1, constantValue := 0 }, { name := "serialPersistentFields", type := (.array (.object "java/io/ObjectStreamField")), accessFlags := 26, slot := 2, constantValue := 0 }, { name := "REPL", type := .char, accessFlags := 26, slot := 3, constantValue := 0 }, { name := "CASE_INSENSITIVE_ORDER", type := (.object "java/util/Comparator"), accessFlags := 25, slot := 4, constantValue := 0 }, { name := "LATIN1", type := .byte, accessFlags := 24, slot := 5, constantValue := 0 }, { name := "UTF16", type := .byte, accessFlags := 24, slot := 6, constantValue := 0 }]
  methods := #[k7m0, k7m1, k7m2, k7m3, k7m4]
  instanceTypes := #[(.array .byte), .byte, .int, .boolean]
  staticTypes := #[.long, .boolean, (.array (.object "java/io/ObjectStreamField")), .char, (.object "java/util/Comparator"), .byte, .byte]
  resolved := Array.replicate 1451 none
  statics := some 0 }

def pool8 : Array CpInfo := pool [(6, .class_ 8), (1, u "java/lang/Object"), (0, u "<init>"), (0, u "()V"), (1, .class_ 14), (1, u "java/lang/StringUTF16"), (31, u "$assertionsDisabled"), (0, u "Z"), (13, u "HI_BYTE_SHIFT"), (0, u "I"), (2, u "LO_BYTE_SHIFT"), (49, .methodref 12 116), (0, .nameAndType 117 118), (0, u "compress"), (0, u "([CI[BII)I"), (3, u "([CII)[B"), (138, u "coderFromArrayLen"), (0, u "([BI)B"), (106, .class_ 371), (1, u "java/lang/StringUTF16$LinesSpliterator"), (58, u "MAX_LENGTH"), (196, .class_ 628), (0, u "java/lang/StringUTF16$CodePointsSpliterator"), (0, .class_ 630), (0, u "java/lang/StringUTF16$CharsSpliterator")] 4

def k8m0 : Method := { name := "<init>", desc := "()V", sig := { parameters := [], returnType := none }, accessFlags := 0, code := none }
def k8c1 : Code := { maxStack := 2, maxLocals := 2, code := jdk_52_method_15_code, exceptionTable := #[], attributes := #[] }
def k8m1 : Method := { name := "coderFromArrayLen", desc := "([BI)B", sig := { parameters := [(.array .byte), .int], returnType := some .byte }, accessFlags := 8, code := some k8c1 }
def k8c2 : Code := { maxStack := 5, maxLocals := 6, code := jdk_52_method_16_code, exceptionTable := #[], attributes := #[] }
def k8m2 : Method := { name := "compress", desc := "([CII)[B", sig := { parameters := [(.array .char), .int, .int], returnType := some (.array .byte) }, accessFlags := 9, code := some k8c2 }
def k8c3 : Code := { maxStack := 3, maxLocals := 7, code := jdk_52_method_21_code, exceptionTable := #[], attributes := #[] }
def k8m3 : Method := { name := "compress", desc := "([CI[BII)I", sig := { parameters := [(.array .char), .int, (.array .byte), .int, .int], returnType := some .int }, accessFlags := 9, code := some k8c3 }
/-- java/lang/StringUTF16 -/
def k8 : Class := { plain "java/lang/StringUTF16" (some 0) with
  accessFlags := 48
  interfaces := #[]
  cf := some (fileOf pool8 12 #[.nestMembers #[627, 629, 369]] #[{ accessFlags := 0, nameIndex := 9, descriptorIndex := 10, attributes := #[] }, { accessFlags := 8, nameIndex := 261, descriptorIndex := 262, attributes := #[] }, { accessFlags := 9, nameIndex := 117, descriptorIndex := 122, attributes := #[] }, { accessFlags := 9, nameIndex := 117, descriptorIndex := 118, attributes := #[] }] 48 6 #[] #[{ accessFlags := 26, nameIndex := 61, descriptorIndex := 62, attributes := #[] }, { accessFlags := 26, nameIndex := 65, descriptorIndex := 62, attributes := #[] }, { accessFlags := 24, nameIndex := 430, descriptorIndex := 62, attributes := #[] }, { accessFlags := 4120, nameIndex := 46, descriptorIndex := 47, attributes := #[] }])
  fields := #[{ name := "HI_BYTE_SHIFT", type := .int, accessFlags := 26, slot := 0, constantValue := 0 }, { name := "LO_BYTE_SHIFT", type := .int, accessFlags := 26, slot := 1, constantValue := 0 }, { name := "MAX_LENGTH", type := .int, accessFlags := 24, slot := 2, constantValue := 0 }, { name := "$assertionsDisabled", type := .boolean, accessFlags := 4120, slot := 3, constantValue := 0 }]
  methods := #[k8m0, k8m1, k8m2, k8m3]
  instanceTypes := #[]
  staticTypes := #[.int, .int, .int, .boolean]
  resolved := Array.replicate 635 none
  statics := none }

def pool9 : Array CpInfo := pool [(4, .class_ 6), (1, u "java/lang/Object"), (0, u "<init>"), (0, u "()V"), (5, .class_ 16), (1, u "java/lang/StringLatin1"), (73, u "canEncode"), (14, u "(C)Z"), (15, u "$assertionsDisabled"), (0, u "Z"), (98, .class_ 223), (1, u "java/lang/StringLatin1$LinesSpliterator"), (156, u "toBytes"), (1, u "(C)[B"), (7, .class_ 391), (0, u "java/lang/StringLatin1$CharsSpliterator")] 3

def k9m0 : Method := { name := "<init>", desc := "()V", sig := { parameters := [], returnType := none }, accessFlags := 0, code := none }
def k9c1 : Code := { maxStack := 2, maxLocals := 1, code := jdk_43_method_3_code, exceptionTable := #[], attributes := #[] }
def k9m1 : Method := { name := "canEncode", desc := "(C)Z", sig := { parameters := [.char], returnType := some .boolean }, accessFlags := 9, code := some k9c1 }
def k9c2 : Code := { maxStack := 4, maxLocals := 1, code := jdk_43_method_46_code, exceptionTable := #[], attributes := #[] }
def k9m2 : Method := { name := "toBytes", desc := "(C)[B", sig := { parameters := [.char], returnType := some (.array .byte) }, accessFlags := 9, code := some k9c2 }
/-- java/lang/StringLatin1 -/
def k9 : Class := { plain "java/lang/StringLatin1" (some 0) with
  accessFlags := 48
  interfaces := #[]
  cf := some (fileOf pool9 14 #[.nestMembers #[390, 221]] #[{ accessFlags := 0, nameIndex := 7, descriptorIndex := 8, attributes := #[] }, { accessFlags := 9, nameIndex := 90, descriptorIndex := 105, attributes := #[] }, { accessFlags := 9, nameIndex := 380, descriptorIndex := 382, attributes := #[] }] 48 4 #[] #[{ accessFlags := 4120, nameIndex := 121, descriptorIndex := 122, attributes := #[] }])
  fields := #[{ name := "$assertionsDisabled", type := .boolean, accessFlags := 4120, slot := 0, constantValue := 0 }]
  methods := #[k9m0, k9m1, k9m2]
  instanceTypes := #[]
  staticTypes := #[.boolean]
  resolved := Array.replicate 395 none
  statics := none }

def pool10 : Array CpInfo := pool [(8, .class_ 10), (1, u "java/lang/Iterable"), (24, .class_ 36), (0, u "java/lang/Object")] 25

/-- java/lang/Iterable -/
def k10 : Class := { plain "java/lang/Iterable" (some 0) with
  accessFlags := 1537
  interfaces := #[]
  cf := some (fileOf pool10 8 #[] #[] 1537 35 #[] #[])
  fields := #[]
  methods := #[]
  instanceTypes := #[]
  staticTypes := #[]
  resolved := Array.replicate 62 none
  statics := none }

def pool11 : Array CpInfo := pool [(10, .class_ 12), (1, u "java/util/Collection"), (0, u "toArray"), (16, u "()Z"), (29, .class_ 61), (0, u "java/lang/Object"), (0, .class_ 63), (0, u "java/lang/Iterable"), (2, u "isEmpty"), (3, u "()[Ljava/lang/Object;")] 44

def k11m0 : Method := { name := "isEmpty", desc := "()Z", sig := { parameters := [], returnType := some .boolean }, accessFlags := 1025, code := none }
def k11m1 : Method := { name := "toArray", desc := "()[Ljava/lang/Object;", sig := { parameters := [], returnType := some (.array (.object "java/lang/Object")) }, accessFlags := 1025, code := none }
/-- java/util/Collection -/
def k11 : Class := { plain "java/util/Collection" (some 0) with
  accessFlags := 1537
  interfaces := #[10]
  cf := some (fileOf pool11 10 #[] #[{ accessFlags := 1025, nameIndex := 66, descriptorIndex := 30, attributes := #[] }, { accessFlags := 1025, nameIndex := 13, descriptorIndex := 70, attributes := #[] }] 1537 60 #[62] #[])
  fields := #[]
  methods := #[k11m0, k11m1]
  instanceTypes := #[]
  staticTypes := #[]
  resolved := Array.replicate 115 none
  statics := none }

def pool12 : Array CpInfo := pool [(1, .methodref 2 3), (0, .class_ 4), (0, .nameAndType 5 6), (0, u "java/lang/Object"), (0, u "<init>"), (0, u "()V"), (1, .class_ 10), (1, u "java/util/AbstractCollection"), (66, .class_ 78), (0, u "java/util/Collection")] 81

def k12c0 : Code := { maxStack := 1, maxLocals := 1, code := jdk_22_method_1_code, exceptionTable := #[], attributes := #[] }
def k12m0 : Method := { name := "<init>", desc := "()V", sig := { parameters := [], returnType := none }, accessFlags := 4, code := some k12c0 }
/-- java/util/AbstractCollection -/
def k12 : Class := { plain "java/util/AbstractCollection" (some 0) with
  accessFlags := 1057
  interfaces := #[11]
  cf := some (fileOf pool12 8 #[] #[{ accessFlags := 4, nameIndex := 5, descriptorIndex := 6, attributes := #[] }] 1057 2 #[77] #[])
  fields := #[]
  methods := #[k12m0]
  instanceTypes := #[]
  staticTypes := #[]
  resolved := Array.replicate 160 none
  statics := none }

def pool13 : Array CpInfo := pool [(8, .class_ 10), (1, u "java/util/SequencedCollection"), (15, .class_ 27), (0, u "java/lang/Object"), (0, .class_ 29), (0, u "java/util/Collection")] 27

/-- java/util/SequencedCollection -/
def k13 : Class := { plain "java/util/SequencedCollection" (some 0) with
  accessFlags := 1537
  interfaces := #[11]
  cf := some (fileOf pool13 8 #[] #[] 1537 26 #[28] #[])
  fields := #[]
  methods := #[]
  instanceTypes := #[]
  staticTypes := #[]
  resolved := Array.replicate 57 none
  statics := none }

def pool14 : Array CpInfo := pool [(8, .class_ 10), (1, u "java/util/List"), (7, u "()Z"), (12, u "(Ljava/lang/Object;)V"), (16, u "<init>"), (18, u "isEmpty"), (20, u "of"), (1, .fieldref 91 92), (0, .class_ 93), (0, .nameAndType 94 95), (0, u "java/util/ImmutableCollections"), (0, u "EMPTY_LIST"), (0, u "Ljava/util/ImmutableCollections$ListN;"), (0, .class_ 97), (0, u "java/util/ImmutableCollections$List12"), (0, .methodref 96 99), (0, .nameAndType 48 31), (0, .methodref 96 101), (0, .nameAndType 48 102), (0, u "(Ljava/lang/Object;Ljava/lang/Object;)V"), (0, .class_ 104), (0, u "java/lang/Object"), (3, u "([Ljava/lang/Object;)Ljava/util/List;"), (0, .methodref 91 110), (0, .nameAndType 111 108), (0, u "listFromArray"), (0, .methodref 91 113), (0, .nameAndType 114 115), (0, u "listCopy"), (0, u "(Ljava/util/Collection;)Ljava/util/List;"), (3, u "()Ljava/util/List;"), (0, .class_ 121), (0, u "java/util/SequencedCollection"), (112, u "copyOf")] 16

def k14m0 : Method := { name := "isEmpty", desc := "()Z", sig := { parameters := [], returnType := some .boolean }, accessFlags := 1025, code := none }
def k14c1 : Code := { maxStack := 1, maxLocals := 0, code := jdk_40_method_36_code, exceptionTable := #[], attributes := #[] }
def k14m1 : Method := { name := "of", desc := "()Ljava/util/List;", sig := { parameters := [], returnType := some (.object "java/util/List") }, accessFlags := 9, code := some k14c1 }
def k14c2 : Code := { maxStack := 5, maxLocals := 2, code := jdk_40_method_47_code, exceptionTable := #[], attributes := #[] }
def k14m2 : Method := { name := "of", desc := "([Ljava/lang/Object;)Ljava/util/List;", sig := { parameters := [(.array (.object "java/lang/Object"))], returnType := some (.object "java/util/List") }, accessFlags := 137, code := some k14c2 }
def k14c3 : Code := { maxStack := 1, maxLocals := 1, code := jdk_40_method_48_code, exceptionTable := #[], attributes := #[] }
def k14m3 : Method := { name := "copyOf", desc := "(Ljava/util/Collection;)Ljava/util/List;", sig := { parameters := [(.object "java/util/Collection")], returnType := some (.object "java/util/List") }, accessFlags := 9, code := some k14c3 }
/-- java/util/List -/
def k14 : Class := { plain "java/util/List" (some 0) with
  accessFlags := 1537
  interfaces := #[13]
  cf := some (fileOf pool14 8 #[] #[{ accessFlags := 1025, nameIndex := 67, descriptorIndex := 18, attributes := #[] }, { accessFlags := 9, nameIndex := 88, descriptorIndex := 119, attributes := #[] }, { accessFlags := 137, nameIndex := 88, descriptorIndex := 108, attributes := #[] }, { accessFlags := 9, nameIndex := 234, descriptorIndex := 115, attributes := #[] }] 1537 103 #[120] #[])
  fields := #[]
  methods := #[k14m0, k14m1, k14m2, k14m3]
  instanceTypes := #[]
  staticTypes := #[]
  resolved := Array.replicate 251 none
  statics := none }

def pool15 : Array CpInfo := pool [(1, .methodref 2 3), (0, .class_ 4), (0, .nameAndType 5 6), (0, u "java/util/AbstractCollection"), (0, u "<init>"), (0, u "()V"), (0, .fieldref 8 9), (0, .class_ 10), (0, .nameAndType 11 12), (0, u "java/util/AbstractList"), (0, u "modCount"), (0, u "I"), (64, .class_ 78), (0, u "java/util/AbstractList$Itr"), (3, .class_ 83), (0, u "java/util/AbstractList$ListItr"), (9, .class_ 94), (0, u "java/util/AbstractList$RandomAccessSubList"), (3, .class_ 99), (0, u "java/util/AbstractList$SubList"), (33, .class_ 134), (0, u "java/util/List"), (73, .class_ 209), (0, u "java/util/AbstractList$SubList$1"), (0, .class_ 211), (0, u "java/util/AbstractList$RandomAccessSpliterator")] 6

def k15c0 : Code := { maxStack := 2, maxLocals := 1, code := jdk_39_method_1_code, exceptionTable := #[], attributes := #[] }
def k15m0 : Method := { name := "<init>", desc := "()V", sig := { parameters := [], returnType := none }, accessFlags := 4, code := some k15c0 }
/-- java/util/AbstractList -/
def k15 : Class := { plain "java/util/AbstractList" (some 12) with
  accessFlags := 1057
  interfaces := #[14]
  cf := some (fileOf pool15 8 #[.nestMembers #[93, 98, 208, 210, 82, 77]] #[{ accessFlags := 4, nameIndex := 5, descriptorIndex := 6, attributes := #[] }] 1057 2 #[133] #[{ accessFlags := 132, nameIndex := 11, descriptorIndex := 12, attributes := #[] }])
  fields := #[{ name := "modCount", type := .int, accessFlags := 132, slot := 0, constantValue := 0 }]
  methods := #[k15m0]
  instanceTypes := #[.int]
  staticTypes := #[]
  resolved := Array.replicate 218 none
  statics := none }

def pool16 : Array CpInfo := pool [(1, .class_ 2), (0, u "java/util/RandomAccess"), (0, .class_ 4), (0, u "java/lang/Object")] 2

/-- java/util/RandomAccess -/
def k16 : Class := { plain "java/util/RandomAccess" (some 0) with
  accessFlags := 1537
  interfaces := #[]
  cf := some (fileOf pool16 1 #[] #[] 1537 3 #[] #[])
  fields := #[]
  methods := #[]
  instanceTypes := #[]
  staticTypes := #[]
  resolved := Array.replicate 7 none
  statics := none }

def pool17 : Array CpInfo := pool [(1, .class_ 2), (0, u "java/lang/Cloneable"), (0, .class_ 4), (0, u "java/lang/Object")] 2

/-- java/lang/Cloneable -/
def k17 : Class := { plain "java/lang/Cloneable" (some 0) with
  accessFlags := 1537
  interfaces := #[]
  cf := some (fileOf pool17 1 #[] #[] 1537 3 #[] #[])
  fields := #[]
  methods := #[]
  instanceTypes := #[]
  staticTypes := #[]
  resolved := Array.replicate 7 none
  statics := none }

def pool18 : Array CpInfo := pool [(1, .methodref 2 3), (0, .class_ 4), (0, .nameAndType 5 6), (0, u "java/util/AbstractList"), (0, u "<init>"), (0, u "()V"), (0, .class_ 8), (0, u "java/lang/Object"), (0, .fieldref 10 11), (0, .class_ 12), (0, .nameAndType 13 14), (0, u "java/util/ArrayList"), (0, u "elementData"), (0, u "[Ljava/lang/Object;"), (2, u "EMPTY_ELEMENTDATA"), (21, .fieldref 10 40), (0, .nameAndType 41 14), (0, u "DEFAULTCAPACITY_EMPTY_ELEMENTDATA"), (4, u "toArray"), (0, u "()[Ljava/lang/Object;"), (0, .fieldref 10 49), (0, .nameAndType 50 51), (0, u "size"), (0, u "I"), (6, .class_ 60), (1, u "java/util/Arrays"), (0, u "copyOf"), (1, .fieldref 10 64), (0, .nameAndType 65 51), (0, u "modCount"), (0, .methodref 58 67), (0, .nameAndType 61 68), (0, u "([Ljava/lang/Object;I)[Ljava/lang/Object;"), (0, .methodref 10 70), (0, .nameAndType 71 72), (0, u "grow"), (0, u "(I)[Ljava/lang/Object;"), (6, .methodref 80 81), (0, .class_ 82), (0, .nameAndType 83 84), (0, u "java/lang/Math"), (0, u "max"), (0, u "(II)I"), (11, u "(Ljava/lang/Object;)Z"), (32, .methodref 10 130), (0, .nameAndType 71 47), (0, .methodref 10 132), (0, .nameAndType 133 134), (0, u "add"), (0, u "(Ljava/lang/Object;[Ljava/lang/Object;I)V"), (13, .class_ 149), (0, u "java/util/List"), (23, u "()Z"), (88, .class_ 263), (0, u "java/util/ArrayList$ListItr"), (3, .class_ 268), (0, u "java/util/ArrayList$Itr"), (7, .class_ 277), (0, u "java/util/ArrayList$SubList"), (12, .class_ 291), (0, u "java/util/ArrayList$ArrayListSpliterator"), (37, .class_ 330), (0, u "java/util/RandomAccess"), (0, .class_ 332), (0, u "java/lang/Cloneable"), (0, .class_ 334), (0, u "java/io/Serializable"), (0, u "serialVersionUID"), (0, u "J"), (3, u "DEFAULT_CAPACITY"), (22, u "isEmpty"), (136, .class_ 501), (0, u "java/util/ArrayList$SubList$2"), (0, .class_ 503), (0, u "java/util/ArrayList$SubList$1")] 5

def k18c0 : Code := { maxStack := 2, maxLocals := 1, code := jdk_38_method_2_code, exceptionTable := #[], attributes := #[] }
def k18m0 : Method := { name := "<init>", desc := "()V", sig := { parameters := [], returnType := none }, accessFlags := 1, code := some k18c0 }
def k18c1 : Code := { maxStack := 4, maxLocals := 4, code := jdk_38_method_6_code, exceptionTable := #[], attributes := #[] }
def k18m1 : Method := { name := "grow", desc := "(I)[Ljava/lang/Object;", sig := { parameters := [.int], returnType := some (.array (.object "java/lang/Object")) }, accessFlags := 2, code := some k18c1 }
def k18c2 : Code := { maxStack := 3, maxLocals := 1, code := jdk_38_method_7_code, exceptionTable := #[], attributes := #[] }
def k18m2 : Method := { name := "grow", desc := "()[Ljava/lang/Object;", sig := { parameters := [], returnType := some (.array (.object "java/lang/Object")) }, accessFlags := 2, code := some k18c2 }
def k18c3 : Code := { maxStack := 1, maxLocals := 1, code := jdk_38_method_9_code, exceptionTable := #[], attributes := #[] }
def k18m3 : Method := { name := "isEmpty", desc := "()Z", sig := { parameters := [], returnType := some .boolean }, accessFlags := 1, code := some k18c3 }
def k18c4 : Code := { maxStack := 2, maxLocals := 1, code := jdk_38_method_16_code, exceptionTable := #[], attributes := #[] }
def k18m4 : Method := { name := "toArray", desc := "()[Ljava/lang/Object;", sig := { parameters := [], returnType := some (.array (.object "java/lang/Object")) }, accessFlags := 1, code := some k18c4 }
def k18c5 : Code := { maxStack := 3, maxLocals := 4, code := jdk_38_method_24_code, exceptionTable := #[], attributes := #[] }
def k18m5 : Method := { name := "add", desc := "(Ljava/lang/Object;[Ljava/lang/Object;I)V", sig := { parameters := [(.object "java/lang/Object"), (.array (.object "java/lang/Object")), .int], returnType := none }, accessFlags := 2, code := some k18c5 }
def k18c6 : Code := { maxStack := 4, maxLocals := 2, code := jdk_38_method_25_code, exceptionTable := #[], attributes := #[] }
def k18m6 : Method := { name := "add", desc := "(Ljava/lang/Object;)Z", sig := { parameters := [(.object "java/lang/Object")], returnType := some .boolean }, accessFlags := 1, code := some k18c6 }
/-- java/util/ArrayList -/
def k18 : Class := { plain "java/util/ArrayList" (some 15) with
  accessFlags := 33
  interfaces := #[14, 16, 17, 2]
  cf := some (fileOf pool18 10 #[.nestMembers #[290, 276, 500, 502, 262, 267]] #[{ accessFlags := 1, nameIndex := 5, descriptorIndex := 6, attributes := #[] }, { accessFlags := 2, nameIndex := 71, descriptorIndex := 72, attributes := #[] }, { accessFlags := 2, nameIndex := 71, descriptorIndex := 47, attributes := #[] }, { accessFlags := 1, nameIndex := 363, descriptorIndex := 173, attributes := #[] }, { accessFlags := 1, nameIndex := 46, descriptorIndex := 47, attributes := #[] }, { accessFlags := 2, nameIndex := 133, descriptorIndex := 134, attributes := #[] }, { accessFlags := 1, nameIndex := 133, descriptorIndex := 96, attributes := #[] }] 33 2 #[148, 329, 331, 333] #[{ accessFlags := 26, nameIndex := 335, descriptorIndex := 336, attributes := #[] }, { accessFlags := 26, nameIndex := 340, descriptorIndex := 51, attributes := #[] }, { accessFlags := 26, nameIndex := 17, descriptorIndex := 14, attributes := #[] }, { accessFlags := 26, nameIndex := 41, descriptorIndex := 14, attributes := #[] }, { accessFlags := 128, nameIndex := 13, descriptorIndex := 14, attributes := #[] }, { accessFlags := 2, nameIndex := 50, descriptorIndex := 51, attributes := #[] }])
  fields := #[{ name := "serialVersionUID", type := .long, accessFlags := 26, slot := 0, constantValue := 0 }, { name := "DEFAULT_CAPACITY", type := .int, accessFlags := 26, slot := 1, constantValue := 0 }, { name := "EMPTY_ELEMENTDATA", type := (.array (.object "java/lang/Object")), accessFlags := 26, slot := 2, constantValue := 0 }, { name := "DEFAULTCAPACITY_EMPTY_ELEMENTDATA", type := (.array (.object "java/lang/Object")), accessFlags := 26, slot := 3, constantValue := 0 }, { name := "elementData", type := (.array (.object "java/lang/Object")), accessFlags := 128, slot := 1, constantValue := 0 }, { name := "size", type := .int, accessFlags := 2, slot := 2, constantValue := 0 }]
  methods := #[k18m0, k18m1, k18m2, k18m3, k18m4, k18m5, k18m6]
  instanceTypes := #[.int, (.array (.object "java/lang/Object")), .int]
  staticTypes := #[.long, .int, (.array (.object "java/lang/Object")), (.array (.object "java/lang/Object"))]
  resolved := Array.replicate 509 none
  statics := some 1 }

def pool19 : Array CpInfo := pool [(1, .class_ 2), (0, u "java/lang/Math"), (1, .class_ 6), (1, u "java/lang/Object"), (0, u "<init>"), (0, u "()V"), (89, .class_ 100), (1, u "java/lang/Math$RandomNumberGeneratorHolder"), (71, u "negativeZeroFloatBits"), (0, u "J"), (2, u "negativeZeroDoubleBits"), (21, u "max"), (2, u "min"), (43, u "$assertionsDisabled"), (0, u "Z"), (88, u "(II)I"), (2, u "twoToTheDoubleScaleDown"), (0, u "D"), (4, u "twoToTheDoubleScaleUp"), (9, u "E"), (3, u "PI"), (2, u "TAU"), (2, u "DEGREES_TO_RADIANS"), (0, u "RADIANS_TO_DEGREES")] 94

def k19m0 : Method := { name := "<init>", desc := "()V", sig := { parameters := [], returnType := none }, accessFlags := 2, code := none }
def k19c1 : Code := { maxStack := 2, maxLocals := 2, code := jdk_29_method_65_code, exceptionTable := #[], attributes := #[] }
def k19m1 : Method := { name := "max", desc := "(II)I", sig := { parameters := [.int, .int], returnType := some .int }, accessFlags := 9, code := some k19c1 }
def k19c2 : Code := { maxStack := 2, maxLocals := 2, code := jdk_29_method_69_code, exceptionTable := #[], attributes := #[] }
def k19m2 : Method := { name := "min", desc := "(II)I", sig := { parameters := [.int, .int], returnType := some .int }, accessFlags := 9, code := some k19c2 }
/-- java/lang/Math -/
def k19 : Class := { plain "java/lang/Math" (some 0) with
  accessFlags := 49
  interfaces := #[]
  cf := some (fileOf pool19 1 #[.nestMembers #[98]] #[{ accessFlags := 2, nameIndex := 7, descriptorIndex := 8, attributes := #[] }, { accessFlags := 9, nameIndex := 198, descriptorIndex := 335, attributes := #[] }, { accessFlags := 9, nameIndex := 201, descriptorIndex := 335, attributes := #[] }] 49 4 #[] #[{ accessFlags := 25, nameIndex := 354, descriptorIndex := 339, attributes := #[] }, { accessFlags := 25, nameIndex := 358, descriptorIndex := 339, attributes := #[] }, { accessFlags := 25, nameIndex := 361, descriptorIndex := 339, attributes := #[] }, { accessFlags := 26, nameIndex := 364, descriptorIndex := 339, attributes := #[] }, { accessFlags := 26, nameIndex := 365, descriptorIndex := 339, attributes := #[] }, { accessFlags := 26, nameIndex := 172, descriptorIndex := 173, attributes := #[] }, { accessFlags := 26, nameIndex := 176, descriptorIndex := 173, attributes := #[] }, { accessFlags := 8, nameIndex := 344, descriptorIndex := 339, attributes := #[] }, { accessFlags := 8, nameIndex := 338, descriptorIndex := 339, attributes := #[] }, { accessFlags := 4120, nameIndex := 245, descriptorIndex := 246, attributes := #[] }])
  fields := #[{ name := "E", type := .double, accessFlags := 25, slot := 0, constantValue := 0 }, { name := "PI", type := .double, accessFlags := 25, slot := 1, constantValue := 0 }, { name := "TAU", type := .double, accessFlags := 25, slot := 2, constantValue := 0 }, { name := "DEGREES_TO_RADIANS", type := .double, accessFlags := 26, slot := 3, constantValue := 0 }, { name := "RADIANS_TO_DEGREES", type := .double, accessFlags := 26, slot := 4, constantValue := 0 }, { name := "negativeZeroFloatBits", type := .long, accessFlags := 26, slot := 5, constantValue := 0 }, { name := "negativeZeroDoubleBits", type := .long, accessFlags := 26, slot := 6, constantValue := 0 }, { name := "twoToTheDoubleScaleUp", type := .double, accessFlags := 8, slot := 7, constantValue := 0 }, { name := "twoToTheDoubleScaleDown", type := .double, accessFlags := 8, slot := 8, constantValue := 0 }, { name := "$assertionsDisabled", type := .boolean, accessFlags := 4120, slot := 9, constantValue := 0 }]
  methods := #[k19m0, k19m1, k19m2]
  instanceTypes := #[]
  staticTypes := #[.double, .double, .double, .double, .double, .long, .long, .double, .double, .boolean]
  resolved := Array.replicate 460 none
  statics := none }

def pool20 : Array CpInfo := pool [(1, .methodref 2 3), (0, .class_ 4), (0, .nameAndType 5 6), (0, u "java/lang/Object"), (0, u "<init>"), (0, u "()V"), (0, .class_ 8), (0, u "java/lang/Record")] 13

def k20c0 : Code := { maxStack := 1, maxLocals := 1, code := jdk_30_method_1_code, exceptionTable := #[], attributes := #[] }
def k20m0 : Method := { name := "<init>", desc := "()V", sig := { parameters := [], returnType := none }, accessFlags := 4, code := some k20c0 }
/-- java/lang/Record -/
def k20 : Class := { plain "java/lang/Record" (some 0) with
  accessFlags := 1057
  interfaces := #[]
  cf := some (fileOf pool20 7 #[] #[{ accessFlags := 4, nameIndex := 5, descriptorIndex := 6, attributes := #[] }] 1057 2 #[] #[])
  fields := #[]
  methods := #[k20m0]
  instanceTypes := #[]
  staticTypes := #[]
  resolved := Array.replicate 22 none
  statics := none }

def pool21 : Array CpInfo := pool [(1, .methodref 2 3), (0, .class_ 4), (0, .nameAndType 5 6), (0, u "java/lang/Record"), (0, u "<init>"), (0, u "()V"), (0, .interfaceMethodref 8 9), (0, .class_ 10), (0, .nameAndType 11 12), (0, u "java/util/List"), (0, u "copyOf"), (0, u "(Ljava/util/Collection;)Ljava/util/List;"), (0, .fieldref 14 15), (0, .class_ 16), (0, .nameAndType 17 18), (0, u "com/example/hinagata/hinagata/DigestComparison"), (0, u "missingLocal"), (0, u "Ljava/util/List;"), (0, .fieldref 14 20), (0, .nameAndType 21 18), (0, u "missingRemote"), (6, u "(Ljava/util/List;Ljava/util/List;)V"), (0, .interfaceMethodref 8 30), (0, .nameAndType 31 32), (0, u "isEmpty"), (0, u "()Z"), (64, u "matches")] 42

def k21c0 : Code := { maxStack := 2, maxLocals := 3, code := prog_5_method_1_code, exceptionTable := #[], attributes := #[] }
def k21m0 : Method := { name := "<init>", desc := "(Ljava/util/List;Ljava/util/List;)V", sig := { parameters := [(.object "java/util/List"), (.object "java/util/List")], returnType := none }, accessFlags := 1, code := some k21c0 }
def k21c1 : Code := { maxStack := 1, maxLocals := 1, code := prog_5_method_3_code, exceptionTable := #[], attributes := #[] }
def k21m1 : Method := { name := "matches", desc := "()Z", sig := { parameters := [], returnType := some .boolean }, accessFlags := 1, code := some k21c1 }
/-- com/example/hinagata/hinagata/DigestComparison -/
def k21 : Class := { plain "com/example/hinagata/hinagata/DigestComparison" (some 20) with
  accessFlags := 49
  interfaces := #[]
  cf := some (fileOf pool21 14 #[] #[{ accessFlags := 1, nameIndex := 5, descriptorIndex := 28, attributes := #[] }, { accessFlags := 1, nameIndex := 97, descriptorIndex := 32, attributes := #[] }] 49 2 #[] #[{ accessFlags := 18, nameIndex := 17, descriptorIndex := 18, attributes := #[] }, { accessFlags := 18, nameIndex := 21, descriptorIndex := 18, attributes := #[] }])
  fields := #[{ name := "missingLocal", type := (.object "java/util/List"), accessFlags := 18, slot := 0, constantValue := 0 }, { name := "missingRemote", type := (.object "java/util/List"), accessFlags := 18, slot := 1, constantValue := 0 }]
  methods := #[k21m0, k21m1]
  instanceTypes := #[(.object "java/util/List"), (.object "java/util/List")]
  staticTypes := #[]
  resolved := Array.replicate 140 none
  statics := none }

def pool22 : Array CpInfo := pool [(2, .class_ 4), (1, u "java/lang/Object"), (0, u "<init>"), (0, u "()V"), (3, .class_ 11), (0, u "java/util/ImmutableCollections$List12"), (0, .class_ 13), (0, u "java/util/ImmutableCollections$ListN"), (3, u "Z"), (0, .class_ 19), (0, u "java/util/List"), (0, .interfaceMethodref 21 22), (0, .class_ 23), (0, .nameAndType 24 25), (0, u "java/util/Collection"), (0, u "isEmpty"), (0, u "()Z"), (0, .interfaceMethodref 18 27), (0, .nameAndType 28 29), (0, u "of"), (0, u "()Ljava/util/List;"), (0, .interfaceMethodref 21 31), (0, .nameAndType 32 33), (0, u "toArray"), (0, u "()[Ljava/lang/Object;"), (0, .interfaceMethodref 18 35), (0, .nameAndType 28 36), (0, u "([Ljava/lang/Object;)Ljava/util/List;"), (0, .methodref 38 39), (0, .class_ 40), (0, .nameAndType 41 42), (0, u "java/util/Objects"), (0, u "requireNonNull"), (0, u "(Ljava/lang/Object;)Ljava/lang/Object;"), (0, .methodref 12 44), (0, .nameAndType 5 45), (0, u "([Ljava/lang/Object;Z)V"), (1, .class_ 49), (1, u "java/util/ImmutableCollections"), (0, u "$assertionsDisabled"), (5, u "[Ljava/lang/Object;"), (5, u "EMPTY_LIST"), (0, u "Ljava/util/ImmutableCollections$ListN;"), (8, u "EMPTY_LIST_NULLS"), (22, u "SALT32L"), (0, u "J"), (2, u "REVERSE"), (6, u "archivedObjects"), (2, u "EMPTY"), (0, u "Ljava/lang/Object;"), (0, .class_ 112), (0, u "java/util/ImmutableCollections$SetN"), (5, u "EMPTY_SET"), (0, u "Ljava/util/ImmutableCollections$SetN;"), (0, .class_ 121), (0, u "java/util/ImmutableCollections$MapN"), (3, u "EMPTY_MAP"), (0, u "Ljava/util/ImmutableCollections$MapN;"), (4, u "EXPAND_FACTOR"), (0, u "I"), (9, u "listCopy"), (0, u "(Ljava/util/Collection;)Ljava/util/List;"), (7, u "listFromArray"), (17, .class_ 170), (0, u "java/util/ImmutableCollections$MapN$MapNIterator"), (0, .class_ 172), (0, u "java/util/ImmutableCollections$MapN$1"), (0, .class_ 174), (0, u "java/util/ImmutableCollections$Map1"), (0, .class_ 176), (0, u "java/util/ImmutableCollections$AbstractImmutableMap"), (0, .class_ 178), (0, u "java/util/ImmutableCollections$SetN$SetNIterator"), (0, .class_ 180), (0, u "java/util/ImmutableCollections$Set12"), (0, .class_ 182), (0, u "java/util/ImmutableCollections$Set12$1"), (0, .class_ 184), (0, u "java/util/ImmutableCollections$AbstractImmutableSet"), (0, .class_ 186), (0, u "java/util/ImmutableCollections$SubList"), (0, .class_ 188), (0, u "java/util/ImmutableCollections$ListItr"), (0, .class_ 190), (0, u "java/util/ImmutableCollections$AbstractImmutableList"), (0, .class_ 192), (0, u "java/util/ImmutableCollections$AbstractImmutableCollection"), (0, .class_ 194), (0, u "java/util/ImmutableCollections$Access"), (0, .class_ 196), (0, u "java/util/ImmutableCollections$Access$1")] 16

def k22m0 : Method := { name := "<init>", desc := "()V", sig := { parameters := [], returnType := none }, accessFlags := 2, code := none }
def k22c1 : Code := { maxStack := 1, maxLocals := 2, code := jdk_56_method_3_code, exceptionTable := #[], attributes := #[] }
def k22m1 : Method := { name := "listCopy", desc := "(Ljava/util/Collection;)Ljava/util/List;", sig := { parameters := [(.object "java/util/Collection")], returnType := some (.object "java/util/List") }, accessFlags := 8, code := some k22c1 }
def k22c2 : Code := { maxStack := 4, maxLocals := 3, code := jdk_56_method_4_code, exceptionTable := #[], attributes := #[] }
def k22m2 : Method := { name := "listFromArray", desc := "([Ljava/lang/Object;)Ljava/util/List;", sig := { parameters := [(.array (.object "java/lang/Object"))], returnType := some (.object "java/util/List") }, accessFlags := 136, code := some k22c2 }
/-- java/util/ImmutableCollections -/
def k22 : Class := { plain "java/util/ImmutableCollections" (some 0) with
  accessFlags := 32
  interfaces := #[]
  cf := some (fileOf pool22 47 #[.nestMembers #[120, 169, 171, 173, 175, 111, 177, 179, 181, 183, 12, 10, 185, 187, 189, 191, 193, 195]] #[{ accessFlags := 2, nameIndex := 5, descriptorIndex := 6, attributes := #[] }, { accessFlags := 8, nameIndex := 142, descriptorIndex := 143, attributes := #[] }, { accessFlags := 136, nameIndex := 151, descriptorIndex := 36, attributes := #[] }] 32 2 #[] #[{ accessFlags := 26, nameIndex := 95, descriptorIndex := 96, attributes := #[] }, { accessFlags := 26, nameIndex := 99, descriptorIndex := 17, attributes := #[] }, { accessFlags := 10, nameIndex := 106, descriptorIndex := 56, attributes := #[] }, { accessFlags := 26, nameIndex := 109, descriptorIndex := 110, attributes := #[] }, { accessFlags := 24, nameIndex := 62, descriptorIndex := 63, attributes := #[] }, { accessFlags := 24, nameIndex := 72, descriptorIndex := 63, attributes := #[] }, { accessFlags := 24, nameIndex := 118, descriptorIndex := 119, attributes := #[] }, { accessFlags := 24, nameIndex := 125, descriptorIndex := 126, attributes := #[] }, { accessFlags := 24, nameIndex := 131, descriptorIndex := 132, attributes := #[] }, { accessFlags := 4120, nameIndex := 50, descriptorIndex := 17, attributes := #[] }])
  fields := #[{ name := "SALT32L", type := .long, accessFlags := 26, slot := 0, constantValue := 0 }, { name := "REVERSE", type := .boolean, accessFlags := 26, slot := 1, constantValue := 0 }, { name := "archivedObjects", type := (.array (.object "java/lang/Object")), accessFlags := 10, slot := 2, constantValue := 0 }, { name := "EMPTY", type := (.object "java/lang/Object"), accessFlags := 26, slot := 3, constantValue := 0 }, { name := "EMPTY_LIST", type := (.object "java/util/ImmutableCollections$ListN"), accessFlags := 24, slot := 4, constantValue := 0 }, { name := "EMPTY_LIST_NULLS", type := (.object "java/util/ImmutableCollections$ListN"), accessFlags := 24, slot := 5, constantValue := 0 }, { name := "EMPTY_SET", type := (.object "java/util/ImmutableCollections$SetN"), accessFlags := 24, slot := 6, constantValue := 0 }, { name := "EMPTY_MAP", type := (.object "java/util/ImmutableCollections$MapN"), accessFlags := 24, slot := 7, constantValue := 0 }, { name := "EXPAND_FACTOR", type := .int, accessFlags := 24, slot := 8, constantValue := 0 }, { name := "$assertionsDisabled", type := .boolean, accessFlags := 4120, slot := 9, constantValue := 0 }]
  methods := #[k22m0, k22m1, k22m2]
  instanceTypes := #[]
  staticTypes := #[.long, .boolean, (.array (.object "java/lang/Object")), (.object "java/lang/Object"), (.object "java/util/ImmutableCollections$ListN"), (.object "java/util/ImmutableCollections$ListN"), (.object "java/util/ImmutableCollections$SetN"), (.object "java/util/ImmutableCollections$MapN"), .int, .boolean]
  resolved := Array.replicate 213 none
  statics := some 2 }

def pool23 : Array CpInfo := pool [(1, .methodref 2 3), (0, .class_ 4), (0, .nameAndType 5 6), (0, u "java/util/AbstractCollection"), (0, u "<init>"), (0, u "()V"), (1, .class_ 10), (1, u "java/util/ImmutableCollections"), (2, .class_ 14), (0, u "java/util/ImmutableCollections$AbstractImmutableCollection")] 41

def k23c0 : Code := { maxStack := 1, maxLocals := 1, code := jdk_47_method_1_code, exceptionTable := #[], attributes := #[] }
def k23m0 : Method := { name := "<init>", desc := "()V", sig := { parameters := [], returnType := none }, accessFlags := 0, code := some k23c0 }
/-- java/util/ImmutableCollections$AbstractImmutableCollection -/
def k23 : Class := { plain "java/util/ImmutableCollections$AbstractImmutableCollection" (some 12) with
  accessFlags := 1056
  interfaces := #[]
  cf := some (fileOf pool23 13 #[.nestHost 8] #[{ accessFlags := 0, nameIndex := 5, descriptorIndex := 6, attributes := #[] }] 1056 2 #[] #[])
  fields := #[]
  methods := #[k23m0]
  instanceTypes := #[]
  staticTypes := #[]
  resolved := Array.replicate 56 none
  statics := none }

def pool24 : Array CpInfo := pool [(1, .methodref 2 3), (0, .class_ 4), (0, .nameAndType 5 6), (0, u "java/util/ImmutableCollections$AbstractImmutableCollection"), (0, u "<init>"), (0, u "()V"), (1, .class_ 10), (1, u "java/util/ImmutableCollections"), (3, .class_ 16), (1, u "java/util/ImmutableCollections$AbstractImmutableList"), (60, .class_ 78), (0, u "java/util/List"), (45, .class_ 125), (0, u "java/util/RandomAccess")] 70

def k24c0 : Code := { maxStack := 1, maxLocals := 1, code := jdk_46_method_1_code, exceptionTable := #[], attributes := #[] }
def k24m0 : Method := { name := "<init>", desc := "()V", sig := { parameters := [], returnType := none }, accessFlags := 0, code := some k24c0 }
/-- java/util/ImmutableCollections$AbstractImmutableList -/
def k24 : Class := { plain "java/util/ImmutableCollections$AbstractImmutableList" (some 23) with
  accessFlags := 1056
  interfaces := #[14, 16]
  cf := some (fileOf pool24 14 #[.nestHost 8] #[{ accessFlags := 0, nameIndex := 5, descriptorIndex := 6, attributes := #[] }] 1056 2 #[77, 124] #[])
  fields := #[]
  methods := #[k24m0]
  instanceTypes := #[]
  staticTypes := #[]
  resolved := Array.replicate 196 none
  statics := none }

def pool25 : Array CpInfo := pool [(1, .methodref 2 3), (0, .class_ 4), (0, .nameAndType 5 6), (0, u "java/util/ImmutableCollections$AbstractImmutableList"), (0, u "<init>"), (0, u "()V"), (0, .methodref 8 9), (0, .class_ 10), (0, .nameAndType 11 12), (0, u "java/util/Objects"), (0, u "requireNonNull"), (0, u "(Ljava/lang/Object;)Ljava/lang/Object;"), (0, .fieldref 14 15), (0, .class_ 16), (0, .nameAndType 17 18), (0, u "java/util/ImmutableCollections$List12"), (0, u "e0"), (0, u "Ljava/lang/Object;"), (0, .fieldref 20 21), (0, .class_ 22), (0, .nameAndType 23 18), (0, u "java/util/ImmutableCollections"), (0, u "EMPTY"), (0, .fieldref 14 25), (0, .nameAndType 26 18), (0, u "e1"), (43, .class_ 71), (0, u "java/io/Serializable"), (4, u "(Ljava/lang/Object;)V"), (8, u "(Ljava/lang/Object;Ljava/lang/Object;)V"), (2, u "isEmpty"), (0, u "()Z")] 35

def k25c0 : Code := { maxStack := 2, maxLocals := 2, code := jdk_44_method_1_code, exceptionTable := #[], attributes := #[] }
def k25m0 : Method := { name := "<init>", desc := "(Ljava/lang/Object;)V", sig := { parameters := [(.object "java/lang/Object")], returnType := none }, accessFlags := 0, code := some k25c0 }
def k25c1 : Code := { maxStack := 2, maxLocals := 3, code := jdk_44_method_2_code, exceptionTable := #[], attributes := #[] }
def k25m1 : Method := { name := "<init>", desc := "(Ljava/lang/Object;Ljava/lang/Object;)V", sig := { parameters := [(.object "java/lang/Object"), (.object "java/lang/Object")], returnType := none }, accessFlags := 0, code := some k25c1 }
def k25c2 : Code := { maxStack := 1, maxLocals := 1, code := jdk_44_method_4_code, exceptionTable := #[], attributes := #[] }
def k25m2 : Method := { name := "isEmpty", desc := "()Z", sig := { parameters := [], returnType := some .boolean }, accessFlags := 1, code := some k25c2 }
/-- java/util/ImmutableCollections$List12 -/
def k25 : Class := { plain "java/util/ImmutableCollections$List12" (some 24) with
  accessFlags := 48
  interfaces := #[2]
  cf := some (fileOf pool25 14 #[.nestHost 20] #[{ accessFlags := 0, nameIndex := 5, descriptorIndex := 76, attributes := #[] }, { accessFlags := 0, nameIndex := 5, descriptorIndex := 85, attributes := #[] }, { accessFlags := 1, nameIndex := 88, descriptorIndex := 89, attributes := #[] }] 48 2 #[70] #[{ accessFlags := 18, nameIndex := 17, descriptorIndex := 18, attributes := #[] }, { accessFlags := 18, nameIndex := 26, descriptorIndex := 18, attributes := #[] }])
  fields := #[{ name := "e0", type := (.object "java/lang/Object"), accessFlags := 18, slot := 0, constantValue := 0 }, { name := "e1", type := (.object "java/lang/Object"), accessFlags := 18, slot := 1, constantValue := 0 }]
  methods := #[k25m0, k25m1, k25m2]
  instanceTypes := #[(.object "java/lang/Object"), (.object "java/lang/Object")]
  staticTypes := #[]
  resolved := Array.replicate 125 none
  statics := none }

def pool26 : Array CpInfo := pool [(1, .methodref 2 3), (0, .class_ 4), (0, .nameAndType 5 6), (0, u "java/util/ImmutableCollections$AbstractImmutableList"), (0, u "<init>"), (0, u "()V"), (0, .fieldref 8 9), (0, .class_ 10), (0, .nameAndType 11 12), (0, u "java/util/ImmutableCollections$ListN"), (0, u "elements"), (0, u "[Ljava/lang/Object;"), (0, .fieldref 8 14), (0, .nameAndType 15 16), (0, u "allowNulls"), (0, u "Z"), (42, .class_ 60), (0, u "java/io/Serializable"), (4, u "([Ljava/lang/Object;Z)V"), (8, u "isEmpty"), (0, u "()Z"), (38, .class_ 115), (0, u "java/util/ImmutableCollections")] 3

def k26c0 : Code := { maxStack := 2, maxLocals := 3, code := jdk_45_method_1_code, exceptionTable := #[], attributes := #[] }
def k26m0 : Method := { name := "<init>", desc := "([Ljava/lang/Object;Z)V", sig := { parameters := [(.array (.object "java/lang/Object")), .boolean], returnType := none }, accessFlags := 2, code := some k26c0 }
def k26c1 : Code := { maxStack := 1, maxLocals := 1, code := jdk_45_method_2_code, exceptionTable := #[], attributes := #[] }
def k26m1 : Method := { name := "isEmpty", desc := "()Z", sig := { parameters := [], returnType := some .boolean }, accessFlags := 1, code := some k26c1 }
/-- java/util/ImmutableCollections$ListN -/
def k26 : Class := { plain "java/util/ImmutableCollections$ListN" (some 24) with
  accessFlags := 48
  interfaces := #[2]
  cf := some (fileOf pool26 8 #[.nestHost 114] #[{ accessFlags := 2, nameIndex := 5, descriptorIndex := 65, attributes := #[] }, { accessFlags := 1, nameIndex := 74, descriptorIndex := 75, attributes := #[] }] 48 2 #[59] #[{ accessFlags := 18, nameIndex := 11, descriptorIndex := 12, attributes := #[] }, { accessFlags := 18, nameIndex := 15, descriptorIndex := 16, attributes := #[] }])
  fields := #[{ name := "elements", type := (.array (.object "java/lang/Object")), accessFlags := 18, slot := 0, constantValue := 0 }, { name := "allowNulls", type := .boolean, accessFlags := 18, slot := 1, constantValue := 0 }]
  methods := #[k26m0, k26m1]
  instanceTypes := #[(.array (.object "java/lang/Object")), .boolean]
  staticTypes := #[]
  resolved := Array.replicate 119 none
  statics := none }

def pool27 : Array CpInfo := pool [(2, .class_ 4), (1, u "java/lang/Object"), (0, u "<init>"), (0, u "()V"), (7, .class_ 16), (1, u "java/util/Arrays"), (57, .class_ 76), (1, u "java/util/Arrays$NaturalOrder"), (9, .methodref 2 87), (0, .nameAndType 88 89), (0, u "getClass"), (0, u "()Ljava/lang/Class;"), (20, .class_ 111), (0, u "[Ljava/lang/Object;"), (1, .class_ 115), (1, u "java/util/Arrays$LegacyMergeSort"), (1, u "Z"), (32, .methodref 151 152), (0, .class_ 153), (0, .nameAndType 154 155), (0, u "java/lang/System"), (0, u "arraycopy"), (0, u "(Ljava/lang/Object;ILjava/lang/Object;II)V"), (144, .methodref 14 301), (0, .nameAndType 302 303), (0, u "copyOf"), (0, u "([Ljava/lang/Object;ILjava/lang/Class;)[Ljava/lang/Object;"), (0, .methodref 305 306), (0, .class_ 307), (0, .nameAndType 308 309), (0, u "java/lang/Math"), (0, u "min"), (0, u "(II)I"), (65, .class_ 376), (0, u "java/util/Arrays$ArrayList"), (68, u "$assertionsDisabled"), (269, u "MIN_ARRAY_SORT_GRAN"), (0, u "I"), (2, u "INSERTIONSORT_THRESHOLD"), (140, u "([Ljava/lang/Object;I)[Ljava/lang/Object;"), (114, .class_ 976), (0, u "java/util/Arrays$ArrayItr")] 52

def k27m0 : Method := { name := "<init>", desc := "()V", sig := { parameters := [], returnType := none }, accessFlags := 2, code := none }
def k27c1 : Code := { maxStack := 3, maxLocals := 2, code := jdk_65_method_119_code, exceptionTable := #[], attributes := #[] }
def k27m1 : Method := { name := "copyOf", desc := "([Ljava/lang/Object;I)[Ljava/lang/Object;", sig := { parameters := [(.array (.object "java/lang/Object")), .int], returnType := some (.array (.object "java/lang/Object")) }, accessFlags := 9, code := some k27c1 }
def k27c2 : Code := { maxStack := 6, maxLocals := 4, code := jdk_65_method_120_code, exceptionTable := #[], attributes := #[] }
def k27m2 : Method := { name := "copyOf", desc := "([Ljava/lang/Object;ILjava/lang/Class;)[Ljava/lang/Object;", sig := { parameters := [(.array (.object "java/lang/Object")), .int, (.object "java/lang/Class")], returnType := some (.array (.object "java/lang/Object")) }, accessFlags := 9, code := some k27c2 }
/-- java/util/Arrays -/
def k27 : Class := { plain "java/util/Arrays" (some 0) with
  accessFlags := 49
  interfaces := #[]
  cf := some (fileOf pool27 14 #[.nestMembers #[975, 375, 113, 74]] #[{ accessFlags := 2, nameIndex := 5, descriptorIndex := 6, attributes := #[] }, { accessFlags := 9, nameIndex := 302, descriptorIndex := 860, attributes := #[] }, { accessFlags := 9, nameIndex := 302, descriptorIndex := 303, attributes := #[] }] 49 2 #[] #[{ accessFlags := 26, nameIndex := 715, descriptorIndex := 716, attributes := #[] }, { accessFlags := 26, nameIndex := 719, descriptorIndex := 716, attributes := #[] }, { accessFlags := 4120, nameIndex := 445, descriptorIndex := 117, attributes := #[] }])
  fields := #[{ name := "MIN_ARRAY_SORT_GRAN", type := .int, accessFlags := 26, slot := 0, constantValue := 0 }, { name := "INSERTIONSORT_THRESHOLD", type := .int, accessFlags := 26, slot := 1, constantValue := 0 }, { name := "$assertionsDisabled", type := .boolean, accessFlags := 4120, slot := 2, constantValue := 0 }]
  methods := #[k27m0, k27m1, k27m2]
  instanceTypes := #[]
  staticTypes := #[.int, .int, .boolean]
  resolved := Array.replicate 1029 none
  statics := none }

def pool28 : Array CpInfo := pool [(2, .class_ 4), (1, u "java/lang/Object"), (0, u "<init>"), (0, u "()V"), (1, .class_ 10), (1, u "java/lang/System"), (0, u "allowSecurityManager"), (0, u "I"), (16, u "cons"), (0, u "Ljava/io/Console;"), (77, .class_ 110), (1, u "java/lang/System$CallersHolder"), (43, u "initialErrStream"), (0, u "Ljava/io/PrintStream;"), (19, u "security"), (0, u "Ljava/lang/SecurityManager;"), (31, .class_ 209), (0, u "java/lang/System$1"), (7, u "props"), (0, u "Ljava/util/Properties;"), (2, u "lineSeparator"), (0, u "Ljava/lang/String;"), (96, .class_ 321), (1, u "java/lang/System$LoggerFinder"), (5, .class_ 328), (0, u "java/lang/System$Logger"), (67, u "err"), (2, u "out"), (91, u "notSupportedJnuEncoding"), (15, u "in"), (17, u "initialIn"), (0, u "Ljava/io/InputStream;"), (35, u "bootLayer"), (0, u "Ljava/lang/ModuleLayer;"), (99, .class_ 664), (0, u "java/lang/System$2"), (9, u "NEVER"), (2, u "MAYBE"), (49, u "arraycopy"), (0, u "(Ljava/lang/Object;ILjava/lang/Object;II)V"), (72, .class_ 802), (0, u "java/lang/System$Logger$Level")] 31

def k28m0 : Method := { name := "<init>", desc := "()V", sig := { parameters := [], returnType := none }, accessFlags := 2, code := none }
def k28m1 : Method := { name := "arraycopy", desc := "(Ljava/lang/Object;ILjava/lang/Object;II)V", sig := { parameters := [(.object "java/lang/Object"), .int, (.object "java/lang/Object"), .int, .int], returnType := none }, accessFlags := 265, code := none }
/-- java/lang/System -/
def k28 : Class := { plain "java/lang/System" (some 0) with
  accessFlags := 49
  interfaces := #[]
  cf := some (fileOf pool28 8 #[.nestMembers #[319, 327, 801, 108, 663, 208]] #[{ accessFlags := 2, nameIndex := 5, descriptorIndex := 6, attributes := #[] }, { accessFlags := 265, nameIndex := 727, descriptorIndex := 728, attributes := #[] }] 49 2 #[] #[{ accessFlags := 25, nameIndex := 507, descriptorIndex := 526, attributes := #[] }, { accessFlags := 25, nameIndex := 399, descriptorIndex := 155, attributes := #[] }, { accessFlags := 25, nameIndex := 396, descriptorIndex := 155, attributes := #[] }, { accessFlags := 10, nameIndex := 525, descriptorIndex := 526, attributes := #[] }, { accessFlags := 26, nameIndex := 674, descriptorIndex := 12, attributes := #[] }, { accessFlags := 26, nameIndex := 677, descriptorIndex := 12, attributes := #[] }, { accessFlags := 10, nameIndex := 11, descriptorIndex := 12, attributes := #[] }, { accessFlags := 74, nameIndex := 175, descriptorIndex := 176, attributes := #[] }, { accessFlags := 10, nameIndex := 491, descriptorIndex := 222, attributes := #[] }, { accessFlags := 74, nameIndex := 29, descriptorIndex := 30, attributes := #[] }, { accessFlags := 74, nameIndex := 154, descriptorIndex := 155, attributes := #[] }, { accessFlags := 10, nameIndex := 217, descriptorIndex := 218, attributes := #[] }, { accessFlags := 10, nameIndex := 221, descriptorIndex := 222, attributes := #[] }, { accessFlags := 8, nameIndex := 562, descriptorIndex := 563, attributes := #[] }])
  fields := #[{ name := "in", type := (.object "java/io/InputStream"), accessFlags := 25, slot := 0, constantValue := 0 }, { name := "out", type := (.object "java/io/PrintStream"), accessFlags := 25, slot := 1, constantValue := 0 }, { name := "err", type := (.object "java/io/PrintStream"), accessFlags := 25, slot := 2, constantValue := 0 }, { name := "initialIn", type := (.object "java/io/InputStream"), accessFlags := 10, slot := 3, constantValue := 0 }, { name := "NEVER", type := .int, accessFlags := 26, slot := 4, constantValue := 0 }, { name := "MAYBE", type := .int, accessFlags := 26, slot := 5, constantValue := 0 }, { name := "allowSecurityManager", type := .int, accessFlags := 10, slot := 6, constantValue := 0 }, { name := "security", type := (.object "java/lang/SecurityManager"), accessFlags := 74, slot := 7, constantValue := 0 }, { name := "notSupportedJnuEncoding", type := (.object "java/lang/String"), accessFlags := 10, slot := 8, constantValue := 0 }, { name := "cons", type := (.object "java/io/Console"), accessFlags := 74, slot := 9, constantValue := 0 }, { name := "initialErrStream", type := (.object "java/io/PrintStream"), accessFlags := 74, slot := 10, constantValue := 0 }, { name := "props", type := (.object "java/util/Properties"), accessFlags := 10, slot := 11, constantValue := 0 }, { name := "lineSeparator", type := (.object "java/lang/String"), accessFlags := 10, slot := 12, constantValue := 0 }, { name := "bootLayer", type := (.object "java/lang/ModuleLayer"), accessFlags := 8, slot := 13, constantValue := 0 }]
  methods := #[k28m0, k28m1]
  instanceTypes := #[]
  staticTypes := #[(.object "java/io/InputStream"), (.object "java/io/PrintStream"), (.object "java/io/PrintStream"), (.object "java/io/InputStream"), .int, .int, .int, (.object "java/lang/SecurityManager"), (.object "java/lang/String"), (.object "java/io/Console"), (.object "java/io/PrintStream"), (.object "java/util/Properties"), (.object "java/lang/String"), (.object "java/lang/ModuleLayer")]
  resolved := Array.replicate 834 none
  statics := none }

def pool29 : Array CpInfo := pool [(2, .class_ 4), (1, u "java/lang/Object"), (0, u "<init>"), (0, u "()V"), (35, .class_ 44), (1, u "java/util/Objects"), (0, u "requireNonNull"), (0, u "(Ljava/lang/Object;)Ljava/lang/Object;")] 137

def k29m0 : Method := { name := "<init>", desc := "()V", sig := { parameters := [], returnType := none }, accessFlags := 2, code := none }
def k29c1 : Code := { maxStack := 2, maxLocals := 1, code := jdk_31_method_10_code, exceptionTable := #[], attributes := #[] }
def k29m1 : Method := { name := "requireNonNull", desc := "(Ljava/lang/Object;)Ljava/lang/Object;", sig := { parameters := [(.object "java/lang/Object")], returnType := some (.object "java/lang/Object") }, accessFlags := 9, code := some k29c1 }
/-- java/util/Objects -/
def k29 : Class := { plain "java/util/Objects" (some 0) with
  accessFlags := 49
  interfaces := #[]
  cf := some (fileOf pool29 42 #[] #[{ accessFlags := 2, nameIndex := 5, descriptorIndex := 6, attributes := #[] }, { accessFlags := 9, nameIndex := 45, descriptorIndex := 46, attributes := #[] }] 49 2 #[] #[])
  fields := #[]
  methods := #[k29m0, k29m1]
  instanceTypes := #[]
  staticTypes := #[]
  resolved := Array.replicate 184 none
  statics := none }

def pool30 : Array CpInfo := pool [(2, .class_ 4), (1, u "java/lang/Object"), (0, u "<init>"), (0, u "()V"), (17, .class_ 26), (1, u "jdk/internal/util/Preconditions"), (28, .class_ 56), (0, u "jdk/internal/util/Preconditions$4"), (57, .class_ 115), (0, u "jdk/internal/util/Preconditions$1"), (7, u "SIOOBE_FORMATTER"), (0, u "Ljava/util/function/BiFunction;"), (0, .class_ 126), (0, u "jdk/internal/util/Preconditions$2"), (3, u "AIOOBE_FORMATTER"), (0, .class_ 132), (0, u "jdk/internal/util/Preconditions$3"), (3, u "IOOBE_FORMATTER")] 57

def k30m0 : Method := { name := "<init>", desc := "()V", sig := { parameters := [], returnType := none }, accessFlags := 1, code := none }
/-- jdk/internal/util/Preconditions -/
def k30 : Class := { plain "jdk/internal/util/Preconditions" (some 0) with
  accessFlags := 33
  interfaces := #[]
  cf := some (fileOf pool30 24 #[.nestMembers #[55, 131, 125, 114]] #[{ accessFlags := 1, nameIndex := 5, descriptorIndex := 6, attributes := #[] }] 33 2 #[] #[{ accessFlags := 25, nameIndex := 123, descriptorIndex := 124, attributes := #[] }, { accessFlags := 25, nameIndex := 130, descriptorIndex := 124, attributes := #[] }, { accessFlags := 25, nameIndex := 136, descriptorIndex := 124, attributes := #[] }])
  fields := #[{ name := "SIOOBE_FORMATTER", type := (.object "java/util/function/BiFunction"), accessFlags := 25, slot := 0, constantValue := 0 }, { name := "AIOOBE_FORMATTER", type := (.object "java/util/function/BiFunction"), accessFlags := 25, slot := 1, constantValue := 0 }, { name := "IOOBE_FORMATTER", type := (.object "java/util/function/BiFunction"), accessFlags := 25, slot := 2, constantValue := 0 }]
  methods := #[k30m0]
  instanceTypes := #[]
  staticTypes := #[(.object "java/util/function/BiFunction"), (.object "java/util/function/BiFunction"), (.object "java/util/function/BiFunction")]
  resolved := Array.replicate 194 none
  statics := some 3 }

def pool31 : Array CpInfo := pool [(9, u "<init>"), (6, .class_ 18), (1, u "java/lang/Object"), (0, u "()V"), (1, .class_ 23), (1, u "jdk/internal/util/ArraysSupport"), (0, u "LOG2_ARRAY_LONG_INDEX_SCALE"), (0, u "I"), (2, u "U"), (0, u "Ljdk/internal/misc/Unsafe;"), (8, u "BIG_ENDIAN"), (0, u "Z"), (8, u "LOG2_BYTE_BIT_SIZE"), (4, u "LOG2_ARRAY_INT_INDEX_SCALE"), (54, u "JLA"), (0, u "Ljdk/internal/access/JavaLangAccess;"), (11, u "LOG2_ARRAY_BOOLEAN_INDEX_SCALE"), (9, u "LOG2_ARRAY_BYTE_INDEX_SCALE"), (5, u "LOG2_ARRAY_CHAR_INDEX_SCALE"), (5, u "LOG2_ARRAY_SHORT_INDEX_SCALE"), (18, u "LOG2_ARRAY_FLOAT_INDEX_SCALE"), (24, u "LOG2_ARRAY_DOUBLE_INDEX_SCALE"), (89, u "T_BOOLEAN"), (2, u "T_CHAR"), (1, u "T_FLOAT"), (1, u "T_DOUBLE"), (1, u "T_BYTE"), (1, u "T_SHORT"), (1, u "T_INT"), (1, u "T_LONG"), (1, u "SOFT_MAX_ARRAY_LENGTH")] 83

def k31m0 : Method := { name := "<init>", desc := "()V", sig := { parameters := [], returnType := none }, accessFlags := 2, code := none }
/-- jdk/internal/util/ArraysSupport -/
def k31 : Class := { plain "jdk/internal/util/ArraysSupport" (some 0) with
  accessFlags := 33
  interfaces := #[]
  cf := some (fileOf pool31 21 #[] #[{ accessFlags := 2, nameIndex := 9, descriptorIndex := 19, attributes := #[] }] 33 16 #[] #[{ accessFlags := 24, nameIndex := 28, descriptorIndex := 29, attributes := #[] }, { accessFlags := 26, nameIndex := 38, descriptorIndex := 39, attributes := #[] }, { accessFlags := 25, nameIndex := 121, descriptorIndex := 25, attributes := #[] }, { accessFlags := 25, nameIndex := 131, descriptorIndex := 25, attributes := #[] }, { accessFlags := 25, nameIndex := 137, descriptorIndex := 25, attributes := #[] }, { accessFlags := 25, nameIndex := 143, descriptorIndex := 25, attributes := #[] }, { accessFlags := 25, nameIndex := 53, descriptorIndex := 25, attributes := #[] }, { accessFlags := 25, nameIndex := 24, descriptorIndex := 25, attributes := #[] }, { accessFlags := 25, nameIndex := 162, descriptorIndex := 25, attributes := #[] }, { accessFlags := 25, nameIndex := 187, descriptorIndex := 25, attributes := #[] }, { accessFlags := 26, nameIndex := 48, descriptorIndex := 25, attributes := #[] }, { accessFlags := 25, nameIndex := 277, descriptorIndex := 25, attributes := #[] }, { accessFlags := 25, nameIndex := 280, descriptorIndex := 25, attributes := #[] }, { accessFlags := 25, nameIndex := 282, descriptorIndex := 25, attributes := #[] }, { accessFlags := 25, nameIndex := 284, descriptorIndex := 25, attributes := #[] }, { accessFlags := 25, nameIndex := 286, descriptorIndex := 25, attributes := #[] }, { accessFlags := 25, nameIndex := 288, descriptorIndex := 25, attributes := #[] }, { accessFlags := 25, nameIndex := 290, descriptorIndex := 25, attributes := #[] }, { accessFlags := 25, nameIndex := 292, descriptorIndex := 25, attributes := #[] }, { accessFlags := 26, nameIndex := 108, descriptorIndex := 109, attributes := #[] }, { accessFlags := 25, nameIndex := 294, descriptorIndex := 25, attributes := #[] }])
  fields := #[{ name := "U", type := (.object "jdk/internal/misc/Unsafe"), accessFlags := 24, slot := 0, constantValue := 0 }, { name := "BIG_ENDIAN", type := .boolean, accessFlags := 26, slot := 1, constantValue := 0 }, { name := "LOG2_ARRAY_BOOLEAN_INDEX_SCALE", type := .int, accessFlags := 25, slot := 2, constantValue := 0 }, { name := "LOG2_ARRAY_BYTE_INDEX_SCALE", type := .int, accessFlags := 25, slot := 3, constantValue := 0 }, { name := "LOG2_ARRAY_CHAR_INDEX_SCALE", type := .int, accessFlags := 25, slot := 4, constantValue := 0 }, { name := "LOG2_ARRAY_SHORT_INDEX_SCALE", type := .int, accessFlags := 25, slot := 5, constantValue := 0 }, { name := "LOG2_ARRAY_INT_INDEX_SCALE", type := .int, accessFlags := 25, slot := 6, constantValue := 0 }, { name := "LOG2_ARRAY_LONG_INDEX_SCALE", type := .int, accessFlags := 25, slot := 7, constantValue := 0 }, { name := "LOG2_ARRAY_FLOAT_INDEX_SCALE", type := .int, accessFlags := 25, slot := 8, constantValue := 0 }, { name := "LOG2_ARRAY_DOUBLE_INDEX_SCALE", type := .int, accessFlags := 25, slot := 9, constantValue := 0 }, { name := "LOG2_BYTE_BIT_SIZE", type := .int, accessFlags := 26, slot := 10, constantValue := 0 }, { name := "T_BOOLEAN", type := .int, accessFlags := 25, slot := 11, constantValue := 0 }, { name := "T_CHAR", type := .int, accessFlags := 25, slot := 12, constantValue := 0 }, { name := "T_FLOAT", type := .int, accessFlags := 25, slot := 13, constantValue := 0 }, { name := "T_DOUBLE", type := .int, accessFlags := 25, slot := 14, constantValue := 0 }, { name := "T_BYTE", type := .int, accessFlags := 25, slot := 15, constantValue := 0 }, { name := "T_SHORT", type := .int, accessFlags := 25, slot := 16, constantValue := 0 }, { name := "T_INT", type := .int, accessFlags := 25, slot := 17, constantValue := 0 }, { name := "T_LONG", type := .int, accessFlags := 25, slot := 18, constantValue := 0 }, { name := "JLA", type := (.object "jdk/internal/access/JavaLangAccess"), accessFlags := 26, slot := 19, constantValue := 0 }, { name := "SOFT_MAX_ARRAY_LENGTH", type := .int, accessFlags := 25, slot := 20, constantValue := 0 }]
  methods := #[k31m0]
  instanceTypes := #[]
  staticTypes := #[(.object "jdk/internal/misc/Unsafe"), .boolean, .int, .int, .int, .int, .int, .int, .int, .int, .int, .int, .int, .int, .int, .int, .int, .int, .int, (.object "jdk/internal/access/JavaLangAccess"), .int]
  resolved := Array.replicate 378 none
  statics := none }

def pool32 : Array CpInfo := pool [(1, u "java/lang/Class"), (0, .class_ 1), (0, u "java/lang/Object"), (0, .class_ 3)] 0

/-- java/lang/Class -/
def k32 : Class := { plain "java/lang/Class" (some 0) with
  accessFlags := 49
  interfaces := #[]
  cf := some (fileOf pool32 2 #[] #[] 49 4 #[] #[])
  fields := #[]
  methods := #[]
  instanceTypes := #[]
  staticTypes := #[]
  resolved := Array.replicate 5 none
  statics := none }

/-- the primitive byte -/
def k33 : Class := { plain "byte" none with kind := .primitive 'B', accessFlags := 0x411 }
/-- [B -/
def k34 : Class := { plain "[B" (some 0) with kind := .array 33 .byte, interfaces := #[17, 2], accessFlags := 1041 }

/-- the primitive char -/
def k35 : Class := { plain "char" none with kind := .primitive 'C', accessFlags := 0x411 }
/-- [C -/
def k36 : Class := { plain "[C" (some 0) with kind := .array 35 .char, interfaces := #[17, 2], accessFlags := 1041 }

/-- the primitive int -/
def k37 : Class := { plain "int" none with kind := .primitive 'I', accessFlags := 0x411 }
/-- [I -/
def k38 : Class := { plain "[I" (some 0) with kind := .array 37 .int, interfaces := #[17, 2], accessFlags := 1041 }

/-- [Ljava/lang/Object; -/
def k39 : Class := { plain "[Ljava/lang/Object;" (some 0) with kind := .array 0 (.object "java/lang/Object"), interfaces := #[17, 2], accessFlags := 1041, mirror := some 4 }

def heap : Heap := #[{ cls := 7, slots := #[.long 0, .int 1, .null, .int 0, .null, .int 0, .int 0], vm := .statics 7 },
  { cls := 18, slots := #[.long 0, .int 0, .ref 7, .ref 8], vm := .statics 18 },
  { cls := 22, slots := #[.long 0, .int 0, .null, .ref 9, .ref 6, .null, .null, .null, .int 0, .int 1], vm := .statics 22 },
  { cls := 30, slots := #[.null, .null, .null], vm := .statics 30 },
  { cls := 32, slots := #[], vm := .mirror 39 },
  { cls := 39, slots := #[], vm := .none },
  { cls := 26, slots := #[.ref 5, .int 0], vm := .none },
  { cls := 39, slots := #[], vm := .none },
  { cls := 39, slots := #[], vm := .none },
  { cls := 0, slots := #[], vm := .none }]
def classes : Array Class := #[k0, k1, k2, k3, k4, k5, k6, k7, k8, k9, k10, k11, k12, k13, k14, k15, k16, k17, k18, k19, k20, k21, k22, k23, k24, k25, k26, k27, k28, k29, k30, k31, k32, k33, k34, k35, k36, k37, k38, k39]
def interned : List (Array UInt16 × Addr) := []
def slotsUsed : Nat := 26
def theMethod : MethodId := ⟨1, 1⟩
def args0 : Array Value := #[.int 1, .int 2, .int 65, .int 66]
def aboutOver (below : List Frame) : State where
  vm := { classes := classes, interned := interned.toArray }
  heap := heap
  slotsUsed := slotsUsed
  threads := #[{ frames := .invoking theMethod args0 :: below }]
def below0 : List Frame := [.native { method := ⟨0, 0⟩, args := #[] }]
def about1 : State := aboutOver below0
def p0 : Program := .bare "" "" ""
def e0 : Env := launch0.env 0 0 0
theorem w_frames : about1.frames = Frame.invoking theMethod args0 :: below0 := rfl
set_option maxRecDepth 65536 in
theorem w_args : argsFit about1.vm theMethod args0 = true := by decide +kernel
set_option maxRecDepth 65536 in
theorem w_heap : heapFits about1 = true := by decide +kernel
set_option maxRecDepth 65536 in
theorem w_runnable : about1.curStatus? = some .runnable := by decide +kernel
set_option maxRecDepth 65536 in
theorem w_alone : about1.alone = true := by decide +kernel
set_option maxRecDepth 65536 in
theorem w_named : about1.methodNamed? x = some theMethod := by decide +kernel
set_option maxRecDepth 65536 in
theorem w_hears : about1.hears theMethod below0 = true := by decide +kernel
set_option maxRecDepth 65536 in
theorem w_ripe : about1.ripe theMethod args0 below0 = true := by decide +kernel
theorem w_running : about1.status = .running := rfl
set_option maxRecDepth 65536 in
theorem w_room : about1.hasRoom e0.platform room_1 = true :=
  launch0.hasRoom_least _ room_1 (by decide +kernel) (by decide +kernel) (by decide +kernel) (by decide +kernel) (by decide +kernel) (by decide +kernel)
theorem allAtoms_all (ts : List Jvm.Cond) (a : Array Jvm.Value) (st : Jvm.State) : (allAtoms ts).before a st = ts.all (fun c => c.before a st) := by
  induction ts with
  | nil => rfl
  | cons c t ih =>
    show (Jvm.Cond.and c (allAtoms t)).before a st = _
    rw [Jvm.Cond.before_and, ih, List.all_cons]
def words1 : List Jvm.Cond := Jvm.Cond.code x code maxLocals ret :: tables_1
/-- a 'code' word, met by the world's own term for the bytes: nothing is compared byte by byte -/
theorem code_word {y : MethodName} {bytes : ByteArray} {mx : Nat} {rt : Option FieldType} {a : Array Value} {s : State} {m : MethodId} {meth : Method} {c : Code} (h1 : s.methodNamed? y = some m) (h2 : s.vm.method? m = some meth) (h3 : meth.code = some c) (h4 : c.code = bytes)
    (h5 : (c.maxLocals == mx && c.exceptionTable.isEmpty && decide (c.maxStack ≤ mostOperands) && decide (meth.sig.returnType = rt) && !meth.locks && decide (parseMethodDescriptor y.desc = some meth.sig)) = true) : (Jvm.Cond.code y bytes mx rt).before a s = true := by
  simp only [Bool.and_eq_true, beq_iff_eq, Bool.not_eq_true', decide_eq_true_eq] at h5
  obtain ⟨⟨⟨⟨⟨g1, g2⟩, g3⟩, g4⟩, g5⟩, g6⟩ := h5
  simp [Cond.before, Cond.holds, Cond.value, h1, h2, h3, h4, g1, g2, g3, g4, g5, g6]
def isCode : Jvm.Cond → Bool
  | .code _ _ _ _ => true
  | _ => false
theorem all_split {L : List Jvm.Cond} {P : Jvm.Cond → Bool} (h1 : L.all (fun c => isCode c || P c) = true) (h2 : ∀ c ∈ L.filter isCode, P c = true) : L.all P = true := by
  refine List.all_eq_true.mpr fun c hc => ?_
  have h := List.all_eq_true.mp h1 c hc
  rcases Bool.eq_false_or_eq_true (isCode c) with hi | hi
  · exact h2 c (List.mem_filter.mpr ⟨hc, hi⟩)
  · simpa [hi] using h
set_option maxRecDepth 65536 in
theorem w_c0 : (Jvm.Cond.code x code maxLocals ret).before args0 about1 = true := code_word (m := ⟨1, 1⟩) (meth := k1m1) (c := k1c1) (by decide +kernel) rfl rfl rfl (by decide +kernel)
set_option maxRecDepth 65536 in
theorem w_c1 : (Jvm.Cond.code ({ cls := "java/lang/String", name := "<init>", desc := "([C)V" } : Jvm.MethodName) jdk_42_method_3_code (2 : Nat) (Option.none : Option Jvm.ClassFile.FieldType)).before args0 about1 = true := code_word (m := ⟨7, 1⟩) (meth := k7m1) (c := k7c1) (by decide +kernel) rfl rfl rfl (by decide +kernel)
set_option maxRecDepth 65536 in
theorem w_c2 : (Jvm.Cond.code ({ cls := "java/lang/String", name := "<init>", desc := "([CIILjava/lang/Void;)V" } : Jvm.MethodName) jdk_42_method_149_code (6 : Nat) (Option.none : Option Jvm.ClassFile.FieldType)).before args0 about1 = true := code_word (m := ⟨7, 3⟩) (meth := k7m3) (c := k7c3) (by decide +kernel) rfl rfl rfl (by decide +kernel)
set_option maxRecDepth 65536 in
theorem w_c3 : (Jvm.Cond.code ({ cls := "java/lang/Object", name := "<init>", desc := "()V" } : Jvm.MethodName) object_method_1_code (1 : Nat) (Option.none : Option Jvm.ClassFile.FieldType)).before args0 about1 = true := code_word (m := ⟨0, 0⟩) (meth := k0m0) (c := k0c0) (by decide +kernel) rfl rfl rfl (by decide +kernel)
set_option maxRecDepth 65536 in
theorem w_c4 : (Jvm.Cond.code ({ cls := "java/lang/StringUTF16", name := "compress", desc := "([CII)[B" } : Jvm.MethodName) jdk_52_method_16_code (6 : Nat) (Option.some (Jvm.ClassFile.FieldType.array Jvm.ClassFile.FieldType.byte))).before args0 about1 = true := code_word (m := ⟨8, 2⟩) (meth := k8m2) (c := k8c2) (by decide +kernel) rfl rfl rfl (by decide +kernel)
set_option maxRecDepth 65536 in
theorem w_c5 : (Jvm.Cond.code ({ cls := "java/lang/StringUTF16", name := "compress", desc := "([CI[BII)I" } : Jvm.MethodName) jdk_52_method_21_code (7 : Nat) (Option.some Jvm.ClassFile.FieldType.int)).before args0 about1 = true := code_word (m := ⟨8, 3⟩) (meth := k8m3) (c := k8c3) (by decide +kernel) rfl rfl rfl (by decide +kernel)
set_option maxRecDepth 65536 in
theorem w_c6 : (Jvm.Cond.code ({ cls := "java/lang/StringUTF16", name := "coderFromArrayLen", desc := "([BI)B" } : Jvm.MethodName) jdk_52_method_15_code (2 : Nat) (Option.some Jvm.ClassFile.FieldType.byte)).before args0 about1 = true := code_word (m := ⟨8, 1⟩) (meth := k8m1) (c := k8c1) (by decide +kernel) rfl rfl rfl (by decide +kernel)
set_option maxRecDepth 65536 in
theorem w_c7 : (Jvm.Cond.code ({ cls := "java/lang/String", name := "valueOf", desc := "(C)Ljava/lang/String;" } : Jvm.MethodName) jdk_42_method_139_code (1 : Nat) (Option.some (Jvm.ClassFile.FieldType.object "java/lang/String"))).before args0 about1 = true := code_word (m := ⟨7, 2⟩) (meth := k7m2) (c := k7c2) (by decide +kernel) rfl rfl rfl (by decide +kernel)
set_option maxRecDepth 65536 in
theorem w_c8 : (Jvm.Cond.code ({ cls := "java/lang/StringLatin1", name := "canEncode", desc := "(C)Z" } : Jvm.MethodName) jdk_43_method_3_code (1 : Nat) (Option.some Jvm.ClassFile.FieldType.boolean)).before args0 about1 = true := code_word (m := ⟨9, 1⟩) (meth := k9m1) (c := k9c1) (by decide +kernel) rfl rfl rfl (by decide +kernel)
set_option maxRecDepth 65536 in
theorem w_c9 : (Jvm.Cond.code ({ cls := "java/lang/StringLatin1", name := "toBytes", desc := "(C)[B" } : Jvm.MethodName) jdk_43_method_46_code (1 : Nat) (Option.some (Jvm.ClassFile.FieldType.array Jvm.ClassFile.FieldType.byte))).before args0 about1 = true := code_word (m := ⟨9, 2⟩) (meth := k9m2) (c := k9c2) (by decide +kernel) rfl rfl rfl (by decide +kernel)
set_option maxRecDepth 65536 in
theorem w_c10 : (Jvm.Cond.code ({ cls := "java/lang/String", name := "<init>", desc := "([BB)V" } : Jvm.MethodName) jdk_42_method_151_code (3 : Nat) (Option.none : Option Jvm.ClassFile.FieldType)).before args0 about1 = true := code_word (m := ⟨7, 4⟩) (meth := k7m4) (c := k7c4) (by decide +kernel) rfl rfl rfl (by decide +kernel)
set_option maxRecDepth 65536 in
theorem w_c11 : (Jvm.Cond.code ({ cls := "java/util/ArrayList", name := "<init>", desc := "()V" } : Jvm.MethodName) jdk_38_method_2_code (1 : Nat) (Option.none : Option Jvm.ClassFile.FieldType)).before args0 about1 = true := code_word (m := ⟨18, 0⟩) (meth := k18m0) (c := k18c0) (by decide +kernel) rfl rfl rfl (by decide +kernel)
set_option maxRecDepth 65536 in
theorem w_c12 : (Jvm.Cond.code ({ cls := "java/util/AbstractList", name := "<init>", desc := "()V" } : Jvm.MethodName) jdk_39_method_1_code (1 : Nat) (Option.none : Option Jvm.ClassFile.FieldType)).before args0 about1 = true := code_word (m := ⟨15, 0⟩) (meth := k15m0) (c := k15c0) (by decide +kernel) rfl rfl rfl (by decide +kernel)
set_option maxRecDepth 65536 in
theorem w_c13 : (Jvm.Cond.code ({ cls := "java/util/AbstractCollection", name := "<init>", desc := "()V" } : Jvm.MethodName) jdk_22_method_1_code (1 : Nat) (Option.none : Option Jvm.ClassFile.FieldType)).before args0 about1 = true := code_word (m := ⟨12, 0⟩) (meth := k12m0) (c := k12c0) (by decide +kernel) rfl rfl rfl (by decide +kernel)
set_option maxRecDepth 65536 in
theorem w_c14 : (Jvm.Cond.code ({ cls := "java/util/ArrayList", name := "add", desc := "(Ljava/lang/Object;)Z" } : Jvm.MethodName) jdk_38_method_25_code (2 : Nat) (Option.some Jvm.ClassFile.FieldType.boolean)).before args0 about1 = true := code_word (m := ⟨18, 6⟩) (meth := k18m6) (c := k18c6) (by decide +kernel) rfl rfl rfl (by decide +kernel)
set_option maxRecDepth 65536 in
theorem w_c15 : (Jvm.Cond.code ({ cls := "java/util/ArrayList", name := "add", desc := "(Ljava/lang/Object;[Ljava/lang/Object;I)V" } : Jvm.MethodName) jdk_38_method_24_code (4 : Nat) (Option.none : Option Jvm.ClassFile.FieldType)).before args0 about1 = true := code_word (m := ⟨18, 5⟩) (meth := k18m5) (c := k18c5) (by decide +kernel) rfl rfl rfl (by decide +kernel)
set_option maxRecDepth 65536 in
theorem w_c16 : (Jvm.Cond.code ({ cls := "java/util/ArrayList", name := "grow", desc := "()[Ljava/lang/Object;" } : Jvm.MethodName) jdk_38_method_7_code (1 : Nat) (Option.some (Jvm.ClassFile.FieldType.array (Jvm.ClassFile.FieldType.object "java/lang/Object")))).before args0 about1 = true := code_word (m := ⟨18, 2⟩) (meth := k18m2) (c := k18c2) (by decide +kernel) rfl rfl rfl (by decide +kernel)
set_option maxRecDepth 65536 in
theorem w_c17 : (Jvm.Cond.code ({ cls := "java/util/ArrayList", name := "grow", desc := "(I)[Ljava/lang/Object;" } : Jvm.MethodName) jdk_38_method_6_code (4 : Nat) (Option.some (Jvm.ClassFile.FieldType.array (Jvm.ClassFile.FieldType.object "java/lang/Object")))).before args0 about1 = true := code_word (m := ⟨18, 1⟩) (meth := k18m1) (c := k18c1) (by decide +kernel) rfl rfl rfl (by decide +kernel)
set_option maxRecDepth 65536 in
theorem w_c18 : (Jvm.Cond.code ({ cls := "java/lang/Math", name := "max", desc := "(II)I" } : Jvm.MethodName) jdk_29_method_65_code (2 : Nat) (Option.some Jvm.ClassFile.FieldType.int)).before args0 about1 = true := code_word (m := ⟨19, 1⟩) (meth := k19m1) (c := k19c1) (by decide +kernel) rfl rfl rfl (by decide +kernel)
set_option maxRecDepth 65536 in
theorem w_c19 : (Jvm.Cond.code ({ cls := "com/example/hinagata/hinagata/DigestComparison", name := "<init>", desc := "(Ljava/util/List;Ljava/util/List;)V" } : Jvm.MethodName) prog_5_method_1_code (3 : Nat) (Option.none : Option Jvm.ClassFile.FieldType)).before args0 about1 = true := code_word (m := ⟨21, 0⟩) (meth := k21m0) (c := k21c0) (by decide +kernel) rfl rfl rfl (by decide +kernel)
set_option maxRecDepth 65536 in
theorem w_c20 : (Jvm.Cond.code ({ cls := "java/lang/Record", name := "<init>", desc := "()V" } : Jvm.MethodName) jdk_30_method_1_code (1 : Nat) (Option.none : Option Jvm.ClassFile.FieldType)).before args0 about1 = true := code_word (m := ⟨20, 0⟩) (meth := k20m0) (c := k20c0) (by decide +kernel) rfl rfl rfl (by decide +kernel)
set_option maxRecDepth 65536 in
theorem w_c21 : (Jvm.Cond.code ({ cls := "java/util/List", name := "copyOf", desc := "(Ljava/util/Collection;)Ljava/util/List;" } : Jvm.MethodName) jdk_40_method_48_code (1 : Nat) (Option.some (Jvm.ClassFile.FieldType.object "java/util/List"))).before args0 about1 = true := code_word (m := ⟨14, 3⟩) (meth := k14m3) (c := k14c3) (by decide +kernel) rfl rfl rfl (by decide +kernel)
set_option maxRecDepth 65536 in
theorem w_c22 : (Jvm.Cond.code ({ cls := "java/util/ImmutableCollections", name := "listCopy", desc := "(Ljava/util/Collection;)Ljava/util/List;" } : Jvm.MethodName) jdk_56_method_3_code (2 : Nat) (Option.some (Jvm.ClassFile.FieldType.object "java/util/List"))).before args0 about1 = true := code_word (m := ⟨22, 1⟩) (meth := k22m1) (c := k22c1) (by decide +kernel) rfl rfl rfl (by decide +kernel)
set_option maxRecDepth 65536 in
theorem w_c23 : (Jvm.Cond.code ({ cls := "java/util/ArrayList", name := "isEmpty", desc := "()Z" } : Jvm.MethodName) jdk_38_method_9_code (1 : Nat) (Option.some Jvm.ClassFile.FieldType.boolean)).before args0 about1 = true := code_word (m := ⟨18, 3⟩) (meth := k18m3) (c := k18c3) (by decide +kernel) rfl rfl rfl (by decide +kernel)
set_option maxRecDepth 65536 in
theorem w_c24 : (Jvm.Cond.code ({ cls := "java/util/List", name := "of", desc := "()Ljava/util/List;" } : Jvm.MethodName) jdk_40_method_36_code (0 : Nat) (Option.some (Jvm.ClassFile.FieldType.object "java/util/List"))).before args0 about1 = true := code_word (m := ⟨14, 1⟩) (meth := k14m1) (c := k14c1) (by decide +kernel) rfl rfl rfl (by decide +kernel)
set_option maxRecDepth 65536 in
theorem w_c25 : (Jvm.Cond.code ({ cls := "java/util/ArrayList", name := "toArray", desc := "()[Ljava/lang/Object;" } : Jvm.MethodName) jdk_38_method_16_code (1 : Nat) (Option.some (Jvm.ClassFile.FieldType.array (Jvm.ClassFile.FieldType.object "java/lang/Object")))).before args0 about1 = true := code_word (m := ⟨18, 4⟩) (meth := k18m4) (c := k18c4) (by decide +kernel) rfl rfl rfl (by decide +kernel)
set_option maxRecDepth 65536 in
theorem w_c26 : (Jvm.Cond.code ({ cls := "java/util/Arrays", name := "copyOf", desc := "([Ljava/lang/Object;I)[Ljava/lang/Object;" } : Jvm.MethodName) jdk_65_method_119_code (2 : Nat) (Option.some (Jvm.ClassFile.FieldType.array (Jvm.ClassFile.FieldType.object "java/lang/Object")))).before args0 about1 = true := code_word (m := ⟨27, 1⟩) (meth := k27m1) (c := k27c1) (by decide +kernel) rfl rfl rfl (by decide +kernel)
set_option maxRecDepth 65536 in
theorem w_c27 : (Jvm.Cond.code ({ cls := "java/util/Arrays", name := "copyOf", desc := "([Ljava/lang/Object;ILjava/lang/Class;)[Ljava/lang/Object;" } : Jvm.MethodName) jdk_65_method_120_code (4 : Nat) (Option.some (Jvm.ClassFile.FieldType.array (Jvm.ClassFile.FieldType.object "java/lang/Object")))).before args0 about1 = true := code_word (m := ⟨27, 2⟩) (meth := k27m2) (c := k27c2) (by decide +kernel) rfl rfl rfl (by decide +kernel)
set_option maxRecDepth 65536 in
theorem w_c28 : (Jvm.Cond.code ({ cls := "java/lang/Math", name := "min", desc := "(II)I" } : Jvm.MethodName) jdk_29_method_69_code (2 : Nat) (Option.some Jvm.ClassFile.FieldType.int)).before args0 about1 = true := code_word (m := ⟨19, 2⟩) (meth := k19m2) (c := k19c2) (by decide +kernel) rfl rfl rfl (by decide +kernel)
set_option maxRecDepth 65536 in
theorem w_c29 : (Jvm.Cond.code ({ cls := "java/util/List", name := "of", desc := "([Ljava/lang/Object;)Ljava/util/List;" } : Jvm.MethodName) jdk_40_method_47_code (2 : Nat) (Option.some (Jvm.ClassFile.FieldType.object "java/util/List"))).before args0 about1 = true := code_word (m := ⟨14, 2⟩) (meth := k14m2) (c := k14c2) (by decide +kernel) rfl rfl rfl (by decide +kernel)
set_option maxRecDepth 65536 in
theorem w_c30 : (Jvm.Cond.code ({ cls := "java/util/ImmutableCollections", name := "listFromArray", desc := "([Ljava/lang/Object;)Ljava/util/List;" } : Jvm.MethodName) jdk_56_method_4_code (3 : Nat) (Option.some (Jvm.ClassFile.FieldType.object "java/util/List"))).before args0 about1 = true := code_word (m := ⟨22, 2⟩) (meth := k22m2) (c := k22c2) (by decide +kernel) rfl rfl rfl (by decide +kernel)
set_option maxRecDepth 65536 in
theorem w_c31 : (Jvm.Cond.code ({ cls := "java/util/Objects", name := "requireNonNull", desc := "(Ljava/lang/Object;)Ljava/lang/Object;" } : Jvm.MethodName) jdk_31_method_10_code (1 : Nat) (Option.some (Jvm.ClassFile.FieldType.object "java/lang/Object"))).before args0 about1 = true := code_word (m := ⟨29, 1⟩) (meth := k29m1) (c := k29c1) (by decide +kernel) rfl rfl rfl (by decide +kernel)
set_option maxRecDepth 65536 in
theorem w_c32 : (Jvm.Cond.code ({ cls := "java/util/ImmutableCollections$ListN", name := "<init>", desc := "([Ljava/lang/Object;Z)V" } : Jvm.MethodName) jdk_45_method_1_code (3 : Nat) (Option.none : Option Jvm.ClassFile.FieldType)).before args0 about1 = true := code_word (m := ⟨26, 0⟩) (meth := k26m0) (c := k26c0) (by decide +kernel) rfl rfl rfl (by decide +kernel)
set_option maxRecDepth 65536 in
theorem w_c33 : (Jvm.Cond.code ({ cls := "java/util/ImmutableCollections$AbstractImmutableList", name := "<init>", desc := "()V" } : Jvm.MethodName) jdk_46_method_1_code (1 : Nat) (Option.none : Option Jvm.ClassFile.FieldType)).before args0 about1 = true := code_word (m := ⟨24, 0⟩) (meth := k24m0) (c := k24c0) (by decide +kernel) rfl rfl rfl (by decide +kernel)
set_option maxRecDepth 65536 in
theorem w_c34 : (Jvm.Cond.code ({ cls := "java/util/ImmutableCollections$AbstractImmutableCollection", name := "<init>", desc := "()V" } : Jvm.MethodName) jdk_47_method_1_code (1 : Nat) (Option.none : Option Jvm.ClassFile.FieldType)).before args0 about1 = true := code_word (m := ⟨23, 0⟩) (meth := k23m0) (c := k23c0) (by decide +kernel) rfl rfl rfl (by decide +kernel)
set_option maxRecDepth 65536 in
theorem w_c35 : (Jvm.Cond.code ({ cls := "com/example/hinagata/hinagata/DigestComparison", name := "matches", desc := "()Z" } : Jvm.MethodName) prog_5_method_3_code (1 : Nat) (Option.some Jvm.ClassFile.FieldType.boolean)).before args0 about1 = true := code_word (m := ⟨21, 1⟩) (meth := k21m1) (c := k21c1) (by decide +kernel) rfl rfl rfl (by decide +kernel)
set_option maxRecDepth 65536 in
theorem w_c36 : (Jvm.Cond.code ({ cls := "java/util/ImmutableCollections$ListN", name := "isEmpty", desc := "()Z" } : Jvm.MethodName) jdk_45_method_2_code (1 : Nat) (Option.some Jvm.ClassFile.FieldType.boolean)).before args0 about1 = true := code_word (m := ⟨26, 1⟩) (meth := k26m1) (c := k26c1) (by decide +kernel) rfl rfl rfl (by decide +kernel)
set_option maxRecDepth 65536 in
theorem w_c37 : (Jvm.Cond.code ({ cls := "java/util/ImmutableCollections$List12", name := "<init>", desc := "(Ljava/lang/Object;Ljava/lang/Object;)V" } : Jvm.MethodName) jdk_44_method_2_code (3 : Nat) (Option.none : Option Jvm.ClassFile.FieldType)).before args0 about1 = true := code_word (m := ⟨25, 1⟩) (meth := k25m1) (c := k25c1) (by decide +kernel) rfl rfl rfl (by decide +kernel)
set_option maxRecDepth 65536 in
theorem w_c38 : (Jvm.Cond.code ({ cls := "java/util/ImmutableCollections$List12", name := "isEmpty", desc := "()Z" } : Jvm.MethodName) jdk_44_method_4_code (1 : Nat) (Option.some Jvm.ClassFile.FieldType.boolean)).before args0 about1 = true := code_word (m := ⟨25, 2⟩) (meth := k25m2) (c := k25c2) (by decide +kernel) rfl rfl rfl (by decide +kernel)
set_option maxRecDepth 65536 in
theorem w_c39 : (Jvm.Cond.code ({ cls := "java/util/ImmutableCollections$List12", name := "<init>", desc := "(Ljava/lang/Object;)V" } : Jvm.MethodName) jdk_44_method_1_code (2 : Nat) (Option.none : Option Jvm.ClassFile.FieldType)).before args0 about1 = true := code_word (m := ⟨25, 0⟩) (meth := k25m0) (c := k25c0) (by decide +kernel) rfl rfl rfl (by decide +kernel)
def codes1 : List Jvm.Cond := [Jvm.Cond.code x code maxLocals ret, Jvm.Cond.code ({ cls := "java/lang/String", name := "<init>", desc := "([C)V" } : Jvm.MethodName) jdk_42_method_3_code (2 : Nat) (Option.none : Option Jvm.ClassFile.FieldType), Jvm.Cond.code ({ cls := "java/lang/String", name := "<init>", desc := "([CIILjava/lang/Void;)V" } : Jvm.MethodName) jdk_42_method_149_code (6 : Nat) (Option.none : Option Jvm.ClassFile.FieldType), Jvm.Cond.code ({ cls := "java/lang/Object", name := "<init>", desc := "()V" } : Jvm.MethodName) object_method_1_code (1 : Nat) (Option.none : Option Jvm.ClassFile.FieldType), Jvm.Cond.code ({ cls := "java/lang/StringUTF16", name := "compress", desc := "([CII)[B" } : Jvm.MethodName) jdk_52_method_16_code (6 : Nat) (Option.some (Jvm.ClassFile.FieldType.array Jvm.ClassFile.FieldType.byte)), Jvm.Cond.code ({ cls := "java/lang/StringUTF16", name := "compress", desc := "([CI[BII)I" } : Jvm.MethodName) jdk_52_method_21_code (7 : Nat) (Option.some Jvm.ClassFile.FieldType.int), Jvm.Cond.code ({ cls := "java/lang/StringUTF16", name := "coderFromArrayLen", desc := "([BI)B" } : Jvm.MethodName) jdk_52_method_15_code (2 : Nat) (Option.some Jvm.ClassFile.FieldType.byte), Jvm.Cond.code ({ cls := "java/lang/String", name := "valueOf", desc := "(C)Ljava/lang/String;" } : Jvm.MethodName) jdk_42_method_139_code (1 : Nat) (Option.some (Jvm.ClassFile.FieldType.object "java/lang/String")), Jvm.Cond.code ({ cls := "java/lang/StringLatin1", name := "canEncode", desc := "(C)Z" } : Jvm.MethodName) jdk_43_method_3_code (1 : Nat) (Option.some Jvm.ClassFile.FieldType.boolean), Jvm.Cond.code ({ cls := "java/lang/StringLatin1", name := "toBytes", desc := "(C)[B" } : Jvm.MethodName) jdk_43_method_46_code (1 : Nat) (Option.some (Jvm.ClassFile.FieldType.array Jvm.ClassFile.FieldType.byte)), Jvm.Cond.code ({ cls := "java/lang/String", name := "<init>", desc := "([BB)V" } : Jvm.MethodName) jdk_42_method_151_code (3 : Nat) (Option.none : Option Jvm.ClassFile.FieldType), Jvm.Cond.code ({ cls := "java/util/ArrayList", name := "<init>", desc := "()V" } : Jvm.MethodName) jdk_38_method_2_code (1 : Nat) (Option.none : Option Jvm.ClassFile.FieldType), Jvm.Cond.code ({ cls := "java/util/AbstractList", name := "<init>", desc := "()V" } : Jvm.MethodName) jdk_39_method_1_code (1 : Nat) (Option.none : Option Jvm.ClassFile.FieldType), Jvm.Cond.code ({ cls := "java/util/AbstractCollection", name := "<init>", desc := "()V" } : Jvm.MethodName) jdk_22_method_1_code (1 : Nat) (Option.none : Option Jvm.ClassFile.FieldType), Jvm.Cond.code ({ cls := "java/util/ArrayList", name := "add", desc := "(Ljava/lang/Object;)Z" } : Jvm.MethodName) jdk_38_method_25_code (2 : Nat) (Option.some Jvm.ClassFile.FieldType.boolean), Jvm.Cond.code ({ cls := "java/util/ArrayList", name := "add", desc := "(Ljava/lang/Object;[Ljava/lang/Object;I)V" } : Jvm.MethodName) jdk_38_method_24_code (4 : Nat) (Option.none : Option Jvm.ClassFile.FieldType), Jvm.Cond.code ({ cls := "java/util/ArrayList", name := "grow", desc := "()[Ljava/lang/Object;" } : Jvm.MethodName) jdk_38_method_7_code (1 : Nat) (Option.some (Jvm.ClassFile.FieldType.array (Jvm.ClassFile.FieldType.object "java/lang/Object"))), Jvm.Cond.code ({ cls := "java/util/ArrayList", name := "grow", desc := "(I)[Ljava/lang/Object;" } : Jvm.MethodName) jdk_38_method_6_code (4 : Nat) (Option.some (Jvm.ClassFile.FieldType.array (Jvm.ClassFile.FieldType.object "java/lang/Object"))), Jvm.Cond.code ({ cls := "java/lang/Math", name := "max", desc := "(II)I" } : Jvm.MethodName) jdk_29_method_65_code (2 : Nat) (Option.some Jvm.ClassFile.FieldType.int), Jvm.Cond.code ({ cls := "com/example/hinagata/hinagata/DigestComparison", name := "<init>", desc := "(Ljava/util/List;Ljava/util/List;)V" } : Jvm.MethodName) prog_5_method_1_code (3 : Nat) (Option.none : Option Jvm.ClassFile.FieldType), Jvm.Cond.code ({ cls := "java/lang/Record", name := "<init>", desc := "()V" } : Jvm.MethodName) jdk_30_method_1_code (1 : Nat) (Option.none : Option Jvm.ClassFile.FieldType), Jvm.Cond.code ({ cls := "java/util/List", name := "copyOf", desc := "(Ljava/util/Collection;)Ljava/util/List;" } : Jvm.MethodName) jdk_40_method_48_code (1 : Nat) (Option.some (Jvm.ClassFile.FieldType.object "java/util/List")), Jvm.Cond.code ({ cls := "java/util/ImmutableCollections", name := "listCopy", desc := "(Ljava/util/Collection;)Ljava/util/List;" } : Jvm.MethodName) jdk_56_method_3_code (2 : Nat) (Option.some (Jvm.ClassFile.FieldType.object "java/util/List")), Jvm.Cond.code ({ cls := "java/util/ArrayList", name := "isEmpty", desc := "()Z" } : Jvm.MethodName) jdk_38_method_9_code (1 : Nat) (Option.some Jvm.ClassFile.FieldType.boolean), Jvm.Cond.code ({ cls := "java/util/List", name := "of", desc := "()Ljava/util/List;" } : Jvm.MethodName) jdk_40_method_36_code (0 : Nat) (Option.some (Jvm.ClassFile.FieldType.object "java/util/List")), Jvm.Cond.code ({ cls := "java/util/ArrayList", name := "toArray", desc := "()[Ljava/lang/Object;" } : Jvm.MethodName) jdk_38_method_16_code (1 : Nat) (Option.some (Jvm.ClassFile.FieldType.array (Jvm.ClassFile.FieldType.object "java/lang/Object"))), Jvm.Cond.code ({ cls := "java/util/Arrays", name := "copyOf", desc := "([Ljava/lang/Object;I)[Ljava/lang/Object;" } : Jvm.MethodName) jdk_65_method_119_code (2 : Nat) (Option.some (Jvm.ClassFile.FieldType.array (Jvm.ClassFile.FieldType.object "java/lang/Object"))), Jvm.Cond.code ({ cls := "java/util/Arrays", name := "copyOf", desc := "([Ljava/lang/Object;ILjava/lang/Class;)[Ljava/lang/Object;" } : Jvm.MethodName) jdk_65_method_120_code (4 : Nat) (Option.some (Jvm.ClassFile.FieldType.array (Jvm.ClassFile.FieldType.object "java/lang/Object"))), Jvm.Cond.code ({ cls := "java/lang/Math", name := "min", desc := "(II)I" } : Jvm.MethodName) jdk_29_method_69_code (2 : Nat) (Option.some Jvm.ClassFile.FieldType.int), Jvm.Cond.code ({ cls := "java/util/List", name := "of", desc := "([Ljava/lang/Object;)Ljava/util/List;" } : Jvm.MethodName) jdk_40_method_47_code (2 : Nat) (Option.some (Jvm.ClassFile.FieldType.object "java/util/List")), Jvm.Cond.code ({ cls := "java/util/ImmutableCollections", name := "listFromArray", desc := "([Ljava/lang/Object;)Ljava/util/List;" } : Jvm.MethodName) jdk_56_method_4_code (3 : Nat) (Option.some (Jvm.ClassFile.FieldType.object "java/util/List")), Jvm.Cond.code ({ cls := "java/util/Objects", name := "requireNonNull", desc := "(Ljava/lang/Object;)Ljava/lang/Object;" } : Jvm.MethodName) jdk_31_method_10_code (1 : Nat) (Option.some (Jvm.ClassFile.FieldType.object "java/lang/Object")), Jvm.Cond.code ({ cls := "java/util/ImmutableCollections$ListN", name := "<init>", desc := "([Ljava/lang/Object;Z)V" } : Jvm.MethodName) jdk_45_method_1_code (3 : Nat) (Option.none : Option Jvm.ClassFile.FieldType), Jvm.Cond.code ({ cls := "java/util/ImmutableCollections$AbstractImmutableList", name := "<init>", desc := "()V" } : Jvm.MethodName) jdk_46_method_1_code (1 : Nat) (Option.none : Option Jvm.ClassFile.FieldType), Jvm.Cond.code ({ cls := "java/util/ImmutableCollections$AbstractImmutableCollection", name := "<init>", desc := "()V" } : Jvm.MethodName) jdk_47_method_1_code (1 : Nat) (Option.none : Option Jvm.ClassFile.FieldType), Jvm.Cond.code ({ cls := "com/example/hinagata/hinagata/DigestComparison", name := "matches", desc := "()Z" } : Jvm.MethodName) prog_5_method_3_code (1 : Nat) (Option.some Jvm.ClassFile.FieldType.boolean), Jvm.Cond.code ({ cls := "java/util/ImmutableCollections$ListN", name := "isEmpty", desc := "()Z" } : Jvm.MethodName) jdk_45_method_2_code (1 : Nat) (Option.some Jvm.ClassFile.FieldType.boolean), Jvm.Cond.code ({ cls := "java/util/ImmutableCollections$List12", name := "<init>", desc := "(Ljava/lang/Object;Ljava/lang/Object;)V" } : Jvm.MethodName) jdk_44_method_2_code (3 : Nat) (Option.none : Option Jvm.ClassFile.FieldType), Jvm.Cond.code ({ cls := "java/util/ImmutableCollections$List12", name := "isEmpty", desc := "()Z" } : Jvm.MethodName) jdk_44_method_4_code (1 : Nat) (Option.some Jvm.ClassFile.FieldType.boolean), Jvm.Cond.code ({ cls := "java/util/ImmutableCollections$List12", name := "<init>", desc := "(Ljava/lang/Object;)V" } : Jvm.MethodName) jdk_44_method_1_code (2 : Nat) (Option.none : Option Jvm.ClassFile.FieldType)]
set_option maxRecDepth 65536 in
theorem codes_eq : words1.filter isCode = codes1 := rfl
theorem w_codes : ∀ c ∈ words1.filter isCode, c.before args0 about1 = true := by
  rw [codes_eq]
  intro c hc
  simp only [codes1, List.mem_cons, List.not_mem_nil, or_false] at hc
  rcases hc with rfl | rfl | rfl | rfl | rfl | rfl | rfl | rfl | rfl | rfl | rfl | rfl | rfl | rfl | rfl | rfl | rfl | rfl | rfl | rfl | rfl | rfl | rfl | rfl | rfl | rfl | rfl | rfl | rfl | rfl | rfl | rfl | rfl | rfl | rfl | rfl | rfl | rfl | rfl | rfl
  · exact w_c0
  · exact w_c1
  · exact w_c2
  · exact w_c3
  · exact w_c4
  · exact w_c5
  · exact w_c6
  · exact w_c7
  · exact w_c8
  · exact w_c9
  · exact w_c10
  · exact w_c11
  · exact w_c12
  · exact w_c13
  · exact w_c14
  · exact w_c15
  · exact w_c16
  · exact w_c17
  · exact w_c18
  · exact w_c19
  · exact w_c20
  · exact w_c21
  · exact w_c22
  · exact w_c23
  · exact w_c24
  · exact w_c25
  · exact w_c26
  · exact w_c27
  · exact w_c28
  · exact w_c29
  · exact w_c30
  · exact w_c31
  · exact w_c32
  · exact w_c33
  · exact w_c34
  · exact w_c35
  · exact w_c36
  · exact w_c37
  · exact w_c38
  · exact w_c39
set_option maxRecDepth 65536 in
theorem w_t1 : (words1.take 24).all (fun c => isCode c || c.before args0 about1) = true := by decide +kernel
set_option maxRecDepth 65536 in
theorem w_t2 : ((words1.drop 24).take 24).all (fun c => isCode c || c.before args0 about1) = true := by decide +kernel
set_option maxRecDepth 65536 in
theorem w_t3 : (((words1.drop 24).drop 24).take 24).all (fun c => isCode c || c.before args0 about1) = true := by decide +kernel
set_option maxRecDepth 65536 in
theorem w_t4 : ((((words1.drop 24).drop 24).drop 24).take 24).all (fun c => isCode c || c.before args0 about1) = true := by decide +kernel
set_option maxRecDepth 65536 in
theorem w_t5 : (((((words1.drop 24).drop 24).drop 24).drop 24).take 24).all (fun c => isCode c || c.before args0 about1) = true := by decide +kernel
set_option maxRecDepth 65536 in
theorem w_t6 : ((((((words1.drop 24).drop 24).drop 24).drop 24).drop 24).take 24).all (fun c => isCode c || c.before args0 about1) = true := by decide +kernel
set_option maxRecDepth 65536 in
theorem w_t7 : (((((((words1.drop 24).drop 24).drop 24).drop 24).drop 24).drop 24).take 24).all (fun c => isCode c || c.before args0 about1) = true := by decide +kernel
set_option maxRecDepth 65536 in
theorem w_t8 : ((((((((words1.drop 24).drop 24).drop 24).drop 24).drop 24).drop 24).drop 24).take 24).all (fun c => isCode c || c.before args0 about1) = true := by decide +kernel
set_option maxRecDepth 65536 in
theorem w_t9 : (((((((((words1.drop 24).drop 24).drop 24).drop 24).drop 24).drop 24).drop 24).drop 24).take 24).all (fun c => isCode c || c.before args0 about1) = true := by decide +kernel
set_option maxRecDepth 65536 in
theorem w_t10 : ((((((((((words1.drop 24).drop 24).drop 24).drop 24).drop 24).drop 24).drop 24).drop 24).drop 24).take 24).all (fun c => isCode c || c.before args0 about1) = true := by decide +kernel
set_option maxRecDepth 65536 in
theorem w_t11 : ((((((((((words1.drop 24).drop 24).drop 24).drop 24).drop 24).drop 24).drop 24).drop 24).drop 24).drop 24).all (fun c => isCode c || c.before args0 about1) = true := by decide +kernel
theorem w_tables : (allAtoms (Jvm.Cond.code x code maxLocals ret :: tables_1)).before args0 about1 = true := by
  rw [allAtoms_all]
  show words1.all (fun c => c.before args0 about1) = true
  refine all_split ?_ w_codes
  rw [← List.take_append_drop 24 words1, List.all_append, w_t1, ← List.take_append_drop 24 (words1.drop 24), List.all_append, w_t2, ← List.take_append_drop 24 ((words1.drop 24).drop 24), List.all_append, w_t3, ← List.take_append_drop 24 (((words1.drop 24).drop 24).drop 24), List.all_append, w_t4, ← List.take_append_drop 24 ((((words1.drop 24).drop 24).drop 24).drop 24), List.all_append, w_t5, ← List.take_append_drop 24 (((((words1.drop 24).drop 24).drop 24).drop 24).drop 24), List.all_append, w_t6, ← List.take_append_drop 24 ((((((words1.drop 24).drop 24).drop 24).drop 24).drop 24).drop 24), List.all_append, w_t7, ← List.take_append_drop 24 (((((((words1.drop 24).drop 24).drop 24).drop 24).drop 24).drop 24).drop 24), List.all_append, w_t8, ← List.take_append_drop 24 ((((((((words1.drop 24).drop 24).drop 24).drop 24).drop 24).drop 24).drop 24).drop 24), List.all_append, w_t9, ← List.take_append_drop 24 (((((((((words1.drop 24).drop 24).drop 24).drop 24).drop 24).drop 24).drop 24).drop 24).drop 24), List.all_append, w_t10, w_t11]
  rfl
set_option maxRecDepth 65536 in
theorem w_rest : rest_1_c.before args0 about1 = true := by decide +kernel
set_option maxRecDepth 65536 in
theorem w_case : (Jvm.Cond.and given_1 narrow_1).before args0 about1 = true := by decide +kernel
set_option maxRecDepth 65536 in
theorem w_consts : constsHeld consts_1 about1 := Jvm.Lit.constsHeldB_iff.mp (by decide +kernel)
theorem w_applies : (headSpec (Jvm.Cond.code x code maxLocals ret :: tables_1) room_1).applies x e0.platform about1 = true :=
  (Spec.applies_iff w_frames).mpr ⟨w_running, w_runnable, w_alone, w_named, w_hears, w_ripe, w_room, w_tables⟩
theorem atStart : AtStart classFile x code maxLocals ret World_1 tables_1 room_1 Calls_1 rest_1 Pre_1 launch0 p0 e0 about1 theMethod args0 below0 :=
  ⟨lists_1, trivial, launch0.admits_env _ _ _, launch0.least_env, fairChoices_fair.cas, fairChoices_fair.clock, w_frames, w_args, w_heap, w_applies, ⟨⟨39, k39, 4, by decide +kernel, rfl, rfl, _, rfl, rfl⟩, ⟨w_consts, trivial⟩⟩, w_rest, w_case⟩
end start1
theorem witness_1 : WitnessClaimed_1 := ⟨start1.p0, start1.e0, start1.about1, start1.theMethod, start1.args0, start1.below0, start1.atStart⟩
end Jvm.Pilot.@@N@@
